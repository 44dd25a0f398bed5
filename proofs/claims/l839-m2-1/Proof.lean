import JvmDerived
import JvmDerived.Pilot.@@N@@Statement
import JvmDerived.Pilot.@@N@@Code
set_option linter.unusedVariables false
set_option linter.unusedSimpArgs false
namespace Jvm.Own
open Sem ClassFile Op Lib Jvm.Stand Jvm.Free Jvm.LawKit Jvm.RoadKit Bundle
section K
variable {p : Program} {l : Launch} {e : Env} {R : Room} {s : State} {m : MethodId} {args : Array Value} {below : List Frame} {meth : Method} {c : Code} {Z : State} {a0 : Array Value} {EL : List (String × Nat)} {pr : Bool} {y : MethodName} {bs : ByteArray} {ml : Nat} {rt : Option FieldType} {T : State} {vm0 : Vm} {h : Heap} {k n : Nat} {Φ : Outcome → State → Prop} {Ls : Array Slot} {st : List Value} {pc q : Nat}
/-- from U the run comes to its end, and Φ holds there -/
def Go (p : Program) (e : Env) (below : List Frame) (Φ : Outcome → State → Prop) (U : State) : Prop := ∃ s₂ o, Steps p.tables e below U s₂ ∧ s₂.status = .running ∧ Ended s₂ below o ∧ Φ o s₂
theorem Go.pre {U U' : State} (hr : Go p e below Φ U') (g : ∀ t, Steps p.tables e below U' t → Steps p.tables e below U t) : Go p e below Φ U := by
  obtain ⟨s2, o, h1, r⟩ := hr; exact ⟨s2, o, g _ h1, r⟩
theorem Go.pre' {U U' : State} (hr : Go p e below Φ U') (g : Steps p.tables e below U U') : Go p e below Φ U := hr.pre fun _ r => g.trans r
/-- where a walk stands: the tables vm0 since the last step that may have interned; only new places were written; what the start's heap held stands -/
def Wk (p : Program) (l : Launch) (e : Env) (R : Room) (s : State) (m : MethodId) (args : Array Value) (below : List Frame) (meth : Method) (c : Code) (Z : State) (a0 : Array Value) (EL : List (String × Nat)) (pr : Bool) (y : MethodName) (bs : ByteArray) (ml : Nat) (rt : Option FieldType) (T : State) (vm0 : Vm) (h : Heap) (k n : Nat) : Prop :=
  (p.tables.exec = Jvm.exec ∧ c.code = bs ∧ c.maxLocals = ml ∧ meth.sig.returnType = rt ∧ meth.locks = false ∧ meth.name = y.name ∧ EW Z a0 EL) ∧
  ∃ (k0 : Nat) (locs : List Loc), Stand p l e R (s.setVm vm0) m args below meth c T locs k n ∧ T.heap = h ∧ Z.Warmed39 vm0 ∧ vm0.findClass y.cls = some m.cls ∧ s.Since vm0 k0 ∧ k0 ≤ h.size ∧ Fr Z.heap.size locs ∧ CHr Z EL s.vm s.heap vm0 h ∧ Ext Z.heap h ∧ (pr = true → s.WarmedH vm0)
abbrev WkT (p : Program) (l : Launch) (e : Env) (R : Room) (s : State) (m : MethodId) (args : Array Value) (below : List Frame) (meth : Method) (c : Code) (Z : State) (a0 : Array Value) (EL : List (String × Nat)) (pr : Bool) (y : MethodName) (bs : ByteArray) (ml : Nat) (rt : Option FieldType) := Wk p l e R s m args below meth c Z a0 EL pr y bs ml rt
theorem Wk.here (w : Wk p l e R s m args below meth c Z a0 EL pr y bs ml rt T vm0 h k n) : At T m c below := by obtain ⟨-, _, _, X, -⟩ := w; exact X.here
theorem Wk.hx (w : Wk p l e R s m args below meth c Z a0 EL pr y bs ml rt T vm0 h k n) : p.tables.exec = Jvm.exec := w.1.1
theorem Wk.b (w : Wk p l e R s m args below meth c Z a0 EL pr y bs ml rt T vm0 h k n) {r : Except DecodeError (Instr × Nat)} (hd : decode bs pc = r) : decode c.code pc = r := hb w.1.2.1 hd
theorem Wk.old (w : Wk p l e R s m args below meth c Z a0 EL pr y bs ml rt T vm0 h k n) : Ext Z.heap h := by obtain ⟨-, _, _, -, -, -, -, -, -, -, -, O, -⟩ := w; exact O
theorem Wk.wz (w : Wk p l e R s m args below meth c Z a0 EL pr y bs ml rt T vm0 h k n) : Z.Warmed39 vm0 := by obtain ⟨-, _, _, -, -, hZ, -⟩ := w; exact hZ
theorem Wk.chv (w : Wk p l e R s m args below meth c Z a0 EL pr y bs ml rt T vm0 h k n) : CHv Z EL vm0 h := by obtain ⟨-, _, _, -, -, -, -, -, -, -, C, -⟩ := w; exact C.1
theorem Wk.safe (w : Wk p l e R s m args below meth c Z a0 EL pr y bs ml rt T vm0 h k n) {a : Addr} {C : String} (E : Exa Z h a C) (h1 : C ≠ "java/lang/String") (h2 : C ≠ "[B") : Safe Z EL vm0 h a := Safe.exa w.wz.alike E h1 h2
/-- how a body ends: it returned v, Q holds of v and the heap -/
def Fini (Z : State) (EL : List (String × Nat)) (pr : Bool) (kc ks : Nat) (Q : Option Value → Heap → Prop) (s : State) (o : Outcome) (t : State) : Prop :=
  ∃ v L, o = .returned v ∧ Q v t.heap ∧ Ext Z.heap t.heap ∧ Fr Z.heap.size L ∧ CHr Z EL s.vm s.heap t.vm t.heap ∧ (pr = true → s.WarmedH t.vm) ∧ ReturnedEndW s o t L kc ks
/-- a body's contract: called with these arguments at the heap h it returns, and Q holds -/
def Con (l : Launch) (Z : State) (EL : List (String × Nat)) (pr : Bool) (y : MethodName) (bs : ByteArray) (ml : Nat) (rt : Option FieldType) (ws : List Cond) (rm : Room) (as' : Array Value) (sf : List Addr) (h : Heap) (Q : Option Value → Heap → Prop) : Prop :=
  MetFree l y (head1 (Cond.code y bs ml rt :: ws) rm) (fun a U => a = as' ∧ Z.Warmed39 U.vm ∧ U.heap = h ∧ CHv Z EL U.vm h ∧ ∀ x ∈ sf, Safe Z EL U.vm h x) (fun _ _ _ _ _ => True) (fun _ U o U' => Fini Z EL pr rm.cells rm.slots Q U o U')
theorem Con.intro {ws : List Cond} {rm : Room} {as' : Array Value} {sf : List Addr} {Q : Option Value → Heap → Prop} (hpl : plainFor y = true) (hEL : EW Z a0 EL) (hO : Ext Z.heap h) (hef : ∀ m, entryFrame m as' ml = mkF m 0 Ls [])
    (body : ∀ (p : Program) (e : Env) (s : State) (m : MethodId) (below : List Frame) (meth : Method) (c : Code) (T : State), Wk p l e rm s m as' below meth c Z a0 EL pr y bs ml rt T s.vm h 0 0 → (∀ x ∈ sf, Safe Z EL s.vm h x) → Go p e below (Fini Z EL pr rm.cells rm.slots Q s) (T.setTop (mkF m 0 Ls []))) :
    Con l Z EL pr y bs ml rt ws rm as' sf h Q := by
  refine MetFree.of_bodySF hpl hisR ?_
  intro p e s m args below meth c s₁ Bd hml0 hP hK
  obtain ⟨rfl, hZ, hh, hC, hsf⟩ := hP
  have X0 : Stand p l e rm s m args below meth c s₁ [] 0 0 := Stand.of_body Bd
  have e0 : s₁.heap = h := by rw [← hh, Bd.state]; rfl
  have hown : s.vm.findClass y.cls = some m.cls := findClass_of_methodNamed Bd.named
  have hnm := (name_of_methodNamed Bd.named Bd.method).1
  have w : Wk p l e rm s m args below meth c Z a0 EL pr y bs ml rt s₁ s.vm h 0 0 :=
    ⟨⟨Bd.exec, Bd.bytes, hml0, Bd.returns, Bd.notSynchronized, hnm, hEL⟩, h.size, [], X0, e0, hZ, hown, (State.WarmedH.refl s).since _, Nat.le_refl _, Fr.nil _, by subst hh; exact CHr.refl hC, hO, fun _ => State.WarmedH.refl s⟩
  have q := body p e s m below meth c s₁ w hsf
  rw [← hef] at q
  exact q
/-- the two ends of a walk joined -/
theorem Wk.fin (w : Wk p l e R s m args below meth c Z a0 EL pr y bs ml rt T vm0 h k n) {Q : Option Value → Heap → Prop} {v : Option Value} (hv : rt = none → v = none) (hk : k ≤ R.cells) (hn : n ≤ R.slots) (hQ : Q v h) :
    ∃ fs, (∀ (f : JFrame) (acts : List Action), f.method = m → f.locked = none → f.entered = [] → (doReturn e (T.setTop f) acts v).1 = T.setFrames fs) ∧ (T.setFrames fs).status = .running ∧ Ended (T.setFrames fs) below (.returned v) ∧ Fini Z EL pr R.cells R.slots Q s (.returned v) (T.setFrames fs) := by
  obtain ⟨⟨hx, hb1, hml, hrt, hlk, hnm, hEL⟩, k0, locs, X, rfl, hZ, hown, hS, hk0, N, C, O, hpr⟩ := w
  obtain ⟨fs, hr, hrun, hended, e1, e2, e3, e4⟩ := X.leaveW hS hk0 (v := v) (fun q => hv (hrt.symm.trans q)) hlk
  exact ⟨fs, hr, hrun, hended, v, locs, rfl, hQ, O, N, C.trans (show CHr Z EL vm0 T.heap T.vm T.heap from CHv.at X hZ hEL C.1), fun q => State.WarmedH.trans (t := s.setVm vm0) (hpr q) X.warmed, e1, e2, e3, e4.mono hk hn⟩
/-- a value is returned -/
theorem g_ret (w : Wk p l e R s m args below meth c Z a0 EL pr y bs ml rt T vm0 h k n) {Q : Option Value → Heap → Prop} {t : FieldType} {i : Instr} {v : Value} (hd : decode bs pc = .ok (i, 1)) (ht : rt = some t) (hn : narrow t v = v)
    (hi : (i = .ireturn ∧ (t = .int ∨ t = .boolean ∨ t = .byte ∨ t = .char ∨ t = .short) ∧ ∃ z, v = .int z) ∨ (i = .lreturn ∧ t = .long ∧ ∃ z, v = .long z) ∨ (i = .dreturn ∧ t = .double ∧ ∃ z, v = .double z) ∨ (i = .freturn ∧ t = .float ∧ ∃ z, v = .float z) ∨ (i = .areturn ∧ t.isReference = true ∧ v.isRef = true))
    (hk : k ≤ R.cells) (hn' : n ≤ R.slots) (hQ : Q (some v) h) : Go p e below (Fini Z EL pr R.cells R.slots Q s) (T.setTop (mkF m pc Ls (v :: st))) := by
  obtain ⟨fs, hr, hrun, hended, hf⟩ := w.fin (v := some v) (fun q => by rw [ht] at q; cases q) hk hn' hQ
  obtain ⟨⟨hx, hb1, hml, hrt, -⟩, _, _, X, -⟩ := w
  exact ⟨_, _, retOut X hx (hrt.trans ht) hn hi (hb hb1 hd) hr, hrun, hended, hf⟩
theorem g_reti (w : Wk p l e R s m args below meth c Z a0 EL pr y bs ml rt T vm0 h k n) {Q : Option Value → Heap → Prop} {z : Int32} (hd : decode bs pc = .ok (.ireturn, 1)) (ht : rt = some .int) (hk : k ≤ R.cells) (hn : n ≤ R.slots) (hQ : Q (some (.int z)) h) : Go p e below (Fini Z EL pr R.cells R.slots Q s) (T.setTop (mkF m pc Ls (.int z :: st))) :=
  g_ret w hd ht rfl (Or.inl ⟨rfl, Or.inl rfl, _, rfl⟩) hk hn hQ
theorem g_retl (w : Wk p l e R s m args below meth c Z a0 EL pr y bs ml rt T vm0 h k n) {Q : Option Value → Heap → Prop} {z : Int64} (hd : decode bs pc = .ok (.lreturn, 1)) (ht : rt = some .long) (hk : k ≤ R.cells) (hn : n ≤ R.slots) (hQ : Q (some (.long z)) h) : Go p e below (Fini Z EL pr R.cells R.slots Q s) (T.setTop (mkF m pc Ls (.long z :: st))) :=
  g_ret w hd ht rfl (Or.inr (Or.inl ⟨rfl, rfl, _, rfl⟩)) hk hn hQ
/-- a boolean, byte, char or short is returned: it is narrowed -/
theorem g_retn (w : Wk p l e R s m args below meth c Z a0 EL pr y bs ml rt T vm0 h k n) {Q : Option Value → Heap → Prop} {t : FieldType} {z z' : Int32} (hd : decode bs pc = .ok (.ireturn, 1)) (ht : rt = some t) (hs : t = .boolean ∨ t = .byte ∨ t = .char ∨ t = .short) (hz : nar t z = z') (hk : k ≤ R.cells) (hn : n ≤ R.slots) (hQ : Q (some (.int z')) h) :
    Go p e below (Fini Z EL pr R.cells R.slots Q s) (T.setTop (mkF m pc Ls (.int z :: st))) := by
  subst hz
  obtain ⟨fs, hr, hrun, hended, hf⟩ := w.fin (v := some (.int (nar t z))) (fun q => by rw [ht] at q; cases q) hk hn hQ
  obtain ⟨⟨hx, hb1, hml, hrt, -⟩, _, _, X, -⟩ := w
  exact ⟨_, _, retN X hx (hrt.trans ht) hs (hb hb1 hd) hr, hrun, hended, hf⟩
theorem g_reta (w : Wk p l e R s m args below meth c Z a0 EL pr y bs ml rt T vm0 h k n) {Q : Option Value → Heap → Prop} {t : FieldType} {v : Value} (hd : decode bs pc = .ok (.areturn, 1)) (ht : rt = some t) (hr : t.isReference = true) (hv : v.isRef = true) (hk : k ≤ R.cells) (hn : n ≤ R.slots) (hQ : Q (some v) h) : Go p e below (Fini Z EL pr R.cells R.slots Q s) (T.setTop (mkF m pc Ls (v :: st))) :=
  g_ret w hd ht (by cases t <;> simp [FieldType.isReference] at hr <;> cases v <;> simp [Value.isRef] at hv <;> rfl) (Or.inr (Or.inr (Or.inr (Or.inr ⟨rfl, hr, hv⟩)))) hk hn hQ
theorem g_return (w : Wk p l e R s m args below meth c Z a0 EL pr y bs ml rt T vm0 h k n) {Q : Option Value → Heap → Prop} (hd : decode bs pc = .ok (.return_, 1)) (ht : rt = none) (hk : k ≤ R.cells) (hn : n ≤ R.slots) (hQ : Q none h) : Go p e below (Fini Z EL pr R.cells R.slots Q s) (T.setTop (mkF m pc Ls [])) := by
  obtain ⟨fs, hr, hrun, hended, hf⟩ := w.fin (v := none) (fun _ => rfl) hk hn hQ
  obtain ⟨⟨hx, hb1, hml, hrt, -⟩, _, _, X, -⟩ := w
  exact ⟨_, _, X.returnOut hx (hrt.trans ht) (hb hb1 hd) hr, hrun, hended, hf⟩
theorem g_iloadN (w : Wk p l e R s m args below meth c Z a0 EL pr y bs ml rt T vm0 h k n) {kk : Fin 4} {v : Int32} (hd : decode bs pc = .ok (.iload_n kk, 1)) (hq : pc + 1 = q) (hl : Ls[kk.val]? = some (.val (.int v))) (hr : Go p e below Φ (T.setTop (mkF m q Ls (.int v :: st)))) : Go p e below Φ (T.setTop (mkF m pc Ls st)) := by
  subst hq; exact hr.pre fun t r => Jvm.Free.XS.iloadN w.here w.hx rfl (w.b hd) hl r
theorem g_iload (w : Wk p l e R s m args below meth c Z a0 EL pr y bs ml rt T vm0 h k n) {kk : Nat} {v : Int32} (hd : decode bs pc = .ok (.iload kk, 2)) (hq : pc + 2 = q) (hl : Ls[kk]? = some (.val (.int v))) (hr : Go p e below Φ (T.setTop (mkF m q Ls (.int v :: st)))) : Go p e below Φ (T.setTop (mkF m pc Ls st)) := by
  subst hq; exact hr.pre fun t r => Jvm.Free.XS.iload w.here w.hx rfl (w.b hd) hl r
theorem g_lloadN (w : Wk p l e R s m args below meth c Z a0 EL pr y bs ml rt T vm0 h k n) {kk : Fin 4} {v : Int64} (hd : decode bs pc = .ok (.lload_n kk, 1)) (hq : pc + 1 = q) (hl : Ls[kk.val]? = some (.val (.long v))) (hr : Go p e below Φ (T.setTop (mkF m q Ls (.long v :: st)))) : Go p e below Φ (T.setTop (mkF m pc Ls st)) := by
  subst hq; exact hr.pre fun t r => Jvm.Free.XT.lloadN w.here w.hx rfl (w.b hd) hl r
theorem g_lload (w : Wk p l e R s m args below meth c Z a0 EL pr y bs ml rt T vm0 h k n) {kk : Nat} {v : Int64} (hd : decode bs pc = .ok (.lload kk, 2)) (hq : pc + 2 = q) (hl : Ls[kk]? = some (.val (.long v))) (hr : Go p e below Φ (T.setTop (mkF m q Ls (.long v :: st)))) : Go p e below Φ (T.setTop (mkF m pc Ls st)) := by
  subst hq; exact hr.pre fun t r => Jvm.Free.XT.lload w.here w.hx rfl (w.b hd) hl r
theorem g_aloadN (w : Wk p l e R s m args below meth c Z a0 EL pr y bs ml rt T vm0 h k n) {kk : Fin 4} {v : Value} (hd : decode bs pc = .ok (.aload_n kk, 1)) (hq : pc + 1 = q) (hl : Ls[kk.val]? = some (.val v)) (hv : v.isRef = true) (hr : Go p e below Φ (T.setTop (mkF m q Ls (v :: st)))) : Go p e below Φ (T.setTop (mkF m pc Ls st)) := by
  subst hq; exact hr.pre fun t r => Jvm.Free.XS.aloadN w.here w.hx rfl (w.b hd) hl hv r
theorem g_aload (w : Wk p l e R s m args below meth c Z a0 EL pr y bs ml rt T vm0 h k n) {kk : Nat} {v : Value} (hd : decode bs pc = .ok (.aload kk, 2)) (hq : pc + 2 = q) (hl : Ls[kk]? = some (.val v)) (hv : v.isRef = true) (hr : Go p e below Φ (T.setTop (mkF m q Ls (v :: st)))) : Go p e below Φ (T.setTop (mkF m pc Ls st)) := by
  subst hq; exact hr.pre fun t r => Jvm.Free.XS.aload w.here w.hx rfl (w.b hd) hl hv r
theorem g_istoreN (w : Wk p l e R s m args below meth c Z a0 EL pr y bs ml rt T vm0 h k n) {kk : Fin 4} {v : Int32} {Ls' : Array Slot} (hd : decode bs pc = .ok (.istore_n kk, 1)) (hq : pc + 1 = q) (hl : storeLocals Ls kk.val (.int v) = some Ls') (hr : Go p e below Φ (T.setTop (mkF m q Ls' st))) : Go p e below Φ (T.setTop (mkF m pc Ls (.int v :: st))) := by
  subst hq; exact hr.pre fun t r => Jvm.Free.XS.istoreN w.here w.hx rfl (w.b hd) rfl hl r
theorem g_istore (w : Wk p l e R s m args below meth c Z a0 EL pr y bs ml rt T vm0 h k n) {kk : Nat} {v : Int32} {Ls' : Array Slot} (hd : decode bs pc = .ok (.istore kk, 2)) (hq : pc + 2 = q) (hl : storeLocals Ls kk (.int v) = some Ls') (hr : Go p e below Φ (T.setTop (mkF m q Ls' st))) : Go p e below Φ (T.setTop (mkF m pc Ls (.int v :: st))) := by
  subst hq; exact hr.pre fun t r => Jvm.Free.XS.istore w.here w.hx rfl (w.b hd) rfl hl r
theorem g_lstoreN (w : Wk p l e R s m args below meth c Z a0 EL pr y bs ml rt T vm0 h k n) {kk : Fin 4} {v : Int64} {Ls' : Array Slot} (hd : decode bs pc = .ok (.lstore_n kk, 1)) (hq : pc + 1 = q) (hl : storeLocals Ls kk.val (.long v) = some Ls') (hr : Go p e below Φ (T.setTop (mkF m q Ls' st))) : Go p e below Φ (T.setTop (mkF m pc Ls (.long v :: st))) := by
  subst hq; exact hr.pre fun t r => Jvm.Free.XT.lstoreN w.here w.hx rfl (w.b hd) rfl hl r
theorem g_lstore (w : Wk p l e R s m args below meth c Z a0 EL pr y bs ml rt T vm0 h k n) {kk : Nat} {v : Int64} {Ls' : Array Slot} (hd : decode bs pc = .ok (.lstore kk, 2)) (hq : pc + 2 = q) (hl : storeLocals Ls kk (.long v) = some Ls') (hr : Go p e below Φ (T.setTop (mkF m q Ls' st))) : Go p e below Φ (T.setTop (mkF m pc Ls (.long v :: st))) := by
  subst hq; exact hr.pre fun t r => Jvm.Free.XT.lstore w.here w.hx rfl (w.b hd) rfl hl r
theorem g_astoreN (w : Wk p l e R s m args below meth c Z a0 EL pr y bs ml rt T vm0 h k n) {kk : Fin 4} {v : Value} {Ls' : Array Slot} (hd : decode bs pc = .ok (.astore_n kk, 1)) (hq : pc + 1 = q) (hv : v.isRef = true) (hl : storeLocals Ls kk.val v = some Ls') (hr : Go p e below Φ (T.setTop (mkF m q Ls' st))) : Go p e below Φ (T.setTop (mkF m pc Ls (v :: st))) := by
  subst hq; exact hr.pre fun t r => Jvm.Free.XS.astoreN w.here w.hx rfl (w.b hd) rfl hv hl r
theorem g_astore (w : Wk p l e R s m args below meth c Z a0 EL pr y bs ml rt T vm0 h k n) {kk : Nat} {v : Value} {Ls' : Array Slot} (hd : decode bs pc = .ok (.astore kk, 2)) (hq : pc + 2 = q) (hv : v.isRef = true) (hl : storeLocals Ls kk v = some Ls') (hr : Go p e below Φ (T.setTop (mkF m q Ls' st))) : Go p e below Φ (T.setTop (mkF m pc Ls (v :: st))) := by
  subst hq; exact hr.pre fun t r => Jvm.Free.XS.astore w.here w.hx rfl (w.b hd) rfl hv hl r
theorem g_iconst (w : Wk p l e R s m args below meth c Z a0 EL pr y bs ml rt T vm0 h k n) {i : Int} {v : Int32} (hd : decode bs pc = .ok (.iconst i, 1)) (hq : pc + 1 = q) (hv : Int32.ofInt i = v) (hr : Go p e below Φ (T.setTop (mkF m q Ls (.int v :: st)))) : Go p e below Φ (T.setTop (mkF m pc Ls st)) := by
  subst hq; exact hr.pre fun t r => Jvm.Free.XT.iconstV w.here w.hx rfl v (w.b hd) hv r
theorem g_bipush (w : Wk p l e R s m args below meth c Z a0 EL pr y bs ml rt T vm0 h k n) {i : Int} {v : Int32} (hd : decode bs pc = .ok (.bipush i, 2)) (hq : pc + 2 = q) (hv : (Int8.ofInt i).toInt32 = v) (hr : Go p e below Φ (T.setTop (mkF m q Ls (.int v :: st)))) : Go p e below Φ (T.setTop (mkF m pc Ls st)) := by
  subst hq; exact hr.pre fun t r => Jvm.Free.XT.bipushV w.here w.hx rfl v (w.b hd) hv r
theorem g_sipush (w : Wk p l e R s m args below meth c Z a0 EL pr y bs ml rt T vm0 h k n) {i : Int} {v : Int32} (hd : decode bs pc = .ok (.sipush i, 3)) (hq : pc + 3 = q) (hv : (Int16.ofInt i).toInt32 = v) (hr : Go p e below Φ (T.setTop (mkF m q Ls (.int v :: st)))) : Go p e below Φ (T.setTop (mkF m pc Ls st)) := by
  subst hq; exact hr.pre fun t r => Jvm.Free.XT.sipushV w.here w.hx rfl v (w.b hd) hv r
theorem g_lconst (w : Wk p l e R s m args below meth c Z a0 EL pr y bs ml rt T vm0 h k n) {i : Fin 2} {v : Int64} (hd : decode bs pc = .ok (.lconst i, 1)) (hq : pc + 1 = q) (hv : Int64.ofNat i = v) (hr : Go p e below Φ (T.setTop (mkF m q Ls (.long v :: st)))) : Go p e below Φ (T.setTop (mkF m pc Ls st)) := by
  subst hq; exact hr.pre fun t r => Jvm.Free.XT.lconstV w.here w.hx rfl v (w.b hd) hv r
theorem g_anull (w : Wk p l e R s m args below meth c Z a0 EL pr y bs ml rt T vm0 h k n) (hd : decode bs pc = .ok (.aconst_null, 1)) (hq : pc + 1 = q) (hr : Go p e below Φ (T.setTop (mkF m q Ls (.null :: st)))) : Go p e below Φ (T.setTop (mkF m pc Ls st)) := by
  subst hq; exact hr.pre fun t r => Jvm.Free.XS.aconstNull w.here w.hx rfl (w.b hd) r
theorem g_dup (w : Wk p l e R s m args below meth c Z a0 EL pr y bs ml rt T vm0 h k n) {v : Value} (hd : decode bs pc = .ok (.dup, 1)) (hq : pc + 1 = q) (hc : v.category = 1) (hr : Go p e below Φ (T.setTop (mkF m q Ls (v :: v :: st)))) : Go p e below Φ (T.setTop (mkF m pc Ls (v :: st))) := by
  subst hq; exact hr.pre fun t r => Jvm.Free.XS.dup w.here w.hx rfl (w.b hd) rfl hc r
theorem g_pop (w : Wk p l e R s m args below meth c Z a0 EL pr y bs ml rt T vm0 h k n) {v : Value} (hd : decode bs pc = .ok (.pop, 1)) (hq : pc + 1 = q) (hc : v.category = 1) (hr : Go p e below Φ (T.setTop (mkF m q Ls st))) : Go p e below Φ (T.setTop (mkF m pc Ls (v :: st))) := by
  subst hq; exact hr.pre fun t r => Jvm.Free.XT.pop w.here w.hx rfl (w.b hd) rfl hc r
theorem g_dupX1 (w : Wk p l e R s m args below meth c Z a0 EL pr y bs ml rt T vm0 h k n) {v u : Value} (hd : decode bs pc = .ok (.dup_x1, 1)) (hq : pc + 1 = q) (hc : v.category = 1) (hc' : u.category = 1) (hr : Go p e below Φ (T.setTop (mkF m q Ls (v :: u :: v :: st)))) : Go p e below Φ (T.setTop (mkF m pc Ls (v :: u :: st))) := by
  subst hq; exact hr.pre fun t r => Jvm.Free.XT.dupX1 w.here w.hx rfl (w.b hd) rfl hc hc' r
theorem g_dup2 (w : Wk p l e R s m args below meth c Z a0 EL pr y bs ml rt T vm0 h k n) {v u : Value} (hd : decode bs pc = .ok (.dup2, 1)) (hq : pc + 1 = q) (hc : v.category = 1) (hc' : u.category = 1) (hr : Go p e below Φ (T.setTop (mkF m q Ls (v :: u :: v :: u :: st)))) : Go p e below Φ (T.setTop (mkF m pc Ls (v :: u :: st))) := by
  subst hq; exact hr.pre fun t r => Jvm.Free.XT.dup2 w.here w.hx rfl (w.b hd) rfl hc hc' r
theorem g_dup2L (w : Wk p l e R s m args below meth c Z a0 EL pr y bs ml rt T vm0 h k n) {x : Int64} (hd : decode bs pc = .ok (.dup2, 1)) (hq : pc + 1 = q) (hr : Go p e below Φ (T.setTop (mkF m q Ls (.long x :: .long x :: st)))) : Go p e below Φ (T.setTop (mkF m pc Ls (.long x :: st))) := by
  subst hq; exact hr.pre fun t r => Jvm.Free.XT.dup2L w.here w.hx rfl (w.b hd) rfl r
theorem g_iadd (w : Wk p l e R s m args below meth c Z a0 EL pr y bs ml rt T vm0 h k n) {x z : Int32} (hd : decode bs pc = .ok (.iadd, 1)) (hq : pc + 1 = q) (hr : Go p e below Φ (T.setTop (mkF m q Ls (.int (x + z) :: st)))) : Go p e below Φ (T.setTop (mkF m pc Ls (.int z :: .int x :: st))) := by
  subst hq; exact hr.pre fun t r => Jvm.Free.XS.iadd w.here w.hx rfl (w.b hd) rfl r
theorem g_isub (w : Wk p l e R s m args below meth c Z a0 EL pr y bs ml rt T vm0 h k n) {x z : Int32} (hd : decode bs pc = .ok (.isub, 1)) (hq : pc + 1 = q) (hr : Go p e below Φ (T.setTop (mkF m q Ls (.int (x - z) :: st)))) : Go p e below Φ (T.setTop (mkF m pc Ls (.int z :: .int x :: st))) := by
  subst hq; exact hr.pre fun t r => Jvm.Free.XS.isub w.here w.hx rfl (w.b hd) rfl r
theorem g_imul (w : Wk p l e R s m args below meth c Z a0 EL pr y bs ml rt T vm0 h k n) {x z : Int32} (hd : decode bs pc = .ok (.imul, 1)) (hq : pc + 1 = q) (hr : Go p e below Φ (T.setTop (mkF m q Ls (.int (x * z) :: st)))) : Go p e below Φ (T.setTop (mkF m pc Ls (.int z :: .int x :: st))) := by
  subst hq; exact hr.pre fun t r => Jvm.Free.XS.imul w.here w.hx rfl (w.b hd) rfl r
theorem g_iand (w : Wk p l e R s m args below meth c Z a0 EL pr y bs ml rt T vm0 h k n) {x z : Int32} (hd : decode bs pc = .ok (.iand, 1)) (hq : pc + 1 = q) (hr : Go p e below Φ (T.setTop (mkF m q Ls (.int (x &&& z) :: st)))) : Go p e below Φ (T.setTop (mkF m pc Ls (.int z :: .int x :: st))) := by
  subst hq; exact hr.pre fun t r => Jvm.Free.XS.iand w.here w.hx rfl (w.b hd) rfl r
theorem g_ior (w : Wk p l e R s m args below meth c Z a0 EL pr y bs ml rt T vm0 h k n) {x z : Int32} (hd : decode bs pc = .ok (.ior, 1)) (hq : pc + 1 = q) (hr : Go p e below Φ (T.setTop (mkF m q Ls (.int (x ||| z) :: st)))) : Go p e below Φ (T.setTop (mkF m pc Ls (.int z :: .int x :: st))) := by
  subst hq; exact hr.pre fun t r => Jvm.Free.XT.ior w.here w.hx rfl (w.b hd) rfl r
theorem g_ixor (w : Wk p l e R s m args below meth c Z a0 EL pr y bs ml rt T vm0 h k n) {x z : Int32} (hd : decode bs pc = .ok (.ixor, 1)) (hq : pc + 1 = q) (hr : Go p e below Φ (T.setTop (mkF m q Ls (.int (x ^^^ z) :: st)))) : Go p e below Φ (T.setTop (mkF m pc Ls (.int z :: .int x :: st))) := by
  subst hq; exact hr.pre fun t r => Jvm.Free.XT.ixor w.here w.hx rfl (w.b hd) rfl r
theorem g_ishl (w : Wk p l e R s m args below meth c Z a0 EL pr y bs ml rt T vm0 h k n) {x z : Int32} (hd : decode bs pc = .ok (.ishl, 1)) (hq : pc + 1 = q) (hr : Go p e below Φ (T.setTop (mkF m q Ls (.int (x <<< (z &&& 31)) :: st)))) : Go p e below Φ (T.setTop (mkF m pc Ls (.int z :: .int x :: st))) := by
  subst hq; exact hr.pre fun t r => Jvm.Free.XT.ishl w.here w.hx rfl (w.b hd) rfl r
theorem g_ishr (w : Wk p l e R s m args below meth c Z a0 EL pr y bs ml rt T vm0 h k n) {x z : Int32} (hd : decode bs pc = .ok (.ishr, 1)) (hq : pc + 1 = q) (hr : Go p e below Φ (T.setTop (mkF m q Ls (.int (x >>> (z &&& 31)) :: st)))) : Go p e below Φ (T.setTop (mkF m pc Ls (.int z :: .int x :: st))) := by
  subst hq; exact hr.pre fun t r => Jvm.Free.XT.ishr w.here w.hx rfl (w.b hd) rfl r
theorem g_iushr (w : Wk p l e R s m args below meth c Z a0 EL pr y bs ml rt T vm0 h k n) {x z : Int32} (hd : decode bs pc = .ok (.iushr, 1)) (hq : pc + 1 = q) (hr : Go p e below Φ (T.setTop (mkF m q Ls (.int (Jvm.Free.XT.ushr x z) :: st)))) : Go p e below Φ (T.setTop (mkF m pc Ls (.int z :: .int x :: st))) := by
  subst hq; exact hr.pre fun t r => Jvm.Free.XT.iushr w.here w.hx rfl (w.b hd) rfl r
theorem g_idiv (w : Wk p l e R s m args below meth c Z a0 EL pr y bs ml rt T vm0 h k n) {x z : Int32} (hd : decode bs pc = .ok (.idiv, 1)) (hq : pc + 1 = q) (hz : z ≠ 0) (hr : Go p e below Φ (T.setTop (mkF m q Ls (.int (x / z) :: st)))) : Go p e below Φ (T.setTop (mkF m pc Ls (.int z :: .int x :: st))) := by
  subst hq; exact hr.pre fun t r => Jvm.Free.XS.idiv w.here w.hx rfl (w.b hd) rfl hz r
theorem g_irem (w : Wk p l e R s m args below meth c Z a0 EL pr y bs ml rt T vm0 h k n) {x z : Int32} (hd : decode bs pc = .ok (.irem, 1)) (hq : pc + 1 = q) (hz : z ≠ 0) (hr : Go p e below Φ (T.setTop (mkF m q Ls (.int (x % z) :: st)))) : Go p e below Φ (T.setTop (mkF m pc Ls (.int z :: .int x :: st))) := by
  subst hq; obtain ⟨⟨hx, hb1, -⟩, _, _, X, -⟩ := w; exact hr.pre fun t r => iremM X hx rfl (hb hb1 hd) rfl hz r
theorem g_ladd (w : Wk p l e R s m args below meth c Z a0 EL pr y bs ml rt T vm0 h k n) {x z : Int64} (hd : decode bs pc = .ok (.ladd, 1)) (hq : pc + 1 = q) (hr : Go p e below Φ (T.setTop (mkF m q Ls (.long (x + z) :: st)))) : Go p e below Φ (T.setTop (mkF m pc Ls (.long z :: .long x :: st))) := by
  subst hq; exact hr.pre fun t r => Jvm.Free.XT.ladd w.here w.hx rfl (w.b hd) rfl r
theorem g_lsub (w : Wk p l e R s m args below meth c Z a0 EL pr y bs ml rt T vm0 h k n) {x z : Int64} (hd : decode bs pc = .ok (.lsub, 1)) (hq : pc + 1 = q) (hr : Go p e below Φ (T.setTop (mkF m q Ls (.long (x - z) :: st)))) : Go p e below Φ (T.setTop (mkF m pc Ls (.long z :: .long x :: st))) := by
  subst hq; exact hr.pre fun t r => Jvm.Free.XT.lsub w.here w.hx rfl (w.b hd) rfl r
theorem g_lmul (w : Wk p l e R s m args below meth c Z a0 EL pr y bs ml rt T vm0 h k n) {x z : Int64} (hd : decode bs pc = .ok (.lmul, 1)) (hq : pc + 1 = q) (hr : Go p e below Φ (T.setTop (mkF m q Ls (.long (x * z) :: st)))) : Go p e below Φ (T.setTop (mkF m pc Ls (.long z :: .long x :: st))) := by
  subst hq; exact hr.pre fun t r => Jvm.Free.XT.lmul w.here w.hx rfl (w.b hd) rfl r
theorem g_land (w : Wk p l e R s m args below meth c Z a0 EL pr y bs ml rt T vm0 h k n) {x z : Int64} (hd : decode bs pc = .ok (.land, 1)) (hq : pc + 1 = q) (hr : Go p e below Φ (T.setTop (mkF m q Ls (.long (x &&& z) :: st)))) : Go p e below Φ (T.setTop (mkF m pc Ls (.long z :: .long x :: st))) := by
  subst hq; exact hr.pre fun t r => Jvm.Free.XT.land w.here w.hx rfl (w.b hd) rfl r
theorem g_lor (w : Wk p l e R s m args below meth c Z a0 EL pr y bs ml rt T vm0 h k n) {x z : Int64} (hd : decode bs pc = .ok (.lor, 1)) (hq : pc + 1 = q) (hr : Go p e below Φ (T.setTop (mkF m q Ls (.long (x ||| z) :: st)))) : Go p e below Φ (T.setTop (mkF m pc Ls (.long z :: .long x :: st))) := by
  subst hq; exact hr.pre fun t r => Jvm.Free.XT.lor w.here w.hx rfl (w.b hd) rfl r
theorem g_lxor (w : Wk p l e R s m args below meth c Z a0 EL pr y bs ml rt T vm0 h k n) {x z : Int64} (hd : decode bs pc = .ok (.lxor, 1)) (hq : pc + 1 = q) (hr : Go p e below Φ (T.setTop (mkF m q Ls (.long (x ^^^ z) :: st)))) : Go p e below Φ (T.setTop (mkF m pc Ls (.long z :: .long x :: st))) := by
  subst hq; exact hr.pre fun t r => Jvm.Free.XT.lxor w.here w.hx rfl (w.b hd) rfl r
theorem g_ldiv (w : Wk p l e R s m args below meth c Z a0 EL pr y bs ml rt T vm0 h k n) {x z : Int64} (hd : decode bs pc = .ok (.ldiv, 1)) (hq : pc + 1 = q) (hz : z ≠ 0) (hr : Go p e below Φ (T.setTop (mkF m q Ls (.long (x / z) :: st)))) : Go p e below Φ (T.setTop (mkF m pc Ls (.long z :: .long x :: st))) := by
  subst hq; exact hr.pre fun t r => Jvm.Free.XT.ldiv w.here w.hx rfl (w.b hd) rfl hz r
theorem g_lrem (w : Wk p l e R s m args below meth c Z a0 EL pr y bs ml rt T vm0 h k n) {x z : Int64} (hd : decode bs pc = .ok (.lrem, 1)) (hq : pc + 1 = q) (hz : z ≠ 0) (hr : Go p e below Φ (T.setTop (mkF m q Ls (.long (x - (x / z) * z) :: st)))) : Go p e below Φ (T.setTop (mkF m pc Ls (.long z :: .long x :: st))) := by
  subst hq; exact hr.pre fun t r => Jvm.Free.XT.lrem w.here w.hx rfl (w.b hd) rfl hz r
theorem g_lneg (w : Wk p l e R s m args below meth c Z a0 EL pr y bs ml rt T vm0 h k n) {x : Int64} (hd : decode bs pc = .ok (.lneg, 1)) (hq : pc + 1 = q) (hr : Go p e below Φ (T.setTop (mkF m q Ls (.long (-x) :: st)))) : Go p e below Φ (T.setTop (mkF m pc Ls (.long x :: st))) := by
  subst hq; exact hr.pre fun t r => Jvm.Free.XT.lneg w.here w.hx rfl (w.b hd) rfl r
theorem g_ineg (w : Wk p l e R s m args below meth c Z a0 EL pr y bs ml rt T vm0 h k n) {x : Int32} (hd : decode bs pc = .ok (.ineg, 1)) (hq : pc + 1 = q) (hr : Go p e below Φ (T.setTop (mkF m q Ls (.int (-x) :: st)))) : Go p e below Φ (T.setTop (mkF m pc Ls (.int x :: st))) := by
  subst hq; exact hr.pre fun t r => Jvm.Free.XS.ineg w.here w.hx rfl (w.b hd) rfl r
theorem g_i2l (w : Wk p l e R s m args below meth c Z a0 EL pr y bs ml rt T vm0 h k n) {x : Int32} (hd : decode bs pc = .ok (.i2l, 1)) (hq : pc + 1 = q) (hr : Go p e below Φ (T.setTop (mkF m q Ls (.long (x.toInt64) :: st)))) : Go p e below Φ (T.setTop (mkF m pc Ls (.int x :: st))) := by
  subst hq; exact hr.pre fun t r => Jvm.Free.XT.i2l w.here w.hx rfl (w.b hd) rfl r
theorem g_i2b (w : Wk p l e R s m args below meth c Z a0 EL pr y bs ml rt T vm0 h k n) {x : Int32} (hd : decode bs pc = .ok (.i2b, 1)) (hq : pc + 1 = q) (hr : Go p e below Φ (T.setTop (mkF m q Ls (.int (x.toInt8.toInt32) :: st)))) : Go p e below Φ (T.setTop (mkF m pc Ls (.int x :: st))) := by
  subst hq; exact hr.pre fun t r => Jvm.Free.XT.i2b w.here w.hx rfl (w.b hd) rfl r
theorem g_i2c (w : Wk p l e R s m args below meth c Z a0 EL pr y bs ml rt T vm0 h k n) {x : Int32} (hd : decode bs pc = .ok (.i2c, 1)) (hq : pc + 1 = q) (hr : Go p e below Φ (T.setTop (mkF m q Ls (.int (x.toUInt32.toUInt16.toUInt32.toInt32) :: st)))) : Go p e below Φ (T.setTop (mkF m pc Ls (.int x :: st))) := by
  subst hq; exact hr.pre fun t r => Jvm.Free.XT.i2c w.here w.hx rfl (w.b hd) rfl r
theorem g_l2i (w : Wk p l e R s m args below meth c Z a0 EL pr y bs ml rt T vm0 h k n) {x : Int64} (hd : decode bs pc = .ok (.l2i, 1)) (hq : pc + 1 = q) (hr : Go p e below Φ (T.setTop (mkF m q Ls (.int (x.toInt32) :: st)))) : Go p e below Φ (T.setTop (mkF m pc Ls (.long x :: st))) := by
  subst hq; exact hr.pre fun t r => Jvm.Free.XT.l2i w.here w.hx rfl (w.b hd) rfl r
theorem g_lcmp (w : Wk p l e R s m args below meth c Z a0 EL pr y bs ml rt T vm0 h k n) {x z : Int64} (hd : decode bs pc = .ok (.lcmp, 1)) (hq : pc + 1 = q) (hr : Go p e below Φ (T.setTop (mkF m q Ls (.int (Jvm.Free.XT.cmpL x z) :: st)))) : Go p e below Φ (T.setTop (mkF m pc Ls (.long z :: .long x :: st))) := by
  subst hq; exact hr.pre fun t r => Jvm.Free.XT.lcmp w.here w.hx rfl (w.b hd) rfl r
theorem g_iinc (w : Wk p l e R s m args below meth c Z a0 EL pr y bs ml rt T vm0 h k n) {kk : Nat} {cst : Int} {x v : Int32} {Ls' : Array Slot} (hd : decode bs pc = .ok (.iinc kk cst, 3)) (hq : pc + 3 = q) (hv : Int32.ofInt cst = v) (hl : Ls[kk]? = some (.val (.int x))) (hl' : storeLocals Ls kk (.int (x + v)) = some Ls') (hr : Go p e below Φ (T.setTop (mkF m q Ls' st))) : Go p e below Φ (T.setTop (mkF m pc Ls st)) := by
  subst hq; exact hr.pre fun t r => Jvm.Free.XS.iinc w.here w.hx rfl (w.b hd) hl (by rw [hv]; exact hl') r
theorem g_goto (w : Wk p l e R s m args below meth c Z a0 EL pr y bs ml rt T vm0 h k n) {o : Int} (hd : decode bs pc = .ok (.goto o, 3)) (ho : 0 ≤ (pc : Int) + o) (hq : ((pc : Int) + o).toNat = q) (hr : Go p e below Φ (T.setTop (mkF m q Ls st))) : Go p e below Φ (T.setTop (mkF m pc Ls st)) := by
  exact hr.pre fun t r => Jvm.Free.XS.goto w.here w.hx rfl rfl (w.b hd) ho hq r
theorem g_ifY (w : Wk p l e R s m args below meth c Z a0 EL pr y bs ml rt T vm0 h k n) {cd : ClassFile.Cond} {x : Int32} {o : Int} (hd : decode bs pc = .ok (.ifCond cd o, 3)) (ho : 0 ≤ (pc : Int) + o) (hq : ((pc : Int) + o).toNat = q) (hc : ifCond.holds cd x = true) (hr : Go p e below Φ (T.setTop (mkF m q Ls st))) : Go p e below Φ (T.setTop (mkF m pc Ls (.int x :: st))) := by
  exact hr.pre fun t r => Jvm.Free.XS.ifYes w.here w.hx rfl rfl (w.b hd) rfl hc ho hq r
theorem g_ifN (w : Wk p l e R s m args below meth c Z a0 EL pr y bs ml rt T vm0 h k n) {cd : ClassFile.Cond} {x : Int32} {o : Int} (hd : decode bs pc = .ok (.ifCond cd o, 3)) (hq : pc + 3 = q) (hc : ifCond.holds cd x = false) (hr : Go p e below Φ (T.setTop (mkF m q Ls st))) : Go p e below Φ (T.setTop (mkF m pc Ls (.int x :: st))) := by
  subst hq; exact hr.pre fun t r => Jvm.Free.XS.ifNo w.here w.hx rfl (w.b hd) rfl hc r
theorem g_icY (w : Wk p l e R s m args below meth c Z a0 EL pr y bs ml rt T vm0 h k n) {cd : ClassFile.Cond} {x z : Int32} {o : Int} (hd : decode bs pc = .ok (.if_icmp cd o, 3)) (ho : 0 ≤ (pc : Int) + o) (hq : ((pc : Int) + o).toNat = q) (hc : if_icmp.holds cd x z = true) (hr : Go p e below Φ (T.setTop (mkF m q Ls st))) : Go p e below Φ (T.setTop (mkF m pc Ls (.int z :: .int x :: st))) := by
  exact hr.pre fun t r => Jvm.Free.XS.icmpYes w.here w.hx rfl rfl (w.b hd) rfl hc ho hq r
theorem g_icN (w : Wk p l e R s m args below meth c Z a0 EL pr y bs ml rt T vm0 h k n) {cd : ClassFile.Cond} {x z : Int32} {o : Int} (hd : decode bs pc = .ok (.if_icmp cd o, 3)) (hq : pc + 3 = q) (hc : if_icmp.holds cd x z = false) (hr : Go p e below Φ (T.setTop (mkF m q Ls st))) : Go p e below Φ (T.setTop (mkF m pc Ls (.int z :: .int x :: st))) := by
  subst hq; exact hr.pre fun t r => Jvm.Free.XS.icmpNo w.here w.hx rfl (w.b hd) rfl hc r
theorem g_acY (w : Wk p l e R s m args below meth c Z a0 EL pr y bs ml rt T vm0 h k n) {cd : ClassFile.ACond} {x z : Value} {o : Int} (hd : decode bs pc = .ok (.if_acmp cd o, 3)) (ho : 0 ≤ (pc : Int) + o) (hq : ((pc : Int) + o).toNat = q) (h1 : x.isRef = true) (h2 : z.isRef = true) (hc : Jvm.Free.XT.acmp cd x z = true) (hr : Go p e below Φ (T.setTop (mkF m q Ls st))) : Go p e below Φ (T.setTop (mkF m pc Ls (z :: x :: st))) := by
  exact hr.pre fun t r => Jvm.Free.XT.acmpYes w.here w.hx rfl rfl (w.b hd) rfl h1 h2 hc ho hq r
theorem g_acN (w : Wk p l e R s m args below meth c Z a0 EL pr y bs ml rt T vm0 h k n) {cd : ClassFile.ACond} {x z : Value} {o : Int} (hd : decode bs pc = .ok (.if_acmp cd o, 3)) (hq : pc + 3 = q) (h1 : x.isRef = true) (h2 : z.isRef = true) (hc : Jvm.Free.XT.acmp cd x z = false) (hr : Go p e below Φ (T.setTop (mkF m q Ls st))) : Go p e below Φ (T.setTop (mkF m pc Ls (z :: x :: st))) := by
  subst hq; exact hr.pre fun t r => Jvm.Free.XT.acmpNo w.here w.hx rfl (w.b hd) rfl h1 h2 hc r
theorem g_nullY (w : Wk p l e R s m args below meth c Z a0 EL pr y bs ml rt T vm0 h k n) {o : Int} (hd : decode bs pc = .ok (.ifnull o, 3)) (ho : 0 ≤ (pc : Int) + o) (hq : ((pc : Int) + o).toNat = q) (hr : Go p e below Φ (T.setTop (mkF m q Ls st))) : Go p e below Φ (T.setTop (mkF m pc Ls (.null :: st))) := by
  exact hr.pre fun t r => Jvm.Free.XS.ifnullYes w.here w.hx rfl rfl (w.b hd) rfl ho hq r
theorem g_nullN (w : Wk p l e R s m args below meth c Z a0 EL pr y bs ml rt T vm0 h k n) {o : Int} {b : Addr} (hd : decode bs pc = .ok (.ifnull o, 3)) (hq : pc + 3 = q) (hr : Go p e below Φ (T.setTop (mkF m q Ls st))) : Go p e below Φ (T.setTop (mkF m pc Ls (.ref b :: st))) := by
  subst hq; exact hr.pre fun t r => Jvm.Free.XS.ifnullNo w.here w.hx rfl (w.b hd) rfl r
theorem g_nonnullY (w : Wk p l e R s m args below meth c Z a0 EL pr y bs ml rt T vm0 h k n) {o : Int} {b : Addr} (hd : decode bs pc = .ok (.ifnonnull o, 3)) (ho : 0 ≤ (pc : Int) + o) (hq : ((pc : Int) + o).toNat = q) (hr : Go p e below Φ (T.setTop (mkF m q Ls st))) : Go p e below Φ (T.setTop (mkF m pc Ls (.ref b :: st))) := by
  exact hr.pre fun t r => Jvm.Free.XT.ifnonnullYes w.here w.hx rfl rfl (w.b hd) rfl ho hq r
theorem g_nonnullN (w : Wk p l e R s m args below meth c Z a0 EL pr y bs ml rt T vm0 h k n) {o : Int} (hd : decode bs pc = .ok (.ifnonnull o, 3)) (hq : pc + 3 = q) (hr : Go p e below Φ (T.setTop (mkF m q Ls st))) : Go p e below Φ (T.setTop (mkF m pc Ls (.null :: st))) := by
  subst hq; exact hr.pre fun t r => Jvm.Free.XT.ifnonnullNo w.here w.hx rfl (w.b hd) rfl r
theorem g_if_eq (w : Wk p l e R s m args below meth c Z a0 EL pr y bs ml rt T vm0 h k n) {x : Int32} {o : Int} {q' : Nat} (hd : decode bs pc = .ok (.ifCond .eq o, 3)) (ho : 0 ≤ (pc : Int) + o) (hq : ((pc : Int) + o).toNat = q) (hq' : pc + 3 = q') (hY : x = 0 → Go p e below Φ (T.setTop (mkF m q Ls st))) (hN : ¬ x = 0 → Go p e below Φ (T.setTop (mkF m q' Ls st))) : Go p e below Φ (T.setTop (mkF m pc Ls (.int x :: st))) := by
  by_cases hc : x = 0
  · exact g_ifY w hd ho hq (Jvm.Free.XT.i0_eq_t hc) (hY hc)
  · exact g_ifN w hd hq' (Jvm.Free.XT.i0_eq_f hc) (hN hc)
theorem g_ic_eq (w : Wk p l e R s m args below meth c Z a0 EL pr y bs ml rt T vm0 h k n) {x z : Int32} {o : Int} {q' : Nat} (hd : decode bs pc = .ok (.if_icmp .eq o, 3)) (ho : 0 ≤ (pc : Int) + o) (hq : ((pc : Int) + o).toNat = q) (hq' : pc + 3 = q') (hY : x = z → Go p e below Φ (T.setTop (mkF m q Ls st))) (hN : ¬ x = z → Go p e below Φ (T.setTop (mkF m q' Ls st))) : Go p e below Φ (T.setTop (mkF m pc Ls (.int z :: .int x :: st))) := by
  by_cases hc : x = z
  · exact g_icY w hd ho hq (Jvm.Free.XT.ii_eq_t hc) (hY hc)
  · exact g_icN w hd hq' (Jvm.Free.XT.ii_eq_f hc) (hN hc)
theorem g_lc_eq (w : Wk p l e R s m args below meth c Z a0 EL pr y bs ml rt T vm0 h k n) {x z : Int64} {o : Int} {q' : Nat} (hd : decode bs pc = .ok (.ifCond .eq o, 3)) (ho : 0 ≤ (pc : Int) + o) (hq : ((pc : Int) + o).toNat = q) (hq' : pc + 3 = q') (hY : x = z → Go p e below Φ (T.setTop (mkF m q Ls st))) (hN : ¬ x = z → Go p e below Φ (T.setTop (mkF m q' Ls st))) : Go p e below Φ (T.setTop (mkF m pc Ls (.int (Jvm.Free.XT.cmpL x z) :: st))) := by
  by_cases hc : x = z
  · exact g_ifY w hd ho hq (Jvm.Free.XT.ll_eq_t hc) (hY hc)
  · exact g_ifN w hd hq' (Jvm.Free.XT.ll_eq_f hc) (hN hc)
theorem g_if_ne (w : Wk p l e R s m args below meth c Z a0 EL pr y bs ml rt T vm0 h k n) {x : Int32} {o : Int} {q' : Nat} (hd : decode bs pc = .ok (.ifCond .ne o, 3)) (ho : 0 ≤ (pc : Int) + o) (hq : ((pc : Int) + o).toNat = q) (hq' : pc + 3 = q') (hY : ¬ x = 0 → Go p e below Φ (T.setTop (mkF m q Ls st))) (hN : x = 0 → Go p e below Φ (T.setTop (mkF m q' Ls st))) : Go p e below Φ (T.setTop (mkF m pc Ls (.int x :: st))) := by
  by_cases hc : ¬ x = 0
  · exact g_ifY w hd ho hq (Jvm.Free.XT.i0_ne_t hc) (hY hc)
  · exact g_ifN w hd hq' (Jvm.Free.XT.i0_ne_f (Classical.not_not.mp hc)) (hN (Classical.not_not.mp hc))
theorem g_ic_ne (w : Wk p l e R s m args below meth c Z a0 EL pr y bs ml rt T vm0 h k n) {x z : Int32} {o : Int} {q' : Nat} (hd : decode bs pc = .ok (.if_icmp .ne o, 3)) (ho : 0 ≤ (pc : Int) + o) (hq : ((pc : Int) + o).toNat = q) (hq' : pc + 3 = q') (hY : ¬ x = z → Go p e below Φ (T.setTop (mkF m q Ls st))) (hN : x = z → Go p e below Φ (T.setTop (mkF m q' Ls st))) : Go p e below Φ (T.setTop (mkF m pc Ls (.int z :: .int x :: st))) := by
  by_cases hc : ¬ x = z
  · exact g_icY w hd ho hq (Jvm.Free.XT.ii_ne_t hc) (hY hc)
  · exact g_icN w hd hq' (Jvm.Free.XT.ii_ne_f (Classical.not_not.mp hc)) (hN (Classical.not_not.mp hc))
theorem g_lc_ne (w : Wk p l e R s m args below meth c Z a0 EL pr y bs ml rt T vm0 h k n) {x z : Int64} {o : Int} {q' : Nat} (hd : decode bs pc = .ok (.ifCond .ne o, 3)) (ho : 0 ≤ (pc : Int) + o) (hq : ((pc : Int) + o).toNat = q) (hq' : pc + 3 = q') (hY : ¬ x = z → Go p e below Φ (T.setTop (mkF m q Ls st))) (hN : x = z → Go p e below Φ (T.setTop (mkF m q' Ls st))) : Go p e below Φ (T.setTop (mkF m pc Ls (.int (Jvm.Free.XT.cmpL x z) :: st))) := by
  by_cases hc : ¬ x = z
  · exact g_ifY w hd ho hq (Jvm.Free.XT.ll_ne_t hc) (hY hc)
  · exact g_ifN w hd hq' (Jvm.Free.XT.ll_ne_f (Classical.not_not.mp hc)) (hN (Classical.not_not.mp hc))
theorem g_if_lt (w : Wk p l e R s m args below meth c Z a0 EL pr y bs ml rt T vm0 h k n) {x : Int32} {o : Int} {q' : Nat} (hd : decode bs pc = .ok (.ifCond .lt o, 3)) (ho : 0 ≤ (pc : Int) + o) (hq : ((pc : Int) + o).toNat = q) (hq' : pc + 3 = q') (hY : x < 0 → Go p e below Φ (T.setTop (mkF m q Ls st))) (hN : ¬ x < 0 → Go p e below Φ (T.setTop (mkF m q' Ls st))) : Go p e below Φ (T.setTop (mkF m pc Ls (.int x :: st))) := by
  by_cases hc : x < 0
  · exact g_ifY w hd ho hq (Jvm.Free.XT.i0_lt_t hc) (hY hc)
  · exact g_ifN w hd hq' (Jvm.Free.XT.i0_lt_f hc) (hN hc)
theorem g_ic_lt (w : Wk p l e R s m args below meth c Z a0 EL pr y bs ml rt T vm0 h k n) {x z : Int32} {o : Int} {q' : Nat} (hd : decode bs pc = .ok (.if_icmp .lt o, 3)) (ho : 0 ≤ (pc : Int) + o) (hq : ((pc : Int) + o).toNat = q) (hq' : pc + 3 = q') (hY : x < z → Go p e below Φ (T.setTop (mkF m q Ls st))) (hN : ¬ x < z → Go p e below Φ (T.setTop (mkF m q' Ls st))) : Go p e below Φ (T.setTop (mkF m pc Ls (.int z :: .int x :: st))) := by
  by_cases hc : x < z
  · exact g_icY w hd ho hq (Jvm.Free.XT.ii_lt_t hc) (hY hc)
  · exact g_icN w hd hq' (Jvm.Free.XT.ii_lt_f hc) (hN hc)
theorem g_lc_lt (w : Wk p l e R s m args below meth c Z a0 EL pr y bs ml rt T vm0 h k n) {x z : Int64} {o : Int} {q' : Nat} (hd : decode bs pc = .ok (.ifCond .lt o, 3)) (ho : 0 ≤ (pc : Int) + o) (hq : ((pc : Int) + o).toNat = q) (hq' : pc + 3 = q') (hY : x < z → Go p e below Φ (T.setTop (mkF m q Ls st))) (hN : ¬ x < z → Go p e below Φ (T.setTop (mkF m q' Ls st))) : Go p e below Φ (T.setTop (mkF m pc Ls (.int (Jvm.Free.XT.cmpL x z) :: st))) := by
  by_cases hc : x < z
  · exact g_ifY w hd ho hq (Jvm.Free.XT.ll_lt_t hc) (hY hc)
  · exact g_ifN w hd hq' (Jvm.Free.XT.ll_lt_f hc) (hN hc)
theorem g_if_ge (w : Wk p l e R s m args below meth c Z a0 EL pr y bs ml rt T vm0 h k n) {x : Int32} {o : Int} {q' : Nat} (hd : decode bs pc = .ok (.ifCond .ge o, 3)) (ho : 0 ≤ (pc : Int) + o) (hq : ((pc : Int) + o).toNat = q) (hq' : pc + 3 = q') (hY : ¬ x < 0 → Go p e below Φ (T.setTop (mkF m q Ls st))) (hN : x < 0 → Go p e below Φ (T.setTop (mkF m q' Ls st))) : Go p e below Φ (T.setTop (mkF m pc Ls (.int x :: st))) := by
  by_cases hc : ¬ x < 0
  · exact g_ifY w hd ho hq (Jvm.Free.XT.i0_ge_t hc) (hY hc)
  · exact g_ifN w hd hq' (Jvm.Free.XT.i0_ge_f (Classical.not_not.mp hc)) (hN (Classical.not_not.mp hc))
theorem g_ic_ge (w : Wk p l e R s m args below meth c Z a0 EL pr y bs ml rt T vm0 h k n) {x z : Int32} {o : Int} {q' : Nat} (hd : decode bs pc = .ok (.if_icmp .ge o, 3)) (ho : 0 ≤ (pc : Int) + o) (hq : ((pc : Int) + o).toNat = q) (hq' : pc + 3 = q') (hY : ¬ x < z → Go p e below Φ (T.setTop (mkF m q Ls st))) (hN : x < z → Go p e below Φ (T.setTop (mkF m q' Ls st))) : Go p e below Φ (T.setTop (mkF m pc Ls (.int z :: .int x :: st))) := by
  by_cases hc : ¬ x < z
  · exact g_icY w hd ho hq (Jvm.Free.XT.ii_ge_t hc) (hY hc)
  · exact g_icN w hd hq' (Jvm.Free.XT.ii_ge_f (Classical.not_not.mp hc)) (hN (Classical.not_not.mp hc))
theorem g_lc_ge (w : Wk p l e R s m args below meth c Z a0 EL pr y bs ml rt T vm0 h k n) {x z : Int64} {o : Int} {q' : Nat} (hd : decode bs pc = .ok (.ifCond .ge o, 3)) (ho : 0 ≤ (pc : Int) + o) (hq : ((pc : Int) + o).toNat = q) (hq' : pc + 3 = q') (hY : ¬ x < z → Go p e below Φ (T.setTop (mkF m q Ls st))) (hN : x < z → Go p e below Φ (T.setTop (mkF m q' Ls st))) : Go p e below Φ (T.setTop (mkF m pc Ls (.int (Jvm.Free.XT.cmpL x z) :: st))) := by
  by_cases hc : ¬ x < z
  · exact g_ifY w hd ho hq (Jvm.Free.XT.ll_ge_t hc) (hY hc)
  · exact g_ifN w hd hq' (Jvm.Free.XT.ll_ge_f (Classical.not_not.mp hc)) (hN (Classical.not_not.mp hc))
theorem g_if_gt (w : Wk p l e R s m args below meth c Z a0 EL pr y bs ml rt T vm0 h k n) {x : Int32} {o : Int} {q' : Nat} (hd : decode bs pc = .ok (.ifCond .gt o, 3)) (ho : 0 ≤ (pc : Int) + o) (hq : ((pc : Int) + o).toNat = q) (hq' : pc + 3 = q') (hY : 0 < x → Go p e below Φ (T.setTop (mkF m q Ls st))) (hN : ¬ 0 < x → Go p e below Φ (T.setTop (mkF m q' Ls st))) : Go p e below Φ (T.setTop (mkF m pc Ls (.int x :: st))) := by
  by_cases hc : 0 < x
  · exact g_ifY w hd ho hq (Jvm.Free.XT.i0_gt_t hc) (hY hc)
  · exact g_ifN w hd hq' (Jvm.Free.XT.i0_gt_f hc) (hN hc)
theorem g_ic_gt (w : Wk p l e R s m args below meth c Z a0 EL pr y bs ml rt T vm0 h k n) {x z : Int32} {o : Int} {q' : Nat} (hd : decode bs pc = .ok (.if_icmp .gt o, 3)) (ho : 0 ≤ (pc : Int) + o) (hq : ((pc : Int) + o).toNat = q) (hq' : pc + 3 = q') (hY : z < x → Go p e below Φ (T.setTop (mkF m q Ls st))) (hN : ¬ z < x → Go p e below Φ (T.setTop (mkF m q' Ls st))) : Go p e below Φ (T.setTop (mkF m pc Ls (.int z :: .int x :: st))) := by
  by_cases hc : z < x
  · exact g_icY w hd ho hq (Jvm.Free.XT.ii_gt_t hc) (hY hc)
  · exact g_icN w hd hq' (Jvm.Free.XT.ii_gt_f hc) (hN hc)
theorem g_lc_gt (w : Wk p l e R s m args below meth c Z a0 EL pr y bs ml rt T vm0 h k n) {x z : Int64} {o : Int} {q' : Nat} (hd : decode bs pc = .ok (.ifCond .gt o, 3)) (ho : 0 ≤ (pc : Int) + o) (hq : ((pc : Int) + o).toNat = q) (hq' : pc + 3 = q') (hY : z < x → Go p e below Φ (T.setTop (mkF m q Ls st))) (hN : ¬ z < x → Go p e below Φ (T.setTop (mkF m q' Ls st))) : Go p e below Φ (T.setTop (mkF m pc Ls (.int (Jvm.Free.XT.cmpL x z) :: st))) := by
  by_cases hc : z < x
  · exact g_ifY w hd ho hq (Jvm.Free.XT.ll_gt_t hc) (hY hc)
  · exact g_ifN w hd hq' (Jvm.Free.XT.ll_gt_f hc) (hN hc)
theorem g_if_le (w : Wk p l e R s m args below meth c Z a0 EL pr y bs ml rt T vm0 h k n) {x : Int32} {o : Int} {q' : Nat} (hd : decode bs pc = .ok (.ifCond .le o, 3)) (ho : 0 ≤ (pc : Int) + o) (hq : ((pc : Int) + o).toNat = q) (hq' : pc + 3 = q') (hY : ¬ 0 < x → Go p e below Φ (T.setTop (mkF m q Ls st))) (hN : 0 < x → Go p e below Φ (T.setTop (mkF m q' Ls st))) : Go p e below Φ (T.setTop (mkF m pc Ls (.int x :: st))) := by
  by_cases hc : ¬ 0 < x
  · exact g_ifY w hd ho hq (Jvm.Free.XT.i0_le_t hc) (hY hc)
  · exact g_ifN w hd hq' (Jvm.Free.XT.i0_le_f (Classical.not_not.mp hc)) (hN (Classical.not_not.mp hc))
theorem g_ic_le (w : Wk p l e R s m args below meth c Z a0 EL pr y bs ml rt T vm0 h k n) {x z : Int32} {o : Int} {q' : Nat} (hd : decode bs pc = .ok (.if_icmp .le o, 3)) (ho : 0 ≤ (pc : Int) + o) (hq : ((pc : Int) + o).toNat = q) (hq' : pc + 3 = q') (hY : ¬ z < x → Go p e below Φ (T.setTop (mkF m q Ls st))) (hN : z < x → Go p e below Φ (T.setTop (mkF m q' Ls st))) : Go p e below Φ (T.setTop (mkF m pc Ls (.int z :: .int x :: st))) := by
  by_cases hc : ¬ z < x
  · exact g_icY w hd ho hq (Jvm.Free.XT.ii_le_t hc) (hY hc)
  · exact g_icN w hd hq' (Jvm.Free.XT.ii_le_f (Classical.not_not.mp hc)) (hN (Classical.not_not.mp hc))
theorem g_lc_le (w : Wk p l e R s m args below meth c Z a0 EL pr y bs ml rt T vm0 h k n) {x z : Int64} {o : Int} {q' : Nat} (hd : decode bs pc = .ok (.ifCond .le o, 3)) (ho : 0 ≤ (pc : Int) + o) (hq : ((pc : Int) + o).toNat = q) (hq' : pc + 3 = q') (hY : ¬ z < x → Go p e below Φ (T.setTop (mkF m q Ls st))) (hN : z < x → Go p e below Φ (T.setTop (mkF m q' Ls st))) : Go p e below Φ (T.setTop (mkF m pc Ls (.int (Jvm.Free.XT.cmpL x z) :: st))) := by
  by_cases hc : ¬ z < x
  · exact g_ifY w hd ho hq (Jvm.Free.XT.ll_le_t hc) (hY hc)
  · exact g_ifN w hd hq' (Jvm.Free.XT.ll_le_f (Classical.not_not.mp hc)) (hN (Classical.not_not.mp hc))
theorem g_ar_eq (w : Wk p l e R s m args below meth c Z a0 EL pr y bs ml rt T vm0 h k n) {a b : Addr} {o : Int} {q' : Nat} (hd : decode bs pc = .ok (.if_acmp .eq o, 3)) (ho : 0 ≤ (pc : Int) + o) (hq : ((pc : Int) + o).toNat = q) (hq' : pc + 3 = q') (hY : a = b → Go p e below Φ (T.setTop (mkF m q Ls st))) (hN : ¬ a = b → Go p e below Φ (T.setTop (mkF m q' Ls st))) : Go p e below Φ (T.setTop (mkF m pc Ls (.ref b :: .ref a :: st))) := by
  by_cases hc : a = b
  · exact g_acY w hd ho hq rfl rfl (Jvm.Free.XT.aa_eq_t (congrArg Value.ref hc)) (hY hc)
  · exact g_acN w hd hq' rfl rfl (Jvm.Free.XT.aa_eq_f fun z => hc (Value.ref.inj z)) (hN hc)
theorem g_ar_ne (w : Wk p l e R s m args below meth c Z a0 EL pr y bs ml rt T vm0 h k n) {a b : Addr} {o : Int} {q' : Nat} (hd : decode bs pc = .ok (.if_acmp .ne o, 3)) (ho : 0 ≤ (pc : Int) + o) (hq : ((pc : Int) + o).toNat = q) (hq' : pc + 3 = q') (hY : ¬ a = b → Go p e below Φ (T.setTop (mkF m q Ls st))) (hN : a = b → Go p e below Φ (T.setTop (mkF m q' Ls st))) : Go p e below Φ (T.setTop (mkF m pc Ls (.ref b :: .ref a :: st))) := by
  by_cases hc : a = b
  · exact g_acN w hd hq' rfl rfl (Jvm.Free.XT.aa_ne_f (congrArg Value.ref hc)) (hN hc)
  · exact g_acY w hd ho hq rfl rfl (Jvm.Free.XT.aa_ne_t fun z => hc (Value.ref.inj z)) (hY hc)
theorem g_ldcI (w : Wk p l e R s m args below meth c Z a0 EL pr y bs ml rt T vm0 h k n) {i : Nat} {v : Int32} (hd : decode bs pc = .ok (.ldc i, 2)) (hq : pc + 2 = q) (wc : (Cond.constant y.cls i v).before a0 Z = true) (hr : Go p e below Φ (T.setTop (mkF m q Ls (.int v :: st)))) : Go p e below Φ (T.setTop (mkF m pc Ls st)) := by
  subst hq; obtain ⟨⟨hx, hb1, hml, hrt, hlk, hnm, hEL⟩, k0, locs, X, hh, hZ, hown, hS, hk0, N, C, O, hpr⟩ := w
  exact hr.pre fun t r => X.ldcI hx hown (mvT (s := s.setVm vm0) hZ wc) rfl (hb hb1 hd) r
theorem g_ldcWI (w : Wk p l e R s m args below meth c Z a0 EL pr y bs ml rt T vm0 h k n) {i : Nat} {v : Int32} (hd : decode bs pc = .ok (.ldc_w i, 3)) (hq : pc + 3 = q) (wc : (Cond.constant y.cls i v).before a0 Z = true) (hr : Go p e below Φ (T.setTop (mkF m q Ls (.int v :: st)))) : Go p e below Φ (T.setTop (mkF m pc Ls st)) := by
  subst hq; obtain ⟨⟨hx, hb1, hml, hrt, hlk, hnm, hEL⟩, k0, locs, X, hh, hZ, hown, hS, hk0, N, C, O, hpr⟩ := w
  exact hr.pre fun t r => X.ldcWI hx hown (mvT (s := s.setVm vm0) hZ wc) rfl (hb hb1 hd) r
theorem g_ldc2J (w : Wk p l e R s m args below meth c Z a0 EL pr y bs ml rt T vm0 h k n) {i : Nat} {v : Int64} (hd : decode bs pc = .ok (.ldc2_w i, 3)) (hq : pc + 3 = q) (wc : (Cond.constantLong y.cls i v).before a0 Z = true) (hr : Go p e below Φ (T.setTop (mkF m q Ls (.long v :: st)))) : Go p e below Φ (T.setTop (mkF m pc Ls st)) := by
  subst hq; obtain ⟨⟨hx, hb1, hml, hrt, hlk, hnm, hEL⟩, k0, locs, X, hh, hZ, hown, hS, hk0, N, C, O, hpr⟩ := w
  exact hr.pre fun t r => X.ldc2J hx hown (mvT (s := s.setVm vm0) hZ wc) rfl (hb hb1 hd) r
theorem ext_refl (h : Heap) : Ext h h := ⟨Nat.le_refl _, fun _ _ q => q⟩
theorem ext_trans {h1 h2 h3 : Heap} (E : Ext h1 h2) (F : Ext h2 h3) : Ext h1 h3 := ⟨Nat.le_trans E.1 F.1, fun a c q => F.2 _ _ (E.2 _ _ q)⟩
theorem ext_keep {h1 h2 h3 : Heap} {a : Addr} (E : Ext h1 h2) (K : Keep h2 h3 [a]) (ha : h1.size ≤ a) : Ext h1 h3 := ⟨Nat.le_trans E.1 K.1, fun x c q => K.2.1 x c (E.2 _ _ q) fun hm => by
  have := (Array.getElem?_eq_some_iff.mp q).1
  cases List.mem_singleton.mp hm
  omega⟩
theorem ext_wr {h1 h2 h3 : Heap} {a : Addr} {sl : Nat} {v : Value} (E : Ext h1 h2) (W : Wr h2 h3 a sl v) (ha : h1.size ≤ a) : Ext h1 h3 := ext_keep E (Keep.of_wr W) ha
theorem Wk.sta (w : Wk p l e R s m args below meth c Z a0 EL pr y bs ml rt T vm0 h k n) {C nm d : String} {v : Value} (S : Sta Z Z.heap C nm d v) : Sta Z h C nm d v := S.ext w.old
/-- getfield -/
theorem g_getF (w : Wk p l e R s m args below meth c Z a0 EL pr y bs ml rt T vm0 h k n) {i : Nat} {R0 O' nm d host : String} {a : Addr} {v : Value} (hd : decode bs pc = .ok (.getfield i, 3)) (hq : pc + 3 = q) (wl : (Cond.fieldLink y.cls i R0 nm d).before a0 Z = true ∨ (Cond.fieldLinkNest y.cls i R0 nm d host).before a0 Z = true) (via : Via Z R0 O' nm d) (F : Fld Z h a O' nm d v)
    (K : ∀ T', Wk p l e R s m args below meth c Z a0 EL pr y bs ml rt T' vm0 h k n → Go p e below Φ (T'.setTop (mkF m q Ls (v :: st)))) : Go p e below Φ (T.setTop (mkF m pc Ls (.ref a :: st))) := by
  subst hq; obtain ⟨⟨hx, hb1, hml, hrt, hlk, hnm, hEL⟩, k0, locs, X, hh, hZ, hown, hS, hk0, N, C, O, hpr⟩ := w
  obtain ⟨T', X', e', g'⟩ := getF X hx hZ hown wl via hh F (g := mkF m pc Ls (.ref a :: st)) rfl rfl (hb hb1 hd)
  exact (K T' ⟨⟨hx, hb1, hml, hrt, hlk, hnm, hEL⟩, k0, locs, X', e', hZ, hown, hS, hk0, N, C, O, hpr⟩).pre g'
/-- getstatic -/
theorem g_getS (w : Wk p l e R s m args below meth c Z a0 EL pr y bs ml rt T vm0 h k n) {i : Nat} {R0 O' nm d : String} {v : Value} (hd : decode bs pc = .ok (.getstatic i, 3)) (hq : pc + 3 = q) (wl : (Cond.fieldLink y.cls i R0 nm d).before a0 Z = true) (via : Via Z R0 O' nm d) (F : Sta Z Z.heap O' nm d v)
    (K : ∀ T', Wk p l e R s m args below meth c Z a0 EL pr y bs ml rt T' vm0 h k n → Go p e below Φ (T'.setTop (mkF m q Ls (v :: st)))) : Go p e below Φ (T.setTop (mkF m pc Ls st)) := by
  subst hq; have F' := w.sta F; obtain ⟨⟨hx, hb1, hml, hrt, hlk, hnm, hEL⟩, k0, locs, X, hh, hZ, hown, hS, hk0, N, C, O, hpr⟩ := w
  obtain ⟨T', X', e', g'⟩ := getS (host := "") X hx hZ hown wl via hh F' (g := mkF m pc Ls st) rfl (hb hb1 hd)
  exact (K T' ⟨⟨hx, hb1, hml, hrt, hlk, hnm, hEL⟩, k0, locs, X', e', hZ, hown, hS, hk0, N, C, O, hpr⟩).pre g'
/-- putfield of an object that is new -/
theorem g_putF (w : Wk p l e R s m args below meth c Z a0 EL pr y bs ml rt T vm0 h k n) {i kk : Nat} {R0 O' nm d C' : String} {a : Addr} {v v' old : Value} {ty : FieldType} (hd : decode bs pc = .ok (.putfield i, 3)) (hq : pc + 3 = q) (wl : (Cond.fieldLink y.cls i R0 nm d).before a0 Z = true) (via : Via Z R0 O' nm d) (F : Fld Z h a O' nm d old) (E : Exa Z h a C')
    (L : (Cond.lays C' O' nm d).before a0 Z = true ∨ ((Cond.laysFinal C' O' nm d).before a0 Z = true ∧ y.cls = O' ∧ y.name = "<init>")) (wi : (Cond.instantiable C' kk).before a0 Z = true) (hty : parseFieldDescriptor d = some ty) (hn : narrow ty v = v') (hf : fits ty v' = true) (ga : Z.heap.size ≤ a) (S : Safe Z EL vm0 h a)
    (K : ∀ T' h', Wk p l e R s m args below meth c Z a0 EL pr y bs ml rt T' vm0 h' k n → Wr h h' a (Jvm.RoadKit.slotOf Z O' nm d) v' → Go p e below Φ (T'.setTop (mkF m q Ls st))) : Go p e below Φ (T.setTop (mkF m pc Ls (v :: .ref a :: st))) := by
  subst hq; obtain ⟨⟨hx, hb1, hml, hrt, hlk, hnm, hEL⟩, k0, locs, X, hh, hZ, hown, hS, hk0, N, C, O, hpr⟩ := w
  obtain ⟨T', h', X', e', W, g'⟩ := putFN X hx hZ hown wl via hh F E (L.imp id fun q => ⟨q.1, q.2.1, hnm.trans q.2.2⟩) wi hty hn hf (g := mkF m pc Ls (v :: .ref a :: st)) rfl rfl (hb hb1 hd)
  exact (K T' h' ⟨⟨hx, hb1, hml, hrt, hlk, hnm, hEL⟩, k0, _, X', e', hZ, hown, hS, by rw [W.size]; exact hk0, N.snoc X' ga, C.trans (CHr.wr W S C.1), ext_wr O W ga, hpr⟩ W).pre g'
/-- new -/
theorem g_new (w : Wk p l e R s m args below meth c Z a0 EL pr y bs ml rt T vm0 h k n) {i nn : Nat} {C' : String} (hd : decode bs pc = .ok (.new i, 3)) (hq : pc + 3 = q) (w1 : (Cond.classLink y.cls i C').before a0 Z = true) (w2 : (Cond.instantiable C' nn).before a0 Z = true) (w3 : (Cond.initialized C').before a0 Z = true) (hc : k + 1 ≤ R.cells) (hl : n + nn ≤ R.slots)
    (K : ∀ T' h' a, Wk p l e R s m args below meth c Z a0 EL pr y bs ml rt T' vm0 h' (k + 1) (n + nn) → Ext h h' → h.size ≤ a → Z.heap.size ≤ a → Exa Z h' a C' → (∀ {O' nm d : String} {ty : FieldType}, Laid Z a0 C' O' nm d → parseFieldDescriptor d = some ty → Fld Z h' a O' nm d (defaultValue ty)) → Safe Z EL vm0 h' a → Go p e below Φ (T'.setTop (mkF m q Ls (.ref a :: st)))) : Go p e below Φ (T.setTop (mkF m pc Ls st)) := by
  subst hq; obtain ⟨⟨hx, hb1, hml, hrt, hlk, hnm, hEL⟩, k0, locs, X, hh, hZ, hown, hS, hk0, N, C, O, hpr⟩ := w
  obtain ⟨T', h', X', e', E, A, D, -, g'⟩ := newO X hx hZ hown w1 w2 w3 hh (g := mkF m pc Ls st) rfl (hb hb1 hd) hc hl
  exact (K T' h' h.size ⟨⟨hx, hb1, hml, hrt, hlk, hnm, hEL⟩, k0, locs, X', e', hZ, hown, hS, Nat.le_trans hk0 E.1, N, C.trans (CHr.ext E C.1), ext_trans O E, hpr⟩ E (Nat.le_refl _) O.1 A D (Safe.ext E C.1 (Safe.new (Nat.le_refl _)))).pre g'
/-- an array, its components known -/
def Ar (Z : State) (h : Heap) (a : Addr) (ty : FieldType) (vs : List Value) : Prop := vs.length < 2147483648 ∧ ∃ kC d, Arv Z h a kC ty (Int32.ofNat vs.length) vs d
theorem ofNat_clamp {n : Nat} (h : n < 2147483648) : (Int32.ofNat n).toNatClampNeg = n := by
  have : (Int32.ofNat n).toInt = n := Int32.toInt_ofNat_of_lt (by omega)
  simp only [Int32.toNatClampNeg, this]; rfl
theorem ofNat_nonneg {n : Nat} (h : n < 2147483648) : ¬ Int32.ofNat n < 0 := by
  have : (Int32.ofNat n).toInt = n := Int32.toInt_ofNat_of_lt (by omega)
  rw [Int32.lt_iff_toInt_lt, this, show (0 : Int32).toInt = 0 from rfl]; omega
theorem Ar.lt {a : Addr} {ty : FieldType} {vs : List Value} (F : Ar Z h a ty vs) : a < h.size := by obtain ⟨-, _, _, F⟩ := F; exact F.lt
theorem Ar.ext {h' : Heap} {a : Addr} {ty : FieldType} {vs : List Value} (F : Ar Z h a ty vs) (E : Ext h h') : Ar Z h' a ty vs := by obtain ⟨q, _, _, F⟩ := F; exact ⟨q, _, _, F.ext E⟩
theorem Ar.keep {h' : Heap} {a : Addr} {ty : FieldType} {vs : List Value} {ws : List Addr} (F : Ar Z h a ty vs) (K : Keep h h' ws) (q : a ∉ ws) : Ar Z h' a ty vs := by obtain ⟨q', _, _, F⟩ := F; exact ⟨q', _, _, F.keep K q⟩
theorem Ar.other {h' : Heap} {a b : Addr} {ty : FieldType} {vs : List Value} {sl : Nat} {v : Value} (F : Ar Z h b ty vs) (W : Wr h h' a sl v) (q : b ≠ a) : Ar Z h' b ty vs := by obtain ⟨q', _, _, F⟩ := F; exact ⟨q', _, _, F.other W q⟩
theorem Ar.arv {a : Addr} {ty : FieldType} {vs : List Value} (F : Ar Z h a ty vs) (d' : Value) : ∃ kC, Arv Z h a kC ty (Int32.ofNat vs.length) vs d' := by
  obtain ⟨q, kC, d, c, A, r1, r2, r3, H, G⟩ := F
  have e : ∀ i, i < c.slots.size → vs.getD i d' = vs.getD i d := fun i hi => by
    rw [r2, ofNat_clamp q] at hi; simp [List.getD_eq_getElem?_getD, hi]
  exact ⟨kC, c, A, r1, r2, r3, fun i hi => by rw [e i hi]; exact H i hi, fun i hi => by rw [e i hi]; exact G i hi⟩
/-- newarray -/
theorem g_newarr (w : Wk p l e R s m args below meth c Z a0 EL pr y bs ml rt T vm0 h k n) {aty : ArrayType} {z : Int32} {len cap : Nat} (hd : decode bs pc = .ok (.newarray aty, 2)) (hq : pc + 2 = q) (w1 : (Cond.arrayClass (newarray.typeOf aty)).before a0 Z = true) (hz : z = Int32.ofNat len) (hl : len ≤ cap) (hcap : cap * 8 ≤ 536870912) (hc : k + 1 ≤ R.cells) (hs : n + cap ≤ R.slots)
    (K : ∀ T' h' a, Wk p l e R s m args below meth c Z a0 EL pr y bs ml rt T' vm0 h' (k + 1) (n + cap) → Ext h h' → h.size ≤ a → Z.heap.size ≤ a → Ar Z h' a (newarray.typeOf aty) (List.replicate len (defaultValue (newarray.typeOf aty))) → Safe Z EL vm0 h' a → Go p e below Φ (T'.setTop (mkF m q Ls (.ref a :: st)))) : Go p e below Φ (T.setTop (mkF m pc Ls (.int z :: st))) := by
  subst hq hz; obtain ⟨⟨hx, hb1, hml, hrt, hlk, hnm, hEL⟩, k0, locs, X, hh, hZ, hown, hS, hk0, N, C, O, hpr⟩ := w
  have hlen : len < 2147483648 := by omega
  obtain ⟨T', h', cA, X', e', E, A, g'⟩ := newP X hx hZ w1 hh (g := mkF m pc Ls (.int (Int32.ofNat len) :: st)) rfl (hb hb1 hd) rfl (ofNat_nonneg hlen) (cap := cap) (by rw [ofNat_clamp hlen]; exact hl) hcap hc hs
  refine (K T' h' h.size ⟨⟨hx, hb1, hml, hrt, hlk, hnm, hEL⟩, k0, locs, X', e', hZ, hown, hS, Nat.le_trans hk0 E.1, N, C.trans (CHr.ext E C.1), ext_trans O E, hpr⟩ E (Nat.le_refl _) O.1 ⟨by simpa using hlen, cA, defaultValue (newarray.typeOf aty), ?_⟩ (Safe.ext E C.1 (Safe.new (Nat.le_refl _)))).pre g'
  have q := (Arv.new A (ofNat_nonneg hlen)).pad (vs' := List.replicate len (defaultValue (newarray.typeOf aty))) (fun i => by simpa using pad_rep [] (defaultValue (newarray.typeOf aty)) len i)
  simpa using q
theorem inb {vs : List Value} {i : Nat} {cl : Cell} (hv : vs.length < 2147483648) (S : cl.slots.size = (Int32.ofNat vs.length).toNatClampNeg) (hi : i < vs.length) : ¬ (Int32.ofNat i < 0 ∨ cl.slots.size ≤ (Int32.ofNat i).toNatClampNeg) := by
  rw [S, ofNat_clamp hv, ofNat_clamp (by omega)]
  intro q
  rcases q with q | q
  · exact ofNat_nonneg (by omega) q
  · omega
/-- castore into a new array -/
theorem g_castore (w : Wk p l e R s m args below meth c Z a0 EL pr y bs ml rt T vm0 h k n) {a : Addr} {vs : List Value} {j x x' : Int32} {i : Nat} (hd : decode bs pc = .ok (.castore, 1)) (hq : pc + 1 = q) (A : Ar Z h a .char vs) (hj : j = Int32.ofNat i) (hi : i < vs.length) (hx' : nar .char x = x') (ga : Z.heap.size ≤ a) (S : Safe Z EL vm0 h a)
    (K : ∀ T' h', Wk p l e R s m args below meth c Z a0 EL pr y bs ml rt T' vm0 h' k n → Wr h h' a i (.int x') → Ar Z h' a .char (vs.set i (.int x')) → Go p e below Φ (T'.setTop (mkF m q Ls st))) : Go p e below Φ (T.setTop (mkF m pc Ls (.int x :: .int j :: .ref a :: st))) := by
  subst hq hj hx'; obtain ⟨⟨hx, hb1, hml, hrt, hlk, hnm, hEL⟩, k0, locs, X, hh, hZ, hown, hS, hk0, N, C, O, hpr⟩ := w
  obtain ⟨hv, kC, dv, cl, B, q1, S1, q3, H1, G1⟩ := A
  obtain ⟨T', h', X', e', W, g'⟩ := stC X hx hZ hh B (j := Int32.ofNat i) (inb hv S1 hi) (g := mkF m pc Ls (.int x :: .int (Int32.ofNat i) :: .ref a :: st)) rfl rfl (hb hb1 hd)
  have V := Arv.set B q1 S1 q3 H1 G1 (fits_nar_char x) W i (ofNat_clamp (by omega)) hi
  rw [ofNat_clamp (by omega)] at W
  exact (K T' h' ⟨⟨hx, hb1, hml, hrt, hlk, hnm, hEL⟩, k0, _, X', e', hZ, hown, hS, by rw [W.size]; exact hk0, N.snoc X' ga, C.trans (CHr.wr W S C.1), ext_wr O W ga, hpr⟩ W ⟨by simpa using hv, kC, dv, by simpa using V⟩).pre g'
/-- bastore into a new byte[] -/
theorem g_bastore (w : Wk p l e R s m args below meth c Z a0 EL pr y bs ml rt T vm0 h k n) {a : Addr} {vs : List Value} {j x x' : Int32} {i : Nat} (hd : decode bs pc = .ok (.bastore, 1)) (hq : pc + 1 = q) (A : Ar Z h a .byte vs) (hj : j = Int32.ofNat i) (hi : i < vs.length) (hx' : nar .byte x = x') (ga : Z.heap.size ≤ a) (S : Safe Z EL vm0 h a)
    (K : ∀ T' h', Wk p l e R s m args below meth c Z a0 EL pr y bs ml rt T' vm0 h' k n → Wr h h' a i (.int x') → Ar Z h' a .byte (vs.set i (.int x')) → Go p e below Φ (T'.setTop (mkF m q Ls st))) : Go p e below Φ (T.setTop (mkF m pc Ls (.int x :: .int j :: .ref a :: st))) := by
  subst hq hj hx'; obtain ⟨⟨hx, hb1, hml, hrt, hlk, hnm, hEL⟩, k0, locs, X, hh, hZ, hown, hS, hk0, N, C, O, hpr⟩ := w
  obtain ⟨hv, kC, dv, cl, B, q1, S1, q3, H1, G1⟩ := A
  obtain ⟨T', h', X', e', W, g'⟩ := stB X hx hZ hh B (j := Int32.ofNat i) (inb hv S1 hi) (g := mkF m pc Ls (.int x :: .int (Int32.ofNat i) :: .ref a :: st)) rfl rfl (hb hb1 hd)
  have V := Arv.set B q1 S1 q3 H1 G1 (fits_nar_byte x) W i (ofNat_clamp (by omega)) hi
  rw [ofNat_clamp (by omega)] at W
  exact (K T' h' ⟨⟨hx, hb1, hml, hrt, hlk, hnm, hEL⟩, k0, _, X', e', hZ, hown, hS, by rw [W.size]; exact hk0, N.snoc X' ga, C.trans (CHr.wr W S C.1), ext_wr O W ga, hpr⟩ W ⟨by simpa using hv, kC, dv, by rw [List.length_set]; exact V⟩).pre g'
theorem g_alen (w : Wk p l e R s m args below meth c Z a0 EL pr y bs ml rt T vm0 h k n) {a : Addr} {ty : FieldType} {vs : List Value} (hd : decode bs pc = .ok (.arraylength, 1)) (hq : pc + 1 = q) (A : Ar Z h a ty vs) (hr : Go p e below Φ (T.setTop (mkF m q Ls (.int (Int32.ofNat vs.length) :: st)))) : Go p e below Φ (T.setTop (mkF m pc Ls (.ref a :: st))) := by
  subst hq; obtain ⟨⟨hx, hb1, hml, hrt, hlk, hnm, hEL⟩, k0, locs, X, hh, hZ, hown, hS, hk0, N, C, O, hpr⟩ := w
  obtain ⟨hv, kC, dv, cl, B, q1, S1, q3, H1, G1⟩ := A
  refine hr.pre fun t r => X.arraylength (g := mkF m pc Ls (.ref a :: st)) hx (by rw [hh]; exact B.1) (State.isArrayOf_alike hZ.alike B.2.1) rfl rfl (hb hb1 hd) t ?_
  rw [len_of S1 q3]; exact r
theorem g_caload (w : Wk p l e R s m args below meth c Z a0 EL pr y bs ml rt T vm0 h k n) {a : Addr} {vs : List Value} {j : Int32} {i : Nat} {v : Value} (hd : decode bs pc = .ok (.caload, 1)) (hq : pc + 1 = q) (A : Ar Z h a .char vs) (hj : j = Int32.ofNat i) (hi : i < vs.length) (hv' : vs[i]? = some v) (hr : Go p e below Φ (T.setTop (mkF m q Ls (v :: st)))) : Go p e below Φ (T.setTop (mkF m pc Ls (.int j :: .ref a :: st))) := by
  subst hq hj; obtain ⟨⟨hx, hb1, hml, hrt, hlk, hnm, hEL⟩, k0, locs, X, hh, hZ, hown, hS, hk0, N, C, O, hpr⟩ := w
  obtain ⟨hv, kC, dv, cl, B, q1, S1, q3, H1, G1⟩ := A
  refine hr.pre fun t r => X.caload (g := mkF m pc Ls (.int (Int32.ofNat i) :: .ref a :: st)) hx (by rw [hh]; exact B.1) (State.isArrayOf_alike hZ.alike B.2.1) B.2.2 (inb hv S1 hi) (H1.at (inb hv S1 hi) (by rw [ofNat_clamp (by omega), List.getD_eq_getElem?_getD, hv']; rfl)) rfl rfl (hb hb1 hd) t r
theorem g_baload (w : Wk p l e R s m args below meth c Z a0 EL pr y bs ml rt T vm0 h k n) {a : Addr} {vs : List Value} {j : Int32} {i : Nat} {v : Value} (hd : decode bs pc = .ok (.baload, 1)) (hq : pc + 1 = q) (A : Ar Z h a .byte vs) (hj : j = Int32.ofNat i) (hi : i < vs.length) (hv' : vs[i]? = some v) (hr : Go p e below Φ (T.setTop (mkF m q Ls (v :: st)))) : Go p e below Φ (T.setTop (mkF m pc Ls (.int j :: .ref a :: st))) := by
  subst hq hj; obtain ⟨⟨hx, hb1, hml, hrt, hlk, hnm, hEL⟩, k0, locs, X, hh, hZ, hown, hS, hk0, N, C, O, hpr⟩ := w
  obtain ⟨hv, kC, dv, cl, B, q1, S1, q3, H1, G1⟩ := A
  refine hr.pre fun t r => X.baloadBytes (g := mkF m pc Ls (.int (Int32.ofNat i) :: .ref a :: st)) hx (by rw [hh]; exact B.1) (State.isArrayOf_alike hZ.alike B.2.1) B.2.2 (inb hv S1 hi) (H1.at (inb hv S1 hi) (by rw [ofNat_clamp (by omega), List.getD_eq_getElem?_getD, hv']; rfl)) rfl rfl (hb hb1 hd) t r
/-- checkcast, instanceof: yes -/
theorem g_cast (w : Wk p l e R s m args below meth c Z a0 EL pr y bs ml rt T vm0 h k n) {i : Nat} {K' : String} {a : Addr} (hd : decode bs pc = .ok (.checkcast i, 3)) (hq : pc + 3 = q) (w1 : (Cond.classLink y.cls i K').before a0 Z = true) (F : Ins Z h a K' true) (K : ∀ T', Wk p l e R s m args below meth c Z a0 EL pr y bs ml rt T' vm0 h k n → Go p e below Φ (T'.setTop (mkF m q Ls (.ref a :: st)))) : Go p e below Φ (T.setTop (mkF m pc Ls (.ref a :: st))) := by
  subst hq; obtain ⟨⟨hx, hb1, hml, hrt, hlk, hnm, hEL⟩, k0, locs, X, hh, hZ, hown, hS, hk0, N, C, O, hpr⟩ := w
  obtain ⟨T', X', e', g'⟩ := castY X hx hZ hown w1 hh F (g := mkF m pc Ls (.ref a :: st)) rfl rfl (hb hb1 hd)
  exact (K T' ⟨⟨hx, hb1, hml, hrt, hlk, hnm, hEL⟩, k0, locs, X', e', hZ, hown, hS, hk0, N, C, O, hpr⟩).pre g'
theorem g_inst (w : Wk p l e R s m args below meth c Z a0 EL pr y bs ml rt T vm0 h k n) {i : Nat} {K' : String} {a : Addr} (hd : decode bs pc = .ok (.instanceof i, 3)) (hq : pc + 3 = q) (w1 : (Cond.classLink y.cls i K').before a0 Z = true) (F : Ins Z h a K' true) (K : ∀ T', Wk p l e R s m args below meth c Z a0 EL pr y bs ml rt T' vm0 h k n → Go p e below Φ (T'.setTop (mkF m q Ls (.int 1 :: st)))) : Go p e below Φ (T.setTop (mkF m pc Ls (.ref a :: st))) := by
  subst hq; obtain ⟨⟨hx, hb1, hml, hrt, hlk, hnm, hEL⟩, k0, locs, X, hh, hZ, hown, hS, hk0, N, C, O, hpr⟩ := w
  obtain ⟨T', X', e', g'⟩ := instY X hx hZ hown w1 hh F (g := mkF m pc Ls (.ref a :: st)) rfl rfl (hb hb1 hd)
  exact (K T' ⟨⟨hx, hb1, hml, hrt, hlk, hnm, hEL⟩, k0, locs, X', e', hZ, hown, hS, hk0, N, C, O, hpr⟩).pre g'
/-- Object.<init> -/
theorem g_initO (w : Wk p l e R s m args below meth c Z a0 EL pr y bs ml rt T vm0 h k n) {i W : Nat} {a : Addr} (hd : decode bs pc = .ok (.invokespecial i, 3)) (hq : pc + 3 = q) (hsz : Ls.size = ml) (w1 : (Cond.methodLink y.cls i Lib.objectInit).before a0 Z = true) (w2 : (Cond.instanceMethod Lib.objectInit).before a0 Z = true) (w3 : (Cond.code Lib.objectInit ⟨#[0xb1]⟩ 1 none).before a0 Z = true) (hW : 2 * 0 + (st.map fun v => v.category).sum ≤ W) (hf : 1 ≤ R.frames) (hl : W + 12 ≤ R.locals)
    (K : ∀ T', Wk p l e R s m args below meth c Z a0 EL pr y bs ml rt T' vm0 h k n → Go p e below Φ (T'.setTop (mkF m q Ls st))) : Go p e below Φ (T.setTop (mkF m pc Ls (.ref a :: st))) := by
  subst hq; obtain ⟨⟨hx, hb1, hml, hrt, hlk, hnm, hEL⟩, k0, locs, X, hh, hZ, hown, hS, hk0, N, C, O, hpr⟩ := w
  obtain ⟨T', X', e', g'⟩ := initO X hx hZ hown w1 w2 w3 hh (g := mkF m pc Ls (.ref a :: st)) rfl (hsz.trans hml.symm) rfl (hb hb1 hd) hf hW hl
  exact (K T' ⟨⟨hx, hb1, hml, hrt, hlk, hnm, hEL⟩, k0, locs, X', e', hZ, hown, hS, hk0, N, C, O, hpr⟩).pre g'
/-- ldc of a String constant of EL -/
theorem g_ldcS (w : Wk p l e R s m args below meth c Z a0 EL pr y bs ml rt T vm0 h k n) {i nn : Nat} {text : String} {vs : List Value} {z : Int32} (hd : decode bs pc = .ok (.ldc i, 2)) (hq : pc + 2 = q) (hp : pr = false) (w1 : (Cond.stringLink y.cls i text).before a0 Z = true) (wS : ∀ a ∈ Bundle.stringAtoms, a.before a0 Z = true) (hmem : (y.cls, i) ∈ EL)
    (ht : (∀ c ∈ text.toList, c.toNat < 256) ∧ text.toList.map (fun c => Value.int (Jvm.Lit.byteI c.toNat.toUInt16)) = vs) (hz : ¬ z < 0) (hl : z.toNatClampNeg = vs.length) (hn : 4 * text.toList.length ≤ nn) (hbig : nn ≤ 536870912) (hc : k + 2 ≤ R.cells) (hs : n + (nn + 4) ≤ R.slots)
    (K : ∀ T' vm' h' a b kb, Wk p l e R s m args below meth c Z a0 EL pr y bs ml rt T' vm' h' (k + 2) (n + (nn + 4)) → Ext h h' → Exa Z h' a "java/lang/String" → Fld Z h' a "java/lang/String" "coder" "B" (.int 0) → Fld Z h' a "java/lang/String" "value" "[B" (.ref b) → Arv Z h' b kb .byte z vs (.int 0) → CHr Z EL vm0 h vm' h' → (∀ x, Safe Z EL vm' h' x → x ≠ a ∧ x ≠ b) → Go p e below Φ (T'.setTop (mkF m q Ls (.ref a :: st)))) : Go p e below Φ (T.setTop (mkF m pc Ls st)) := by
  subst hq hp; obtain ⟨⟨hx, hb1, hml, hrt, hlk, hnm, hEL⟩, k0, locs, X, hh, hZ, hown, hS, hk0, N, C, O, hpr⟩ := w
  obtain ⟨a, T', h', k1, b, kb, X', e', E, hS', hk', hZ', hown', E1, F1, F2, A1, -, -, C', -, Sf, g'⟩ := ldcCH X hx hZ hown w1 wS hh hS hk0 hEL hmem C.1 ht hz hl (g := mkF m pc Ls st) rfl (hb hb1 hd) hn hbig hc hs
  exact (K T' T'.vm h' a b kb ⟨⟨hx, hb1, hml, hrt, hlk, hnm, hEL⟩, k1, locs, X', e', hZ', hown', hS', hk', N, C.trans C', ext_trans O E, fun q => by cases q⟩ E E1 F1 F2 A1 C' Sf).pre g'
/-- ldc of a String constant, its text not asked -/
theorem g_ldcO (w : Wk p l e R s m args below meth c Z a0 EL pr y bs ml rt T vm0 h k n) {i nn : Nat} {text : String} (hd : decode bs pc = .ok (.ldc i, 2)) (hq : pc + 2 = q) (hp : pr = false) (w1 : (Cond.stringLink y.cls i text).before a0 Z = true) (wS : ∀ a ∈ Bundle.stringAtoms, a.before a0 Z = true) (hn : 4 * text.toList.length ≤ nn) (hbig : nn ≤ 536870912) (hc : k + 2 ≤ R.cells) (hs : n + (nn + 4) ≤ R.slots)
    (K : ∀ T' vm' h' a, Wk p l e R s m args below meth c Z a0 EL pr y bs ml rt T' vm' h' (k + 2) (n + (nn + 4)) → Ext h h' → CHr Z EL vm0 h vm' h' → Go p e below Φ (T'.setTop (mkF m q Ls (.ref a :: st)))) : Go p e below Φ (T.setTop (mkF m pc Ls st)) := by
  subst hq hp; obtain ⟨⟨hx, hb1, hml, hrt, hlk, hnm, hEL⟩, k0, locs, X, hh, hZ, hown, hS, hk0, N, C, O, hpr⟩ := w
  obtain ⟨a, T', h', k1, X', e', E, hS', hk', hZ', hown', C', -, g'⟩ := ldcOH X hx hZ hown w1 wS hh hS hk0 hEL C.1 (g := mkF m pc Ls st) rfl (hb hb1 hd) hn hbig hc hs
  exact (K T' T'.vm h' a ⟨⟨hx, hb1, hml, hrt, hlk, hnm, hEL⟩, k1, locs, X', e', hZ', hown', hS', hk', N, C.trans C', ext_trans O E, fun q => by cases q⟩ E C').pre g'
/-- a callee's contract, at the call -/
theorem Con.back {y' : MethodName} {bs' : ByteArray} {ml' : Nat} {rt' : Option FieldType} {rm : Room} {as' : Array Value} {sf : List Addr} {Q : Option Value → Heap → Prop} {len W : Nat} (hM : Con l Z EL pr y' bs' ml' rt' [] rm as' sf h Q) (hsf : ∀ x ∈ sf, x < h.size ∧ Safe Z EL vm0 h x) (hZ : Z.Warmed39 vm0) (wc : (Cond.code y' bs' ml' rt').before a0 Z = true) (wz : (Cond.initialized y'.cls).before a0 Z = true)
    (hf : rm.frames + 1 ≤ R.frames) (hl : W + (ml' + 11) + rm.locals ≤ R.locals) (hEL : EW Z a0 EL) (H : CHv Z EL vm0 h) :
    BackS l R p e below (s.setVm vm0) args y' len W (fun A a => a = as' ∧ A.U.heap = h ∧ A.cells + rm.cells ≤ R.cells ∧ A.slots + rm.slots ≤ R.slots)
      (fun A _ v B => ∃ L, (Q v B.U.heap ∧ Ext Z.heap B.U.heap ∧ Fr Z.heap.size L) ∧ B.locs = A.locs ++ L ∧ B.cells = A.cells + rm.cells ∧ B.slots = A.slots + rm.slots ∧ CHr Z EL vm0 h B.U.vm B.U.heap ∧ (pr = true → A.U.WarmedH B.U.vm)) :=
  BackS.of_freeW (bytes := bs') (maxL := ml') (ret := rt') (E := fun _ first o t L kk nn => kk = rm.cells ∧ nn = rm.slots ∧ (∃ v, o = .returned v ∧ Q v t.heap ∧ Ext Z.heap t.heap ∧ Fr Z.heap.size L) ∧ CHr Z EL first.vm first.heap t.vm t.heap ∧ (pr = true → first.WarmedH t.vm)) hM hf hl
    (fun m meth c A a Y hp => have hU : Z.Warmed39 A.U.vm := wtrans (s := s.setVm vm0) hZ Y.warmed
      ⟨by show (Cond.and _ .tt).before a A.U = true; rw [Cond.before_and, mv hU wc]; rfl, mv hU wc, mv hU wz, hp.2.2.1, hp.2.2.2⟩)
    (fun m meth c A a g mk Y hp => ⟨hp.1, wtrans (s := s.setVm vm0) hZ Y.warmed, hp.2.1, (CHv.at Y hZ hEL H).1, fun x hx => (CHv.at Y hZ hEL H).safe (hsf x hx).1 (hsf x hx).2⟩) (fun _ _ _ _ _ _ _ _ _ => trivial)
    (fun _ _ _ _ ⟨v, L, h1, h2, h3, h4, h5, h6, h7⟩ => ⟨L, _, _, h7, rfl, rfl, ⟨v, h1, h2, h3, h4⟩, h5, h6⟩)
    (fun m meth c A a g mk v t L kk nn Y hp _ _ ⟨e1, e2, ⟨v', e3, e4⟩, e5, e6⟩ => by
      cases e3; subst e1 e2
      refine ⟨L, e4, rfl, rfl, rfl, (CHv.at Y hZ hEL H).trans ?_, e6⟩
      rw [← hp.2.1]; exact e5)
/-- behind a call -/
theorem Wk.after (w : Wk p l e R s m args below meth c Z a0 EL pr y bs ml rt T vm0 h k n) {T' : State} {locs' : List Loc} {k' n' : Nat} (X' : Stand p l e R ((s.setVm vm0).setVm T'.vm) m args below meth c T' locs' k' n') (h2 : (s.setVm vm0).Since T'.vm T'.heap.size) (hg : T.heap.size ≤ T'.heap.size) (N' : Fr Z.heap.size locs') (C' : CHr Z EL vm0 h T'.vm T'.heap) (O' : Ext Z.heap T'.heap) (hpr' : pr = true → (s.setVm vm0).WarmedH T'.vm) :
    Wk p l e R s m args below meth c Z a0 EL pr y bs ml rt T' T'.vm T'.heap k' n' := by
  obtain ⟨hd, k0, locs, X, rfl, hZ, hown, hS, hk0, N, C, O, hpr⟩ := w
  obtain ⟨a, b, c', d⟩ := rebS (Z := Z) hS hk0 X' h2 hg hZ hown
  exact ⟨hd, _, locs', a, rfl, c', d, b, Nat.le_refl _, N', C.trans C', O', fun q => State.WarmedH.trans (t := s.setVm vm0) (hpr q) (hpr' q)⟩
/-- invokestatic -/
theorem g_static (w : Wk p l e R s m args below meth c Z a0 EL pr y bs ml rt T vm0 h k n) {y' : MethodName} {bs' : ByteArray} {ml' : Nat} {rt' : Option FieldType} {rm : Room} {Q : Option Value → Heap → Prop} {i W : Nat} {argsL : List Value} {ps : List FieldType} {rr : Option FieldType} {stk : List Value} {sf : List Addr} (hM : Con l Z EL pr y' bs' ml' rt' [] rm argsL.toArray sf h Q) (hsf : ∀ x ∈ sf, x < h.size ∧ Safe Z EL vm0 h x) (hd : decode bs pc = .ok (.invokestatic i, 3)) (hq : pc + 3 = q) (hsz : Ls.size = ml)
    (w1 : (Cond.methodLink y.cls i y').before a0 Z = true) (w2 : (Cond.static y').before a0 Z = true) (w3 : (Cond.initialized y'.cls).before a0 Z = true) (w4 : (Cond.code y' bs' ml' rt').before a0 Z = true) (hy : y'.cls ≠ "java/lang/invoke/MethodHandle" ∧ y'.cls ≠ "java/lang/invoke/VarHandle") (hpd : parseMethodDescriptor y'.desc = some ⟨ps, rr⟩) (hlen : argsL.length = ps.length) (hst : stk = argsL.reverse ++ st)
    (hW : 2 * 0 + (st.map fun v => v.category).sum ≤ W) (hf : rm.frames + 1 ≤ R.frames) (hl : W + (ml' + 11) + rm.locals ≤ R.locals) (hc : k + rm.cells ≤ R.cells) (hs : n + rm.slots ≤ R.slots)
    (K : ∀ T' h' v, Wk p l e R s m args below meth c Z a0 EL pr y bs ml rt T' T'.vm h' (k + rm.cells) (n + rm.slots) → h.size ≤ h'.size → CHr Z EL vm0 h T'.vm h' → Q v h' → Go p e below Φ (T'.setTop (mkF m q Ls (v.toList ++ st)))) : Go p e below Φ (T.setTop (mkF m pc Ls stk)) := by
  subst hq hst; have w' := w; obtain ⟨⟨hx, hb1, hml, hrt, hlk, hnm, hEL⟩, k0, locs, X, hh, hZ, hown, hS, hk0, N, C, O, hpr⟩ := w
  obtain ⟨v, vm₁, ⟨T', L', k', n'⟩, hW1, X', hS', hg, ⟨L, ⟨hQ, hO', hF⟩, hl', hk', hn', hC', hp'⟩, stp⟩ := callSS X hx hown (mvT (s := s.setVm vm0) hZ w1) (mvT (s := s.setVm vm0) hZ w2) (mvT (s := s.setVm vm0) hZ w3) (mvT (s := s.setVm vm0) hZ w4) hy (hM.back hsf hZ w4 w3 hf hl hEL C.1) (g := mkF m pc Ls (argsL.reverse ++ st)) rfl (hsz.trans hml.symm) (lenOf hpd hlen) rfl hW (hb hb1 hd) (fun _ _ => ⟨rfl, hh, hc, hs⟩)
  dsimp only [Pt.U, Pt.locs, Pt.cells, Pt.slots] at X' hS' hg hQ hO' hl' hk' hn' hC' hp' stp
  subst hl' hk' hn'
  exact (K T' T'.heap v (w'.after X' hS' hg (N.app hF) hC' hO' fun q => State.WarmedH.trans (t := T.setVm vm₁) hW1 (hp' q)) hC'.2.1 hC' hQ).pre' stp
/-- invokespecial of a constructor -/
theorem g_special (w : Wk p l e R s m args below meth c Z a0 EL pr y bs ml rt T vm0 h k n) {y' : MethodName} {bs' : ByteArray} {ml' : Nat} {rm : Room} {Q : Option Value → Heap → Prop} {i W : Nat} {a : Addr} {argsL : List Value} {ps : List FieldType} {rr : Option FieldType} {stk : List Value} {sf : List Addr} (hM : Con l Z EL pr y' bs' ml' none [] rm (.ref a :: argsL).toArray sf h Q) (hsf : ∀ x ∈ sf, x < h.size ∧ Safe Z EL vm0 h x) (hd : decode bs pc = .ok (.invokespecial i, 3)) (hq : pc + 3 = q) (hsz : Ls.size = ml) (hni : y'.name = "<init>")
    (w1 : (Cond.methodLink y.cls i y').before a0 Z = true) (w2 : (Cond.instanceMethod y').before a0 Z = true) (w3 : (Cond.initialized y'.cls).before a0 Z = true) (w4 : (Cond.code y' bs' ml' none).before a0 Z = true) (hy : y'.cls ≠ "java/lang/invoke/MethodHandle" ∧ y'.cls ≠ "java/lang/invoke/VarHandle") (hpd : parseMethodDescriptor y'.desc = some ⟨ps, rr⟩) (hlen : argsL.length = ps.length) (hst : stk = argsL.reverse ++ .ref a :: st)
    (hW : 2 * 0 + (st.map fun v => v.category).sum ≤ W) (hf : rm.frames + 1 ≤ R.frames) (hl : W + (ml' + 11) + rm.locals ≤ R.locals) (hc : k + rm.cells ≤ R.cells) (hs : n + rm.slots ≤ R.slots)
    (K : ∀ T' h' v, Wk p l e R s m args below meth c Z a0 EL pr y bs ml rt T' T'.vm h' (k + rm.cells) (n + rm.slots) → h.size ≤ h'.size → CHr Z EL vm0 h T'.vm h' → Q v h' → Go p e below Φ (T'.setTop (mkF m q Ls (v.toList ++ st)))) : Go p e below Φ (T.setTop (mkF m pc Ls stk)) := by
  subst hq hst; have w' := w; obtain ⟨⟨hx, hb1, hml, hrt, hlk, hnm, hEL⟩, k0, locs, X, hh, hZ, hown, hS, hk0, N, C, O, hpr⟩ := w
  obtain ⟨v, vm₁, ⟨T', L', k', n'⟩, hW1, X', hS', hg, ⟨L, ⟨hQ, hO', hF⟩, hl', hk', hn', hC', hp'⟩, stp⟩ := X.specialBackS hx hni hown (mvT (s := s.setVm vm0) hZ w1) (mvT (s := s.setVm vm0) hZ w2) (mvT (s := s.setVm vm0) hZ w4) hy (hM.back hsf hZ w4 w3 hf hl hEL C.1) (g := mkF m pc Ls (argsL.reverse ++ .ref a :: st)) rfl (hsz.trans hml.symm) (Steps.refl _) (a := a) (lenOf hpd hlen) rfl hW (hb hb1 hd) (fun _ _ => ⟨rfl, hh, hc, hs⟩)
  dsimp only [Pt.U, Pt.locs, Pt.cells, Pt.slots] at X' hS' hg hQ hO' hl' hk' hn' hC' hp' stp
  subst hl' hk' hn'
  exact (K T' T'.heap v (w'.after X' hS' hg (N.app hF) hC' hO' fun q => State.WarmedH.trans (t := T.setVm vm₁) hW1 (hp' q)) hC'.2.1 hC' hQ).pre' stp
/-- invokevirtual -/
theorem g_virtual (w : Wk p l e R s m args below meth c Z a0 EL pr y bs ml rt T vm0 h k n) {y1 y' : MethodName} {bs' : ByteArray} {ml' : Nat} {rt' : Option FieldType} {rm : Room} {Q : Option Value → Heap → Prop} {i W : Nat} {a : Addr} {C' : String} {argsL : List Value} {ps : List FieldType} {rr : Option FieldType} {stk : List Value} {sf : List Addr} (hM : Con l Z EL pr y' bs' ml' rt' [] rm (.ref a :: argsL).toArray sf h Q) (hsf : ∀ x ∈ sf, x < h.size ∧ Safe Z EL vm0 h x) (E : Exa Z h a C') (hd : decode bs pc = .ok (.invokevirtual i, 3)) (hq : pc + 3 = q) (hsz : Ls.size = ml)
    (w1 : (Cond.methodLink y.cls i y1).before a0 Z = true) (wd : (Cond.declares y1).before a0 Z = true) (ws : (Cond.selects C' y1 y').before a0 Z = true) (w2 : (Cond.instanceMethod y').before a0 Z = true) (w3 : (Cond.initialized y'.cls).before a0 Z = true) (w4 : (Cond.code y' bs' ml' rt').before a0 Z = true) (hy : y1.cls ≠ "java/lang/invoke/MethodHandle" ∧ y1.cls ≠ "java/lang/invoke/VarHandle") (hnf : ∀ s' : State, Z.Warmed39 s'.vm → NotFace s' y1) (hpd : parseMethodDescriptor y1.desc = some ⟨ps, rr⟩) (hlen : argsL.length = ps.length) (hst : stk = argsL.reverse ++ .ref a :: st)
    (hW : 2 * 0 + (st.map fun v => v.category).sum ≤ W) (hf : rm.frames + 1 ≤ R.frames) (hl : W + (ml' + 11) + rm.locals ≤ R.locals) (hc : k + rm.cells ≤ R.cells) (hs : n + rm.slots ≤ R.slots)
    (K : ∀ T' h' v, Wk p l e R s m args below meth c Z a0 EL pr y bs ml rt T' T'.vm h' (k + rm.cells) (n + rm.slots) → h.size ≤ h'.size → CHr Z EL vm0 h T'.vm h' → Q v h' → Go p e below Φ (T'.setTop (mkF m q Ls (v.toList ++ st)))) : Go p e below Φ (T.setTop (mkF m pc Ls stk)) := by
  subst hq hst; have w' := w; obtain ⟨⟨hx, hb1, hml, hrt, hlk, hnm, hEL⟩, k0, locs, X, hh, hZ, hown, hS, hk0, N, C, O, hpr⟩ := w
  obtain ⟨cq, kq, qa, -, qc⟩ := isOf (s := s.setVm vm0) hZ hh E
  obtain ⟨v, vm₁, ⟨T', L', k', n'⟩, hW1, X', hS', hg, ⟨L, ⟨hQ, hO', hF⟩, hl', hk', hn', hC', hp'⟩, stp⟩ := X.virtualBackS hx hown (mvT (s := s.setVm vm0) hZ w1) (mvT (s := s.setVm vm0) hZ wd) (hnf (s.setVm vm0) hZ) (mvT (s := s.setVm vm0) hZ ws) (mvT (s := s.setVm vm0) hZ w2) hy (hM.back hsf hZ w4 w3 hf hl hEL C.1) qa qc (g := mkF m pc Ls (argsL.reverse ++ .ref a :: st)) rfl (hsz.trans hml.symm) (Steps.refl _) (lenOf hpd hlen) rfl hW (hb hb1 hd) (fun _ _ => ⟨rfl, hh, hc, hs⟩)
  dsimp only [Pt.U, Pt.locs, Pt.cells, Pt.slots] at X' hS' hg hQ hO' hl' hk' hn' hC' hp' stp
  subst hl' hk' hn'
  exact (K T' T'.heap v (w'.after X' hS' hg (N.app hF) hC' hO' fun q => State.WarmedH.trans (t := T.setVm vm₁) hW1 (hp' q)) hC'.2.1 hC' hQ).pre' stp
theorem nf {y1 : MethodName} {C' : String} (ws : (Cond.selects C' y1 y1).before a0 Z = true) (s' : State) (hZ : Z.Warmed39 s'.vm) : NotFace s' y1 := notFace_of_selects (args := #[]) (mvT hZ ws)
/-- behind a step whose law leaves the tables: Back's form -/
theorem Wk.afterB (w : Wk p l e R s m args below meth c Z a0 EL pr y bs ml rt T vm0 h k n) {T' : State} {L : List Loc} {k' n' : Nat} {ws : List Addr} (hh' : ∃ locs, ∀ locs0, locs0 = locs → Stand p l e R (s.setVm vm0) m args below meth c T' (locs0 ++ L) k' n' ∧ Fr Z.heap.size locs0) (hF : Fr Z.heap.size L) (Kp : Keep h T'.heap ws) (hs : ∀ x ∈ ws, Safe Z EL vm0 h x) (hn : ∀ x ∈ ws, Z.heap.size ≤ x) : Wk p l e R s m args below meth c Z a0 EL pr y bs ml rt T' vm0 T'.heap k' n' := by
  obtain ⟨hd, k0, locs, X, rfl, hZ, hown, hS, hk0, N, C, O, hpr⟩ := w
  obtain ⟨l1, q⟩ := hh'
  obtain ⟨X', N'⟩ := q _ rfl
  exact ⟨hd, k0, _, X', rfl, hZ, hown, hS, Nat.le_trans hk0 Kp.1, N'.app hF, C.trans (CHr.keep Kp hs C.1), (Old.keep (n0 := Z.heap.size) ⟨rfl, O⟩ Kp hn).2, hpr⟩
/-- invokevirtual paid by a law that leaves the heap -/
theorem g_virtualB (w : Wk p l e R s m args below meth c Z a0 EL pr y bs ml rt T vm0 h k n) {y1 y' : MethodName} {V : Option Value → Prop} {i W : Nat} {a : Addr} {C' : String} {argsL : List Value} {ps : List FieldType} {rr : Option FieldType} {stk : List Value}
    (hK : ∀ s' : State, Z.Warmed39 s'.vm → Back l R p e below s' args y' 3 W (fun P a' => a' = (.ref a :: argsL).toArray ∧ P.U.heap = h ∧ P.cells + 0 ≤ R.cells ∧ P.slots + 0 ≤ R.slots) (fun P _ v B => ∃ L, (V v ∧ L = [] ∧ B.U.heap = h) ∧ B.locs = P.locs ++ L ∧ B.cells = P.cells + 0 ∧ B.slots = P.slots + 0))
    (E : Exa Z h a C') (hd : decode bs pc = .ok (.invokevirtual i, 3)) (hq : pc + 3 = q) (hsz : Ls.size = ml)
    (w1 : (Cond.methodLink y.cls i y1).before a0 Z = true) (wd : (Cond.declares y1).before a0 Z = true) (ws : (Cond.selects C' y1 y').before a0 Z = true) (w2 : (Cond.instanceMethod y').before a0 Z = true) (hy : y1.cls ≠ "java/lang/invoke/MethodHandle" ∧ y1.cls ≠ "java/lang/invoke/VarHandle") (hnf : ∀ s' : State, Z.Warmed39 s'.vm → NotFace s' y1) (hpd : parseMethodDescriptor y1.desc = some ⟨ps, rr⟩) (hlen : argsL.length = ps.length) (hst : stk = argsL.reverse ++ .ref a :: st)
    (hW : 2 * 0 + (st.map fun v => v.category).sum ≤ W) (hc : k ≤ R.cells) (hs : n ≤ R.slots)
    (K : ∀ T' v, Wk p l e R s m args below meth c Z a0 EL pr y bs ml rt T' vm0 h k n → V v → Go p e below Φ (T'.setTop (mkF m q Ls (v.toList ++ st)))) : Go p e below Φ (T.setTop (mkF m pc Ls stk)) := by
  subst hq hst; have w' := w; obtain ⟨⟨hx, hb1, hml, hrt, hlk, hnm, hEL⟩, k0, locs, X, hh, hZ, hown, hS, hk0, N, C, O, hpr⟩ := w
  obtain ⟨cq, kq, qa, -, qc⟩ := isOf (s := s.setVm vm0) hZ hh E
  obtain ⟨v, vm₁, ⟨T', L', k', n'⟩, hW1, X', ⟨L, ⟨hV, hL, hH⟩, hl', hk', hn'⟩, stp⟩ := X.virtualBack hx hown (mvT (s := s.setVm vm0) hZ w1) (mvT (s := s.setVm vm0) hZ wd) (hnf (s.setVm vm0) hZ) (mvT (s := s.setVm vm0) hZ ws) (mvT (s := s.setVm vm0) hZ w2) hy (hK (s.setVm vm0) hZ) qa qc (g := mkF m pc Ls (argsL.reverse ++ .ref a :: st)) rfl (hsz.trans hml.symm) (Steps.refl _) (lenOf hpd hlen) rfl hW (hb hb1 hd) (fun _ _ => ⟨rfl, hh, hc, hs⟩)
  dsimp only [Pt.U, Pt.locs, Pt.cells, Pt.slots] at X' hV hL hH hl' hk' hn' stp
  subst hL hl' hk' hn'
  exact (K T' v ⟨⟨hx, hb1, hml, hrt, hlk, hnm, hEL⟩, k0, _, X', hH, hZ, hown, hS, hk0, N.app (Fr.nil _), C, O, hpr⟩ hV).pre' stp
/-- a constructor paid by a law in Back's form -/
theorem g_specialB (w : Wk p l e R s m args below meth c Z a0 EL pr y bs ml rt T vm0 h k n) {y' : MethodName} {bs' : ByteArray} {ml' kc ks : Nat} {Q : Option Value → Heap → List Loc → Prop} {i W : Nat} {a : Addr} {argsL : List Value} {ps : List FieldType} {rr : Option FieldType} {stk : List Value} {wr : List Addr}
    (hK : ∀ s' : State, Z.Warmed39 s'.vm → Back l R p e below s' args y' 3 W (fun P a' => a' = (.ref a :: argsL).toArray ∧ P.U.heap = h ∧ P.cells + kc ≤ R.cells ∧ P.slots + ks ≤ R.slots) (fun P _ v B => ∃ L, Q v B.U.heap L ∧ B.locs = P.locs ++ L ∧ B.cells = P.cells + kc ∧ B.slots = P.slots + ks))
    (hQ : ∀ v h' L, Q v h' L → Fr Z.heap.size L ∧ Keep h h' wr) (hsf : ∀ x ∈ wr, Safe Z EL vm0 h x) (hnw : ∀ x ∈ wr, Z.heap.size ≤ x)
    (hd : decode bs pc = .ok (.invokespecial i, 3)) (hq : pc + 3 = q) (hsz : Ls.size = ml) (hni : y'.name = "<init>")
    (w1 : (Cond.methodLink y.cls i y').before a0 Z = true) (w2 : (Cond.instanceMethod y').before a0 Z = true) (w4 : (Cond.code y' bs' ml' none).before a0 Z = true) (hy : y'.cls ≠ "java/lang/invoke/MethodHandle" ∧ y'.cls ≠ "java/lang/invoke/VarHandle") (hpd : parseMethodDescriptor y'.desc = some ⟨ps, rr⟩) (hlen : argsL.length = ps.length) (hst : stk = argsL.reverse ++ .ref a :: st)
    (hW : 2 * 0 + (st.map fun v => v.category).sum ≤ W) (hc : k + kc ≤ R.cells) (hs : n + ks ≤ R.slots)
    (K : ∀ T' h' v L, Wk p l e R s m args below meth c Z a0 EL pr y bs ml rt T' vm0 h' (k + kc) (n + ks) → Q v h' L → Go p e below Φ (T'.setTop (mkF m q Ls (v.toList ++ st)))) : Go p e below Φ (T.setTop (mkF m pc Ls stk)) := by
  subst hq hst; have w' := w; obtain ⟨⟨hx, hb1, hml, hrt, hlk, hnm, hEL⟩, k0, locs, X, hh, hZ, hown, hS, hk0, N, C, O, hpr⟩ := w
  obtain ⟨v, vm₁, ⟨T', L', k', n'⟩, hW1, X', ⟨L, hQ', hl', hk', hn'⟩, stp⟩ := X.specialBack hx hni hown (mvT (s := s.setVm vm0) hZ w1) (mvT (s := s.setVm vm0) hZ w2) (mvT (s := s.setVm vm0) hZ w4) hy (hK (s.setVm vm0) hZ) (g := mkF m pc Ls (argsL.reverse ++ .ref a :: st)) rfl (hsz.trans hml.symm) (Steps.refl _) (a := a) (lenOf hpd hlen) rfl hW (hb hb1 hd) (fun _ _ => ⟨rfl, hh, hc, hs⟩)
  dsimp only [Pt.U, Pt.locs, Pt.cells, Pt.slots] at X' hQ' hl' hk' hn' stp
  subst hl' hk' hn'
  obtain ⟨hF, Kp⟩ := hQ v T'.heap L hQ'
  exact (K T' T'.heap v L ⟨⟨hx, hb1, hml, hrt, hlk, hnm, hEL⟩, k0, _, X', rfl, hZ, hown, hS, Nat.le_trans hk0 Kp.1, N.app hF, C.trans (CHr.keep Kp hsf C.1), (Old.keep (n0 := Z.heap.size) ⟨rfl, O⟩ Kp hnw).2, hpr⟩ hQ').pre' stp
/-- a String whose value is null is no booked one -/
theorem safe_null {vm : Vm} {x : Addr} {kk : Nat} (hal : Z.vm.Alike vm) (wi : (Cond.instantiable "java/lang/String" kk).before a0 Z = true) (E : Exa Z h x "java/lang/String") (F : Fld Z h x "java/lang/String" "value" "[B" .null) : Safe Z EL vm h x := fun B => by
  obtain ⟨p, -, u, a, -, q, -, F', hy⟩ := B
  obtain ⟨cell, cf, k, i, f, h1, h2, h3, h4, h5, h6, h7⟩ := F
  obtain ⟨cS, ⟨⟨s1, s2, s3, ⟨cv, kv, iv, s4, s4'⟩, -, s6, s7, s8, s9, s10, s11, -⟩, -⟩, -⟩ := F'
  obtain ⟨k3, e3, -⟩ := State.fieldFound?_setVm (s := Z) hal h2
  have e4 := (show (Wst Z vm h).fieldFound? _ _ _ = _ from e3).symm.trans s4
  simp only [Option.some.injEq, Prod.mk.injEq] at e4
  rcases hy with rfl | rfl
  · have e5 : h[q.sa]? = some q.sC := s1
    rw [h1] at e5; cases e5
    rw [← e4.2.2.2, h7] at s8; cases s8
  · have e5 : h[q.sd]? = some q.SA := s10
    rw [h1] at e5; cases e5
    obtain ⟨ce, ke, f1, f2, f3, -⟩ := E
    rw [h1] at f1; cases f1
    obtain ⟨c2, k2, i1, i2, i3, -⟩ := Cond.instantiable_spec wi
    cases f2.symm.trans i1
    cases f3.symm.trans i2
    obtain ⟨k', z1, z2⟩ := hal.2.2 _ _ f3
    obtain ⟨-, k9, hk9, comp, hkind⟩ := s11
    have hk9 : vm.classes[q.SA.cls]? = some k9 := hk9
    cases hk9.symm.trans z1
    rw [z2] at hkind
    have hkind : ke.kind = _ := hkind
    rw [i3] at hkind; cases hkind
theorem Wk.more (w : Wk p l e R s m args below meth c Z a0 EL pr y bs ml rt T vm0 h k n) {k' n' : Nat} (hk : k ≤ k') (hn : n ≤ n') : Wk p l e R s m args below meth c Z a0 EL pr y bs ml rt T vm0 h k' n' := by
  obtain ⟨hd, k0, locs, X, r⟩ := w
  exact ⟨hd, k0, locs, X.more hk hn, r⟩
theorem Wk.safeAr (w : Wk p l e R s m args below meth c Z a0 EL pr y bs ml rt T vm0 h k n) {a : Addr} {ty : FieldType} {vs : List Value} (A : Ar Z h a ty vs) (ht : ty ≠ .byte) : Safe Z EL vm0 h a := by
  obtain ⟨-, _, _, A⟩ := A; exact Safe.arv w.wz.alike A ht
/-- calls whose callee leaves the heap as it was -/
theorem g_staticP (w : Wk p l e R s m args below meth c Z a0 EL pr y bs ml rt T vm0 h k n) {y' : MethodName} {bs' : ByteArray} {ml' : Nat} {rt' : Option FieldType} {rm : Room} {V : Option Value → Prop} {i W : Nat} {argsL : List Value} {ps : List FieldType} {rr : Option FieldType} {stk : List Value} {sf : List Addr} (hM : Con l Z EL pr y' bs' ml' rt' [] rm argsL.toArray sf h (fun v h' => V v ∧ h' = h)) (hsf : ∀ x ∈ sf, x < h.size ∧ Safe Z EL vm0 h x) (hd : decode bs pc = .ok (.invokestatic i, 3)) (hq : pc + 3 = q) (hsz : Ls.size = ml)
    (w1 : (Cond.methodLink y.cls i y').before a0 Z = true) (w2 : (Cond.static y').before a0 Z = true) (w3 : (Cond.initialized y'.cls).before a0 Z = true) (w4 : (Cond.code y' bs' ml' rt').before a0 Z = true) (hy : y'.cls ≠ "java/lang/invoke/MethodHandle" ∧ y'.cls ≠ "java/lang/invoke/VarHandle") (hpd : parseMethodDescriptor y'.desc = some ⟨ps, rr⟩) (hlen : argsL.length = ps.length) (hst : stk = argsL.reverse ++ st)
    (hW : 2 * 0 + (st.map fun v => v.category).sum ≤ W) (hf : rm.frames + 1 ≤ R.frames) (hl : W + (ml' + 11) + rm.locals ≤ R.locals) (hc : k + rm.cells ≤ R.cells) (hs : n + rm.slots ≤ R.slots)
    (K : ∀ T' v, Wk p l e R s m args below meth c Z a0 EL pr y bs ml rt T' T'.vm h (k + rm.cells) (n + rm.slots) → CHr Z EL vm0 h T'.vm h → V v → Go p e below Φ (T'.setTop (mkF m q Ls (v.toList ++ st)))) : Go p e below Φ (T.setTop (mkF m pc Ls stk)) :=
  g_static w hM hsf hd hq hsz w1 w2 w3 w4 hy hpd hlen hst hW hf hl hc hs fun T' h' v w' _ C' q' => by
    obtain ⟨hV, rfl⟩ := q'; exact K T' v w' C' hV
theorem g_specialP (w : Wk p l e R s m args below meth c Z a0 EL pr y bs ml rt T vm0 h k n) {y' : MethodName} {bs' : ByteArray} {ml' : Nat} {rm : Room} {V : Option Value → Prop} {i W : Nat} {a : Addr} {argsL : List Value} {ps : List FieldType} {rr : Option FieldType} {stk : List Value} {sf : List Addr} (hM : Con l Z EL pr y' bs' ml' none [] rm (.ref a :: argsL).toArray sf h (fun v h' => V v ∧ h' = h)) (hsf : ∀ x ∈ sf, x < h.size ∧ Safe Z EL vm0 h x) (hd : decode bs pc = .ok (.invokespecial i, 3)) (hq : pc + 3 = q) (hsz : Ls.size = ml) (hni : y'.name = "<init>")
    (w1 : (Cond.methodLink y.cls i y').before a0 Z = true) (w2 : (Cond.instanceMethod y').before a0 Z = true) (w3 : (Cond.initialized y'.cls).before a0 Z = true) (w4 : (Cond.code y' bs' ml' none).before a0 Z = true) (hy : y'.cls ≠ "java/lang/invoke/MethodHandle" ∧ y'.cls ≠ "java/lang/invoke/VarHandle") (hpd : parseMethodDescriptor y'.desc = some ⟨ps, rr⟩) (hlen : argsL.length = ps.length) (hst : stk = argsL.reverse ++ .ref a :: st)
    (hW : 2 * 0 + (st.map fun v => v.category).sum ≤ W) (hf : rm.frames + 1 ≤ R.frames) (hl : W + (ml' + 11) + rm.locals ≤ R.locals) (hc : k + rm.cells ≤ R.cells) (hs : n + rm.slots ≤ R.slots)
    (K : ∀ T' v, Wk p l e R s m args below meth c Z a0 EL pr y bs ml rt T' T'.vm h (k + rm.cells) (n + rm.slots) → CHr Z EL vm0 h T'.vm h → V v → Go p e below Φ (T'.setTop (mkF m q Ls (v.toList ++ st)))) : Go p e below Φ (T.setTop (mkF m pc Ls stk)) :=
  g_special w hM hsf hd hq hsz hni w1 w2 w3 w4 hy hpd hlen hst hW hf hl hc hs fun T' h' v w' _ C' q' => by
    obtain ⟨hV, rfl⟩ := q'; exact K T' v w' C' hV
theorem g_virtualP (w : Wk p l e R s m args below meth c Z a0 EL pr y bs ml rt T vm0 h k n) {y1 y' : MethodName} {bs' : ByteArray} {ml' : Nat} {rt' : Option FieldType} {rm : Room} {V : Option Value → Prop} {i W : Nat} {a : Addr} {C' : String} {argsL : List Value} {ps : List FieldType} {rr : Option FieldType} {stk : List Value} {sf : List Addr} (hM : Con l Z EL pr y' bs' ml' rt' [] rm (.ref a :: argsL).toArray sf h (fun v h' => V v ∧ h' = h)) (hsf : ∀ x ∈ sf, x < h.size ∧ Safe Z EL vm0 h x) (E : Exa Z h a C') (hd : decode bs pc = .ok (.invokevirtual i, 3)) (hq : pc + 3 = q) (hsz : Ls.size = ml)
    (w1 : (Cond.methodLink y.cls i y1).before a0 Z = true) (wd : (Cond.declares y1).before a0 Z = true) (ws : (Cond.selects C' y1 y').before a0 Z = true) (w2 : (Cond.instanceMethod y').before a0 Z = true) (w3 : (Cond.initialized y'.cls).before a0 Z = true) (w4 : (Cond.code y' bs' ml' rt').before a0 Z = true) (hy : y1.cls ≠ "java/lang/invoke/MethodHandle" ∧ y1.cls ≠ "java/lang/invoke/VarHandle") (hnf : ∀ s' : State, Z.Warmed39 s'.vm → NotFace s' y1) (hpd : parseMethodDescriptor y1.desc = some ⟨ps, rr⟩) (hlen : argsL.length = ps.length) (hst : stk = argsL.reverse ++ .ref a :: st)
    (hW : 2 * 0 + (st.map fun v => v.category).sum ≤ W) (hf : rm.frames + 1 ≤ R.frames) (hl : W + (ml' + 11) + rm.locals ≤ R.locals) (hc : k + rm.cells ≤ R.cells) (hs : n + rm.slots ≤ R.slots)
    (K : ∀ T' v, Wk p l e R s m args below meth c Z a0 EL pr y bs ml rt T' T'.vm h (k + rm.cells) (n + rm.slots) → CHr Z EL vm0 h T'.vm h → V v → Go p e below Φ (T'.setTop (mkF m q Ls (v.toList ++ st)))) : Go p e below Φ (T.setTop (mkF m pc Ls stk)) :=
  g_virtual w hM hsf E hd hq hsz w1 wd ws w2 w3 w4 hy hnf hpd hlen hst hW hf hl hc hs fun T' h' v w' _ C' q' => by
    obtain ⟨hV, rfl⟩ := q'; exact K T' v w' C' hV
theorem g_i2cM (w : Wk p l e R s m args below meth c Z a0 EL pr y bs ml rt T vm0 h k n) {x : Int32} (hd : decode bs pc = .ok (.i2c, 1)) (hq : pc + 1 = q) (hr : Go p e below Φ (T.setTop (mkF m q Ls (.int (x &&& 255) :: st)))) : Go p e below Φ (T.setTop (mkF m pc Ls (.int (x &&& 255) :: st))) := by
  refine g_i2c w hd hq ?_
  rw [i2c_mask]; exact hr
theorem no0 {P : Addr → Prop} : ∀ x ∈ ([] : List Addr), P x := fun _ q => nomatch q
theorem not1 {a b : Addr} (h : b ≠ a) : b ∉ [a] := fun q => h (List.mem_singleton.mp q)
theorem in1 {a : Addr} {P : Addr → Prop} (h : P a) : ∀ x ∈ [a], P x := fun x hx => by cases List.mem_singleton.mp hx; exact h
theorem keep_same {h1 h2 h3 : Heap} {a : Addr} (K : Keep h1 h2 [a]) (K' : Keep h2 h3 [a]) : Keep h1 h3 [a] := K.trans K' fun x hx => Or.inl hx
theorem keep_new {h1 h2 h3 : Heap} {a b : Addr} (K : Keep h1 h2 [a]) (K' : Keep h2 h3 [b]) (z : h1.size ≤ b) : Keep h1 h3 [a] := K.trans K' fun x hx => by cases List.mem_singleton.mp hx; exact Or.inr z
/-- a char of Latin-1; a char -/
def Lt8 (c : Int32) : Prop := ¬ c < 0 ∧ ¬ (255 : Int32) < c
def Lt16 (c : Int32) : Prop := ¬ c < 0 ∧ ¬ (65535 : Int32) < c
theorem Lt16.int {c : Int32} (h : Lt16 c) : 0 ≤ c.toInt ∧ c.toInt ≤ 65535 := by
  obtain ⟨h0, h1⟩ := h
  rw [Int32.lt_iff_toInt_lt] at h0 h1
  have e0 : (0 : Int32).toInt = 0 := rfl
  have e1 : (65535 : Int32).toInt = 65535 := rfl
  omega
theorem Lt8.int {c : Int32} (h : Lt8 c) : 0 ≤ c.toInt ∧ c.toInt ≤ 255 := by
  obtain ⟨h0, h1⟩ := h
  rw [Int32.lt_iff_toInt_lt] at h0 h1
  have e0 : (0 : Int32).toInt = 0 := rfl
  have e1 : (255 : Int32).toInt = 255 := rfl
  omega
theorem Lt16.of {c : Int32} (h0 : 0 ≤ c.toInt) (h1 : c.toInt ≤ 65535) : Lt16 c := by
  constructor
  · rw [Int32.lt_iff_toInt_lt]; have e0 : (0 : Int32).toInt = 0 := rfl; omega
  · rw [Int32.lt_iff_toInt_lt]; have e0 : (65535 : Int32).toInt = 65535 := rfl; omega
theorem Lt8.of {c : Int32} (h0 : 0 ≤ c.toInt) (h1 : c.toInt ≤ 255) : Lt8 c := by
  constructor
  · rw [Int32.lt_iff_toInt_lt]; have e0 : (0 : Int32).toInt = 0 := rfl; omega
  · rw [Int32.lt_iff_toInt_lt]; have e0 : (255 : Int32).toInt = 255 := rfl; omega
theorem Lt8.chr {c : Int32} (h : Lt8 c) : Lt16 c := Lt16.of h.int.1 (by have := h.int.2; omega)
theorem nar_chr {c : Int32} (h : Lt16 c) : nar .char c = c := by
  have := h.int
  show c.toUInt32.toUInt16.toUInt32.toInt32 = c
  apply Int32.toInt_inj.mp
  have e : c.toUInt32.toNat = c.toInt.toNat := by
    have h1 : c.toInt = c.toBitVec.toInt := rfl
    have h2 : c.toUInt32.toNat = c.toBitVec.toNat := rfl
    rw [h2, h1]
    rw [h1] at this
    rw [BitVec.toInt_eq_toNat_cond] at this ⊢
    split at this <;> split <;> omega
  have e2 : c.toUInt32.toUInt16.toUInt32 = c.toUInt32 := by
    apply UInt32.toNat_inj.mp
    rw [UInt16.toNat_toUInt32, UInt32.toNat_toUInt16, e]
    omega
  rw [e2, Int32.toInt32_toUInt32]
theorem nar_lat {c : Int32} (h : Lt8 c) : nar .char c = c := nar_chr h.chr
theorem mask255 (x : Int32) : Lt8 (x &&& 255) := by
  have e : (x &&& 255).toInt = ((x &&& 255).toBitVec.toNat : Int) ∧ (x &&& 255).toBitVec.toNat ≤ 255 := by
    have h1 : (x &&& 255).toBitVec.toNat = x.toBitVec.toNat % 256 := by
      rw [Int32.toBitVec_and, BitVec.toNat_and]
      exact Nat.and_two_pow_sub_one_eq_mod _ 8
    have h3 : (x &&& 255).toInt = (x &&& 255).toBitVec.toInt := rfl
    refine ⟨?_, by omega⟩
    rw [h3, BitVec.toInt_eq_toNat_cond, if_pos (by omega)]
  exact Lt8.of (by omega) (by omega)
theorem cs0 {P : Int32 → Prop} : ∀ c ∈ ([] : List Int32), P c := fun _ q => nomatch q
theorem csS {P : Int32 → Prop} {a : Int32} {l : List Int32} (h : P a) (r : ∀ c ∈ l, P c) : ∀ c ∈ a :: l, P c := fun c q => by
  rcases List.mem_cons.mp q with rfl | q
  · exact h
  · exact r c q
theorem lt8_nat {c : Int32} : Lt8 c ↔ c.toBitVec.toNat < 256 := by
  have h3 : c.toInt = c.toBitVec.toInt := rfl
  constructor
  · intro h
    have := h.int
    rw [h3, BitVec.toInt_eq_toNat_cond] at this
    split at this <;> omega
  · intro h
    have : c.toInt = (c.toBitVec.toNat : Int) := by rw [h3, BitVec.toInt_eq_toNat_cond, if_pos (by omega)]
    exact Lt8.of (by omega) (by omega)
theorem lat_xor {a : Int32} (ha : Lt8 a) (x : Int32) : Lt8 ((a ^^^ (x &&& 1)).toUInt32.toUInt16.toUInt32.toInt32) := by
  have h1 : (x &&& 1).toBitVec.toNat < 256 := by
    rw [Int32.toBitVec_and, BitVec.toNat_and]
    exact Nat.lt_of_le_of_lt Nat.and_le_right (by decide)
  have h2 : Lt8 (a ^^^ (x &&& 1)) := by
    rw [lt8_nat] at ha ⊢
    rw [Int32.toBitVec_xor, BitVec.toNat_xor]
    exact Nat.xor_lt_two_pow (n := 8) ha h1
  have h3 : (a ^^^ (x &&& 1)).toUInt32.toUInt16.toUInt32.toInt32 = a ^^^ (x &&& 1) := nar_lat h2
  rw [h3]; exact h2
theorem mask31_nat (x : Int32) : (x &&& 2147483647).toInt = ((x.toBitVec.toNat % 2147483648 : Nat) : Int) := by
  have h1 : (x &&& 2147483647).toBitVec.toNat = x.toBitVec.toNat % 2147483648 := by
    rw [Int32.toBitVec_and, BitVec.toNat_and]
    exact Nat.and_two_pow_sub_one_eq_mod _ 31
  have h3 : (x &&& 2147483647).toInt = (x &&& 2147483647).toBitVec.toInt := rfl
  rw [h3, BitVec.toInt_eq_toNat_cond, if_pos (by omega), h1]
theorem mask31 (x : Int32) : ¬ (x &&& 2147483647) < 0 := by
  rw [Int32.lt_iff_toInt_lt, mask31_nat, show (0 : Int32).toInt = 0 from rfl]; omega
theorem rem_int {x z : Int32} (hx : ¬ x < 0) (hz : 0 < z.toInt) : (x % z).toInt = x.toInt % z.toInt := by
  rw [Int32.lt_iff_toInt_lt, show (0 : Int32).toInt = 0 from rfl] at hx
  rw [Int32.toInt_mod, Int.tmod_eq_emod_of_nonneg (by omega)]
theorem mod3 {x : Int32} (hx : ¬ x < 0) : x % 3 = 0 ∨ x % 3 = 1 ∨ x % 3 = 2 := by
  have h := rem_int (z := 3) hx (by decide)
  rw [show (3 : Int32).toInt = 3 from rfl] at h
  have h2 : (x % 3).toInt = 0 ∨ (x % 3).toInt = 1 ∨ (x % 3).toInt = 2 := by omega
  rcases h2 with h2 | h2 | h2
  · exact Or.inl (Int32.toInt_inj.mp h2)
  · exact Or.inr (Or.inl (Int32.toInt_inj.mp h2))
  · exact Or.inr (Or.inr (Int32.toInt_inj.mp h2))
theorem mask3 (x : Int32) : x &&& 3 = 0 ∨ x &&& 3 = 1 ∨ x &&& 3 = 2 ∨ x &&& 3 = 3 := by
  have h1 : (x &&& 3).toBitVec.toNat = x.toBitVec.toNat % 4 := by
    rw [Int32.toBitVec_and, BitVec.toNat_and]
    exact Nat.and_two_pow_sub_one_eq_mod _ 2
  have h2 : (x &&& 3).toBitVec.toNat = 0 ∨ (x &&& 3).toBitVec.toNat = 1 ∨ (x &&& 3).toBitVec.toNat = 2 ∨ (x &&& 3).toBitVec.toNat = 3 := by omega
  rcases h2 with h2 | h2 | h2 | h2
  · exact Or.inl (Int32.toBitVec_inj.mp (BitVec.eq_of_toNat_eq h2))
  · exact Or.inr (Or.inl (Int32.toBitVec_inj.mp (BitVec.eq_of_toNat_eq h2)))
  · exact Or.inr (Or.inr (Or.inl (Int32.toBitVec_inj.mp (BitVec.eq_of_toNat_eq h2))))
  · exact Or.inr (Or.inr (Or.inr (Int32.toBitVec_inj.mp (BitVec.eq_of_toNat_eq h2))))
theorem ushr16 (x : Int32) : ¬ Jvm.Free.XT.ushr x 16 < 0 := by
  have h1 : (Jvm.Free.XT.ushr x 16).toBitVec.toNat < 65536 := by
    show (x.toUInt32 >>> ((16 : Int32) &&& 31).toUInt32).toNat < 65536
    rw [show ((16 : Int32) &&& 31).toUInt32 = 16 from by decide, UInt32.toNat_shiftRight, show (16 : UInt32).toNat % 32 = 16 from rfl, Nat.shiftRight_eq_div_pow]
    have := x.toUInt32.toNat_lt
    omega
  have h3 : (Jvm.Free.XT.ushr x 16).toInt = (Jvm.Free.XT.ushr x 16).toBitVec.toInt := rfl
  rw [Int32.lt_iff_toInt_lt, h3, BitVec.toInt_eq_toNat_cond, if_pos (by omega), show (0 : Int32).toInt = 0 from rfl]; omega
/-- a String of none, one or two of these chars -/
def sg (n a b : Int32) : List Int32 := if n = 0 then [] else if n = 1 then [a] else [a, b]
def In3 (n : Int32) : Prop := n = 0 ∨ n = 1 ∨ n = 2
theorem sg_iff {n z a b c d : Int32} (hn : In3 n) (hz : In3 z) : sg n a b = sg z c d ↔ (n = z ∧ (n < 1 ∨ a = c) ∧ (n < 2 ∨ b = d)) := by
  rcases hn with rfl | rfl | rfl <;> rcases hz with rfl | rfl | rfl <;> simp [sg]
theorem sg_lat {n a b : Int32} (ha : Lt8 a) (hb : Lt8 b) : ∀ c ∈ sg n a b, Lt8 c := by
  unfold sg; split
  · exact cs0
  · split
    · exact csS ha cs0
    · exact csS ha (csS hb cs0)
/-- x is a String of these Latin-1 chars -/
def Sg (Z : State) (h : Heap) (x : Addr) (cs : List Int32) : Prop := cs.length ≤ 4000 ∧ (∀ c ∈ cs, Lt8 c) ∧ Exa Z h x "java/lang/String" ∧ ∃ (t : Addr) (kb : ClassId), Fld Z h x "java/lang/String" "value" "[B" (.ref t) ∧ Fld Z h x "java/lang/String" "coder" "B" (.int 0) ∧ Arv Z h t kb .byte (Int32.ofNat cs.length) ((cs.map fun c => c.toInt8.toInt32).map Value.int) (.int 0)
theorem Sg.ext {h' : Heap} {x : Addr} {cs : List Int32} (F : Sg Z h x cs) (E : Ext h h') : Sg Z h' x cs := by obtain ⟨a, b, c, t, kb, d, e, f⟩ := F; exact ⟨a, b, c.ext E, t, kb, d.ext E, e.ext E, f.ext E⟩
theorem Sg.lt {x : Addr} {cs : List Int32} (F : Sg Z h x cs) : x < h.size := F.2.2.1.lt
theorem Sg.exa {x : Addr} {cs : List Int32} (F : Sg Z h x cs) : Exa Z h x "java/lang/String" := F.2.2.1
theorem Sg.keepO {h' : Heap} {x a : Addr} {cs : List Int32} {C : String} {kk : Nat} (F : Sg Z h x cs) (K : Keep h h' [a]) (q : x ≠ a) (E : Exa Z h a C) (wi : (Cond.instantiable C kk).before a0 Z = true) : Sg Z h' x cs := by
  obtain ⟨a, b, c, t, kb, d, e, f⟩ := F
  exact ⟨a, b, c.keep K, t, kb, d.keep K (not1 q), e.keep K (not1 q), f.keep K (not1 (Exa.neArv E f wi).symm)⟩
theorem Sg.ar {x : Addr} {cs : List Int32} (F : Sg Z h x cs) : ∃ t, Fld Z h x "java/lang/String" "value" "[B" (.ref t) ∧ Fld Z h x "java/lang/String" "coder" "B" (.int 0) ∧ Ar Z h t .byte ((cs.map fun c => c.toInt8.toInt32).map Value.int) := by
  obtain ⟨a, b, c, t, kb, d, e, f⟩ := F
  exact ⟨t, d, e, by simp; omega, kb, _, by simpa using f⟩
/-- compact strings are on -/
def Cpt (Z : State) : Prop := ∃ z : Int32, ¬ z = 0 ∧ Sta Z Z.heap "java/lang/String" "COMPACT_STRINGS" "Z" (.int z)
end K
end Jvm.Own
/- laws to paste: Road.backV, Road.lenW, Road.chN, Road.codOf (cut by pick.py; bodies as the Statement names them) -/
namespace Jvm.Pilot.@@N@@
namespace StrChars
open Jvm Sem ClassFile Op Lib Jvm.Stand Jvm.Free.XT Jvm.Free.ALB Jvm.Free.JM Jvm.Free
open Jvm.Lib.Cold (StaticIs)
/-- a char array whose places are chars -/
def Ch (a : Addr) (A : Cell) (U : State) : Prop := Arr .char a A U ∧ Typed .char A
theorem Ch.mv {a : Addr} {A : Cell} {U U' : State} (h : Ch a A U) (hal : U.vm.Alike U'.vm) (hh : U'.heap = U.heap) : Ch a A U' := ⟨h.1.mv hal hh, h.2⟩
theorem Ch.keep {a : Addr} {A : Cell} {U U' : State} (h : Ch a A U) (hal : U.vm.Alike U'.vm) (hk : U'.heap[a]? = some A) : Ch a A U' := ⟨h.1.keep hal hk, h.2⟩
/-- what place i of a char[]'s cell holds -/
def cv (A : Cell) (i : Nat) : Int32 := match A.slots[i]? with | some (.int x) => x | _ => 0
theorem Ch.get {a : Addr} {A : Cell} {U : State} (h : Ch a A U) {i : Nat} (hi : i < A.slots.size) : A.slots[i]? = some (.int (cv A i)) := by
  have e := Array.getElem?_eq_getElem hi
  have f := h.2 i _ e
  unfold cv; rw [e]
  generalize A.slots[i] = v at f
  cases v <;> simp [fits] at f ⊢
/-- the byte that i2b leaves of a char -/
def lo8 (x : Int32) : Int32 := x.toInt8.toInt32
theorem fits_lo8 (y : Int32) : fits .byte (.int (lo8 y)) = true := by
  have h1 := y.toInt8.le_toInt
  have h2 := y.toInt8.toInt_lt
  simp only [lo8, fits, Bool.and_eq_true, decide_eq_true_eq, Int32.le_iff_toInt_le, Int8.toInt_toInt32, show (-128 : Int32).toInt = -128 from by decide, show (127 : Int32).toInt = 127 from by decide]
  omega
/-- A' is A but that each place j of lo .. hi - 1 holds f j -/
def Laid (A A' : Cell) (lo hi : Nat) (f : Nat → Value) : Prop := A'.cls = A.cls ∧ A'.vm = A.vm ∧ A'.slots.size = A.slots.size ∧ ∀ i, A'.slots[i]? = if lo ≤ i ∧ i < hi then some (f i) else A.slots[i]?
theorem Laid.zero (A : Cell) (lo : Nat) (f : Nat → Value) : Laid A A lo (lo + 0) f := ⟨rfl, rfl, rfl, fun i => by rw [if_neg (by omega)]⟩
theorem Laid.step {A Ak : Cell} {lo k : Nat} {f : Nat → Value} {v : Value} (h : Laid A Ak lo k f) (hlo : lo ≤ k) (hk : k < Ak.slots.size) (hv : v = f k) : Laid A (Ak.setSlot k v) lo (k + 1) f := by
  refine ⟨h.1, h.2.1, by simpa [Cell.setSlot] using h.2.2.1, fun i => ?_⟩
  by_cases e : k = i
  · subst e; rw [Cell.slots_setSlot_self v hk, if_pos (by omega), hv]
  · rw [Cell.slots_setSlot_ne v e, h.2.2.2 i]
    by_cases q : lo ≤ i ∧ i < k
    · rw [if_pos q, if_pos (by omega)]
    · rw [if_neg q, if_neg (by omega)]
def U16 : String := "java/lang/StringUTF16"
namespace Cmp5
def yN : MethodName := ⟨"java/lang/StringUTF16", "compress", "([CI[BII)I"⟩
abbrev yB : ByteArray := jdk_52_method_21_code
theorem d0 : decode yB 0 = .ok (.iconst 0, 1) := by decide +kernel
theorem d1 : decode yB 1 = .ok (.istore 5, 2) := by decide +kernel
theorem d3 : decode yB 3 = .ok (.iload 5, 2) := by decide +kernel
theorem d5 : decode yB 5 = .ok (.iload 4, 2) := by decide +kernel
theorem d7 : decode yB 7 = .ok (.if_icmp (.ge) 37, 3) := by decide +kernel
theorem d10 : decode yB 10 = .ok (.aload_n 0, 1) := by decide +kernel
theorem d11 : decode yB 11 = .ok (.iload_n 1, 1) := by decide +kernel
theorem d12 : decode yB 12 = .ok (.caload, 1) := by decide +kernel
theorem d13 : decode yB 13 = .ok (.istore 6, 2) := by decide +kernel
theorem d15 : decode yB 15 = .ok (.iload 6, 2) := by decide +kernel
theorem d17 : decode yB 17 = .ok (.sipush 255, 3) := by decide +kernel
theorem d20 : decode yB 20 = .ok (.if_icmp (.le) 6, 3) := by decide +kernel
theorem d26 : decode yB 26 = .ok (.aload_n 2, 1) := by decide +kernel
theorem d27 : decode yB 27 = .ok (.iload_n 3, 1) := by decide +kernel
theorem d28 : decode yB 28 = .ok (.iload 6, 2) := by decide +kernel
theorem d30 : decode yB 30 = .ok (.i2b, 1) := by decide +kernel
theorem d31 : decode yB 31 = .ok (.bastore, 1) := by decide +kernel
theorem d32 : decode yB 32 = .ok (.iinc 1 1, 3) := by decide +kernel
theorem d35 : decode yB 35 = .ok (.iinc 3 1, 3) := by decide +kernel
theorem d38 : decode yB 38 = .ok (.iinc 5 1, 3) := by decide +kernel
theorem d41 : decode yB 41 = .ok (.goto (-38), 3) := by decide +kernel
theorem d44 : decode yB 44 = .ok (.iload 4, 2) := by decide +kernel
theorem d46 : decode yB 46 = .ok (.ireturn, 1) := by decide +kernel
def site : List Cond := []
def tab : Cond := tabOf yN yB 7 (some .int) site
def P (b : Addr) (A : Cell) (d : Addr) (B : Cell) (o q len : Nat) (args : Array Value) (s : State) : Prop := args = #[.ref b, .int (Int32.ofNat o), .ref d, .int (Int32.ofNat q), .int (Int32.ofNat len)] ∧ Ch b A s ∧ Arr .byte d B s ∧ b ≠ d ∧ o + len ≤ A.slots.size ∧ q + len ≤ B.slots.size ∧ ∀ i, i < len → ¬ 255 < cv A (o + i)
def E (b : Addr) (A : Cell) (d : Addr) (B : Cell) (o q len : Nat) (r : Option Value) (s u : State) : Prop := r = some (.int (Int32.ofNat len)) ∧ ∃ B', Put d B' s u ∧ Laid B B' q (q + len) (fun j => Value.int (lo8 (cv A (o + (j - q)))))
/-- no char of the range above 255: len; the places written hold each char's low byte -/
theorem law (l : Launch) (b : Addr) (A : Cell) (d : Addr) (B : Cell) (o q len : Nat) : Law l yN 5 5 0 0 yB 7 (some .int) site (P b A d B o q len) (E b A d B o q len) (copyLocs d q len) 0 0 := by
  refine Law.of_walk (plainFor_of_name (by decide +kernel)) (by decide +kernel) (by decide +kernel) (by decide) (fun _ _ h => by rw [h.1]; rfl) (fun _ U U' hal hh h => ⟨h.1, h.2.1.mv hal hh, h.2.2.1.mv hal hh, h.2.2.2⟩) (fun r U U' V V' h1 hal h2 h => ⟨h.1, h.2.elim fun B' q => ⟨B', q.1.mv h1 h2, q.2⟩⟩) ?_
  intro p e s m args below meth c s₁ X0 hexec hbytes hml hret hlk hnm hown hh0 W hP
  obtain ⟨rfl, hA, hB, hne, l1, l2, hp⟩ := hP
  have c1 : Steps p.tables e below (s₁.setTop (entryFrame m #[.ref b, .int (Int32.ofNat o), .ref d, .int (Int32.ofNat q), .int (Int32.ofNat len)] 7)) (s₁.setTop (mkF m 0 #[.val (.ref b), .val (.int (Int32.ofNat o)), .val (.ref d), .val (.int (Int32.ofNat q)), .val (.int (Int32.ofNat len)), .unset, .unset] [])) := entry rfl
  have hA0 := hA.1.mv X0.warmed.alike hh0
  have hB0 := hB.mv X0.warmed.alike hh0
  have a31 := hA.1.2.2.2
  have c2 : Steps p.tables e below (s₁.setTop (entryFrame m #[.ref b, .int (Int32.ofNat o), .ref d, .int (Int32.ofNat q), .int (Int32.ofNat len)] 7)) (s₁.setTop (mkF m 3 #[.val (.ref b), .val (.int (Int32.ofNat o)), .val (.ref d), .val (.int (Int32.ofNat q)), .val (.int (Int32.ofNat len)), .val (.int 0), .unset] [])) := c1.trans (by
    refine iconstV X0.here hexec rfl 0 (hb hbytes d0) (by decide) ?_
    refine XS.istore X0.here hexec rfl (hb hbytes d1) rfl rfl ?_
    exact Steps.refl _)
  have loop : ∀ (r i : Nat), i + r = len → ∀ (z : Slot), (z = .unset ∨ ∃ w, z = .val w ∧ w.category = 1) → ∀ (Tl : State) (Bk : Cell), Stand p l e { frames := 0, locals := 0, cells := 0, slots := 0 } s m #[.ref b, .int (Int32.ofNat o), .ref d, .int (Int32.ofNat q), .int (Int32.ofNat len)] below meth c Tl ([] ++ copyLocs d q i) 0 0 → Put d Bk s₁ Tl → Laid B Bk q (q + i) (fun j => Value.int (lo8 (cv A (o + (j - q))))) →
      Steps p.tables e below (s₁.setTop (entryFrame m #[.ref b, .int (Int32.ofNat o), .ref d, .int (Int32.ofNat q), .int (Int32.ofNat len)] 7)) (Tl.setTop (mkF m 3 #[.val (.ref b), .val (.int (Int32.ofNat (o + i))), .val (.ref d), .val (.int (Int32.ofNat (q + i))), .val (.int (Int32.ofNat len)), .val (.int (Int32.ofNat i)), z] [])) → ∃ (T' : State) (B' : Cell) (z' : Slot), Stand p l e { frames := 0, locals := 0, cells := 0, slots := 0 } s m #[.ref b, .int (Int32.ofNat o), .ref d, .int (Int32.ofNat q), .int (Int32.ofNat len)] below meth c T' ([] ++ copyLocs d q len) 0 0 ∧ Put d B' s₁ T' ∧ Laid B B' q (q + len) (fun j => Value.int (lo8 (cv A (o + (j - q))))) ∧
      Steps p.tables e below (s₁.setTop (entryFrame m #[.ref b, .int (Int32.ofNat o), .ref d, .int (Int32.ofNat q), .int (Int32.ofNat len)] 7)) (T'.setTop (mkF m 3 #[.val (.ref b), .val (.int (Int32.ofNat (o + len))), .val (.ref d), .val (.int (Int32.ofNat (q + len))), .val (.int (Int32.ofNat len)), .val (.int (Int32.ofNat len)), z'] [])) := by
    intro r
    induction r with
    | zero =>
      intro i hi z hz Tl Bk Xl pl fl cl
      have hil : i = len := by omega
      rw [hil] at Xl fl cl
      exact ⟨Tl, Bk, z, Xl, pl, fl, cl⟩
    | succ r ih =>
      intro i hi z hz Tl Bk Xl pl fl cl
      have all := X0.warmed.alike.symm.trans Xl.warmed.alike
      have hAl := hA0.keep all (pl.other hne hA0.1)
      have hBk := hB0.like all pl.1 fl.1 fl.2.1 fl.2.2.1
      have hlt : q + i < Bk.slots.size := by rw [fl.2.2.1]; omega
      have c3 : Steps p.tables e below (s₁.setTop (entryFrame m #[.ref b, .int (Int32.ofNat o), .ref d, .int (Int32.ofNat q), .int (Int32.ofNat len)] 7)) (Tl.setTop (mkF m 12 #[.val (.ref b), .val (.int (Int32.ofNat (o + i))), .val (.ref d), .val (.int (Int32.ofNat (q + i))), .val (.int (Int32.ofNat len)), .val (.int (Int32.ofNat i)), z] [.int (Int32.ofNat (o + i)), .ref b])) := cl.trans (by
        refine XS.iload Xl.here hexec rfl (hb hbytes d3) rfl ?_
        refine XS.iload Xl.here hexec rfl (hb hbytes d5) rfl ?_
        refine XS.icmpNo Xl.here hexec rfl (hb hbytes d7) rfl (ii_ge_f (lt32 (by omega) (by omega))) ?_
        refine XS.aloadN Xl.here hexec rfl (hb hbytes d10) rfl rfl ?_
        refine XS.iloadN Xl.here hexec rfl (hb hbytes d11) rfl ?_
        exact Steps.refl _)
      have c4 : Steps p.tables e below (s₁.setTop (entryFrame m #[.ref b, .int (Int32.ofNat o), .ref d, .int (Int32.ofNat q), .int (Int32.ofNat len)] 7)) (Tl.setTop (mkF m 13 #[.val (.ref b), .val (.int (Int32.ofNat (o + i))), .val (.ref d), .val (.int (Int32.ofNat (q + i))), .val (.int (Int32.ofNat len)), .val (.int (Int32.ofNat i)), z] [.int (cv A (o + i))])) := c3.trans (by
        refine Xl.aget hexec hAl rfl (hA.get (i := o + i) (by omega)) rfl rfl (hb hbytes d12) ?_
        exact Steps.refl _)
      have c5 : Steps p.tables e below (s₁.setTop (entryFrame m #[.ref b, .int (Int32.ofNat o), .ref d, .int (Int32.ofNat q), .int (Int32.ofNat len)] 7)) (Tl.setTop (mkF m 15 #[.val (.ref b), .val (.int (Int32.ofNat (o + i))), .val (.ref d), .val (.int (Int32.ofNat (q + i))), .val (.int (Int32.ofNat len)), .val (.int (Int32.ofNat i)), .val (.int (cv A (o + i)))] [])) := c4.trans (by
        refine XS.istoreS Xl.here hexec rfl (hb hbytes d13) rfl rfl hz ?_
        exact Steps.refl _)
      have c6 : Steps p.tables e below (s₁.setTop (entryFrame m #[.ref b, .int (Int32.ofNat o), .ref d, .int (Int32.ofNat q), .int (Int32.ofNat len)] 7)) (Tl.setTop (mkF m 31 #[.val (.ref b), .val (.int (Int32.ofNat (o + i))), .val (.ref d), .val (.int (Int32.ofNat (q + i))), .val (.int (Int32.ofNat len)), .val (.int (Int32.ofNat i)), .val (.int (cv A (o + i)))] [.int (lo8 (cv A (o + i))), .int (Int32.ofNat (q + i)), .ref d])) := c5.trans (by
        refine XS.iload Xl.here hexec rfl (hb hbytes d15) rfl ?_
        refine sipushV Xl.here hexec rfl 255 (hb hbytes d17) (by decide) ?_
        refine XS.icmpYes Xl.here hexec rfl (pc0 := 20) rfl (hb hbytes d20) rfl (ii_le_t (hp i (by omega))) (by decide) rfl ?_
        refine XS.aloadN Xl.here hexec rfl (hb hbytes d26) rfl rfl ?_
        refine XS.iloadN Xl.here hexec rfl (hb hbytes d27) rfl ?_
        refine XS.iload Xl.here hexec rfl (hb hbytes d28) rfl ?_
        refine i2b Xl.here hexec rfl (hb hbytes d30) rfl ?_
        exact Steps.refl _)
      obtain ⟨T7, X7, p7, st7⟩ := Xl.aput hexec hBk rfl hlt rfl (fits_lo8 (cv A (o + i))) (g := (mkF m 31 #[.val (.ref b), .val (.int (Int32.ofNat (o + i))), .val (.ref d), .val (.int (Int32.ofNat (q + i))), .val (.int (Int32.ofNat len)), .val (.int (Int32.ofNat i)), .val (.int (cv A (o + i)))] [.int (lo8 (cv A (o + i))), .int (Int32.ofNat (q + i)), .ref d])) rfl (rest := []) rfl (hb hbytes d31)
      have c8 : Steps p.tables e below (s₁.setTop (entryFrame m #[.ref b, .int (Int32.ofNat o), .ref d, .int (Int32.ofNat q), .int (Int32.ofNat len)] 7)) (T7.setTop (mkF m 32 #[.val (.ref b), .val (.int (Int32.ofNat (o + i))), .val (.ref d), .val (.int (Int32.ofNat (q + i))), .val (.int (Int32.ofNat len)), .val (.int (Int32.ofNat i)), .val (.int (cv A (o + i)))] [])) := c6.trans (st7 _ (Steps.refl _))
      have c9 : Steps p.tables e below (s₁.setTop (entryFrame m #[.ref b, .int (Int32.ofNat o), .ref d, .int (Int32.ofNat q), .int (Int32.ofNat len)] 7)) (T7.setTop (mkF m 3 #[.val (.ref b), .val (.int (Int32.ofNat (o + i) + 1)), .val (.ref d), .val (.int (Int32.ofNat (q + i) + 1)), .val (.int (Int32.ofNat len)), .val (.int (Int32.ofNat i + 1)), .val (.int (cv A (o + i)))] [])) := c8.trans (by
        refine iincV X7.here hexec rfl 1 (hb hbytes d32) (by decide) rfl rfl ?_
        refine iincV X7.here hexec rfl 1 (hb hbytes d35) (by decide) rfl rfl ?_
        refine iincV X7.here hexec rfl 1 (hb hbytes d38) (by decide) rfl rfl ?_
        refine XS.goto X7.here hexec rfl (pc0 := 41) rfl (hb hbytes d41) (by decide) rfl ?_
        exact Steps.refl _)
      have c10 : Steps p.tables e below (s₁.setTop (entryFrame m #[.ref b, .int (Int32.ofNat o), .ref d, .int (Int32.ofNat q), .int (Int32.ofNat len)] 7)) (T7.setTop (mkF m 3 #[.val (.ref b), .val (.int (Int32.ofNat (o + (i + 1)))), .val (.ref d), .val (.int (Int32.ofNat (q + (i + 1)))), .val (.int (Int32.ofNat len)), .val (.int (Int32.ofNat (i + 1))), .val (.int (cv A (o + i)))] [])) := by
        have := c9
        rw [succ32, succ32, succ32] at this
        exact this
      exact ih (i + 1) (by omega) _ (Or.inr ⟨_, rfl, rfl⟩) T7 _ (by rw [copyLocs_step, ← List.append_assoc]; exact X7) (pl.trans p7) (fl.step (by omega) hlt (by simp)) c10
  obtain ⟨T9, B9, z9, X9, p9, f9, g9⟩ := loop len 0 (by omega) .unset (Or.inl rfl) s₁ B (by simpa [copyLocs] using X0) ⟨hB0.1, fun _ _ => rfl, rfl⟩ (Laid.zero _ _ _) c2
  have c11 : Steps p.tables e below (s₁.setTop (entryFrame m #[.ref b, .int (Int32.ofNat o), .ref d, .int (Int32.ofNat q), .int (Int32.ofNat len)] 7)) (T9.setTop (mkF m 46 #[.val (.ref b), .val (.int (Int32.ofNat (o + len))), .val (.ref d), .val (.int (Int32.ofNat (q + len))), .val (.int (Int32.ofNat len)), .val (.int (Int32.ofNat len)), z9] [.int (Int32.ofNat len)])) := g9.trans (by
    refine XS.iload X9.here hexec rfl (hb hbytes d3) rfl ?_
    refine XS.iload X9.here hexec rfl (hb hbytes d5) rfl ?_
    refine XS.icmpYes X9.here hexec rfl (pc0 := 7) rfl (hb hbytes d7) rfl (ii_ge_t (nlt32 (by omega) (Nat.le_refl _))) (by decide) rfl ?_
    refine XS.iload X9.here hexec rfl (hb hbytes d44) rfl ?_
    exact Steps.refl _)
  exact ⟨T9, some (.int (Int32.ofNat len)), _, _, _, X9, by simp, rfl, rfl, (fun h => by cases h), ⟨rfl, B9, p9.from hh0, f9⟩, fun fs hl => c11.trans (X9.ireturnOut hexec hret rfl (Or.inl rfl) (hb hbytes d46) hl)⟩
end Cmp5
namespace Cmp3
def yN : MethodName := ⟨"java/lang/StringUTF16", "compress", "([CII)[B"⟩
abbrev yB : ByteArray := jdk_52_method_16_code
theorem d0 : decode yB 0 = .ok (.iload_n 2, 1) := by decide +kernel
theorem d1 : decode yB 1 = .ok (.newarray .byte, 2) := by decide +kernel
theorem d3 : decode yB 3 = .ok (.astore_n 3, 1) := by decide +kernel
theorem d4 : decode yB 4 = .ok (.aload_n 0, 1) := by decide +kernel
theorem d5 : decode yB 5 = .ok (.iload_n 1, 1) := by decide +kernel
theorem d6 : decode yB 6 = .ok (.aload_n 3, 1) := by decide +kernel
theorem d7 : decode yB 7 = .ok (.iconst 0, 1) := by decide +kernel
theorem d8 : decode yB 8 = .ok (.iload_n 2, 1) := by decide +kernel
theorem d9 : decode yB 9 = .ok (.invokestatic 115, 3) := by decide +kernel
theorem d12 : decode yB 12 = .ok (.istore 4, 2) := by decide +kernel
theorem d14 : decode yB 14 = .ok (.iload 4, 2) := by decide +kernel
theorem d16 : decode yB 16 = .ok (.iload_n 2, 1) := by decide +kernel
theorem d17 : decode yB 17 = .ok (.if_icmp (.eq) 40, 3) := by decide +kernel
theorem d57 : decode yB 57 = .ok (.aload_n 3, 1) := by decide +kernel
theorem d58 : decode yB 58 = .ok (.areturn, 1) := by decide +kernel
def site : List Cond := [.arrayClass .byte, Cmp5.tab] ++ staticW U16 115 Cmp5.yN
def tab : Cond := tabOf yN yB 6 (some (.array .byte)) site
def P (b : Addr) (A : Cell) (o len : Nat) (args : Array Value) (s : State) : Prop := args = #[.ref b, .int (Int32.ofNat o), .int (Int32.ofNat len)] ∧ Ch b A s ∧ o + len ≤ A.slots.size ∧ len ≤ 536870912 ∧ ∀ i, i < len → ¬ 255 < cv A (o + i)
def E (b : Addr) (A : Cell) (o len : Nat) (r : Option Value) (s u : State) : Prop := NewArr .byte "[B" len (fun j => .int (lo8 (cv A (o + j)))) r s u ∧ u.heap.size = s.heap.size + 1
/-- no char of the range above 255: a new byte[] of their low bytes -/
theorem law (l : Launch) (b : Addr) (A : Cell) (o len : Nat) : Law l yN 3 3 1 18 yB 6 (some (.array .byte)) site (P b A o len) (E b A o len) [] 1 len := by
  refine Law.of_walk (plainFor_of_name (by decide +kernel)) (by decide +kernel) (by decide +kernel) (by decide) (fun _ _ h => by rw [h.1]; rfl) (fun _ U U' hal hh h => ⟨h.1, h.2.1.mv hal hh, h.2.2⟩) (fun r U U' V V' h1 hal h2 h => ⟨NewArr.mv r U U' V V' h1 hal h2 h.1, by rw [h1, h2]; exact h.2⟩) ?_
  intro p e s m args below meth c s₁ X0 hexec hbytes hml hret hlk hnm hown hh0 W hP
  obtain ⟨rfl, hA, l1, l2, hp⟩ := hP
  have a31 := hA.1.2.2.2
  have c1 : Steps p.tables e below (s₁.setTop (entryFrame m #[.ref b, .int (Int32.ofNat o), .int (Int32.ofNat len)] 6)) (s₁.setTop (mkF m 0 #[.val (.ref b), .val (.int (Int32.ofNat o)), .val (.int (Int32.ofNat len)), .unset, .unset, .unset] [])) := entry rfl
  have c2 : Steps p.tables e below (s₁.setTop (entryFrame m #[.ref b, .int (Int32.ofNat o), .int (Int32.ofNat len)] 6)) (s₁.setTop (mkF m 1 #[.val (.ref b), .val (.int (Int32.ofNat o)), .val (.int (Int32.ofNat len)), .unset, .unset, .unset] [.int (Int32.ofNat len)])) := c1.trans (by
    refine XS.iloadN X0.here hexec rfl (hb hbytes d0) rfl ?_
    exact Steps.refl _)
  obtain ⟨T3, B3, X3, ba3, bs3, bv3, bh3, bf3, st3⟩ := X0.anew hexec (atype := .byte) (wk W (.arrayClass .byte)) rfl (by show len * 1 ≤ _; omega) (by omega) (g := (mkF m 1 #[.val (.ref b), .val (.int (Int32.ofNat o)), .val (.int (Int32.ofNat len)), .unset, .unset, .unset] [.int (Int32.ofNat len)])) rfl (hb hbytes d1) (rest := []) rfl (Nat.le_refl _) (by show 0 + len ≤ len; omega)
  rw [hh0] at ba3 st3
  have kp3 : XT.Kept s T3 := (XT.Kept.of_eq hh0).push bh3
  have hA3 := hA.keep X3.warmed.alike (kp3 _ _ hA.1.1)
  have hne : b ≠ s.heap.size := hA.1.ne
  have c4 : Steps p.tables e below (s₁.setTop (entryFrame m #[.ref b, .int (Int32.ofNat o), .int (Int32.ofNat len)] 6)) (T3.setTop (mkF m 3 #[.val (.ref b), .val (.int (Int32.ofNat o)), .val (.int (Int32.ofNat len)), .unset, .unset, .unset] [.ref s.heap.size])) := c2.trans (st3 _ (Steps.refl _))
  have c5 : Steps p.tables e below (s₁.setTop (entryFrame m #[.ref b, .int (Int32.ofNat o), .int (Int32.ofNat len)] 6)) (T3.setTop (mkF m 9 #[.val (.ref b), .val (.int (Int32.ofNat o)), .val (.int (Int32.ofNat len)), .val (.ref s.heap.size), .unset, .unset] [.int (Int32.ofNat len), .int 0, .ref s.heap.size, .int (Int32.ofNat o), .ref b])) := c4.trans (by
    refine XS.astoreN X3.here hexec rfl (hb hbytes d3) rfl rfl rfl ?_
    refine XS.aloadN X3.here hexec rfl (hb hbytes d4) rfl rfl ?_
    refine XS.iloadN X3.here hexec rfl (hb hbytes d5) rfl ?_
    refine XS.aloadN X3.here hexec rfl (hb hbytes d6) rfl rfl ?_
    refine iconstV X3.here hexec rfl 0 (hb hbytes d7) (by decide) ?_
    refine XS.iloadN X3.here hexec rfl (hb hbytes d8) rfl ?_
    exact Steps.refl _)
  obtain ⟨v6, T6, X6, E6, g6⟩ := X3.callS hexec (Cmp5.law l b A s.heap.size B3 o 0 len) hown (wks W (staticW U16 115 Cmp5.yN)) (wk W Cmp5.tab) (W := 0) (Nat.le_of_ble_eq_true rfl) (Nat.le_of_ble_eq_true rfl) (Nat.le_refl _) (by show 0 + len + 0 ≤ len; omega) (g := (mkF m 9 #[.val (.ref b), .val (.int (Int32.ofNat o)), .val (.int (Int32.ofNat len)), .val (.ref s.heap.size), .unset, .unset] [.int (Int32.ofNat len), .int (Int32.ofNat 0), .ref s.heap.size, .int (Int32.ofNat o), .ref b])) rfl (by rw [hml]; rfl) c5 (argsL := [.ref b, .int (Int32.ofNat o), .ref s.heap.size, .int (Int32.ofNat 0), .int (Int32.ofNat len)]) (rest := []) rfl rfl (by show 2 * 0 + 0 ≤ _; decide) (hb hbytes d9) (⟨rfl, hA3, ba3, hne, l1, by rw [bs3]; simp, hp⟩)
  obtain ⟨rfl, B6, p6, f6⟩ := E6
  have c7 : Steps p.tables e below (s₁.setTop (entryFrame m #[.ref b, .int (Int32.ofNat o), .int (Int32.ofNat len)] 6)) (T6.setTop (mkF m 12 #[.val (.ref b), .val (.int (Int32.ofNat o)), .val (.int (Int32.ofNat len)), .val (.ref s.heap.size), .unset, .unset] [.int (Int32.ofNat len)])) := g6
  have c8 : Steps p.tables e below (s₁.setTop (entryFrame m #[.ref b, .int (Int32.ofNat o), .int (Int32.ofNat len)] 6)) (T6.setTop (mkF m 58 #[.val (.ref b), .val (.int (Int32.ofNat o)), .val (.int (Int32.ofNat len)), .val (.ref s.heap.size), .val (.int (Int32.ofNat len)), .unset] [.ref s.heap.size])) := c7.trans (by
    refine XS.istore X6.here hexec rfl (hb hbytes d12) rfl rfl ?_
    refine XS.iload X6.here hexec rfl (hb hbytes d14) rfl ?_
    refine XS.iloadN X6.here hexec rfl (hb hbytes d16) rfl ?_
    refine XS.icmpYes X6.here hexec rfl (pc0 := 17) rfl (hb hbytes d17) rfl (ii_eq_t rfl) (by decide) rfl ?_
    refine XS.aloadN X6.here hexec rfl (hb hbytes d57) rfl rfl ?_
    exact Steps.refl _)
  have X8 := X6.wide (L' := []) (cells' := 1) (slots' := len) (fun x hx hlt => by
    simp only [List.nil_append, copyLocs, List.mem_map, List.mem_range] at hx
    obtain ⟨i, -, rfl⟩ := hx
    exact absurd hlt (Nat.lt_irrefl _)) (Nat.le_refl _) (by omega)
  exact ⟨T6, some (.ref s.heap.size), _, _, _, X8, rfl, rfl, rfl, (fun h => by cases h), ⟨⟨rfl, B6, ba3.like (X3.warmed.alike.symm.trans X6.warmed.alike) p6.1 f6.1 f6.2.1 f6.2.2.1, f6.2.1.trans bv3, by rw [X6.warmed.alike.findClass, f6.1]; exact bf3, by rw [f6.2.2.1, bs3]; simp, fun j hj => by rw [f6.2.2.2 j, if_pos (by omega)]; rfl, kp3.put p6 (Nat.le_refl _)⟩, by rw [p6.2.2, bh3, hh0]; simp⟩, fun fs hl => c8.trans (X8.areturnOut hexec rfl hret rfl (hb hbytes d58) hl)⟩
end Cmp3
namespace CodL
def yN : MethodName := ⟨"java/lang/StringUTF16", "coderFromArrayLen", "([BI)B"⟩
abbrev yB : ByteArray := jdk_52_method_15_code
theorem d0 : decode yB 0 = .ok (.iload_n 1, 1) := by decide +kernel
theorem d1 : decode yB 1 = .ok (.aload_n 0, 1) := by decide +kernel
theorem d2 : decode yB 2 = .ok (.arraylength, 1) := by decide +kernel
theorem d3 : decode yB 3 = .ok (.isub, 1) := by decide +kernel
theorem d4 : decode yB 4 = .ok (.bipush 31, 2) := by decide +kernel
theorem d6 : decode yB 6 = .ok (.iushr, 1) := by decide +kernel
theorem d7 : decode yB 7 = .ok (.i2b, 1) := by decide +kernel
theorem d8 : decode yB 8 = .ok (.ireturn, 1) := by decide +kernel
def site : List Cond := []
def tab : Cond := tabOf yN yB 2 (some .byte) site
def P (d : Addr) (B : Cell) (args : Array Value) (s : State) : Prop := args = #[.ref d, .int (Int32.ofNat B.slots.size)] ∧ Arr .byte d B s
def E (r : Option Value) (s u : State) : Prop := XT.PureE (some (.int 0)) r s u
/-- an array as long as the number of chars: LATIN1 -/
theorem law (l : Launch) (d : Addr) (B : Cell) : Law l yN 2 2 0 0 yB 2 (some .byte) site (P d B) E [] 0 0 := by
  refine Law.of_walk (plainFor_of_name (by decide +kernel)) (by decide +kernel) (by decide +kernel) (by decide) (fun _ _ h => by rw [h.1]; rfl) (fun _ U U' hal hh h => ⟨h.1, h.2.mv hal hh⟩) (fun r U U' V V' h1 hal h2 h => XT.PureE.mv r U U' V V' h1 hal h2 h) ?_
  intro p e s m args below meth c s₁ X0 hexec hbytes hml hret hlk hnm hown hh0 W hP
  obtain ⟨rfl, hB⟩ := hP
  have hB0 := hB.mv X0.warmed.alike hh0
  have c1 : Steps p.tables e below (s₁.setTop (entryFrame m #[.ref d, .int (Int32.ofNat B.slots.size)] 2)) (s₁.setTop (mkF m 0 #[.val (.ref d), .val (.int (Int32.ofNat B.slots.size))] [])) := entry rfl
  have c2 : Steps p.tables e below (s₁.setTop (entryFrame m #[.ref d, .int (Int32.ofNat B.slots.size)] 2)) (s₁.setTop (mkF m 2 #[.val (.ref d), .val (.int (Int32.ofNat B.slots.size))] [.ref d, .int (Int32.ofNat B.slots.size)])) := c1.trans (by
    refine XS.iloadN X0.here hexec rfl (hb hbytes d0) rfl ?_
    refine XS.aloadN X0.here hexec rfl (hb hbytes d1) rfl rfl ?_
    exact Steps.refl _)
  have c3 : Steps p.tables e below (s₁.setTop (entryFrame m #[.ref d, .int (Int32.ofNat B.slots.size)] 2)) (s₁.setTop (mkF m 8 #[.val (.ref d), .val (.int (Int32.ofNat B.slots.size))] [.int (lo8 (ushr (Int32.ofNat B.slots.size - Int32.ofNat B.slots.size) 31))])) := c2.trans (by
    refine X0.alen hexec hB0 rfl rfl (hb hbytes d2) ?_
    refine XS.isub X0.here hexec rfl (hb hbytes d3) rfl ?_
    refine bipushV X0.here hexec rfl 31 (hb hbytes d4) (by decide) ?_
    refine iushr X0.here hexec rfl (hb hbytes d6) rfl ?_
    refine i2b X0.here hexec rfl (hb hbytes d7) rfl ?_
    exact Steps.refl _)
  have e0 : lo8 (ushr (Int32.ofNat B.slots.size - Int32.ofNat B.slots.size) 31) = 0 := by rw [Int32.sub_self]; decide
  rw [e0] at c3
  exact ⟨s₁, some (.int 0), _, _, _, X0, rfl, rfl, rfl, (fun h => by cases h), ⟨rfl, hh0⟩, fun fs hl => c3.trans (X0.ireturnOut hexec hret rfl (Or.inr (Or.inr (Or.inl rfl))) (hb hbytes d8) hl)⟩
end CodL
/-- the String at a is Latin-1 over a new byte[] (the heap's one new cell): the low bytes of the len chars of A from o on; every cell but a is kept -/
def Got (a : Addr) (D : Cell) (fV fC : Field) (A : Cell) (o len : Nat) (r : Option Value) (s u : State) : Prop := r = none ∧ ∃ D' V : Cell, Blank "java/lang/String" a D' u ∧ Same D D' [fV.slot, fC.slot] ∧ D'.slots[fV.slot]? = some (.ref s.heap.size) ∧ D'.slots[fC.slot]? = some (.int 0) ∧ Arr .byte s.heap.size V u ∧ V.vm = .none ∧ u.vm.findClass "[B" = some V.cls ∧ V.slots.size = len ∧ (∀ j, j < len → V.slots[j]? = some (.int (lo8 (cv A (o + j))))) ∧ (∀ (y : Addr) (c : Cell), y ≠ a → s.heap[y]? = some c → u.heap[y]? = some c) ∧ u.heap.size = s.heap.size + 1
theorem Got.mv {a : Addr} {D A : Cell} {fV fC : Field} {o len : Nat} : ∀ r (U U' V V' : State), U'.heap = U.heap → V.vm.Alike V'.vm → V'.heap = V.heap → Got a D fV fC A o len r U V → Got a D fV fC A o len r U' V' :=
  fun r U U' V V' h1 hal h2 ⟨e0, D', X, a1, a2, a3, a4, a5, a6, a7, a8, a9, a10, a11⟩ => ⟨e0, D', X, a1.mv hal h2, a2, by rw [h1]; exact a3, a4, by rw [h1]; exact a5.mv hal h2, a6, by rw [hal.findClass]; exact a7, a8, a9, by rw [h1, h2]; exact a10, by rw [h1, h2]; exact a11⟩
namespace New4
def yN : MethodName := ⟨"java/lang/String", "<init>", "([CIILjava/lang/Void;)V"⟩
abbrev yB : ByteArray := jdk_42_method_149_code
theorem d0 : decode yB 0 = .ok (.aload_n 0, 1) := by decide +kernel
theorem d1 : decode yB 1 = .ok (.invokespecial 1, 3) := by decide +kernel
theorem d4 : decode yB 4 = .ok (.iload_n 3, 1) := by decide +kernel
theorem d5 : decode yB 5 = .ok (.ifCond (.ne) 22, 3) := by decide +kernel
theorem d27 : decode yB 27 = .ok (.getstatic 38, 3) := by decide +kernel
theorem d30 : decode yB 30 = .ok (.ifCond (.eq) 28, 3) := by decide +kernel
theorem d33 : decode yB 33 = .ok (.aload_n 1, 1) := by decide +kernel
theorem d34 : decode yB 34 = .ok (.iload_n 2, 1) := by decide +kernel
theorem d35 : decode yB 35 = .ok (.iload_n 3, 1) := by decide +kernel
theorem d36 : decode yB 36 = .ok (.invokestatic 177, 3) := by decide +kernel
theorem d39 : decode yB 39 = .ok (.astore 5, 2) := by decide +kernel
theorem d41 : decode yB 41 = .ok (.aload_n 0, 1) := by decide +kernel
theorem d42 : decode yB 42 = .ok (.aload 5, 2) := by decide +kernel
theorem d44 : decode yB 44 = .ok (.iload_n 3, 1) := by decide +kernel
theorem d45 : decode yB 45 = .ok (.invokestatic 47, 3) := by decide +kernel
theorem d48 : decode yB 48 = .ok (.putfield 15, 3) := by decide +kernel
theorem d51 : decode yB 51 = .ok (.aload_n 0, 1) := by decide +kernel
theorem d52 : decode yB 52 = .ok (.aload 5, 2) := by decide +kernel
theorem d54 : decode yB 54 = .ok (.putfield 9, 3) := by decide +kernel
theorem d57 : decode yB 57 = .ok (.return_, 1) := by decide +kernel
def site : List Cond := [.fieldLink "java/lang/String" 38 "java/lang/String" "COMPACT_STRINGS" "Z", Cmp3.tab, CodL.tab, .laysFinal "java/lang/String" "java/lang/String" "value" "[B", .fieldLink "java/lang/String" 9 "java/lang/String" "value" "[B", .laysFinal "java/lang/String" "java/lang/String" "coder" "B", .fieldLink "java/lang/String" 15 "java/lang/String" "coder" "B"] ++ objW "java/lang/String" 1 ++ staticW "java/lang/String" 177 Cmp3.yN ++ staticW "java/lang/String" 47 CodL.yN
def tab : Cond := tabOf yN yB 6 none site
def P (a : Addr) (D : Cell) (fV fC : Field) (b : Addr) (A : Cell) (z : Int32) (o len : Nat) (args : Array Value) (s : State) : Prop := args = #[.ref a, .ref b, .int (Int32.ofNat o), .int (Int32.ofNat len), .null] ∧ Blank "java/lang/String" a D s ∧ Found "java/lang/String" "value" "[B" fV s ∧ Found "java/lang/String" "coder" "B" fC s ∧ Ch b A s ∧ StaticIs s "java/lang/String" "COMPACT_STRINGS" "Z" (.int z) ∧ ¬ z = 0 ∧ 0 < len ∧ o + len ≤ A.slots.size ∧ len ≤ 536870912 ∧ ∀ i, i < len → ¬ 255 < cv A (o + i)
def E (a : Addr) (D : Cell) (fV fC : Field) (A : Cell) (o len : Nat) (r : Option Value) (s u : State) : Prop := Got a D fV fC A o len r s u
/-- len > 0, no char of the range above 255: a Latin-1 String of their low bytes -/
theorem law (l : Launch) (a : Addr) (D : Cell) (fV fC : Field) (b : Addr) (A : Cell) (z : Int32) (o len : Nat) : Law l yN 5 4 2 35 yB 6 none site (P a D fV fC b A z o len) (E a D fV fC A o len) [⟨a, fC.slot⟩, ⟨a, fV.slot⟩] 1 len := by
  refine Law.of_walk (plainFor_of_name (by decide +kernel)) (by decide +kernel) (by decide +kernel) (by decide) (fun _ _ h => by rw [h.1]; rfl) (fun _ U U' hal hh h => ⟨h.1, h.2.1.mv hal hh, h.2.2.1.al hal, h.2.2.2.1.al hal, h.2.2.2.2.1.mv hal hh, h.2.2.2.2.2.1.there hal hh, h.2.2.2.2.2.2⟩) (fun r U U' V V' h1 hal h2 h => Got.mv r U U' V V' h1 hal h2 h) ?_
  intro p e s m args below meth c s₁ X0 hexec hbytes hml hret hlk hnm hown hh0 W hP
  obtain ⟨rfl, hB, f1, f2, hA, s1, hz, l0, l1, l2, hp⟩ := hP
  have a31 := hA.1.2.2.2
  have c1 : Steps p.tables e below (s₁.setTop (entryFrame m #[.ref a, .ref b, .int (Int32.ofNat o), .int (Int32.ofNat len), .null] 6)) (s₁.setTop (mkF m 0 #[.val (.ref a), .val (.ref b), .val (.int (Int32.ofNat o)), .val (.int (Int32.ofNat len)), .val .null, .unset] [])) := entry rfl
  have c2 : Steps p.tables e below (s₁.setTop (entryFrame m #[.ref a, .ref b, .int (Int32.ofNat o), .int (Int32.ofNat len), .null] 6)) (s₁.setTop (mkF m 1 #[.val (.ref a), .val (.ref b), .val (.int (Int32.ofNat o)), .val (.int (Int32.ofNat len)), .val .null, .unset] [.ref a])) := c1.trans (by
    refine XS.aloadN X0.here hexec rfl (hb hbytes d0) rfl rfl ?_
    exact Steps.refl _)
  obtain ⟨T3, X3, q3, st3⟩ := X0.oinit hexec hown (wks W (objW "java/lang/String" 1)) (g := (mkF m 1 #[.val (.ref a), .val (.ref b), .val (.int (Int32.ofNat o)), .val (.int (Int32.ofNat len)), .val .null, .unset] [.ref a])) rfl (by rw [hml]; rfl) (rest := []) rfl (hb hbytes d1) (W := 0) (by show 2 * 0 + 0 ≤ _; decide) (Nat.le_of_ble_eq_true rfl) (Nat.le_of_ble_eq_true rfl)
  have hh3 := q3.trans hh0
  have c4 : Steps p.tables e below (s₁.setTop (entryFrame m #[.ref a, .ref b, .int (Int32.ofNat o), .int (Int32.ofNat len), .null] 6)) (T3.setTop (mkF m 27 #[.val (.ref a), .val (.ref b), .val (.int (Int32.ofNat o)), .val (.int (Int32.ofNat len)), .val .null, .unset] [])) := (c2.trans (st3 _ (Steps.refl _))).trans (by
    refine XS.iloadN X3.here hexec rfl (hb hbytes d4) rfl ?_
    refine XS.ifYes X3.here hexec rfl (pc0 := 5) rfl (hb hbytes d5) rfl (i0_ne_t (nz32 (by omega) l0)) (by decide) rfl ?_
    exact Steps.refl _)
  obtain ⟨T5, X5, q5, st5⟩ := X3.sget hexec hown (wk W (.fieldLink "java/lang/String" 38 "java/lang/String" "COMPACT_STRINGS" "Z")) s1 (fun _ _ h => by rw [hh3]; exact h) (g := (mkF m 27 #[.val (.ref a), .val (.ref b), .val (.int (Int32.ofNat o)), .val (.int (Int32.ofNat len)), .val .null, .unset] [])) rfl (hb hbytes d27)
  have hh5 := q5.trans hh3
  have c6 : Steps p.tables e below (s₁.setTop (entryFrame m #[.ref a, .ref b, .int (Int32.ofNat o), .int (Int32.ofNat len), .null] 6)) (T5.setTop (mkF m 30 #[.val (.ref a), .val (.ref b), .val (.int (Int32.ofNat o)), .val (.int (Int32.ofNat len)), .val .null, .unset] [.int z])) := c4.trans (st5 _ (Steps.refl _))
  have c7 : Steps p.tables e below (s₁.setTop (entryFrame m #[.ref a, .ref b, .int (Int32.ofNat o), .int (Int32.ofNat len), .null] 6)) (T5.setTop (mkF m 36 #[.val (.ref a), .val (.ref b), .val (.int (Int32.ofNat o)), .val (.int (Int32.ofNat len)), .val .null, .unset] [.int (Int32.ofNat len), .int (Int32.ofNat o), .ref b])) := c6.trans (by
    refine XS.ifNo X5.here hexec rfl (hb hbytes d30) rfl (i0_eq_f hz) ?_
    refine XS.aloadN X5.here hexec rfl (hb hbytes d33) rfl rfl ?_
    refine XS.iloadN X5.here hexec rfl (hb hbytes d34) rfl ?_
    refine XS.iloadN X5.here hexec rfl (hb hbytes d35) rfl ?_
    exact Steps.refl _)
  obtain ⟨v8, T8, X8, E8, g8⟩ := X5.callS hexec (Cmp3.law l b A o len) hown (wks W (staticW "java/lang/String" 177 Cmp3.yN)) (wk W Cmp3.tab) (W := 0) (Nat.le_of_ble_eq_true rfl) (Nat.le_of_ble_eq_true rfl) (Nat.le_refl _) (by show 0 + len ≤ len; omega) (g := (mkF m 36 #[.val (.ref a), .val (.ref b), .val (.int (Int32.ofNat o)), .val (.int (Int32.ofNat len)), .val .null, .unset] [.int (Int32.ofNat len), .int (Int32.ofNat o), .ref b])) rfl (by rw [hml]; rfl) c7 (argsL := [.ref b, .int (Int32.ofNat o), .int (Int32.ofNat len)]) (rest := []) rfl rfl (by show 2 * 0 + 0 ≤ _; decide) (hb hbytes d36) (⟨rfl, hA.mv X5.warmed.alike hh5, l1, l2, hp⟩)
  obtain ⟨e8, z8⟩ := E8
  obtain ⟨rfl, N, n1, n2, n3, n4, n5, n6⟩ := NewArr.mv _ T5 s _ _ hh5.symm (Vm.Alike.refl _) rfl e8
  rw [hh5] at z8
  have hB1 := hB.keep X8.warmed.alike (n6 _ _ hB.1)
  have hne : s.heap.size ≠ a := (Nat.ne_of_lt (Array.getElem?_eq_some_iff.mp hB.1).1).symm
  have c9 : Steps p.tables e below (s₁.setTop (entryFrame m #[.ref a, .ref b, .int (Int32.ofNat o), .int (Int32.ofNat len), .null] 6)) (T8.setTop (mkF m 39 #[.val (.ref a), .val (.ref b), .val (.int (Int32.ofNat o)), .val (.int (Int32.ofNat len)), .val .null, .unset] [.ref s.heap.size])) := g8
  have c10 : Steps p.tables e below (s₁.setTop (entryFrame m #[.ref a, .ref b, .int (Int32.ofNat o), .int (Int32.ofNat len), .null] 6)) (T8.setTop (mkF m 45 #[.val (.ref a), .val (.ref b), .val (.int (Int32.ofNat o)), .val (.int (Int32.ofNat len)), .val .null, .val (.ref s.heap.size)] [.int (Int32.ofNat N.slots.size), .ref s.heap.size, .ref a])) := by
    have hc : Steps p.tables e below (s₁.setTop (entryFrame m #[.ref a, .ref b, .int (Int32.ofNat o), .int (Int32.ofNat len), .null] 6)) (T8.setTop (mkF m 45 #[.val (.ref a), .val (.ref b), .val (.int (Int32.ofNat o)), .val (.int (Int32.ofNat len)), .val .null, .val (.ref s.heap.size)] [.int (Int32.ofNat len), .ref s.heap.size, .ref a])) := c9.trans (by
      refine XS.astore X8.here hexec rfl (hb hbytes d39) rfl rfl rfl ?_
      refine XS.aloadN X8.here hexec rfl (hb hbytes d41) rfl rfl ?_
      refine XS.aload X8.here hexec rfl (hb hbytes d42) rfl rfl ?_
      refine XS.iloadN X8.here hexec rfl (hb hbytes d44) rfl ?_
      exact Steps.refl _)
    rw [n4]; exact hc
  obtain ⟨v11, T11, X11, E11, g11⟩ := X8.callS hexec (CodL.law l s.heap.size N) hown (wks W (staticW "java/lang/String" 47 CodL.yN)) (wk W CodL.tab) (W := 1) (Nat.le_of_ble_eq_true rfl) (Nat.le_of_ble_eq_true rfl) (Nat.le_refl _) (by show 0 + len + 0 ≤ len; omega) (g := (mkF m 45 #[.val (.ref a), .val (.ref b), .val (.int (Int32.ofNat o)), .val (.int (Int32.ofNat len)), .val .null, .val (.ref s.heap.size)] [.int (Int32.ofNat N.slots.size), .ref s.heap.size, .ref a])) rfl (by rw [hml]; rfl) c10 (argsL := [.ref s.heap.size, .int (Int32.ofNat N.slots.size)]) (rest := [.ref a]) rfl rfl (by show 2 * 0 + (1 + 0) ≤ _; decide) (hb hbytes d45) (⟨rfl, n1⟩)
  obtain ⟨rfl, q11⟩ := E11
  have hB11 := hB1.mv (X8.warmed.alike.symm.trans X11.warmed.alike) q11
  have c12 : Steps p.tables e below (s₁.setTop (entryFrame m #[.ref a, .ref b, .int (Int32.ofNat o), .int (Int32.ofNat len), .null] 6)) (T11.setTop (mkF m 48 #[.val (.ref a), .val (.ref b), .val (.int (Int32.ofNat o)), .val (.int (Int32.ofNat len)), .val .null, .val (.ref s.heap.size)] [.int 0, .ref a])) := g11
  obtain ⟨T13, X13, p13, bl13, sl13, st13⟩ := X11.finit hexec hown (wk W (.fieldLink "java/lang/String" 15 "java/lang/String" "coder" "B")) (Or.inr ⟨_, (wk W (.laysFinal "java/lang/String" "java/lang/String" "coder" "B"))⟩) (Or.inl ⟨rfl, hnm⟩) f2 (Or.inl rfl) hB11 (t := .byte) (by decide +kernel) rfl (g := (mkF m 48 #[.val (.ref a), .val (.ref b), .val (.int (Int32.ofNat o)), .val (.int (Int32.ofNat len)), .val .null, .val (.ref s.heap.size)] [.int 0, .ref a])) rfl (rest := []) rfl (hb hbytes d48)
  have c14 : Steps p.tables e below (s₁.setTop (entryFrame m #[.ref a, .ref b, .int (Int32.ofNat o), .int (Int32.ofNat len), .null] 6)) (T13.setTop (mkF m 54 #[.val (.ref a), .val (.ref b), .val (.int (Int32.ofNat o)), .val (.int (Int32.ofNat len)), .val .null, .val (.ref s.heap.size)] [.ref s.heap.size, .ref a])) := (c12.trans (st13 _ (Steps.refl _))).trans (by
    refine XS.aloadN X13.here hexec rfl (hb hbytes d51) rfl rfl ?_
    refine XS.aload X13.here hexec rfl (hb hbytes d52) rfl rfl ?_
    exact Steps.refl _)
  obtain ⟨T15, X15, p15, bl15, sl15, st15⟩ := X13.finit hexec hown (wk W (.fieldLink "java/lang/String" 9 "java/lang/String" "value" "[B")) (Or.inr ⟨_, (wk W (.laysFinal "java/lang/String" "java/lang/String" "value" "[B"))⟩) (Or.inl ⟨rfl, hnm⟩) f1 (Or.inl rfl) bl13 (t := (.array .byte)) (by decide +kernel) rfl (g := (mkF m 54 #[.val (.ref a), .val (.ref b), .val (.int (Int32.ofNat o)), .val (.int (Int32.ofNat len)), .val .null, .val (.ref s.heap.size)] [.ref s.heap.size, .ref a])) rfl (rest := []) rfl (hb hbytes d54)
  have c16 : Steps p.tables e below (s₁.setTop (entryFrame m #[.ref a, .ref b, .int (Int32.ofNat o), .int (Int32.ofNat len), .null] 6)) (T15.setTop (mkF m 57 #[.val (.ref a), .val (.ref b), .val (.int (Int32.ofNat o)), .val (.int (Int32.ofNat len)), .val .null, .val (.ref s.heap.size)] [])) := c14.trans (st15 _ (Steps.refl _))
  have ap := apart (Or.inr ⟨_, (wk W (.laysFinal "java/lang/String" "java/lang/String" "value" "[B"))⟩) (Or.inr ⟨_, (wk W (.laysFinal "java/lang/String" "java/lang/String" "coder" "B"))⟩) f1 f2 (t₁ := .array .byte) (t₂ := .byte) (by decide +kernel) (by decide +kernel) (by decide)
  have al := X8.warmed.alike.symm.trans X15.warmed.alike
  have n7 : T11.heap[s.heap.size]? = some N := by rw [q11]; exact n1.1
  exact ⟨T15, none, _, _, _, X15, by simp, rfl, by omega, (fun _ => rfl), ⟨rfl, _, N, bl15, ((Same.refl D _).set _ (by simp)).set _ (by simp), sl15, (Cell.slots_setSlot_ne _ ap).trans sl13, n1.keep al (p15.other hne (p13.other hne n7)), n2, by rw [al.findClass]; exact n3, n4, n5, fun y c h1 h2 => p15.other h1 (p13.other h1 (by rw [q11]; exact n6 y c h2)), by rw [p15.2.2, p13.2.2, q11]; exact z8⟩, fun fs hl => c16.trans (X15.returnOut hexec hret (hb hbytes d57) hl)⟩
end New4
namespace New1
def yN : MethodName := ⟨"java/lang/String", "<init>", "([C)V"⟩
abbrev yB : ByteArray := jdk_42_method_3_code
theorem d0 : decode yB 0 = .ok (.aload_n 0, 1) := by decide +kernel
theorem d1 : decode yB 1 = .ok (.aload_n 1, 1) := by decide +kernel
theorem d2 : decode yB 2 = .ok (.iconst 0, 1) := by decide +kernel
theorem d3 : decode yB 3 = .ok (.aload_n 1, 1) := by decide +kernel
theorem d4 : decode yB 4 = .ok (.arraylength, 1) := by decide +kernel
theorem d5 : decode yB 5 = .ok (.aconst_null, 1) := by decide +kernel
theorem d6 : decode yB 6 = .ok (.invokespecial 27, 3) := by decide +kernel
theorem d9 : decode yB 9 = .ok (.return_, 1) := by decide +kernel
def site : List Cond := [New4.tab] ++ initW "java/lang/String" 27 New4.yN
def tab : Cond := tabOf yN yB 2 none site
def P (a : Addr) (D : Cell) (fV fC : Field) (b : Addr) (A : Cell) (z : Int32) (args : Array Value) (s : State) : Prop := args = #[.ref a, .ref b] ∧ Blank "java/lang/String" a D s ∧ Found "java/lang/String" "value" "[B" fV s ∧ Found "java/lang/String" "coder" "B" fC s ∧ Ch b A s ∧ StaticIs s "java/lang/String" "COMPACT_STRINGS" "Z" (.int z) ∧ ¬ z = 0 ∧ 0 < A.slots.size ∧ A.slots.size ≤ 536870912 ∧ ∀ i, i < A.slots.size → ¬ 255 < cv A i
def E (a : Addr) (D : Cell) (fV fC : Field) (A : Cell) (r : Option Value) (s u : State) : Prop := Got a D fV fC A 0 A.slots.size r s u
/-- new String(chars), not empty, no char above 255: a Latin-1 String of their low bytes -/
theorem law (l : Launch) (a : Addr) (D : Cell) (fV fC : Field) (b : Addr) (A : Cell) (z : Int32) : Law l yN 2 1 3 52 yB 2 none site (P a D fV fC b A z) (E a D fV fC A) [⟨a, fC.slot⟩, ⟨a, fV.slot⟩] 1 A.slots.size := by
  refine Law.of_walk (plainFor_of_name (by decide +kernel)) (by decide +kernel) (by decide +kernel) (by decide) (fun _ _ h => by rw [h.1]; rfl) (fun _ U U' hal hh h => ⟨h.1, h.2.1.mv hal hh, h.2.2.1.al hal, h.2.2.2.1.al hal, h.2.2.2.2.1.mv hal hh, h.2.2.2.2.2.1.there hal hh, h.2.2.2.2.2.2⟩) (fun r U U' V V' h1 hal h2 h => Got.mv r U U' V V' h1 hal h2 h) ?_
  intro p e s m args below meth c s₁ X0 hexec hbytes hml hret hlk hnm hown hh0 W hP
  obtain ⟨rfl, hB, f1, f2, hA, s1, hz, l0, l2, hp⟩ := hP
  have c1 : Steps p.tables e below (s₁.setTop (entryFrame m #[.ref a, .ref b] 2)) (s₁.setTop (mkF m 0 #[.val (.ref a), .val (.ref b)] [])) := entry rfl
  have c2 : Steps p.tables e below (s₁.setTop (entryFrame m #[.ref a, .ref b] 2)) (s₁.setTop (mkF m 6 #[.val (.ref a), .val (.ref b)] [.null, .int (Int32.ofNat A.slots.size), .int 0, .ref b, .ref a])) := c1.trans (by
    refine XS.aloadN X0.here hexec rfl (hb hbytes d0) rfl rfl ?_
    refine XS.aloadN X0.here hexec rfl (hb hbytes d1) rfl rfl ?_
    refine iconstV X0.here hexec rfl 0 (hb hbytes d2) (by decide) ?_
    refine XS.aloadN X0.here hexec rfl (hb hbytes d3) rfl rfl ?_
    refine X0.alen hexec (hA.1.mv X0.warmed.alike hh0) rfl rfl (hb hbytes d4) ?_
    refine XS.aconstNull X0.here hexec rfl (hb hbytes d5) ?_
    exact Steps.refl _)
  obtain ⟨v3, T3, X3, E3, g3⟩ := X0.callN hexec (New4.law l a D fV fC b A z 0 A.slots.size) rfl hown (wks W (initW "java/lang/String" 27 New4.yN)) (W New4.tab (by simp only [site, List.mem_cons, List.mem_append, true_or, or_true])) (W := 0) (Nat.le_of_ble_eq_true rfl) (Nat.le_of_ble_eq_true rfl) (Nat.le_refl _) (by show 0 + A.slots.size ≤ A.slots.size; omega) (g := (mkF m 6 #[.val (.ref a), .val (.ref b)] [.null, .int (Int32.ofNat A.slots.size), .int (Int32.ofNat 0), .ref b, .ref a])) rfl (by rw [hml]; rfl) c2 (argsL := [.ref b, .int (Int32.ofNat 0), .int (Int32.ofNat A.slots.size), .null]) (rest := []) rfl rfl (by show 2 * 0 + 0 ≤ _; decide) (hb hbytes d6) (⟨rfl, hB.mv X0.warmed.alike hh0, f1.al X0.warmed.alike, f2.al X0.warmed.alike, hA.mv X0.warmed.alike hh0, s1.there X0.warmed.alike hh0, hz, l0, by omega, l2, fun i hi => by rw [Nat.zero_add]; exact hp i hi⟩)
  have e0 := Got.mv _ s₁ s _ _ hh0.symm (Vm.Alike.refl _) rfl E3
  obtain rfl := e0.1
  have c4 : Steps p.tables e below (s₁.setTop (entryFrame m #[.ref a, .ref b] 2)) (T3.setTop (mkF m 9 #[.val (.ref a), .val (.ref b)] [])) := g3
  exact ⟨T3, none, _, _, _, X3, by simp, rfl, by omega, (fun _ => rfl), e0, fun fs hl => c4.trans (X3.returnOut hexec hret (hb hbytes d9) hl)⟩
theorem pays {l : Launch} {R : Room} {p : Program} {e : Env} {below : List Frame} {s : State} {sargs : Array Value} {len W : Nat} (a : Addr) (D : Cell) (fV fC : Field) (b : Addr) (A : Cell) (z : Int32) (htab : tab.before sargs s = true) (hfr : 4 ≤ R.frames) (hlo : W + 65 ≤ R.locals) :
    Back l R p e below s sargs yN len W (fun A₁ a₁ => A₁.cells + 1 ≤ R.cells ∧ A₁.slots + A.slots.size ≤ R.slots ∧ P a D fV fC b A z a₁ A₁.U) (fun A₁ _ v₁ B₁ => E a D fV fC A v₁ A₁.U B₁.U ∧ B₁.locs = A₁.locs ++ [⟨a, fC.slot⟩, ⟨a, fV.slot⟩] ∧ B₁.cells = A₁.cells + 1 ∧ B₁.slots = A₁.slots + A.slots.size) :=
  (law l a D fV fC b A z).pays htab hfr (by omega)
end New1
/-- the byte, read back as charAt reads it, is the char -/
theorem lo8_mask {x : Int32} (h0 : ¬ x < 0) (h1 : ¬ 255 < x) : lo8 x &&& 255 = x := by
  have t : ∀ k : Fin 256, lo8 (Int32.ofNat k.val) &&& 255 = Int32.ofNat k.val := by decide +kernel
  rw [Int32.lt_iff_toInt_lt] at h0 h1
  have e0 : (0 : Int32).toInt = 0 := rfl
  have e1 : (255 : Int32).toInt = 255 := rfl
  obtain ⟨k, hk⟩ : ∃ k : Nat, x.toInt = k := ⟨x.toInt.toNat, by omega⟩
  have hx : x = Int32.ofNat k := Int32.toInt_inj.mp (by rw [hk, Int32.toInt_ofNat_small (by omega)])
  rw [hx]
  exact t ⟨k, by omega⟩
end StrChars
namespace StrChars.Road
open Jvm Sem ClassFile Op Lib Jvm.Stand Jvm.Free Jvm.Free.XT
open Jvm.Lib.Cold (StaticIs)
abbrev ST : String := "java/lang/String"
/-- every table word that New1's law asks, flat -/
abbrev words : List Jvm.Cond := [.code New1.yN New1.yB 2 none, .initialized ST, .methodLink ST 27 New4.yN, .instanceMethod New4.yN,
  .code New4.yN New4.yB 6 none, .fieldLink ST 38 ST "COMPACT_STRINGS" "Z", .laysFinal ST ST "value" "[B", .fieldLink ST 9 ST "value" "[B", .laysFinal ST ST "coder" "B", .fieldLink ST 15 ST "coder" "B",
  .methodLink ST 1 Lib.objectInit, .instanceMethod Lib.objectInit, .code Lib.objectInit ⟨#[0xb1]⟩ 1 none, .methodLink ST 177 Cmp3.yN, .static Cmp3.yN, .methodLink ST 47 CodL.yN, .static CodL.yN,
  .code Cmp3.yN Cmp3.yB 6 (some (.array .byte)), .initialized U16, .arrayClass .byte, .methodLink U16 115 Cmp5.yN, .static Cmp5.yN, .code Cmp5.yN Cmp5.yB 7 (some .int), .code CodL.yN CodL.yB 2 (some .byte)]
theorem tab_of {a : Array Value} {s : State} (h : ∀ w ∈ words, w.before a s = true) : New1.tab.before a s = true := by
  have h5 : Cmp5.tab.before a s = true := unparts (wk h (.code Cmp5.yN Cmp5.yB 7 (some .int))) (wks h (.initialized Cmp5.yN.cls :: Cmp5.site))
  have hc : CodL.tab.before a s = true := unparts (wk h (.code CodL.yN CodL.yB 2 (some .byte))) (wks h (.initialized CodL.yN.cls :: CodL.site))
  have q5 : ∀ w ∈ Cmp5.tab :: words, w.before a s = true := fun w hw => (List.mem_cons.mp hw).elim (fun e => e ▸ h5) (h w)
  have h3 : Cmp3.tab.before a s = true := unparts (wk q5 (.code Cmp3.yN Cmp3.yB 6 (some (.array .byte)))) (wks q5 (.initialized Cmp3.yN.cls :: Cmp3.site))
  have q3 : ∀ w ∈ Cmp3.tab :: CodL.tab :: words, w.before a s = true := fun w hw => (List.mem_cons.mp hw).elim (fun e => e ▸ h3) fun hw => (List.mem_cons.mp hw).elim (fun e => e ▸ hc) (h w)
  have h4 : New4.tab.before a s = true := unparts (wk q3 (.code New4.yN New4.yB 6 none)) (wks q3 (.initialized New4.yN.cls :: New4.site))
  have q4 : ∀ w ∈ New4.tab :: words, w.before a s = true := fun w hw => (List.mem_cons.mp hw).elim (fun e => e ▸ h4) (h w)
  exact unparts (wk q4 (.code New1.yN New1.yB 2 none)) (wks q4 (.initialized New1.yN.cls :: New1.site))
/-- the words ride from the start Z to the walk's own state -/
theorem moved {Z s : State} {a0 args : Array Value} (hZ : Z.Warmed39 s.vm) (hw : ∀ d ∈ words, d.before a0 Z = true) : ∀ d ∈ words, d.before args s = true := fun d hd => by
  have q := hw d hd
  have t : ∀ d ∈ words, d = .arrayClass .byte ∨ (d.onTables && d.keepsFace) = true := by decide +kernel
  rcases t d hd with rfl | t
  · exact RoadKit.mvA hZ q
  · exact RoadKit.mv hZ q t
/-- WHAT COMES BACK, over the tables of the start Z: h the heap at the call, h' behind it -/
def Q (Z : State) (x : Addr) (A : Cell) (h : Heap) (v : Option Value) (h' : Heap) (L : List Loc) : Prop := v = none ∧ (∀ y ∈ L, y.base = x) ∧ RoadKit.Keep h h' [x] ∧ h'.size = h.size + 1 ∧ RoadKit.Exa Z h' x ST ∧ RoadKit.Fld Z h' x ST "value" "[B" (.ref h.size) ∧ RoadKit.Fld Z h' x ST "coder" "B" (.int 0) ∧
  (∃ V : Cell, RoadKit.Arr Z h' h.size V .byte ∧ V.vm = .none ∧ Z.vm.findClass "[B" = some V.cls ∧ V.slots.size = A.slots.size ∧ ∀ j, j < A.slots.size → V.slots[j]? = some (.int (lo8 (cv A j)))) ∧
  ∀ (O n d : String) (w : Value), RoadKit.Fld Z h x O n d w → RoadKit.slotOf Z O n d ≠ RoadKit.slotOf Z ST "value" "[B" → RoadKit.slotOf Z O n d ≠ RoadKit.slotOf Z ST "coder" "B" → RoadKit.Fld Z h' x O n d w
/-- **new String(chars) AT A CALL, IN THE ROAD'S FORM**: for specialBack behind newO: x the fresh String, b the char[] with the cell A -/
theorem back {p : Program} {l : Launch} {e : Env} {R : Room} {s : State} {args : Array Value} {below : List Frame} {len W : Nat} {Z : State} {a0 : Array Value} {h : Heap} (hZ : Z.Warmed39 s.vm) (hw : ∀ d ∈ words, d.before a0 Z = true) {kI : Nat} (wi : (Jvm.Cond.instantiable ST kI).before a0 Z = true)
    {x b : Addr} {A : Cell} {z : Int32} {v0 c0 : Value} (E : RoadKit.Exa Z h x ST) (V : RoadKit.Fld Z h x ST "value" "[B" v0) (C : RoadKit.Fld Z h x ST "coder" "B" c0) (K : RoadKit.Arr Z h b A .char) (hty : Typed .char A) (S : RoadKit.Sta Z h ST "COMPACT_STRINGS" "Z" (.int z)) (hz : ¬ z = 0)
    (l0 : 0 < A.slots.size) (l2 : A.slots.size ≤ 536870912) (hp : ∀ i, i < A.slots.size → ¬ 255 < cv A i) (hfr : 4 ≤ R.frames) (hlo : W + 65 ≤ R.locals) :
    Back l R p e below s args New1.yN len W (fun P a => a = #[.ref x, .ref b] ∧ P.U.heap = h ∧ P.cells + 1 ≤ R.cells ∧ P.slots + A.slots.size ≤ R.slots)
      (fun P _ v B => ∃ L, Q Z x A h v B.U.heap L ∧ B.locs = P.locs ++ L ∧ B.cells = P.cells + 1 ∧ B.slots = P.slots + A.slots.size) := by
  intro m meth c P g ig mk a X hg hsize hdg hW hn hp'
  obtain ⟨rfl, rfl, r1, r2⟩ := hp'
  have al : Z.vm.Alike P.U.vm := hZ.alike.trans X.warmed.alike
  obtain ⟨D, cfV, kV, iV, fV, hD, gV, stV, knV, obV, asV, slV⟩ := id V
  obtain ⟨D', cfC, kC, iC, fC, hD', gC, stC, -, -, asC, slC⟩ := id C
  cases hD.symm.trans hD'
  obtain ⟨D2, kD, e1, e2, e3, e4, e5⟩ := id E
  cases hD.symm.trans e1
  obtain ⟨c2, k2, i1, i2, i3, -⟩ := Cond.instantiable_spec wi
  cases e2.symm.trans i1
  cases e3.symm.trans i2
  obtain ⟨kU, u1, u2⟩ := al.2.2 _ _ e3
  have hB : Blank ST x D P.U := ⟨hD, ⟨knV, fun q hq => by rw [hq] at obV; cases obV⟩, by rw [al.findClass]; exact e2, kU, u1, by rw [u2]; exact i3, by rw [u2]; exact e5 i3⟩
  have F1 : Found ST "value" "[B" fV P.U := ⟨SBG.found_only al ⟨cfV, kV, iV, gV⟩, stV⟩
  have F2 : Found ST "coder" "B" fC P.U := ⟨SBG.found_only al ⟨cfC, kC, iC, gC⟩, stC⟩
  have hA : Ch b A P.U := ⟨⟨K.1, State.isArrayOf_alike al K.2.1, K.2.2, by omega⟩, hty⟩
  have hS : StaticIs P.U ST "COMPACT_STRINGS" "Z" (.int z) := by
    obtain ⟨cfS, iS, kS, fS, st, cS, t1, t2, t3, t4, t5, t6, t7⟩ := S
    exact StaticIs.there (s := { Z with heap := P.U.heap }) ⟨cfS, iS, kS, fS, st, cS, t1, t2, t3, t4, t5, (fun q => by rw [q] at t6; cases t6), t7⟩ al rfl
  obtain ⟨v, B, X', ⟨⟨hv, E', V', q1, q2, q3, q4, q5, q6, q7, q8, q9, q10, q11⟩, hl, hc, hs⟩, st⟩ := New1.pays x D fV fC b A z (tab_of (moved hZ hw)) hfr hlo m meth c P g ig mk _ X hg hsize hdg hW hn ⟨r1, r2, rfl, hB, F1, F2, hA, hS, hz, l0, l2, hp⟩
  have al' : Z.vm.Alike B.U.vm := hZ.alike.trans X'.warmed.alike
  have hsz : E'.slots.size = D.slots.size := by
    obtain ⟨-, -, -, kB, w1, w2, w3⟩ := q1
    obtain ⟨kB', y1, y2⟩ := al'.2.2 _ _ e3
    rw [q2.2.1] at w1
    cases w1.symm.trans y1
    rw [w3, e5 i3, y2]
  refine ⟨v, B, X', ⟨_, ⟨hv, ?_, ⟨by omega, fun y cy hy hn' => q10 y cy (by simpa using hn') hy, fun y cy hy => ?_⟩, q11, ⟨E', _, q1.1, by rw [q2.2.1]; exact e2, by rw [q2.2.1]; exact e3, by rw [q2.1]; exact obV, fun _ => by rw [hsz]; exact e5 i3⟩,
    ⟨E', cfV, kV, iV, fV, q1.1, gV, stV, by rw [q2.1]; exact knV, by rw [q2.1]; exact obV, by rw [q2.2.1]; exact asV, q3⟩, ⟨E', cfC, kC, iC, fC, q1.1, gC, stC, by rw [q2.1]; exact knV, by rw [q2.1]; exact obV, by rw [q2.2.1]; exact asC, q4⟩,
    ⟨V', ⟨q5.1, State.isArrayOf_alike al'.symm q5.2.1, q5.2.2.1⟩, q6, by rw [← al'.findClass]; exact q7, q8, fun j hj => by have := q9 j hj; rwa [Nat.zero_add] at this⟩, fun O n d w F n1 n2 => ?_⟩, hl, hc, hs⟩, st⟩
  · intro y hy
    simp only [List.mem_cons, List.not_mem_nil, or_false] at hy
    rcases hy with rfl | rfl <;> rfl
  · by_cases q : y = x
    · subst q
      cases hD.symm.trans hy
      exact ⟨E', q1.1, q2.2.1, q2.1, hsz⟩
    · exact ⟨cy, q10 y cy q hy, rfl, rfl, rfl⟩
  · obtain ⟨D3, cf, k, i, f, g1, g2, g3, g4, g5, g6, g7⟩ := F
    cases hD.symm.trans g1
    simp only [RoadKit.slotOf, g2, gV, gC, Option.map_some, Option.getD_some] at n1 n2
    exact ⟨E', cf, k, i, f, q1.1, g2, g3, by rw [q2.1]; exact g4, by rw [q2.1]; exact g5, by rw [q2.2.1]; exact g6, by rw [q2.2.2 f.slot (by simp [n1, n2])]; exact g7⟩
end StrChars.Road
namespace StrChars.Road
open Jvm Sem ClassFile Op Lib Jvm.Stand Jvm.Free Jvm.Free.XT
/-- WHAT COMES BACK, the byte[] as a list of values -/
def QA (Z : State) (x : Addr) (zn : Int32) (cs : List Int32) (h : Heap) (v : Option Value) (h' : Heap) (L : List Loc) : Prop := v = none ∧ (∀ y ∈ L, y.base = x) ∧ RoadKit.Keep h h' [x] ∧ h'.size = h.size + 1 ∧ RoadKit.Exa Z h' x ST ∧ RoadKit.Fld Z h' x ST "value" "[B" (.ref h.size) ∧ RoadKit.Fld Z h' x ST "coder" "B" (.int 0) ∧
  (∃ kb, Z.vm.findClass "[B" = some kb ∧ RoadKit.Arv Z h' h.size kb .byte zn (cs.map fun c => .int (lo8 c)) (.int 0)) ∧
  ∀ (O n d : String) (w : Value), RoadKit.Fld Z h x O n d w → RoadKit.slotOf Z O n d ≠ RoadKit.slotOf Z ST "value" "[B" → RoadKit.slotOf Z O n d ≠ RoadKit.slotOf Z ST "coder" "B" → RoadKit.Fld Z h' x O n d w
/-- **new String(chars) AT A CALL, THE ARRAYS AS LISTS**: the char[] at b holds cs, not empty, no char above 255 -/
theorem backArv {p : Program} {l : Launch} {e : Env} {R : Room} {s : State} {args : Array Value} {below : List Frame} {len W : Nat} {Z : State} {a0 : Array Value} {h : Heap} (hZ : Z.Warmed39 s.vm) (hw : ∀ d ∈ words, d.before a0 Z = true) {kI : Nat} (wi : (Jvm.Cond.instantiable ST kI).before a0 Z = true)
    {x b : Addr} {k : ClassId} {zn z : Int32} {cs : List Int32} {dv v0 c0 : Value} (E : RoadKit.Exa Z h x ST) (V : RoadKit.Fld Z h x ST "value" "[B" v0) (C : RoadKit.Fld Z h x ST "coder" "B" c0) (K : RoadKit.Arv Z h b k .char zn (cs.map Value.int) dv) (S : RoadKit.Sta Z h ST "COMPACT_STRINGS" "Z" (.int z)) (hz : ¬ z = 0)
    (hlen : zn.toNatClampNeg = cs.length) (h0 : 0 < cs.length) (hbig : cs.length ≤ 536870912) (hall : ∀ c ∈ cs, ¬ 255 < c) (hfr : 4 ≤ R.frames) (hlo : W + 65 ≤ R.locals) :
    Back l R p e below s args New1.yN len W (fun P a => a = #[.ref x, .ref b] ∧ P.U.heap = h ∧ P.cells + 1 ≤ R.cells ∧ P.slots + cs.length ≤ R.slots)
      (fun P _ v B => ∃ L, QA Z x zn cs h v B.U.heap L ∧ B.locs = P.locs ++ L ∧ B.cells = P.cells + 1 ∧ B.slots = P.slots + cs.length) := by
  obtain ⟨A, K1, K2, K3, K4, K5, K6⟩ := K
  have e : A.slots.size = cs.length := K3.trans hlen
  have hat : ∀ (i : Nat) (hi : i < cs.length), A.slots[i]? = some (.int cs[i]) := fun i hi => by rw [K5 i (by omega)]; simp [List.getD_eq_getElem?_getD, hi]
  have hcv : ∀ (i : Nat) (hi : i < cs.length), cv A i = cs[i] := fun i hi => by unfold cv; rw [hat i hi]
  have hty : Typed .char A := fun i v hv => by
    have hi : i < A.slots.size := (Array.getElem?_eq_some_iff.mp hv).1
    have q := K5 i hi
    rw [hv] at q
    rw [Option.some.inj q]
    exact K6 i hi
  refine Back.mono (back hZ hw wi E V C K1 hty S hz (by omega) (by omega) (fun i hi => by rw [hcv i (by omega)]; exact hall _ (List.getElem_mem _)) hfr hlo) (fun P a hp => ⟨hp.1, hp.2.1, hp.2.2.1, by rw [e]; exact hp.2.2.2⟩) (fun P a v B hp hq => ?_)
  obtain ⟨L, ⟨q1, q2, q3, q4, q5, q6, q7, ⟨V', v1, v2, v3, v4, v5⟩, q9⟩, hl, hc, hs⟩ := hq
  refine ⟨L, ⟨q1, q2, q3, q4, q5, q6, q7, ⟨V'.cls, v3, V', v1, rfl, by rw [v4, e, hlen], K4, fun i hi => ?_, fun i hi => ?_⟩, q9⟩, hl, hc, by rw [hs, e]⟩
  · have hi' : i < cs.length := by omega
    rw [v5 i (by omega), hcv i hi']; simp [List.getD_eq_getElem?_getD, hi']
  · have hi' : i < cs.length := by omega
    simp only [List.getD_eq_getElem?_getD, List.getElem?_map, List.getElem?_eq_getElem hi', Option.map_some, Option.getD_some]
    exact fits_lo8 _
end StrChars.Road
namespace StrChars.Road
open Jvm Sem ClassFile Op Lib Jvm.Stand Jvm.Free Jvm.Free.XT
/-- WHAT COMES BACK, in the writer's own shape -/
def QV (Z : State) (x : Addr) (N : Int32) (bs : List Int32) (h : Heap) (n0 : Nat) (v : Option Value) (h' : Heap) (L : List Loc) : Prop := v = none ∧ RoadKit.Fr n0 L ∧ RoadKit.Keep h h' [x] ∧ RoadKit.Exa Z h' x ST ∧ RoadKit.Fld Z h' x ST "coder" "B" (.int 0) ∧
  ∃ (t : Addr) (kb : ClassId), n0 ≤ t ∧ h.size ≤ t ∧ ¬ t = x ∧ RoadKit.Fld Z h' x ST "value" "[B" (.ref t) ∧ RoadKit.Arv Z h' t kb .byte N (bs.map Value.int) (.int 0)
/-- **new String(chars) AT A CALL, FOR THE WRITER**: a char[] of n known ints, each 0 to 255 -/
theorem backV {p : Program} {l : Launch} {e : Env} {R : Room} {s : State} {args : Array Value} {below : List Frame} {len W : Nat} {Z : State} {a0 : Array Value} {h : Heap} (hZ : Z.Warmed39 s.vm) (hw : ∀ d ∈ words, d.before a0 Z = true) {kI : Nat} (wi : (Jvm.Cond.instantiable ST kI).before a0 Z = true)
    {x b : Addr} {kC : ClassId} {cs bs : List Int32} {d v0 c0 : Value} {z N : Int32} {n n0 : Nat} (hx0 : n0 ≤ x) (hh0 : n0 ≤ h.size) (E : RoadKit.Exa Z h x ST) (V : RoadKit.Fld Z h x ST "value" "[B" v0) (C : RoadKit.Fld Z h x ST "coder" "B" c0) (K : RoadKit.Arv Z h b kC .char N (cs.map Value.int) d) (S : RoadKit.Sta Z h ST "COMPACT_STRINGS" "Z" (.int z)) (hz : ¬ z = 0)
    (hn : cs.length = n) (hN : N = Int32.ofNat n) (l0 : 0 < n) (l2 : n ≤ 4000) (hp : ∀ c ∈ cs, ¬ c < 0 ∧ ¬ (255 : Int32) < c) (hb : bs = cs.map (fun c => c.toInt8.toInt32)) (hfr : 4 ≤ R.frames) (hlo : W + 65 ≤ R.locals) :
    Back l R p e below s args (⟨"java/lang/String", "<init>", "([C)V"⟩ : MethodName) len W (fun P a => a = #[.ref x, .ref b] ∧ P.U.heap = h ∧ P.cells + 1 ≤ R.cells ∧ P.slots + n ≤ R.slots)
      (fun P _ v B => ∃ L, QV Z x N bs h n0 v B.U.heap L ∧ B.locs = P.locs ++ L ∧ B.cells = P.cells + 1 ∧ B.slots = P.slots + n) := by
  subst hn hN hb
  refine Back.mono (backArv hZ hw wi E V C K S hz (n32 (by omega)) l0 (by omega) (fun c hc => (hp c hc).2) hfr hlo) (fun P a hp => hp) (fun P a v B hp hq => ?_)
  obtain ⟨L, ⟨q1, q2, q3, q4, q5, q6, q7, ⟨kb, v1, v2⟩, q9⟩, hl, hc, hs⟩ := hq
  exact ⟨L, ⟨q1, fun y hy => by rw [q2 y hy]; exact hx0, q3, q5, q7, h.size, kb, hh0, Nat.le_refl _, Nat.ne_of_gt E.lt, q6, by rw [List.map_map]; exact v2⟩, hl, hc, hs⟩
end StrChars.Road
namespace StrChars
open Jvm Sem ClassFile Op Lib Jvm.Stand Jvm.Free.XT Jvm.Free.ALB Jvm.Free.JM Jvm.Free
open Jvm.Lib.Cold (StaticIs)
def hi8 (x : Int32) : Int32 := lo8 (x >>> ((8 : Int32) &&& 31))
/-- what StringUTF16.getChar makes of two bytes -/
def pairCh (u v : Int32) : Int32 := (((u &&& 255) <<< ((0 : Int32) &&& 31)) ||| ((v &&& 255) <<< ((8 : Int32) &&& 31))).toUInt32.toUInt16.toUInt32.toInt32
theorem shr0 (c : Int32) : c >>> ((0 : Int32) &&& 31) = c := by
  have e : ((0 : Int32) &&& 31) = 0 := by decide
  rw [e]
  apply Int32.toBitVec_inj.mp
  rw [Int32.toBitVec_shiftRight]
  have e1 : ((0 : Int32).toBitVec.smod 32) = 0#32 := by decide
  rw [e1, BitVec.sshiftRight_eq']
  exact BitVec.sshiftRight_zero
theorem lo8_and (x : Int32) : (lo8 x &&& 255).toBitVec.toNat = x.toBitVec.toNat % 256 := by
  have h : (lo8 x).toBitVec = (x.toBitVec.signExtend 8).signExtend 32 := by rw [lo8, Int8.toBitVec_toInt32, Int32.toBitVec_toInt8]
  rw [Int32.toBitVec_and, BitVec.toNat_and, h]
  have e : ((x.toBitVec.signExtend 8).signExtend 32).toNat % 256 = x.toBitVec.toNat % 256 := by
    rw [BitVec.toNat_signExtend]
    have hlt := x.toBitVec.isLt
    simp only [BitVec.toNat_setWidth, BitVec.toNat_signExtend]
    split <;> split <;> omega
  rw [← e]
  exact Nat.and_two_pow_sub_one_eq_mod _ 8
theorem pair_says {c : Int32} (h0 : ¬ c < 0) (h1 : ¬ 65535 < c) : pairCh (lo8 c) (hi8 c) = c := by
  rw [Int32.lt_iff_toInt_lt] at h0 h1
  have e0 : (0 : Int32).toInt = 0 := rfl
  have e1 : (65535 : Int32).toInt = 65535 := rfl
  have hc : c.toInt = c.toBitVec.toNat := by
    have := c.toBitVec.isLt
    have e : c.toInt = c.toBitVec.toInt := rfl
    rw [e] at h0 h1
    rw [e]
    rw [BitVec.toInt_eq_toNat_cond] at h0 h1 ⊢
    split at h0 <;> split <;> omega
  have hn : c.toBitVec.toNat < 65536 := by omega
  have a1 := lo8_and c
  have a2 : (hi8 c &&& 255).toBitVec.toNat = c.toBitVec.toNat / 256 := by
    rw [hi8, lo8_and]
    have e : ((8 : Int32) &&& 31) = 8 := by decide
    rw [e, Int32.toBitVec_shiftRight]
    have e2 : ((8 : Int32).toBitVec.smod 32) = 8#32 := by decide
    rw [e2, BitVec.sshiftRight_eq', BitVec.toNat_sshiftRight_of_msb_false (by rw [BitVec.msb_eq_false_iff_two_mul_lt]; omega)]
    show c.toBitVec.toNat >>> 8 % 256 = _
    rw [Nat.shiftRight_eq_div_pow]
    omega
  unfold pairCh
  apply Int32.toBitVec_inj.mp
  apply BitVec.eq_of_toNat_eq
  have f0 : ((0 : Int32) &&& 31) = 0 := by decide
  have f8 : ((8 : Int32) &&& 31) = 8 := by decide
  rw [f0, f8]
  have g : (((lo8 c &&& 255) <<< (0 : Int32)) ||| ((hi8 c &&& 255) <<< (8 : Int32))).toBitVec.toNat = c.toBitVec.toNat := by
    rw [Int32.toBitVec_or, Int32.toBitVec_shiftLeft, Int32.toBitVec_shiftLeft]
    have s0 : ((0 : Int32).toBitVec.smod 32) = 0#32 := by decide
    have s8 : ((8 : Int32).toBitVec.smod 32) = 8#32 := by decide
    rw [s0, s8, BitVec.toNat_or]
    simp only [BitVec.shiftLeft_eq', BitVec.toNat_shiftLeft, a1, a2]
    show (c.toBitVec.toNat % 256) <<< 0 % 2 ^ 32 ||| (c.toBitVec.toNat / 256) <<< 8 % 2 ^ 32 = _
    rw [Nat.shiftLeft_zero, Nat.mod_eq_of_lt (show c.toBitVec.toNat % 256 < 2 ^ 32 by omega), Nat.mod_eq_of_lt (show (c.toBitVec.toNat / 256) <<< 8 < 2 ^ 32 by rw [Nat.shiftLeft_eq]; omega), Nat.or_comm, ← Nat.shiftLeft_add_eq_or_of_lt (by omega), Nat.shiftLeft_eq]
    omega
  show BitVec.toNat (((((lo8 c &&& 255) <<< (0 : Int32)) ||| ((hi8 c &&& 255) <<< (8 : Int32))).toBitVec.setWidth 16).setWidth 32) = _
  rw [BitVec.toNat_setWidth, BitVec.toNat_setWidth, g]
  omega
end StrChars
namespace StrChars
open Jvm Sem ClassFile Op Lib Jvm.Stand Jvm.Free.XT Jvm.Free.ALB Jvm.Free.JM Jvm.Free
open Jvm.Lib.Cold (StaticIs)
theorem shr1 {n : Nat} (h : 2 * n < 2 ^ 31) : Int32.ofNat (2 * n) >>> ((1 : Int32) &&& 31) = Int32.ofNat n := by
  have e : ((1 : Int32) &&& 31) = 1 := by decide
  rw [e]
  apply Int32.toBitVec_inj.mp
  rw [Int32.toBitVec_shiftRight]
  have e1 : ((1 : Int32).toBitVec.smod 32) = 1#32 := by decide
  have hm : (BitVec.ofNat 32 (2 * n)).toNat = 2 * n := by rw [BitVec.toNat_ofNat, Nat.mod_eq_of_lt (by omega)]
  rw [e1, BitVec.sshiftRight_eq']
  apply BitVec.eq_of_toNat_eq
  show ((BitVec.ofNat 32 (2 * n)).sshiftRight 1).toNat = (BitVec.ofNat 32 n).toNat
  rw [BitVec.toNat_sshiftRight_of_msb_false (by rw [BitVec.msb_eq_false_iff_two_mul_lt, hm]; omega), hm, BitVec.toNat_ofNat, Nat.shiftRight_eq_div_pow]
  omega
/-- charAt's cast of a byte read back -/
def chr8 (u : Int32) : Int32 := (u &&& 255).toUInt32.toUInt16.toUInt32.toInt32
theorem chr8_lo8 {c : Int32} (h0 : ¬ c < 0) (h1 : ¬ 255 < c) : chr8 (lo8 c) = c := by
  have t : ∀ k : Fin 256, (Int32.ofNat k.val).toUInt32.toUInt16.toUInt32.toInt32 = Int32.ofNat k.val := by decide +kernel
  unfold chr8
  rw [lo8_mask h0 h1]
  rw [Int32.lt_iff_toInt_lt] at h0 h1
  have e0 : (0 : Int32).toInt = 0 := rfl
  have e1 : (255 : Int32).toInt = 255 := rfl
  obtain ⟨k, hk⟩ : ∃ k : Nat, c.toInt = k := ⟨c.toInt.toNat, by omega⟩
  have hx : c = Int32.ofNat k := Int32.toInt_inj.mp (by rw [hk, Int32.toInt_ofNat_small (by omega)])
  rw [hx]
  exact t ⟨k, by omega⟩
theorem narrow_ch {c : Int32} (h0 : ¬ c < 0) (h1 : ¬ 65535 < c) : narrow .char (.int c) = .int c := by
  have q : narrow .char (.int (pairCh (lo8 c) (hi8 c))) = .int (pairCh (lo8 c) (hi8 c)) := narrow_c _
  rwa [pair_says h0 h1] at q
/-- the array's cell V codes the n chars f 0 .. f (n - 1) by the coder cd, as the JDK does: coder 1 just where some char is above 255 -/
def Cod (cd : Int32) (n : Nat) (f : Nat → Int32) (V : Cell) : Prop := (cd = 0 ∧ V.slots.size = n ∧ ∀ j, j < n → V.slots[j]? = some (.int (lo8 (f j))) ∧ ¬ 255 < f j) ∨ (cd = 1 ∧ V.slots.size = 2 * n ∧ (∀ j, j < n → V.slots[2 * j]? = some (.int (lo8 (f j))) ∧ V.slots[2 * j + 1]? = some (.int (hi8 (f j)))) ∧ ∃ j, j < n ∧ 255 < f j)
theorem Cod.cd {cd : Int32} {n : Nat} {f : Nat → Int32} {V : Cell} (h : Cod cd n f V) : cd = 0 ∨ cd = 1 := h.imp (fun q => q.1) fun q => q.1
theorem Cod.len {cd : Int32} {n : Nat} {f : Nat → Int32} {V : Cell} (h : Cod cd n f V) (hs : V.slots.size < 2 ^ 31) : Int32.ofNat V.slots.size >>> (cd &&& 31) = Int32.ofNat n := by
  rcases h with ⟨rfl, h, -⟩ | ⟨rfl, h, -⟩
  · rw [shr0, h]
  · rw [h, shr1 (by omega)]
/-- **x is a String of the n chars f 0 .. f (n - 1)**, Latin-1 or UTF-16; its array at t has the cell V -/
def Txt (x t : Addr) (V : Cell) (cd : Int32) (n : Nat) (f : Nat → Int32) (U : State) : Prop := Exact "java/lang/String" x U ∧ Has x "java/lang/String" "value" "[B" (.ref t) U ∧ Has x "java/lang/String" "coder" "B" (.int cd) U ∧ XT.Arr .byte t V U ∧ Cod cd n f V ∧ ∀ j, j < n → ¬ f j < 0 ∧ ¬ 65535 < f j
theorem Txt.mv {x t : Addr} {V : Cell} {cd : Int32} {n : Nat} {f : Nat → Int32} {U U' : State} (h : Txt x t V cd n f U) (hal : U.vm.Alike U'.vm) (hh : U'.heap = U.heap) : Txt x t V cd n f U' := ⟨h.1.mv hal hh, h.2.1.mv hal hh, h.2.2.1.mv hal hh, h.2.2.2.1.mv hal hh, h.2.2.2.2⟩
namespace Cdr
def yN : MethodName := ⟨"java/lang/String", "coder", "()B"⟩
abbrev yB : ByteArray := jdk_42_method_152_code
theorem d0 : decode yB 0 = .ok (.getstatic 38, 3) := by decide +kernel
theorem d3 : decode yB 3 = .ok (.ifCond (.eq) 10, 3) := by decide +kernel
theorem d6 : decode yB 6 = .ok (.aload_n 0, 1) := by decide +kernel
theorem d7 : decode yB 7 = .ok (.getfield 15, 3) := by decide +kernel
theorem d10 : decode yB 10 = .ok (.goto 4, 3) := by decide +kernel
theorem d14 : decode yB 14 = .ok (.ireturn, 1) := by decide +kernel
def site : List Cond := [.fieldLink "java/lang/String" 38 "java/lang/String" "COMPACT_STRINGS" "Z", .fieldLink "java/lang/String" 15 "java/lang/String" "coder" "B"]
def tab : Cond := tabOf yN yB 1 (some .byte) site
def P (x : Addr) (cd z : Int32) (args : Array Value) (s : State) : Prop := args = #[.ref x] ∧ Has x "java/lang/String" "coder" "B" (.int cd) s ∧ (cd = 0 ∨ cd = 1) ∧ StaticIs s "java/lang/String" "COMPACT_STRINGS" "Z" (.int z) ∧ ¬ z = 0
def E (cd : Int32) (r : Option Value) (s u : State) : Prop := XT.PureE (some (.int cd)) r s u
theorem law (l : Launch) (x : Addr) (cd z : Int32) : Law l yN 1 0 0 0 yB 1 (some .byte) site (P x cd z) (E cd) [] 0 0 := by
  refine Law.of_walk (plainFor_of_name (by decide +kernel)) (by decide +kernel) (by decide +kernel) (by decide) (fun _ _ h => by rw [h.1]; rfl) (fun _ U U' hal hh h => ⟨h.1, h.2.1.mv hal hh, h.2.2.1, h.2.2.2.1.there hal hh, h.2.2.2.2⟩) (fun r U U' V V' h1 hal h2 h => XT.PureE.mv r U U' V V' h1 hal h2 h) ?_
  intro p e s m args below meth c s₁ X0 hexec hbytes hml hret hlk hnm hown hh0 W hP
  obtain ⟨rfl, hx, hc, s1, hz⟩ := hP
  have c1 : Steps p.tables e below (s₁.setTop (entryFrame m #[.ref x] 1)) (s₁.setTop (mkF m 0 #[.val (.ref x)] [])) := entry rfl
  obtain ⟨T2, X2, q2, st2⟩ := X0.sget hexec hown (wk W (.fieldLink "java/lang/String" 38 "java/lang/String" "COMPACT_STRINGS" "Z")) s1 (fun _ _ h => by rw [hh0]; exact h) (g := (mkF m 0 #[.val (.ref x)] [])) rfl (hb hbytes d0)
  have hh2 := q2.trans hh0
  have c3 : Steps p.tables e below (s₁.setTop (entryFrame m #[.ref x] 1)) (T2.setTop (mkF m 7 #[.val (.ref x)] [.ref x])) := (c1.trans (st2 _ (Steps.refl _))).trans (by
    refine XS.ifNo X2.here hexec rfl (hb hbytes d3) rfl (i0_eq_f hz) ?_
    refine XS.aloadN X2.here hexec rfl (hb hbytes d6) rfl rfl ?_
    exact Steps.refl _)
  obtain ⟨T4, X4, q4, st4⟩ := X2.hget hexec hown (wk W (.fieldLink "java/lang/String" 15 "java/lang/String" "coder" "B")) (hx.mv X2.warmed.alike hh2) (g := (mkF m 7 #[.val (.ref x)] [.ref x])) rfl (rest := []) rfl (hb hbytes d7)
  have c5 : Steps p.tables e below (s₁.setTop (entryFrame m #[.ref x] 1)) (T4.setTop (mkF m 14 #[.val (.ref x)] [.int cd])) := (c3.trans (st4 _ (Steps.refl _))).trans (by
    refine XS.goto X4.here hexec rfl (pc0 := 10) rfl (hb hbytes d10) (by decide) rfl ?_
    exact Steps.refl _)
  exact ⟨T4, some (.int cd), _, _, _, X4, rfl, rfl, rfl, (fun h => by cases h), ⟨rfl, q4.trans hh2⟩, fun fs hl => c5.trans (X4.ireturnOut hexec hret (by rcases hc with rfl | rfl <;> rfl) (Or.inr (Or.inr (Or.inl rfl))) (hb hbytes d14) hl)⟩
end Cdr
namespace Len
def yN : MethodName := ⟨"java/lang/String", "length", "()I"⟩
abbrev yB : ByteArray := jdk_42_method_54_code
theorem d0 : decode yB 0 = .ok (.aload_n 0, 1) := by decide +kernel
theorem d1 : decode yB 1 = .ok (.getfield 9, 3) := by decide +kernel
theorem d4 : decode yB 4 = .ok (.arraylength, 1) := by decide +kernel
theorem d5 : decode yB 5 = .ok (.aload_n 0, 1) := by decide +kernel
theorem d6 : decode yB 6 = .ok (.invokevirtual 335, 3) := by decide +kernel
theorem d9 : decode yB 9 = .ok (.ishr, 1) := by decide +kernel
theorem d10 : decode yB 10 = .ok (.ireturn, 1) := by decide +kernel
def site : List Cond := [.fieldLink "java/lang/String" 9 "java/lang/String" "value" "[B", Cdr.tab] ++ virtW "java/lang/String" 335 "java/lang/String" Cdr.yN Cdr.yN
def tab : Cond := tabOf yN yB 1 (some .int) site
def P (x t : Addr) (V : Cell) (cd : Int32) (n : Nat) (f : Nat → Int32) (z : Int32) (args : Array Value) (s : State) : Prop := args = #[.ref x] ∧ Txt x t V cd n f s ∧ StaticIs s "java/lang/String" "COMPACT_STRINGS" "Z" (.int z) ∧ ¬ z = 0
def E (n : Nat) (r : Option Value) (s u : State) : Prop := XT.PureE (some (.int (Int32.ofNat n))) r s u
/-- length() of a String of n chars, in either coding -/
theorem law (l : Launch) (x t : Addr) (V : Cell) (cd : Int32) (n : Nat) (f : Nat → Int32) (z : Int32) : Law l yN 1 0 1 13 yB 1 (some .int) site (P x t V cd n f z) (E n) [] 0 0 := by
  refine Law.of_walk (plainFor_of_name (by decide +kernel)) (by decide +kernel) (by decide +kernel) (by decide) (fun _ _ h => by rw [h.1]; rfl) (fun _ U U' hal hh h => ⟨h.1, h.2.1.mv hal hh, h.2.2.1.there hal hh, h.2.2.2⟩) (fun r U U' V V' h1 hal h2 h => XT.PureE.mv r U U' V V' h1 hal h2 h) ?_
  intro p e s m args below meth c s₁ X0 hexec hbytes hml hret hlk hnm hown hh0 W hP
  obtain ⟨rfl, hx, s1, hz⟩ := hP
  have v31 := hx.2.2.2.1.2.2.2
  have c1 : Steps p.tables e below (s₁.setTop (entryFrame m #[.ref x] 1)) (s₁.setTop (mkF m 1 #[.val (.ref x)] [.ref x])) := Steps.trans (entry rfl) (by
    show Steps p.tables e below (s₁.setTop (mkF m 0 #[.val (.ref x)] [])) _
    refine XS.aloadN X0.here hexec rfl (hb hbytes d0) rfl rfl ?_
    exact Steps.refl _)
  obtain ⟨T2, X2, q2, st2⟩ := X0.hget hexec hown (wk W (.fieldLink "java/lang/String" 9 "java/lang/String" "value" "[B")) (hx.mv X0.warmed.alike hh0).2.1 (g := (mkF m 1 #[.val (.ref x)] [.ref x])) rfl (rest := []) rfl (hb hbytes d1)
  have hh2 := q2.trans hh0
  have hx2 := hx.mv X2.warmed.alike hh2
  have c3 : Steps p.tables e below (s₁.setTop (entryFrame m #[.ref x] 1)) (T2.setTop (mkF m 6 #[.val (.ref x)] [.ref x, .int (Int32.ofNat V.slots.size)])) := (c1.trans (st2 _ (Steps.refl _))).trans (by
    refine X2.alen hexec hx2.2.2.2.1 rfl rfl (hb hbytes d4) ?_
    refine XS.aloadN X2.here hexec rfl (hb hbytes d5) rfl rfl ?_
    exact Steps.refl _)
  obtain ⟨v4, T4, X4, E4, g4⟩ := X2.callV hexec (Cdr.law l x cd z) hown (wks W (virtW "java/lang/String" 335 "java/lang/String" Cdr.yN Cdr.yN)) rfl (by decide) (wk W Cdr.tab) (W := 1) (Nat.le_of_ble_eq_true rfl) (Nat.le_of_ble_eq_true rfl) (Nat.le_refl _) (Nat.le_refl _) (hx2.1.fc X2.warmed.alike) hx2.1.is (g := (mkF m 6 #[.val (.ref x)] [.ref x, .int (Int32.ofNat V.slots.size)])) rfl (by rw [hml]; rfl) c3 (argsL := []) (rest := [.int (Int32.ofNat V.slots.size)]) rfl rfl (by show 2 * 0 + (1 + 0) ≤ _; decide) (hb hbytes d6) (⟨rfl, hx2.2.2.1, hx.2.2.2.2.1.cd, s1.there X2.warmed.alike hh2, hz⟩)
  obtain ⟨rfl, q4⟩ := E4
  have c5 : Steps p.tables e below (s₁.setTop (entryFrame m #[.ref x] 1)) (T4.setTop (mkF m 10 #[.val (.ref x)] [.int (Int32.ofNat V.slots.size >>> (cd &&& 31))])) := Steps.trans g4 (by
    refine ishr X4.here hexec rfl (hb hbytes d9) rfl ?_
    exact Steps.refl _)
  rw [hx.2.2.2.2.1.len v31] at c5
  exact ⟨T4, some (.int (Int32.ofNat n)), _, _, _, X4, rfl, rfl, rfl, (fun h => by cases h), ⟨rfl, q4.trans hh2⟩, fun fs hl => c5.trans (X4.ireturnOut hexec hret rfl (Or.inl rfl) (hb hbytes d10) hl)⟩
theorem pays {l : Launch} {R : Room} {p : Program} {e : Env} {below : List Frame} {s : State} {sargs : Array Value} {len W : Nat} (x t : Addr) (V : Cell) (cd : Int32) (n : Nat) (f : Nat → Int32) (z : Int32) (htab : tab.before sargs s = true) (hfr : 2 ≤ R.frames) (hlo : W + 25 ≤ R.locals) :
    Back l R p e below s sargs yN len W (fun A₁ a₁ => A₁.cells + 0 ≤ R.cells ∧ A₁.slots + 0 ≤ R.slots ∧ P x t V cd n f z a₁ A₁.U) (fun A₁ _ v₁ B₁ => E n v₁ A₁.U B₁.U ∧ B₁.locs = A₁.locs ++ [] ∧ B₁.cells = A₁.cells + 0 ∧ B₁.slots = A₁.slots + 0) :=
  (law l x t V cd n f z).pays htab hfr (by omega)
end Len
namespace IsL
def yN : MethodName := ⟨"java/lang/String", "isLatin1", "()Z"⟩
abbrev yB : ByteArray := jdk_42_method_154_code
theorem d0 : decode yB 0 = .ok (.getstatic 38, 3) := by decide +kernel
theorem d3 : decode yB 3 = .ok (.ifCond (.eq) 14, 3) := by decide +kernel
theorem d6 : decode yB 6 = .ok (.aload_n 0, 1) := by decide +kernel
theorem d7 : decode yB 7 = .ok (.getfield 15, 3) := by decide +kernel
theorem d10 : decode yB 10 = .ok (.ifCond (.ne) 7, 3) := by decide +kernel
theorem d13 : decode yB 13 = .ok (.iconst 1, 1) := by decide +kernel
theorem d14 : decode yB 14 = .ok (.goto 4, 3) := by decide +kernel
theorem d17 : decode yB 17 = .ok (.iconst 0, 1) := by decide +kernel
theorem d18 : decode yB 18 = .ok (.ireturn, 1) := by decide +kernel
def site : List Cond := [.fieldLink "java/lang/String" 38 "java/lang/String" "COMPACT_STRINGS" "Z", .fieldLink "java/lang/String" 15 "java/lang/String" "coder" "B"]
def tab : Cond := tabOf yN yB 1 (some .boolean) site
def P (x : Addr) (cd z : Int32) (args : Array Value) (s : State) : Prop := args = #[.ref x] ∧ Has x "java/lang/String" "coder" "B" (.int cd) s ∧ (cd = 0 ∨ cd = 1) ∧ StaticIs s "java/lang/String" "COMPACT_STRINGS" "Z" (.int z) ∧ ¬ z = 0
def E (cd : Int32) (r : Option Value) (s u : State) : Prop := XT.PureE (some (.int (1 - cd))) r s u
theorem law (l : Launch) (x : Addr) (cd z : Int32) : Law l yN 1 0 0 0 yB 1 (some .boolean) site (P x cd z) (E cd) [] 0 0 := by
  refine Law.of_walk (plainFor_of_name (by decide +kernel)) (by decide +kernel) (by decide +kernel) (by decide) (fun _ _ h => by rw [h.1]; rfl) (fun _ U U' hal hh h => ⟨h.1, h.2.1.mv hal hh, h.2.2.1, h.2.2.2.1.there hal hh, h.2.2.2.2⟩) (fun r U U' V V' h1 hal h2 h => XT.PureE.mv r U U' V V' h1 hal h2 h) ?_
  intro p e s m args below meth c s₁ X0 hexec hbytes hml hret hlk hnm hown hh0 W hP
  obtain ⟨rfl, hx, hc, s1, hz⟩ := hP
  have c1 : Steps p.tables e below (s₁.setTop (entryFrame m #[.ref x] 1)) (s₁.setTop (mkF m 0 #[.val (.ref x)] [])) := entry rfl
  obtain ⟨T2, X2, q2, st2⟩ := X0.sget hexec hown (wk W (.fieldLink "java/lang/String" 38 "java/lang/String" "COMPACT_STRINGS" "Z")) s1 (fun _ _ h => by rw [hh0]; exact h) (g := (mkF m 0 #[.val (.ref x)] [])) rfl (hb hbytes d0)
  have hh2 := q2.trans hh0
  have c3 : Steps p.tables e below (s₁.setTop (entryFrame m #[.ref x] 1)) (T2.setTop (mkF m 7 #[.val (.ref x)] [.ref x])) := (c1.trans (st2 _ (Steps.refl _))).trans (by
    refine XS.ifNo X2.here hexec rfl (hb hbytes d3) rfl (i0_eq_f hz) ?_
    refine XS.aloadN X2.here hexec rfl (hb hbytes d6) rfl rfl ?_
    exact Steps.refl _)
  obtain ⟨T4, X4, q4, st4⟩ := X2.hget hexec hown (wk W (.fieldLink "java/lang/String" 15 "java/lang/String" "coder" "B")) (hx.mv X2.warmed.alike hh2) (g := (mkF m 7 #[.val (.ref x)] [.ref x])) rfl (rest := []) rfl (hb hbytes d7)
  have c5 : Steps p.tables e below (s₁.setTop (entryFrame m #[.ref x] 1)) (T4.setTop (mkF m 10 #[.val (.ref x)] [.int cd])) := c3.trans (st4 _ (Steps.refl _))
  have c6 : Steps p.tables e below (s₁.setTop (entryFrame m #[.ref x] 1)) (T4.setTop (mkF m 18 #[.val (.ref x)] [.int (1 - cd)])) := by
    rcases hc with rfl | rfl
    · exact c5.trans (by
        refine XS.ifNo X4.here hexec rfl (hb hbytes d10) rfl (i0_ne_f rfl) ?_
        refine iconstV X4.here hexec rfl 1 (hb hbytes d13) (by decide) ?_
        refine XS.goto X4.here hexec rfl (pc0 := 14) rfl (hb hbytes d14) (by decide) rfl ?_
        exact Steps.refl _)
    · exact c5.trans (by
        refine XS.ifYes X4.here hexec rfl (pc0 := 10) rfl (hb hbytes d10) rfl (i0_ne_t (by decide)) (by decide) rfl ?_
        refine iconstV X4.here hexec rfl 0 (hb hbytes d17) (by decide) ?_
        exact Steps.refl _)
  exact ⟨T4, some (.int (1 - cd)), _, _, _, X4, rfl, rfl, rfl, (fun h => by cases h), ⟨rfl, q4.trans hh2⟩, fun fs hl => c6.trans (X4.ireturnOut hexec hret (by rcases hc with rfl | rfl <;> rfl) (Or.inr (Or.inl rfl)) (hb hbytes d18) hl)⟩
end IsL
namespace LChA
def yN : MethodName := ⟨"java/lang/StringLatin1", "charAt", "([BI)C"⟩
abbrev yB : ByteArray := jdk_43_method_2_code
theorem d0 : decode yB 0 = .ok (.iload_n 1, 1) := by decide +kernel
theorem d1 : decode yB 1 = .ok (.aload_n 0, 1) := by decide +kernel
theorem d2 : decode yB 2 = .ok (.arraylength, 1) := by decide +kernel
theorem d3 : decode yB 3 = .ok (.invokestatic 9, 3) := by decide +kernel
theorem d6 : decode yB 6 = .ok (.aload_n 0, 1) := by decide +kernel
theorem d7 : decode yB 7 = .ok (.iload_n 1, 1) := by decide +kernel
theorem d8 : decode yB 8 = .ok (.baload, 1) := by decide +kernel
theorem d9 : decode yB 9 = .ok (.sipush 255, 3) := by decide +kernel
theorem d12 : decode yB 12 = .ok (.iand, 1) := by decide +kernel
theorem d13 : decode yB 13 = .ok (.i2c, 1) := by decide +kernel
theorem d14 : decode yB 14 = .ok (.ireturn, 1) := by decide +kernel
def site : List Cond := [JO.Str_checkIndex.tab] ++ staticW "java/lang/StringLatin1" 9 JO.Str_checkIndex.yN
def tab : Cond := tabOf yN yB 2 (some .char) site
def P (t : Addr) (V : Cell) (i : Nat) (u : Int32) (fm : Value) (args : Array Value) (s : State) : Prop := args = #[.ref t, .int (Int32.ofNat i)] ∧ XT.Arr .byte t V s ∧ V.slots[i]? = some (.int u) ∧ (StaticIs s "jdk/internal/util/Preconditions" "SIOOBE_FORMATTER" "Ljava/util/function/BiFunction;" fm ∧ fm.isRef = true)
def E (u : Int32) (r : Option Value) (s w : State) : Prop := XT.PureE (some (.int (chr8 u))) r s w
theorem law (l : Launch) (t : Addr) (V : Cell) (i : Nat) (u : Int32) (fm : Value) : Law l yN 2 2 2 27 yB 2 (some .char) site (P t V i u fm) (E u) [] 0 0 := by
  refine Law.of_walk (plainFor_of_name (by decide +kernel)) (by decide +kernel) (by decide +kernel) (by decide) (fun _ _ h => by rw [h.1]; rfl) (fun _ U U' hal hh h => ⟨h.1, h.2.1.mv hal hh, h.2.2.1, h.2.2.2.1.there hal hh, h.2.2.2.2⟩) (fun r U U' V V' h1 hal h2 h => XT.PureE.mv r U U' V V' h1 hal h2 h) ?_
  intro p e s m args below meth c s₁ X0 hexec hbytes hml hret hlk hnm hown hh0 W hP
  obtain ⟨rfl, hV, hu, s1, rf⟩ := hP
  have v31 := hV.2.2.2
  have hi : i < V.slots.size := (Array.getElem?_eq_some_iff.mp hu).1
  have c1 : Steps p.tables e below (s₁.setTop (entryFrame m #[.ref t, .int (Int32.ofNat i)] 2)) (s₁.setTop (mkF m 0 #[.val (.ref t), .val (.int (Int32.ofNat i))] [])) := entry rfl
  have c2 : Steps p.tables e below (s₁.setTop (entryFrame m #[.ref t, .int (Int32.ofNat i)] 2)) (s₁.setTop (mkF m 3 #[.val (.ref t), .val (.int (Int32.ofNat i))] [.int (Int32.ofNat V.slots.size), .int (Int32.ofNat i)])) := c1.trans (by
    refine XS.iloadN X0.here hexec rfl (hb hbytes d0) rfl ?_
    refine XS.aloadN X0.here hexec rfl (hb hbytes d1) rfl rfl ?_
    refine X0.alen hexec (hV.mv X0.warmed.alike hh0) rfl rfl (hb hbytes d2) ?_
    exact Steps.refl _)
  obtain ⟨v3, T3, X3, E3, g3⟩ := X0.callS hexec (JO.Str_checkIndex.law l (Int32.ofNat i) (Int32.ofNat V.slots.size) fm) hown (wks W (staticW "java/lang/StringLatin1" 9 JO.Str_checkIndex.yN)) (wk W JO.Str_checkIndex.tab) (W := 0) (Nat.le_of_ble_eq_true rfl) (Nat.le_of_ble_eq_true rfl) (Nat.le_refl _) (Nat.le_refl _) (g := (mkF m 3 #[.val (.ref t), .val (.int (Int32.ofNat i))] [.int (Int32.ofNat V.slots.size), .int (Int32.ofNat i)])) rfl (by rw [hml]; rfl) c2 (argsL := [.int (Int32.ofNat i), .int (Int32.ofNat V.slots.size)]) (rest := []) rfl rfl (by show 2 * 0 + 0 ≤ _; decide) (hb hbytes d3) (⟨rfl, rf, s1.there X0.warmed.alike hh0, Int32.ofNat_not_neg (by omega), lt32 v31 hi⟩)
  obtain ⟨rfl, q3⟩ := E3
  have hh3 := q3.trans hh0
  have c4 : Steps p.tables e below (s₁.setTop (entryFrame m #[.ref t, .int (Int32.ofNat i)] 2)) (T3.setTop (mkF m 14 #[.val (.ref t), .val (.int (Int32.ofNat i))] [.int (chr8 u)])) := Steps.trans g3 (by
    refine XS.aloadN X3.here hexec rfl (hb hbytes d6) rfl rfl ?_
    refine XS.iloadN X3.here hexec rfl (hb hbytes d7) rfl ?_
    refine X3.aget hexec (hV.mv X3.warmed.alike hh3) rfl hu rfl rfl (hb hbytes d8) ?_
    refine sipushV X3.here hexec rfl 255 (hb hbytes d9) (by decide) ?_
    refine XS.iand X3.here hexec rfl (hb hbytes d12) rfl ?_
    refine i2c X3.here hexec rfl (hb hbytes d13) rfl ?_
    exact Steps.refl _)
  exact ⟨T3, some (.int (chr8 u)), _, _, _, X3, rfl, rfl, rfl, (fun h => by cases h), ⟨rfl, hh3⟩, fun fs hl => c4.trans (X3.ireturnOut hexec hret (narrow_c _) (Or.inr (Or.inr (Or.inr (Or.inl rfl)))) (hb hbytes d14) hl)⟩
end LChA
end StrChars
namespace StrChars.Road
open Jvm Sem ClassFile Op Lib Jvm.Stand Jvm.Free Jvm.Free.XT
open Jvm.Lib.Cold (StaticIs)
theorem consq {a : Array Value} {s : State} {c : Jvm.Cond} {L : List Jvm.Cond} (h0 : c.before a s = true) (h : ∀ w ∈ L, w.before a s = true) : ∀ w ∈ c :: L, w.before a s = true := fun w hw => (List.mem_cons.mp hw).elim (fun e => e ▸ h0) (h w)
/-- the words of String.length(), either coding -/
abbrev wordsLen : List Jvm.Cond := [.code Len.yN Len.yB 1 (some .int), .initialized ST, .fieldLink ST 9 ST "value" "[B", .fieldLink ST 38 ST "COMPACT_STRINGS" "Z", .fieldLink ST 15 ST "coder" "B", .code Cdr.yN Cdr.yB 1 (some .byte), .methodLink ST 335 Cdr.yN, .declares Cdr.yN, .selects ST Cdr.yN Cdr.yN, .instanceMethod Cdr.yN]
theorem tabLen_of {a : Array Value} {s : State} (h : ∀ w ∈ wordsLen, w.before a s = true) : Len.tab.before a s = true := by
  have hc : Cdr.tab.before a s = true := unparts (wk h (.code Cdr.yN Cdr.yB 1 (some .byte))) (wks h (.initialized Cdr.yN.cls :: Cdr.site))
  have q := consq hc h
  exact unparts (wk q (.code Len.yN Len.yB 1 (some .int))) (wks q (.initialized Len.yN.cls :: Len.site))
theorem movedLen {Z s : State} {a0 args : Array Value} (hZ : Z.Warmed39 s.vm) (hw : ∀ d ∈ wordsLen, d.before a0 Z = true) : ∀ d ∈ wordsLen, d.before args s = true := fun d hd => by
  have q := hw d hd
  have t : ∀ d ∈ wordsLen, d = .arrayClass .byte ∨ (d.onTables && d.keepsFace) = true := by decide +kernel
  rcases t d hd with rfl | t
  · exact RoadKit.mvA hZ q
  · exact RoadKit.mv hZ q t
/-- the bytes of the chars cs, low before high -/
def wideBytes : List Int32 → List Value
  | [] => []
  | c :: cs => .int (lo8 c) :: .int (hi8 c) :: wideBytes cs
theorem wide_lo (d : Value) : ∀ (cs : List Int32) (j : Nat), j < cs.length → (wideBytes cs).getD (2 * j) d = .int (lo8 (cs.getD j 0))
  | [], j, h => absurd h (Nat.not_lt_zero j)
  | c :: cs, 0, _ => rfl
  | c :: cs, j + 1, h => by
    have q := wide_lo d cs j (by simpa using h)
    rw [show 2 * (j + 1) = 2 * j + 1 + 1 from by omega]
    simpa [wideBytes] using q
theorem wide_hi (d : Value) : ∀ (cs : List Int32) (j : Nat), j < cs.length → (wideBytes cs).getD (2 * j + 1) d = .int (hi8 (cs.getD j 0))
  | [], j, h => absurd h (Nat.not_lt_zero j)
  | c :: cs, 0, _ => rfl
  | c :: cs, j + 1, h => by
    have q := wide_hi d cs j (by simpa using h)
    rw [show 2 * (j + 1) + 1 = 2 * j + 1 + 1 + 1 from by omega]
    simpa [wideBytes] using q
theorem low_at (d : Value) (cs : List Int32) (j : Nat) (h : j < cs.length) : (cs.map fun c => Value.int (lo8 c)).getD j d = .int (lo8 (cs.getD j 0)) := by
  simp [List.getD_eq_getElem?_getD, h]
/-- an array of N2 bytes vs codes the chars cs by the coder cd -/
def CodA (cs : List Int32) (cd N2 : Int32) (vs : List Value) : Prop := (cd = 0 ∧ N2 = Int32.ofNat cs.length ∧ vs = (cs.map fun c => Value.int (lo8 c)) ∧ ∀ c ∈ cs, ¬ 255 < c) ∨ (cd = 1 ∧ N2 = Int32.ofNat (2 * cs.length) ∧ vs = wideBytes cs ∧ ∃ c ∈ cs, 255 < c)
theorem CodA.cod {cs : List Int32} {cd N2 : Int32} {vs : List Value} {V : Cell} (h : CodA cs cd N2 vs) (hn : 2 * cs.length < 2 ^ 31) (hs : V.slots.size = N2.toNatClampNeg) (hv : RoadKit.Has V vs (.int 0)) : Cod cd cs.length (fun j => cs.getD j 0) V := by
  rcases h with ⟨rfl, rfl, rfl, h⟩ | ⟨rfl, rfl, rfl, c, hc, hw⟩
  · rw [n32 (by omega)] at hs
    exact Or.inl ⟨rfl, hs, fun j hj => ⟨by rw [hv j (by omega), low_at _ _ _ hj], by
      have e : cs.getD j 0 = cs[j] := by simp [List.getD_eq_getElem?_getD, hj]
      show ¬ 255 < cs.getD j 0
      rw [e]; exact h _ (List.getElem_mem _)⟩⟩
  · rw [n32 (by omega)] at hs
    obtain ⟨j, hj, rfl⟩ := List.getElem_of_mem hc
    exact Or.inr ⟨rfl, hs, fun j hj => ⟨by rw [hv _ (by omega), wide_lo _ _ _ hj], by rw [hv _ (by omega), wide_hi _ _ _ hj]⟩, j, hj, by
      have e : cs.getD j 0 = cs[j] := by simp [List.getD_eq_getElem?_getD, hj]
      show 255 < cs.getD j 0
      rw [e]; exact hw⟩
/-- an object of exactly java/lang/String, its two fields found: as the laws ask it -/
theorem strObj {Z U : State} {a0 : Array Value} {kI : Nat} (wi : (Jvm.Cond.instantiable ST kI).before a0 Z = true) (al : Z.vm.Alike U.vm) {x : Addr} {v0 c0 : Value} (E : RoadKit.Exa Z U.heap x ST) (V : RoadKit.Fld Z U.heap x ST "value" "[B" v0) (C : RoadKit.Fld Z U.heap x ST "coder" "B" c0) :
    ∃ (D : Cell) (fV fC : Field), Blank ST x D U ∧ Found ST "value" "[B" fV U ∧ Found ST "coder" "B" fC U ∧ D.slots[fV.slot]? = some v0 ∧ D.slots[fC.slot]? = some c0 ∧ RoadKit.slotOf Z ST "value" "[B" = fV.slot ∧ RoadKit.slotOf Z ST "coder" "B" = fC.slot := by
  obtain ⟨D, cfV, kV, iV, fV, hD, gV, stV, knV, obV, asV, slV⟩ := V
  obtain ⟨D', cfC, kC, iC, fC, hD', gC, stC, -, -, asC, slC⟩ := C
  cases hD.symm.trans hD'
  obtain ⟨D2, kD, e1, e2, e3, e4, e5⟩ := E
  cases hD.symm.trans e1
  obtain ⟨c2, k2, i1, i2, i3, -⟩ := Cond.instantiable_spec wi
  cases e2.symm.trans i1
  cases e3.symm.trans i2
  obtain ⟨kU, u1, u2⟩ := al.2.2 _ _ e3
  exact ⟨D, fV, fC, ⟨hD, ⟨knV, fun q hq => by rw [hq] at obV; cases obV⟩, by rw [al.findClass]; exact e2, kU, u1, by rw [u2]; exact i3, by rw [u2]; exact e5 i3⟩, ⟨SBG.found_only al ⟨cfV, kV, iV, gV⟩, stV⟩, ⟨SBG.found_only al ⟨cfC, kC, iC, gC⟩, stC⟩, slV, slC, by simp [RoadKit.slotOf, gV], by simp [RoadKit.slotOf, gC]⟩
theorem sta_is {Z U : State} (al : Z.vm.Alike U.vm) {C n d : String} {v : Value} (S : RoadKit.Sta Z U.heap C n d v) : StaticIs U C n d v := by
  obtain ⟨cfS, iS, kS, fS, st, cS, t1, t2, t3, t4, t5, t6, t7⟩ := S
  exact StaticIs.there (s := { Z with heap := U.heap }) ⟨cfS, iS, kS, fS, st, cS, t1, t2, t3, t4, t5, (fun q => by rw [q] at t6; cases t6), t7⟩ al rfl
/-- **length() OF SUCH A STRING** -/
theorem lenW {p : Program} {l : Launch} {e : Env} {R : Room} {s : State} {args : Array Value} {below : List Frame} {len W : Nat} {Z : State} {a0 : Array Value} {h : Heap} (hZ : Z.Warmed39 s.vm) (hw : ∀ d ∈ wordsLen, d.before a0 Z = true) {kI : Nat} (wi : (Jvm.Cond.instantiable ST kI).before a0 Z = true)
    {x t : Addr} {kb : ClassId} {cs : List Int32} {cd N2 z : Int32} {vs : List Value} (E : RoadKit.Exa Z h x ST) (V : RoadKit.Fld Z h x ST "value" "[B" (.ref t)) (C : RoadKit.Fld Z h x ST "coder" "B" (.int cd)) (K : RoadKit.Arv Z h t kb .byte N2 vs (.int 0)) (hc : CodA cs cd N2 vs) (hb : ∀ c ∈ cs, ¬ c < 0 ∧ ¬ (65535 : Int32) < c)
    (S : RoadKit.Sta Z h ST "COMPACT_STRINGS" "Z" (.int z)) (hz : ¬ z = 0) (l2 : cs.length ≤ 4000) (hfr : 2 ≤ R.frames) (hlo : W + 25 ≤ R.locals) :
    Back l R p e below s args (⟨"java/lang/String", "length", "()I"⟩ : MethodName) len W (fun P a => a = #[.ref x] ∧ P.U.heap = h ∧ P.cells + 0 ≤ R.cells ∧ P.slots + 0 ≤ R.slots)
      (fun P _ v B => ∃ L, (v = some (.int (Int32.ofNat cs.length)) ∧ L = [] ∧ B.U.heap = h) ∧ B.locs = P.locs ++ L ∧ B.cells = P.cells + 0 ∧ B.slots = P.slots + 0) := by
  obtain ⟨A, K1, K2, K3, K4, K5, K6⟩ := K
  have hcod := hc.cod (by omega) K3 K5
  intro m meth c P g ig mk a X hg hsize hdg hW hn hp'
  obtain ⟨rfl, rfl, r1, r2⟩ := hp'
  have al : Z.vm.Alike P.U.vm := hZ.alike.trans X.warmed.alike
  obtain ⟨D, fV, fC, hB, F1, F2, g1, g2, -, -⟩ := strObj wi al E V C
  have hx : Txt x t A cd cs.length (fun j => cs.getD j 0) P.U := ⟨⟨_, hB.2.2.1, D, hB.1, rfl, by cases q : D.vm <;> first | rfl | exact absurd q (hB.2.1.2 _)⟩, Has.of hB F1 g1, Has.of hB F2 g2, ⟨K1.1, State.isArrayOf_alike al K1.2.1, K1.2.2, by rcases hcod with ⟨-, q, -⟩ | ⟨-, q, -⟩ <;> omega⟩, hcod, fun j hj => by
    have e : cs.getD j 0 = cs[j] := by simp [List.getD_eq_getElem?_getD, hj]
    show ¬ cs.getD j 0 < 0 ∧ ¬ 65535 < cs.getD j 0
    rw [e]; exact hb _ (List.getElem_mem _)⟩
  obtain ⟨v, B, X', ⟨⟨hv, hh⟩, hl, hk, hs⟩, st⟩ := Len.pays x t A cd cs.length (fun j => cs.getD j 0) z (tabLen_of (movedLen hZ hw)) hfr hlo m meth c P g ig mk _ X hg hsize hdg hW hn ⟨r1, r2, rfl, hx, sta_is al S, hz⟩
  exact ⟨v, B, X', ⟨[], ⟨hv, rfl, hh⟩, hl, hk, hs⟩, st⟩
end StrChars.Road
namespace StrChars.Road
open Jvm Sem ClassFile Op Lib Jvm.Stand Jvm.Free Jvm.Free.XT
open Jvm.Lib.Cold (StaticIs)
/-- the road's facts of a String, as the laws ask it -/
theorem txt_of {Z U : State} {a0 : Array Value} {kI : Nat} (wi : (Jvm.Cond.instantiable ST kI).before a0 Z = true) (al : Z.vm.Alike U.vm) {x t : Addr} {kb : ClassId} {cs : List Int32} {cd N2 : Int32} {vs : List Value} (E : RoadKit.Exa Z U.heap x ST) (V : RoadKit.Fld Z U.heap x ST "value" "[B" (.ref t)) (C : RoadKit.Fld Z U.heap x ST "coder" "B" (.int cd)) (K : RoadKit.Arv Z U.heap t kb .byte N2 vs (.int 0)) (hc : CodA cs cd N2 vs) (hb : ∀ c ∈ cs, ¬ c < 0 ∧ ¬ (65535 : Int32) < c) (l2 : cs.length ≤ 4000) :
    ∃ A, Txt x t A cd cs.length (fun j => cs.getD j 0) U := by
  obtain ⟨A, K1, K2, K3, K4, K5, K6⟩ := K
  have hcod := hc.cod (by omega) K3 K5
  obtain ⟨D, fV, fC, hB, F1, F2, g1, g2, -, -⟩ := strObj wi al E V C
  exact ⟨A, ⟨_, hB.2.2.1, D, hB.1, rfl, by cases q : D.vm <;> first | rfl | exact absurd q (hB.2.1.2 _)⟩, Has.of hB F1 g1, Has.of hB F2 g2, ⟨K1.1, State.isArrayOf_alike al K1.2.1, K1.2.2, by rcases hcod with ⟨-, q, -⟩ | ⟨-, q, -⟩ <;> omega⟩, hcod, fun j hj => by
    have e : cs.getD j 0 = cs[j] := by simp [List.getD_eq_getElem?_getD, hj]
    show ¬ cs.getD j 0 < 0 ∧ ¬ 65535 < cs.getD j 0
    rw [e]; exact hb _ (List.getElem_mem _)⟩
end StrChars.Road
namespace StrChars
open Jvm Sem ClassFile Op Lib Jvm.Stand Jvm.Free.XT Jvm.Free.ALB Jvm.Free.JM Jvm.Free
open Jvm.Lib.Cold (StaticIs)
namespace ChN
def yN : MethodName := ⟨"java/lang/String", "charAt", "(I)C"⟩
abbrev yB : ByteArray := jdk_42_method_56_code
theorem d0 : decode yB 0 = .ok (.aload_n 0, 1) := by decide +kernel
theorem d1 : decode yB 1 = .ok (.invokevirtual 492, 3) := by decide +kernel
theorem d4 : decode yB 4 = .ok (.ifCond (.eq) 12, 3) := by decide +kernel
theorem d7 : decode yB 7 = .ok (.aload_n 0, 1) := by decide +kernel
theorem d8 : decode yB 8 = .ok (.getfield 9, 3) := by decide +kernel
theorem d11 : decode yB 11 = .ok (.iload_n 1, 1) := by decide +kernel
theorem d12 : decode yB 12 = .ok (.invokestatic 495, 3) := by decide +kernel
theorem d15 : decode yB 15 = .ok (.ireturn, 1) := by decide +kernel
def site : List Cond := [.fieldLink "java/lang/String" 9 "java/lang/String" "value" "[B", IsL.tab, LChA.tab] ++ virtW "java/lang/String" 492 "java/lang/String" IsL.yN IsL.yN ++ staticW "java/lang/String" 495 LChA.yN
def tab : Cond := tabOf yN yB 2 (some .char) site
def P (x t : Addr) (V : Cell) (n : Nat) (f : Nat → Int32) (z : Int32) (fm : Value) (i : Nat) (args : Array Value) (s : State) : Prop := args = #[.ref x, .int (Int32.ofNat i)] ∧ Txt x t V 0 n f s ∧ i < n ∧ StaticIs s "java/lang/String" "COMPACT_STRINGS" "Z" (.int z) ∧ ¬ z = 0 ∧ StaticIs s "jdk/internal/util/Preconditions" "SIOOBE_FORMATTER" "Ljava/util/function/BiFunction;" fm ∧ fm.isRef = true
def E (f : Nat → Int32) (i : Nat) (r : Option Value) (s u : State) : Prop := XT.PureE (some (.int (f i))) r s u
/-- charAt(i) of a Latin-1 String of n chars, i < n: f i -/
theorem law (l : Launch) (x t : Addr) (V : Cell) (n : Nat) (f : Nat → Int32) (z : Int32) (fm : Value) (i : Nat) : Law l yN 2 1 3 40 yB 2 (some .char) site (P x t V n f z fm i) (E f i) [] 0 0 := by
  refine Law.of_walk (plainFor_of_name (by decide +kernel)) (by decide +kernel) (by decide +kernel) (by decide) (fun _ _ h => by rw [h.1]; rfl) (fun _ U U' hal hh h => ⟨h.1, h.2.1.mv hal hh, h.2.2.1, h.2.2.2.1.there hal hh, h.2.2.2.2.1, h.2.2.2.2.2.1.there hal hh, h.2.2.2.2.2.2⟩) (fun r U U' V V' h1 hal h2 h => XT.PureE.mv r U U' V V' h1 hal h2 h) ?_
  intro p e s m args below meth c s₁ X0 hexec hbytes hml hret hlk hnm hown hh0 W hP
  obtain ⟨rfl, hx, hi, s1, hz, s3, rf⟩ := hP
  have v31 := hx.2.2.2.1.2.2.2
  have hr := hx.2.2.2.2.2 i hi
  have hx0 := hx.mv X0.warmed.alike hh0
  have c1 : Steps p.tables e below (s₁.setTop (entryFrame m #[.ref x, .int (Int32.ofNat i)] 2)) (s₁.setTop (mkF m 1 #[.val (.ref x), .val (.int (Int32.ofNat i))] [.ref x])) := Steps.trans (entry rfl) (by
    show Steps p.tables e below (s₁.setTop (mkF m 0 #[.val (.ref x), .val (.int (Int32.ofNat i))] [])) _
    refine XS.aloadN X0.here hexec rfl (hb hbytes d0) rfl rfl ?_
    exact Steps.refl _)
  obtain ⟨v2, T2, X2, E2, g2⟩ := X0.callV hexec (IsL.law l x 0 z) hown (wks W (virtW "java/lang/String" 492 "java/lang/String" IsL.yN IsL.yN)) rfl (by decide) (wk W IsL.tab) (W := 0) (Nat.le_of_ble_eq_true rfl) (Nat.le_of_ble_eq_true rfl) (Nat.le_refl _) (Nat.le_refl _) (hx0.1.fc X0.warmed.alike) hx0.1.is (g := (mkF m 1 #[.val (.ref x), .val (.int (Int32.ofNat i))] [.ref x])) rfl (by rw [hml]; rfl) c1 (argsL := []) (rest := []) rfl rfl (by show 2 * 0 + 0 ≤ _; decide) (hb hbytes d1) (⟨rfl, hx0.2.2.1, hx.2.2.2.2.1.cd, s1.there X0.warmed.alike hh0, hz⟩)
  obtain ⟨rfl, q2⟩ := E2
  have hh2 := q2.trans hh0
  have hx2 := hx.mv X2.warmed.alike hh2
  obtain ⟨-, k1, k2⟩ | ⟨k0, -⟩ := hx.2.2.2.2.1
  · have c3 : Steps p.tables e below (s₁.setTop (entryFrame m #[.ref x, .int (Int32.ofNat i)] 2)) (T2.setTop (mkF m 8 #[.val (.ref x), .val (.int (Int32.ofNat i))] [.ref x])) := Steps.trans g2 (by
      refine XS.ifNo X2.here hexec rfl (hb hbytes d4) rfl (i0_eq_f (by decide)) ?_
      refine XS.aloadN X2.here hexec rfl (hb hbytes d7) rfl rfl ?_
      exact Steps.refl _)
    obtain ⟨T4, X4, q4, st4⟩ := X2.hget hexec hown (wk W (.fieldLink "java/lang/String" 9 "java/lang/String" "value" "[B")) hx2.2.1 (g := (mkF m 8 #[.val (.ref x), .val (.int (Int32.ofNat i))] [.ref x])) rfl (rest := []) rfl (hb hbytes d8)
    have hh4 := q4.trans hh2
    have c5 : Steps p.tables e below (s₁.setTop (entryFrame m #[.ref x, .int (Int32.ofNat i)] 2)) (T4.setTop (mkF m 12 #[.val (.ref x), .val (.int (Int32.ofNat i))] [.int (Int32.ofNat i), .ref t])) := (c3.trans (st4 _ (Steps.refl _))).trans (by
      refine XS.iloadN X4.here hexec rfl (hb hbytes d11) rfl ?_
      exact Steps.refl _)
    obtain ⟨v6, T6, X6, E6, g6⟩ := X4.callS hexec (LChA.law l t V i (lo8 (f i)) fm) hown (wks W (staticW "java/lang/String" 495 LChA.yN)) (wk W LChA.tab) (W := 0) (Nat.le_of_ble_eq_true rfl) (Nat.le_of_ble_eq_true rfl) (Nat.le_refl _) (Nat.le_refl _) (g := (mkF m 12 #[.val (.ref x), .val (.int (Int32.ofNat i))] [.int (Int32.ofNat i), .ref t])) rfl (by rw [hml]; rfl) c5 (argsL := [.ref t, .int (Int32.ofNat i)]) (rest := []) rfl rfl (by show 2 * 0 + 0 ≤ _; decide) (hb hbytes d12) (⟨rfl, hx.2.2.2.1.mv X4.warmed.alike hh4, (k2 i hi).1, s3.there X4.warmed.alike hh4, rf⟩)
    obtain ⟨rfl, q6⟩ := E6
    rw [chr8_lo8 hr.1 (k2 i hi).2] at g6
    exact ⟨T6, some (.int (f i)), _, _, _, X6, rfl, rfl, rfl, (fun h => by cases h), ⟨rfl, q6.trans hh4⟩, fun fs hl => Steps.trans g6 (X6.ireturnOut hexec hret (narrow_ch hr.1 hr.2) (Or.inr (Or.inr (Or.inr (Or.inl rfl)))) (hb hbytes d15) hl)⟩
  · exact absurd k0 (by decide)
theorem pays {l : Launch} {R : Room} {p : Program} {e : Env} {below : List Frame} {s : State} {sargs : Array Value} {len W : Nat} (x t : Addr) (V : Cell) (n : Nat) (f : Nat → Int32) (z : Int32) (fm : Value) (i : Nat) (htab : tab.before sargs s = true) (hfr : 4 ≤ R.frames) (hlo : W + 53 ≤ R.locals) :
    Back l R p e below s sargs yN len W (fun A₁ a₁ => A₁.cells + 0 ≤ R.cells ∧ A₁.slots + 0 ≤ R.slots ∧ P x t V n f z fm i a₁ A₁.U) (fun A₁ _ v₁ B₁ => E f i v₁ A₁.U B₁.U ∧ B₁.locs = A₁.locs ++ [] ∧ B₁.cells = A₁.cells + 0 ∧ B₁.slots = A₁.slots + 0) :=
  (law l x t V n f z fm i).pays htab hfr (by omega)
end ChN
end StrChars
namespace StrChars.Road
open Jvm Sem ClassFile Op Lib Jvm.Stand Jvm.Free Jvm.Free.XT
open Jvm.Lib.Cold (StaticIs)
/-- the words of String.charAt(int), the Latin-1 road alone -/
abbrev wordsChN : List Jvm.Cond := [.code ChN.yN ChN.yB 2 (some .char), .initialized ST, .fieldLink ST 9 ST "value" "[B", .fieldLink ST 38 ST "COMPACT_STRINGS" "Z", .fieldLink ST 15 ST "coder" "B", .code IsL.yN IsL.yB 1 (some .boolean), .methodLink ST 492 IsL.yN, .declares IsL.yN, .selects ST IsL.yN IsL.yN, .instanceMethod IsL.yN,
  .methodLink ST 495 LChA.yN, .static LChA.yN, .code LChA.yN LChA.yB 2 (some .char), .initialized "java/lang/StringLatin1", .methodLink "java/lang/StringLatin1" 9 JO.Str_checkIndex.yN, .static JO.Str_checkIndex.yN, .code JO.Str_checkIndex.yN JO.Str_checkIndex.yB 2 none,
  .fieldLink ST 1053 "jdk/internal/util/Preconditions" "SIOOBE_FORMATTER" "Ljava/util/function/BiFunction;", .methodLink ST 1059 JC.PreCheck.yN, .static JC.PreCheck.yN, .code JC.PreCheck.yN JC.PreCheck.yB 3 (some .int), .initialized "jdk/internal/util/Preconditions"]
theorem tabChN_of {a : Array Value} {s : State} (h : ∀ w ∈ wordsChN, w.before a s = true) : ChN.tab.before a s = true := by
  have hp : JC.PreCheck.tab.before a s = true := unparts (wk h (.code JC.PreCheck.yN JC.PreCheck.yB 3 (some .int))) (wks h (.initialized JC.PreCheck.yN.cls :: JC.PreCheck.site))
  have qk := consq hp h
  have hk : JO.Str_checkIndex.tab.before a s = true := unparts (wk qk (.code JO.Str_checkIndex.yN JO.Str_checkIndex.yB 2 none)) (wks qk (.initialized JO.Str_checkIndex.yN.cls :: JO.Str_checkIndex.site))
  have ql := consq hk h
  have hl : LChA.tab.before a s = true := unparts (wk ql (.code LChA.yN LChA.yB 2 (some .char))) (wks ql (.initialized LChA.yN.cls :: LChA.site))
  have hi : IsL.tab.before a s = true := unparts (wk h (.code IsL.yN IsL.yB 1 (some .boolean))) (wks h (.initialized IsL.yN.cls :: IsL.site))
  have q := consq hi (consq hl h)
  exact unparts (wk q (.code ChN.yN ChN.yB 2 (some .char))) (wks q (.initialized ChN.yN.cls :: ChN.site))
theorem movedChN {Z s : State} {a0 args : Array Value} (hZ : Z.Warmed39 s.vm) (hw : ∀ d ∈ wordsChN, d.before a0 Z = true) : ∀ d ∈ wordsChN, d.before args s = true := fun d hd => by
  have t : ∀ d ∈ wordsChN, (d.onTables && d.keepsFace) = true := by decide +kernel
  exact RoadKit.mv hZ (hw d hd) (t d hd)
/-- **charAt(i) OF A LATIN-1 STRING**, i < n: the char -/
theorem chN {p : Program} {l : Launch} {e : Env} {R : Room} {s : State} {args : Array Value} {below : List Frame} {len W : Nat} {Z : State} {a0 : Array Value} {h : Heap} (hZ : Z.Warmed39 s.vm) (hw : ∀ d ∈ wordsChN, d.before a0 Z = true) {kI : Nat} (wi : (Jvm.Cond.instantiable ST kI).before a0 Z = true)
    {x t : Addr} {kb : ClassId} {cs : List Int32} {N2 z : Int32} {vs : List Value} {fm : Value} {i : Nat} {j : Int32} (E : RoadKit.Exa Z h x ST) (V : RoadKit.Fld Z h x ST "value" "[B" (.ref t)) (C : RoadKit.Fld Z h x ST "coder" "B" (.int 0)) (K : RoadKit.Arv Z h t kb .byte N2 vs (.int 0)) (hc : CodA cs 0 N2 vs) (hb : ∀ c ∈ cs, ¬ c < 0 ∧ ¬ (65535 : Int32) < c)
    (S : RoadKit.Sta Z h ST "COMPACT_STRINGS" "Z" (.int z)) (hz : ¬ z = 0) (F : RoadKit.Sta Z h "jdk/internal/util/Preconditions" "SIOOBE_FORMATTER" "Ljava/util/function/BiFunction;" fm) (rf : fm.isRef = true) (l2 : cs.length ≤ 4000) (hi : i < cs.length) (hj : j = Int32.ofNat i) (hfr : 4 ≤ R.frames) (hlo : W + 53 ≤ R.locals) :
    Back l R p e below s args (⟨"java/lang/String", "charAt", "(I)C"⟩ : MethodName) len W (fun P a => a = #[.ref x, .int j] ∧ P.U.heap = h ∧ P.cells + 0 ≤ R.cells ∧ P.slots + 0 ≤ R.slots)
      (fun P _ v B => ∃ L, (v = some (.int (cs.getD i 0)) ∧ L = [] ∧ B.U.heap = h) ∧ B.locs = P.locs ++ L ∧ B.cells = P.cells + 0 ∧ B.slots = P.slots + 0) := by
  subst hj
  intro m meth c P g ig mk a X hg hsize hdg hW hn hp'
  obtain ⟨rfl, rfl, r1, r2⟩ := hp'
  have al : Z.vm.Alike P.U.vm := hZ.alike.trans X.warmed.alike
  obtain ⟨A, hx⟩ := txt_of wi al E V C K hc hb l2
  obtain ⟨v, B, X', ⟨⟨hv, hh⟩, hl, hk, hs⟩, st⟩ := ChN.pays x t A cs.length (fun j => cs.getD j 0) z fm i (tabChN_of (movedChN hZ hw)) hfr hlo m meth c P g ig mk _ X hg hsize hdg hW hn ⟨r1, r2, rfl, hx, hi, sta_is al S, hz, sta_is al F, rf⟩
  exact ⟨v, B, X', ⟨[], ⟨hv, rfl, hh⟩, hl, hk, hs⟩, st⟩
/-- what backV says of its String, as the contracts of this text ask it: cs's low bytes, coder 0 -/
theorem codOf {cs : List Int32} {n : Nat} (hn : cs.length = n) (hb : ∀ c ∈ cs, ¬ 255 < c) : CodA cs 0 (Int32.ofNat n) ((cs.map lo8).map Value.int) := Or.inl ⟨rfl, by rw [hn], by simp [List.map_map, Function.comp_def], hb⟩
end StrChars.Road
end Jvm.Pilot.@@N@@
namespace Jvm.Pilot.@@N@@
open Jvm Jvm.ClassFile Sem Op Lib Jvm.Free Jvm.Stand Jvm.LawKit Jvm.RoadKit Bundle Jvm.Own Jvm.Pilot.@@N@@.Jvm.D
theorem Hw {Z : State} {a0 : Array Value} (hw : ∀ d ∈ tables_1, d.before a0 Z = true) {d : Jvm.Cond} (i : Nat) (h : tables_1[i]? = some d) : d.before a0 Z = true := hw d (List.mem_of_getElem? h)
theorem own_EL {Z : State} {a0 : Array Value} (hw : ∀ d ∈ tables_1, d.before a0 Z = true) : EW Z a0 consts_1 := (EW.cons (Hw hw 136 rfl) (by decide) (EW.cons (Hw hw 108 rfl) (by decide) (EW.cons (Hw hw 137 rfl) (by decide) (EW.cons (Hw hw 134 rfl) (by decide) (EW.cons (Hw hw 23 rfl) (by decide) EW.nil)))))
theorem own_wS {Z : State} {a0 : Array Value} (hw : ∀ d ∈ tables_1, d.before a0 Z = true) : ∀ d ∈ Bundle.stringAtoms, d.before a0 Z = true := fun d hd => hw d ((by decide +kernel : ∀ d ∈ Bundle.stringAtoms, d ∈ tables_1) d hd)
theorem own_hws {Z : State} {a0 : Array Value} (hw : ∀ d ∈ tables_1, d.before a0 Z = true) : ∀ d ∈ StrChars.Road.words, d.before a0 Z = true := fun d hd => hw d ((by decide +kernel : ∀ d ∈ StrChars.Road.words, d ∈ tables_1) d hd)
theorem own_hLen {Z : State} {a0 : Array Value} (hw : ∀ d ∈ tables_1, d.before a0 Z = true) : ∀ d ∈ StrChars.Road.wordsLen, d.before a0 Z = true := fun d hd => hw d ((by decide +kernel : ∀ d ∈ StrChars.Road.wordsLen, d ∈ tables_1) d hd)
theorem own_hChN {Z : State} {a0 : Array Value} (hw : ∀ d ∈ tables_1, d.before a0 Z = true) : ∀ d ∈ StrChars.Road.wordsChN, d.before a0 Z = true := fun d hd => hw d ((by decide +kernel : ∀ d ∈ StrChars.Road.wordsChN, d ∈ tables_1) d hd)
theorem own_lenB {p : Program} {l : Launch} {e : Env} {R : Room} {args : Array Value} {below : List Frame} {W : Nat} {Z : State} {a0 : Array Value} {h : Heap} (hw : ∀ d ∈ tables_1, d.before a0 Z = true) {x : Addr} {cs : List Int32} {z : Int32} (S1 : Sg Z h x cs) (S : Sta Z h "java/lang/String" "COMPACT_STRINGS" "Z" (.int z)) (hz : ¬ z = 0) (hfr : 2 ≤ R.frames) (hlo : W + 25 ≤ R.locals) (s' : State) (hZ' : Z.Warmed39 s'.vm) :
    Back l R p e below s' args (⟨"java/lang/String", "length", "()I"⟩ : MethodName) 3 W (fun P a' => a' = #[.ref x] ∧ P.U.heap = h ∧ P.cells + 0 ≤ R.cells ∧ P.slots + 0 ≤ R.slots) (fun P _ v B => ∃ L, (v = some (.int (Int32.ofNat cs.length)) ∧ L = [] ∧ B.U.heap = h) ∧ B.locs = P.locs ++ L ∧ B.cells = P.cells + 0 ∧ B.slots = P.slots + 0) := by
  obtain ⟨l1, b1, E1, t1, k1, V1, C1, A1⟩ := S1
  exact StrChars.Road.lenW hZ' (own_hLen hw) (kI := 4) (Hw hw 10 rfl) E1 V1 C1 A1 (StrChars.Road.codOf rfl fun c hc => (b1 c hc).2) (fun c hc => (b1 c hc).chr) S hz l1 hfr hlo
theorem own_chB {p : Program} {l : Launch} {e : Env} {R : Room} {args : Array Value} {below : List Frame} {W : Nat} {Z : State} {a0 : Array Value} {h : Heap} (hw : ∀ d ∈ tables_1, d.before a0 Z = true) {x : Addr} {cs : List Int32} {z j : Int32} {i : Nat} {fm : Value} (S1 : Sg Z h x cs) (S : Sta Z h "java/lang/String" "COMPACT_STRINGS" "Z" (.int z)) (hz : ¬ z = 0) (F : Sta Z h "jdk/internal/util/Preconditions" "SIOOBE_FORMATTER" "Ljava/util/function/BiFunction;" fm) (rf : fm.isRef = true) (hi : i < cs.length) (hj : j = Int32.ofNat i) (hfr : 4 ≤ R.frames) (hlo : W + 53 ≤ R.locals) (s' : State) (hZ' : Z.Warmed39 s'.vm) :
    Back l R p e below s' args (⟨"java/lang/String", "charAt", "(I)C"⟩ : MethodName) 3 W (fun P a' => a' = #[.ref x, .int j] ∧ P.U.heap = h ∧ P.cells + 0 ≤ R.cells ∧ P.slots + 0 ≤ R.slots) (fun P _ v B => ∃ L, (v = some (.int (cs.getD i 0)) ∧ L = [] ∧ B.U.heap = h) ∧ B.locs = P.locs ++ L ∧ B.cells = P.cells + 0 ∧ B.slots = P.slots + 0) := by
  obtain ⟨l1, b1, E1, t1, k1, V1, C1, A1⟩ := S1
  exact StrChars.Road.chN hZ' (own_hChN hw) (kI := 4) (Hw hw 10 rfl) E1 V1 C1 A1 (StrChars.Road.codOf rfl fun c hc => (b1 c hc).2) (fun c hc => (b1 c hc).chr) S hz F rf l1 hi hj hfr hlo
theorem e0_0 : decode jdk_42_method_149_code 0 = .ok (.aload_n 0, 1) := by decide +kernel
theorem e0_1 : decode jdk_42_method_149_code 1 = .ok (.invokespecial 1, 3) := by decide +kernel
theorem e0_4 : decode jdk_42_method_149_code 4 = .ok (.iload_n 3, 1) := by decide +kernel
theorem e0_5 : decode jdk_42_method_149_code 5 = .ok (.ifCond .ne 22, 3) := by decide +kernel
theorem e0_8 : decode jdk_42_method_149_code 8 = .ok (.aload_n 0, 1) := by decide +kernel
theorem e0_9 : decode jdk_42_method_149_code 9 = .ok (.ldc 7, 2) := by decide +kernel
theorem e0_11 : decode jdk_42_method_149_code 11 = .ok (.getfield 9, 3) := by decide +kernel
theorem e0_14 : decode jdk_42_method_149_code 14 = .ok (.putfield 9, 3) := by decide +kernel
theorem e0_17 : decode jdk_42_method_149_code 17 = .ok (.aload_n 0, 1) := by decide +kernel
theorem e0_18 : decode jdk_42_method_149_code 18 = .ok (.ldc 7, 2) := by decide +kernel
theorem e0_20 : decode jdk_42_method_149_code 20 = .ok (.getfield 15, 3) := by decide +kernel
theorem e0_23 : decode jdk_42_method_149_code 23 = .ok (.putfield 15, 3) := by decide +kernel
theorem e0_26 : decode jdk_42_method_149_code 26 = .ok (.return_, 1) := by decide +kernel
theorem e0_27 : decode jdk_42_method_149_code 27 = .ok (.getstatic 38, 3) := by decide +kernel
theorem e0_30 : decode jdk_42_method_149_code 30 = .ok (.ifCond .eq 28, 3) := by decide +kernel
theorem e0_33 : decode jdk_42_method_149_code 33 = .ok (.aload_n 1, 1) := by decide +kernel
theorem e0_34 : decode jdk_42_method_149_code 34 = .ok (.iload_n 2, 1) := by decide +kernel
theorem e0_35 : decode jdk_42_method_149_code 35 = .ok (.iload_n 3, 1) := by decide +kernel
theorem e0_36 : decode jdk_42_method_149_code 36 = .ok (.invokestatic 177, 3) := by decide +kernel
theorem e0_39 : decode jdk_42_method_149_code 39 = .ok (.astore 5, 2) := by decide +kernel
theorem e0_41 : decode jdk_42_method_149_code 41 = .ok (.aload_n 0, 1) := by decide +kernel
theorem e0_42 : decode jdk_42_method_149_code 42 = .ok (.aload 5, 2) := by decide +kernel
theorem e0_44 : decode jdk_42_method_149_code 44 = .ok (.iload_n 3, 1) := by decide +kernel
theorem e0_45 : decode jdk_42_method_149_code 45 = .ok (.invokestatic 47, 3) := by decide +kernel
theorem e0_48 : decode jdk_42_method_149_code 48 = .ok (.putfield 15, 3) := by decide +kernel
theorem e0_51 : decode jdk_42_method_149_code 51 = .ok (.aload_n 0, 1) := by decide +kernel
theorem e0_52 : decode jdk_42_method_149_code 52 = .ok (.aload 5, 2) := by decide +kernel
theorem e0_54 : decode jdk_42_method_149_code 54 = .ok (.putfield 9, 3) := by decide +kernel
theorem e0_57 : decode jdk_42_method_149_code 57 = .ok (.return_, 1) := by decide +kernel
theorem e0_58 : decode jdk_42_method_149_code 58 = .ok (.aload_n 0, 1) := by decide +kernel
theorem e0_59 : decode jdk_42_method_149_code 59 = .ok (.iconst 1, 1) := by decide +kernel
theorem e0_60 : decode jdk_42_method_149_code 60 = .ok (.putfield 15, 3) := by decide +kernel
theorem e0_63 : decode jdk_42_method_149_code 63 = .ok (.aload_n 0, 1) := by decide +kernel
theorem e0_64 : decode jdk_42_method_149_code 64 = .ok (.aload_n 1, 1) := by decide +kernel
theorem e0_65 : decode jdk_42_method_149_code 65 = .ok (.iload_n 2, 1) := by decide +kernel
theorem e0_66 : decode jdk_42_method_149_code 66 = .ok (.iload_n 3, 1) := by decide +kernel
theorem e0_67 : decode jdk_42_method_149_code 67 = .ok (.invokestatic 180, 3) := by decide +kernel
theorem e0_70 : decode jdk_42_method_149_code 70 = .ok (.putfield 9, 3) := by decide +kernel
theorem e0_73 : decode jdk_42_method_149_code 73 = .ok (.return_, 1) := by decide +kernel
theorem pn0 : plainName "java/lang/String" = true := by first | (simp [plainName, overriddenIn]; done) | decide +kernel
set_option maxRecDepth 65536 in
set_option maxHeartbeats 40000000 in
theorem con_new4E (l : Launch) (Z : State) (a0 : Array Value) (hw : ∀ d ∈ tables_1, d.before a0 Z = true) (x b : Addr) (h0 : Heap) (O0 : Ext Z.heap h0) (X_x : Exa Z h0 x "java/lang/String") (F_value_x : Fld Z h0 x "java/lang/String" "value" "[B" .null) (F_coder_x : Fld Z h0 x "java/lang/String" "coder" "B" (.int (0 : Int32))) (n_x : Z.heap.size ≤ x) :
    Con l Z consts_1 false (⟨"java/lang/String", "<init>", "([CIILjava/lang/Void;)V"⟩ : MethodName) jdk_42_method_149_code 6 none [] ({ frames := 1, cells := 4, slots := 8, locals := 12 } : Room) #[(.ref x), (.ref b), (.int (0 : Int32)), (.int (0 : Int32)), .null] [] h0 (fun v h => v = none ∧ Keep h0 h [x] ∧ Sg Z h x []) := by
  refine Con.intro (Ls := #[.val (.ref x), .val (.ref b), .val (.int (0 : Int32)), .val (.int (0 : Int32)), .val .null, .unset]) (plainFor_of_name pn0) (own_EL hw) O0 (fun m => by first | (simp [entryFrame, mkF, argsToLocals, Value.category]; done) | rfl) (fun p e s m below meth cc_ T w sf_ => ?_)
  have K0 := Keep.refl h0 [x]
  have s_x := safe_null (EL := consts_1) (vm := s.vm) w.wz.alike (Hw hw 10 rfl) X_x F_value_x
  refine g_aloadN w e0_0 (q := 1) rfl rfl rfl ?_
  refine g_initO w e0_1 (q := 4) rfl rfl (Hw hw 20 rfl) (Hw hw 21 rfl) (Hw hw 22 rfl) (W := 0) (Nat.le_of_eq rfl) (by decide) (by decide) (fun T w => ?_)
  refine g_iloadN w e0_4 (q := 5) rfl rfl ?_
  refine g_ifN w e0_5 (q := 8) rfl (by decide) ?_
  refine g_aloadN w e0_8 (q := 9) rfl rfl rfl ?_
  refine g_ldcS w e0_9 (q := 11) rfl rfl (Hw hw 23 rfl) (own_wS hw) (by decide) (vs := []) (z := 0) ⟨by decide, by decide⟩ (by decide) (by decide) (nn := 0) (by decide) (by decide) (by decide) (by decide) (fun T vm h t2 b_t2 kb_t2 w E X_t2 Fc_t2 Fv_t2 Ab_t2 C Sf => ?_)
  replace s_x := C.safe X_x.lt s_x
  have nb_x_t2 := (Sf _ s_x).2
  have ne_x_t2 := (Sf _ s_x).1
  have ne_x_b_t2 := nb_x_t2
  replace K0 := K0.ext E
  replace X_x := X_x.ext E
  replace F_value_x := F_value_x.ext E
  replace F_coder_x := F_coder_x.ext E
  refine g_getF w e0_11 (q := 14) rfl (host := "") (Or.inl (Hw hw 29 rfl)) Via.refl Fv_t2 (fun T w => ?_)
  have g_ := w.chv
  refine g_putF w e0_14 (q := 17) rfl (Hw hw 29 rfl) Via.refl F_value_x X_x (Or.inr ⟨(Hw hw 25 rfl), rfl, rfl⟩) (Hw hw 10 rfl) (ty := (.array .byte)) (by decide) (v' := (.ref b_t2)) rfl rfl n_x s_x (fun T h w W => ?_)
  replace K0 := K0.wr W (Or.inl (List.mem_singleton.mpr rfl))
  replace s_x := Safe.wr W s_x g_ s_x
  replace X_x := X_x.wr W
  replace F_value_x := F_value_x.same W
  replace F_coder_x := F_coder_x.other W (Or.inr (slot_ne (Or.inr (Hw hw 26 rfl)) (Or.inr (Hw hw 25 rfl)) (by decide) (t := .byte) (t' := (.array .byte)) (by decide) (by decide)))
  replace X_t2 := X_t2.wr W
  replace Fc_t2 := Fc_t2.other W (Or.inl ne_x_t2.symm)
  replace Fv_t2 := Fv_t2.other W (Or.inl ne_x_t2.symm)
  replace Ab_t2 := Ab_t2.other W ne_x_b_t2.symm
  refine g_aloadN w e0_17 (q := 18) rfl rfl rfl ?_
  refine g_ldcS w e0_18 (q := 20) rfl rfl (Hw hw 23 rfl) (own_wS hw) (by decide) (vs := []) (z := 0) ⟨by decide, by decide⟩ (by decide) (by decide) (nn := 0) (by decide) (by decide) (by decide) (by decide) (fun T vm h t3 b_t3 kb_t3 w E X_t3 Fc_t3 Fv_t3 Ab_t3 C Sf => ?_)
  replace s_x := C.safe X_x.lt s_x
  have nb_x_t3 := (Sf _ s_x).2
  have ne_x_t3 := (Sf _ s_x).1
  have ne_x_b_t3 := nb_x_t3
  replace K0 := K0.ext E
  replace X_x := X_x.ext E
  replace F_value_x := F_value_x.ext E
  replace F_coder_x := F_coder_x.ext E
  replace X_t2 := X_t2.ext E
  replace Fc_t2 := Fc_t2.ext E
  replace Fv_t2 := Fv_t2.ext E
  replace Ab_t2 := Ab_t2.ext E
  refine g_getF w e0_20 (q := 23) rfl (host := "") (Or.inl (Hw hw 30 rfl)) Via.refl Fc_t3 (fun T w => ?_)
  have g_ := w.chv
  refine g_putF w e0_23 (q := 26) rfl (Hw hw 30 rfl) Via.refl F_coder_x X_x (Or.inr ⟨(Hw hw 26 rfl), rfl, rfl⟩) (Hw hw 10 rfl) (ty := .byte) (by decide) (v' := (.int (0 : Int32))) rfl rfl n_x s_x (fun T h w W => ?_)
  replace K0 := K0.wr W (Or.inl (List.mem_singleton.mpr rfl))
  replace s_x := Safe.wr W s_x g_ s_x
  replace X_x := X_x.wr W
  replace F_value_x := F_value_x.other W (Or.inr (slot_ne (Or.inr (Hw hw 25 rfl)) (Or.inr (Hw hw 26 rfl)) (by decide) (t := (.array .byte)) (t' := .byte) (by decide) (by decide)))
  replace F_coder_x := F_coder_x.same W
  replace X_t2 := X_t2.wr W
  replace Fc_t2 := Fc_t2.other W (Or.inl ne_x_t2.symm)
  replace Fv_t2 := Fv_t2.other W (Or.inl ne_x_t2.symm)
  replace Ab_t2 := Ab_t2.other W ne_x_b_t2.symm
  replace X_t3 := X_t3.wr W
  replace Fc_t3 := Fc_t3.other W (Or.inl ne_x_t3.symm)
  replace Fv_t3 := Fv_t3.other W (Or.inl ne_x_t3.symm)
  replace Ab_t3 := Ab_t3.other W ne_x_b_t3.symm
  exact g_return w e0_26 rfl (by decide) (by decide) ⟨rfl, K0, ⟨Nat.le_of_ble_eq_true rfl, cs0, X_x, b_t2, kb_t2, F_value_x, F_coder_x, Ab_t2⟩⟩
theorem e1_0 : decode jdk_42_method_3_code 0 = .ok (.aload_n 0, 1) := by decide +kernel
theorem e1_1 : decode jdk_42_method_3_code 1 = .ok (.aload_n 1, 1) := by decide +kernel
theorem e1_2 : decode jdk_42_method_3_code 2 = .ok (.iconst 0, 1) := by decide +kernel
theorem e1_3 : decode jdk_42_method_3_code 3 = .ok (.aload_n 1, 1) := by decide +kernel
theorem e1_4 : decode jdk_42_method_3_code 4 = .ok (.arraylength, 1) := by decide +kernel
theorem e1_5 : decode jdk_42_method_3_code 5 = .ok (.aconst_null, 1) := by decide +kernel
theorem e1_6 : decode jdk_42_method_3_code 6 = .ok (.invokespecial 27, 3) := by decide +kernel
theorem e1_9 : decode jdk_42_method_3_code 9 = .ok (.return_, 1) := by decide +kernel
theorem pd0 : parseMethodDescriptor "([CIILjava/lang/Void;)V" = some ⟨[(.array .char), .int, .int, (.object "java/lang/Void")], none⟩ := by decide +kernel
set_option maxRecDepth 65536 in
set_option maxHeartbeats 40000000 in
theorem con_new1E (l : Launch) (Z : State) (a0 : Array Value) (hw : ∀ d ∈ tables_1, d.before a0 Z = true) (x b : Addr) (h0 : Heap) (O0 : Ext Z.heap h0) (X_x : Exa Z h0 x "java/lang/String") (F_value_x : Fld Z h0 x "java/lang/String" "value" "[B" .null) (F_coder_x : Fld Z h0 x "java/lang/String" "coder" "B" (.int (0 : Int32))) (n_x : Z.heap.size ≤ x) (A_b : Ar Z h0 b .char []) (ne_b_x : b ≠ x) :
    Con l Z consts_1 false (⟨"java/lang/String", "<init>", "([C)V"⟩ : MethodName) jdk_42_method_3_code 2 none [] ({ frames := 2, cells := 4, slots := 8, locals := 29 } : Room) #[(.ref x), (.ref b)] [] h0 (fun v h => v = none ∧ Keep h0 h [x] ∧ Sg Z h x []) := by
  refine Con.intro (Ls := #[.val (.ref x), .val (.ref b)]) (plainFor_of_name pn0) (own_EL hw) O0 (fun m => by first | (simp [entryFrame, mkF, argsToLocals, Value.category]; done) | rfl) (fun p e s m below meth cc_ T w sf_ => ?_)
  have K0 := Keep.refl h0 [x]
  refine g_aloadN w e1_0 (q := 1) rfl rfl rfl ?_
  refine g_aloadN w e1_1 (q := 2) rfl rfl rfl ?_
  refine g_iconst w e1_2 (q := 3) rfl (v := (0 : Int32)) (by decide) ?_
  refine g_aloadN w e1_3 (q := 4) rfl rfl rfl ?_
  refine g_alen w e1_4 (q := 5) rfl A_b ?_
  show Go p e below _ (State.setTop T (mkF m 5 #[.val (.ref x), .val (.ref b)] [(.int (0 : Int32)), (.int (0 : Int32)), (.ref b), (.ref x)]))
  refine g_anull w e1_5 (q := 6) rfl ?_
  refine g_special w (con_new4E l Z a0 hw x b _ w.old X_x F_value_x F_coder_x n_x) no0 e1_6 (q := 9) rfl rfl rfl (Hw hw 16 rfl) (Hw hw 17 rfl) (Hw hw 11 rfl) (Hw hw 19 rfl) (by decide) pd0 rfl rfl (W := 0) (Nat.le_of_eq rfl) (by decide) (by decide) (by decide) (by decide) (fun T h v w gs C q => ?_)
  obtain ⟨rfl, K, S_x⟩ := q
  replace K0 := keep_same K0 K
  have X0 := X_x
  replace X_x := X_x.keep K
  replace A_b := A_b.keep K (not1 ne_b_x)
  show Go p e below _ (State.setTop T (mkF m 9 #[.val (.ref x), .val (.ref b)] []))
  exact g_return w e1_9 rfl (by decide) (by decide) ⟨rfl, K0, S_x⟩
/-- the first place of c in a list, counted from i; -1 where there is none -/
def fix (c : Int32) : List Int32 → Nat → Int32
  | [], _ => -1
  | d :: ds, i => if d = c then Int32.ofNat i else fix c ds (i + 1)
theorem drop_at {cs : List Int32} {i : Nat} (h : i < cs.length) : cs.drop i = cs.getD i 0 :: cs.drop (i + 1) := by
  rw [List.drop_eq_getElem_cons h]; simp [List.getD_eq_getElem?_getD, h]
theorem fix_here {cs : List Int32} {c : Int32} {i : Nat} (h : i < cs.length) (e : cs.getD i 0 = c) : fix c (cs.drop i) i = Int32.ofNat i := by rw [drop_at h, fix, if_pos e]
theorem fix_next {cs : List Int32} {c : Int32} {i : Nat} (h : i < cs.length) (e : ¬ cs.getD i 0 = c) : fix c (cs.drop i) i = fix c (cs.drop (i + 1)) (i + 1) := by rw [drop_at h, fix, if_neg e]
theorem fix_end {cs : List Int32} {c : Int32} {i : Nat} (h : i + 0 = cs.length) : fix c (cs.drop i) i = -1 := by rw [List.drop_of_length_le (by omega)]; rfl
/-- the last place of c among the first n -/
def lix (c : Int32) (cs : List Int32) : Nat → Int32
  | 0 => -1
  | n + 1 => if cs.getD n 0 = c then Int32.ofNat n else lix c cs n
theorem lat_at {cs : List Int32} {i : Nat} (h : i < cs.length) : ((cs.map fun c => c.toInt8.toInt32).map Value.int)[i]? = some (.int (cs.getD i 0).toInt8.toInt32) := by
  simp [List.getD_eq_getElem?_getD, h]
theorem lat_all {cs : List Int32} (hl : ∀ c ∈ cs, Lt8 c) {i : Nat} (h : i < cs.length) : Lt8 (cs.getD i 0) := by
  have e : cs.getD i 0 = cs[i] := by simp [List.getD_eq_getElem?_getD, h]
  rw [e]; exact hl _ (List.getElem_mem h)
theorem lo8_inj {x y : Int32} (hx : Lt8 x) (hy : Lt8 y) (h : x.toInt8.toInt32 = y.toInt8.toInt32) : x = y := by
  have a := StrChars.lo8_mask hx.1 hx.2
  have b := StrChars.lo8_mask hy.1 hy.2
  have e : StrChars.lo8 x = StrChars.lo8 y := h
  rw [e] at a; exact a.symm.trans b
theorem lt_ofNat {i n : Nat} (h : i < n) (hn : n ≤ 4000) : Int32.ofNat i < Int32.ofNat n := by
  have e1 : (Int32.ofNat i).toInt = i := Int32.toInt_ofNat_of_lt (by omega)
  have e2 : (Int32.ofNat n).toInt = n := Int32.toInt_ofNat_of_lt (by omega)
  rw [Int32.lt_iff_toInt_lt, e1, e2]; omega
theorem not_lt_ofNat {i n : Nat} (h : n ≤ i) (hn : i ≤ 4000) : ¬ Int32.ofNat i < Int32.ofNat n := by
  have e1 : (Int32.ofNat i).toInt = i := Int32.toInt_ofNat_of_lt (by omega)
  have e2 : (Int32.ofNat n).toInt = n := Int32.toInt_ofNat_of_lt (by omega)
  rw [Int32.lt_iff_toInt_lt, e1, e2]; omega
theorem ofNat_succ (i : Nat) : Int32.ofNat i + 1 = Int32.ofNat (i + 1) := by rw [Int32.ofNat_add]; rfl
theorem ofNat_pred (i : Nat) : Int32.ofNat (i + 1) - 1 = Int32.ofNat i := by rw [← ofNat_succ, Int32.add_sub_cancel]
theorem ofNat_dec (i : Nat) : Int32.ofNat i + (-1) = Int32.ofNat i - 1 := by rw [Int32.sub_eq_add_neg]
theorem fix_none {c : Int32} {cs : List Int32} (h : ¬ (0 : Int32) < Int32.ofNat cs.length) (hn : cs.length ≤ 4000) : fix c cs 0 = -1 := by
  cases cs with
  | nil => rfl
  | cons d ds => exact absurd (lt_ofNat (i := 0) (n := (d :: ds).length) (by simp) hn) h

theorem e2_0 : decode jdk_42_method_154_code 0 = .ok (.getstatic 38, 3) := by decide +kernel
theorem e2_3 : decode jdk_42_method_154_code 3 = .ok (.ifCond .eq 14, 3) := by decide +kernel
theorem e2_6 : decode jdk_42_method_154_code 6 = .ok (.aload_n 0, 1) := by decide +kernel
theorem e2_7 : decode jdk_42_method_154_code 7 = .ok (.getfield 15, 3) := by decide +kernel
theorem e2_10 : decode jdk_42_method_154_code 10 = .ok (.ifCond .ne 7, 3) := by decide +kernel
theorem e2_13 : decode jdk_42_method_154_code 13 = .ok (.iconst 1, 1) := by decide +kernel
theorem e2_14 : decode jdk_42_method_154_code 14 = .ok (.goto 4, 3) := by decide +kernel
theorem e2_17 : decode jdk_42_method_154_code 17 = .ok (.iconst 0, 1) := by decide +kernel
theorem e2_18 : decode jdk_42_method_154_code 18 = .ok (.ireturn, 1) := by decide +kernel
set_option maxRecDepth 65536 in
set_option maxHeartbeats 40000000 in
theorem con_isl (l : Launch) (Z : State) (a0 : Array Value) (hw : ∀ d ∈ tables_1, d.before a0 Z = true) (x : Addr) (cs : List Int32) (h0 : Heap) (O0 : Ext Z.heap h0) (S_x : Sg Z h0 x cs) (hcm : Cpt Z) :
    Con l Z consts_1 false (⟨"java/lang/String", "isLatin1", "()Z"⟩ : MethodName) jdk_42_method_154_code 1 (some .boolean) [] ({ frames := 0, cells := 0, slots := 0, locals := 0 } : Room) #[(.ref x)] [] h0 (fun v h => v = some (.int 1) ∧ h = h0) := by
  refine Con.intro (Ls := #[.val (.ref x)]) (plainFor_of_name pn0) (own_EL hw) O0 (fun m => by first | (simp [entryFrame, mkF, argsToLocals, Value.category]; done) | rfl) (fun p e s m below meth cc_ T w sf_ => ?_)
  have E0 := ext_refl h0
  obtain ⟨z_, hz_, SC_⟩ := id hcm
  obtain ⟨t_, F_v, F_c, A_t⟩ := S_x.ar
  refine g_getS w e2_0 (q := 3) rfl (Hw hw 50 rfl) Via.refl SC_ (fun T w => ?_)
  refine g_ifN w e2_3 (q := 6) rfl (Jvm.Free.XT.i0_eq_f hz_) ?_
  refine g_aloadN w e2_6 (q := 7) rfl rfl rfl ?_
  refine g_getF w e2_7 (q := 10) rfl (host := "") (Or.inl (Hw hw 30 rfl)) Via.refl F_c (fun T w => ?_)
  refine g_ifN w e2_10 (q := 13) rfl (by decide) ?_
  refine g_iconst w e2_13 (q := 14) rfl (v := (1 : Int32)) (by decide) ?_
  refine g_goto w e2_14 (by decide) (q := 18) (by decide) ?_
  exact g_retn w e2_18 rfl (by simp) rfl (by decide) (by decide) ⟨rfl, rfl⟩
theorem e3_0 : decode jdk_43_method_4_code 0 = .ok (.iload_n 0, 1) := by decide +kernel
theorem e3_1 : decode jdk_43_method_4_code 1 = .ok (.ifCond .lt 14, 3) := by decide +kernel
theorem e3_4 : decode jdk_43_method_4_code 4 = .ok (.iload_n 0, 1) := by decide +kernel
theorem e3_5 : decode jdk_43_method_4_code 5 = .ok (.sipush 255, 3) := by decide +kernel
theorem e3_8 : decode jdk_43_method_4_code 8 = .ok (.if_icmp .gt 7, 3) := by decide +kernel
theorem e3_11 : decode jdk_43_method_4_code 11 = .ok (.iconst 1, 1) := by decide +kernel
theorem e3_12 : decode jdk_43_method_4_code 12 = .ok (.goto 4, 3) := by decide +kernel
theorem e3_15 : decode jdk_43_method_4_code 15 = .ok (.iconst 0, 1) := by decide +kernel
theorem e3_16 : decode jdk_43_method_4_code 16 = .ok (.ireturn, 1) := by decide +kernel
theorem pn1 : plainName "java/lang/StringLatin1" = true := by first | (simp [plainName, overriddenIn]; done) | decide +kernel
set_option maxRecDepth 65536 in
set_option maxHeartbeats 40000000 in
theorem con_canI (l : Launch) (Z : State) (a0 : Array Value) (hw : ∀ d ∈ tables_1, d.before a0 Z = true) (c : Int32) (h0 : Heap) (O0 : Ext Z.heap h0) (hc : Lt8 c) :
    Con l Z consts_1 false (⟨"java/lang/StringLatin1", "canEncode", "(I)Z"⟩ : MethodName) jdk_43_method_4_code 1 (some .boolean) [] ({ frames := 0, cells := 0, slots := 0, locals := 0 } : Room) #[(.int c)] [] h0 (fun v h => v = some (.int 1) ∧ h = h0) := by
  refine Con.intro (Ls := #[.val (.int c)]) (plainFor_of_name pn1) (own_EL hw) O0 (fun m => by first | (simp [entryFrame, mkF, argsToLocals, Value.category]; done) | rfl) (fun p e s m below meth cc_ T w sf_ => ?_)
  have E0 := ext_refl h0
  refine g_iloadN w e3_0 (q := 1) rfl rfl ?_
  refine g_ifN w e3_1 (q := 4) rfl (Jvm.Free.XT.i0_lt_f hc.1) ?_
  refine g_iloadN w e3_4 (q := 5) rfl rfl ?_
  refine g_sipush w e3_5 (q := 8) rfl (v := (255 : Int32)) (by decide) ?_
  refine g_icN w e3_8 (q := 11) rfl (Jvm.Free.XT.ii_gt_f hc.2) ?_
  refine g_iconst w e3_11 (q := 12) rfl (v := (1 : Int32)) (by decide) ?_
  refine g_goto w e3_12 (by decide) (q := 16) (by decide) ?_
  exact g_retn w e3_16 rfl (by simp) rfl (by decide) (by decide) ⟨rfl, rfl⟩
theorem e4_0 : decode jdk_29_method_65_code 0 = .ok (.iload_n 0, 1) := by decide +kernel
theorem e4_1 : decode jdk_29_method_65_code 1 = .ok (.iload_n 1, 1) := by decide +kernel
theorem e4_2 : decode jdk_29_method_65_code 2 = .ok (.if_icmp .lt 7, 3) := by decide +kernel
theorem e4_5 : decode jdk_29_method_65_code 5 = .ok (.iload_n 0, 1) := by decide +kernel
theorem e4_6 : decode jdk_29_method_65_code 6 = .ok (.goto 4, 3) := by decide +kernel
theorem e4_9 : decode jdk_29_method_65_code 9 = .ok (.iload_n 1, 1) := by decide +kernel
theorem e4_10 : decode jdk_29_method_65_code 10 = .ok (.ireturn, 1) := by decide +kernel
set_option maxRecDepth 65536 in
set_option maxHeartbeats 40000000 in
theorem con_max (l : Launch) (Z : State) (a0 : Array Value) (hw : ∀ d ∈ tables_1, d.before a0 Z = true) (a b : Int32) (h0 : Heap) (O0 : Ext Z.heap h0) :
    Con l Z consts_1 false (⟨"java/lang/Math", "max", "(II)I"⟩ : MethodName) jdk_29_method_65_code 2 (some .int) [] ({ frames := 0, cells := 0, slots := 0, locals := 0 } : Room) #[(.int a), (.int b)] [] h0 (fun v h => v = some (.int (if a < b then b else a)) ∧ h = h0) := by
  refine Con.intro (Ls := #[.val (.int a), .val (.int b)]) (Jvm.Free.JP.mathPlain rfl (by decide +kernel)) (own_EL hw) O0 (fun m => by first | (simp [entryFrame, mkF, argsToLocals, Value.category]; done) | rfl) (fun p e s m below meth cc_ T w sf_ => ?_)
  have E0 := ext_refl h0
  refine g_iloadN w e4_0 (q := 1) rfl rfl ?_
  refine g_iloadN w e4_1 (q := 2) rfl rfl ?_
  refine g_ic_lt w e4_2 (by decide) (q := 9) (by decide) (q' := 5) rfl (fun cd1 => ?_) (fun cd1 => ?_)
  · refine g_iloadN w e4_9 (q := 10) rfl rfl ?_
    exact g_reti w e4_10 rfl (by decide) (by decide) ⟨by rw [if_pos cd1], rfl⟩
  · refine g_iloadN w e4_5 (q := 6) rfl rfl ?_
    refine g_goto w e4_6 (by decide) (q := 10) (by decide) ?_
    exact g_reti w e4_10 rfl (by decide) (by decide) ⟨by rw [if_neg cd1], rfl⟩
theorem e5_0 : decode jdk_29_method_69_code 0 = .ok (.iload_n 0, 1) := by decide +kernel
theorem e5_1 : decode jdk_29_method_69_code 1 = .ok (.iload_n 1, 1) := by decide +kernel
theorem e5_2 : decode jdk_29_method_69_code 2 = .ok (.if_icmp .gt 7, 3) := by decide +kernel
theorem e5_5 : decode jdk_29_method_69_code 5 = .ok (.iload_n 0, 1) := by decide +kernel
theorem e5_6 : decode jdk_29_method_69_code 6 = .ok (.goto 4, 3) := by decide +kernel
theorem e5_9 : decode jdk_29_method_69_code 9 = .ok (.iload_n 1, 1) := by decide +kernel
theorem e5_10 : decode jdk_29_method_69_code 10 = .ok (.ireturn, 1) := by decide +kernel
set_option maxRecDepth 65536 in
set_option maxHeartbeats 40000000 in
theorem con_min (l : Launch) (Z : State) (a0 : Array Value) (hw : ∀ d ∈ tables_1, d.before a0 Z = true) (a b : Int32) (h0 : Heap) (O0 : Ext Z.heap h0) :
    Con l Z consts_1 false (⟨"java/lang/Math", "min", "(II)I"⟩ : MethodName) jdk_29_method_69_code 2 (some .int) [] ({ frames := 0, cells := 0, slots := 0, locals := 0 } : Room) #[(.int a), (.int b)] [] h0 (fun v h => v = some (.int (if b < a then b else a)) ∧ h = h0) := by
  refine Con.intro (Ls := #[.val (.int a), .val (.int b)]) (Jvm.Free.JP.mathPlain rfl (by decide +kernel)) (own_EL hw) O0 (fun m => by first | (simp [entryFrame, mkF, argsToLocals, Value.category]; done) | rfl) (fun p e s m below meth cc_ T w sf_ => ?_)
  have E0 := ext_refl h0
  refine g_iloadN w e5_0 (q := 1) rfl rfl ?_
  refine g_iloadN w e5_1 (q := 2) rfl rfl ?_
  refine g_ic_gt w e5_2 (by decide) (q := 9) (by decide) (q' := 5) rfl (fun cd1 => ?_) (fun cd1 => ?_)
  · refine g_iloadN w e5_9 (q := 10) rfl rfl ?_
    exact g_reti w e5_10 rfl (by decide) (by decide) ⟨by rw [if_pos cd1], rfl⟩
  · refine g_iloadN w e5_5 (q := 6) rfl rfl ?_
    refine g_goto w e5_6 (by decide) (q := 10) (by decide) ?_
    exact g_reti w e5_10 rfl (by decide) (by decide) ⟨by rw [if_neg cd1], rfl⟩
theorem e6_0 : decode jdk_43_method_23_code 0 = .ok (.iload_n 1, 1) := by decide +kernel
theorem e6_1 : decode jdk_43_method_23_code 1 = .ok (.i2b, 1) := by decide +kernel
theorem e6_2 : decode jdk_43_method_23_code 2 = .ok (.istore 4, 2) := by decide +kernel
theorem e6_4 : decode jdk_43_method_23_code 4 = .ok (.iload_n 2, 1) := by decide +kernel
theorem e6_5 : decode jdk_43_method_23_code 5 = .ok (.istore 5, 2) := by decide +kernel
theorem e6_7 : decode jdk_43_method_23_code 7 = .ok (.iload 5, 2) := by decide +kernel
theorem e6_9 : decode jdk_43_method_23_code 9 = .ok (.iload_n 3, 1) := by decide +kernel
theorem e6_10 : decode jdk_43_method_23_code 10 = .ok (.if_icmp .ge 21, 3) := by decide +kernel
theorem e6_13 : decode jdk_43_method_23_code 13 = .ok (.aload_n 0, 1) := by decide +kernel
theorem e6_14 : decode jdk_43_method_23_code 14 = .ok (.iload 5, 2) := by decide +kernel
theorem e6_16 : decode jdk_43_method_23_code 16 = .ok (.baload, 1) := by decide +kernel
theorem e6_17 : decode jdk_43_method_23_code 17 = .ok (.iload 4, 2) := by decide +kernel
theorem e6_19 : decode jdk_43_method_23_code 19 = .ok (.if_icmp .ne 6, 3) := by decide +kernel
theorem e6_22 : decode jdk_43_method_23_code 22 = .ok (.iload 5, 2) := by decide +kernel
theorem e6_24 : decode jdk_43_method_23_code 24 = .ok (.ireturn, 1) := by decide +kernel
theorem e6_25 : decode jdk_43_method_23_code 25 = .ok (.iinc 5 1, 3) := by decide +kernel
theorem e6_28 : decode jdk_43_method_23_code 28 = .ok (.goto (-21), 3) := by decide +kernel
theorem e6_31 : decode jdk_43_method_23_code 31 = .ok (.iconst (-1), 1) := by decide +kernel
theorem e6_32 : decode jdk_43_method_23_code 32 = .ok (.ireturn, 1) := by decide +kernel
set_option maxRecDepth 65536 in
set_option maxHeartbeats 40000000 in
theorem con_ixc (l : Launch) (Z : State) (a0 : Array Value) (hw : ∀ d ∈ tables_1, d.before a0 Z = true) (t : Addr) (c : Int32) (cs : List Int32) (h0 : Heap) (O0 : Ext Z.heap h0) (A_t : Ar Z h0 t .byte ((cs.map fun c => c.toInt8.toInt32).map Value.int)) (hl : ∀ c ∈ cs, Lt8 c) (hn : cs.length ≤ 4000) (hc : Lt8 c) :
    Con l Z consts_1 false (⟨"java/lang/StringLatin1", "indexOfChar", "([BIII)I"⟩ : MethodName) jdk_43_method_23_code 6 (some .int) [] ({ frames := 0, cells := 0, slots := 0, locals := 0 } : Room) #[(.ref t), (.int c), (.int (0 : Int32)), (.int (Int32.ofNat cs.length))] [] h0 (fun v h => v = some (.int (fix c cs 0)) ∧ h = h0) := by
  refine Con.intro (Ls := #[.val (.ref t), .val (.int c), .val (.int (0 : Int32)), .val (.int (Int32.ofNat cs.length)), .unset, .unset]) (plainFor_of_name pn1) (own_EL hw) O0 (fun m => by first | (simp [entryFrame, mkF, argsToLocals, Value.category]; done) | rfl) (fun p e s m below meth cc_ T w sf_ => ?_)
  have E0 := ext_refl h0
  refine g_iloadN w e6_0 (q := 1) rfl rfl ?_
  refine g_i2b w e6_1 (q := 2) rfl ?_
  refine g_istore w e6_2 (q := 4) rfl (Ls' := #[.val (.ref t), .val (.int c), .val (.int (0 : Int32)), .val (.int (Int32.ofNat cs.length)), .val (.int c.toInt8.toInt32), .unset]) rfl ?_
  refine g_iloadN w e6_4 (q := 5) rfl rfl ?_
  refine g_istore w e6_5 (q := 7) rfl (Ls' := #[.val (.ref t), .val (.int c), .val (.int (0 : Int32)), .val (.int (Int32.ofNat cs.length)), .val (.int c.toInt8.toInt32), .val (.int (0 : Int32))]) rfl ?_
  have LP : ∀ (r : Nat) (i : Nat) (T : State) (vm : Vm), (i + r = cs.length) → (fix c cs 0 = fix c (cs.drop i) i) → Wk p l e ({ frames := 0, cells := 0, slots := 0, locals := 0 } : Room) s m #[(.ref t), (.int c), (.int (0 : Int32)), (.int (Int32.ofNat cs.length))] below meth cc_ Z a0 consts_1 false (⟨"java/lang/StringLatin1", "indexOfChar", "([BIII)I"⟩ : MethodName) jdk_43_method_23_code 6 (some .int) T vm h0 0 0 → Go p e below (Fini Z consts_1 false ({ frames := 0, cells := 0, slots := 0, locals := 0 } : Room).cells ({ frames := 0, cells := 0, slots := 0, locals := 0 } : Room).slots (fun v h => v = some (.int (fix c cs 0)) ∧ h = h0) s) (State.setTop T (mkF m 7 #[.val (.ref t), .val (.int c), .val (.int (0 : Int32)), .val (.int (Int32.ofNat cs.length)), .val (.int c.toInt8.toInt32), .val (.int (Int32.ofNat i))] [])) := by
    intro r
    induction r with
    | zero =>
      intro i T vm hi hf  w
      refine g_iload w e6_7 (q := 9) rfl rfl ?_
      refine g_iloadN w e6_9 (q := 10) rfl rfl ?_
      refine g_icY w e6_10 (by decide) (q := 31) (by decide) (Jvm.Free.XT.ii_ge_t (not_lt_ofNat (by omega) (by omega))) ?_
      refine g_iconst w e6_31 (q := 32) rfl (v := (-1 : Int32)) (by decide) ?_
      exact g_reti w e6_32 rfl (by decide) (by decide) ⟨by rw [hf, fix_end hi], rfl⟩
    | succ r ih =>
      intro i T vm hi hf  w
      refine g_iload w e6_7 (q := 9) rfl rfl ?_
      refine g_iloadN w e6_9 (q := 10) rfl rfl ?_
      refine g_icN w e6_10 (q := 13) rfl (Jvm.Free.XT.ii_ge_f (lt_ofNat (by omega) hn)) ?_
      refine g_aloadN w e6_13 (q := 14) rfl rfl rfl ?_
      refine g_iload w e6_14 (q := 16) rfl rfl ?_
      refine g_baload w e6_16 (q := 17) rfl A_t (i := i) rfl (by simp; omega) (lat_at (by omega)) ?_
      refine g_iload w e6_17 (q := 19) rfl rfl ?_
      refine g_ic_ne w e6_19 (by decide) (q := 25) (by decide) (q' := 22) rfl (fun cd1 => ?_) (fun cd1 => ?_)
      · refine g_iinc w e6_25 (q := 28) rfl (v := (1 : Int32)) (by decide) rfl rfl ?_
        rw [ofNat_succ]
        show Go p e below _ (State.setTop T (mkF m 28 #[.val (.ref t), .val (.int c), .val (.int (0 : Int32)), .val (.int (Int32.ofNat cs.length)), .val (.int c.toInt8.toInt32), .val (.int (Int32.ofNat (i + 1)))] []))
        refine g_goto w e6_28 (by decide) (q := 7) (by decide) ?_
        exact ih (i + 1) T _ (by omega) (by rw [hf, fix_next (by omega) (fun e => cd1 (by rw [e]))]) w
      · refine g_iload w e6_22 (q := 24) rfl rfl ?_
        exact g_reti w e6_24 rfl (by decide) (by decide) ⟨by rw [hf, fix_here (by omega) (lo8_inj (lat_all hl (by omega)) hc cd1)], rfl⟩
  exact LP cs.length 0 T _ (by omega) rfl w
theorem e7_0 : decode jdk_43_method_22_code 0 = .ok (.iload_n 1, 1) := by decide +kernel
theorem e7_1 : decode jdk_43_method_22_code 1 = .ok (.invokestatic 88, 3) := by decide +kernel
theorem e7_4 : decode jdk_43_method_22_code 4 = .ok (.ifCond .ne 5, 3) := by decide +kernel
theorem e7_7 : decode jdk_43_method_22_code 7 = .ok (.iconst (-1), 1) := by decide +kernel
theorem e7_8 : decode jdk_43_method_22_code 8 = .ok (.ireturn, 1) := by decide +kernel
theorem e7_9 : decode jdk_43_method_22_code 9 = .ok (.iload_n 2, 1) := by decide +kernel
theorem e7_10 : decode jdk_43_method_22_code 10 = .ok (.iconst 0, 1) := by decide +kernel
theorem e7_11 : decode jdk_43_method_22_code 11 = .ok (.invokestatic 92, 3) := by decide +kernel
theorem e7_14 : decode jdk_43_method_22_code 14 = .ok (.istore_n 2, 1) := by decide +kernel
theorem e7_15 : decode jdk_43_method_22_code 15 = .ok (.iload_n 3, 1) := by decide +kernel
theorem e7_16 : decode jdk_43_method_22_code 16 = .ok (.aload_n 0, 1) := by decide +kernel
theorem e7_17 : decode jdk_43_method_22_code 17 = .ok (.arraylength, 1) := by decide +kernel
theorem e7_18 : decode jdk_43_method_22_code 18 = .ok (.invokestatic 38, 3) := by decide +kernel
theorem e7_21 : decode jdk_43_method_22_code 21 = .ok (.istore_n 3, 1) := by decide +kernel
theorem e7_22 : decode jdk_43_method_22_code 22 = .ok (.iload_n 2, 1) := by decide +kernel
theorem e7_23 : decode jdk_43_method_22_code 23 = .ok (.iload_n 3, 1) := by decide +kernel
theorem e7_24 : decode jdk_43_method_22_code 24 = .ok (.if_icmp .lt 5, 3) := by decide +kernel
theorem e7_27 : decode jdk_43_method_22_code 27 = .ok (.iconst (-1), 1) := by decide +kernel
theorem e7_28 : decode jdk_43_method_22_code 28 = .ok (.ireturn, 1) := by decide +kernel
theorem e7_29 : decode jdk_43_method_22_code 29 = .ok (.aload_n 0, 1) := by decide +kernel
theorem e7_30 : decode jdk_43_method_22_code 30 = .ok (.iload_n 1, 1) := by decide +kernel
theorem e7_31 : decode jdk_43_method_22_code 31 = .ok (.iload_n 2, 1) := by decide +kernel
theorem e7_32 : decode jdk_43_method_22_code 32 = .ok (.iload_n 3, 1) := by decide +kernel
theorem e7_33 : decode jdk_43_method_22_code 33 = .ok (.invokestatic 95, 3) := by decide +kernel
theorem e7_36 : decode jdk_43_method_22_code 36 = .ok (.ireturn, 1) := by decide +kernel
theorem pd1 : parseMethodDescriptor "(I)Z" = some ⟨[.int], some .boolean⟩ := by decide +kernel
theorem pd2 : parseMethodDescriptor "(II)I" = some ⟨[.int, .int], some .int⟩ := by decide +kernel
theorem pd3 : parseMethodDescriptor "([BIII)I" = some ⟨[(.array .byte), .int, .int, .int], some .int⟩ := by decide +kernel
set_option maxRecDepth 65536 in
set_option maxHeartbeats 40000000 in
theorem con_ix4 (l : Launch) (Z : State) (a0 : Array Value) (hw : ∀ d ∈ tables_1, d.before a0 Z = true) (t : Addr) (c : Int32) (cs : List Int32) (h0 : Heap) (O0 : Ext Z.heap h0) (A_t : Ar Z h0 t .byte ((cs.map fun c => c.toInt8.toInt32).map Value.int)) (hl : ∀ c ∈ cs, Lt8 c) (hn : cs.length ≤ 4000) (hc : Lt8 c) :
    Con l Z consts_1 false (⟨"java/lang/StringLatin1", "indexOf", "([BIII)I"⟩ : MethodName) jdk_43_method_22_code 4 (some .int) [] ({ frames := 1, cells := 0, slots := 0, locals := 17 } : Room) #[(.ref t), (.int c), (.int (0 : Int32)), (.int (Int32.ofNat cs.length))] [] h0 (fun v h => v = some (.int (fix c cs 0)) ∧ h = h0) := by
  refine Con.intro (Ls := #[.val (.ref t), .val (.int c), .val (.int (0 : Int32)), .val (.int (Int32.ofNat cs.length))]) (plainFor_of_name pn1) (own_EL hw) O0 (fun m => by first | (simp [entryFrame, mkF, argsToLocals, Value.category]; done) | rfl) (fun p e s m below meth cc_ T w sf_ => ?_)
  have E0 := ext_refl h0
  refine g_iloadN w e7_0 (q := 1) rfl rfl ?_
  refine g_staticP w (con_canI l Z a0 hw c _ w.old hc) no0 e7_1 (q := 4) rfl rfl (Hw hw 65 rfl) (Hw hw 66 rfl) (Hw hw 63 rfl) (Hw hw 67 rfl) (by decide) pd1 rfl rfl (W := 0) (Nat.le_of_eq rfl) (by decide) (by decide) (by decide) (by decide) (fun T v w C q => ?_)
  obtain rfl := q
  show Go p e below _ (State.setTop T (mkF m 4 #[.val (.ref t), .val (.int c), .val (.int (0 : Int32)), .val (.int (Int32.ofNat cs.length))] [(.int (1 : Int32))]))
  refine g_ifY w e7_4 (by decide) (q := 9) (by decide) (by decide) ?_
  refine g_iloadN w e7_9 (q := 10) rfl rfl ?_
  refine g_iconst w e7_10 (q := 11) rfl (v := (0 : Int32)) (by decide) ?_
  refine g_staticP w (con_max l Z a0 hw (0 : Int32) (0 : Int32) _ w.old) no0 e7_11 (q := 14) rfl rfl (Hw hw 68 rfl) (Hw hw 69 rfl) (Hw hw 70 rfl) (Hw hw 71 rfl) (by decide) pd2 rfl rfl (W := 0) (Nat.le_of_eq rfl) (by decide) (by decide) (by decide) (by decide) (fun T v w C q => ?_)
  rw [ite_self] at q
  obtain rfl := q
  show Go p e below _ (State.setTop T (mkF m 14 #[.val (.ref t), .val (.int c), .val (.int (0 : Int32)), .val (.int (Int32.ofNat cs.length))] [(.int (0 : Int32))]))
  refine g_istoreN w e7_14 (q := 15) rfl (Ls' := #[.val (.ref t), .val (.int c), .val (.int (0 : Int32)), .val (.int (Int32.ofNat cs.length))]) rfl ?_
  refine g_iloadN w e7_15 (q := 16) rfl rfl ?_
  refine g_aloadN w e7_16 (q := 17) rfl rfl rfl ?_
  refine g_alen w e7_17 (q := 18) rfl A_t ?_
  rw [List.length_map, List.length_map]
  show Go p e below _ (State.setTop T (mkF m 18 #[.val (.ref t), .val (.int c), .val (.int (0 : Int32)), .val (.int (Int32.ofNat cs.length))] [(.int (Int32.ofNat cs.length)), (.int (Int32.ofNat cs.length))]))
  refine g_staticP w (con_min l Z a0 hw (Int32.ofNat cs.length) (Int32.ofNat cs.length) _ w.old) no0 e7_18 (q := 21) rfl rfl (Hw hw 72 rfl) (Hw hw 73 rfl) (Hw hw 70 rfl) (Hw hw 74 rfl) (by decide) pd2 rfl rfl (W := 0) (Nat.le_of_eq rfl) (by decide) (by decide) (by decide) (by decide) (fun T v w C q => ?_)
  rw [ite_self] at q
  obtain rfl := q
  show Go p e below _ (State.setTop T (mkF m 21 #[.val (.ref t), .val (.int c), .val (.int (0 : Int32)), .val (.int (Int32.ofNat cs.length))] [(.int (Int32.ofNat cs.length))]))
  refine g_istoreN w e7_21 (q := 22) rfl (Ls' := #[.val (.ref t), .val (.int c), .val (.int (0 : Int32)), .val (.int (Int32.ofNat cs.length))]) rfl ?_
  refine g_iloadN w e7_22 (q := 23) rfl rfl ?_
  refine g_iloadN w e7_23 (q := 24) rfl rfl ?_
  refine g_ic_lt w e7_24 (by decide) (q := 29) (by decide) (q' := 27) rfl (fun cd2 => ?_) (fun cd2 => ?_)
  · refine g_aloadN w e7_29 (q := 30) rfl rfl rfl ?_
    refine g_iloadN w e7_30 (q := 31) rfl rfl ?_
    refine g_iloadN w e7_31 (q := 32) rfl rfl ?_
    refine g_iloadN w e7_32 (q := 33) rfl rfl ?_
    refine g_staticP w (con_ixc l Z a0 hw t c cs _ w.old A_t hl hn hc) no0 e7_33 (q := 36) rfl rfl (Hw hw 105 rfl) (Hw hw 106 rfl) (Hw hw 63 rfl) (Hw hw 107 rfl) (by decide) pd3 rfl rfl (W := 0) (Nat.le_of_eq rfl) (by decide) (by decide) (by decide) (by decide) (fun T v w C q => ?_)
    obtain rfl := q
    show Go p e below _ (State.setTop T (mkF m 36 #[.val (.ref t), .val (.int c), .val (.int (0 : Int32)), .val (.int (Int32.ofNat cs.length))] [(.int (fix c cs 0))]))
    exact g_reti w e7_36 rfl (by decide) (by decide) ⟨rfl, rfl⟩
  · refine g_iconst w e7_27 (q := 28) rfl (v := (-1 : Int32)) (by decide) ?_
    exact g_reti w e7_28 rfl (by decide) (by decide) ⟨by rw [fix_none cd2 hn], rfl⟩
theorem e8_0 : decode jdk_42_method_80_code 0 = .ok (.aload_n 0, 1) := by decide +kernel
theorem e8_1 : decode jdk_42_method_80_code 1 = .ok (.invokevirtual 492, 3) := by decide +kernel
theorem e8_4 : decode jdk_42_method_80_code 4 = .ok (.ifCond .eq 19, 3) := by decide +kernel
theorem e8_7 : decode jdk_42_method_80_code 7 = .ok (.aload_n 0, 1) := by decide +kernel
theorem e8_8 : decode jdk_42_method_80_code 8 = .ok (.getfield 9, 3) := by decide +kernel
theorem e8_11 : decode jdk_42_method_80_code 11 = .ok (.iload_n 1, 1) := by decide +kernel
theorem e8_12 : decode jdk_42_method_80_code 12 = .ok (.iload_n 2, 1) := by decide +kernel
theorem e8_13 : decode jdk_42_method_80_code 13 = .ok (.aload_n 0, 1) := by decide +kernel
theorem e8_14 : decode jdk_42_method_80_code 14 = .ok (.invokevirtual 505, 3) := by decide +kernel
theorem e8_17 : decode jdk_42_method_80_code 17 = .ok (.invokestatic 637, 3) := by decide +kernel
theorem e8_20 : decode jdk_42_method_80_code 20 = .ok (.goto 16, 3) := by decide +kernel
theorem e8_23 : decode jdk_42_method_80_code 23 = .ok (.aload_n 0, 1) := by decide +kernel
theorem e8_24 : decode jdk_42_method_80_code 24 = .ok (.getfield 9, 3) := by decide +kernel
theorem e8_27 : decode jdk_42_method_80_code 27 = .ok (.iload_n 1, 1) := by decide +kernel
theorem e8_28 : decode jdk_42_method_80_code 28 = .ok (.iload_n 2, 1) := by decide +kernel
theorem e8_29 : decode jdk_42_method_80_code 29 = .ok (.aload_n 0, 1) := by decide +kernel
theorem e8_30 : decode jdk_42_method_80_code 30 = .ok (.invokevirtual 505, 3) := by decide +kernel
theorem e8_33 : decode jdk_42_method_80_code 33 = .ok (.invokestatic 640, 3) := by decide +kernel
theorem e8_36 : decode jdk_42_method_80_code 36 = .ok (.ireturn, 1) := by decide +kernel
theorem pd4 : parseMethodDescriptor "()Z" = some ⟨[], some .boolean⟩ := by decide +kernel
theorem pd5 : parseMethodDescriptor "()I" = some ⟨[], some .int⟩ := by decide +kernel
set_option maxRecDepth 65536 in
set_option maxHeartbeats 40000000 in
theorem con_ix2 (l : Launch) (Z : State) (a0 : Array Value) (hw : ∀ d ∈ tables_1, d.before a0 Z = true) (x : Addr) (c : Int32) (cs : List Int32) (h0 : Heap) (O0 : Ext Z.heap h0) (S_x : Sg Z h0 x cs) (hcm : Cpt Z) (hc : Lt8 c) :
    Con l Z consts_1 false (⟨"java/lang/String", "indexOf", "(II)I"⟩ : MethodName) jdk_42_method_80_code 3 (some .int) [] ({ frames := 2, cells := 0, slots := 0, locals := 32 } : Room) #[(.ref x), (.int c), (.int (0 : Int32))] [] h0 (fun v h => v = some (.int (fix c cs 0)) ∧ h = h0) := by
  refine Con.intro (Ls := #[.val (.ref x), .val (.int c), .val (.int (0 : Int32))]) (plainFor_of_name pn0) (own_EL hw) O0 (fun m => by first | (simp [entryFrame, mkF, argsToLocals, Value.category]; done) | rfl) (fun p e s m below meth cc_ T w sf_ => ?_)
  have E0 := ext_refl h0
  obtain ⟨z_, hz_, SC_⟩ := id hcm
  obtain ⟨t_, F_v, F_c, A_t⟩ := S_x.ar
  refine g_aloadN w e8_0 (q := 1) rfl rfl rfl ?_
  refine g_virtualP w (con_isl l Z a0 hw x _ _ w.old S_x hcm) no0 S_x.exa e8_1 (q := 4) rfl rfl (Hw hw 45 rfl) (Hw hw 46 rfl) (Hw hw 48 rfl) (Hw hw 47 rfl) (Hw hw 11 rfl) (Hw hw 49 rfl) (by decide) (nf (Hw hw 48 rfl)) pd4 rfl rfl (W := 0) (Nat.le_of_eq rfl) (by decide) (by decide) (by decide) (by decide) (fun T v w C q => ?_)
  obtain rfl := q
  show Go p e below _ (State.setTop T (mkF m 4 #[.val (.ref x), .val (.int c), .val (.int (0 : Int32))] [(.int (1 : Int32))]))
  refine g_ifN w e8_4 (q := 7) rfl (by decide) ?_
  refine g_aloadN w e8_7 (q := 8) rfl rfl rfl ?_
  refine g_getF w e8_8 (q := 11) rfl (host := "") (Or.inl (Hw hw 29 rfl)) Via.refl F_v (fun T w => ?_)
  refine g_iloadN w e8_11 (q := 12) rfl rfl ?_
  refine g_iloadN w e8_12 (q := 13) rfl rfl ?_
  refine g_aloadN w e8_13 (q := 14) rfl rfl rfl ?_
  refine g_virtualB w (a := x) (argsL := []) (own_lenB hw S_x (w.sta SC_) hz_ (by decide) (by decide)) S_x.exa e8_14 (q := 17) rfl rfl (Hw hw 51 rfl) (Hw hw 52 rfl) (Hw hw 54 rfl) (Hw hw 53 rfl) (by decide) (nf (Hw hw 54 rfl)) pd5 rfl rfl (W := 3) (Nat.le_of_eq rfl) (by decide) (by decide) (fun T v w hq => ?_)
  obtain rfl := hq
  show Go p e below _ (State.setTop T (mkF m 17 #[.val (.ref x), .val (.int c), .val (.int (0 : Int32))] [(.int (Int32.ofNat (cs).length)), (.int (0 : Int32)), (.int c), (.ref t_)]))
  refine g_staticP w (con_ix4 l Z a0 hw t_ c cs _ w.old A_t S_x.2.1 S_x.1 hc) no0 e8_17 (q := 20) rfl rfl (Hw hw 61 rfl) (Hw hw 62 rfl) (Hw hw 63 rfl) (Hw hw 64 rfl) (by decide) pd3 rfl rfl (W := 0) (Nat.le_of_eq rfl) (by decide) (by decide) (by decide) (by decide) (fun T v w C q => ?_)
  obtain rfl := q
  show Go p e below _ (State.setTop T (mkF m 20 #[.val (.ref x), .val (.int c), .val (.int (0 : Int32))] [(.int (fix c cs 0))]))
  refine g_goto w e8_20 (by decide) (q := 36) (by decide) ?_
  exact g_reti w e8_36 rfl (by decide) (by decide) ⟨rfl, rfl⟩
theorem e9_0 : decode jdk_42_method_79_code 0 = .ok (.aload_n 0, 1) := by decide +kernel
theorem e9_1 : decode jdk_42_method_79_code 1 = .ok (.iload_n 1, 1) := by decide +kernel
theorem e9_2 : decode jdk_42_method_79_code 2 = .ok (.iconst 0, 1) := by decide +kernel
theorem e9_3 : decode jdk_42_method_79_code 3 = .ok (.invokevirtual 633, 3) := by decide +kernel
theorem e9_6 : decode jdk_42_method_79_code 6 = .ok (.ireturn, 1) := by decide +kernel
set_option maxRecDepth 65536 in
set_option maxHeartbeats 40000000 in
theorem con_ix1 (l : Launch) (Z : State) (a0 : Array Value) (hw : ∀ d ∈ tables_1, d.before a0 Z = true) (x : Addr) (c : Int32) (cs : List Int32) (h0 : Heap) (O0 : Ext Z.heap h0) (S_x : Sg Z h0 x cs) (hcm : Cpt Z) (hc : Lt8 c) :
    Con l Z consts_1 false (⟨"java/lang/String", "indexOf", "(I)I"⟩ : MethodName) jdk_42_method_79_code 2 (some .int) [] ({ frames := 3, cells := 0, slots := 0, locals := 46 } : Room) #[(.ref x), (.int c)] [] h0 (fun v h => v = some (.int (fix c cs 0)) ∧ h = h0) := by
  refine Con.intro (Ls := #[.val (.ref x), .val (.int c)]) (plainFor_of_name pn0) (own_EL hw) O0 (fun m => by first | (simp [entryFrame, mkF, argsToLocals, Value.category]; done) | rfl) (fun p e s m below meth cc_ T w sf_ => ?_)
  have E0 := ext_refl h0
  obtain ⟨z_, hz_, SC_⟩ := id hcm
  obtain ⟨t_, F_v, F_c, A_t⟩ := S_x.ar
  refine g_aloadN w e9_0 (q := 1) rfl rfl rfl ?_
  refine g_iloadN w e9_1 (q := 2) rfl rfl ?_
  refine g_iconst w e9_2 (q := 3) rfl (v := (0 : Int32)) (by decide) ?_
  refine g_virtualP w (con_ix2 l Z a0 hw x c _ _ w.old S_x hcm hc) no0 S_x.exa e9_3 (q := 6) rfl rfl (Hw hw 40 rfl) (Hw hw 41 rfl) (Hw hw 43 rfl) (Hw hw 42 rfl) (Hw hw 11 rfl) (Hw hw 44 rfl) (by decide) (nf (Hw hw 43 rfl)) pd2 rfl rfl (W := 0) (Nat.le_of_eq rfl) (by decide) (by decide) (by decide) (by decide) (fun T v w C q => ?_)
  obtain rfl := q
  show Go p e below _ (State.setTop T (mkF m 6 #[.val (.ref x), .val (.int c)] [(.int (fix c cs 0))]))
  exact g_reti w e9_6 rfl (by decide) (by decide) ⟨rfl, rfl⟩
theorem e10_0 : decode jdk_43_method_27_code 0 = .ok (.iload_n 1, 1) := by decide +kernel
theorem e10_1 : decode jdk_43_method_27_code 1 = .ok (.invokestatic 88, 3) := by decide +kernel
theorem e10_4 : decode jdk_43_method_27_code 4 = .ok (.ifCond .ne 5, 3) := by decide +kernel
theorem e10_7 : decode jdk_43_method_27_code 7 = .ok (.iconst (-1), 1) := by decide +kernel
theorem e10_8 : decode jdk_43_method_27_code 8 = .ok (.ireturn, 1) := by decide +kernel
theorem e10_9 : decode jdk_43_method_27_code 9 = .ok (.iload_n 2, 1) := by decide +kernel
theorem e10_10 : decode jdk_43_method_27_code 10 = .ok (.aload_n 0, 1) := by decide +kernel
theorem e10_11 : decode jdk_43_method_27_code 11 = .ok (.arraylength, 1) := by decide +kernel
theorem e10_12 : decode jdk_43_method_27_code 12 = .ok (.iconst 1, 1) := by decide +kernel
theorem e10_13 : decode jdk_43_method_27_code 13 = .ok (.isub, 1) := by decide +kernel
theorem e10_14 : decode jdk_43_method_27_code 14 = .ok (.invokestatic 38, 3) := by decide +kernel
theorem e10_17 : decode jdk_43_method_27_code 17 = .ok (.istore_n 3, 1) := by decide +kernel
theorem e10_18 : decode jdk_43_method_27_code 18 = .ok (.iload_n 3, 1) := by decide +kernel
theorem e10_19 : decode jdk_43_method_27_code 19 = .ok (.ifCond .lt 19, 3) := by decide +kernel
theorem e10_22 : decode jdk_43_method_27_code 22 = .ok (.aload_n 0, 1) := by decide +kernel
theorem e10_23 : decode jdk_43_method_27_code 23 = .ok (.iload_n 3, 1) := by decide +kernel
theorem e10_24 : decode jdk_43_method_27_code 24 = .ok (.baload, 1) := by decide +kernel
theorem e10_25 : decode jdk_43_method_27_code 25 = .ok (.iload_n 1, 1) := by decide +kernel
theorem e10_26 : decode jdk_43_method_27_code 26 = .ok (.i2b, 1) := by decide +kernel
theorem e10_27 : decode jdk_43_method_27_code 27 = .ok (.if_icmp .ne 5, 3) := by decide +kernel
theorem e10_30 : decode jdk_43_method_27_code 30 = .ok (.iload_n 3, 1) := by decide +kernel
theorem e10_31 : decode jdk_43_method_27_code 31 = .ok (.ireturn, 1) := by decide +kernel
theorem e10_32 : decode jdk_43_method_27_code 32 = .ok (.iinc 3 (-1), 3) := by decide +kernel
theorem e10_35 : decode jdk_43_method_27_code 35 = .ok (.goto (-17), 3) := by decide +kernel
theorem e10_38 : decode jdk_43_method_27_code 38 = .ok (.iconst (-1), 1) := by decide +kernel
theorem e10_39 : decode jdk_43_method_27_code 39 = .ok (.ireturn, 1) := by decide +kernel
set_option maxRecDepth 65536 in
set_option maxHeartbeats 40000000 in
theorem con_li3 (l : Launch) (Z : State) (a0 : Array Value) (hw : ∀ d ∈ tables_1, d.before a0 Z = true) (t : Addr) (c : Int32) (cs : List Int32) (h0 : Heap) (O0 : Ext Z.heap h0) (A_t : Ar Z h0 t .byte ((cs.map fun c => c.toInt8.toInt32).map Value.int)) (hl : ∀ c ∈ cs, Lt8 c) (hn : cs.length ≤ 4000) (hc : Lt8 c) :
    Con l Z consts_1 false (⟨"java/lang/StringLatin1", "lastIndexOf", "([BII)I"⟩ : MethodName) jdk_43_method_27_code 4 (some .int) [] ({ frames := 1, cells := 0, slots := 0, locals := 13 } : Room) #[(.ref t), (.int c), (.int ((Int32.ofNat cs.length) - (1 : Int32)))] [] h0 (fun v h => v = some (.int (lix c cs cs.length)) ∧ h = h0) := by
  refine Con.intro (Ls := #[.val (.ref t), .val (.int c), .val (.int ((Int32.ofNat cs.length) - (1 : Int32))), .unset]) (plainFor_of_name pn1) (own_EL hw) O0 (fun m => by first | (simp [entryFrame, mkF, argsToLocals, Value.category]; done) | rfl) (fun p e s m below meth cc_ T w sf_ => ?_)
  have E0 := ext_refl h0
  refine g_iloadN w e10_0 (q := 1) rfl rfl ?_
  refine g_staticP w (con_canI l Z a0 hw c _ w.old hc) no0 e10_1 (q := 4) rfl rfl (Hw hw 65 rfl) (Hw hw 66 rfl) (Hw hw 63 rfl) (Hw hw 67 rfl) (by decide) pd1 rfl rfl (W := 0) (Nat.le_of_eq rfl) (by decide) (by decide) (by decide) (by decide) (fun T v w C q => ?_)
  obtain rfl := q
  show Go p e below _ (State.setTop T (mkF m 4 #[.val (.ref t), .val (.int c), .val (.int ((Int32.ofNat cs.length) - (1 : Int32))), .unset] [(.int (1 : Int32))]))
  refine g_ifY w e10_4 (by decide) (q := 9) (by decide) (by decide) ?_
  refine g_iloadN w e10_9 (q := 10) rfl rfl ?_
  refine g_aloadN w e10_10 (q := 11) rfl rfl rfl ?_
  refine g_alen w e10_11 (q := 12) rfl A_t ?_
  rw [List.length_map, List.length_map]
  show Go p e below _ (State.setTop T (mkF m 12 #[.val (.ref t), .val (.int c), .val (.int ((Int32.ofNat cs.length) - (1 : Int32))), .unset] [(.int (Int32.ofNat cs.length)), (.int ((Int32.ofNat cs.length) - (1 : Int32)))]))
  refine g_iconst w e10_12 (q := 13) rfl (v := (1 : Int32)) (by decide) ?_
  refine g_isub w e10_13 (q := 14) rfl ?_
  refine g_staticP w (con_min l Z a0 hw ((Int32.ofNat cs.length) - (1 : Int32)) ((Int32.ofNat cs.length) - (1 : Int32)) _ w.old) no0 e10_14 (q := 17) rfl rfl (Hw hw 72 rfl) (Hw hw 73 rfl) (Hw hw 70 rfl) (Hw hw 74 rfl) (by decide) pd2 rfl rfl (W := 0) (Nat.le_of_eq rfl) (by decide) (by decide) (by decide) (by decide) (fun T v w C q => ?_)
  rw [ite_self] at q
  obtain rfl := q
  show Go p e below _ (State.setTop T (mkF m 17 #[.val (.ref t), .val (.int c), .val (.int ((Int32.ofNat cs.length) - (1 : Int32))), .unset] [(.int ((Int32.ofNat cs.length) - (1 : Int32)))]))
  refine g_istoreN w e10_17 (q := 18) rfl (Ls' := #[.val (.ref t), .val (.int c), .val (.int ((Int32.ofNat cs.length) - (1 : Int32))), .val (.int ((Int32.ofNat cs.length) - (1 : Int32)))]) rfl ?_
  have LP : ∀ (r : Nat) (T : State) (vm : Vm), (r ≤ cs.length) → (lix c cs cs.length = lix c cs r) → Wk p l e ({ frames := 1, cells := 0, slots := 0, locals := 13 } : Room) s m #[(.ref t), (.int c), (.int ((Int32.ofNat cs.length) - (1 : Int32)))] below meth cc_ Z a0 consts_1 false (⟨"java/lang/StringLatin1", "lastIndexOf", "([BII)I"⟩ : MethodName) jdk_43_method_27_code 4 (some .int) T vm h0 0 0 → Go p e below (Fini Z consts_1 false ({ frames := 1, cells := 0, slots := 0, locals := 13 } : Room).cells ({ frames := 1, cells := 0, slots := 0, locals := 13 } : Room).slots (fun v h => v = some (.int (lix c cs cs.length)) ∧ h = h0) s) (State.setTop T (mkF m 18 #[.val (.ref t), .val (.int c), .val (.int ((Int32.ofNat cs.length) - (1 : Int32))), .val (.int ((Int32.ofNat r) - (1 : Int32)))] [])) := by
    intro r
    induction r with
    | zero =>
      intro T vm hi hf  w
      refine g_iloadN w e10_18 (q := 19) rfl rfl ?_
      refine g_ifY w e10_19 (by decide) (q := 38) (by decide) (by decide) ?_
      refine g_iconst w e10_38 (q := 39) rfl (v := (-1 : Int32)) (by decide) ?_
      exact g_reti w e10_39 rfl (by decide) (by decide) ⟨by rw [hf]; rfl, rfl⟩
    | succ r ih =>
      intro T vm hi hf  w
      rw [ofNat_pred]
      refine g_iloadN w e10_18 (q := 19) rfl rfl ?_
      refine g_ifN w e10_19 (q := 22) rfl (Jvm.Free.XT.i0_lt_f (ofNat_nonneg (by omega))) ?_
      refine g_aloadN w e10_22 (q := 23) rfl rfl rfl ?_
      refine g_iloadN w e10_23 (q := 24) rfl rfl ?_
      refine g_baload w e10_24 (q := 25) rfl A_t (i := r) rfl (by simp; omega) (lat_at (by omega)) ?_
      refine g_iloadN w e10_25 (q := 26) rfl rfl ?_
      refine g_i2b w e10_26 (q := 27) rfl ?_
      refine g_ic_ne w e10_27 (by decide) (q := 32) (by decide) (q' := 30) rfl (fun cd2 => ?_) (fun cd2 => ?_)
      · refine g_iinc w e10_32 (q := 35) rfl (v := (-1 : Int32)) (by decide) rfl rfl ?_
        rw [ofNat_dec]
        show Go p e below _ (State.setTop T (mkF m 35 #[.val (.ref t), .val (.int c), .val (.int ((Int32.ofNat cs.length) - (1 : Int32))), .val (.int ((Int32.ofNat r) - (1 : Int32)))] []))
        refine g_goto w e10_35 (by decide) (q := 18) (by decide) ?_
        exact ih T _ (by omega) (by rw [hf, lix, if_neg (fun e => cd2 (by rw [e]))]) w
      · refine g_iloadN w e10_30 (q := 31) rfl rfl ?_
        exact g_reti w e10_31 rfl (by decide) (by decide) ⟨by rw [hf, lix, if_pos (lo8_inj (lat_all hl (by omega)) hc cd2)], rfl⟩
  exact LP cs.length T _ (Nat.le_refl _) rfl w
theorem e11_0 : decode jdk_42_method_83_code 0 = .ok (.aload_n 0, 1) := by decide +kernel
theorem e11_1 : decode jdk_42_method_83_code 1 = .ok (.invokevirtual 492, 3) := by decide +kernel
theorem e11_4 : decode jdk_42_method_83_code 4 = .ok (.ifCond .eq 15, 3) := by decide +kernel
theorem e11_7 : decode jdk_42_method_83_code 7 = .ok (.aload_n 0, 1) := by decide +kernel
theorem e11_8 : decode jdk_42_method_83_code 8 = .ok (.getfield 9, 3) := by decide +kernel
theorem e11_11 : decode jdk_42_method_83_code 11 = .ok (.iload_n 1, 1) := by decide +kernel
theorem e11_12 : decode jdk_42_method_83_code 12 = .ok (.iload_n 2, 1) := by decide +kernel
theorem e11_13 : decode jdk_42_method_83_code 13 = .ok (.invokestatic 644, 3) := by decide +kernel
theorem e11_16 : decode jdk_42_method_83_code 16 = .ok (.goto 12, 3) := by decide +kernel
theorem e11_19 : decode jdk_42_method_83_code 19 = .ok (.aload_n 0, 1) := by decide +kernel
theorem e11_20 : decode jdk_42_method_83_code 20 = .ok (.getfield 9, 3) := by decide +kernel
theorem e11_23 : decode jdk_42_method_83_code 23 = .ok (.iload_n 1, 1) := by decide +kernel
theorem e11_24 : decode jdk_42_method_83_code 24 = .ok (.iload_n 2, 1) := by decide +kernel
theorem e11_25 : decode jdk_42_method_83_code 25 = .ok (.invokestatic 646, 3) := by decide +kernel
theorem e11_28 : decode jdk_42_method_83_code 28 = .ok (.ireturn, 1) := by decide +kernel
theorem pd6 : parseMethodDescriptor "([BII)I" = some ⟨[(.array .byte), .int, .int], some .int⟩ := by decide +kernel
set_option maxRecDepth 65536 in
set_option maxHeartbeats 40000000 in
theorem con_li2 (l : Launch) (Z : State) (a0 : Array Value) (hw : ∀ d ∈ tables_1, d.before a0 Z = true) (x : Addr) (c : Int32) (cs : List Int32) (h0 : Heap) (O0 : Ext Z.heap h0) (S_x : Sg Z h0 x cs) (hcm : Cpt Z) (hc : Lt8 c) :
    Con l Z consts_1 false (⟨"java/lang/String", "lastIndexOf", "(II)I"⟩ : MethodName) jdk_42_method_83_code 3 (some .int) [] ({ frames := 2, cells := 0, slots := 0, locals := 28 } : Room) #[(.ref x), (.int c), (.int ((Int32.ofNat cs.length) - (1 : Int32)))] [] h0 (fun v h => v = some (.int (lix c cs cs.length)) ∧ h = h0) := by
  refine Con.intro (Ls := #[.val (.ref x), .val (.int c), .val (.int ((Int32.ofNat cs.length) - (1 : Int32)))]) (plainFor_of_name pn0) (own_EL hw) O0 (fun m => by first | (simp [entryFrame, mkF, argsToLocals, Value.category]; done) | rfl) (fun p e s m below meth cc_ T w sf_ => ?_)
  have E0 := ext_refl h0
  obtain ⟨z_, hz_, SC_⟩ := id hcm
  obtain ⟨t_, F_v, F_c, A_t⟩ := S_x.ar
  refine g_aloadN w e11_0 (q := 1) rfl rfl rfl ?_
  refine g_virtualP w (con_isl l Z a0 hw x _ _ w.old S_x hcm) no0 S_x.exa e11_1 (q := 4) rfl rfl (Hw hw 45 rfl) (Hw hw 46 rfl) (Hw hw 48 rfl) (Hw hw 47 rfl) (Hw hw 11 rfl) (Hw hw 49 rfl) (by decide) (nf (Hw hw 48 rfl)) pd4 rfl rfl (W := 0) (Nat.le_of_eq rfl) (by decide) (by decide) (by decide) (by decide) (fun T v w C q => ?_)
  obtain rfl := q
  show Go p e below _ (State.setTop T (mkF m 4 #[.val (.ref x), .val (.int c), .val (.int ((Int32.ofNat cs.length) - (1 : Int32)))] [(.int (1 : Int32))]))
  refine g_ifN w e11_4 (q := 7) rfl (by decide) ?_
  refine g_aloadN w e11_7 (q := 8) rfl rfl rfl ?_
  refine g_getF w e11_8 (q := 11) rfl (host := "") (Or.inl (Hw hw 29 rfl)) Via.refl F_v (fun T w => ?_)
  refine g_iloadN w e11_11 (q := 12) rfl rfl ?_
  refine g_iloadN w e11_12 (q := 13) rfl rfl ?_
  refine g_staticP w (con_li3 l Z a0 hw t_ c cs _ w.old A_t S_x.2.1 S_x.1 hc) no0 e11_13 (q := 16) rfl rfl (Hw hw 85 rfl) (Hw hw 86 rfl) (Hw hw 63 rfl) (Hw hw 87 rfl) (by decide) pd6 rfl rfl (W := 0) (Nat.le_of_eq rfl) (by decide) (by decide) (by decide) (by decide) (fun T v w C q => ?_)
  obtain rfl := q
  show Go p e below _ (State.setTop T (mkF m 16 #[.val (.ref x), .val (.int c), .val (.int ((Int32.ofNat cs.length) - (1 : Int32)))] [(.int (lix c cs cs.length))]))
  refine g_goto w e11_16 (by decide) (q := 28) (by decide) ?_
  exact g_reti w e11_28 rfl (by decide) (by decide) ⟨rfl, rfl⟩
theorem e12_0 : decode jdk_42_method_82_code 0 = .ok (.aload_n 0, 1) := by decide +kernel
theorem e12_1 : decode jdk_42_method_82_code 1 = .ok (.iload_n 1, 1) := by decide +kernel
theorem e12_2 : decode jdk_42_method_82_code 2 = .ok (.aload_n 0, 1) := by decide +kernel
theorem e12_3 : decode jdk_42_method_82_code 3 = .ok (.invokevirtual 505, 3) := by decide +kernel
theorem e12_6 : decode jdk_42_method_82_code 6 = .ok (.iconst 1, 1) := by decide +kernel
theorem e12_7 : decode jdk_42_method_82_code 7 = .ok (.isub, 1) := by decide +kernel
theorem e12_8 : decode jdk_42_method_82_code 8 = .ok (.invokevirtual 641, 3) := by decide +kernel
theorem e12_11 : decode jdk_42_method_82_code 11 = .ok (.ireturn, 1) := by decide +kernel
set_option maxRecDepth 65536 in
set_option maxHeartbeats 40000000 in
theorem con_li1 (l : Launch) (Z : State) (a0 : Array Value) (hw : ∀ d ∈ tables_1, d.before a0 Z = true) (x : Addr) (c : Int32) (cs : List Int32) (h0 : Heap) (O0 : Ext Z.heap h0) (S_x : Sg Z h0 x cs) (hcm : Cpt Z) (hc : Lt8 c) :
    Con l Z consts_1 false (⟨"java/lang/String", "lastIndexOf", "(I)I"⟩ : MethodName) jdk_42_method_82_code 2 (some .int) [] ({ frames := 3, cells := 0, slots := 0, locals := 42 } : Room) #[(.ref x), (.int c)] [] h0 (fun v h => v = some (.int (lix c cs cs.length)) ∧ h = h0) := by
  refine Con.intro (Ls := #[.val (.ref x), .val (.int c)]) (plainFor_of_name pn0) (own_EL hw) O0 (fun m => by first | (simp [entryFrame, mkF, argsToLocals, Value.category]; done) | rfl) (fun p e s m below meth cc_ T w sf_ => ?_)
  have E0 := ext_refl h0
  obtain ⟨z_, hz_, SC_⟩ := id hcm
  obtain ⟨t_, F_v, F_c, A_t⟩ := S_x.ar
  refine g_aloadN w e12_0 (q := 1) rfl rfl rfl ?_
  refine g_iloadN w e12_1 (q := 2) rfl rfl ?_
  refine g_aloadN w e12_2 (q := 3) rfl rfl rfl ?_
  refine g_virtualB w (a := x) (argsL := []) (own_lenB hw S_x (w.sta SC_) hz_ (by decide) (by decide)) S_x.exa e12_3 (q := 6) rfl rfl (Hw hw 51 rfl) (Hw hw 52 rfl) (Hw hw 54 rfl) (Hw hw 53 rfl) (by decide) (nf (Hw hw 54 rfl)) pd5 rfl rfl (W := 2) (Nat.le_of_eq rfl) (by decide) (by decide) (fun T v w hq => ?_)
  obtain rfl := hq
  show Go p e below _ (State.setTop T (mkF m 6 #[.val (.ref x), .val (.int c)] [(.int (Int32.ofNat (cs).length)), (.int c), (.ref x)]))
  refine g_iconst w e12_6 (q := 7) rfl (v := (1 : Int32)) (by decide) ?_
  refine g_isub w e12_7 (q := 8) rfl ?_
  refine g_virtualP w (con_li2 l Z a0 hw x c _ _ w.old S_x hcm hc) no0 S_x.exa e12_8 (q := 11) rfl rfl (Hw hw 80 rfl) (Hw hw 81 rfl) (Hw hw 83 rfl) (Hw hw 82 rfl) (Hw hw 11 rfl) (Hw hw 84 rfl) (by decide) (nf (Hw hw 83 rfl)) pd2 rfl rfl (W := 0) (Nat.le_of_eq rfl) (by decide) (by decide) (by decide) (by decide) (fun T v w C q => ?_)
  obtain rfl := q
  show Go p e below _ (State.setTop T (mkF m 11 #[.val (.ref x), .val (.int c)] [(.int (lix c cs cs.length))]))
  exact g_reti w e12_11 rfl (by decide) (by decide) ⟨rfl, rfl⟩
theorem ofNat_sub1 {n : Nat} (h : 0 < n) : Int32.ofNat n - 1 = Int32.ofNat (n - 1) := by
  rw [show n = (n - 1) + 1 from by omega, ofNat_pred]; rfl
def mk6 (n a b c d e : Int32) : List Int32 := if n = 0 then [] else if n = 1 then [a] else if n = 2 then [a, b] else if n = 3 then [a, b, c] else if n = 4 then [a, b, c, d] else [a, b, c, d, e]
def In6 (n : Int32) : Prop := n = 0 ∨ n = 1 ∨ n = 2 ∨ n = 3 ∨ n = 4 ∨ n = 5
theorem mod6 {x : Int32} (hx : ¬ x < 0) : In6 (x % 6) := by
  have h := rem_int (z := 6) hx (by decide)
  rw [show (6 : Int32).toInt = 6 from rfl] at h
  have h2 : (x % 6).toInt = 0 ∨ (x % 6).toInt = 1 ∨ (x % 6).toInt = 2 ∨ (x % 6).toInt = 3 ∨ (x % 6).toInt = 4 ∨ (x % 6).toInt = 5 := by omega
  unfold In6
  rcases h2 with h2 | h2 | h2 | h2 | h2 | h2
  · exact Or.inl (Int32.toInt_inj.mp h2)
  · exact Or.inr (Or.inl (Int32.toInt_inj.mp h2))
  · exact Or.inr (Or.inr (Or.inl (Int32.toInt_inj.mp h2)))
  · exact Or.inr (Or.inr (Or.inr (Or.inl (Int32.toInt_inj.mp h2))))
  · exact Or.inr (Or.inr (Or.inr (Or.inr (Or.inl (Int32.toInt_inj.mp h2)))))
  · exact Or.inr (Or.inr (Or.inr (Or.inr (Or.inr ((Int32.toInt_inj.mp h2))))))
/-- what kind(c) and step(state, c) reckon -/
def kd (c : Int32) : Int32 := if ¬ c < 48 ∧ ¬ 57 < c then 0 else if (¬ c < 97 ∧ ¬ 122 < c) ∨ (¬ c < 65 ∧ ¬ 90 < c) ∨ c = 46 ∨ c = 43 ∨ c = 126 then 1 else if c = 45 then 2 else if c = 58 then 3 else 4
def stp (s k : Int32) : Int32 := if s = 8 ∨ k = 4 then 8 else if k = 3 then (if s = 1 then 2 else 8) else if k = 2 then (if s = 0 ∨ s = 2 then 5 else 4) else if s = 0 ∨ s = 1 then (if k = 0 then 1 else 3) else if s = 2 ∨ s = 3 then 3 else if s = 4 ∨ s = 6 then 6 else 7
def dg (c : Int32) : Prop := ¬ c < 48 ∧ ¬ 57 < c
def lt (c : Int32) : Prop := (¬ c < 97 ∧ ¬ 122 < c) ∨ (¬ c < 65 ∧ ¬ 90 < c)
/-- holdsOnly's word on one char: L says letters, ds the other chars -/
def okc (L : Int32) (ds : List Int32) (c : Int32) : Prop := dg c ∨ (¬ L = 0 ∧ lt c) ∨ c ∈ ds
def Hld (cs : List Int32) (s e : Nat) (L : Int32) (ds : List Int32) : Prop := ∀ j, s ≤ j → j < e → okc L ds (cs.getD j 0)
theorem fix_neg {c : Int32} : ∀ (ds : List Int32) (i : Nat), i + ds.length ≤ 4000 → (fix c ds i < 0 ↔ c ∉ ds)
  | [], _, _ => by simp [fix]
  | d :: ds, i, h => by
    unfold fix
    split
    · rename_i e
      have := ofNat_nonneg (n := i) (by simp at h; omega)
      simp [this, e]
    · rename_i e
      rw [fix_neg ds (i + 1) (by simp at h; omega)]
      simp [Ne.symm e]
theorem ix_cases {c : Int32} {cs : List Int32} : (fix c cs 0 = -1 ∧ c ∉ cs) ∨ ∃ i, i < cs.length ∧ fix c cs 0 = Int32.ofNat i ∧ cs.getD i 0 = c ∧ ∀ j, j < i → ¬ cs.getD j 0 = c := by
  have key : ∀ (ds : List Int32) (k : Nat), (fix c ds k = -1 ∧ c ∉ ds) ∨ ∃ i, i < ds.length ∧ fix c ds k = Int32.ofNat (k + i) ∧ ds.getD i 0 = c ∧ ∀ j, j < i → ¬ ds.getD j 0 = c := by
    intro ds
    induction ds with
    | nil => intro k; exact Or.inl ⟨rfl, by simp⟩
    | cons d ds ih =>
      intro k
      by_cases e : d = c
      · exact Or.inr ⟨0, by simp, by simp [fix, e], by simpa using e, fun j hj => absurd hj (Nat.not_lt_zero j)⟩
      · rcases ih (k + 1) with ⟨h1, h2⟩ | ⟨i, h1, h2, h3, h4⟩
        · exact Or.inl ⟨by simpa [fix, e] using h1, by simp [h2, Ne.symm e]⟩
        · refine Or.inr ⟨i + 1, by simpa using h1, ?_, by simpa using h3, fun j hj => ?_⟩
          · have q : fix c (d :: ds) k = fix c ds (k + 1) := by simp [fix, e]
            rw [q, h2]; congr 1; omega
          · cases j with
            | zero => simpa using e
            | succ j => simpa using h4 j (by omega)
  rcases key cs 0 with h | ⟨i, h1, h2, h3⟩
  · exact Or.inl h
  · exact Or.inr ⟨i, h1, by simpa using h2, h3⟩
theorem lx_cases {c : Int32} {cs : List Int32} : (lix c cs cs.length = -1 ∧ ∀ j, j < cs.length → ¬ cs.getD j 0 = c) ∨ ∃ i, i < cs.length ∧ lix c cs cs.length = Int32.ofNat i ∧ cs.getD i 0 = c ∧ ∀ j, i < j → j < cs.length → ¬ cs.getD j 0 = c := by
  have key : ∀ n, (lix c cs n = -1 ∧ ∀ j, j < n → ¬ cs.getD j 0 = c) ∨ ∃ i, i < n ∧ lix c cs n = Int32.ofNat i ∧ cs.getD i 0 = c ∧ ∀ j, i < j → j < n → ¬ cs.getD j 0 = c := by
    intro n
    induction n with
    | zero => exact Or.inl ⟨rfl, fun j hj => absurd hj (Nat.not_lt_zero j)⟩
    | succ n ih =>
      by_cases e : cs.getD n 0 = c
      · exact Or.inr ⟨n, Nat.lt_succ_self n, by rw [lix, if_pos e], e, fun j h1 h2 => absurd h1 (by omega)⟩
      · rcases ih with ⟨h1, h2⟩ | ⟨i, h1, h2, h3, h4⟩
        · refine Or.inl ⟨by rw [lix, if_neg e]; exact h1, fun j hj => ?_⟩
          rcases Nat.lt_or_eq_of_le (Nat.le_of_lt_succ hj) with q | q
          · exact h2 j q
          · subst q; exact e
        · refine Or.inr ⟨i, by omega, by rw [lix, if_neg e]; exact h2, h3, fun j q1 q2 => ?_⟩
          rcases Nat.lt_or_eq_of_le (Nat.le_of_lt_succ q2) with q | q
          · exact h4 j q1 q
          · subst q; exact e
  exact key cs.length
/-- what isVersion says, the places of the first colon and of the last hyphen given -/
def Ver (cs : List Int32) (co hy : Option Nat) : Prop :=
  (match co with | none => True | some i => 0 < i ∧ Hld cs 0 i 0 []) ∧
  ((match co with | none => 0 | some i => i + 1) < (match hy with | none => cs.length | some j => j) ∧ Hld cs (match co with | none => 0 | some i => i + 1) (match hy with | none => cs.length | some j => j) 1 [46, 43, 45, 126]) ∧
  (match hy with | none => True | some j => j + 1 < cs.length ∧ Hld cs (j + 1) cs.length 1 [46, 43, 126])
def First (cs : List Int32) (c : Int32) (o : Option Nat) : Prop := match o with | none => c ∉ cs | some i => i < cs.length ∧ cs.getD i 0 = c ∧ ∀ j, j < i → ¬ cs.getD j 0 = c
def Last (cs : List Int32) (c : Int32) (o : Option Nat) : Prop := match o with | none => ∀ j, j < cs.length → ¬ cs.getD j 0 = c | some i => i < cs.length ∧ cs.getD i 0 = c ∧ ∀ j, i < j → j < cs.length → ¬ cs.getD j 0 = c
theorem mask15 (x : Int32) : ∃ i, i < 16 ∧ (x &&& 15) = Int32.ofNat i := by
  have h1 : (x &&& 15).toBitVec.toNat = x.toBitVec.toNat % 16 := by
    rw [Int32.toBitVec_and, BitVec.toNat_and]
    exact Nat.and_two_pow_sub_one_eq_mod _ 4
  refine ⟨x.toBitVec.toNat % 16, Nat.mod_lt _ (by decide), Int32.toBitVec_inj.mp (BitVec.eq_of_toNat_eq ?_)⟩
  rw [h1]
  show _ = (BitVec.ofNat 32 (x.toBitVec.toNat % 16)).toNat
  rw [BitVec.toNat_ofNat]; omega
theorem e13_0 : decode method_3_code 0 = .ok (.iload_n 0, 1) := by decide +kernel
theorem e13_1 : decode method_3_code 1 = .ok (.ldc 28, 2) := by decide +kernel
theorem e13_3 : decode method_3_code 3 = .ok (.iand, 1) := by decide +kernel
theorem e13_4 : decode method_3_code 4 = .ok (.ifCond .eq 16, 3) := by decide +kernel
theorem e13_7 : decode method_3_code 7 = .ok (.ldc 29, 2) := by decide +kernel
theorem e13_9 : decode method_3_code 9 = .ok (.iload_n 0, 1) := by decide +kernel
theorem e13_10 : decode method_3_code 10 = .ok (.bipush 17, 2) := by decide +kernel
theorem e13_12 : decode method_3_code 12 = .ok (.iushr, 1) := by decide +kernel
theorem e13_13 : decode method_3_code 13 = .ok (.bipush 15, 2) := by decide +kernel
theorem e13_15 : decode method_3_code 15 = .ok (.iand, 1) := by decide +kernel
theorem e13_16 : decode method_3_code 16 = .ok (.invokevirtual 31, 3) := by decide +kernel
theorem e13_19 : decode method_3_code 19 = .ok (.ireturn, 1) := by decide +kernel
theorem e13_20 : decode method_3_code 20 = .ok (.iload_n 0, 1) := by decide +kernel
theorem e13_21 : decode method_3_code 21 = .ok (.sipush 255, 3) := by decide +kernel
theorem e13_24 : decode method_3_code 24 = .ok (.iand, 1) := by decide +kernel
theorem e13_25 : decode method_3_code 25 = .ok (.i2c, 1) := by decide +kernel
theorem e13_26 : decode method_3_code 26 = .ok (.ireturn, 1) := by decide +kernel
theorem pd7 : parseMethodDescriptor "(I)C" = some ⟨[.int], some .char⟩ := by decide +kernel
theorem pn2 : plainName "com/example/deepquery/deepquery/DebianVersionIsVersionPinLaw" = true := by first | (simp [plainName, overriddenIn]; done) | decide +kernel
set_option maxRecDepth 65536 in
set_option maxHeartbeats 40000000 in
theorem con_pick (l : Launch) (Z : State) (a0 : Array Value) (hw : ∀ d ∈ tables_1, d.before a0 Z = true) (fm : Value) (i_ : Int32) (h0 : Heap) (O0 : Ext Z.heap h0) (hcm : Cpt Z) (SFm : Sta Z Z.heap "jdk/internal/util/Preconditions" "SIOOBE_FORMATTER" "Ljava/util/function/BiFunction;" fm) (rfm : fm.isRef = true) :
    Con l Z consts_1 false (⟨"com/example/deepquery/deepquery/DebianVersionIsVersionPinLaw", "pick", "(I)C"⟩ : MethodName) method_3_code 1 (some .char) [] ({ frames := 4, cells := 2, slots := 68, locals := 53 } : Room) #[(.int i_)] [] h0 (fun v h => ∃ c, v = some (.int c) ∧ Lt8 c ∧ Ext h0 h) := by
  refine Con.intro (Ls := #[.val (.int i_)]) (plainFor_of_name pn2) (own_EL hw) O0 (fun m => by first | (simp [entryFrame, mkF, argsToLocals, Value.category]; done) | rfl) (fun p e s m below meth cc_ T w sf_ => ?_)
  have E0 := ext_refl h0
  obtain ⟨z_, hz_, SC_⟩ := id hcm
  refine g_iloadN w e13_0 (q := 1) rfl rfl ?_
  refine g_ldcI w e13_1 (q := 3) rfl (v := (65536 : Int32)) (Hw hw 5 rfl) ?_
  refine g_iand w e13_3 (q := 4) rfl ?_
  refine g_if_eq w e13_4 (by decide) (q := 20) (by decide) (q' := 7) rfl (fun cd1 => ?_) (fun cd1 => ?_)
  · refine g_iloadN w e13_20 (q := 21) rfl rfl ?_
    refine g_sipush w e13_21 (q := 24) rfl (v := (255 : Int32)) (by decide) ?_
    refine g_iand w e13_24 (q := 25) rfl ?_
    refine g_i2cM w e13_25 (q := 26) rfl ?_
    exact g_retn w e13_26 rfl (by simp) (nar_lat (mask255 _)) (by decide) (by decide) ⟨_, rfl, mask255 _, E0⟩
  · refine g_ldcS w e13_7 (q := 9) rfl rfl (Hw hw 134 rfl) (own_wS hw) (by decide) (vs := [.int (48 : Int32), .int (57 : Int32), .int (97 : Int32), .int (122 : Int32), .int (65 : Int32), .int (90 : Int32), .int (46 : Int32), .int (43 : Int32), .int (126 : Int32), .int (45 : Int32), .int (58 : Int32), .int (47 : Int32), .int (64 : Int32), .int (91 : Int32), .int (96 : Int32), .int (123 : Int32)]) (z := 16) ⟨by decide, by decide⟩ (by decide) (by decide) (nn := 64) (by decide) (by decide) (by decide) (by decide) (fun T vm h t2 b_t2 kb_t2 w E X_t2 Fc_t2 Fv_t2 Ab_t2 C Sf => ?_)
    replace E0 := ext_trans E0 E
    refine g_iloadN w e13_9 (q := 10) rfl rfl ?_
    refine g_bipush w e13_10 (q := 12) rfl (v := (17 : Int32)) (by decide) ?_
    refine g_iushr w e13_12 (q := 13) rfl ?_
    refine g_bipush w e13_13 (q := 15) rfl (v := (15 : Int32)) (by decide) ?_
    refine g_iand w e13_15 (q := 16) rfl ?_
    have S_t2 : Sg Z h t2 [48, 57, 97, 122, 65, 90, 46, 43, 126, 45, 58, 47, 64, 91, 96, 123] := ⟨Nat.le_of_ble_eq_true rfl, by unfold Lt8; decide, X_t2, b_t2, kb_t2, Fv_t2, Fc_t2, Ab_t2⟩
    obtain ⟨ix, hix, ejx⟩ := mask15 (Jvm.Free.XT.ushr i_ (17 : Int32))
    refine g_virtualB w (a := t2) (argsL := [(.int ((Jvm.Free.XT.ushr i_ (17 : Int32)) &&& (15 : Int32)))]) (own_chB hw (i := ix) S_t2 (w.sta SC_) hz_ (w.sta SFm) rfm (by simpa using hix) ejx (by decide) (by decide)) S_t2.exa e13_16 (q := 19) rfl rfl (Hw hw 135 rfl) (Hw hw 113 rfl) (Hw hw 115 rfl) (Hw hw 114 rfl) (by decide) (nf (Hw hw 115 rfl)) pd7 rfl rfl (W := 0) (Nat.le_of_eq rfl) (by decide) (by decide) (fun T v w hq => ?_)
    obtain rfl := hq
    show Go p e below _ (State.setTop T (mkF m 19 #[.val (.int i_)] [(.int (([(48 : Int32), (57 : Int32), (97 : Int32), (122 : Int32), (65 : Int32), (90 : Int32), (46 : Int32), (43 : Int32), (126 : Int32), (45 : Int32), (58 : Int32), (47 : Int32), (64 : Int32), (91 : Int32), (96 : Int32), (123 : Int32)] : List Int32).getD ix 0))]))
    exact g_retn w e13_19 rfl (by simp) (nar_lat (lat_all (by unfold Lt8; decide) (by simpa using hix))) (by decide) (by decide) ⟨_, rfl, lat_all (by unfold Lt8; decide) (by simpa using hix), E0⟩
theorem e14_0 : decode method_4_code 0 = .ok (.iload_n 0, 1) := by decide +kernel
theorem e14_1 : decode method_4_code 1 = .ok (.ifCond .ne 14, 3) := by decide +kernel
theorem e14_4 : decode method_4_code 4 = .ok (.new 32, 3) := by decide +kernel
theorem e14_7 : decode method_4_code 7 = .ok (.dup, 1) := by decide +kernel
theorem e14_8 : decode method_4_code 8 = .ok (.iconst 0, 1) := by decide +kernel
theorem e14_9 : decode method_4_code 9 = .ok (.newarray .char, 2) := by decide +kernel
theorem e14_11 : decode method_4_code 11 = .ok (.invokespecial 36, 3) := by decide +kernel
theorem e14_14 : decode method_4_code 14 = .ok (.areturn, 1) := by decide +kernel
theorem e14_15 : decode method_4_code 15 = .ok (.iload_n 0, 1) := by decide +kernel
theorem e14_16 : decode method_4_code 16 = .ok (.iconst 1, 1) := by decide +kernel
theorem e14_17 : decode method_4_code 17 = .ok (.if_icmp .ne 18, 3) := by decide +kernel
theorem e14_20 : decode method_4_code 20 = .ok (.new 32, 3) := by decide +kernel
theorem e14_23 : decode method_4_code 23 = .ok (.dup, 1) := by decide +kernel
theorem e14_24 : decode method_4_code 24 = .ok (.iconst 1, 1) := by decide +kernel
theorem e14_25 : decode method_4_code 25 = .ok (.newarray .char, 2) := by decide +kernel
theorem e14_27 : decode method_4_code 27 = .ok (.dup, 1) := by decide +kernel
theorem e14_28 : decode method_4_code 28 = .ok (.iconst 0, 1) := by decide +kernel
theorem e14_29 : decode method_4_code 29 = .ok (.iload_n 1, 1) := by decide +kernel
theorem e14_30 : decode method_4_code 30 = .ok (.castore, 1) := by decide +kernel
theorem e14_31 : decode method_4_code 31 = .ok (.invokespecial 36, 3) := by decide +kernel
theorem e14_34 : decode method_4_code 34 = .ok (.areturn, 1) := by decide +kernel
theorem e14_35 : decode method_4_code 35 = .ok (.iload_n 0, 1) := by decide +kernel
theorem e14_36 : decode method_4_code 36 = .ok (.iconst 2, 1) := by decide +kernel
theorem e14_37 : decode method_4_code 37 = .ok (.if_icmp .ne 22, 3) := by decide +kernel
theorem e14_40 : decode method_4_code 40 = .ok (.new 32, 3) := by decide +kernel
theorem e14_43 : decode method_4_code 43 = .ok (.dup, 1) := by decide +kernel
theorem e14_44 : decode method_4_code 44 = .ok (.iconst 2, 1) := by decide +kernel
theorem e14_45 : decode method_4_code 45 = .ok (.newarray .char, 2) := by decide +kernel
theorem e14_47 : decode method_4_code 47 = .ok (.dup, 1) := by decide +kernel
theorem e14_48 : decode method_4_code 48 = .ok (.iconst 0, 1) := by decide +kernel
theorem e14_49 : decode method_4_code 49 = .ok (.iload_n 1, 1) := by decide +kernel
theorem e14_50 : decode method_4_code 50 = .ok (.castore, 1) := by decide +kernel
theorem e14_51 : decode method_4_code 51 = .ok (.dup, 1) := by decide +kernel
theorem e14_52 : decode method_4_code 52 = .ok (.iconst 1, 1) := by decide +kernel
theorem e14_53 : decode method_4_code 53 = .ok (.iload_n 2, 1) := by decide +kernel
theorem e14_54 : decode method_4_code 54 = .ok (.castore, 1) := by decide +kernel
theorem e14_55 : decode method_4_code 55 = .ok (.invokespecial 36, 3) := by decide +kernel
theorem e14_58 : decode method_4_code 58 = .ok (.areturn, 1) := by decide +kernel
theorem e14_59 : decode method_4_code 59 = .ok (.iload_n 0, 1) := by decide +kernel
theorem e14_60 : decode method_4_code 60 = .ok (.iconst 3, 1) := by decide +kernel
theorem e14_61 : decode method_4_code 61 = .ok (.if_icmp .ne 26, 3) := by decide +kernel
theorem e14_64 : decode method_4_code 64 = .ok (.new 32, 3) := by decide +kernel
theorem e14_67 : decode method_4_code 67 = .ok (.dup, 1) := by decide +kernel
theorem e14_68 : decode method_4_code 68 = .ok (.iconst 3, 1) := by decide +kernel
theorem e14_69 : decode method_4_code 69 = .ok (.newarray .char, 2) := by decide +kernel
theorem e14_71 : decode method_4_code 71 = .ok (.dup, 1) := by decide +kernel
theorem e14_72 : decode method_4_code 72 = .ok (.iconst 0, 1) := by decide +kernel
theorem e14_73 : decode method_4_code 73 = .ok (.iload_n 1, 1) := by decide +kernel
theorem e14_74 : decode method_4_code 74 = .ok (.castore, 1) := by decide +kernel
theorem e14_75 : decode method_4_code 75 = .ok (.dup, 1) := by decide +kernel
theorem e14_76 : decode method_4_code 76 = .ok (.iconst 1, 1) := by decide +kernel
theorem e14_77 : decode method_4_code 77 = .ok (.iload_n 2, 1) := by decide +kernel
theorem e14_78 : decode method_4_code 78 = .ok (.castore, 1) := by decide +kernel
theorem e14_79 : decode method_4_code 79 = .ok (.dup, 1) := by decide +kernel
theorem e14_80 : decode method_4_code 80 = .ok (.iconst 2, 1) := by decide +kernel
theorem e14_81 : decode method_4_code 81 = .ok (.iload_n 3, 1) := by decide +kernel
theorem e14_82 : decode method_4_code 82 = .ok (.castore, 1) := by decide +kernel
theorem e14_83 : decode method_4_code 83 = .ok (.invokespecial 36, 3) := by decide +kernel
theorem e14_86 : decode method_4_code 86 = .ok (.areturn, 1) := by decide +kernel
theorem e14_87 : decode method_4_code 87 = .ok (.iload_n 0, 1) := by decide +kernel
theorem e14_88 : decode method_4_code 88 = .ok (.iconst 4, 1) := by decide +kernel
theorem e14_89 : decode method_4_code 89 = .ok (.if_icmp .ne 31, 3) := by decide +kernel
theorem e14_92 : decode method_4_code 92 = .ok (.new 32, 3) := by decide +kernel
theorem e14_95 : decode method_4_code 95 = .ok (.dup, 1) := by decide +kernel
theorem e14_96 : decode method_4_code 96 = .ok (.iconst 4, 1) := by decide +kernel
theorem e14_97 : decode method_4_code 97 = .ok (.newarray .char, 2) := by decide +kernel
theorem e14_99 : decode method_4_code 99 = .ok (.dup, 1) := by decide +kernel
theorem e14_100 : decode method_4_code 100 = .ok (.iconst 0, 1) := by decide +kernel
theorem e14_101 : decode method_4_code 101 = .ok (.iload_n 1, 1) := by decide +kernel
theorem e14_102 : decode method_4_code 102 = .ok (.castore, 1) := by decide +kernel
theorem e14_103 : decode method_4_code 103 = .ok (.dup, 1) := by decide +kernel
theorem e14_104 : decode method_4_code 104 = .ok (.iconst 1, 1) := by decide +kernel
theorem e14_105 : decode method_4_code 105 = .ok (.iload_n 2, 1) := by decide +kernel
theorem e14_106 : decode method_4_code 106 = .ok (.castore, 1) := by decide +kernel
theorem e14_107 : decode method_4_code 107 = .ok (.dup, 1) := by decide +kernel
theorem e14_108 : decode method_4_code 108 = .ok (.iconst 2, 1) := by decide +kernel
theorem e14_109 : decode method_4_code 109 = .ok (.iload_n 3, 1) := by decide +kernel
theorem e14_110 : decode method_4_code 110 = .ok (.castore, 1) := by decide +kernel
theorem e14_111 : decode method_4_code 111 = .ok (.dup, 1) := by decide +kernel
theorem e14_112 : decode method_4_code 112 = .ok (.iconst 3, 1) := by decide +kernel
theorem e14_113 : decode method_4_code 113 = .ok (.iload 4, 2) := by decide +kernel
theorem e14_115 : decode method_4_code 115 = .ok (.castore, 1) := by decide +kernel
theorem e14_116 : decode method_4_code 116 = .ok (.invokespecial 36, 3) := by decide +kernel
theorem e14_119 : decode method_4_code 119 = .ok (.areturn, 1) := by decide +kernel
theorem e14_120 : decode method_4_code 120 = .ok (.new 32, 3) := by decide +kernel
theorem e14_123 : decode method_4_code 123 = .ok (.dup, 1) := by decide +kernel
theorem e14_124 : decode method_4_code 124 = .ok (.iconst 5, 1) := by decide +kernel
theorem e14_125 : decode method_4_code 125 = .ok (.newarray .char, 2) := by decide +kernel
theorem e14_127 : decode method_4_code 127 = .ok (.dup, 1) := by decide +kernel
theorem e14_128 : decode method_4_code 128 = .ok (.iconst 0, 1) := by decide +kernel
theorem e14_129 : decode method_4_code 129 = .ok (.iload_n 1, 1) := by decide +kernel
theorem e14_130 : decode method_4_code 130 = .ok (.castore, 1) := by decide +kernel
theorem e14_131 : decode method_4_code 131 = .ok (.dup, 1) := by decide +kernel
theorem e14_132 : decode method_4_code 132 = .ok (.iconst 1, 1) := by decide +kernel
theorem e14_133 : decode method_4_code 133 = .ok (.iload_n 2, 1) := by decide +kernel
theorem e14_134 : decode method_4_code 134 = .ok (.castore, 1) := by decide +kernel
theorem e14_135 : decode method_4_code 135 = .ok (.dup, 1) := by decide +kernel
theorem e14_136 : decode method_4_code 136 = .ok (.iconst 2, 1) := by decide +kernel
theorem e14_137 : decode method_4_code 137 = .ok (.iload_n 3, 1) := by decide +kernel
theorem e14_138 : decode method_4_code 138 = .ok (.castore, 1) := by decide +kernel
theorem e14_139 : decode method_4_code 139 = .ok (.dup, 1) := by decide +kernel
theorem e14_140 : decode method_4_code 140 = .ok (.iconst 3, 1) := by decide +kernel
theorem e14_141 : decode method_4_code 141 = .ok (.iload 4, 2) := by decide +kernel
theorem e14_143 : decode method_4_code 143 = .ok (.castore, 1) := by decide +kernel
theorem e14_144 : decode method_4_code 144 = .ok (.dup, 1) := by decide +kernel
theorem e14_145 : decode method_4_code 145 = .ok (.iconst 4, 1) := by decide +kernel
theorem e14_146 : decode method_4_code 146 = .ok (.iload 5, 2) := by decide +kernel
theorem e14_148 : decode method_4_code 148 = .ok (.castore, 1) := by decide +kernel
theorem e14_149 : decode method_4_code 149 = .ok (.invokespecial 36, 3) := by decide +kernel
theorem e14_152 : decode method_4_code 152 = .ok (.areturn, 1) := by decide +kernel
theorem pd8 : parseMethodDescriptor "([C)V" = some ⟨[(.array .char)], none⟩ := by decide +kernel
set_option maxRecDepth 65536 in
set_option maxHeartbeats 40000000 in
theorem con_make (l : Launch) (Z : State) (a0 : Array Value) (hw : ∀ d ∈ tables_1, d.before a0 Z = true) (n_ c0 c1 c2 c3 c4 : Int32) (h0 : Heap) (O0 : Ext Z.heap h0) (lc0 : Lt8 c0) (lc1 : Lt8 c1) (lc2 : Lt8 c2) (lc3 : Lt8 c3) (lc4 : Lt8 c4) (hcm : Cpt Z) :
    Con l Z consts_1 false (⟨"com/example/deepquery/deepquery/DebianVersionIsVersionPinLaw", "make", "(ICCCCC)Ljava/lang/String;"⟩ : MethodName) method_4_code 6 (some (.object "java/lang/String")) [] ({ frames := 4, cells := 6, slots := 14, locals := 66 } : Room) #[(.int n_), (.int c0), (.int c1), (.int c2), (.int c3), (.int c4)] [] h0 (fun v h => ∃ x, v = some (.ref x) ∧ Ext h0 h ∧ h0.size ≤ x ∧ Sg Z h x (mk6 n_ c0 c1 c2 c3 c4)) := by
  refine Con.intro (Ls := #[.val (.int n_), .val (.int c0), .val (.int c1), .val (.int c2), .val (.int c3), .val (.int c4)]) (plainFor_of_name pn2) (own_EL hw) O0 (fun m => by first | (simp [entryFrame, mkF, argsToLocals, Value.category]; done) | rfl) (fun p e s m below meth cc_ T w sf_ => ?_)
  have E0 := ext_refl h0
  obtain ⟨z_, hz_, SC_⟩ := id hcm
  refine g_iloadN w e14_0 (q := 1) rfl rfl ?_
  refine g_if_ne w e14_1 (by decide) (q := 15) (by decide) (q' := 4) rfl (fun cd1 => ?_) (fun cd1 => ?_)
  · refine g_iloadN w e14_15 (q := 16) rfl rfl ?_
    refine g_iconst w e14_16 (q := 17) rfl (v := (1 : Int32)) (by decide) ?_
    refine g_ic_ne w e14_17 (by decide) (q := 35) (by decide) (q' := 20) rfl (fun cd2 => ?_) (fun cd2 => ?_)
    · refine g_iloadN w e14_35 (q := 36) rfl rfl ?_
      refine g_iconst w e14_36 (q := 37) rfl (v := (2 : Int32)) (by decide) ?_
      refine g_ic_ne w e14_37 (by decide) (q := 59) (by decide) (q' := 40) rfl (fun cd3 => ?_) (fun cd3 => ?_)
      · refine g_iloadN w e14_59 (q := 60) rfl rfl ?_
        refine g_iconst w e14_60 (q := 61) rfl (v := (3 : Int32)) (by decide) ?_
        refine g_ic_ne w e14_61 (by decide) (q := 87) (by decide) (q' := 64) rfl (fun cd4 => ?_) (fun cd4 => ?_)
        · refine g_iloadN w e14_87 (q := 88) rfl rfl ?_
          refine g_iconst w e14_88 (q := 89) rfl (v := (4 : Int32)) (by decide) ?_
          refine g_ic_ne w e14_89 (by decide) (q := 120) (by decide) (q' := 92) rfl (fun cd5 => ?_) (fun cd5 => ?_)
          · refine g_new w e14_120 (q := 123) rfl (Hw hw 9 rfl) (Hw hw 10 rfl) (Hw hw 11 rfl) (by decide) (by decide) (fun T h a6 w E g_a6 n_a6 X_a6 D_a6 s_a6 => ?_)
            have z_a6 := Nat.le_trans E0.1 g_a6
            replace E0 := ext_trans E0 E
            have F_value_a6 := D_a6 (Or.inr (Hw hw 25 rfl)) (ty := (.array .byte)) (by decide)
            replace F_value_a6 : Fld Z h a6 "java/lang/String" "value" "[B" .null := F_value_a6
            have F_coder_a6 := D_a6 (Or.inr (Hw hw 26 rfl)) (ty := .byte) (by decide)
            replace F_coder_a6 : Fld Z h a6 "java/lang/String" "coder" "B" (.int (0 : Int32)) := F_coder_a6
            refine g_dup w e14_123 (q := 124) rfl rfl ?_
            refine g_iconst w e14_124 (q := 125) rfl (v := (5 : Int32)) (by decide) ?_
            refine g_newarr w e14_125 (q := 127) rfl (Hw hw 12 rfl) (len := 5) (cap := 5) (by decide) (by decide) (by decide) (by decide) (by decide) (fun T h a7 w E g_a7 n_a7 A_a7 s_a7 => ?_)
            have z_a7 := Nat.le_trans E0.1 g_a7
            have ne_a6_a7 : a6 ≠ a7 := Nat.ne_of_lt (Nat.lt_of_lt_of_le X_a6.lt g_a7)
            replace E0 := ext_trans E0 E
            replace X_a6 := X_a6.ext E
            replace F_value_a6 := F_value_a6.ext E
            replace F_coder_a6 := F_coder_a6.ext E
            replace A_a7 : Ar Z h a7 .char [(.int (0 : Int32)), (.int (0 : Int32)), (.int (0 : Int32)), (.int (0 : Int32)), (.int (0 : Int32))] := A_a7
            refine g_dup w e14_127 (q := 128) rfl rfl ?_
            refine g_iconst w e14_128 (q := 129) rfl (v := (0 : Int32)) (by decide) ?_
            refine g_iloadN w e14_129 (q := 130) rfl rfl ?_
            refine g_castore w e14_130 (q := 131) rfl A_a7 (i := 0) (by decide) (Nat.le_of_ble_eq_true rfl) (x' := c0) (nar_lat lc0) n_a7 (w.safeAr A_a7 (by decide)) (fun T h w W V => ?_)
            replace E0 := ext_wr E0 W z_a7
            replace X_a6 := X_a6.wr W
            replace F_value_a6 := F_value_a6.other W (Or.inl ne_a6_a7)
            replace F_coder_a6 := F_coder_a6.other W (Or.inl ne_a6_a7)
            replace A_a7 : Ar Z h a7 .char [(.int c0), (.int (0 : Int32)), (.int (0 : Int32)), (.int (0 : Int32)), (.int (0 : Int32))] := V
            refine g_dup w e14_131 (q := 132) rfl rfl ?_
            refine g_iconst w e14_132 (q := 133) rfl (v := (1 : Int32)) (by decide) ?_
            refine g_iloadN w e14_133 (q := 134) rfl rfl ?_
            refine g_castore w e14_134 (q := 135) rfl A_a7 (i := 1) (by decide) (Nat.le_of_ble_eq_true rfl) (x' := c1) (nar_lat lc1) n_a7 (w.safeAr A_a7 (by decide)) (fun T h w W V => ?_)
            replace E0 := ext_wr E0 W z_a7
            replace X_a6 := X_a6.wr W
            replace F_value_a6 := F_value_a6.other W (Or.inl ne_a6_a7)
            replace F_coder_a6 := F_coder_a6.other W (Or.inl ne_a6_a7)
            replace A_a7 : Ar Z h a7 .char [(.int c0), (.int c1), (.int (0 : Int32)), (.int (0 : Int32)), (.int (0 : Int32))] := V
            refine g_dup w e14_135 (q := 136) rfl rfl ?_
            refine g_iconst w e14_136 (q := 137) rfl (v := (2 : Int32)) (by decide) ?_
            refine g_iloadN w e14_137 (q := 138) rfl rfl ?_
            refine g_castore w e14_138 (q := 139) rfl A_a7 (i := 2) (by decide) (Nat.le_of_ble_eq_true rfl) (x' := c2) (nar_lat lc2) n_a7 (w.safeAr A_a7 (by decide)) (fun T h w W V => ?_)
            replace E0 := ext_wr E0 W z_a7
            replace X_a6 := X_a6.wr W
            replace F_value_a6 := F_value_a6.other W (Or.inl ne_a6_a7)
            replace F_coder_a6 := F_coder_a6.other W (Or.inl ne_a6_a7)
            replace A_a7 : Ar Z h a7 .char [(.int c0), (.int c1), (.int c2), (.int (0 : Int32)), (.int (0 : Int32))] := V
            refine g_dup w e14_139 (q := 140) rfl rfl ?_
            refine g_iconst w e14_140 (q := 141) rfl (v := (3 : Int32)) (by decide) ?_
            refine g_iload w e14_141 (q := 143) rfl rfl ?_
            refine g_castore w e14_143 (q := 144) rfl A_a7 (i := 3) (by decide) (Nat.le_of_ble_eq_true rfl) (x' := c3) (nar_lat lc3) n_a7 (w.safeAr A_a7 (by decide)) (fun T h w W V => ?_)
            replace E0 := ext_wr E0 W z_a7
            replace X_a6 := X_a6.wr W
            replace F_value_a6 := F_value_a6.other W (Or.inl ne_a6_a7)
            replace F_coder_a6 := F_coder_a6.other W (Or.inl ne_a6_a7)
            replace A_a7 : Ar Z h a7 .char [(.int c0), (.int c1), (.int c2), (.int c3), (.int (0 : Int32))] := V
            refine g_dup w e14_144 (q := 145) rfl rfl ?_
            refine g_iconst w e14_145 (q := 146) rfl (v := (4 : Int32)) (by decide) ?_
            refine g_iload w e14_146 (q := 148) rfl rfl ?_
            refine g_castore w e14_148 (q := 149) rfl A_a7 (i := 4) (by decide) (Nat.le_of_ble_eq_true rfl) (x' := c4) (nar_lat lc4) n_a7 (w.safeAr A_a7 (by decide)) (fun T h w W V => ?_)
            replace E0 := ext_wr E0 W z_a7
            replace X_a6 := X_a6.wr W
            replace F_value_a6 := F_value_a6.other W (Or.inl ne_a6_a7)
            replace F_coder_a6 := F_coder_a6.other W (Or.inl ne_a6_a7)
            replace A_a7 : Ar Z h a7 .char [(.int c0), (.int c1), (.int c2), (.int c3), (.int c4)] := V
            obtain ⟨-, kC, dC, KC⟩ := A_a7
            refine g_specialB w (a := a6) (argsL := [.ref a7]) (kc := 1) (ks := 5) (wr := [a6]) (fun s' hZ' => StrChars.Road.backV (W := 1) (len := 3) (n0 := Z.heap.size) hZ' (own_hws hw) (kI := 4) (Hw hw 10 rfl) (cs := [c0, c1, c2, c3, c4]) (n := 5) n_a6 w.old.1 X_a6 F_value_a6 F_coder_a6 KC (w.sta SC_) hz_ rfl rfl (by decide) (by decide) (csS lc0 (csS lc1 (csS lc2 (csS lc3 (csS lc4 cs0))))) rfl (by decide) (by decide)) (fun v h' L q => ⟨q.2.1, q.2.2.1⟩) (in1 (safe_null w.wz.alike (Hw hw 10 rfl) X_a6 F_value_a6)) (in1 n_a6) e14_149 (q := 152) rfl rfl rfl (Hw hw 13 rfl) (Hw hw 14 rfl) (Hw hw 15 rfl) (by decide) pd8 rfl rfl (W := 1) (Nat.le_of_eq rfl) (by decide) (by decide) (fun T h v L w q => ?_)
            obtain ⟨rfl, -, K, X_t, F_c, t_, kb_, -, -, -, F_v, A_t⟩ := q
            replace E0 := ext_keep E0 K z_a6
            have X0 := X_a6
            replace X_a6 := X_a6.keep K
            have S_a6 : Sg Z h a6 [c0, c1, c2, c3, c4] := ⟨Nat.le_of_ble_eq_true rfl, (csS lc0 (csS lc1 (csS lc2 (csS lc3 (csS lc4 cs0))))), X_t, t_, kb_, F_v, F_c, A_t⟩
            show Go p e below _ (State.setTop T (mkF m 152 #[.val (.int n_), .val (.int c0), .val (.int c1), .val (.int c2), .val (.int c3), .val (.int c4)] [(.ref a6)]))
            exact g_reta w e14_152 rfl rfl rfl (by decide) (by decide) ⟨_, rfl, E0, z_a6, by rw [show mk6 n_ c0 c1 c2 c3 c4 = [c0, c1, c2, c3, c4] from by simp [mk6, cd1, cd2, cd3, cd4, cd5]]; exact S_a6⟩
          · refine g_new w e14_92 (q := 95) rfl (Hw hw 9 rfl) (Hw hw 10 rfl) (Hw hw 11 rfl) (by decide) (by decide) (fun T h a8 w E g_a8 n_a8 X_a8 D_a8 s_a8 => ?_)
            have z_a8 := Nat.le_trans E0.1 g_a8
            replace E0 := ext_trans E0 E
            have F_value_a8 := D_a8 (Or.inr (Hw hw 25 rfl)) (ty := (.array .byte)) (by decide)
            replace F_value_a8 : Fld Z h a8 "java/lang/String" "value" "[B" .null := F_value_a8
            have F_coder_a8 := D_a8 (Or.inr (Hw hw 26 rfl)) (ty := .byte) (by decide)
            replace F_coder_a8 : Fld Z h a8 "java/lang/String" "coder" "B" (.int (0 : Int32)) := F_coder_a8
            refine g_dup w e14_95 (q := 96) rfl rfl ?_
            refine g_iconst w e14_96 (q := 97) rfl (v := (4 : Int32)) (by decide) ?_
            refine g_newarr w e14_97 (q := 99) rfl (Hw hw 12 rfl) (len := 4) (cap := 4) (by decide) (by decide) (by decide) (by decide) (by decide) (fun T h a9 w E g_a9 n_a9 A_a9 s_a9 => ?_)
            have z_a9 := Nat.le_trans E0.1 g_a9
            have ne_a8_a9 : a8 ≠ a9 := Nat.ne_of_lt (Nat.lt_of_lt_of_le X_a8.lt g_a9)
            replace E0 := ext_trans E0 E
            replace X_a8 := X_a8.ext E
            replace F_value_a8 := F_value_a8.ext E
            replace F_coder_a8 := F_coder_a8.ext E
            replace A_a9 : Ar Z h a9 .char [(.int (0 : Int32)), (.int (0 : Int32)), (.int (0 : Int32)), (.int (0 : Int32))] := A_a9
            refine g_dup w e14_99 (q := 100) rfl rfl ?_
            refine g_iconst w e14_100 (q := 101) rfl (v := (0 : Int32)) (by decide) ?_
            refine g_iloadN w e14_101 (q := 102) rfl rfl ?_
            refine g_castore w e14_102 (q := 103) rfl A_a9 (i := 0) (by decide) (Nat.le_of_ble_eq_true rfl) (x' := c0) (nar_lat lc0) n_a9 (w.safeAr A_a9 (by decide)) (fun T h w W V => ?_)
            replace E0 := ext_wr E0 W z_a9
            replace X_a8 := X_a8.wr W
            replace F_value_a8 := F_value_a8.other W (Or.inl ne_a8_a9)
            replace F_coder_a8 := F_coder_a8.other W (Or.inl ne_a8_a9)
            replace A_a9 : Ar Z h a9 .char [(.int c0), (.int (0 : Int32)), (.int (0 : Int32)), (.int (0 : Int32))] := V
            refine g_dup w e14_103 (q := 104) rfl rfl ?_
            refine g_iconst w e14_104 (q := 105) rfl (v := (1 : Int32)) (by decide) ?_
            refine g_iloadN w e14_105 (q := 106) rfl rfl ?_
            refine g_castore w e14_106 (q := 107) rfl A_a9 (i := 1) (by decide) (Nat.le_of_ble_eq_true rfl) (x' := c1) (nar_lat lc1) n_a9 (w.safeAr A_a9 (by decide)) (fun T h w W V => ?_)
            replace E0 := ext_wr E0 W z_a9
            replace X_a8 := X_a8.wr W
            replace F_value_a8 := F_value_a8.other W (Or.inl ne_a8_a9)
            replace F_coder_a8 := F_coder_a8.other W (Or.inl ne_a8_a9)
            replace A_a9 : Ar Z h a9 .char [(.int c0), (.int c1), (.int (0 : Int32)), (.int (0 : Int32))] := V
            refine g_dup w e14_107 (q := 108) rfl rfl ?_
            refine g_iconst w e14_108 (q := 109) rfl (v := (2 : Int32)) (by decide) ?_
            refine g_iloadN w e14_109 (q := 110) rfl rfl ?_
            refine g_castore w e14_110 (q := 111) rfl A_a9 (i := 2) (by decide) (Nat.le_of_ble_eq_true rfl) (x' := c2) (nar_lat lc2) n_a9 (w.safeAr A_a9 (by decide)) (fun T h w W V => ?_)
            replace E0 := ext_wr E0 W z_a9
            replace X_a8 := X_a8.wr W
            replace F_value_a8 := F_value_a8.other W (Or.inl ne_a8_a9)
            replace F_coder_a8 := F_coder_a8.other W (Or.inl ne_a8_a9)
            replace A_a9 : Ar Z h a9 .char [(.int c0), (.int c1), (.int c2), (.int (0 : Int32))] := V
            refine g_dup w e14_111 (q := 112) rfl rfl ?_
            refine g_iconst w e14_112 (q := 113) rfl (v := (3 : Int32)) (by decide) ?_
            refine g_iload w e14_113 (q := 115) rfl rfl ?_
            refine g_castore w e14_115 (q := 116) rfl A_a9 (i := 3) (by decide) (Nat.le_of_ble_eq_true rfl) (x' := c3) (nar_lat lc3) n_a9 (w.safeAr A_a9 (by decide)) (fun T h w W V => ?_)
            replace E0 := ext_wr E0 W z_a9
            replace X_a8 := X_a8.wr W
            replace F_value_a8 := F_value_a8.other W (Or.inl ne_a8_a9)
            replace F_coder_a8 := F_coder_a8.other W (Or.inl ne_a8_a9)
            replace A_a9 : Ar Z h a9 .char [(.int c0), (.int c1), (.int c2), (.int c3)] := V
            obtain ⟨-, kC, dC, KC⟩ := A_a9
            refine g_specialB w (a := a8) (argsL := [.ref a9]) (kc := 1) (ks := 4) (wr := [a8]) (fun s' hZ' => StrChars.Road.backV (W := 1) (len := 3) (n0 := Z.heap.size) hZ' (own_hws hw) (kI := 4) (Hw hw 10 rfl) (cs := [c0, c1, c2, c3]) (n := 4) n_a8 w.old.1 X_a8 F_value_a8 F_coder_a8 KC (w.sta SC_) hz_ rfl rfl (by decide) (by decide) (csS lc0 (csS lc1 (csS lc2 (csS lc3 cs0)))) rfl (by decide) (by decide)) (fun v h' L q => ⟨q.2.1, q.2.2.1⟩) (in1 (safe_null w.wz.alike (Hw hw 10 rfl) X_a8 F_value_a8)) (in1 n_a8) e14_116 (q := 119) rfl rfl rfl (Hw hw 13 rfl) (Hw hw 14 rfl) (Hw hw 15 rfl) (by decide) pd8 rfl rfl (W := 1) (Nat.le_of_eq rfl) (by decide) (by decide) (fun T h v L w q => ?_)
            obtain ⟨rfl, -, K, X_t, F_c, t_, kb_, -, -, -, F_v, A_t⟩ := q
            replace E0 := ext_keep E0 K z_a8
            have X0 := X_a8
            replace X_a8 := X_a8.keep K
            have S_a8 : Sg Z h a8 [c0, c1, c2, c3] := ⟨Nat.le_of_ble_eq_true rfl, (csS lc0 (csS lc1 (csS lc2 (csS lc3 cs0)))), X_t, t_, kb_, F_v, F_c, A_t⟩
            show Go p e below _ (State.setTop T (mkF m 119 #[.val (.int n_), .val (.int c0), .val (.int c1), .val (.int c2), .val (.int c3), .val (.int c4)] [(.ref a8)]))
            exact g_reta w e14_119 rfl rfl rfl (by decide) (by decide) ⟨_, rfl, E0, z_a8, by rw [show mk6 n_ c0 c1 c2 c3 c4 = [c0, c1, c2, c3] from by simp [mk6, cd1, cd2, cd3, cd4, cd5]]; exact S_a8⟩
        · refine g_new w e14_64 (q := 67) rfl (Hw hw 9 rfl) (Hw hw 10 rfl) (Hw hw 11 rfl) (by decide) (by decide) (fun T h a10 w E g_a10 n_a10 X_a10 D_a10 s_a10 => ?_)
          have z_a10 := Nat.le_trans E0.1 g_a10
          replace E0 := ext_trans E0 E
          have F_value_a10 := D_a10 (Or.inr (Hw hw 25 rfl)) (ty := (.array .byte)) (by decide)
          replace F_value_a10 : Fld Z h a10 "java/lang/String" "value" "[B" .null := F_value_a10
          have F_coder_a10 := D_a10 (Or.inr (Hw hw 26 rfl)) (ty := .byte) (by decide)
          replace F_coder_a10 : Fld Z h a10 "java/lang/String" "coder" "B" (.int (0 : Int32)) := F_coder_a10
          refine g_dup w e14_67 (q := 68) rfl rfl ?_
          refine g_iconst w e14_68 (q := 69) rfl (v := (3 : Int32)) (by decide) ?_
          refine g_newarr w e14_69 (q := 71) rfl (Hw hw 12 rfl) (len := 3) (cap := 3) (by decide) (by decide) (by decide) (by decide) (by decide) (fun T h a11 w E g_a11 n_a11 A_a11 s_a11 => ?_)
          have z_a11 := Nat.le_trans E0.1 g_a11
          have ne_a10_a11 : a10 ≠ a11 := Nat.ne_of_lt (Nat.lt_of_lt_of_le X_a10.lt g_a11)
          replace E0 := ext_trans E0 E
          replace X_a10 := X_a10.ext E
          replace F_value_a10 := F_value_a10.ext E
          replace F_coder_a10 := F_coder_a10.ext E
          replace A_a11 : Ar Z h a11 .char [(.int (0 : Int32)), (.int (0 : Int32)), (.int (0 : Int32))] := A_a11
          refine g_dup w e14_71 (q := 72) rfl rfl ?_
          refine g_iconst w e14_72 (q := 73) rfl (v := (0 : Int32)) (by decide) ?_
          refine g_iloadN w e14_73 (q := 74) rfl rfl ?_
          refine g_castore w e14_74 (q := 75) rfl A_a11 (i := 0) (by decide) (Nat.le_of_ble_eq_true rfl) (x' := c0) (nar_lat lc0) n_a11 (w.safeAr A_a11 (by decide)) (fun T h w W V => ?_)
          replace E0 := ext_wr E0 W z_a11
          replace X_a10 := X_a10.wr W
          replace F_value_a10 := F_value_a10.other W (Or.inl ne_a10_a11)
          replace F_coder_a10 := F_coder_a10.other W (Or.inl ne_a10_a11)
          replace A_a11 : Ar Z h a11 .char [(.int c0), (.int (0 : Int32)), (.int (0 : Int32))] := V
          refine g_dup w e14_75 (q := 76) rfl rfl ?_
          refine g_iconst w e14_76 (q := 77) rfl (v := (1 : Int32)) (by decide) ?_
          refine g_iloadN w e14_77 (q := 78) rfl rfl ?_
          refine g_castore w e14_78 (q := 79) rfl A_a11 (i := 1) (by decide) (Nat.le_of_ble_eq_true rfl) (x' := c1) (nar_lat lc1) n_a11 (w.safeAr A_a11 (by decide)) (fun T h w W V => ?_)
          replace E0 := ext_wr E0 W z_a11
          replace X_a10 := X_a10.wr W
          replace F_value_a10 := F_value_a10.other W (Or.inl ne_a10_a11)
          replace F_coder_a10 := F_coder_a10.other W (Or.inl ne_a10_a11)
          replace A_a11 : Ar Z h a11 .char [(.int c0), (.int c1), (.int (0 : Int32))] := V
          refine g_dup w e14_79 (q := 80) rfl rfl ?_
          refine g_iconst w e14_80 (q := 81) rfl (v := (2 : Int32)) (by decide) ?_
          refine g_iloadN w e14_81 (q := 82) rfl rfl ?_
          refine g_castore w e14_82 (q := 83) rfl A_a11 (i := 2) (by decide) (Nat.le_of_ble_eq_true rfl) (x' := c2) (nar_lat lc2) n_a11 (w.safeAr A_a11 (by decide)) (fun T h w W V => ?_)
          replace E0 := ext_wr E0 W z_a11
          replace X_a10 := X_a10.wr W
          replace F_value_a10 := F_value_a10.other W (Or.inl ne_a10_a11)
          replace F_coder_a10 := F_coder_a10.other W (Or.inl ne_a10_a11)
          replace A_a11 : Ar Z h a11 .char [(.int c0), (.int c1), (.int c2)] := V
          obtain ⟨-, kC, dC, KC⟩ := A_a11
          refine g_specialB w (a := a10) (argsL := [.ref a11]) (kc := 1) (ks := 3) (wr := [a10]) (fun s' hZ' => StrChars.Road.backV (W := 1) (len := 3) (n0 := Z.heap.size) hZ' (own_hws hw) (kI := 4) (Hw hw 10 rfl) (cs := [c0, c1, c2]) (n := 3) n_a10 w.old.1 X_a10 F_value_a10 F_coder_a10 KC (w.sta SC_) hz_ rfl rfl (by decide) (by decide) (csS lc0 (csS lc1 (csS lc2 cs0))) rfl (by decide) (by decide)) (fun v h' L q => ⟨q.2.1, q.2.2.1⟩) (in1 (safe_null w.wz.alike (Hw hw 10 rfl) X_a10 F_value_a10)) (in1 n_a10) e14_83 (q := 86) rfl rfl rfl (Hw hw 13 rfl) (Hw hw 14 rfl) (Hw hw 15 rfl) (by decide) pd8 rfl rfl (W := 1) (Nat.le_of_eq rfl) (by decide) (by decide) (fun T h v L w q => ?_)
          obtain ⟨rfl, -, K, X_t, F_c, t_, kb_, -, -, -, F_v, A_t⟩ := q
          replace E0 := ext_keep E0 K z_a10
          have X0 := X_a10
          replace X_a10 := X_a10.keep K
          have S_a10 : Sg Z h a10 [c0, c1, c2] := ⟨Nat.le_of_ble_eq_true rfl, (csS lc0 (csS lc1 (csS lc2 cs0))), X_t, t_, kb_, F_v, F_c, A_t⟩
          show Go p e below _ (State.setTop T (mkF m 86 #[.val (.int n_), .val (.int c0), .val (.int c1), .val (.int c2), .val (.int c3), .val (.int c4)] [(.ref a10)]))
          exact g_reta w e14_86 rfl rfl rfl (by decide) (by decide) ⟨_, rfl, E0, z_a10, by rw [show mk6 n_ c0 c1 c2 c3 c4 = [c0, c1, c2] from by simp [mk6, cd1, cd2, cd3, cd4]]; exact S_a10⟩
      · refine g_new w e14_40 (q := 43) rfl (Hw hw 9 rfl) (Hw hw 10 rfl) (Hw hw 11 rfl) (by decide) (by decide) (fun T h a12 w E g_a12 n_a12 X_a12 D_a12 s_a12 => ?_)
        have z_a12 := Nat.le_trans E0.1 g_a12
        replace E0 := ext_trans E0 E
        have F_value_a12 := D_a12 (Or.inr (Hw hw 25 rfl)) (ty := (.array .byte)) (by decide)
        replace F_value_a12 : Fld Z h a12 "java/lang/String" "value" "[B" .null := F_value_a12
        have F_coder_a12 := D_a12 (Or.inr (Hw hw 26 rfl)) (ty := .byte) (by decide)
        replace F_coder_a12 : Fld Z h a12 "java/lang/String" "coder" "B" (.int (0 : Int32)) := F_coder_a12
        refine g_dup w e14_43 (q := 44) rfl rfl ?_
        refine g_iconst w e14_44 (q := 45) rfl (v := (2 : Int32)) (by decide) ?_
        refine g_newarr w e14_45 (q := 47) rfl (Hw hw 12 rfl) (len := 2) (cap := 2) (by decide) (by decide) (by decide) (by decide) (by decide) (fun T h a13 w E g_a13 n_a13 A_a13 s_a13 => ?_)
        have z_a13 := Nat.le_trans E0.1 g_a13
        have ne_a12_a13 : a12 ≠ a13 := Nat.ne_of_lt (Nat.lt_of_lt_of_le X_a12.lt g_a13)
        replace E0 := ext_trans E0 E
        replace X_a12 := X_a12.ext E
        replace F_value_a12 := F_value_a12.ext E
        replace F_coder_a12 := F_coder_a12.ext E
        replace A_a13 : Ar Z h a13 .char [(.int (0 : Int32)), (.int (0 : Int32))] := A_a13
        refine g_dup w e14_47 (q := 48) rfl rfl ?_
        refine g_iconst w e14_48 (q := 49) rfl (v := (0 : Int32)) (by decide) ?_
        refine g_iloadN w e14_49 (q := 50) rfl rfl ?_
        refine g_castore w e14_50 (q := 51) rfl A_a13 (i := 0) (by decide) (Nat.le_of_ble_eq_true rfl) (x' := c0) (nar_lat lc0) n_a13 (w.safeAr A_a13 (by decide)) (fun T h w W V => ?_)
        replace E0 := ext_wr E0 W z_a13
        replace X_a12 := X_a12.wr W
        replace F_value_a12 := F_value_a12.other W (Or.inl ne_a12_a13)
        replace F_coder_a12 := F_coder_a12.other W (Or.inl ne_a12_a13)
        replace A_a13 : Ar Z h a13 .char [(.int c0), (.int (0 : Int32))] := V
        refine g_dup w e14_51 (q := 52) rfl rfl ?_
        refine g_iconst w e14_52 (q := 53) rfl (v := (1 : Int32)) (by decide) ?_
        refine g_iloadN w e14_53 (q := 54) rfl rfl ?_
        refine g_castore w e14_54 (q := 55) rfl A_a13 (i := 1) (by decide) (Nat.le_of_ble_eq_true rfl) (x' := c1) (nar_lat lc1) n_a13 (w.safeAr A_a13 (by decide)) (fun T h w W V => ?_)
        replace E0 := ext_wr E0 W z_a13
        replace X_a12 := X_a12.wr W
        replace F_value_a12 := F_value_a12.other W (Or.inl ne_a12_a13)
        replace F_coder_a12 := F_coder_a12.other W (Or.inl ne_a12_a13)
        replace A_a13 : Ar Z h a13 .char [(.int c0), (.int c1)] := V
        obtain ⟨-, kC, dC, KC⟩ := A_a13
        refine g_specialB w (a := a12) (argsL := [.ref a13]) (kc := 1) (ks := 2) (wr := [a12]) (fun s' hZ' => StrChars.Road.backV (W := 1) (len := 3) (n0 := Z.heap.size) hZ' (own_hws hw) (kI := 4) (Hw hw 10 rfl) (cs := [c0, c1]) (n := 2) n_a12 w.old.1 X_a12 F_value_a12 F_coder_a12 KC (w.sta SC_) hz_ rfl rfl (by decide) (by decide) (csS lc0 (csS lc1 cs0)) rfl (by decide) (by decide)) (fun v h' L q => ⟨q.2.1, q.2.2.1⟩) (in1 (safe_null w.wz.alike (Hw hw 10 rfl) X_a12 F_value_a12)) (in1 n_a12) e14_55 (q := 58) rfl rfl rfl (Hw hw 13 rfl) (Hw hw 14 rfl) (Hw hw 15 rfl) (by decide) pd8 rfl rfl (W := 1) (Nat.le_of_eq rfl) (by decide) (by decide) (fun T h v L w q => ?_)
        obtain ⟨rfl, -, K, X_t, F_c, t_, kb_, -, -, -, F_v, A_t⟩ := q
        replace E0 := ext_keep E0 K z_a12
        have X0 := X_a12
        replace X_a12 := X_a12.keep K
        have S_a12 : Sg Z h a12 [c0, c1] := ⟨Nat.le_of_ble_eq_true rfl, (csS lc0 (csS lc1 cs0)), X_t, t_, kb_, F_v, F_c, A_t⟩
        show Go p e below _ (State.setTop T (mkF m 58 #[.val (.int n_), .val (.int c0), .val (.int c1), .val (.int c2), .val (.int c3), .val (.int c4)] [(.ref a12)]))
        exact g_reta w e14_58 rfl rfl rfl (by decide) (by decide) ⟨_, rfl, E0, z_a12, by rw [show mk6 n_ c0 c1 c2 c3 c4 = [c0, c1] from by simp [mk6, cd1, cd2, cd3]]; exact S_a12⟩
    · refine g_new w e14_20 (q := 23) rfl (Hw hw 9 rfl) (Hw hw 10 rfl) (Hw hw 11 rfl) (by decide) (by decide) (fun T h a14 w E g_a14 n_a14 X_a14 D_a14 s_a14 => ?_)
      have z_a14 := Nat.le_trans E0.1 g_a14
      replace E0 := ext_trans E0 E
      have F_value_a14 := D_a14 (Or.inr (Hw hw 25 rfl)) (ty := (.array .byte)) (by decide)
      replace F_value_a14 : Fld Z h a14 "java/lang/String" "value" "[B" .null := F_value_a14
      have F_coder_a14 := D_a14 (Or.inr (Hw hw 26 rfl)) (ty := .byte) (by decide)
      replace F_coder_a14 : Fld Z h a14 "java/lang/String" "coder" "B" (.int (0 : Int32)) := F_coder_a14
      refine g_dup w e14_23 (q := 24) rfl rfl ?_
      refine g_iconst w e14_24 (q := 25) rfl (v := (1 : Int32)) (by decide) ?_
      refine g_newarr w e14_25 (q := 27) rfl (Hw hw 12 rfl) (len := 1) (cap := 1) (by decide) (by decide) (by decide) (by decide) (by decide) (fun T h a15 w E g_a15 n_a15 A_a15 s_a15 => ?_)
      have z_a15 := Nat.le_trans E0.1 g_a15
      have ne_a14_a15 : a14 ≠ a15 := Nat.ne_of_lt (Nat.lt_of_lt_of_le X_a14.lt g_a15)
      replace E0 := ext_trans E0 E
      replace X_a14 := X_a14.ext E
      replace F_value_a14 := F_value_a14.ext E
      replace F_coder_a14 := F_coder_a14.ext E
      replace A_a15 : Ar Z h a15 .char [(.int (0 : Int32))] := A_a15
      refine g_dup w e14_27 (q := 28) rfl rfl ?_
      refine g_iconst w e14_28 (q := 29) rfl (v := (0 : Int32)) (by decide) ?_
      refine g_iloadN w e14_29 (q := 30) rfl rfl ?_
      refine g_castore w e14_30 (q := 31) rfl A_a15 (i := 0) (by decide) (Nat.le_of_ble_eq_true rfl) (x' := c0) (nar_lat lc0) n_a15 (w.safeAr A_a15 (by decide)) (fun T h w W V => ?_)
      replace E0 := ext_wr E0 W z_a15
      replace X_a14 := X_a14.wr W
      replace F_value_a14 := F_value_a14.other W (Or.inl ne_a14_a15)
      replace F_coder_a14 := F_coder_a14.other W (Or.inl ne_a14_a15)
      replace A_a15 : Ar Z h a15 .char [(.int c0)] := V
      obtain ⟨-, kC, dC, KC⟩ := A_a15
      refine g_specialB w (a := a14) (argsL := [.ref a15]) (kc := 1) (ks := 1) (wr := [a14]) (fun s' hZ' => StrChars.Road.backV (W := 1) (len := 3) (n0 := Z.heap.size) hZ' (own_hws hw) (kI := 4) (Hw hw 10 rfl) (cs := [c0]) (n := 1) n_a14 w.old.1 X_a14 F_value_a14 F_coder_a14 KC (w.sta SC_) hz_ rfl rfl (by decide) (by decide) (csS lc0 cs0) rfl (by decide) (by decide)) (fun v h' L q => ⟨q.2.1, q.2.2.1⟩) (in1 (safe_null w.wz.alike (Hw hw 10 rfl) X_a14 F_value_a14)) (in1 n_a14) e14_31 (q := 34) rfl rfl rfl (Hw hw 13 rfl) (Hw hw 14 rfl) (Hw hw 15 rfl) (by decide) pd8 rfl rfl (W := 1) (Nat.le_of_eq rfl) (by decide) (by decide) (fun T h v L w q => ?_)
      obtain ⟨rfl, -, K, X_t, F_c, t_, kb_, -, -, -, F_v, A_t⟩ := q
      replace E0 := ext_keep E0 K z_a14
      have X0 := X_a14
      replace X_a14 := X_a14.keep K
      have S_a14 : Sg Z h a14 [c0] := ⟨Nat.le_of_ble_eq_true rfl, (csS lc0 cs0), X_t, t_, kb_, F_v, F_c, A_t⟩
      show Go p e below _ (State.setTop T (mkF m 34 #[.val (.int n_), .val (.int c0), .val (.int c1), .val (.int c2), .val (.int c3), .val (.int c4)] [(.ref a14)]))
      exact g_reta w e14_34 rfl rfl rfl (by decide) (by decide) ⟨_, rfl, E0, z_a14, by rw [show mk6 n_ c0 c1 c2 c3 c4 = [c0] from by simp [mk6, cd1, cd2]]; exact S_a14⟩
  · refine g_new w e14_4 (q := 7) rfl (Hw hw 9 rfl) (Hw hw 10 rfl) (Hw hw 11 rfl) (by decide) (by decide) (fun T h a16 w E g_a16 n_a16 X_a16 D_a16 s_a16 => ?_)
    have z_a16 := Nat.le_trans E0.1 g_a16
    replace E0 := ext_trans E0 E
    have F_value_a16 := D_a16 (Or.inr (Hw hw 25 rfl)) (ty := (.array .byte)) (by decide)
    replace F_value_a16 : Fld Z h a16 "java/lang/String" "value" "[B" .null := F_value_a16
    have F_coder_a16 := D_a16 (Or.inr (Hw hw 26 rfl)) (ty := .byte) (by decide)
    replace F_coder_a16 : Fld Z h a16 "java/lang/String" "coder" "B" (.int (0 : Int32)) := F_coder_a16
    refine g_dup w e14_7 (q := 8) rfl rfl ?_
    refine g_iconst w e14_8 (q := 9) rfl (v := (0 : Int32)) (by decide) ?_
    refine g_newarr w e14_9 (q := 11) rfl (Hw hw 12 rfl) (len := 0) (cap := 0) (by decide) (by decide) (by decide) (by decide) (by decide) (fun T h a17 w E g_a17 n_a17 A_a17 s_a17 => ?_)
    have z_a17 := Nat.le_trans E0.1 g_a17
    have ne_a16_a17 : a16 ≠ a17 := Nat.ne_of_lt (Nat.lt_of_lt_of_le X_a16.lt g_a17)
    replace E0 := ext_trans E0 E
    replace X_a16 := X_a16.ext E
    replace F_value_a16 := F_value_a16.ext E
    replace F_coder_a16 := F_coder_a16.ext E
    replace A_a17 : Ar Z h a17 .char [] := A_a17
    refine g_special w (con_new1E l Z a0 hw a16 a17 _ w.old X_a16 F_value_a16 F_coder_a16 n_a16 A_a17 ne_a16_a17.symm) no0 e14_11 (q := 14) rfl rfl rfl (Hw hw 13 rfl) (Hw hw 14 rfl) (Hw hw 11 rfl) (Hw hw 15 rfl) (by decide) pd8 rfl rfl (W := 1) (Nat.le_of_eq rfl) (by decide) (by decide) (by decide) (by decide) (fun T h v w gs C q => ?_)
    obtain ⟨rfl, K, S_a16⟩ := q
    replace E0 := ext_keep E0 K z_a16
    have X0 := X_a16
    replace X_a16 := X_a16.keep K
    replace A_a17 := A_a17.keep K (not1 ne_a16_a17.symm)
    show Go p e below _ (State.setTop T (mkF m 14 #[.val (.int n_), .val (.int c0), .val (.int c1), .val (.int c2), .val (.int c3), .val (.int c4)] [(.ref a16)]))
    exact g_reta w e14_14 rfl rfl rfl (by decide) (by decide) ⟨_, rfl, E0, z_a16, by rw [show mk6 n_ c0 c1 c2 c3 c4 = [] from by simp [mk6, cd1]]; exact S_a16⟩
theorem e15_0 : decode method_5_code 0 = .ok (.iload_n 0, 1) := by decide +kernel
theorem e15_1 : decode method_5_code 1 = .ok (.bipush 48, 2) := by decide +kernel
theorem e15_3 : decode method_5_code 3 = .ok (.if_icmp .lt 11, 3) := by decide +kernel
theorem e15_6 : decode method_5_code 6 = .ok (.iload_n 0, 1) := by decide +kernel
theorem e15_7 : decode method_5_code 7 = .ok (.bipush 57, 2) := by decide +kernel
theorem e15_9 : decode method_5_code 9 = .ok (.if_icmp .gt 5, 3) := by decide +kernel
theorem e15_12 : decode method_5_code 12 = .ok (.iconst 0, 1) := by decide +kernel
theorem e15_13 : decode method_5_code 13 = .ok (.ireturn, 1) := by decide +kernel
theorem e15_14 : decode method_5_code 14 = .ok (.iload_n 0, 1) := by decide +kernel
theorem e15_15 : decode method_5_code 15 = .ok (.bipush 97, 2) := by decide +kernel
theorem e15_17 : decode method_5_code 17 = .ok (.if_icmp .lt 9, 3) := by decide +kernel
theorem e15_20 : decode method_5_code 20 = .ok (.iload_n 0, 1) := by decide +kernel
theorem e15_21 : decode method_5_code 21 = .ok (.bipush 122, 2) := by decide +kernel
theorem e15_23 : decode method_5_code 23 = .ok (.if_icmp .le 33, 3) := by decide +kernel
theorem e15_26 : decode method_5_code 26 = .ok (.iload_n 0, 1) := by decide +kernel
theorem e15_27 : decode method_5_code 27 = .ok (.bipush 65, 2) := by decide +kernel
theorem e15_29 : decode method_5_code 29 = .ok (.if_icmp .lt 9, 3) := by decide +kernel
theorem e15_32 : decode method_5_code 32 = .ok (.iload_n 0, 1) := by decide +kernel
theorem e15_33 : decode method_5_code 33 = .ok (.bipush 90, 2) := by decide +kernel
theorem e15_35 : decode method_5_code 35 = .ok (.if_icmp .le 21, 3) := by decide +kernel
theorem e15_38 : decode method_5_code 38 = .ok (.iload_n 0, 1) := by decide +kernel
theorem e15_39 : decode method_5_code 39 = .ok (.bipush 46, 2) := by decide +kernel
theorem e15_41 : decode method_5_code 41 = .ok (.if_icmp .eq 15, 3) := by decide +kernel
theorem e15_44 : decode method_5_code 44 = .ok (.iload_n 0, 1) := by decide +kernel
theorem e15_45 : decode method_5_code 45 = .ok (.bipush 43, 2) := by decide +kernel
theorem e15_47 : decode method_5_code 47 = .ok (.if_icmp .eq 9, 3) := by decide +kernel
theorem e15_50 : decode method_5_code 50 = .ok (.iload_n 0, 1) := by decide +kernel
theorem e15_51 : decode method_5_code 51 = .ok (.bipush 126, 2) := by decide +kernel
theorem e15_53 : decode method_5_code 53 = .ok (.if_icmp .ne 5, 3) := by decide +kernel
theorem e15_56 : decode method_5_code 56 = .ok (.iconst 1, 1) := by decide +kernel
theorem e15_57 : decode method_5_code 57 = .ok (.ireturn, 1) := by decide +kernel
theorem e15_58 : decode method_5_code 58 = .ok (.iload_n 0, 1) := by decide +kernel
theorem e15_59 : decode method_5_code 59 = .ok (.bipush 45, 2) := by decide +kernel
theorem e15_61 : decode method_5_code 61 = .ok (.if_icmp .ne 5, 3) := by decide +kernel
theorem e15_64 : decode method_5_code 64 = .ok (.iconst 2, 1) := by decide +kernel
theorem e15_65 : decode method_5_code 65 = .ok (.ireturn, 1) := by decide +kernel
theorem e15_66 : decode method_5_code 66 = .ok (.iload_n 0, 1) := by decide +kernel
theorem e15_67 : decode method_5_code 67 = .ok (.bipush 58, 2) := by decide +kernel
theorem e15_69 : decode method_5_code 69 = .ok (.if_icmp .ne 5, 3) := by decide +kernel
theorem e15_72 : decode method_5_code 72 = .ok (.iconst 3, 1) := by decide +kernel
theorem e15_73 : decode method_5_code 73 = .ok (.ireturn, 1) := by decide +kernel
theorem e15_74 : decode method_5_code 74 = .ok (.iconst 4, 1) := by decide +kernel
theorem e15_75 : decode method_5_code 75 = .ok (.ireturn, 1) := by decide +kernel
set_option maxRecDepth 65536 in
set_option maxHeartbeats 40000000 in
theorem con_kd (l : Launch) (Z : State) (a0 : Array Value) (hw : ∀ d ∈ tables_1, d.before a0 Z = true) (c : Int32) (h0 : Heap) (O0 : Ext Z.heap h0) :
    Con l Z consts_1 false (⟨"com/example/deepquery/deepquery/DebianVersionIsVersionPinLaw", "kind", "(C)I"⟩ : MethodName) method_5_code 1 (some .int) [] ({ frames := 0, cells := 0, slots := 0, locals := 0 } : Room) #[(.int c)] [] h0 (fun v h => v = some (.int (kd c)) ∧ h = h0) := by
  refine Con.intro (Ls := #[.val (.int c)]) (plainFor_of_name pn2) (own_EL hw) O0 (fun m => by first | (simp [entryFrame, mkF, argsToLocals, Value.category]; done) | rfl) (fun p e s m below meth cc_ T w sf_ => ?_)
  have E0 := ext_refl h0
  refine g_iloadN w e15_0 (q := 1) rfl rfl ?_
  refine g_bipush w e15_1 (q := 3) rfl (v := (48 : Int32)) (by decide) ?_
  refine g_ic_lt w e15_3 (by decide) (q := 14) (by decide) (q' := 6) rfl (fun cd1 => ?_) (fun cd1 => ?_)
  · refine g_iloadN w e15_14 (q := 15) rfl rfl ?_
    refine g_bipush w e15_15 (q := 17) rfl (v := (97 : Int32)) (by decide) ?_
    refine g_ic_lt w e15_17 (by decide) (q := 26) (by decide) (q' := 20) rfl (fun cd2 => ?_) (fun cd2 => ?_)
    · refine g_iloadN w e15_26 (q := 27) rfl rfl ?_
      refine g_bipush w e15_27 (q := 29) rfl (v := (65 : Int32)) (by decide) ?_
      refine g_ic_lt w e15_29 (by decide) (q := 38) (by decide) (q' := 32) rfl (fun cd3 => ?_) (fun cd3 => ?_)
      · refine g_iloadN w e15_38 (q := 39) rfl rfl ?_
        refine g_bipush w e15_39 (q := 41) rfl (v := (46 : Int32)) (by decide) ?_
        refine g_ic_eq w e15_41 (by decide) (q := 56) (by decide) (q' := 44) rfl (fun cd4 => ?_) (fun cd4 => ?_)
        · refine g_iconst w e15_56 (q := 57) rfl (v := (1 : Int32)) (by decide) ?_
          exact g_reti w e15_57 rfl (by decide) (by decide) ⟨by simp [kd, cd1, cd2, cd3, cd4], rfl⟩
        · refine g_iloadN w e15_44 (q := 45) rfl rfl ?_
          refine g_bipush w e15_45 (q := 47) rfl (v := (43 : Int32)) (by decide) ?_
          refine g_ic_eq w e15_47 (by decide) (q := 56) (by decide) (q' := 50) rfl (fun cd5 => ?_) (fun cd5 => ?_)
          · refine g_iconst w e15_56 (q := 57) rfl (v := (1 : Int32)) (by decide) ?_
            exact g_reti w e15_57 rfl (by decide) (by decide) ⟨by simp [kd, cd1, cd2, cd3, cd4, cd5], rfl⟩
          · refine g_iloadN w e15_50 (q := 51) rfl rfl ?_
            refine g_bipush w e15_51 (q := 53) rfl (v := (126 : Int32)) (by decide) ?_
            refine g_ic_ne w e15_53 (by decide) (q := 58) (by decide) (q' := 56) rfl (fun cd6 => ?_) (fun cd6 => ?_)
            · refine g_iloadN w e15_58 (q := 59) rfl rfl ?_
              refine g_bipush w e15_59 (q := 61) rfl (v := (45 : Int32)) (by decide) ?_
              refine g_ic_ne w e15_61 (by decide) (q := 66) (by decide) (q' := 64) rfl (fun cd7 => ?_) (fun cd7 => ?_)
              · refine g_iloadN w e15_66 (q := 67) rfl rfl ?_
                refine g_bipush w e15_67 (q := 69) rfl (v := (58 : Int32)) (by decide) ?_
                refine g_ic_ne w e15_69 (by decide) (q := 74) (by decide) (q' := 72) rfl (fun cd8 => ?_) (fun cd8 => ?_)
                · refine g_iconst w e15_74 (q := 75) rfl (v := (4 : Int32)) (by decide) ?_
                  exact g_reti w e15_75 rfl (by decide) (by decide) ⟨by simp [kd, cd1, cd2, cd3, cd4, cd5, cd6, cd7, cd8], rfl⟩
                · refine g_iconst w e15_72 (q := 73) rfl (v := (3 : Int32)) (by decide) ?_
                  exact g_reti w e15_73 rfl (by decide) (by decide) ⟨by simp [kd, cd1, cd2, cd3, cd4, cd5, cd6, cd7, cd8], rfl⟩
              · refine g_iconst w e15_64 (q := 65) rfl (v := (2 : Int32)) (by decide) ?_
                exact g_reti w e15_65 rfl (by decide) (by decide) ⟨by simp [kd, cd1, cd2, cd3, cd4, cd5, cd6, cd7], rfl⟩
            · refine g_iconst w e15_56 (q := 57) rfl (v := (1 : Int32)) (by decide) ?_
              exact g_reti w e15_57 rfl (by decide) (by decide) ⟨by simp [kd, cd1, cd2, cd3, cd4, cd5, cd6], rfl⟩
      · refine g_iloadN w e15_32 (q := 33) rfl rfl ?_
        refine g_bipush w e15_33 (q := 35) rfl (v := (90 : Int32)) (by decide) ?_
        refine g_ic_le w e15_35 (by decide) (q := 56) (by decide) (q' := 38) rfl (fun cd9 => ?_) (fun cd9 => ?_)
        · refine g_iconst w e15_56 (q := 57) rfl (v := (1 : Int32)) (by decide) ?_
          exact g_reti w e15_57 rfl (by decide) (by decide) ⟨by simp [kd, cd1, cd2, cd3, cd9], rfl⟩
        · refine g_iloadN w e15_38 (q := 39) rfl rfl ?_
          refine g_bipush w e15_39 (q := 41) rfl (v := (46 : Int32)) (by decide) ?_
          refine g_ic_eq w e15_41 (by decide) (q := 56) (by decide) (q' := 44) rfl (fun cd10 => ?_) (fun cd10 => ?_)
          · refine g_iconst w e15_56 (q := 57) rfl (v := (1 : Int32)) (by decide) ?_
            exact g_reti w e15_57 rfl (by decide) (by decide) ⟨by simp [kd, cd1, cd2, cd3, cd9, cd10], rfl⟩
          · refine g_iloadN w e15_44 (q := 45) rfl rfl ?_
            refine g_bipush w e15_45 (q := 47) rfl (v := (43 : Int32)) (by decide) ?_
            refine g_ic_eq w e15_47 (by decide) (q := 56) (by decide) (q' := 50) rfl (fun cd11 => ?_) (fun cd11 => ?_)
            · refine g_iconst w e15_56 (q := 57) rfl (v := (1 : Int32)) (by decide) ?_
              exact g_reti w e15_57 rfl (by decide) (by decide) ⟨by simp [kd, cd1, cd2, cd3, cd9, cd10, cd11], rfl⟩
            · refine g_iloadN w e15_50 (q := 51) rfl rfl ?_
              refine g_bipush w e15_51 (q := 53) rfl (v := (126 : Int32)) (by decide) ?_
              refine g_ic_ne w e15_53 (by decide) (q := 58) (by decide) (q' := 56) rfl (fun cd12 => ?_) (fun cd12 => ?_)
              · refine g_iloadN w e15_58 (q := 59) rfl rfl ?_
                refine g_bipush w e15_59 (q := 61) rfl (v := (45 : Int32)) (by decide) ?_
                refine g_ic_ne w e15_61 (by decide) (q := 66) (by decide) (q' := 64) rfl (fun cd13 => ?_) (fun cd13 => ?_)
                · refine g_iloadN w e15_66 (q := 67) rfl rfl ?_
                  refine g_bipush w e15_67 (q := 69) rfl (v := (58 : Int32)) (by decide) ?_
                  refine g_ic_ne w e15_69 (by decide) (q := 74) (by decide) (q' := 72) rfl (fun cd14 => ?_) (fun cd14 => ?_)
                  · refine g_iconst w e15_74 (q := 75) rfl (v := (4 : Int32)) (by decide) ?_
                    exact g_reti w e15_75 rfl (by decide) (by decide) ⟨by simp [kd, cd1, cd2, cd3, cd9, cd10, cd11, cd12, cd13, cd14], rfl⟩
                  · refine g_iconst w e15_72 (q := 73) rfl (v := (3 : Int32)) (by decide) ?_
                    exact g_reti w e15_73 rfl (by decide) (by decide) ⟨by simp [kd, cd1, cd2, cd3, cd9, cd10, cd11, cd12, cd13, cd14], rfl⟩
                · refine g_iconst w e15_64 (q := 65) rfl (v := (2 : Int32)) (by decide) ?_
                  exact g_reti w e15_65 rfl (by decide) (by decide) ⟨by simp [kd, cd1, cd2, cd3, cd9, cd10, cd11, cd12, cd13], rfl⟩
              · refine g_iconst w e15_56 (q := 57) rfl (v := (1 : Int32)) (by decide) ?_
                exact g_reti w e15_57 rfl (by decide) (by decide) ⟨by simp [kd, cd1, cd2, cd3, cd9, cd10, cd11, cd12], rfl⟩
    · refine g_iloadN w e15_20 (q := 21) rfl rfl ?_
      refine g_bipush w e15_21 (q := 23) rfl (v := (122 : Int32)) (by decide) ?_
      refine g_ic_le w e15_23 (by decide) (q := 56) (by decide) (q' := 26) rfl (fun cd15 => ?_) (fun cd15 => ?_)
      · refine g_iconst w e15_56 (q := 57) rfl (v := (1 : Int32)) (by decide) ?_
        exact g_reti w e15_57 rfl (by decide) (by decide) ⟨by simp [kd, cd1, cd2, cd15], rfl⟩
      · refine g_iloadN w e15_26 (q := 27) rfl rfl ?_
        refine g_bipush w e15_27 (q := 29) rfl (v := (65 : Int32)) (by decide) ?_
        refine g_ic_lt w e15_29 (by decide) (q := 38) (by decide) (q' := 32) rfl (fun cd16 => ?_) (fun cd16 => ?_)
        · refine g_iloadN w e15_38 (q := 39) rfl rfl ?_
          refine g_bipush w e15_39 (q := 41) rfl (v := (46 : Int32)) (by decide) ?_
          refine g_ic_eq w e15_41 (by decide) (q := 56) (by decide) (q' := 44) rfl (fun cd17 => ?_) (fun cd17 => ?_)
          · refine g_iconst w e15_56 (q := 57) rfl (v := (1 : Int32)) (by decide) ?_
            exact g_reti w e15_57 rfl (by decide) (by decide) ⟨by simp [kd, cd1, cd2, cd15, cd16, cd17], rfl⟩
          · refine g_iloadN w e15_44 (q := 45) rfl rfl ?_
            refine g_bipush w e15_45 (q := 47) rfl (v := (43 : Int32)) (by decide) ?_
            refine g_ic_eq w e15_47 (by decide) (q := 56) (by decide) (q' := 50) rfl (fun cd18 => ?_) (fun cd18 => ?_)
            · refine g_iconst w e15_56 (q := 57) rfl (v := (1 : Int32)) (by decide) ?_
              exact g_reti w e15_57 rfl (by decide) (by decide) ⟨by simp [kd, cd1, cd2, cd15, cd16, cd17, cd18], rfl⟩
            · refine g_iloadN w e15_50 (q := 51) rfl rfl ?_
              refine g_bipush w e15_51 (q := 53) rfl (v := (126 : Int32)) (by decide) ?_
              refine g_ic_ne w e15_53 (by decide) (q := 58) (by decide) (q' := 56) rfl (fun cd19 => ?_) (fun cd19 => ?_)
              · refine g_iloadN w e15_58 (q := 59) rfl rfl ?_
                refine g_bipush w e15_59 (q := 61) rfl (v := (45 : Int32)) (by decide) ?_
                refine g_ic_ne w e15_61 (by decide) (q := 66) (by decide) (q' := 64) rfl (fun cd20 => ?_) (fun cd20 => ?_)
                · refine g_iloadN w e15_66 (q := 67) rfl rfl ?_
                  refine g_bipush w e15_67 (q := 69) rfl (v := (58 : Int32)) (by decide) ?_
                  refine g_ic_ne w e15_69 (by decide) (q := 74) (by decide) (q' := 72) rfl (fun cd21 => ?_) (fun cd21 => ?_)
                  · refine g_iconst w e15_74 (q := 75) rfl (v := (4 : Int32)) (by decide) ?_
                    exact g_reti w e15_75 rfl (by decide) (by decide) ⟨by simp [kd, cd1, cd2, cd15, cd16, cd17, cd18, cd19, cd20, cd21], rfl⟩
                  · refine g_iconst w e15_72 (q := 73) rfl (v := (3 : Int32)) (by decide) ?_
                    exact g_reti w e15_73 rfl (by decide) (by decide) ⟨by simp [kd, cd1, cd2, cd15, cd16, cd17, cd18, cd19, cd20, cd21], rfl⟩
                · refine g_iconst w e15_64 (q := 65) rfl (v := (2 : Int32)) (by decide) ?_
                  exact g_reti w e15_65 rfl (by decide) (by decide) ⟨by simp [kd, cd1, cd2, cd15, cd16, cd17, cd18, cd19, cd20], rfl⟩
              · refine g_iconst w e15_56 (q := 57) rfl (v := (1 : Int32)) (by decide) ?_
                exact g_reti w e15_57 rfl (by decide) (by decide) ⟨by simp [kd, cd1, cd2, cd15, cd16, cd17, cd18, cd19], rfl⟩
        · refine g_iloadN w e15_32 (q := 33) rfl rfl ?_
          refine g_bipush w e15_33 (q := 35) rfl (v := (90 : Int32)) (by decide) ?_
          refine g_ic_le w e15_35 (by decide) (q := 56) (by decide) (q' := 38) rfl (fun cd22 => ?_) (fun cd22 => ?_)
          · refine g_iconst w e15_56 (q := 57) rfl (v := (1 : Int32)) (by decide) ?_
            exact g_reti w e15_57 rfl (by decide) (by decide) ⟨by simp [kd, cd1, cd2, cd15, cd16, cd22], rfl⟩
          · refine g_iloadN w e15_38 (q := 39) rfl rfl ?_
            refine g_bipush w e15_39 (q := 41) rfl (v := (46 : Int32)) (by decide) ?_
            refine g_ic_eq w e15_41 (by decide) (q := 56) (by decide) (q' := 44) rfl (fun cd23 => ?_) (fun cd23 => ?_)
            · refine g_iconst w e15_56 (q := 57) rfl (v := (1 : Int32)) (by decide) ?_
              exact g_reti w e15_57 rfl (by decide) (by decide) ⟨by simp [kd, cd1, cd2, cd15, cd16, cd22, cd23], rfl⟩
            · refine g_iloadN w e15_44 (q := 45) rfl rfl ?_
              refine g_bipush w e15_45 (q := 47) rfl (v := (43 : Int32)) (by decide) ?_
              refine g_ic_eq w e15_47 (by decide) (q := 56) (by decide) (q' := 50) rfl (fun cd24 => ?_) (fun cd24 => ?_)
              · refine g_iconst w e15_56 (q := 57) rfl (v := (1 : Int32)) (by decide) ?_
                exact g_reti w e15_57 rfl (by decide) (by decide) ⟨by simp [kd, cd1, cd2, cd15, cd16, cd22, cd23, cd24], rfl⟩
              · refine g_iloadN w e15_50 (q := 51) rfl rfl ?_
                refine g_bipush w e15_51 (q := 53) rfl (v := (126 : Int32)) (by decide) ?_
                refine g_ic_ne w e15_53 (by decide) (q := 58) (by decide) (q' := 56) rfl (fun cd25 => ?_) (fun cd25 => ?_)
                · refine g_iloadN w e15_58 (q := 59) rfl rfl ?_
                  refine g_bipush w e15_59 (q := 61) rfl (v := (45 : Int32)) (by decide) ?_
                  refine g_ic_ne w e15_61 (by decide) (q := 66) (by decide) (q' := 64) rfl (fun cd26 => ?_) (fun cd26 => ?_)
                  · refine g_iloadN w e15_66 (q := 67) rfl rfl ?_
                    refine g_bipush w e15_67 (q := 69) rfl (v := (58 : Int32)) (by decide) ?_
                    refine g_ic_ne w e15_69 (by decide) (q := 74) (by decide) (q' := 72) rfl (fun cd27 => ?_) (fun cd27 => ?_)
                    · refine g_iconst w e15_74 (q := 75) rfl (v := (4 : Int32)) (by decide) ?_
                      exact g_reti w e15_75 rfl (by decide) (by decide) ⟨by simp [kd, cd1, cd2, cd15, cd16, cd22, cd23, cd24, cd25, cd26, cd27], rfl⟩
                    · refine g_iconst w e15_72 (q := 73) rfl (v := (3 : Int32)) (by decide) ?_
                      exact g_reti w e15_73 rfl (by decide) (by decide) ⟨by simp [kd, cd1, cd2, cd15, cd16, cd22, cd23, cd24, cd25, cd26, cd27], rfl⟩
                  · refine g_iconst w e15_64 (q := 65) rfl (v := (2 : Int32)) (by decide) ?_
                    exact g_reti w e15_65 rfl (by decide) (by decide) ⟨by simp [kd, cd1, cd2, cd15, cd16, cd22, cd23, cd24, cd25, cd26], rfl⟩
                · refine g_iconst w e15_56 (q := 57) rfl (v := (1 : Int32)) (by decide) ?_
                  exact g_reti w e15_57 rfl (by decide) (by decide) ⟨by simp [kd, cd1, cd2, cd15, cd16, cd22, cd23, cd24, cd25], rfl⟩
  · refine g_iloadN w e15_6 (q := 7) rfl rfl ?_
    refine g_bipush w e15_7 (q := 9) rfl (v := (57 : Int32)) (by decide) ?_
    refine g_ic_gt w e15_9 (by decide) (q := 14) (by decide) (q' := 12) rfl (fun cd28 => ?_) (fun cd28 => ?_)
    · refine g_iloadN w e15_14 (q := 15) rfl rfl ?_
      refine g_bipush w e15_15 (q := 17) rfl (v := (97 : Int32)) (by decide) ?_
      refine g_ic_lt w e15_17 (by decide) (q := 26) (by decide) (q' := 20) rfl (fun cd29 => ?_) (fun cd29 => ?_)
      · refine g_iloadN w e15_26 (q := 27) rfl rfl ?_
        refine g_bipush w e15_27 (q := 29) rfl (v := (65 : Int32)) (by decide) ?_
        refine g_ic_lt w e15_29 (by decide) (q := 38) (by decide) (q' := 32) rfl (fun cd30 => ?_) (fun cd30 => ?_)
        · refine g_iloadN w e15_38 (q := 39) rfl rfl ?_
          refine g_bipush w e15_39 (q := 41) rfl (v := (46 : Int32)) (by decide) ?_
          refine g_ic_eq w e15_41 (by decide) (q := 56) (by decide) (q' := 44) rfl (fun cd31 => ?_) (fun cd31 => ?_)
          · refine g_iconst w e15_56 (q := 57) rfl (v := (1 : Int32)) (by decide) ?_
            exact g_reti w e15_57 rfl (by decide) (by decide) ⟨by simp [kd, cd1, cd28, cd29, cd30, cd31], rfl⟩
          · refine g_iloadN w e15_44 (q := 45) rfl rfl ?_
            refine g_bipush w e15_45 (q := 47) rfl (v := (43 : Int32)) (by decide) ?_
            refine g_ic_eq w e15_47 (by decide) (q := 56) (by decide) (q' := 50) rfl (fun cd32 => ?_) (fun cd32 => ?_)
            · refine g_iconst w e15_56 (q := 57) rfl (v := (1 : Int32)) (by decide) ?_
              exact g_reti w e15_57 rfl (by decide) (by decide) ⟨by simp [kd, cd1, cd28, cd29, cd30, cd31, cd32], rfl⟩
            · refine g_iloadN w e15_50 (q := 51) rfl rfl ?_
              refine g_bipush w e15_51 (q := 53) rfl (v := (126 : Int32)) (by decide) ?_
              refine g_ic_ne w e15_53 (by decide) (q := 58) (by decide) (q' := 56) rfl (fun cd33 => ?_) (fun cd33 => ?_)
              · refine g_iloadN w e15_58 (q := 59) rfl rfl ?_
                refine g_bipush w e15_59 (q := 61) rfl (v := (45 : Int32)) (by decide) ?_
                refine g_ic_ne w e15_61 (by decide) (q := 66) (by decide) (q' := 64) rfl (fun cd34 => ?_) (fun cd34 => ?_)
                · refine g_iloadN w e15_66 (q := 67) rfl rfl ?_
                  refine g_bipush w e15_67 (q := 69) rfl (v := (58 : Int32)) (by decide) ?_
                  refine g_ic_ne w e15_69 (by decide) (q := 74) (by decide) (q' := 72) rfl (fun cd35 => ?_) (fun cd35 => ?_)
                  · refine g_iconst w e15_74 (q := 75) rfl (v := (4 : Int32)) (by decide) ?_
                    exact g_reti w e15_75 rfl (by decide) (by decide) ⟨by simp [kd, cd1, cd28, cd29, cd30, cd31, cd32, cd33, cd34, cd35], rfl⟩
                  · refine g_iconst w e15_72 (q := 73) rfl (v := (3 : Int32)) (by decide) ?_
                    exact g_reti w e15_73 rfl (by decide) (by decide) ⟨by simp [kd, cd1, cd28, cd29, cd30, cd31, cd32, cd33, cd34, cd35], rfl⟩
                · refine g_iconst w e15_64 (q := 65) rfl (v := (2 : Int32)) (by decide) ?_
                  exact g_reti w e15_65 rfl (by decide) (by decide) ⟨by simp [kd, cd1, cd28, cd29, cd30, cd31, cd32, cd33, cd34], rfl⟩
              · refine g_iconst w e15_56 (q := 57) rfl (v := (1 : Int32)) (by decide) ?_
                exact g_reti w e15_57 rfl (by decide) (by decide) ⟨by simp [kd, cd1, cd28, cd29, cd30, cd31, cd32, cd33], rfl⟩
        · refine g_iloadN w e15_32 (q := 33) rfl rfl ?_
          refine g_bipush w e15_33 (q := 35) rfl (v := (90 : Int32)) (by decide) ?_
          refine g_ic_le w e15_35 (by decide) (q := 56) (by decide) (q' := 38) rfl (fun cd36 => ?_) (fun cd36 => ?_)
          · refine g_iconst w e15_56 (q := 57) rfl (v := (1 : Int32)) (by decide) ?_
            exact g_reti w e15_57 rfl (by decide) (by decide) ⟨by simp [kd, cd1, cd28, cd29, cd30, cd36], rfl⟩
          · refine g_iloadN w e15_38 (q := 39) rfl rfl ?_
            refine g_bipush w e15_39 (q := 41) rfl (v := (46 : Int32)) (by decide) ?_
            refine g_ic_eq w e15_41 (by decide) (q := 56) (by decide) (q' := 44) rfl (fun cd37 => ?_) (fun cd37 => ?_)
            · refine g_iconst w e15_56 (q := 57) rfl (v := (1 : Int32)) (by decide) ?_
              exact g_reti w e15_57 rfl (by decide) (by decide) ⟨by simp [kd, cd1, cd28, cd29, cd30, cd36, cd37], rfl⟩
            · refine g_iloadN w e15_44 (q := 45) rfl rfl ?_
              refine g_bipush w e15_45 (q := 47) rfl (v := (43 : Int32)) (by decide) ?_
              refine g_ic_eq w e15_47 (by decide) (q := 56) (by decide) (q' := 50) rfl (fun cd38 => ?_) (fun cd38 => ?_)
              · refine g_iconst w e15_56 (q := 57) rfl (v := (1 : Int32)) (by decide) ?_
                exact g_reti w e15_57 rfl (by decide) (by decide) ⟨by simp [kd, cd1, cd28, cd29, cd30, cd36, cd37, cd38], rfl⟩
              · refine g_iloadN w e15_50 (q := 51) rfl rfl ?_
                refine g_bipush w e15_51 (q := 53) rfl (v := (126 : Int32)) (by decide) ?_
                refine g_ic_ne w e15_53 (by decide) (q := 58) (by decide) (q' := 56) rfl (fun cd39 => ?_) (fun cd39 => ?_)
                · refine g_iloadN w e15_58 (q := 59) rfl rfl ?_
                  refine g_bipush w e15_59 (q := 61) rfl (v := (45 : Int32)) (by decide) ?_
                  refine g_ic_ne w e15_61 (by decide) (q := 66) (by decide) (q' := 64) rfl (fun cd40 => ?_) (fun cd40 => ?_)
                  · refine g_iloadN w e15_66 (q := 67) rfl rfl ?_
                    refine g_bipush w e15_67 (q := 69) rfl (v := (58 : Int32)) (by decide) ?_
                    refine g_ic_ne w e15_69 (by decide) (q := 74) (by decide) (q' := 72) rfl (fun cd41 => ?_) (fun cd41 => ?_)
                    · refine g_iconst w e15_74 (q := 75) rfl (v := (4 : Int32)) (by decide) ?_
                      exact g_reti w e15_75 rfl (by decide) (by decide) ⟨by simp [kd, cd1, cd28, cd29, cd30, cd36, cd37, cd38, cd39, cd40, cd41], rfl⟩
                    · refine g_iconst w e15_72 (q := 73) rfl (v := (3 : Int32)) (by decide) ?_
                      exact g_reti w e15_73 rfl (by decide) (by decide) ⟨by simp [kd, cd1, cd28, cd29, cd30, cd36, cd37, cd38, cd39, cd40, cd41], rfl⟩
                  · refine g_iconst w e15_64 (q := 65) rfl (v := (2 : Int32)) (by decide) ?_
                    exact g_reti w e15_65 rfl (by decide) (by decide) ⟨by simp [kd, cd1, cd28, cd29, cd30, cd36, cd37, cd38, cd39, cd40], rfl⟩
                · refine g_iconst w e15_56 (q := 57) rfl (v := (1 : Int32)) (by decide) ?_
                  exact g_reti w e15_57 rfl (by decide) (by decide) ⟨by simp [kd, cd1, cd28, cd29, cd30, cd36, cd37, cd38, cd39], rfl⟩
      · refine g_iloadN w e15_20 (q := 21) rfl rfl ?_
        refine g_bipush w e15_21 (q := 23) rfl (v := (122 : Int32)) (by decide) ?_
        refine g_ic_le w e15_23 (by decide) (q := 56) (by decide) (q' := 26) rfl (fun cd42 => ?_) (fun cd42 => ?_)
        · refine g_iconst w e15_56 (q := 57) rfl (v := (1 : Int32)) (by decide) ?_
          exact g_reti w e15_57 rfl (by decide) (by decide) ⟨by simp [kd, cd1, cd28, cd29, cd42], rfl⟩
        · refine g_iloadN w e15_26 (q := 27) rfl rfl ?_
          refine g_bipush w e15_27 (q := 29) rfl (v := (65 : Int32)) (by decide) ?_
          refine g_ic_lt w e15_29 (by decide) (q := 38) (by decide) (q' := 32) rfl (fun cd43 => ?_) (fun cd43 => ?_)
          · refine g_iloadN w e15_38 (q := 39) rfl rfl ?_
            refine g_bipush w e15_39 (q := 41) rfl (v := (46 : Int32)) (by decide) ?_
            refine g_ic_eq w e15_41 (by decide) (q := 56) (by decide) (q' := 44) rfl (fun cd44 => ?_) (fun cd44 => ?_)
            · refine g_iconst w e15_56 (q := 57) rfl (v := (1 : Int32)) (by decide) ?_
              exact g_reti w e15_57 rfl (by decide) (by decide) ⟨by simp [kd, cd1, cd28, cd29, cd42, cd43, cd44], rfl⟩
            · refine g_iloadN w e15_44 (q := 45) rfl rfl ?_
              refine g_bipush w e15_45 (q := 47) rfl (v := (43 : Int32)) (by decide) ?_
              refine g_ic_eq w e15_47 (by decide) (q := 56) (by decide) (q' := 50) rfl (fun cd45 => ?_) (fun cd45 => ?_)
              · refine g_iconst w e15_56 (q := 57) rfl (v := (1 : Int32)) (by decide) ?_
                exact g_reti w e15_57 rfl (by decide) (by decide) ⟨by simp [kd, cd1, cd28, cd29, cd42, cd43, cd44, cd45], rfl⟩
              · refine g_iloadN w e15_50 (q := 51) rfl rfl ?_
                refine g_bipush w e15_51 (q := 53) rfl (v := (126 : Int32)) (by decide) ?_
                refine g_ic_ne w e15_53 (by decide) (q := 58) (by decide) (q' := 56) rfl (fun cd46 => ?_) (fun cd46 => ?_)
                · refine g_iloadN w e15_58 (q := 59) rfl rfl ?_
                  refine g_bipush w e15_59 (q := 61) rfl (v := (45 : Int32)) (by decide) ?_
                  refine g_ic_ne w e15_61 (by decide) (q := 66) (by decide) (q' := 64) rfl (fun cd47 => ?_) (fun cd47 => ?_)
                  · refine g_iloadN w e15_66 (q := 67) rfl rfl ?_
                    refine g_bipush w e15_67 (q := 69) rfl (v := (58 : Int32)) (by decide) ?_
                    refine g_ic_ne w e15_69 (by decide) (q := 74) (by decide) (q' := 72) rfl (fun cd48 => ?_) (fun cd48 => ?_)
                    · refine g_iconst w e15_74 (q := 75) rfl (v := (4 : Int32)) (by decide) ?_
                      exact g_reti w e15_75 rfl (by decide) (by decide) ⟨by simp [kd, cd1, cd28, cd29, cd42, cd43, cd44, cd45, cd46, cd47, cd48], rfl⟩
                    · refine g_iconst w e15_72 (q := 73) rfl (v := (3 : Int32)) (by decide) ?_
                      exact g_reti w e15_73 rfl (by decide) (by decide) ⟨by simp [kd, cd1, cd28, cd29, cd42, cd43, cd44, cd45, cd46, cd47, cd48], rfl⟩
                  · refine g_iconst w e15_64 (q := 65) rfl (v := (2 : Int32)) (by decide) ?_
                    exact g_reti w e15_65 rfl (by decide) (by decide) ⟨by simp [kd, cd1, cd28, cd29, cd42, cd43, cd44, cd45, cd46, cd47], rfl⟩
                · refine g_iconst w e15_56 (q := 57) rfl (v := (1 : Int32)) (by decide) ?_
                  exact g_reti w e15_57 rfl (by decide) (by decide) ⟨by simp [kd, cd1, cd28, cd29, cd42, cd43, cd44, cd45, cd46], rfl⟩
          · refine g_iloadN w e15_32 (q := 33) rfl rfl ?_
            refine g_bipush w e15_33 (q := 35) rfl (v := (90 : Int32)) (by decide) ?_
            refine g_ic_le w e15_35 (by decide) (q := 56) (by decide) (q' := 38) rfl (fun cd49 => ?_) (fun cd49 => ?_)
            · refine g_iconst w e15_56 (q := 57) rfl (v := (1 : Int32)) (by decide) ?_
              exact g_reti w e15_57 rfl (by decide) (by decide) ⟨by simp [kd, cd1, cd28, cd29, cd42, cd43, cd49], rfl⟩
            · refine g_iloadN w e15_38 (q := 39) rfl rfl ?_
              refine g_bipush w e15_39 (q := 41) rfl (v := (46 : Int32)) (by decide) ?_
              refine g_ic_eq w e15_41 (by decide) (q := 56) (by decide) (q' := 44) rfl (fun cd50 => ?_) (fun cd50 => ?_)
              · refine g_iconst w e15_56 (q := 57) rfl (v := (1 : Int32)) (by decide) ?_
                exact g_reti w e15_57 rfl (by decide) (by decide) ⟨by simp [kd, cd1, cd28, cd29, cd42, cd43, cd49, cd50], rfl⟩
              · refine g_iloadN w e15_44 (q := 45) rfl rfl ?_
                refine g_bipush w e15_45 (q := 47) rfl (v := (43 : Int32)) (by decide) ?_
                refine g_ic_eq w e15_47 (by decide) (q := 56) (by decide) (q' := 50) rfl (fun cd51 => ?_) (fun cd51 => ?_)
                · refine g_iconst w e15_56 (q := 57) rfl (v := (1 : Int32)) (by decide) ?_
                  exact g_reti w e15_57 rfl (by decide) (by decide) ⟨by simp [kd, cd1, cd28, cd29, cd42, cd43, cd49, cd50, cd51], rfl⟩
                · refine g_iloadN w e15_50 (q := 51) rfl rfl ?_
                  refine g_bipush w e15_51 (q := 53) rfl (v := (126 : Int32)) (by decide) ?_
                  refine g_ic_ne w e15_53 (by decide) (q := 58) (by decide) (q' := 56) rfl (fun cd52 => ?_) (fun cd52 => ?_)
                  · refine g_iloadN w e15_58 (q := 59) rfl rfl ?_
                    refine g_bipush w e15_59 (q := 61) rfl (v := (45 : Int32)) (by decide) ?_
                    refine g_ic_ne w e15_61 (by decide) (q := 66) (by decide) (q' := 64) rfl (fun cd53 => ?_) (fun cd53 => ?_)
                    · refine g_iloadN w e15_66 (q := 67) rfl rfl ?_
                      refine g_bipush w e15_67 (q := 69) rfl (v := (58 : Int32)) (by decide) ?_
                      refine g_ic_ne w e15_69 (by decide) (q := 74) (by decide) (q' := 72) rfl (fun cd54 => ?_) (fun cd54 => ?_)
                      · refine g_iconst w e15_74 (q := 75) rfl (v := (4 : Int32)) (by decide) ?_
                        exact g_reti w e15_75 rfl (by decide) (by decide) ⟨by simp [kd, cd1, cd28, cd29, cd42, cd43, cd49, cd50, cd51, cd52, cd53, cd54], rfl⟩
                      · refine g_iconst w e15_72 (q := 73) rfl (v := (3 : Int32)) (by decide) ?_
                        exact g_reti w e15_73 rfl (by decide) (by decide) ⟨by simp [kd, cd1, cd28, cd29, cd42, cd43, cd49, cd50, cd51, cd52, cd53, cd54], rfl⟩
                    · refine g_iconst w e15_64 (q := 65) rfl (v := (2 : Int32)) (by decide) ?_
                      exact g_reti w e15_65 rfl (by decide) (by decide) ⟨by simp [kd, cd1, cd28, cd29, cd42, cd43, cd49, cd50, cd51, cd52, cd53], rfl⟩
                  · refine g_iconst w e15_56 (q := 57) rfl (v := (1 : Int32)) (by decide) ?_
                    exact g_reti w e15_57 rfl (by decide) (by decide) ⟨by simp [kd, cd1, cd28, cd29, cd42, cd43, cd49, cd50, cd51, cd52], rfl⟩
    · refine g_iconst w e15_12 (q := 13) rfl (v := (0 : Int32)) (by decide) ?_
      exact g_reti w e15_13 rfl (by decide) (by decide) ⟨by simp [kd, cd1, cd28], rfl⟩
theorem e16_0 : decode method_6_code 0 = .ok (.iload_n 1, 1) := by decide +kernel
theorem e16_1 : decode method_6_code 1 = .ok (.invokestatic 39, 3) := by decide +kernel
theorem e16_4 : decode method_6_code 4 = .ok (.istore_n 2, 1) := by decide +kernel
theorem e16_5 : decode method_6_code 5 = .ok (.iload_n 0, 1) := by decide +kernel
theorem e16_6 : decode method_6_code 6 = .ok (.bipush 8, 2) := by decide +kernel
theorem e16_8 : decode method_6_code 8 = .ok (.if_icmp .eq 8, 3) := by decide +kernel
theorem e16_11 : decode method_6_code 11 = .ok (.iload_n 2, 1) := by decide +kernel
theorem e16_12 : decode method_6_code 12 = .ok (.iconst 4, 1) := by decide +kernel
theorem e16_13 : decode method_6_code 13 = .ok (.if_icmp .ne 6, 3) := by decide +kernel
theorem e16_16 : decode method_6_code 16 = .ok (.bipush 8, 2) := by decide +kernel
theorem e16_18 : decode method_6_code 18 = .ok (.ireturn, 1) := by decide +kernel
theorem e16_19 : decode method_6_code 19 = .ok (.iload_n 2, 1) := by decide +kernel
theorem e16_20 : decode method_6_code 20 = .ok (.iconst 3, 1) := by decide +kernel
theorem e16_21 : decode method_6_code 21 = .ok (.if_icmp .ne 15, 3) := by decide +kernel
theorem e16_24 : decode method_6_code 24 = .ok (.iload_n 0, 1) := by decide +kernel
theorem e16_25 : decode method_6_code 25 = .ok (.iconst 1, 1) := by decide +kernel
theorem e16_26 : decode method_6_code 26 = .ok (.if_icmp .ne 7, 3) := by decide +kernel
theorem e16_29 : decode method_6_code 29 = .ok (.iconst 2, 1) := by decide +kernel
theorem e16_30 : decode method_6_code 30 = .ok (.goto 5, 3) := by decide +kernel
theorem e16_33 : decode method_6_code 33 = .ok (.bipush 8, 2) := by decide +kernel
theorem e16_35 : decode method_6_code 35 = .ok (.ireturn, 1) := by decide +kernel
theorem e16_36 : decode method_6_code 36 = .ok (.iload_n 2, 1) := by decide +kernel
theorem e16_37 : decode method_6_code 37 = .ok (.iconst 2, 1) := by decide +kernel
theorem e16_38 : decode method_6_code 38 = .ok (.if_icmp .ne 16, 3) := by decide +kernel
theorem e16_41 : decode method_6_code 41 = .ok (.iload_n 0, 1) := by decide +kernel
theorem e16_42 : decode method_6_code 42 = .ok (.ifCond .eq 8, 3) := by decide +kernel
theorem e16_45 : decode method_6_code 45 = .ok (.iload_n 0, 1) := by decide +kernel
theorem e16_46 : decode method_6_code 46 = .ok (.iconst 2, 1) := by decide +kernel
theorem e16_47 : decode method_6_code 47 = .ok (.if_icmp .ne 5, 3) := by decide +kernel
theorem e16_50 : decode method_6_code 50 = .ok (.iconst 5, 1) := by decide +kernel
theorem e16_51 : decode method_6_code 51 = .ok (.ireturn, 1) := by decide +kernel
theorem e16_52 : decode method_6_code 52 = .ok (.iconst 4, 1) := by decide +kernel
theorem e16_53 : decode method_6_code 53 = .ok (.ireturn, 1) := by decide +kernel
theorem e16_54 : decode method_6_code 54 = .ok (.iload_n 0, 1) := by decide +kernel
theorem e16_55 : decode method_6_code 55 = .ok (.ifCond .eq 8, 3) := by decide +kernel
theorem e16_58 : decode method_6_code 58 = .ok (.iload_n 0, 1) := by decide +kernel
theorem e16_59 : decode method_6_code 59 = .ok (.iconst 1, 1) := by decide +kernel
theorem e16_60 : decode method_6_code 60 = .ok (.if_icmp .ne 13, 3) := by decide +kernel
theorem e16_63 : decode method_6_code 63 = .ok (.iload_n 2, 1) := by decide +kernel
theorem e16_64 : decode method_6_code 64 = .ok (.ifCond .ne 7, 3) := by decide +kernel
theorem e16_67 : decode method_6_code 67 = .ok (.iconst 1, 1) := by decide +kernel
theorem e16_68 : decode method_6_code 68 = .ok (.goto 4, 3) := by decide +kernel
theorem e16_71 : decode method_6_code 71 = .ok (.iconst 3, 1) := by decide +kernel
theorem e16_72 : decode method_6_code 72 = .ok (.ireturn, 1) := by decide +kernel
theorem e16_73 : decode method_6_code 73 = .ok (.iload_n 0, 1) := by decide +kernel
theorem e16_74 : decode method_6_code 74 = .ok (.iconst 2, 1) := by decide +kernel
theorem e16_75 : decode method_6_code 75 = .ok (.if_icmp .eq 8, 3) := by decide +kernel
theorem e16_78 : decode method_6_code 78 = .ok (.iload_n 0, 1) := by decide +kernel
theorem e16_79 : decode method_6_code 79 = .ok (.iconst 3, 1) := by decide +kernel
theorem e16_80 : decode method_6_code 80 = .ok (.if_icmp .ne 5, 3) := by decide +kernel
theorem e16_83 : decode method_6_code 83 = .ok (.iconst 3, 1) := by decide +kernel
theorem e16_84 : decode method_6_code 84 = .ok (.ireturn, 1) := by decide +kernel
theorem e16_85 : decode method_6_code 85 = .ok (.iload_n 0, 1) := by decide +kernel
theorem e16_86 : decode method_6_code 86 = .ok (.iconst 4, 1) := by decide +kernel
theorem e16_87 : decode method_6_code 87 = .ok (.if_icmp .eq 9, 3) := by decide +kernel
theorem e16_90 : decode method_6_code 90 = .ok (.iload_n 0, 1) := by decide +kernel
theorem e16_91 : decode method_6_code 91 = .ok (.bipush 6, 2) := by decide +kernel
theorem e16_93 : decode method_6_code 93 = .ok (.if_icmp .ne 6, 3) := by decide +kernel
theorem e16_96 : decode method_6_code 96 = .ok (.bipush 6, 2) := by decide +kernel
theorem e16_98 : decode method_6_code 98 = .ok (.ireturn, 1) := by decide +kernel
theorem e16_99 : decode method_6_code 99 = .ok (.bipush 7, 2) := by decide +kernel
theorem e16_101 : decode method_6_code 101 = .ok (.ireturn, 1) := by decide +kernel
theorem pd9 : parseMethodDescriptor "(C)I" = some ⟨[.char], some .int⟩ := by decide +kernel
set_option maxRecDepth 65536 in
set_option maxHeartbeats 40000000 in
theorem con_step (l : Launch) (Z : State) (a0 : Array Value) (hw : ∀ d ∈ tables_1, d.before a0 Z = true) (s_ c : Int32) (h0 : Heap) (O0 : Ext Z.heap h0) :
    Con l Z consts_1 false (⟨"com/example/deepquery/deepquery/DebianVersionIsVersionPinLaw", "step", "(IC)I"⟩ : MethodName) method_6_code 3 (some .int) [] ({ frames := 1, cells := 0, slots := 0, locals := 12 } : Room) #[(.int s_), (.int c)] [] h0 (fun v h => v = some (.int (stp s_ (kd c))) ∧ h = h0) := by
  refine Con.intro (Ls := #[.val (.int s_), .val (.int c), .unset]) (plainFor_of_name pn2) (own_EL hw) O0 (fun m => by first | (simp [entryFrame, mkF, argsToLocals, Value.category]; done) | rfl) (fun p e s m below meth cc_ T w sf_ => ?_)
  have E0 := ext_refl h0
  refine g_iloadN w e16_0 (q := 1) rfl rfl ?_
  refine g_staticP w (con_kd l Z a0 hw c _ w.old) no0 e16_1 (q := 4) rfl rfl (Hw hw 102 rfl) (Hw hw 103 rfl) (Hw hw 3 rfl) (Hw hw 104 rfl) (by decide) pd9 rfl rfl (W := 0) (Nat.le_of_eq rfl) (by decide) (by decide) (by decide) (by decide) (fun T v w C q => ?_)
  obtain rfl := q
  show Go p e below _ (State.setTop T (mkF m 4 #[.val (.int s_), .val (.int c), .unset] [(.int (kd c))]))
  refine g_istoreN w e16_4 (q := 5) rfl (Ls' := #[.val (.int s_), .val (.int c), .val (.int (kd c))]) rfl ?_
  refine g_iloadN w e16_5 (q := 6) rfl rfl ?_
  refine g_bipush w e16_6 (q := 8) rfl (v := (8 : Int32)) (by decide) ?_
  refine g_ic_eq w e16_8 (by decide) (q := 16) (by decide) (q' := 11) rfl (fun cd1 => ?_) (fun cd1 => ?_)
  · refine g_bipush w e16_16 (q := 18) rfl (v := (8 : Int32)) (by decide) ?_
    exact g_reti w e16_18 rfl (by decide) (by decide) ⟨by simp [stp, cd1], rfl⟩
  · refine g_iloadN w e16_11 (q := 12) rfl rfl ?_
    refine g_iconst w e16_12 (q := 13) rfl (v := (4 : Int32)) (by decide) ?_
    refine g_ic_ne w e16_13 (by decide) (q := 19) (by decide) (q' := 16) rfl (fun cd2 => ?_) (fun cd2 => ?_)
    · refine g_iloadN w e16_19 (q := 20) rfl rfl ?_
      refine g_iconst w e16_20 (q := 21) rfl (v := (3 : Int32)) (by decide) ?_
      refine g_ic_ne w e16_21 (by decide) (q := 36) (by decide) (q' := 24) rfl (fun cd3 => ?_) (fun cd3 => ?_)
      · refine g_iloadN w e16_36 (q := 37) rfl rfl ?_
        refine g_iconst w e16_37 (q := 38) rfl (v := (2 : Int32)) (by decide) ?_
        refine g_ic_ne w e16_38 (by decide) (q := 54) (by decide) (q' := 41) rfl (fun cd4 => ?_) (fun cd4 => ?_)
        · refine g_iloadN w e16_54 (q := 55) rfl rfl ?_
          refine g_if_eq w e16_55 (by decide) (q := 63) (by decide) (q' := 58) rfl (fun cd5 => ?_) (fun cd5 => ?_)
          · refine g_iloadN w e16_63 (q := 64) rfl rfl ?_
            refine g_if_ne w e16_64 (by decide) (q := 71) (by decide) (q' := 67) rfl (fun cd6 => ?_) (fun cd6 => ?_)
            · refine g_iconst w e16_71 (q := 72) rfl (v := (3 : Int32)) (by decide) ?_
              exact g_reti w e16_72 rfl (by decide) (by decide) ⟨by simp [stp, cd1, cd2, cd3, cd4, cd5, cd6], rfl⟩
            · refine g_iconst w e16_67 (q := 68) rfl (v := (1 : Int32)) (by decide) ?_
              refine g_goto w e16_68 (by decide) (q := 72) (by decide) ?_
              exact g_reti w e16_72 rfl (by decide) (by decide) ⟨by simp [stp, cd1, cd2, cd3, cd4, cd5, cd6], rfl⟩
          · refine g_iloadN w e16_58 (q := 59) rfl rfl ?_
            refine g_iconst w e16_59 (q := 60) rfl (v := (1 : Int32)) (by decide) ?_
            refine g_ic_ne w e16_60 (by decide) (q := 73) (by decide) (q' := 63) rfl (fun cd7 => ?_) (fun cd7 => ?_)
            · refine g_iloadN w e16_73 (q := 74) rfl rfl ?_
              refine g_iconst w e16_74 (q := 75) rfl (v := (2 : Int32)) (by decide) ?_
              refine g_ic_eq w e16_75 (by decide) (q := 83) (by decide) (q' := 78) rfl (fun cd8 => ?_) (fun cd8 => ?_)
              · refine g_iconst w e16_83 (q := 84) rfl (v := (3 : Int32)) (by decide) ?_
                exact g_reti w e16_84 rfl (by decide) (by decide) ⟨by simp [stp, cd1, cd2, cd3, cd4, cd5, cd7, cd8], rfl⟩
              · refine g_iloadN w e16_78 (q := 79) rfl rfl ?_
                refine g_iconst w e16_79 (q := 80) rfl (v := (3 : Int32)) (by decide) ?_
                refine g_ic_ne w e16_80 (by decide) (q := 85) (by decide) (q' := 83) rfl (fun cd9 => ?_) (fun cd9 => ?_)
                · refine g_iloadN w e16_85 (q := 86) rfl rfl ?_
                  refine g_iconst w e16_86 (q := 87) rfl (v := (4 : Int32)) (by decide) ?_
                  refine g_ic_eq w e16_87 (by decide) (q := 96) (by decide) (q' := 90) rfl (fun cd10 => ?_) (fun cd10 => ?_)
                  · refine g_bipush w e16_96 (q := 98) rfl (v := (6 : Int32)) (by decide) ?_
                    exact g_reti w e16_98 rfl (by decide) (by decide) ⟨by simp [stp, cd1, cd2, cd3, cd4, cd5, cd7, cd8, cd9, cd10], rfl⟩
                  · refine g_iloadN w e16_90 (q := 91) rfl rfl ?_
                    refine g_bipush w e16_91 (q := 93) rfl (v := (6 : Int32)) (by decide) ?_
                    refine g_ic_ne w e16_93 (by decide) (q := 99) (by decide) (q' := 96) rfl (fun cd11 => ?_) (fun cd11 => ?_)
                    · refine g_bipush w e16_99 (q := 101) rfl (v := (7 : Int32)) (by decide) ?_
                      exact g_reti w e16_101 rfl (by decide) (by decide) ⟨by simp [stp, cd1, cd2, cd3, cd4, cd5, cd7, cd8, cd9, cd10, cd11], rfl⟩
                    · refine g_bipush w e16_96 (q := 98) rfl (v := (6 : Int32)) (by decide) ?_
                      exact g_reti w e16_98 rfl (by decide) (by decide) ⟨by simp [stp, cd1, cd2, cd3, cd4, cd5, cd7, cd8, cd9, cd10, cd11], rfl⟩
                · refine g_iconst w e16_83 (q := 84) rfl (v := (3 : Int32)) (by decide) ?_
                  exact g_reti w e16_84 rfl (by decide) (by decide) ⟨by simp [stp, cd1, cd2, cd3, cd4, cd5, cd7, cd8, cd9], rfl⟩
            · refine g_iloadN w e16_63 (q := 64) rfl rfl ?_
              refine g_if_ne w e16_64 (by decide) (q := 71) (by decide) (q' := 67) rfl (fun cd12 => ?_) (fun cd12 => ?_)
              · refine g_iconst w e16_71 (q := 72) rfl (v := (3 : Int32)) (by decide) ?_
                exact g_reti w e16_72 rfl (by decide) (by decide) ⟨by simp [stp, cd1, cd2, cd3, cd4, cd5, cd7, cd12], rfl⟩
              · refine g_iconst w e16_67 (q := 68) rfl (v := (1 : Int32)) (by decide) ?_
                refine g_goto w e16_68 (by decide) (q := 72) (by decide) ?_
                exact g_reti w e16_72 rfl (by decide) (by decide) ⟨by simp [stp, cd1, cd2, cd3, cd4, cd5, cd7, cd12], rfl⟩
        · refine g_iloadN w e16_41 (q := 42) rfl rfl ?_
          refine g_if_eq w e16_42 (by decide) (q := 50) (by decide) (q' := 45) rfl (fun cd13 => ?_) (fun cd13 => ?_)
          · refine g_iconst w e16_50 (q := 51) rfl (v := (5 : Int32)) (by decide) ?_
            exact g_reti w e16_51 rfl (by decide) (by decide) ⟨by simp [stp, cd1, cd2, cd3, cd4, cd13], rfl⟩
          · refine g_iloadN w e16_45 (q := 46) rfl rfl ?_
            refine g_iconst w e16_46 (q := 47) rfl (v := (2 : Int32)) (by decide) ?_
            refine g_ic_ne w e16_47 (by decide) (q := 52) (by decide) (q' := 50) rfl (fun cd14 => ?_) (fun cd14 => ?_)
            · refine g_iconst w e16_52 (q := 53) rfl (v := (4 : Int32)) (by decide) ?_
              exact g_reti w e16_53 rfl (by decide) (by decide) ⟨by simp [stp, cd1, cd2, cd3, cd4, cd13, cd14], rfl⟩
            · refine g_iconst w e16_50 (q := 51) rfl (v := (5 : Int32)) (by decide) ?_
              exact g_reti w e16_51 rfl (by decide) (by decide) ⟨by simp [stp, cd1, cd2, cd3, cd4, cd13, cd14], rfl⟩
      · refine g_iloadN w e16_24 (q := 25) rfl rfl ?_
        refine g_iconst w e16_25 (q := 26) rfl (v := (1 : Int32)) (by decide) ?_
        refine g_ic_ne w e16_26 (by decide) (q := 33) (by decide) (q' := 29) rfl (fun cd15 => ?_) (fun cd15 => ?_)
        · refine g_bipush w e16_33 (q := 35) rfl (v := (8 : Int32)) (by decide) ?_
          exact g_reti w e16_35 rfl (by decide) (by decide) ⟨by simp [stp, cd1, cd2, cd3, cd15], rfl⟩
        · refine g_iconst w e16_29 (q := 30) rfl (v := (2 : Int32)) (by decide) ?_
          refine g_goto w e16_30 (by decide) (q := 35) (by decide) ?_
          exact g_reti w e16_35 rfl (by decide) (by decide) ⟨by simp [stp, cd1, cd2, cd3, cd15], rfl⟩
    · refine g_bipush w e16_16 (q := 18) rfl (v := (8 : Int32)) (by decide) ?_
      exact g_reti w e16_18 rfl (by decide) (by decide) ⟨by simp [stp, cd1, cd2], rfl⟩
theorem e17_0 : decode prog_3_method_12_code 0 = .ok (.iload_n 0, 1) := by decide +kernel
theorem e17_1 : decode prog_3_method_12_code 1 = .ok (.bipush 48, 2) := by decide +kernel
theorem e17_3 : decode prog_3_method_12_code 3 = .ok (.if_icmp .lt 13, 3) := by decide +kernel
theorem e17_6 : decode prog_3_method_12_code 6 = .ok (.iload_n 0, 1) := by decide +kernel
theorem e17_7 : decode prog_3_method_12_code 7 = .ok (.bipush 57, 2) := by decide +kernel
theorem e17_9 : decode prog_3_method_12_code 9 = .ok (.if_icmp .gt 7, 3) := by decide +kernel
theorem e17_12 : decode prog_3_method_12_code 12 = .ok (.iconst 1, 1) := by decide +kernel
theorem e17_13 : decode prog_3_method_12_code 13 = .ok (.goto 4, 3) := by decide +kernel
theorem e17_16 : decode prog_3_method_12_code 16 = .ok (.iconst 0, 1) := by decide +kernel
theorem e17_17 : decode prog_3_method_12_code 17 = .ok (.ireturn, 1) := by decide +kernel
theorem pn3 : plainName "com/example/deepquery/deepquery/DebianVersion" = true := by first | (simp [plainName, overriddenIn]; done) | decide +kernel
set_option maxRecDepth 65536 in
set_option maxHeartbeats 40000000 in
theorem con_dig (l : Launch) (Z : State) (a0 : Array Value) (hw : ∀ d ∈ tables_1, d.before a0 Z = true) (c : Int32) (h0 : Heap) (O0 : Ext Z.heap h0) :
    Con l Z consts_1 false (⟨"com/example/deepquery/deepquery/DebianVersion", "isDigit", "(C)Z"⟩ : MethodName) prog_3_method_12_code 1 (some .boolean) [] ({ frames := 0, cells := 0, slots := 0, locals := 0 } : Room) #[(.int c)] [] h0 (fun v h => ((v = some (.int 1) ∧ dg c) ∨ (v = some (.int 0) ∧ ¬ dg c)) ∧ h = h0) := by
  refine Con.intro (Ls := #[.val (.int c)]) (plainFor_of_name pn3) (own_EL hw) O0 (fun m => by first | (simp [entryFrame, mkF, argsToLocals, Value.category]; done) | rfl) (fun p e s m below meth cc_ T w sf_ => ?_)
  have E0 := ext_refl h0
  refine g_iloadN w e17_0 (q := 1) rfl rfl ?_
  refine g_bipush w e17_1 (q := 3) rfl (v := (48 : Int32)) (by decide) ?_
  refine g_ic_lt w e17_3 (by decide) (q := 16) (by decide) (q' := 6) rfl (fun cd1 => ?_) (fun cd1 => ?_)
  · refine g_iconst w e17_16 (q := 17) rfl (v := (0 : Int32)) (by decide) ?_
    exact g_retn w e17_17 rfl (by simp) rfl (by decide) (by decide) ⟨Or.inr ⟨rfl, by simp [dg, cd1]⟩, rfl⟩
  · refine g_iloadN w e17_6 (q := 7) rfl rfl ?_
    refine g_bipush w e17_7 (q := 9) rfl (v := (57 : Int32)) (by decide) ?_
    refine g_ic_gt w e17_9 (by decide) (q := 16) (by decide) (q' := 12) rfl (fun cd2 => ?_) (fun cd2 => ?_)
    · refine g_iconst w e17_16 (q := 17) rfl (v := (0 : Int32)) (by decide) ?_
      exact g_retn w e17_17 rfl (by simp) rfl (by decide) (by decide) ⟨Or.inr ⟨rfl, by simp [dg, cd1, cd2]⟩, rfl⟩
    · refine g_iconst w e17_12 (q := 13) rfl (v := (1 : Int32)) (by decide) ?_
      refine g_goto w e17_13 (by decide) (q := 17) (by decide) ?_
      exact g_retn w e17_17 rfl (by simp) rfl (by decide) (by decide) ⟨Or.inl ⟨rfl, by simp [dg, cd1, cd2]⟩, rfl⟩
theorem e18_0 : decode prog_3_method_11_code 0 = .ok (.iload_n 0, 1) := by decide +kernel
theorem e18_1 : decode prog_3_method_11_code 1 = .ok (.bipush 97, 2) := by decide +kernel
theorem e18_3 : decode prog_3_method_11_code 3 = .ok (.if_icmp .lt 9, 3) := by decide +kernel
theorem e18_6 : decode prog_3_method_11_code 6 = .ok (.iload_n 0, 1) := by decide +kernel
theorem e18_7 : decode prog_3_method_11_code 7 = .ok (.bipush 122, 2) := by decide +kernel
theorem e18_9 : decode prog_3_method_11_code 9 = .ok (.if_icmp .le 15, 3) := by decide +kernel
theorem e18_12 : decode prog_3_method_11_code 12 = .ok (.iload_n 0, 1) := by decide +kernel
theorem e18_13 : decode prog_3_method_11_code 13 = .ok (.bipush 65, 2) := by decide +kernel
theorem e18_15 : decode prog_3_method_11_code 15 = .ok (.if_icmp .lt 13, 3) := by decide +kernel
theorem e18_18 : decode prog_3_method_11_code 18 = .ok (.iload_n 0, 1) := by decide +kernel
theorem e18_19 : decode prog_3_method_11_code 19 = .ok (.bipush 90, 2) := by decide +kernel
theorem e18_21 : decode prog_3_method_11_code 21 = .ok (.if_icmp .gt 7, 3) := by decide +kernel
theorem e18_24 : decode prog_3_method_11_code 24 = .ok (.iconst 1, 1) := by decide +kernel
theorem e18_25 : decode prog_3_method_11_code 25 = .ok (.goto 4, 3) := by decide +kernel
theorem e18_28 : decode prog_3_method_11_code 28 = .ok (.iconst 0, 1) := by decide +kernel
theorem e18_29 : decode prog_3_method_11_code 29 = .ok (.ireturn, 1) := by decide +kernel
set_option maxRecDepth 65536 in
set_option maxHeartbeats 40000000 in
theorem con_let (l : Launch) (Z : State) (a0 : Array Value) (hw : ∀ d ∈ tables_1, d.before a0 Z = true) (c : Int32) (h0 : Heap) (O0 : Ext Z.heap h0) :
    Con l Z consts_1 false (⟨"com/example/deepquery/deepquery/DebianVersion", "isLetter", "(C)Z"⟩ : MethodName) prog_3_method_11_code 1 (some .boolean) [] ({ frames := 0, cells := 0, slots := 0, locals := 0 } : Room) #[(.int c)] [] h0 (fun v h => ((v = some (.int 1) ∧ lt c) ∨ (v = some (.int 0) ∧ ¬ lt c)) ∧ h = h0) := by
  refine Con.intro (Ls := #[.val (.int c)]) (plainFor_of_name pn3) (own_EL hw) O0 (fun m => by first | (simp [entryFrame, mkF, argsToLocals, Value.category]; done) | rfl) (fun p e s m below meth cc_ T w sf_ => ?_)
  have E0 := ext_refl h0
  refine g_iloadN w e18_0 (q := 1) rfl rfl ?_
  refine g_bipush w e18_1 (q := 3) rfl (v := (97 : Int32)) (by decide) ?_
  refine g_ic_lt w e18_3 (by decide) (q := 12) (by decide) (q' := 6) rfl (fun cd1 => ?_) (fun cd1 => ?_)
  · refine g_iloadN w e18_12 (q := 13) rfl rfl ?_
    refine g_bipush w e18_13 (q := 15) rfl (v := (65 : Int32)) (by decide) ?_
    refine g_ic_lt w e18_15 (by decide) (q := 28) (by decide) (q' := 18) rfl (fun cd2 => ?_) (fun cd2 => ?_)
    · refine g_iconst w e18_28 (q := 29) rfl (v := (0 : Int32)) (by decide) ?_
      exact g_retn w e18_29 rfl (by simp) rfl (by decide) (by decide) ⟨Or.inr ⟨rfl, by simp [lt, cd1, cd2]⟩, rfl⟩
    · refine g_iloadN w e18_18 (q := 19) rfl rfl ?_
      refine g_bipush w e18_19 (q := 21) rfl (v := (90 : Int32)) (by decide) ?_
      refine g_ic_gt w e18_21 (by decide) (q := 28) (by decide) (q' := 24) rfl (fun cd3 => ?_) (fun cd3 => ?_)
      · refine g_iconst w e18_28 (q := 29) rfl (v := (0 : Int32)) (by decide) ?_
        exact g_retn w e18_29 rfl (by simp) rfl (by decide) (by decide) ⟨Or.inr ⟨rfl, by simp [lt, cd1, cd2, cd3]⟩, rfl⟩
      · refine g_iconst w e18_24 (q := 25) rfl (v := (1 : Int32)) (by decide) ?_
        refine g_goto w e18_25 (by decide) (q := 29) (by decide) ?_
        exact g_retn w e18_29 rfl (by simp) rfl (by decide) (by decide) ⟨Or.inl ⟨rfl, by simp [lt, cd1, cd2, cd3]⟩, rfl⟩
  · refine g_iloadN w e18_6 (q := 7) rfl rfl ?_
    refine g_bipush w e18_7 (q := 9) rfl (v := (122 : Int32)) (by decide) ?_
    refine g_ic_le w e18_9 (by decide) (q := 24) (by decide) (q' := 12) rfl (fun cd4 => ?_) (fun cd4 => ?_)
    · refine g_iconst w e18_24 (q := 25) rfl (v := (1 : Int32)) (by decide) ?_
      refine g_goto w e18_25 (by decide) (q := 29) (by decide) ?_
      exact g_retn w e18_29 rfl (by simp) rfl (by decide) (by decide) ⟨Or.inl ⟨rfl, by simp [lt, cd1, cd4]⟩, rfl⟩
    · refine g_iloadN w e18_12 (q := 13) rfl rfl ?_
      refine g_bipush w e18_13 (q := 15) rfl (v := (65 : Int32)) (by decide) ?_
      refine g_ic_lt w e18_15 (by decide) (q := 28) (by decide) (q' := 18) rfl (fun cd5 => ?_) (fun cd5 => ?_)
      · refine g_iconst w e18_28 (q := 29) rfl (v := (0 : Int32)) (by decide) ?_
        exact g_retn w e18_29 rfl (by simp) rfl (by decide) (by decide) ⟨Or.inr ⟨rfl, by simp [lt, cd1, cd4, cd5]⟩, rfl⟩
      · refine g_iloadN w e18_18 (q := 19) rfl rfl ?_
        refine g_bipush w e18_19 (q := 21) rfl (v := (90 : Int32)) (by decide) ?_
        refine g_ic_gt w e18_21 (by decide) (q := 28) (by decide) (q' := 24) rfl (fun cd6 => ?_) (fun cd6 => ?_)
        · refine g_iconst w e18_28 (q := 29) rfl (v := (0 : Int32)) (by decide) ?_
          exact g_retn w e18_29 rfl (by simp) rfl (by decide) (by decide) ⟨Or.inr ⟨rfl, by simp [lt, cd1, cd4, cd5, cd6]⟩, rfl⟩
        · refine g_iconst w e18_24 (q := 25) rfl (v := (1 : Int32)) (by decide) ?_
          refine g_goto w e18_25 (by decide) (q := 29) (by decide) ?_
          exact g_retn w e18_29 rfl (by simp) rfl (by decide) (by decide) ⟨Or.inl ⟨rfl, by simp [lt, cd1, cd4, cd5, cd6]⟩, rfl⟩
theorem e19_0 : decode prog_3_method_4_code 0 = .ok (.iload_n 1, 1) := by decide +kernel
theorem e19_1 : decode prog_3_method_4_code 1 = .ok (.istore 5, 2) := by decide +kernel
theorem e19_3 : decode prog_3_method_4_code 3 = .ok (.iload 5, 2) := by decide +kernel
theorem e19_5 : decode prog_3_method_4_code 5 = .ok (.iload_n 2, 1) := by decide +kernel
theorem e19_6 : decode prog_3_method_4_code 6 = .ok (.if_icmp .ge 49, 3) := by decide +kernel
theorem e19_9 : decode prog_3_method_4_code 9 = .ok (.aload_n 0, 1) := by decide +kernel
theorem e19_10 : decode prog_3_method_4_code 10 = .ok (.iload 5, 2) := by decide +kernel
theorem e19_12 : decode prog_3_method_4_code 12 = .ok (.invokevirtual 55, 3) := by decide +kernel
theorem e19_15 : decode prog_3_method_4_code 15 = .ok (.istore 6, 2) := by decide +kernel
theorem e19_17 : decode prog_3_method_4_code 17 = .ok (.iload 6, 2) := by decide +kernel
theorem e19_19 : decode prog_3_method_4_code 19 = .ok (.invokestatic 59, 3) := by decide +kernel
theorem e19_22 : decode prog_3_method_4_code 22 = .ok (.ifCond .ne 27, 3) := by decide +kernel
theorem e19_25 : decode prog_3_method_4_code 25 = .ok (.iload_n 3, 1) := by decide +kernel
theorem e19_26 : decode prog_3_method_4_code 26 = .ok (.ifCond .eq 11, 3) := by decide +kernel
theorem e19_29 : decode prog_3_method_4_code 29 = .ok (.iload 6, 2) := by decide +kernel
theorem e19_31 : decode prog_3_method_4_code 31 = .ok (.invokestatic 63, 3) := by decide +kernel
theorem e19_34 : decode prog_3_method_4_code 34 = .ok (.ifCond .ne 15, 3) := by decide +kernel
theorem e19_37 : decode prog_3_method_4_code 37 = .ok (.aload 4, 2) := by decide +kernel
theorem e19_39 : decode prog_3_method_4_code 39 = .ok (.iload 6, 2) := by decide +kernel
theorem e19_41 : decode prog_3_method_4_code 41 = .ok (.invokevirtual 7, 3) := by decide +kernel
theorem e19_44 : decode prog_3_method_4_code 44 = .ok (.ifCond .ge 5, 3) := by decide +kernel
theorem e19_47 : decode prog_3_method_4_code 47 = .ok (.iconst 0, 1) := by decide +kernel
theorem e19_48 : decode prog_3_method_4_code 48 = .ok (.ireturn, 1) := by decide +kernel
theorem e19_49 : decode prog_3_method_4_code 49 = .ok (.iinc 5 1, 3) := by decide +kernel
theorem e19_52 : decode prog_3_method_4_code 52 = .ok (.goto (-49), 3) := by decide +kernel
theorem e19_55 : decode prog_3_method_4_code 55 = .ok (.iconst 1, 1) := by decide +kernel
theorem e19_56 : decode prog_3_method_4_code 56 = .ok (.ireturn, 1) := by decide +kernel
theorem pd10 : parseMethodDescriptor "(C)Z" = some ⟨[.char], some .boolean⟩ := by decide +kernel
theorem pd11 : parseMethodDescriptor "(I)I" = some ⟨[.int], some .int⟩ := by decide +kernel
set_option maxRecDepth 65536 in
set_option maxHeartbeats 40000000 in
theorem con_holds (l : Launch) (Z : State) (a0 : Array Value) (hw : ∀ d ∈ tables_1, d.before a0 Z = true) (fm : Value) (x y : Addr) (s_ e_ : Nat) (L_ : Int32) (cs ds : List Int32) (h0 : Heap) (O0 : Ext Z.heap h0) (S_x : Sg Z h0 x cs) (S_y : Sg Z h0 y ds) (he : e_ ≤ cs.length) (hs0 : s_ ≤ 4000) (hcm : Cpt Z) (SFm : Sta Z Z.heap "jdk/internal/util/Preconditions" "SIOOBE_FORMATTER" "Ljava/util/function/BiFunction;" fm) (rfm : fm.isRef = true) :
    Con l Z consts_1 false (⟨"com/example/deepquery/deepquery/DebianVersion", "holdsOnly", "(Ljava/lang/String;IIZLjava/lang/String;)Z"⟩ : MethodName) prog_3_method_4_code 7 (some .boolean) [] ({ frames := 4, cells := 0, slots := 0, locals := 59 } : Room) #[(.ref x), (.int (Int32.ofNat s_)), (.int (Int32.ofNat e_)), (.int L_), (.ref y)] [] h0 (fun v h => ((v = some (.int 1) ∧ Hld cs s_ e_ L_ ds) ∨ (v = some (.int 0) ∧ ¬ Hld cs s_ e_ L_ ds)) ∧ h = h0) := by
  refine Con.intro (Ls := #[.val (.ref x), .val (.int (Int32.ofNat s_)), .val (.int (Int32.ofNat e_)), .val (.int L_), .val (.ref y), .unset, .unset]) (plainFor_of_name pn3) (own_EL hw) O0 (fun m => by first | (simp [entryFrame, mkF, argsToLocals, Value.category]; done) | rfl) (fun p e s m below meth cc_ T w sf_ => ?_)
  have E0 := ext_refl h0
  obtain ⟨z_, hz_, SC_⟩ := id hcm
  refine g_iloadN w e19_0 (q := 1) rfl rfl ?_
  refine g_istore w e19_1 (q := 3) rfl (Ls' := #[.val (.ref x), .val (.int (Int32.ofNat s_)), .val (.int (Int32.ofNat e_)), .val (.int L_), .val (.ref y), .val (.int (Int32.ofNat s_)), .unset]) rfl ?_
  have LP : ∀ (r : Nat) (i : Nat) (l6 : Slot) (T : State) (vm : Vm), (i + r = e_ ∨ (r = 0 ∧ e_ ≤ i)) → (s_ ≤ i) → (i ≤ 4000) → (l6 = .unset ∨ ∃ w, l6 = .val w ∧ w.category = 1) → (∀ j, s_ ≤ j → j < i → okc L_ ds (cs.getD j 0)) → Wk p l e ({ frames := 4, cells := 0, slots := 0, locals := 59 } : Room) s m #[(.ref x), (.int (Int32.ofNat s_)), (.int (Int32.ofNat e_)), (.int L_), (.ref y)] below meth cc_ Z a0 consts_1 false (⟨"com/example/deepquery/deepquery/DebianVersion", "holdsOnly", "(Ljava/lang/String;IIZLjava/lang/String;)Z"⟩ : MethodName) prog_3_method_4_code 7 (some .boolean) T vm h0 0 0 → Go p e below (Fini Z consts_1 false ({ frames := 4, cells := 0, slots := 0, locals := 59 } : Room).cells ({ frames := 4, cells := 0, slots := 0, locals := 59 } : Room).slots (fun v h => ((v = some (.int 1) ∧ Hld cs s_ e_ L_ ds) ∨ (v = some (.int 0) ∧ ¬ Hld cs s_ e_ L_ ds)) ∧ h = h0) s) (State.setTop T (mkF m 3 #[.val (.ref x), .val (.int (Int32.ofNat s_)), .val (.int (Int32.ofNat e_)), .val (.int L_), .val (.ref y), .val (.int (Int32.ofNat i)), l6] [])) := by
    intro r
    induction r with
    | zero =>
      intro i l6 T vm hi hs hk hl6 hb  w
      refine g_iload w e19_3 (q := 5) rfl rfl ?_
      refine g_iloadN w e19_5 (q := 6) rfl rfl ?_
      refine g_icY w e19_6 (by decide) (q := 55) (by decide) (Jvm.Free.XT.ii_ge_t (not_lt_ofNat (by omega) (by have := S_x.1; omega))) ?_
      refine g_iconst w e19_55 (q := 56) rfl (v := (1 : Int32)) (by decide) ?_
      exact g_retn w e19_56 rfl (by simp) rfl (by decide) (by decide) ⟨Or.inl ⟨rfl, fun j q1 q2 => hb j q1 (by omega)⟩, rfl⟩
    | succ r ih =>
      intro i l6 T vm hi hs hk hl6 hb  w
      refine g_iload w e19_3 (q := 5) rfl rfl ?_
      refine g_iloadN w e19_5 (q := 6) rfl rfl ?_
      refine g_icN w e19_6 (q := 9) rfl (Jvm.Free.XT.ii_ge_f (lt_ofNat (by omega) (by have := S_x.1; omega))) ?_
      refine g_aloadN w e19_9 (q := 10) rfl rfl rfl ?_
      refine g_iload w e19_10 (q := 12) rfl rfl ?_
      refine g_virtualB w (a := x) (argsL := [(.int (Int32.ofNat i))]) (own_chB hw (i := i) S_x (w.sta SC_) hz_ (w.sta SFm) rfm (by omega) rfl (by decide) (by decide)) S_x.exa e19_12 (q := 15) rfl rfl (Hw hw 112 rfl) (Hw hw 113 rfl) (Hw hw 115 rfl) (Hw hw 114 rfl) (by decide) (nf (Hw hw 115 rfl)) pd7 rfl rfl (W := 0) (Nat.le_of_eq rfl) (by decide) (by decide) (fun T v w hq => ?_)
      obtain rfl := hq
      show Go p e below _ (State.setTop T (mkF m 15 #[.val (.ref x), .val (.int (Int32.ofNat s_)), .val (.int (Int32.ofNat e_)), .val (.int L_), .val (.ref y), .val (.int (Int32.ofNat i)), l6] [(.int (cs.getD i 0))]))
      refine g_istore w e19_15 (q := 17) rfl (Ls' := #[.val (.ref x), .val (.int (Int32.ofNat s_)), .val (.int (Int32.ofNat e_)), .val (.int L_), .val (.ref y), .val (.int (Int32.ofNat i)), .val (.int (cs.getD i 0))]) ((Jvm.Free.XS.store1 rfl hl6 rfl).trans rfl) ?_
      refine g_iload w e19_17 (q := 19) rfl rfl ?_
      refine g_staticP w (con_dig l Z a0 hw (cs.getD i 0) _ w.old) no0 e19_19 (q := 22) rfl rfl (Hw hw 128 rfl) (Hw hw 129 rfl) (Hw hw 33 rfl) (Hw hw 130 rfl) (by decide) pd10 rfl rfl (W := 0) (Nat.le_of_eq rfl) (by decide) (by decide) (by decide) (by decide) (fun T v w C q => ?_)
      rcases q with ⟨rfl, t1⟩ | ⟨rfl, t1⟩
      · show Go p e below _ (State.setTop T (mkF m 22 #[.val (.ref x), .val (.int (Int32.ofNat s_)), .val (.int (Int32.ofNat e_)), .val (.int L_), .val (.ref y), .val (.int (Int32.ofNat i)), .val (.int (cs.getD i 0))] [(.int (1 : Int32))]))
        refine g_ifY w e19_22 (by decide) (q := 49) (by decide) (by decide) ?_
        refine g_iinc w e19_49 (q := 52) rfl (v := (1 : Int32)) (by decide) rfl rfl ?_
        rw [ofNat_succ]
        show Go p e below _ (State.setTop T (mkF m 52 #[.val (.ref x), .val (.int (Int32.ofNat s_)), .val (.int (Int32.ofNat e_)), .val (.int L_), .val (.ref y), .val (.int (Int32.ofNat (i + 1))), .val (.int (cs.getD i 0))] []))
        refine g_goto w e19_52 (by decide) (q := 3) (by decide) ?_
        exact ih (i + 1) _ T _ (by omega) (by omega) (by have := S_x.1; omega) (Or.inr ⟨_, rfl, rfl⟩) (fun j q1 q2 => by
            rcases Nat.lt_or_eq_of_le (Nat.le_of_lt_succ q2) with q | q
            · exact hb j q1 q
            · subst q; exact Or.inl t1) w
      · show Go p e below _ (State.setTop T (mkF m 22 #[.val (.ref x), .val (.int (Int32.ofNat s_)), .val (.int (Int32.ofNat e_)), .val (.int L_), .val (.ref y), .val (.int (Int32.ofNat i)), .val (.int (cs.getD i 0))] [(.int (0 : Int32))]))
        refine g_ifN w e19_22 (q := 25) rfl (by decide) ?_
        refine g_iloadN w e19_25 (q := 26) rfl rfl ?_
        refine g_if_eq w e19_26 (by decide) (q := 37) (by decide) (q' := 29) rfl (fun cd4 => ?_) (fun cd4 => ?_)
        · refine g_aload w e19_37 (q := 39) rfl rfl rfl ?_
          refine g_iload w e19_39 (q := 41) rfl rfl ?_
          refine g_virtualP w (con_ix1 l Z a0 hw y (cs.getD i 0) _ _ w.old S_y hcm (lat_all S_x.2.1 (by omega))) no0 S_y.exa e19_41 (q := 44) rfl rfl (Hw hw 35 rfl) (Hw hw 36 rfl) (Hw hw 38 rfl) (Hw hw 37 rfl) (Hw hw 11 rfl) (Hw hw 39 rfl) (by decide) (nf (Hw hw 38 rfl)) pd11 rfl rfl (W := 0) (Nat.le_of_eq rfl) (by decide) (by decide) (by decide) (by decide) (fun T v w C q => ?_)
          obtain rfl := q
          show Go p e below _ (State.setTop T (mkF m 44 #[.val (.ref x), .val (.int (Int32.ofNat s_)), .val (.int (Int32.ofNat e_)), .val (.int L_), .val (.ref y), .val (.int (Int32.ofNat i)), .val (.int (cs.getD i 0))] [(.int (fix (cs.getD i 0) (ds) 0))]))
          rcases Decidable.em (cs.getD i 0 ∈ ds) with hm | hm
          · refine g_ifY w e19_44 (by decide) (q := 49) (by decide) (Jvm.Free.XT.i0_ge_t (fun q => absurd hm ((fix_neg ds 0 (by have := S_y.1; omega)).mp q))) ?_
            refine g_iinc w e19_49 (q := 52) rfl (v := (1 : Int32)) (by decide) rfl rfl ?_
            rw [ofNat_succ]
            show Go p e below _ (State.setTop T (mkF m 52 #[.val (.ref x), .val (.int (Int32.ofNat s_)), .val (.int (Int32.ofNat e_)), .val (.int L_), .val (.ref y), .val (.int (Int32.ofNat (i + 1))), .val (.int (cs.getD i 0))] []))
            refine g_goto w e19_52 (by decide) (q := 3) (by decide) ?_
            exact ih (i + 1) _ T _ (by omega) (by omega) (by have := S_x.1; omega) (Or.inr ⟨_, rfl, rfl⟩) (fun j q1 q2 => by
                rcases Nat.lt_or_eq_of_le (Nat.le_of_lt_succ q2) with q | q
                · exact hb j q1 q
                · subst q; exact Or.inr (Or.inr hm)) w
          · refine g_ifN w e19_44 (q := 47) rfl (Jvm.Free.XT.i0_ge_f ((fix_neg ds 0 (by have := S_y.1; omega)).mpr hm)) ?_
            refine g_iconst w e19_47 (q := 48) rfl (v := (0 : Int32)) (by decide) ?_
            exact g_retn w e19_48 rfl (by simp) rfl (by decide) (by decide) ⟨Or.inr ⟨rfl, fun q => (q i (by omega) (by omega)).elim t1 (fun q => q.elim (fun q => q.1 cd4) hm)⟩, rfl⟩
        · refine g_iload w e19_29 (q := 31) rfl rfl ?_
          refine g_staticP w (con_let l Z a0 hw (cs.getD i 0) _ w.old) no0 e19_31 (q := 34) rfl rfl (Hw hw 131 rfl) (Hw hw 132 rfl) (Hw hw 33 rfl) (Hw hw 133 rfl) (by decide) pd10 rfl rfl (W := 0) (Nat.le_of_eq rfl) (by decide) (by decide) (by decide) (by decide) (fun T v w C q => ?_)
          rcases q with ⟨rfl, t5⟩ | ⟨rfl, t5⟩
          · show Go p e below _ (State.setTop T (mkF m 34 #[.val (.ref x), .val (.int (Int32.ofNat s_)), .val (.int (Int32.ofNat e_)), .val (.int L_), .val (.ref y), .val (.int (Int32.ofNat i)), .val (.int (cs.getD i 0))] [(.int (1 : Int32))]))
            refine g_ifY w e19_34 (by decide) (q := 49) (by decide) (by decide) ?_
            refine g_iinc w e19_49 (q := 52) rfl (v := (1 : Int32)) (by decide) rfl rfl ?_
            rw [ofNat_succ]
            show Go p e below _ (State.setTop T (mkF m 52 #[.val (.ref x), .val (.int (Int32.ofNat s_)), .val (.int (Int32.ofNat e_)), .val (.int L_), .val (.ref y), .val (.int (Int32.ofNat (i + 1))), .val (.int (cs.getD i 0))] []))
            refine g_goto w e19_52 (by decide) (q := 3) (by decide) ?_
            exact ih (i + 1) _ T _ (by omega) (by omega) (by have := S_x.1; omega) (Or.inr ⟨_, rfl, rfl⟩) (fun j q1 q2 => by
                rcases Nat.lt_or_eq_of_le (Nat.le_of_lt_succ q2) with q | q
                · exact hb j q1 q
                · subst q; exact Or.inr (Or.inl ⟨cd4, t5⟩)) w
          · show Go p e below _ (State.setTop T (mkF m 34 #[.val (.ref x), .val (.int (Int32.ofNat s_)), .val (.int (Int32.ofNat e_)), .val (.int L_), .val (.ref y), .val (.int (Int32.ofNat i)), .val (.int (cs.getD i 0))] [(.int (0 : Int32))]))
            refine g_ifN w e19_34 (q := 37) rfl (by decide) ?_
            refine g_aload w e19_37 (q := 39) rfl rfl rfl ?_
            refine g_iload w e19_39 (q := 41) rfl rfl ?_
            refine g_virtualP w (con_ix1 l Z a0 hw y (cs.getD i 0) _ _ w.old S_y hcm (lat_all S_x.2.1 (by omega))) no0 S_y.exa e19_41 (q := 44) rfl rfl (Hw hw 35 rfl) (Hw hw 36 rfl) (Hw hw 38 rfl) (Hw hw 37 rfl) (Hw hw 11 rfl) (Hw hw 39 rfl) (by decide) (nf (Hw hw 38 rfl)) pd11 rfl rfl (W := 0) (Nat.le_of_eq rfl) (by decide) (by decide) (by decide) (by decide) (fun T v w C q => ?_)
            obtain rfl := q
            show Go p e below _ (State.setTop T (mkF m 44 #[.val (.ref x), .val (.int (Int32.ofNat s_)), .val (.int (Int32.ofNat e_)), .val (.int L_), .val (.ref y), .val (.int (Int32.ofNat i)), .val (.int (cs.getD i 0))] [(.int (fix (cs.getD i 0) (ds) 0))]))
            rcases Decidable.em (cs.getD i 0 ∈ ds) with hm | hm
            · refine g_ifY w e19_44 (by decide) (q := 49) (by decide) (Jvm.Free.XT.i0_ge_t (fun q => absurd hm ((fix_neg ds 0 (by have := S_y.1; omega)).mp q))) ?_
              refine g_iinc w e19_49 (q := 52) rfl (v := (1 : Int32)) (by decide) rfl rfl ?_
              rw [ofNat_succ]
              show Go p e below _ (State.setTop T (mkF m 52 #[.val (.ref x), .val (.int (Int32.ofNat s_)), .val (.int (Int32.ofNat e_)), .val (.int L_), .val (.ref y), .val (.int (Int32.ofNat (i + 1))), .val (.int (cs.getD i 0))] []))
              refine g_goto w e19_52 (by decide) (q := 3) (by decide) ?_
              exact ih (i + 1) _ T _ (by omega) (by omega) (by have := S_x.1; omega) (Or.inr ⟨_, rfl, rfl⟩) (fun j q1 q2 => by
                  rcases Nat.lt_or_eq_of_le (Nat.le_of_lt_succ q2) with q | q
                  · exact hb j q1 q
                  · subst q; exact Or.inr (Or.inr hm)) w
            · refine g_ifN w e19_44 (q := 47) rfl (Jvm.Free.XT.i0_ge_f ((fix_neg ds 0 (by have := S_y.1; omega)).mpr hm)) ?_
              refine g_iconst w e19_47 (q := 48) rfl (v := (0 : Int32)) (by decide) ?_
              exact g_retn w e19_48 rfl (by simp) rfl (by decide) (by decide) ⟨Or.inr ⟨rfl, fun q => (q i (by omega) (by omega)).elim t1 (fun q => q.elim (fun q => t5 q.2) hm)⟩, rfl⟩
  exact LP (e_ - s_) s_ _ T _ (by omega) (Nat.le_refl _) hs0 (Or.inl rfl) (fun j q1 q2 => absurd q1 (by omega)) w
theorem e20_0 : decode prog_3_method_2_code 0 = .ok (.aload_n 0, 1) := by decide +kernel
theorem e20_1 : decode prog_3_method_2_code 1 = .ok (.bipush 58, 2) := by decide +kernel
theorem e20_3 : decode prog_3_method_2_code 3 = .ok (.invokevirtual 7, 3) := by decide +kernel
theorem e20_6 : decode prog_3_method_2_code 6 = .ok (.istore_n 1, 1) := by decide +kernel
theorem e20_7 : decode prog_3_method_2_code 7 = .ok (.aload_n 0, 1) := by decide +kernel
theorem e20_8 : decode prog_3_method_2_code 8 = .ok (.bipush 45, 2) := by decide +kernel
theorem e20_10 : decode prog_3_method_2_code 10 = .ok (.invokevirtual 13, 3) := by decide +kernel
theorem e20_13 : decode prog_3_method_2_code 13 = .ok (.istore_n 2, 1) := by decide +kernel
theorem e20_14 : decode prog_3_method_2_code 14 = .ok (.iload_n 2, 1) := by decide +kernel
theorem e20_15 : decode prog_3_method_2_code 15 = .ok (.ifCond .ge 10, 3) := by decide +kernel
theorem e20_18 : decode prog_3_method_2_code 18 = .ok (.aload_n 0, 1) := by decide +kernel
theorem e20_19 : decode prog_3_method_2_code 19 = .ok (.invokevirtual 16, 3) := by decide +kernel
theorem e20_22 : decode prog_3_method_2_code 22 = .ok (.goto 4, 3) := by decide +kernel
theorem e20_25 : decode prog_3_method_2_code 25 = .ok (.iload_n 2, 1) := by decide +kernel
theorem e20_26 : decode prog_3_method_2_code 26 = .ok (.istore_n 3, 1) := by decide +kernel
theorem e20_27 : decode prog_3_method_2_code 27 = .ok (.iload_n 1, 1) := by decide +kernel
theorem e20_28 : decode prog_3_method_2_code 28 = .ok (.ifCond .lt 19, 3) := by decide +kernel
theorem e20_31 : decode prog_3_method_2_code 31 = .ok (.iload_n 1, 1) := by decide +kernel
theorem e20_32 : decode prog_3_method_2_code 32 = .ok (.ifCond .le 19, 3) := by decide +kernel
theorem e20_35 : decode prog_3_method_2_code 35 = .ok (.aload_n 0, 1) := by decide +kernel
theorem e20_36 : decode prog_3_method_2_code 36 = .ok (.iconst 0, 1) := by decide +kernel
theorem e20_37 : decode prog_3_method_2_code 37 = .ok (.iload_n 1, 1) := by decide +kernel
theorem e20_38 : decode prog_3_method_2_code 38 = .ok (.iconst 0, 1) := by decide +kernel
theorem e20_39 : decode prog_3_method_2_code 39 = .ok (.ldc 20, 2) := by decide +kernel
theorem e20_41 : decode prog_3_method_2_code 41 = .ok (.invokestatic 22, 3) := by decide +kernel
theorem e20_44 : decode prog_3_method_2_code 44 = .ok (.ifCond .eq 7, 3) := by decide +kernel
theorem e20_47 : decode prog_3_method_2_code 47 = .ok (.iconst 1, 1) := by decide +kernel
theorem e20_48 : decode prog_3_method_2_code 48 = .ok (.goto 4, 3) := by decide +kernel
theorem e20_51 : decode prog_3_method_2_code 51 = .ok (.iconst 0, 1) := by decide +kernel
theorem e20_52 : decode prog_3_method_2_code 52 = .ok (.istore 4, 2) := by decide +kernel
theorem e20_54 : decode prog_3_method_2_code 54 = .ok (.iload_n 3, 1) := by decide +kernel
theorem e20_55 : decode prog_3_method_2_code 55 = .ok (.iload_n 1, 1) := by decide +kernel
theorem e20_56 : decode prog_3_method_2_code 56 = .ok (.iconst 1, 1) := by decide +kernel
theorem e20_57 : decode prog_3_method_2_code 57 = .ok (.iadd, 1) := by decide +kernel
theorem e20_58 : decode prog_3_method_2_code 58 = .ok (.if_icmp .le 21, 3) := by decide +kernel
theorem e20_61 : decode prog_3_method_2_code 61 = .ok (.aload_n 0, 1) := by decide +kernel
theorem e20_62 : decode prog_3_method_2_code 62 = .ok (.iload_n 1, 1) := by decide +kernel
theorem e20_63 : decode prog_3_method_2_code 63 = .ok (.iconst 1, 1) := by decide +kernel
theorem e20_64 : decode prog_3_method_2_code 64 = .ok (.iadd, 1) := by decide +kernel
theorem e20_65 : decode prog_3_method_2_code 65 = .ok (.iload_n 3, 1) := by decide +kernel
theorem e20_66 : decode prog_3_method_2_code 66 = .ok (.iconst 1, 1) := by decide +kernel
theorem e20_67 : decode prog_3_method_2_code 67 = .ok (.ldc 28, 2) := by decide +kernel
theorem e20_69 : decode prog_3_method_2_code 69 = .ok (.invokestatic 22, 3) := by decide +kernel
theorem e20_72 : decode prog_3_method_2_code 72 = .ok (.ifCond .eq 7, 3) := by decide +kernel
theorem e20_75 : decode prog_3_method_2_code 75 = .ok (.iconst 1, 1) := by decide +kernel
theorem e20_76 : decode prog_3_method_2_code 76 = .ok (.goto 4, 3) := by decide +kernel
theorem e20_79 : decode prog_3_method_2_code 79 = .ok (.iconst 0, 1) := by decide +kernel
theorem e20_80 : decode prog_3_method_2_code 80 = .ok (.istore 5, 2) := by decide +kernel
theorem e20_82 : decode prog_3_method_2_code 82 = .ok (.iload_n 2, 1) := by decide +kernel
theorem e20_83 : decode prog_3_method_2_code 83 = .ok (.ifCond .lt 30, 3) := by decide +kernel
theorem e20_86 : decode prog_3_method_2_code 86 = .ok (.iload_n 2, 1) := by decide +kernel
theorem e20_87 : decode prog_3_method_2_code 87 = .ok (.aload_n 0, 1) := by decide +kernel
theorem e20_88 : decode prog_3_method_2_code 88 = .ok (.invokevirtual 16, 3) := by decide +kernel
theorem e20_91 : decode prog_3_method_2_code 91 = .ok (.iconst 1, 1) := by decide +kernel
theorem e20_92 : decode prog_3_method_2_code 92 = .ok (.isub, 1) := by decide +kernel
theorem e20_93 : decode prog_3_method_2_code 93 = .ok (.if_icmp .ge 24, 3) := by decide +kernel
theorem e20_96 : decode prog_3_method_2_code 96 = .ok (.aload_n 0, 1) := by decide +kernel
theorem e20_97 : decode prog_3_method_2_code 97 = .ok (.iload_n 2, 1) := by decide +kernel
theorem e20_98 : decode prog_3_method_2_code 98 = .ok (.iconst 1, 1) := by decide +kernel
theorem e20_99 : decode prog_3_method_2_code 99 = .ok (.iadd, 1) := by decide +kernel
theorem e20_100 : decode prog_3_method_2_code 100 = .ok (.aload_n 0, 1) := by decide +kernel
theorem e20_101 : decode prog_3_method_2_code 101 = .ok (.invokevirtual 16, 3) := by decide +kernel
theorem e20_104 : decode prog_3_method_2_code 104 = .ok (.iconst 1, 1) := by decide +kernel
theorem e20_105 : decode prog_3_method_2_code 105 = .ok (.ldc 30, 2) := by decide +kernel
theorem e20_107 : decode prog_3_method_2_code 107 = .ok (.invokestatic 22, 3) := by decide +kernel
theorem e20_110 : decode prog_3_method_2_code 110 = .ok (.ifCond .eq 7, 3) := by decide +kernel
theorem e20_113 : decode prog_3_method_2_code 113 = .ok (.iconst 1, 1) := by decide +kernel
theorem e20_114 : decode prog_3_method_2_code 114 = .ok (.goto 4, 3) := by decide +kernel
theorem e20_117 : decode prog_3_method_2_code 117 = .ok (.iconst 0, 1) := by decide +kernel
theorem e20_118 : decode prog_3_method_2_code 118 = .ok (.istore 6, 2) := by decide +kernel
theorem e20_120 : decode prog_3_method_2_code 120 = .ok (.iload 4, 2) := by decide +kernel
theorem e20_122 : decode prog_3_method_2_code 122 = .ok (.ifCond .eq 17, 3) := by decide +kernel
theorem e20_125 : decode prog_3_method_2_code 125 = .ok (.iload 5, 2) := by decide +kernel
theorem e20_127 : decode prog_3_method_2_code 127 = .ok (.ifCond .eq 12, 3) := by decide +kernel
theorem e20_130 : decode prog_3_method_2_code 130 = .ok (.iload 6, 2) := by decide +kernel
theorem e20_132 : decode prog_3_method_2_code 132 = .ok (.ifCond .eq 7, 3) := by decide +kernel
theorem e20_135 : decode prog_3_method_2_code 135 = .ok (.iconst 1, 1) := by decide +kernel
theorem e20_136 : decode prog_3_method_2_code 136 = .ok (.goto 4, 3) := by decide +kernel
theorem e20_139 : decode prog_3_method_2_code 139 = .ok (.iconst 0, 1) := by decide +kernel
theorem e20_140 : decode prog_3_method_2_code 140 = .ok (.ireturn, 1) := by decide +kernel
theorem pd12 : parseMethodDescriptor "(Ljava/lang/String;IIZLjava/lang/String;)Z" = some ⟨[(.object "java/lang/String"), .int, .int, .boolean, (.object "java/lang/String")], some .boolean⟩ := by decide +kernel
set_option maxRecDepth 65536 in
set_option maxHeartbeats 40000000 in
theorem con_ver (l : Launch) (Z : State) (a0 : Array Value) (hw : ∀ d ∈ tables_1, d.before a0 Z = true) (fm : Value) (x : Addr) (cs : List Int32) (h0 : Heap) (O0 : Ext Z.heap h0) (S_x : Sg Z h0 x cs) (hcm : Cpt Z) (SFm : Sta Z Z.heap "jdk/internal/util/Preconditions" "SIOOBE_FORMATTER" "Ljava/util/function/BiFunction;" fm) (rfm : fm.isRef = true) :
    Con l Z consts_1 false (⟨"com/example/deepquery/deepquery/DebianVersion", "isVersion", "(Ljava/lang/String;)Z"⟩ : MethodName) prog_3_method_2_code 7 (some .boolean) [] ({ frames := 5, cells := 6, slots := 40, locals := 77 } : Room) #[(.ref x)] [] h0 (fun v h => Ext h0 h ∧ ∃ co hy, First cs 58 co ∧ Last cs 45 hy ∧ ((v = some (.int 1) ∧ Ver cs co hy) ∨ (v = some (.int 0) ∧ ¬ Ver cs co hy))) := by
  refine Con.intro (Ls := #[.val (.ref x), .unset, .unset, .unset, .unset, .unset, .unset]) (plainFor_of_name pn3) (own_EL hw) O0 (fun m => by first | (simp [entryFrame, mkF, argsToLocals, Value.category]; done) | rfl) (fun p e s m below meth cc_ T w sf_ => ?_)
  have E0 := ext_refl h0
  obtain ⟨z_, hz_, SC_⟩ := id hcm
  have h4k := S_x.1
  refine g_aloadN w e20_0 (q := 1) rfl rfl rfl ?_
  refine g_bipush w e20_1 (q := 3) rfl (v := (58 : Int32)) (by decide) ?_
  refine g_virtualP w (con_ix1 l Z a0 hw x (58 : Int32) _ _ w.old S_x hcm (by constructor <;> decide)) no0 S_x.exa e20_3 (q := 6) rfl rfl (Hw hw 35 rfl) (Hw hw 36 rfl) (Hw hw 38 rfl) (Hw hw 37 rfl) (Hw hw 11 rfl) (Hw hw 39 rfl) (by decide) (nf (Hw hw 38 rfl)) pd11 rfl rfl (W := 0) (Nat.le_of_eq rfl) (by decide) (by decide) (by decide) (by decide) (fun T v w C q => ?_)
  obtain rfl := q
  show Go p e below _ (State.setTop T (mkF m 6 #[.val (.ref x), .unset, .unset, .unset, .unset, .unset, .unset] [(.int (fix (58 : Int32) (cs) 0))]))
  rcases ix_cases (c := 58) (cs := cs) with ⟨eco, hco⟩ | ⟨ci, hci, eco, hco⟩
  · rw [eco]
    show Go p e below _ (State.setTop T (mkF m 6 #[.val (.ref x), .unset, .unset, .unset, .unset, .unset, .unset] [(.int (-1 : Int32))]))
    refine g_istoreN w e20_6 (q := 7) rfl (Ls' := #[.val (.ref x), .val (.int (-1 : Int32)), .unset, .unset, .unset, .unset, .unset]) rfl ?_
    refine g_aloadN w e20_7 (q := 8) rfl rfl rfl ?_
    refine g_bipush w e20_8 (q := 10) rfl (v := (45 : Int32)) (by decide) ?_
    refine g_virtualP w (con_li1 l Z a0 hw x (45 : Int32) _ _ w.old S_x hcm (by constructor <;> decide)) no0 S_x.exa e20_10 (q := 13) rfl rfl (Hw hw 75 rfl) (Hw hw 76 rfl) (Hw hw 78 rfl) (Hw hw 77 rfl) (Hw hw 11 rfl) (Hw hw 79 rfl) (by decide) (nf (Hw hw 78 rfl)) pd11 rfl rfl (W := 0) (Nat.le_of_eq rfl) (by decide) (by decide) (by decide) (by decide) (fun T v w C q => ?_)
    obtain rfl := q
    show Go p e below _ (State.setTop T (mkF m 13 #[.val (.ref x), .val (.int (-1 : Int32)), .unset, .unset, .unset, .unset, .unset] [(.int (lix (45 : Int32) (cs) (cs).length))]))
    rcases lx_cases (c := 45) (cs := cs) with ⟨ehy, hhy⟩ | ⟨hi, hhi, ehy, hhy⟩
    · rw [ehy]
      show Go p e below _ (State.setTop T (mkF m 13 #[.val (.ref x), .val (.int (-1 : Int32)), .unset, .unset, .unset, .unset, .unset] [(.int (-1 : Int32))]))
      refine g_istoreN w e20_13 (q := 14) rfl (Ls' := #[.val (.ref x), .val (.int (-1 : Int32)), .val (.int (-1 : Int32)), .unset, .unset, .unset, .unset]) rfl ?_
      refine g_iloadN w e20_14 (q := 15) rfl rfl ?_
      refine g_ifN w e20_15 (q := 18) rfl (by decide) ?_
      refine g_aloadN w e20_18 (q := 19) rfl rfl rfl ?_
      refine g_virtualB w (a := x) (argsL := []) (own_lenB hw S_x (w.sta SC_) hz_ (by decide) (by decide)) S_x.exa e20_19 (q := 22) rfl rfl (Hw hw 88 rfl) (Hw hw 52 rfl) (Hw hw 54 rfl) (Hw hw 53 rfl) (by decide) (nf (Hw hw 54 rfl)) pd5 rfl rfl (W := 0) (Nat.le_of_eq rfl) (by decide) (by decide) (fun T v w hq => ?_)
      obtain rfl := hq
      show Go p e below _ (State.setTop T (mkF m 22 #[.val (.ref x), .val (.int (-1 : Int32)), .val (.int (-1 : Int32)), .unset, .unset, .unset, .unset] [(.int (Int32.ofNat (cs).length))]))
      refine g_goto w e20_22 (by decide) (q := 26) (by decide) ?_
      refine g_istoreN w e20_26 (q := 27) rfl (Ls' := #[.val (.ref x), .val (.int (-1 : Int32)), .val (.int (-1 : Int32)), .val (.int (Int32.ofNat (cs).length)), .unset, .unset, .unset]) rfl ?_
      refine g_iloadN w e20_27 (q := 28) rfl rfl ?_
      refine g_ifY w e20_28 (by decide) (q := 47) (by decide) (by decide) ?_
      refine g_iconst w e20_47 (q := 48) rfl (v := (1 : Int32)) (by decide) ?_
      refine g_goto w e20_48 (by decide) (q := 52) (by decide) ?_
      refine g_istore w e20_52 (q := 54) rfl (Ls' := #[.val (.ref x), .val (.int (-1 : Int32)), .val (.int (-1 : Int32)), .val (.int (Int32.ofNat (cs).length)), .val (.int (1 : Int32)), .unset, .unset]) rfl ?_
      refine g_iloadN w e20_54 (q := 55) rfl rfl ?_
      refine g_iloadN w e20_55 (q := 56) rfl rfl ?_
      refine g_iconst w e20_56 (q := 57) rfl (v := (1 : Int32)) (by decide) ?_
      refine g_iadd w e20_57 (q := 58) rfl ?_
      rw [show ((-1 : Int32) + 1) = Int32.ofNat 0 from by decide]
      show Go p e below _ (State.setTop T (mkF m 58 #[.val (.ref x), .val (.int (-1 : Int32)), .val (.int (-1 : Int32)), .val (.int (Int32.ofNat (cs).length)), .val (.int (1 : Int32)), .unset, .unset] [(.int (Int32.ofNat 0)), (.int (Int32.ofNat (cs).length))]))
      rcases Decidable.em ((0) < ((cs).length)) with hn3 | hn3
      · refine g_icN w e20_58 (q := 61) rfl (Jvm.Free.XT.ii_le_f (lt_ofNat hn3 (by have := S_x.1; omega))) ?_
        refine g_aloadN w e20_61 (q := 62) rfl rfl rfl ?_
        refine g_iloadN w e20_62 (q := 63) rfl rfl ?_
        refine g_iconst w e20_63 (q := 64) rfl (v := (1 : Int32)) (by decide) ?_
        refine g_iadd w e20_64 (q := 65) rfl ?_
        rw [show ((-1 : Int32) + 1) = Int32.ofNat 0 from by decide]
        show Go p e below _ (State.setTop T (mkF m 65 #[.val (.ref x), .val (.int (-1 : Int32)), .val (.int (-1 : Int32)), .val (.int (Int32.ofNat (cs).length)), .val (.int (1 : Int32)), .unset, .unset] [(.int (Int32.ofNat 0)), (.ref x)]))
        refine g_iloadN w e20_65 (q := 66) rfl rfl ?_
        refine g_iconst w e20_66 (q := 67) rfl (v := (1 : Int32)) (by decide) ?_
        refine g_ldcS w e20_67 (q := 69) rfl rfl (Hw hw 108 rfl) (own_wS hw) (by decide) (vs := [.int (46 : Int32), .int (43 : Int32), .int (45 : Int32), .int (126 : Int32)]) (z := 4) ⟨by decide, by decide⟩ (by decide) (by decide) (nn := 16) (by decide) (by decide) (by decide) (by decide) (fun T vm h t4 b_t4 kb_t4 w E X_t4 Fc_t4 Fv_t4 Ab_t4 C Sf => ?_)
        replace E0 := ext_trans E0 E
        replace S_x := S_x.ext E
        have S_t4 : Sg Z h t4 [46, 43, 45, 126] := ⟨Nat.le_of_ble_eq_true rfl, by unfold Lt8; decide, X_t4, b_t4, kb_t4, Fv_t4, Fc_t4, Ab_t4⟩
        refine g_staticP w (con_holds l Z a0 hw fm x t4 (0) ((cs).length) (1 : Int32) _ _ _ w.old S_x S_t4 (by omega) (by have := S_x.1; omega) hcm SFm rfm) no0 e20_69 (q := 72) rfl rfl (Hw hw 109 rfl) (Hw hw 110 rfl) (Hw hw 33 rfl) (Hw hw 111 rfl) (by decide) pd12 rfl rfl (W := 0) (Nat.le_of_eq rfl) (by decide) (by decide) (by decide) (by decide) (fun T v w C q => ?_)
        rcases q with ⟨rfl, hh5⟩ | ⟨rfl, hh5⟩
        · show Go p e below _ (State.setTop T (mkF m 72 #[.val (.ref x), .val (.int (-1 : Int32)), .val (.int (-1 : Int32)), .val (.int (Int32.ofNat (cs).length)), .val (.int (1 : Int32)), .unset, .unset] [(.int (1 : Int32))]))
          refine g_ifN w e20_72 (q := 75) rfl (by decide) ?_
          refine g_iconst w e20_75 (q := 76) rfl (v := (1 : Int32)) (by decide) ?_
          refine g_goto w e20_76 (by decide) (q := 80) (by decide) ?_
          refine g_istore w e20_80 (q := 82) rfl (Ls' := #[.val (.ref x), .val (.int (-1 : Int32)), .val (.int (-1 : Int32)), .val (.int (Int32.ofNat (cs).length)), .val (.int (1 : Int32)), .val (.int (1 : Int32)), .unset]) rfl ?_
          refine g_iloadN w e20_82 (q := 83) rfl rfl ?_
          refine g_ifY w e20_83 (by decide) (q := 113) (by decide) (by decide) ?_
          refine g_iconst w e20_113 (q := 114) rfl (v := (1 : Int32)) (by decide) ?_
          refine g_goto w e20_114 (by decide) (q := 118) (by decide) ?_
          refine g_istore w e20_118 (q := 120) rfl (Ls' := #[.val (.ref x), .val (.int (-1 : Int32)), .val (.int (-1 : Int32)), .val (.int (Int32.ofNat (cs).length)), .val (.int (1 : Int32)), .val (.int (1 : Int32)), .val (.int (1 : Int32))]) rfl ?_
          refine g_iload w e20_120 (q := 122) rfl rfl ?_
          refine g_ifN w e20_122 (q := 125) rfl (by decide) ?_
          refine g_iload w e20_125 (q := 127) rfl rfl ?_
          refine g_ifN w e20_127 (q := 130) rfl (by decide) ?_
          refine g_iload w e20_130 (q := 132) rfl rfl ?_
          refine g_ifN w e20_132 (q := 135) rfl (by decide) ?_
          refine g_iconst w e20_135 (q := 136) rfl (v := (1 : Int32)) (by decide) ?_
          refine g_goto w e20_136 (by decide) (q := 140) (by decide) ?_
          exact g_retn w e20_140 rfl (by simp) rfl (by decide) (by decide) ⟨E0, none, none, hco, hhy, Or.inl ⟨rfl, And.intro True.intro (And.intro (And.intro (by omega) hh5) True.intro)⟩⟩
        · show Go p e below _ (State.setTop T (mkF m 72 #[.val (.ref x), .val (.int (-1 : Int32)), .val (.int (-1 : Int32)), .val (.int (Int32.ofNat (cs).length)), .val (.int (1 : Int32)), .unset, .unset] [(.int (0 : Int32))]))
          refine g_ifY w e20_72 (by decide) (q := 79) (by decide) (by decide) ?_
          refine g_iconst w e20_79 (q := 80) rfl (v := (0 : Int32)) (by decide) ?_
          refine g_istore w e20_80 (q := 82) rfl (Ls' := #[.val (.ref x), .val (.int (-1 : Int32)), .val (.int (-1 : Int32)), .val (.int (Int32.ofNat (cs).length)), .val (.int (1 : Int32)), .val (.int (0 : Int32)), .unset]) rfl ?_
          refine g_iloadN w e20_82 (q := 83) rfl rfl ?_
          refine g_ifY w e20_83 (by decide) (q := 113) (by decide) (by decide) ?_
          refine g_iconst w e20_113 (q := 114) rfl (v := (1 : Int32)) (by decide) ?_
          refine g_goto w e20_114 (by decide) (q := 118) (by decide) ?_
          refine g_istore w e20_118 (q := 120) rfl (Ls' := #[.val (.ref x), .val (.int (-1 : Int32)), .val (.int (-1 : Int32)), .val (.int (Int32.ofNat (cs).length)), .val (.int (1 : Int32)), .val (.int (0 : Int32)), .val (.int (1 : Int32))]) rfl ?_
          refine g_iload w e20_120 (q := 122) rfl rfl ?_
          refine g_ifN w e20_122 (q := 125) rfl (by decide) ?_
          refine g_iload w e20_125 (q := 127) rfl rfl ?_
          refine g_ifY w e20_127 (by decide) (q := 139) (by decide) (by decide) ?_
          refine g_iconst w e20_139 (q := 140) rfl (v := (0 : Int32)) (by decide) ?_
          exact g_retn w e20_140 rfl (by simp) rfl (by decide) (by decide) ⟨E0, none, none, hco, hhy, Or.inr ⟨rfl, fun V => hh5 V.2.1.2⟩⟩
      · refine g_icY w e20_58 (by decide) (q := 79) (by decide) (Jvm.Free.XT.ii_le_t (not_lt_ofNat (by omega) (by have := S_x.1; omega))) ?_
        refine g_iconst w e20_79 (q := 80) rfl (v := (0 : Int32)) (by decide) ?_
        refine g_istore w e20_80 (q := 82) rfl (Ls' := #[.val (.ref x), .val (.int (-1 : Int32)), .val (.int (-1 : Int32)), .val (.int (Int32.ofNat (cs).length)), .val (.int (1 : Int32)), .val (.int (0 : Int32)), .unset]) rfl ?_
        refine g_iloadN w e20_82 (q := 83) rfl rfl ?_
        refine g_ifY w e20_83 (by decide) (q := 113) (by decide) (by decide) ?_
        refine g_iconst w e20_113 (q := 114) rfl (v := (1 : Int32)) (by decide) ?_
        refine g_goto w e20_114 (by decide) (q := 118) (by decide) ?_
        refine g_istore w e20_118 (q := 120) rfl (Ls' := #[.val (.ref x), .val (.int (-1 : Int32)), .val (.int (-1 : Int32)), .val (.int (Int32.ofNat (cs).length)), .val (.int (1 : Int32)), .val (.int (0 : Int32)), .val (.int (1 : Int32))]) rfl ?_
        refine g_iload w e20_120 (q := 122) rfl rfl ?_
        refine g_ifN w e20_122 (q := 125) rfl (by decide) ?_
        refine g_iload w e20_125 (q := 127) rfl rfl ?_
        refine g_ifY w e20_127 (by decide) (q := 139) (by decide) (by decide) ?_
        refine g_iconst w e20_139 (q := 140) rfl (v := (0 : Int32)) (by decide) ?_
        exact g_retn w e20_140 rfl (by simp) rfl (by decide) (by decide) ⟨E0, none, none, hco, hhy, Or.inr ⟨rfl, fun V => absurd V.2.1.1 (by omega)⟩⟩
    · rw [ehy]
      show Go p e below _ (State.setTop T (mkF m 13 #[.val (.ref x), .val (.int (-1 : Int32)), .unset, .unset, .unset, .unset, .unset] [(.int (Int32.ofNat hi))]))
      refine g_istoreN w e20_13 (q := 14) rfl (Ls' := #[.val (.ref x), .val (.int (-1 : Int32)), .val (.int (Int32.ofNat hi)), .unset, .unset, .unset, .unset]) rfl ?_
      refine g_iloadN w e20_14 (q := 15) rfl rfl ?_
      refine g_ifY w e20_15 (by decide) (q := 25) (by decide) (Jvm.Free.XT.i0_ge_t (ofNat_nonneg (by omega))) ?_
      refine g_iloadN w e20_25 (q := 26) rfl rfl ?_
      refine g_istoreN w e20_26 (q := 27) rfl (Ls' := #[.val (.ref x), .val (.int (-1 : Int32)), .val (.int (Int32.ofNat hi)), .val (.int (Int32.ofNat hi)), .unset, .unset, .unset]) rfl ?_
      refine g_iloadN w e20_27 (q := 28) rfl rfl ?_
      refine g_ifY w e20_28 (by decide) (q := 47) (by decide) (by decide) ?_
      refine g_iconst w e20_47 (q := 48) rfl (v := (1 : Int32)) (by decide) ?_
      refine g_goto w e20_48 (by decide) (q := 52) (by decide) ?_
      refine g_istore w e20_52 (q := 54) rfl (Ls' := #[.val (.ref x), .val (.int (-1 : Int32)), .val (.int (Int32.ofNat hi)), .val (.int (Int32.ofNat hi)), .val (.int (1 : Int32)), .unset, .unset]) rfl ?_
      refine g_iloadN w e20_54 (q := 55) rfl rfl ?_
      refine g_iloadN w e20_55 (q := 56) rfl rfl ?_
      refine g_iconst w e20_56 (q := 57) rfl (v := (1 : Int32)) (by decide) ?_
      refine g_iadd w e20_57 (q := 58) rfl ?_
      rw [show ((-1 : Int32) + 1) = Int32.ofNat 0 from by decide]
      show Go p e below _ (State.setTop T (mkF m 58 #[.val (.ref x), .val (.int (-1 : Int32)), .val (.int (Int32.ofNat hi)), .val (.int (Int32.ofNat hi)), .val (.int (1 : Int32)), .unset, .unset] [(.int (Int32.ofNat 0)), (.int (Int32.ofNat hi))]))
      rcases Decidable.em ((0) < (hi)) with hn19 | hn19
      · refine g_icN w e20_58 (q := 61) rfl (Jvm.Free.XT.ii_le_f (lt_ofNat hn19 (by have := S_x.1; omega))) ?_
        refine g_aloadN w e20_61 (q := 62) rfl rfl rfl ?_
        refine g_iloadN w e20_62 (q := 63) rfl rfl ?_
        refine g_iconst w e20_63 (q := 64) rfl (v := (1 : Int32)) (by decide) ?_
        refine g_iadd w e20_64 (q := 65) rfl ?_
        rw [show ((-1 : Int32) + 1) = Int32.ofNat 0 from by decide]
        show Go p e below _ (State.setTop T (mkF m 65 #[.val (.ref x), .val (.int (-1 : Int32)), .val (.int (Int32.ofNat hi)), .val (.int (Int32.ofNat hi)), .val (.int (1 : Int32)), .unset, .unset] [(.int (Int32.ofNat 0)), (.ref x)]))
        refine g_iloadN w e20_65 (q := 66) rfl rfl ?_
        refine g_iconst w e20_66 (q := 67) rfl (v := (1 : Int32)) (by decide) ?_
        refine g_ldcS w e20_67 (q := 69) rfl rfl (Hw hw 108 rfl) (own_wS hw) (by decide) (vs := [.int (46 : Int32), .int (43 : Int32), .int (45 : Int32), .int (126 : Int32)]) (z := 4) ⟨by decide, by decide⟩ (by decide) (by decide) (nn := 16) (by decide) (by decide) (by decide) (by decide) (fun T vm h t20 b_t20 kb_t20 w E X_t20 Fc_t20 Fv_t20 Ab_t20 C Sf => ?_)
        replace E0 := ext_trans E0 E
        replace S_x := S_x.ext E
        have S_t20 : Sg Z h t20 [46, 43, 45, 126] := ⟨Nat.le_of_ble_eq_true rfl, by unfold Lt8; decide, X_t20, b_t20, kb_t20, Fv_t20, Fc_t20, Ab_t20⟩
        refine g_staticP w (con_holds l Z a0 hw fm x t20 (0) (hi) (1 : Int32) _ _ _ w.old S_x S_t20 (by omega) (by have := S_x.1; omega) hcm SFm rfm) no0 e20_69 (q := 72) rfl rfl (Hw hw 109 rfl) (Hw hw 110 rfl) (Hw hw 33 rfl) (Hw hw 111 rfl) (by decide) pd12 rfl rfl (W := 0) (Nat.le_of_eq rfl) (by decide) (by decide) (by decide) (by decide) (fun T v w C q => ?_)
        rcases q with ⟨rfl, hh21⟩ | ⟨rfl, hh21⟩
        · show Go p e below _ (State.setTop T (mkF m 72 #[.val (.ref x), .val (.int (-1 : Int32)), .val (.int (Int32.ofNat hi)), .val (.int (Int32.ofNat hi)), .val (.int (1 : Int32)), .unset, .unset] [(.int (1 : Int32))]))
          refine g_ifN w e20_72 (q := 75) rfl (by decide) ?_
          refine g_iconst w e20_75 (q := 76) rfl (v := (1 : Int32)) (by decide) ?_
          refine g_goto w e20_76 (by decide) (q := 80) (by decide) ?_
          refine g_istore w e20_80 (q := 82) rfl (Ls' := #[.val (.ref x), .val (.int (-1 : Int32)), .val (.int (Int32.ofNat hi)), .val (.int (Int32.ofNat hi)), .val (.int (1 : Int32)), .val (.int (1 : Int32)), .unset]) rfl ?_
          refine g_iloadN w e20_82 (q := 83) rfl rfl ?_
          refine g_ifN w e20_83 (q := 86) rfl (Jvm.Free.XT.i0_lt_f (ofNat_nonneg (by omega))) ?_
          refine g_iloadN w e20_86 (q := 87) rfl rfl ?_
          refine g_aloadN w e20_87 (q := 88) rfl rfl rfl ?_
          refine g_virtualB w (a := x) (argsL := []) (own_lenB hw S_x (w.sta SC_) hz_ (by decide) (by decide)) S_x.exa e20_88 (q := 91) rfl rfl (Hw hw 88 rfl) (Hw hw 52 rfl) (Hw hw 54 rfl) (Hw hw 53 rfl) (by decide) (nf (Hw hw 54 rfl)) pd5 rfl rfl (W := 1) (Nat.le_of_eq rfl) (by decide) (by decide) (fun T v w hq => ?_)
          obtain rfl := hq
          show Go p e below _ (State.setTop T (mkF m 91 #[.val (.ref x), .val (.int (-1 : Int32)), .val (.int (Int32.ofNat hi)), .val (.int (Int32.ofNat hi)), .val (.int (1 : Int32)), .val (.int (1 : Int32)), .unset] [(.int (Int32.ofNat (cs).length)), (.int (Int32.ofNat hi))]))
          refine g_iconst w e20_91 (q := 92) rfl (v := (1 : Int32)) (by decide) ?_
          refine g_isub w e20_92 (q := 93) rfl ?_
          rw [ofNat_sub1 (by omega)]
          show Go p e below _ (State.setTop T (mkF m 93 #[.val (.ref x), .val (.int (-1 : Int32)), .val (.int (Int32.ofNat hi)), .val (.int (Int32.ofNat hi)), .val (.int (1 : Int32)), .val (.int (1 : Int32)), .unset] [(.int (Int32.ofNat (cs.length - 1))), (.int (Int32.ofNat hi))]))
          rcases Decidable.em ((hi) < ((cs.length - 1))) with hn23 | hn23
          · refine g_icN w e20_93 (q := 96) rfl (Jvm.Free.XT.ii_ge_f (lt_ofNat hn23 (by have := S_x.1; omega))) ?_
            refine g_aloadN w e20_96 (q := 97) rfl rfl rfl ?_
            refine g_iloadN w e20_97 (q := 98) rfl rfl ?_
            refine g_iconst w e20_98 (q := 99) rfl (v := (1 : Int32)) (by decide) ?_
            refine g_iadd w e20_99 (q := 100) rfl ?_
            rw [ofNat_succ]
            show Go p e below _ (State.setTop T (mkF m 100 #[.val (.ref x), .val (.int (-1 : Int32)), .val (.int (Int32.ofNat hi)), .val (.int (Int32.ofNat hi)), .val (.int (1 : Int32)), .val (.int (1 : Int32)), .unset] [(.int (Int32.ofNat ((hi) + 1))), (.ref x)]))
            refine g_aloadN w e20_100 (q := 101) rfl rfl rfl ?_
            refine g_virtualB w (a := x) (argsL := []) (own_lenB hw S_x (w.sta SC_) hz_ (by decide) (by decide)) S_x.exa e20_101 (q := 104) rfl rfl (Hw hw 88 rfl) (Hw hw 52 rfl) (Hw hw 54 rfl) (Hw hw 53 rfl) (by decide) (nf (Hw hw 54 rfl)) pd5 rfl rfl (W := 2) (Nat.le_of_eq rfl) (by decide) (by decide) (fun T v w hq => ?_)
            obtain rfl := hq
            show Go p e below _ (State.setTop T (mkF m 104 #[.val (.ref x), .val (.int (-1 : Int32)), .val (.int (Int32.ofNat hi)), .val (.int (Int32.ofNat hi)), .val (.int (1 : Int32)), .val (.int (1 : Int32)), .unset] [(.int (Int32.ofNat (cs).length)), (.int (Int32.ofNat ((hi) + 1))), (.ref x)]))
            refine g_iconst w e20_104 (q := 105) rfl (v := (1 : Int32)) (by decide) ?_
            refine g_ldcS w e20_105 (q := 107) rfl rfl (Hw hw 137 rfl) (own_wS hw) (by decide) (vs := [.int (46 : Int32), .int (43 : Int32), .int (126 : Int32)]) (z := 3) ⟨by decide, by decide⟩ (by decide) (by decide) (nn := 12) (by decide) (by decide) (by decide) (by decide) (fun T vm h t24 b_t24 kb_t24 w E X_t24 Fc_t24 Fv_t24 Ab_t24 C Sf => ?_)
            replace E0 := ext_trans E0 E
            replace S_x := S_x.ext E
            replace S_t20 := S_t20.ext E
            have S_t24 : Sg Z h t24 [46, 43, 126] := ⟨Nat.le_of_ble_eq_true rfl, by unfold Lt8; decide, X_t24, b_t24, kb_t24, Fv_t24, Fc_t24, Ab_t24⟩
            refine g_staticP w (con_holds l Z a0 hw fm x t24 (((hi) + 1)) ((cs).length) (1 : Int32) _ _ _ w.old S_x S_t24 (by omega) (by have := S_x.1; omega) hcm SFm rfm) no0 e20_107 (q := 110) rfl rfl (Hw hw 109 rfl) (Hw hw 110 rfl) (Hw hw 33 rfl) (Hw hw 111 rfl) (by decide) pd12 rfl rfl (W := 0) (Nat.le_of_eq rfl) (by decide) (by decide) (by decide) (by decide) (fun T v w C q => ?_)
            rcases q with ⟨rfl, hh25⟩ | ⟨rfl, hh25⟩
            · show Go p e below _ (State.setTop T (mkF m 110 #[.val (.ref x), .val (.int (-1 : Int32)), .val (.int (Int32.ofNat hi)), .val (.int (Int32.ofNat hi)), .val (.int (1 : Int32)), .val (.int (1 : Int32)), .unset] [(.int (1 : Int32))]))
              refine g_ifN w e20_110 (q := 113) rfl (by decide) ?_
              refine g_iconst w e20_113 (q := 114) rfl (v := (1 : Int32)) (by decide) ?_
              refine g_goto w e20_114 (by decide) (q := 118) (by decide) ?_
              refine g_istore w e20_118 (q := 120) rfl (Ls' := #[.val (.ref x), .val (.int (-1 : Int32)), .val (.int (Int32.ofNat hi)), .val (.int (Int32.ofNat hi)), .val (.int (1 : Int32)), .val (.int (1 : Int32)), .val (.int (1 : Int32))]) rfl ?_
              refine g_iload w e20_120 (q := 122) rfl rfl ?_
              refine g_ifN w e20_122 (q := 125) rfl (by decide) ?_
              refine g_iload w e20_125 (q := 127) rfl rfl ?_
              refine g_ifN w e20_127 (q := 130) rfl (by decide) ?_
              refine g_iload w e20_130 (q := 132) rfl rfl ?_
              refine g_ifN w e20_132 (q := 135) rfl (by decide) ?_
              refine g_iconst w e20_135 (q := 136) rfl (v := (1 : Int32)) (by decide) ?_
              refine g_goto w e20_136 (by decide) (q := 140) (by decide) ?_
              exact g_retn w e20_140 rfl (by simp) rfl (by decide) (by decide) ⟨E0, none, (some hi), hco, ⟨hhi, hhy⟩, Or.inl ⟨rfl, And.intro True.intro (And.intro (And.intro (by omega) hh21) (And.intro (by omega) hh25))⟩⟩
            · show Go p e below _ (State.setTop T (mkF m 110 #[.val (.ref x), .val (.int (-1 : Int32)), .val (.int (Int32.ofNat hi)), .val (.int (Int32.ofNat hi)), .val (.int (1 : Int32)), .val (.int (1 : Int32)), .unset] [(.int (0 : Int32))]))
              refine g_ifY w e20_110 (by decide) (q := 117) (by decide) (by decide) ?_
              refine g_iconst w e20_117 (q := 118) rfl (v := (0 : Int32)) (by decide) ?_
              refine g_istore w e20_118 (q := 120) rfl (Ls' := #[.val (.ref x), .val (.int (-1 : Int32)), .val (.int (Int32.ofNat hi)), .val (.int (Int32.ofNat hi)), .val (.int (1 : Int32)), .val (.int (1 : Int32)), .val (.int (0 : Int32))]) rfl ?_
              refine g_iload w e20_120 (q := 122) rfl rfl ?_
              refine g_ifN w e20_122 (q := 125) rfl (by decide) ?_
              refine g_iload w e20_125 (q := 127) rfl rfl ?_
              refine g_ifN w e20_127 (q := 130) rfl (by decide) ?_
              refine g_iload w e20_130 (q := 132) rfl rfl ?_
              refine g_ifY w e20_132 (by decide) (q := 139) (by decide) (by decide) ?_
              refine g_iconst w e20_139 (q := 140) rfl (v := (0 : Int32)) (by decide) ?_
              exact g_retn w e20_140 rfl (by simp) rfl (by decide) (by decide) ⟨E0, none, (some hi), hco, ⟨hhi, hhy⟩, Or.inr ⟨rfl, fun V => hh25 V.2.2.2⟩⟩
          · refine g_icY w e20_93 (by decide) (q := 117) (by decide) (Jvm.Free.XT.ii_ge_t (not_lt_ofNat (by omega) (by have := S_x.1; omega))) ?_
            refine g_iconst w e20_117 (q := 118) rfl (v := (0 : Int32)) (by decide) ?_
            refine g_istore w e20_118 (q := 120) rfl (Ls' := #[.val (.ref x), .val (.int (-1 : Int32)), .val (.int (Int32.ofNat hi)), .val (.int (Int32.ofNat hi)), .val (.int (1 : Int32)), .val (.int (1 : Int32)), .val (.int (0 : Int32))]) rfl ?_
            refine g_iload w e20_120 (q := 122) rfl rfl ?_
            refine g_ifN w e20_122 (q := 125) rfl (by decide) ?_
            refine g_iload w e20_125 (q := 127) rfl rfl ?_
            refine g_ifN w e20_127 (q := 130) rfl (by decide) ?_
            refine g_iload w e20_130 (q := 132) rfl rfl ?_
            refine g_ifY w e20_132 (by decide) (q := 139) (by decide) (by decide) ?_
            refine g_iconst w e20_139 (q := 140) rfl (v := (0 : Int32)) (by decide) ?_
            exact g_retn w e20_140 rfl (by simp) rfl (by decide) (by decide) ⟨E0, none, (some hi), hco, ⟨hhi, hhy⟩, Or.inr ⟨rfl, fun V => absurd V.2.2.1 (by omega)⟩⟩
        · show Go p e below _ (State.setTop T (mkF m 72 #[.val (.ref x), .val (.int (-1 : Int32)), .val (.int (Int32.ofNat hi)), .val (.int (Int32.ofNat hi)), .val (.int (1 : Int32)), .unset, .unset] [(.int (0 : Int32))]))
          refine g_ifY w e20_72 (by decide) (q := 79) (by decide) (by decide) ?_
          refine g_iconst w e20_79 (q := 80) rfl (v := (0 : Int32)) (by decide) ?_
          refine g_istore w e20_80 (q := 82) rfl (Ls' := #[.val (.ref x), .val (.int (-1 : Int32)), .val (.int (Int32.ofNat hi)), .val (.int (Int32.ofNat hi)), .val (.int (1 : Int32)), .val (.int (0 : Int32)), .unset]) rfl ?_
          refine g_iloadN w e20_82 (q := 83) rfl rfl ?_
          refine g_ifN w e20_83 (q := 86) rfl (Jvm.Free.XT.i0_lt_f (ofNat_nonneg (by omega))) ?_
          refine g_iloadN w e20_86 (q := 87) rfl rfl ?_
          refine g_aloadN w e20_87 (q := 88) rfl rfl rfl ?_
          refine g_virtualB w (a := x) (argsL := []) (own_lenB hw S_x (w.sta SC_) hz_ (by decide) (by decide)) S_x.exa e20_88 (q := 91) rfl rfl (Hw hw 88 rfl) (Hw hw 52 rfl) (Hw hw 54 rfl) (Hw hw 53 rfl) (by decide) (nf (Hw hw 54 rfl)) pd5 rfl rfl (W := 1) (Nat.le_of_eq rfl) (by decide) (by decide) (fun T v w hq => ?_)
          obtain rfl := hq
          show Go p e below _ (State.setTop T (mkF m 91 #[.val (.ref x), .val (.int (-1 : Int32)), .val (.int (Int32.ofNat hi)), .val (.int (Int32.ofNat hi)), .val (.int (1 : Int32)), .val (.int (0 : Int32)), .unset] [(.int (Int32.ofNat (cs).length)), (.int (Int32.ofNat hi))]))
          refine g_iconst w e20_91 (q := 92) rfl (v := (1 : Int32)) (by decide) ?_
          refine g_isub w e20_92 (q := 93) rfl ?_
          rw [ofNat_sub1 (by omega)]
          show Go p e below _ (State.setTop T (mkF m 93 #[.val (.ref x), .val (.int (-1 : Int32)), .val (.int (Int32.ofNat hi)), .val (.int (Int32.ofNat hi)), .val (.int (1 : Int32)), .val (.int (0 : Int32)), .unset] [(.int (Int32.ofNat (cs.length - 1))), (.int (Int32.ofNat hi))]))
          rcases Decidable.em ((hi) < ((cs.length - 1))) with hn38 | hn38
          · refine g_icN w e20_93 (q := 96) rfl (Jvm.Free.XT.ii_ge_f (lt_ofNat hn38 (by have := S_x.1; omega))) ?_
            refine g_aloadN w e20_96 (q := 97) rfl rfl rfl ?_
            refine g_iloadN w e20_97 (q := 98) rfl rfl ?_
            refine g_iconst w e20_98 (q := 99) rfl (v := (1 : Int32)) (by decide) ?_
            refine g_iadd w e20_99 (q := 100) rfl ?_
            rw [ofNat_succ]
            show Go p e below _ (State.setTop T (mkF m 100 #[.val (.ref x), .val (.int (-1 : Int32)), .val (.int (Int32.ofNat hi)), .val (.int (Int32.ofNat hi)), .val (.int (1 : Int32)), .val (.int (0 : Int32)), .unset] [(.int (Int32.ofNat ((hi) + 1))), (.ref x)]))
            refine g_aloadN w e20_100 (q := 101) rfl rfl rfl ?_
            refine g_virtualB w (a := x) (argsL := []) (own_lenB hw S_x (w.sta SC_) hz_ (by decide) (by decide)) S_x.exa e20_101 (q := 104) rfl rfl (Hw hw 88 rfl) (Hw hw 52 rfl) (Hw hw 54 rfl) (Hw hw 53 rfl) (by decide) (nf (Hw hw 54 rfl)) pd5 rfl rfl (W := 2) (Nat.le_of_eq rfl) (by decide) (by decide) (fun T v w hq => ?_)
            obtain rfl := hq
            show Go p e below _ (State.setTop T (mkF m 104 #[.val (.ref x), .val (.int (-1 : Int32)), .val (.int (Int32.ofNat hi)), .val (.int (Int32.ofNat hi)), .val (.int (1 : Int32)), .val (.int (0 : Int32)), .unset] [(.int (Int32.ofNat (cs).length)), (.int (Int32.ofNat ((hi) + 1))), (.ref x)]))
            refine g_iconst w e20_104 (q := 105) rfl (v := (1 : Int32)) (by decide) ?_
            refine g_ldcS w e20_105 (q := 107) rfl rfl (Hw hw 137 rfl) (own_wS hw) (by decide) (vs := [.int (46 : Int32), .int (43 : Int32), .int (126 : Int32)]) (z := 3) ⟨by decide, by decide⟩ (by decide) (by decide) (nn := 12) (by decide) (by decide) (by decide) (by decide) (fun T vm h t39 b_t39 kb_t39 w E X_t39 Fc_t39 Fv_t39 Ab_t39 C Sf => ?_)
            replace E0 := ext_trans E0 E
            replace S_x := S_x.ext E
            replace S_t20 := S_t20.ext E
            have S_t39 : Sg Z h t39 [46, 43, 126] := ⟨Nat.le_of_ble_eq_true rfl, by unfold Lt8; decide, X_t39, b_t39, kb_t39, Fv_t39, Fc_t39, Ab_t39⟩
            refine g_staticP w (con_holds l Z a0 hw fm x t39 (((hi) + 1)) ((cs).length) (1 : Int32) _ _ _ w.old S_x S_t39 (by omega) (by have := S_x.1; omega) hcm SFm rfm) no0 e20_107 (q := 110) rfl rfl (Hw hw 109 rfl) (Hw hw 110 rfl) (Hw hw 33 rfl) (Hw hw 111 rfl) (by decide) pd12 rfl rfl (W := 0) (Nat.le_of_eq rfl) (by decide) (by decide) (by decide) (by decide) (fun T v w C q => ?_)
            rcases q with ⟨rfl, hh40⟩ | ⟨rfl, hh40⟩
            · show Go p e below _ (State.setTop T (mkF m 110 #[.val (.ref x), .val (.int (-1 : Int32)), .val (.int (Int32.ofNat hi)), .val (.int (Int32.ofNat hi)), .val (.int (1 : Int32)), .val (.int (0 : Int32)), .unset] [(.int (1 : Int32))]))
              refine g_ifN w e20_110 (q := 113) rfl (by decide) ?_
              refine g_iconst w e20_113 (q := 114) rfl (v := (1 : Int32)) (by decide) ?_
              refine g_goto w e20_114 (by decide) (q := 118) (by decide) ?_
              refine g_istore w e20_118 (q := 120) rfl (Ls' := #[.val (.ref x), .val (.int (-1 : Int32)), .val (.int (Int32.ofNat hi)), .val (.int (Int32.ofNat hi)), .val (.int (1 : Int32)), .val (.int (0 : Int32)), .val (.int (1 : Int32))]) rfl ?_
              refine g_iload w e20_120 (q := 122) rfl rfl ?_
              refine g_ifN w e20_122 (q := 125) rfl (by decide) ?_
              refine g_iload w e20_125 (q := 127) rfl rfl ?_
              refine g_ifY w e20_127 (by decide) (q := 139) (by decide) (by decide) ?_
              refine g_iconst w e20_139 (q := 140) rfl (v := (0 : Int32)) (by decide) ?_
              exact g_retn w e20_140 rfl (by simp) rfl (by decide) (by decide) ⟨E0, none, (some hi), hco, ⟨hhi, hhy⟩, Or.inr ⟨rfl, fun V => hh21 V.2.1.2⟩⟩
            · show Go p e below _ (State.setTop T (mkF m 110 #[.val (.ref x), .val (.int (-1 : Int32)), .val (.int (Int32.ofNat hi)), .val (.int (Int32.ofNat hi)), .val (.int (1 : Int32)), .val (.int (0 : Int32)), .unset] [(.int (0 : Int32))]))
              refine g_ifY w e20_110 (by decide) (q := 117) (by decide) (by decide) ?_
              refine g_iconst w e20_117 (q := 118) rfl (v := (0 : Int32)) (by decide) ?_
              refine g_istore w e20_118 (q := 120) rfl (Ls' := #[.val (.ref x), .val (.int (-1 : Int32)), .val (.int (Int32.ofNat hi)), .val (.int (Int32.ofNat hi)), .val (.int (1 : Int32)), .val (.int (0 : Int32)), .val (.int (0 : Int32))]) rfl ?_
              refine g_iload w e20_120 (q := 122) rfl rfl ?_
              refine g_ifN w e20_122 (q := 125) rfl (by decide) ?_
              refine g_iload w e20_125 (q := 127) rfl rfl ?_
              refine g_ifY w e20_127 (by decide) (q := 139) (by decide) (by decide) ?_
              refine g_iconst w e20_139 (q := 140) rfl (v := (0 : Int32)) (by decide) ?_
              exact g_retn w e20_140 rfl (by simp) rfl (by decide) (by decide) ⟨E0, none, (some hi), hco, ⟨hhi, hhy⟩, Or.inr ⟨rfl, fun V => hh21 V.2.1.2⟩⟩
          · refine g_icY w e20_93 (by decide) (q := 117) (by decide) (Jvm.Free.XT.ii_ge_t (not_lt_ofNat (by omega) (by have := S_x.1; omega))) ?_
            refine g_iconst w e20_117 (q := 118) rfl (v := (0 : Int32)) (by decide) ?_
            refine g_istore w e20_118 (q := 120) rfl (Ls' := #[.val (.ref x), .val (.int (-1 : Int32)), .val (.int (Int32.ofNat hi)), .val (.int (Int32.ofNat hi)), .val (.int (1 : Int32)), .val (.int (0 : Int32)), .val (.int (0 : Int32))]) rfl ?_
            refine g_iload w e20_120 (q := 122) rfl rfl ?_
            refine g_ifN w e20_122 (q := 125) rfl (by decide) ?_
            refine g_iload w e20_125 (q := 127) rfl rfl ?_
            refine g_ifY w e20_127 (by decide) (q := 139) (by decide) (by decide) ?_
            refine g_iconst w e20_139 (q := 140) rfl (v := (0 : Int32)) (by decide) ?_
            exact g_retn w e20_140 rfl (by simp) rfl (by decide) (by decide) ⟨E0, none, (some hi), hco, ⟨hhi, hhy⟩, Or.inr ⟨rfl, fun V => hh21 V.2.1.2⟩⟩
      · refine g_icY w e20_58 (by decide) (q := 79) (by decide) (Jvm.Free.XT.ii_le_t (not_lt_ofNat (by omega) (by have := S_x.1; omega))) ?_
        refine g_iconst w e20_79 (q := 80) rfl (v := (0 : Int32)) (by decide) ?_
        refine g_istore w e20_80 (q := 82) rfl (Ls' := #[.val (.ref x), .val (.int (-1 : Int32)), .val (.int (Int32.ofNat hi)), .val (.int (Int32.ofNat hi)), .val (.int (1 : Int32)), .val (.int (0 : Int32)), .unset]) rfl ?_
        refine g_iloadN w e20_82 (q := 83) rfl rfl ?_
        refine g_ifN w e20_83 (q := 86) rfl (Jvm.Free.XT.i0_lt_f (ofNat_nonneg (by omega))) ?_
        refine g_iloadN w e20_86 (q := 87) rfl rfl ?_
        refine g_aloadN w e20_87 (q := 88) rfl rfl rfl ?_
        refine g_virtualB w (a := x) (argsL := []) (own_lenB hw S_x (w.sta SC_) hz_ (by decide) (by decide)) S_x.exa e20_88 (q := 91) rfl rfl (Hw hw 88 rfl) (Hw hw 52 rfl) (Hw hw 54 rfl) (Hw hw 53 rfl) (by decide) (nf (Hw hw 54 rfl)) pd5 rfl rfl (W := 1) (Nat.le_of_eq rfl) (by decide) (by decide) (fun T v w hq => ?_)
        obtain rfl := hq
        show Go p e below _ (State.setTop T (mkF m 91 #[.val (.ref x), .val (.int (-1 : Int32)), .val (.int (Int32.ofNat hi)), .val (.int (Int32.ofNat hi)), .val (.int (1 : Int32)), .val (.int (0 : Int32)), .unset] [(.int (Int32.ofNat (cs).length)), (.int (Int32.ofNat hi))]))
        refine g_iconst w e20_91 (q := 92) rfl (v := (1 : Int32)) (by decide) ?_
        refine g_isub w e20_92 (q := 93) rfl ?_
        rw [ofNat_sub1 (by omega)]
        show Go p e below _ (State.setTop T (mkF m 93 #[.val (.ref x), .val (.int (-1 : Int32)), .val (.int (Int32.ofNat hi)), .val (.int (Int32.ofNat hi)), .val (.int (1 : Int32)), .val (.int (0 : Int32)), .unset] [(.int (Int32.ofNat (cs.length - 1))), (.int (Int32.ofNat hi))]))
        rcases Decidable.em ((hi) < ((cs.length - 1))) with hn49 | hn49
        · refine g_icN w e20_93 (q := 96) rfl (Jvm.Free.XT.ii_ge_f (lt_ofNat hn49 (by have := S_x.1; omega))) ?_
          refine g_aloadN w e20_96 (q := 97) rfl rfl rfl ?_
          refine g_iloadN w e20_97 (q := 98) rfl rfl ?_
          refine g_iconst w e20_98 (q := 99) rfl (v := (1 : Int32)) (by decide) ?_
          refine g_iadd w e20_99 (q := 100) rfl ?_
          rw [ofNat_succ]
          show Go p e below _ (State.setTop T (mkF m 100 #[.val (.ref x), .val (.int (-1 : Int32)), .val (.int (Int32.ofNat hi)), .val (.int (Int32.ofNat hi)), .val (.int (1 : Int32)), .val (.int (0 : Int32)), .unset] [(.int (Int32.ofNat ((hi) + 1))), (.ref x)]))
          refine g_aloadN w e20_100 (q := 101) rfl rfl rfl ?_
          refine g_virtualB w (a := x) (argsL := []) (own_lenB hw S_x (w.sta SC_) hz_ (by decide) (by decide)) S_x.exa e20_101 (q := 104) rfl rfl (Hw hw 88 rfl) (Hw hw 52 rfl) (Hw hw 54 rfl) (Hw hw 53 rfl) (by decide) (nf (Hw hw 54 rfl)) pd5 rfl rfl (W := 2) (Nat.le_of_eq rfl) (by decide) (by decide) (fun T v w hq => ?_)
          obtain rfl := hq
          show Go p e below _ (State.setTop T (mkF m 104 #[.val (.ref x), .val (.int (-1 : Int32)), .val (.int (Int32.ofNat hi)), .val (.int (Int32.ofNat hi)), .val (.int (1 : Int32)), .val (.int (0 : Int32)), .unset] [(.int (Int32.ofNat (cs).length)), (.int (Int32.ofNat ((hi) + 1))), (.ref x)]))
          refine g_iconst w e20_104 (q := 105) rfl (v := (1 : Int32)) (by decide) ?_
          refine g_ldcS w e20_105 (q := 107) rfl rfl (Hw hw 137 rfl) (own_wS hw) (by decide) (vs := [.int (46 : Int32), .int (43 : Int32), .int (126 : Int32)]) (z := 3) ⟨by decide, by decide⟩ (by decide) (by decide) (nn := 12) (by decide) (by decide) (by decide) (by decide) (fun T vm h t50 b_t50 kb_t50 w E X_t50 Fc_t50 Fv_t50 Ab_t50 C Sf => ?_)
          replace E0 := ext_trans E0 E
          replace S_x := S_x.ext E
          have S_t50 : Sg Z h t50 [46, 43, 126] := ⟨Nat.le_of_ble_eq_true rfl, by unfold Lt8; decide, X_t50, b_t50, kb_t50, Fv_t50, Fc_t50, Ab_t50⟩
          refine g_staticP w (con_holds l Z a0 hw fm x t50 (((hi) + 1)) ((cs).length) (1 : Int32) _ _ _ w.old S_x S_t50 (by omega) (by have := S_x.1; omega) hcm SFm rfm) no0 e20_107 (q := 110) rfl rfl (Hw hw 109 rfl) (Hw hw 110 rfl) (Hw hw 33 rfl) (Hw hw 111 rfl) (by decide) pd12 rfl rfl (W := 0) (Nat.le_of_eq rfl) (by decide) (by decide) (by decide) (by decide) (fun T v w C q => ?_)
          rcases q with ⟨rfl, hh51⟩ | ⟨rfl, hh51⟩
          · show Go p e below _ (State.setTop T (mkF m 110 #[.val (.ref x), .val (.int (-1 : Int32)), .val (.int (Int32.ofNat hi)), .val (.int (Int32.ofNat hi)), .val (.int (1 : Int32)), .val (.int (0 : Int32)), .unset] [(.int (1 : Int32))]))
            refine g_ifN w e20_110 (q := 113) rfl (by decide) ?_
            refine g_iconst w e20_113 (q := 114) rfl (v := (1 : Int32)) (by decide) ?_
            refine g_goto w e20_114 (by decide) (q := 118) (by decide) ?_
            refine g_istore w e20_118 (q := 120) rfl (Ls' := #[.val (.ref x), .val (.int (-1 : Int32)), .val (.int (Int32.ofNat hi)), .val (.int (Int32.ofNat hi)), .val (.int (1 : Int32)), .val (.int (0 : Int32)), .val (.int (1 : Int32))]) rfl ?_
            refine g_iload w e20_120 (q := 122) rfl rfl ?_
            refine g_ifN w e20_122 (q := 125) rfl (by decide) ?_
            refine g_iload w e20_125 (q := 127) rfl rfl ?_
            refine g_ifY w e20_127 (by decide) (q := 139) (by decide) (by decide) ?_
            refine g_iconst w e20_139 (q := 140) rfl (v := (0 : Int32)) (by decide) ?_
            exact g_retn w e20_140 rfl (by simp) rfl (by decide) (by decide) ⟨E0, none, (some hi), hco, ⟨hhi, hhy⟩, Or.inr ⟨rfl, fun V => absurd V.2.1.1 (by omega)⟩⟩
          · show Go p e below _ (State.setTop T (mkF m 110 #[.val (.ref x), .val (.int (-1 : Int32)), .val (.int (Int32.ofNat hi)), .val (.int (Int32.ofNat hi)), .val (.int (1 : Int32)), .val (.int (0 : Int32)), .unset] [(.int (0 : Int32))]))
            refine g_ifY w e20_110 (by decide) (q := 117) (by decide) (by decide) ?_
            refine g_iconst w e20_117 (q := 118) rfl (v := (0 : Int32)) (by decide) ?_
            refine g_istore w e20_118 (q := 120) rfl (Ls' := #[.val (.ref x), .val (.int (-1 : Int32)), .val (.int (Int32.ofNat hi)), .val (.int (Int32.ofNat hi)), .val (.int (1 : Int32)), .val (.int (0 : Int32)), .val (.int (0 : Int32))]) rfl ?_
            refine g_iload w e20_120 (q := 122) rfl rfl ?_
            refine g_ifN w e20_122 (q := 125) rfl (by decide) ?_
            refine g_iload w e20_125 (q := 127) rfl rfl ?_
            refine g_ifY w e20_127 (by decide) (q := 139) (by decide) (by decide) ?_
            refine g_iconst w e20_139 (q := 140) rfl (v := (0 : Int32)) (by decide) ?_
            exact g_retn w e20_140 rfl (by simp) rfl (by decide) (by decide) ⟨E0, none, (some hi), hco, ⟨hhi, hhy⟩, Or.inr ⟨rfl, fun V => absurd V.2.1.1 (by omega)⟩⟩
        · refine g_icY w e20_93 (by decide) (q := 117) (by decide) (Jvm.Free.XT.ii_ge_t (not_lt_ofNat (by omega) (by have := S_x.1; omega))) ?_
          refine g_iconst w e20_117 (q := 118) rfl (v := (0 : Int32)) (by decide) ?_
          refine g_istore w e20_118 (q := 120) rfl (Ls' := #[.val (.ref x), .val (.int (-1 : Int32)), .val (.int (Int32.ofNat hi)), .val (.int (Int32.ofNat hi)), .val (.int (1 : Int32)), .val (.int (0 : Int32)), .val (.int (0 : Int32))]) rfl ?_
          refine g_iload w e20_120 (q := 122) rfl rfl ?_
          refine g_ifN w e20_122 (q := 125) rfl (by decide) ?_
          refine g_iload w e20_125 (q := 127) rfl rfl ?_
          refine g_ifY w e20_127 (by decide) (q := 139) (by decide) (by decide) ?_
          refine g_iconst w e20_139 (q := 140) rfl (v := (0 : Int32)) (by decide) ?_
          exact g_retn w e20_140 rfl (by simp) rfl (by decide) (by decide) ⟨E0, none, (some hi), hco, ⟨hhi, hhy⟩, Or.inr ⟨rfl, fun V => absurd V.2.1.1 (by omega)⟩⟩
  · rw [eco]
    show Go p e below _ (State.setTop T (mkF m 6 #[.val (.ref x), .unset, .unset, .unset, .unset, .unset, .unset] [(.int (Int32.ofNat ci))]))
    refine g_istoreN w e20_6 (q := 7) rfl (Ls' := #[.val (.ref x), .val (.int (Int32.ofNat ci)), .unset, .unset, .unset, .unset, .unset]) rfl ?_
    refine g_aloadN w e20_7 (q := 8) rfl rfl rfl ?_
    refine g_bipush w e20_8 (q := 10) rfl (v := (45 : Int32)) (by decide) ?_
    refine g_virtualP w (con_li1 l Z a0 hw x (45 : Int32) _ _ w.old S_x hcm (by constructor <;> decide)) no0 S_x.exa e20_10 (q := 13) rfl rfl (Hw hw 75 rfl) (Hw hw 76 rfl) (Hw hw 78 rfl) (Hw hw 77 rfl) (Hw hw 11 rfl) (Hw hw 79 rfl) (by decide) (nf (Hw hw 78 rfl)) pd11 rfl rfl (W := 0) (Nat.le_of_eq rfl) (by decide) (by decide) (by decide) (by decide) (fun T v w C q => ?_)
    obtain rfl := q
    show Go p e below _ (State.setTop T (mkF m 13 #[.val (.ref x), .val (.int (Int32.ofNat ci)), .unset, .unset, .unset, .unset, .unset] [(.int (lix (45 : Int32) (cs) (cs).length))]))
    rcases lx_cases (c := 45) (cs := cs) with ⟨ehy, hhy⟩ | ⟨hi, hhi, ehy, hhy⟩
    · rw [ehy]
      show Go p e below _ (State.setTop T (mkF m 13 #[.val (.ref x), .val (.int (Int32.ofNat ci)), .unset, .unset, .unset, .unset, .unset] [(.int (-1 : Int32))]))
      refine g_istoreN w e20_13 (q := 14) rfl (Ls' := #[.val (.ref x), .val (.int (Int32.ofNat ci)), .val (.int (-1 : Int32)), .unset, .unset, .unset, .unset]) rfl ?_
      refine g_iloadN w e20_14 (q := 15) rfl rfl ?_
      refine g_ifN w e20_15 (q := 18) rfl (by decide) ?_
      refine g_aloadN w e20_18 (q := 19) rfl rfl rfl ?_
      refine g_virtualB w (a := x) (argsL := []) (own_lenB hw S_x (w.sta SC_) hz_ (by decide) (by decide)) S_x.exa e20_19 (q := 22) rfl rfl (Hw hw 88 rfl) (Hw hw 52 rfl) (Hw hw 54 rfl) (Hw hw 53 rfl) (by decide) (nf (Hw hw 54 rfl)) pd5 rfl rfl (W := 0) (Nat.le_of_eq rfl) (by decide) (by decide) (fun T v w hq => ?_)
      obtain rfl := hq
      show Go p e below _ (State.setTop T (mkF m 22 #[.val (.ref x), .val (.int (Int32.ofNat ci)), .val (.int (-1 : Int32)), .unset, .unset, .unset, .unset] [(.int (Int32.ofNat (cs).length))]))
      refine g_goto w e20_22 (by decide) (q := 26) (by decide) ?_
      refine g_istoreN w e20_26 (q := 27) rfl (Ls' := #[.val (.ref x), .val (.int (Int32.ofNat ci)), .val (.int (-1 : Int32)), .val (.int (Int32.ofNat (cs).length)), .unset, .unset, .unset]) rfl ?_
      refine g_iloadN w e20_27 (q := 28) rfl rfl ?_
      refine g_ifN w e20_28 (q := 31) rfl (Jvm.Free.XT.i0_lt_f (ofNat_nonneg (by omega))) ?_
      refine g_iloadN w e20_31 (q := 32) rfl rfl ?_
      rcases Decidable.em ((ci) = 0) with hz0 | hz0
      · refine g_ifY w e20_32 (by decide) (q := 51) (by decide) (Jvm.Free.XT.i0_le_t (by subst hz0; decide)) ?_
        refine g_iconst w e20_51 (q := 52) rfl (v := (0 : Int32)) (by decide) ?_
        refine g_istore w e20_52 (q := 54) rfl (Ls' := #[.val (.ref x), .val (.int (Int32.ofNat ci)), .val (.int (-1 : Int32)), .val (.int (Int32.ofNat (cs).length)), .val (.int (0 : Int32)), .unset, .unset]) rfl ?_
        refine g_iloadN w e20_54 (q := 55) rfl rfl ?_
        refine g_iloadN w e20_55 (q := 56) rfl rfl ?_
        refine g_iconst w e20_56 (q := 57) rfl (v := (1 : Int32)) (by decide) ?_
        refine g_iadd w e20_57 (q := 58) rfl ?_
        rw [ofNat_succ]
        show Go p e below _ (State.setTop T (mkF m 58 #[.val (.ref x), .val (.int (Int32.ofNat ci)), .val (.int (-1 : Int32)), .val (.int (Int32.ofNat (cs).length)), .val (.int (0 : Int32)), .unset, .unset] [(.int (Int32.ofNat ((ci) + 1))), (.int (Int32.ofNat (cs).length))]))
        rcases Decidable.em ((((ci) + 1)) < ((cs).length)) with hn61 | hn61
        · refine g_icN w e20_58 (q := 61) rfl (Jvm.Free.XT.ii_le_f (lt_ofNat hn61 (by have := S_x.1; omega))) ?_
          refine g_aloadN w e20_61 (q := 62) rfl rfl rfl ?_
          refine g_iloadN w e20_62 (q := 63) rfl rfl ?_
          refine g_iconst w e20_63 (q := 64) rfl (v := (1 : Int32)) (by decide) ?_
          refine g_iadd w e20_64 (q := 65) rfl ?_
          rw [ofNat_succ]
          show Go p e below _ (State.setTop T (mkF m 65 #[.val (.ref x), .val (.int (Int32.ofNat ci)), .val (.int (-1 : Int32)), .val (.int (Int32.ofNat (cs).length)), .val (.int (0 : Int32)), .unset, .unset] [(.int (Int32.ofNat ((ci) + 1))), (.ref x)]))
          refine g_iloadN w e20_65 (q := 66) rfl rfl ?_
          refine g_iconst w e20_66 (q := 67) rfl (v := (1 : Int32)) (by decide) ?_
          refine g_ldcS w e20_67 (q := 69) rfl rfl (Hw hw 108 rfl) (own_wS hw) (by decide) (vs := [.int (46 : Int32), .int (43 : Int32), .int (45 : Int32), .int (126 : Int32)]) (z := 4) ⟨by decide, by decide⟩ (by decide) (by decide) (nn := 16) (by decide) (by decide) (by decide) (by decide) (fun T vm h t62 b_t62 kb_t62 w E X_t62 Fc_t62 Fv_t62 Ab_t62 C Sf => ?_)
          replace E0 := ext_trans E0 E
          replace S_x := S_x.ext E
          have S_t62 : Sg Z h t62 [46, 43, 45, 126] := ⟨Nat.le_of_ble_eq_true rfl, by unfold Lt8; decide, X_t62, b_t62, kb_t62, Fv_t62, Fc_t62, Ab_t62⟩
          refine g_staticP w (con_holds l Z a0 hw fm x t62 (((ci) + 1)) ((cs).length) (1 : Int32) _ _ _ w.old S_x S_t62 (by omega) (by have := S_x.1; omega) hcm SFm rfm) no0 e20_69 (q := 72) rfl rfl (Hw hw 109 rfl) (Hw hw 110 rfl) (Hw hw 33 rfl) (Hw hw 111 rfl) (by decide) pd12 rfl rfl (W := 0) (Nat.le_of_eq rfl) (by decide) (by decide) (by decide) (by decide) (fun T v w C q => ?_)
          rcases q with ⟨rfl, hh63⟩ | ⟨rfl, hh63⟩
          · show Go p e below _ (State.setTop T (mkF m 72 #[.val (.ref x), .val (.int (Int32.ofNat ci)), .val (.int (-1 : Int32)), .val (.int (Int32.ofNat (cs).length)), .val (.int (0 : Int32)), .unset, .unset] [(.int (1 : Int32))]))
            refine g_ifN w e20_72 (q := 75) rfl (by decide) ?_
            refine g_iconst w e20_75 (q := 76) rfl (v := (1 : Int32)) (by decide) ?_
            refine g_goto w e20_76 (by decide) (q := 80) (by decide) ?_
            refine g_istore w e20_80 (q := 82) rfl (Ls' := #[.val (.ref x), .val (.int (Int32.ofNat ci)), .val (.int (-1 : Int32)), .val (.int (Int32.ofNat (cs).length)), .val (.int (0 : Int32)), .val (.int (1 : Int32)), .unset]) rfl ?_
            refine g_iloadN w e20_82 (q := 83) rfl rfl ?_
            refine g_ifY w e20_83 (by decide) (q := 113) (by decide) (by decide) ?_
            refine g_iconst w e20_113 (q := 114) rfl (v := (1 : Int32)) (by decide) ?_
            refine g_goto w e20_114 (by decide) (q := 118) (by decide) ?_
            refine g_istore w e20_118 (q := 120) rfl (Ls' := #[.val (.ref x), .val (.int (Int32.ofNat ci)), .val (.int (-1 : Int32)), .val (.int (Int32.ofNat (cs).length)), .val (.int (0 : Int32)), .val (.int (1 : Int32)), .val (.int (1 : Int32))]) rfl ?_
            refine g_iload w e20_120 (q := 122) rfl rfl ?_
            refine g_ifY w e20_122 (by decide) (q := 139) (by decide) (by decide) ?_
            refine g_iconst w e20_139 (q := 140) rfl (v := (0 : Int32)) (by decide) ?_
            exact g_retn w e20_140 rfl (by simp) rfl (by decide) (by decide) ⟨E0, (some ci), none, ⟨hci, hco⟩, hhy, Or.inr ⟨rfl, fun V => absurd V.1.1 (by omega)⟩⟩
          · show Go p e below _ (State.setTop T (mkF m 72 #[.val (.ref x), .val (.int (Int32.ofNat ci)), .val (.int (-1 : Int32)), .val (.int (Int32.ofNat (cs).length)), .val (.int (0 : Int32)), .unset, .unset] [(.int (0 : Int32))]))
            refine g_ifY w e20_72 (by decide) (q := 79) (by decide) (by decide) ?_
            refine g_iconst w e20_79 (q := 80) rfl (v := (0 : Int32)) (by decide) ?_
            refine g_istore w e20_80 (q := 82) rfl (Ls' := #[.val (.ref x), .val (.int (Int32.ofNat ci)), .val (.int (-1 : Int32)), .val (.int (Int32.ofNat (cs).length)), .val (.int (0 : Int32)), .val (.int (0 : Int32)), .unset]) rfl ?_
            refine g_iloadN w e20_82 (q := 83) rfl rfl ?_
            refine g_ifY w e20_83 (by decide) (q := 113) (by decide) (by decide) ?_
            refine g_iconst w e20_113 (q := 114) rfl (v := (1 : Int32)) (by decide) ?_
            refine g_goto w e20_114 (by decide) (q := 118) (by decide) ?_
            refine g_istore w e20_118 (q := 120) rfl (Ls' := #[.val (.ref x), .val (.int (Int32.ofNat ci)), .val (.int (-1 : Int32)), .val (.int (Int32.ofNat (cs).length)), .val (.int (0 : Int32)), .val (.int (0 : Int32)), .val (.int (1 : Int32))]) rfl ?_
            refine g_iload w e20_120 (q := 122) rfl rfl ?_
            refine g_ifY w e20_122 (by decide) (q := 139) (by decide) (by decide) ?_
            refine g_iconst w e20_139 (q := 140) rfl (v := (0 : Int32)) (by decide) ?_
            exact g_retn w e20_140 rfl (by simp) rfl (by decide) (by decide) ⟨E0, (some ci), none, ⟨hci, hco⟩, hhy, Or.inr ⟨rfl, fun V => absurd V.1.1 (by omega)⟩⟩
        · refine g_icY w e20_58 (by decide) (q := 79) (by decide) (Jvm.Free.XT.ii_le_t (not_lt_ofNat (by omega) (by have := S_x.1; omega))) ?_
          refine g_iconst w e20_79 (q := 80) rfl (v := (0 : Int32)) (by decide) ?_
          refine g_istore w e20_80 (q := 82) rfl (Ls' := #[.val (.ref x), .val (.int (Int32.ofNat ci)), .val (.int (-1 : Int32)), .val (.int (Int32.ofNat (cs).length)), .val (.int (0 : Int32)), .val (.int (0 : Int32)), .unset]) rfl ?_
          refine g_iloadN w e20_82 (q := 83) rfl rfl ?_
          refine g_ifY w e20_83 (by decide) (q := 113) (by decide) (by decide) ?_
          refine g_iconst w e20_113 (q := 114) rfl (v := (1 : Int32)) (by decide) ?_
          refine g_goto w e20_114 (by decide) (q := 118) (by decide) ?_
          refine g_istore w e20_118 (q := 120) rfl (Ls' := #[.val (.ref x), .val (.int (Int32.ofNat ci)), .val (.int (-1 : Int32)), .val (.int (Int32.ofNat (cs).length)), .val (.int (0 : Int32)), .val (.int (0 : Int32)), .val (.int (1 : Int32))]) rfl ?_
          refine g_iload w e20_120 (q := 122) rfl rfl ?_
          refine g_ifY w e20_122 (by decide) (q := 139) (by decide) (by decide) ?_
          refine g_iconst w e20_139 (q := 140) rfl (v := (0 : Int32)) (by decide) ?_
          exact g_retn w e20_140 rfl (by simp) rfl (by decide) (by decide) ⟨E0, (some ci), none, ⟨hci, hco⟩, hhy, Or.inr ⟨rfl, fun V => absurd V.1.1 (by omega)⟩⟩
      · refine g_ifN w e20_32 (q := 35) rfl (Jvm.Free.XT.i0_le_f (lt_ofNat (i := 0) (by omega) (by have := S_x.1; omega))) ?_
        refine g_aloadN w e20_35 (q := 36) rfl rfl rfl ?_
        refine g_iconst w e20_36 (q := 37) rfl (v := (0 : Int32)) (by decide) ?_
        refine g_iloadN w e20_37 (q := 38) rfl rfl ?_
        refine g_iconst w e20_38 (q := 39) rfl (v := (0 : Int32)) (by decide) ?_
        refine g_ldcS w e20_39 (q := 41) rfl rfl (Hw hw 136 rfl) (own_wS hw) (by decide) (vs := []) (z := 0) ⟨by decide, by decide⟩ (by decide) (by decide) (nn := 0) (by decide) (by decide) (by decide) (by decide) (fun T vm h t72 b_t72 kb_t72 w E X_t72 Fc_t72 Fv_t72 Ab_t72 C Sf => ?_)
        replace E0 := ext_trans E0 E
        replace S_x := S_x.ext E
        have S_t72 : Sg Z h t72 [] := ⟨Nat.le_of_ble_eq_true rfl, by unfold Lt8; decide, X_t72, b_t72, kb_t72, Fv_t72, Fc_t72, Ab_t72⟩
        refine g_staticP w (con_holds l Z a0 hw fm x t72 0 (ci) (0 : Int32) _ _ _ w.old S_x S_t72 (by omega) (by have := S_x.1; omega) hcm SFm rfm) no0 e20_41 (q := 44) rfl rfl (Hw hw 109 rfl) (Hw hw 110 rfl) (Hw hw 33 rfl) (Hw hw 111 rfl) (by decide) pd12 rfl rfl (W := 0) (Nat.le_of_eq rfl) (by decide) (by decide) (by decide) (by decide) (fun T v w C q => ?_)
        rcases q with ⟨rfl, hh73⟩ | ⟨rfl, hh73⟩
        · show Go p e below _ (State.setTop T (mkF m 44 #[.val (.ref x), .val (.int (Int32.ofNat ci)), .val (.int (-1 : Int32)), .val (.int (Int32.ofNat (cs).length)), .unset, .unset, .unset] [(.int (1 : Int32))]))
          refine g_ifN w e20_44 (q := 47) rfl (by decide) ?_
          refine g_iconst w e20_47 (q := 48) rfl (v := (1 : Int32)) (by decide) ?_
          refine g_goto w e20_48 (by decide) (q := 52) (by decide) ?_
          refine g_istore w e20_52 (q := 54) rfl (Ls' := #[.val (.ref x), .val (.int (Int32.ofNat ci)), .val (.int (-1 : Int32)), .val (.int (Int32.ofNat (cs).length)), .val (.int (1 : Int32)), .unset, .unset]) rfl ?_
          refine g_iloadN w e20_54 (q := 55) rfl rfl ?_
          refine g_iloadN w e20_55 (q := 56) rfl rfl ?_
          refine g_iconst w e20_56 (q := 57) rfl (v := (1 : Int32)) (by decide) ?_
          refine g_iadd w e20_57 (q := 58) rfl ?_
          rw [ofNat_succ]
          show Go p e below _ (State.setTop T (mkF m 58 #[.val (.ref x), .val (.int (Int32.ofNat ci)), .val (.int (-1 : Int32)), .val (.int (Int32.ofNat (cs).length)), .val (.int (1 : Int32)), .unset, .unset] [(.int (Int32.ofNat ((ci) + 1))), (.int (Int32.ofNat (cs).length))]))
          rcases Decidable.em ((((ci) + 1)) < ((cs).length)) with hn75 | hn75
          · refine g_icN w e20_58 (q := 61) rfl (Jvm.Free.XT.ii_le_f (lt_ofNat hn75 (by have := S_x.1; omega))) ?_
            refine g_aloadN w e20_61 (q := 62) rfl rfl rfl ?_
            refine g_iloadN w e20_62 (q := 63) rfl rfl ?_
            refine g_iconst w e20_63 (q := 64) rfl (v := (1 : Int32)) (by decide) ?_
            refine g_iadd w e20_64 (q := 65) rfl ?_
            rw [ofNat_succ]
            show Go p e below _ (State.setTop T (mkF m 65 #[.val (.ref x), .val (.int (Int32.ofNat ci)), .val (.int (-1 : Int32)), .val (.int (Int32.ofNat (cs).length)), .val (.int (1 : Int32)), .unset, .unset] [(.int (Int32.ofNat ((ci) + 1))), (.ref x)]))
            refine g_iloadN w e20_65 (q := 66) rfl rfl ?_
            refine g_iconst w e20_66 (q := 67) rfl (v := (1 : Int32)) (by decide) ?_
            refine g_ldcS w e20_67 (q := 69) rfl rfl (Hw hw 108 rfl) (own_wS hw) (by decide) (vs := [.int (46 : Int32), .int (43 : Int32), .int (45 : Int32), .int (126 : Int32)]) (z := 4) ⟨by decide, by decide⟩ (by decide) (by decide) (nn := 16) (by decide) (by decide) (by decide) (by decide) (fun T vm h t76 b_t76 kb_t76 w E X_t76 Fc_t76 Fv_t76 Ab_t76 C Sf => ?_)
            replace E0 := ext_trans E0 E
            replace S_x := S_x.ext E
            replace S_t72 := S_t72.ext E
            have S_t76 : Sg Z h t76 [46, 43, 45, 126] := ⟨Nat.le_of_ble_eq_true rfl, by unfold Lt8; decide, X_t76, b_t76, kb_t76, Fv_t76, Fc_t76, Ab_t76⟩
            refine g_staticP w (con_holds l Z a0 hw fm x t76 (((ci) + 1)) ((cs).length) (1 : Int32) _ _ _ w.old S_x S_t76 (by omega) (by have := S_x.1; omega) hcm SFm rfm) no0 e20_69 (q := 72) rfl rfl (Hw hw 109 rfl) (Hw hw 110 rfl) (Hw hw 33 rfl) (Hw hw 111 rfl) (by decide) pd12 rfl rfl (W := 0) (Nat.le_of_eq rfl) (by decide) (by decide) (by decide) (by decide) (fun T v w C q => ?_)
            rcases q with ⟨rfl, hh77⟩ | ⟨rfl, hh77⟩
            · show Go p e below _ (State.setTop T (mkF m 72 #[.val (.ref x), .val (.int (Int32.ofNat ci)), .val (.int (-1 : Int32)), .val (.int (Int32.ofNat (cs).length)), .val (.int (1 : Int32)), .unset, .unset] [(.int (1 : Int32))]))
              refine g_ifN w e20_72 (q := 75) rfl (by decide) ?_
              refine g_iconst w e20_75 (q := 76) rfl (v := (1 : Int32)) (by decide) ?_
              refine g_goto w e20_76 (by decide) (q := 80) (by decide) ?_
              refine g_istore w e20_80 (q := 82) rfl (Ls' := #[.val (.ref x), .val (.int (Int32.ofNat ci)), .val (.int (-1 : Int32)), .val (.int (Int32.ofNat (cs).length)), .val (.int (1 : Int32)), .val (.int (1 : Int32)), .unset]) rfl ?_
              refine g_iloadN w e20_82 (q := 83) rfl rfl ?_
              refine g_ifY w e20_83 (by decide) (q := 113) (by decide) (by decide) ?_
              refine g_iconst w e20_113 (q := 114) rfl (v := (1 : Int32)) (by decide) ?_
              refine g_goto w e20_114 (by decide) (q := 118) (by decide) ?_
              refine g_istore w e20_118 (q := 120) rfl (Ls' := #[.val (.ref x), .val (.int (Int32.ofNat ci)), .val (.int (-1 : Int32)), .val (.int (Int32.ofNat (cs).length)), .val (.int (1 : Int32)), .val (.int (1 : Int32)), .val (.int (1 : Int32))]) rfl ?_
              refine g_iload w e20_120 (q := 122) rfl rfl ?_
              refine g_ifN w e20_122 (q := 125) rfl (by decide) ?_
              refine g_iload w e20_125 (q := 127) rfl rfl ?_
              refine g_ifN w e20_127 (q := 130) rfl (by decide) ?_
              refine g_iload w e20_130 (q := 132) rfl rfl ?_
              refine g_ifN w e20_132 (q := 135) rfl (by decide) ?_
              refine g_iconst w e20_135 (q := 136) rfl (v := (1 : Int32)) (by decide) ?_
              refine g_goto w e20_136 (by decide) (q := 140) (by decide) ?_
              exact g_retn w e20_140 rfl (by simp) rfl (by decide) (by decide) ⟨E0, (some ci), none, ⟨hci, hco⟩, hhy, Or.inl ⟨rfl, And.intro (And.intro (by omega) hh73) (And.intro (And.intro (by omega) hh77) True.intro)⟩⟩
            · show Go p e below _ (State.setTop T (mkF m 72 #[.val (.ref x), .val (.int (Int32.ofNat ci)), .val (.int (-1 : Int32)), .val (.int (Int32.ofNat (cs).length)), .val (.int (1 : Int32)), .unset, .unset] [(.int (0 : Int32))]))
              refine g_ifY w e20_72 (by decide) (q := 79) (by decide) (by decide) ?_
              refine g_iconst w e20_79 (q := 80) rfl (v := (0 : Int32)) (by decide) ?_
              refine g_istore w e20_80 (q := 82) rfl (Ls' := #[.val (.ref x), .val (.int (Int32.ofNat ci)), .val (.int (-1 : Int32)), .val (.int (Int32.ofNat (cs).length)), .val (.int (1 : Int32)), .val (.int (0 : Int32)), .unset]) rfl ?_
              refine g_iloadN w e20_82 (q := 83) rfl rfl ?_
              refine g_ifY w e20_83 (by decide) (q := 113) (by decide) (by decide) ?_
              refine g_iconst w e20_113 (q := 114) rfl (v := (1 : Int32)) (by decide) ?_
              refine g_goto w e20_114 (by decide) (q := 118) (by decide) ?_
              refine g_istore w e20_118 (q := 120) rfl (Ls' := #[.val (.ref x), .val (.int (Int32.ofNat ci)), .val (.int (-1 : Int32)), .val (.int (Int32.ofNat (cs).length)), .val (.int (1 : Int32)), .val (.int (0 : Int32)), .val (.int (1 : Int32))]) rfl ?_
              refine g_iload w e20_120 (q := 122) rfl rfl ?_
              refine g_ifN w e20_122 (q := 125) rfl (by decide) ?_
              refine g_iload w e20_125 (q := 127) rfl rfl ?_
              refine g_ifY w e20_127 (by decide) (q := 139) (by decide) (by decide) ?_
              refine g_iconst w e20_139 (q := 140) rfl (v := (0 : Int32)) (by decide) ?_
              exact g_retn w e20_140 rfl (by simp) rfl (by decide) (by decide) ⟨E0, (some ci), none, ⟨hci, hco⟩, hhy, Or.inr ⟨rfl, fun V => hh77 V.2.1.2⟩⟩
          · refine g_icY w e20_58 (by decide) (q := 79) (by decide) (Jvm.Free.XT.ii_le_t (not_lt_ofNat (by omega) (by have := S_x.1; omega))) ?_
            refine g_iconst w e20_79 (q := 80) rfl (v := (0 : Int32)) (by decide) ?_
            refine g_istore w e20_80 (q := 82) rfl (Ls' := #[.val (.ref x), .val (.int (Int32.ofNat ci)), .val (.int (-1 : Int32)), .val (.int (Int32.ofNat (cs).length)), .val (.int (1 : Int32)), .val (.int (0 : Int32)), .unset]) rfl ?_
            refine g_iloadN w e20_82 (q := 83) rfl rfl ?_
            refine g_ifY w e20_83 (by decide) (q := 113) (by decide) (by decide) ?_
            refine g_iconst w e20_113 (q := 114) rfl (v := (1 : Int32)) (by decide) ?_
            refine g_goto w e20_114 (by decide) (q := 118) (by decide) ?_
            refine g_istore w e20_118 (q := 120) rfl (Ls' := #[.val (.ref x), .val (.int (Int32.ofNat ci)), .val (.int (-1 : Int32)), .val (.int (Int32.ofNat (cs).length)), .val (.int (1 : Int32)), .val (.int (0 : Int32)), .val (.int (1 : Int32))]) rfl ?_
            refine g_iload w e20_120 (q := 122) rfl rfl ?_
            refine g_ifN w e20_122 (q := 125) rfl (by decide) ?_
            refine g_iload w e20_125 (q := 127) rfl rfl ?_
            refine g_ifY w e20_127 (by decide) (q := 139) (by decide) (by decide) ?_
            refine g_iconst w e20_139 (q := 140) rfl (v := (0 : Int32)) (by decide) ?_
            exact g_retn w e20_140 rfl (by simp) rfl (by decide) (by decide) ⟨E0, (some ci), none, ⟨hci, hco⟩, hhy, Or.inr ⟨rfl, fun V => absurd V.2.1.1 (by omega)⟩⟩
        · show Go p e below _ (State.setTop T (mkF m 44 #[.val (.ref x), .val (.int (Int32.ofNat ci)), .val (.int (-1 : Int32)), .val (.int (Int32.ofNat (cs).length)), .unset, .unset, .unset] [(.int (0 : Int32))]))
          refine g_ifY w e20_44 (by decide) (q := 51) (by decide) (by decide) ?_
          refine g_iconst w e20_51 (q := 52) rfl (v := (0 : Int32)) (by decide) ?_
          refine g_istore w e20_52 (q := 54) rfl (Ls' := #[.val (.ref x), .val (.int (Int32.ofNat ci)), .val (.int (-1 : Int32)), .val (.int (Int32.ofNat (cs).length)), .val (.int (0 : Int32)), .unset, .unset]) rfl ?_
          refine g_iloadN w e20_54 (q := 55) rfl rfl ?_
          refine g_iloadN w e20_55 (q := 56) rfl rfl ?_
          refine g_iconst w e20_56 (q := 57) rfl (v := (1 : Int32)) (by decide) ?_
          refine g_iadd w e20_57 (q := 58) rfl ?_
          rw [ofNat_succ]
          show Go p e below _ (State.setTop T (mkF m 58 #[.val (.ref x), .val (.int (Int32.ofNat ci)), .val (.int (-1 : Int32)), .val (.int (Int32.ofNat (cs).length)), .val (.int (0 : Int32)), .unset, .unset] [(.int (Int32.ofNat ((ci) + 1))), (.int (Int32.ofNat (cs).length))]))
          rcases Decidable.em ((((ci) + 1)) < ((cs).length)) with hn91 | hn91
          · refine g_icN w e20_58 (q := 61) rfl (Jvm.Free.XT.ii_le_f (lt_ofNat hn91 (by have := S_x.1; omega))) ?_
            refine g_aloadN w e20_61 (q := 62) rfl rfl rfl ?_
            refine g_iloadN w e20_62 (q := 63) rfl rfl ?_
            refine g_iconst w e20_63 (q := 64) rfl (v := (1 : Int32)) (by decide) ?_
            refine g_iadd w e20_64 (q := 65) rfl ?_
            rw [ofNat_succ]
            show Go p e below _ (State.setTop T (mkF m 65 #[.val (.ref x), .val (.int (Int32.ofNat ci)), .val (.int (-1 : Int32)), .val (.int (Int32.ofNat (cs).length)), .val (.int (0 : Int32)), .unset, .unset] [(.int (Int32.ofNat ((ci) + 1))), (.ref x)]))
            refine g_iloadN w e20_65 (q := 66) rfl rfl ?_
            refine g_iconst w e20_66 (q := 67) rfl (v := (1 : Int32)) (by decide) ?_
            refine g_ldcS w e20_67 (q := 69) rfl rfl (Hw hw 108 rfl) (own_wS hw) (by decide) (vs := [.int (46 : Int32), .int (43 : Int32), .int (45 : Int32), .int (126 : Int32)]) (z := 4) ⟨by decide, by decide⟩ (by decide) (by decide) (nn := 16) (by decide) (by decide) (by decide) (by decide) (fun T vm h t92 b_t92 kb_t92 w E X_t92 Fc_t92 Fv_t92 Ab_t92 C Sf => ?_)
            replace E0 := ext_trans E0 E
            replace S_x := S_x.ext E
            replace S_t72 := S_t72.ext E
            have S_t92 : Sg Z h t92 [46, 43, 45, 126] := ⟨Nat.le_of_ble_eq_true rfl, by unfold Lt8; decide, X_t92, b_t92, kb_t92, Fv_t92, Fc_t92, Ab_t92⟩
            refine g_staticP w (con_holds l Z a0 hw fm x t92 (((ci) + 1)) ((cs).length) (1 : Int32) _ _ _ w.old S_x S_t92 (by omega) (by have := S_x.1; omega) hcm SFm rfm) no0 e20_69 (q := 72) rfl rfl (Hw hw 109 rfl) (Hw hw 110 rfl) (Hw hw 33 rfl) (Hw hw 111 rfl) (by decide) pd12 rfl rfl (W := 0) (Nat.le_of_eq rfl) (by decide) (by decide) (by decide) (by decide) (fun T v w C q => ?_)
            rcases q with ⟨rfl, hh93⟩ | ⟨rfl, hh93⟩
            · show Go p e below _ (State.setTop T (mkF m 72 #[.val (.ref x), .val (.int (Int32.ofNat ci)), .val (.int (-1 : Int32)), .val (.int (Int32.ofNat (cs).length)), .val (.int (0 : Int32)), .unset, .unset] [(.int (1 : Int32))]))
              refine g_ifN w e20_72 (q := 75) rfl (by decide) ?_
              refine g_iconst w e20_75 (q := 76) rfl (v := (1 : Int32)) (by decide) ?_
              refine g_goto w e20_76 (by decide) (q := 80) (by decide) ?_
              refine g_istore w e20_80 (q := 82) rfl (Ls' := #[.val (.ref x), .val (.int (Int32.ofNat ci)), .val (.int (-1 : Int32)), .val (.int (Int32.ofNat (cs).length)), .val (.int (0 : Int32)), .val (.int (1 : Int32)), .unset]) rfl ?_
              refine g_iloadN w e20_82 (q := 83) rfl rfl ?_
              refine g_ifY w e20_83 (by decide) (q := 113) (by decide) (by decide) ?_
              refine g_iconst w e20_113 (q := 114) rfl (v := (1 : Int32)) (by decide) ?_
              refine g_goto w e20_114 (by decide) (q := 118) (by decide) ?_
              refine g_istore w e20_118 (q := 120) rfl (Ls' := #[.val (.ref x), .val (.int (Int32.ofNat ci)), .val (.int (-1 : Int32)), .val (.int (Int32.ofNat (cs).length)), .val (.int (0 : Int32)), .val (.int (1 : Int32)), .val (.int (1 : Int32))]) rfl ?_
              refine g_iload w e20_120 (q := 122) rfl rfl ?_
              refine g_ifY w e20_122 (by decide) (q := 139) (by decide) (by decide) ?_
              refine g_iconst w e20_139 (q := 140) rfl (v := (0 : Int32)) (by decide) ?_
              exact g_retn w e20_140 rfl (by simp) rfl (by decide) (by decide) ⟨E0, (some ci), none, ⟨hci, hco⟩, hhy, Or.inr ⟨rfl, fun V => hh73 V.1.2⟩⟩
            · show Go p e below _ (State.setTop T (mkF m 72 #[.val (.ref x), .val (.int (Int32.ofNat ci)), .val (.int (-1 : Int32)), .val (.int (Int32.ofNat (cs).length)), .val (.int (0 : Int32)), .unset, .unset] [(.int (0 : Int32))]))
              refine g_ifY w e20_72 (by decide) (q := 79) (by decide) (by decide) ?_
              refine g_iconst w e20_79 (q := 80) rfl (v := (0 : Int32)) (by decide) ?_
              refine g_istore w e20_80 (q := 82) rfl (Ls' := #[.val (.ref x), .val (.int (Int32.ofNat ci)), .val (.int (-1 : Int32)), .val (.int (Int32.ofNat (cs).length)), .val (.int (0 : Int32)), .val (.int (0 : Int32)), .unset]) rfl ?_
              refine g_iloadN w e20_82 (q := 83) rfl rfl ?_
              refine g_ifY w e20_83 (by decide) (q := 113) (by decide) (by decide) ?_
              refine g_iconst w e20_113 (q := 114) rfl (v := (1 : Int32)) (by decide) ?_
              refine g_goto w e20_114 (by decide) (q := 118) (by decide) ?_
              refine g_istore w e20_118 (q := 120) rfl (Ls' := #[.val (.ref x), .val (.int (Int32.ofNat ci)), .val (.int (-1 : Int32)), .val (.int (Int32.ofNat (cs).length)), .val (.int (0 : Int32)), .val (.int (0 : Int32)), .val (.int (1 : Int32))]) rfl ?_
              refine g_iload w e20_120 (q := 122) rfl rfl ?_
              refine g_ifY w e20_122 (by decide) (q := 139) (by decide) (by decide) ?_
              refine g_iconst w e20_139 (q := 140) rfl (v := (0 : Int32)) (by decide) ?_
              exact g_retn w e20_140 rfl (by simp) rfl (by decide) (by decide) ⟨E0, (some ci), none, ⟨hci, hco⟩, hhy, Or.inr ⟨rfl, fun V => hh73 V.1.2⟩⟩
          · refine g_icY w e20_58 (by decide) (q := 79) (by decide) (Jvm.Free.XT.ii_le_t (not_lt_ofNat (by omega) (by have := S_x.1; omega))) ?_
            refine g_iconst w e20_79 (q := 80) rfl (v := (0 : Int32)) (by decide) ?_
            refine g_istore w e20_80 (q := 82) rfl (Ls' := #[.val (.ref x), .val (.int (Int32.ofNat ci)), .val (.int (-1 : Int32)), .val (.int (Int32.ofNat (cs).length)), .val (.int (0 : Int32)), .val (.int (0 : Int32)), .unset]) rfl ?_
            refine g_iloadN w e20_82 (q := 83) rfl rfl ?_
            refine g_ifY w e20_83 (by decide) (q := 113) (by decide) (by decide) ?_
            refine g_iconst w e20_113 (q := 114) rfl (v := (1 : Int32)) (by decide) ?_
            refine g_goto w e20_114 (by decide) (q := 118) (by decide) ?_
            refine g_istore w e20_118 (q := 120) rfl (Ls' := #[.val (.ref x), .val (.int (Int32.ofNat ci)), .val (.int (-1 : Int32)), .val (.int (Int32.ofNat (cs).length)), .val (.int (0 : Int32)), .val (.int (0 : Int32)), .val (.int (1 : Int32))]) rfl ?_
            refine g_iload w e20_120 (q := 122) rfl rfl ?_
            refine g_ifY w e20_122 (by decide) (q := 139) (by decide) (by decide) ?_
            refine g_iconst w e20_139 (q := 140) rfl (v := (0 : Int32)) (by decide) ?_
            exact g_retn w e20_140 rfl (by simp) rfl (by decide) (by decide) ⟨E0, (some ci), none, ⟨hci, hco⟩, hhy, Or.inr ⟨rfl, fun V => hh73 V.1.2⟩⟩
    · rw [ehy]
      show Go p e below _ (State.setTop T (mkF m 13 #[.val (.ref x), .val (.int (Int32.ofNat ci)), .unset, .unset, .unset, .unset, .unset] [(.int (Int32.ofNat hi))]))
      refine g_istoreN w e20_13 (q := 14) rfl (Ls' := #[.val (.ref x), .val (.int (Int32.ofNat ci)), .val (.int (Int32.ofNat hi)), .unset, .unset, .unset, .unset]) rfl ?_
      refine g_iloadN w e20_14 (q := 15) rfl rfl ?_
      refine g_ifY w e20_15 (by decide) (q := 25) (by decide) (Jvm.Free.XT.i0_ge_t (ofNat_nonneg (by omega))) ?_
      refine g_iloadN w e20_25 (q := 26) rfl rfl ?_
      refine g_istoreN w e20_26 (q := 27) rfl (Ls' := #[.val (.ref x), .val (.int (Int32.ofNat ci)), .val (.int (Int32.ofNat hi)), .val (.int (Int32.ofNat hi)), .unset, .unset, .unset]) rfl ?_
      refine g_iloadN w e20_27 (q := 28) rfl rfl ?_
      refine g_ifN w e20_28 (q := 31) rfl (Jvm.Free.XT.i0_lt_f (ofNat_nonneg (by omega))) ?_
      refine g_iloadN w e20_31 (q := 32) rfl rfl ?_
      rcases Decidable.em ((ci) = 0) with hz0 | hz0
      · refine g_ifY w e20_32 (by decide) (q := 51) (by decide) (Jvm.Free.XT.i0_le_t (by subst hz0; decide)) ?_
        refine g_iconst w e20_51 (q := 52) rfl (v := (0 : Int32)) (by decide) ?_
        refine g_istore w e20_52 (q := 54) rfl (Ls' := #[.val (.ref x), .val (.int (Int32.ofNat ci)), .val (.int (Int32.ofNat hi)), .val (.int (Int32.ofNat hi)), .val (.int (0 : Int32)), .unset, .unset]) rfl ?_
        refine g_iloadN w e20_54 (q := 55) rfl rfl ?_
        refine g_iloadN w e20_55 (q := 56) rfl rfl ?_
        refine g_iconst w e20_56 (q := 57) rfl (v := (1 : Int32)) (by decide) ?_
        refine g_iadd w e20_57 (q := 58) rfl ?_
        rw [ofNat_succ]
        show Go p e below _ (State.setTop T (mkF m 58 #[.val (.ref x), .val (.int (Int32.ofNat ci)), .val (.int (Int32.ofNat hi)), .val (.int (Int32.ofNat hi)), .val (.int (0 : Int32)), .unset, .unset] [(.int (Int32.ofNat ((ci) + 1))), (.int (Int32.ofNat hi))]))
        rcases Decidable.em ((((ci) + 1)) < (hi)) with hn102 | hn102
        · refine g_icN w e20_58 (q := 61) rfl (Jvm.Free.XT.ii_le_f (lt_ofNat hn102 (by have := S_x.1; omega))) ?_
          refine g_aloadN w e20_61 (q := 62) rfl rfl rfl ?_
          refine g_iloadN w e20_62 (q := 63) rfl rfl ?_
          refine g_iconst w e20_63 (q := 64) rfl (v := (1 : Int32)) (by decide) ?_
          refine g_iadd w e20_64 (q := 65) rfl ?_
          rw [ofNat_succ]
          show Go p e below _ (State.setTop T (mkF m 65 #[.val (.ref x), .val (.int (Int32.ofNat ci)), .val (.int (Int32.ofNat hi)), .val (.int (Int32.ofNat hi)), .val (.int (0 : Int32)), .unset, .unset] [(.int (Int32.ofNat ((ci) + 1))), (.ref x)]))
          refine g_iloadN w e20_65 (q := 66) rfl rfl ?_
          refine g_iconst w e20_66 (q := 67) rfl (v := (1 : Int32)) (by decide) ?_
          refine g_ldcS w e20_67 (q := 69) rfl rfl (Hw hw 108 rfl) (own_wS hw) (by decide) (vs := [.int (46 : Int32), .int (43 : Int32), .int (45 : Int32), .int (126 : Int32)]) (z := 4) ⟨by decide, by decide⟩ (by decide) (by decide) (nn := 16) (by decide) (by decide) (by decide) (by decide) (fun T vm h t103 b_t103 kb_t103 w E X_t103 Fc_t103 Fv_t103 Ab_t103 C Sf => ?_)
          replace E0 := ext_trans E0 E
          replace S_x := S_x.ext E
          have S_t103 : Sg Z h t103 [46, 43, 45, 126] := ⟨Nat.le_of_ble_eq_true rfl, by unfold Lt8; decide, X_t103, b_t103, kb_t103, Fv_t103, Fc_t103, Ab_t103⟩
          refine g_staticP w (con_holds l Z a0 hw fm x t103 (((ci) + 1)) (hi) (1 : Int32) _ _ _ w.old S_x S_t103 (by omega) (by have := S_x.1; omega) hcm SFm rfm) no0 e20_69 (q := 72) rfl rfl (Hw hw 109 rfl) (Hw hw 110 rfl) (Hw hw 33 rfl) (Hw hw 111 rfl) (by decide) pd12 rfl rfl (W := 0) (Nat.le_of_eq rfl) (by decide) (by decide) (by decide) (by decide) (fun T v w C q => ?_)
          rcases q with ⟨rfl, hh104⟩ | ⟨rfl, hh104⟩
          · show Go p e below _ (State.setTop T (mkF m 72 #[.val (.ref x), .val (.int (Int32.ofNat ci)), .val (.int (Int32.ofNat hi)), .val (.int (Int32.ofNat hi)), .val (.int (0 : Int32)), .unset, .unset] [(.int (1 : Int32))]))
            refine g_ifN w e20_72 (q := 75) rfl (by decide) ?_
            refine g_iconst w e20_75 (q := 76) rfl (v := (1 : Int32)) (by decide) ?_
            refine g_goto w e20_76 (by decide) (q := 80) (by decide) ?_
            refine g_istore w e20_80 (q := 82) rfl (Ls' := #[.val (.ref x), .val (.int (Int32.ofNat ci)), .val (.int (Int32.ofNat hi)), .val (.int (Int32.ofNat hi)), .val (.int (0 : Int32)), .val (.int (1 : Int32)), .unset]) rfl ?_
            refine g_iloadN w e20_82 (q := 83) rfl rfl ?_
            refine g_ifN w e20_83 (q := 86) rfl (Jvm.Free.XT.i0_lt_f (ofNat_nonneg (by omega))) ?_
            refine g_iloadN w e20_86 (q := 87) rfl rfl ?_
            refine g_aloadN w e20_87 (q := 88) rfl rfl rfl ?_
            refine g_virtualB w (a := x) (argsL := []) (own_lenB hw S_x (w.sta SC_) hz_ (by decide) (by decide)) S_x.exa e20_88 (q := 91) rfl rfl (Hw hw 88 rfl) (Hw hw 52 rfl) (Hw hw 54 rfl) (Hw hw 53 rfl) (by decide) (nf (Hw hw 54 rfl)) pd5 rfl rfl (W := 1) (Nat.le_of_eq rfl) (by decide) (by decide) (fun T v w hq => ?_)
            obtain rfl := hq
            show Go p e below _ (State.setTop T (mkF m 91 #[.val (.ref x), .val (.int (Int32.ofNat ci)), .val (.int (Int32.ofNat hi)), .val (.int (Int32.ofNat hi)), .val (.int (0 : Int32)), .val (.int (1 : Int32)), .unset] [(.int (Int32.ofNat (cs).length)), (.int (Int32.ofNat hi))]))
            refine g_iconst w e20_91 (q := 92) rfl (v := (1 : Int32)) (by decide) ?_
            refine g_isub w e20_92 (q := 93) rfl ?_
            rw [ofNat_sub1 (by omega)]
            show Go p e below _ (State.setTop T (mkF m 93 #[.val (.ref x), .val (.int (Int32.ofNat ci)), .val (.int (Int32.ofNat hi)), .val (.int (Int32.ofNat hi)), .val (.int (0 : Int32)), .val (.int (1 : Int32)), .unset] [(.int (Int32.ofNat (cs.length - 1))), (.int (Int32.ofNat hi))]))
            rcases Decidable.em ((hi) < ((cs.length - 1))) with hn106 | hn106
            · refine g_icN w e20_93 (q := 96) rfl (Jvm.Free.XT.ii_ge_f (lt_ofNat hn106 (by have := S_x.1; omega))) ?_
              refine g_aloadN w e20_96 (q := 97) rfl rfl rfl ?_
              refine g_iloadN w e20_97 (q := 98) rfl rfl ?_
              refine g_iconst w e20_98 (q := 99) rfl (v := (1 : Int32)) (by decide) ?_
              refine g_iadd w e20_99 (q := 100) rfl ?_
              rw [ofNat_succ]
              show Go p e below _ (State.setTop T (mkF m 100 #[.val (.ref x), .val (.int (Int32.ofNat ci)), .val (.int (Int32.ofNat hi)), .val (.int (Int32.ofNat hi)), .val (.int (0 : Int32)), .val (.int (1 : Int32)), .unset] [(.int (Int32.ofNat ((hi) + 1))), (.ref x)]))
              refine g_aloadN w e20_100 (q := 101) rfl rfl rfl ?_
              refine g_virtualB w (a := x) (argsL := []) (own_lenB hw S_x (w.sta SC_) hz_ (by decide) (by decide)) S_x.exa e20_101 (q := 104) rfl rfl (Hw hw 88 rfl) (Hw hw 52 rfl) (Hw hw 54 rfl) (Hw hw 53 rfl) (by decide) (nf (Hw hw 54 rfl)) pd5 rfl rfl (W := 2) (Nat.le_of_eq rfl) (by decide) (by decide) (fun T v w hq => ?_)
              obtain rfl := hq
              show Go p e below _ (State.setTop T (mkF m 104 #[.val (.ref x), .val (.int (Int32.ofNat ci)), .val (.int (Int32.ofNat hi)), .val (.int (Int32.ofNat hi)), .val (.int (0 : Int32)), .val (.int (1 : Int32)), .unset] [(.int (Int32.ofNat (cs).length)), (.int (Int32.ofNat ((hi) + 1))), (.ref x)]))
              refine g_iconst w e20_104 (q := 105) rfl (v := (1 : Int32)) (by decide) ?_
              refine g_ldcS w e20_105 (q := 107) rfl rfl (Hw hw 137 rfl) (own_wS hw) (by decide) (vs := [.int (46 : Int32), .int (43 : Int32), .int (126 : Int32)]) (z := 3) ⟨by decide, by decide⟩ (by decide) (by decide) (nn := 12) (by decide) (by decide) (by decide) (by decide) (fun T vm h t107 b_t107 kb_t107 w E X_t107 Fc_t107 Fv_t107 Ab_t107 C Sf => ?_)
              replace E0 := ext_trans E0 E
              replace S_x := S_x.ext E
              replace S_t103 := S_t103.ext E
              have S_t107 : Sg Z h t107 [46, 43, 126] := ⟨Nat.le_of_ble_eq_true rfl, by unfold Lt8; decide, X_t107, b_t107, kb_t107, Fv_t107, Fc_t107, Ab_t107⟩
              refine g_staticP w (con_holds l Z a0 hw fm x t107 (((hi) + 1)) ((cs).length) (1 : Int32) _ _ _ w.old S_x S_t107 (by omega) (by have := S_x.1; omega) hcm SFm rfm) no0 e20_107 (q := 110) rfl rfl (Hw hw 109 rfl) (Hw hw 110 rfl) (Hw hw 33 rfl) (Hw hw 111 rfl) (by decide) pd12 rfl rfl (W := 0) (Nat.le_of_eq rfl) (by decide) (by decide) (by decide) (by decide) (fun T v w C q => ?_)
              rcases q with ⟨rfl, hh108⟩ | ⟨rfl, hh108⟩
              · show Go p e below _ (State.setTop T (mkF m 110 #[.val (.ref x), .val (.int (Int32.ofNat ci)), .val (.int (Int32.ofNat hi)), .val (.int (Int32.ofNat hi)), .val (.int (0 : Int32)), .val (.int (1 : Int32)), .unset] [(.int (1 : Int32))]))
                refine g_ifN w e20_110 (q := 113) rfl (by decide) ?_
                refine g_iconst w e20_113 (q := 114) rfl (v := (1 : Int32)) (by decide) ?_
                refine g_goto w e20_114 (by decide) (q := 118) (by decide) ?_
                refine g_istore w e20_118 (q := 120) rfl (Ls' := #[.val (.ref x), .val (.int (Int32.ofNat ci)), .val (.int (Int32.ofNat hi)), .val (.int (Int32.ofNat hi)), .val (.int (0 : Int32)), .val (.int (1 : Int32)), .val (.int (1 : Int32))]) rfl ?_
                refine g_iload w e20_120 (q := 122) rfl rfl ?_
                refine g_ifY w e20_122 (by decide) (q := 139) (by decide) (by decide) ?_
                refine g_iconst w e20_139 (q := 140) rfl (v := (0 : Int32)) (by decide) ?_
                exact g_retn w e20_140 rfl (by simp) rfl (by decide) (by decide) ⟨E0, (some ci), (some hi), ⟨hci, hco⟩, ⟨hhi, hhy⟩, Or.inr ⟨rfl, fun V => absurd V.1.1 (by omega)⟩⟩
              · show Go p e below _ (State.setTop T (mkF m 110 #[.val (.ref x), .val (.int (Int32.ofNat ci)), .val (.int (Int32.ofNat hi)), .val (.int (Int32.ofNat hi)), .val (.int (0 : Int32)), .val (.int (1 : Int32)), .unset] [(.int (0 : Int32))]))
                refine g_ifY w e20_110 (by decide) (q := 117) (by decide) (by decide) ?_
                refine g_iconst w e20_117 (q := 118) rfl (v := (0 : Int32)) (by decide) ?_
                refine g_istore w e20_118 (q := 120) rfl (Ls' := #[.val (.ref x), .val (.int (Int32.ofNat ci)), .val (.int (Int32.ofNat hi)), .val (.int (Int32.ofNat hi)), .val (.int (0 : Int32)), .val (.int (1 : Int32)), .val (.int (0 : Int32))]) rfl ?_
                refine g_iload w e20_120 (q := 122) rfl rfl ?_
                refine g_ifY w e20_122 (by decide) (q := 139) (by decide) (by decide) ?_
                refine g_iconst w e20_139 (q := 140) rfl (v := (0 : Int32)) (by decide) ?_
                exact g_retn w e20_140 rfl (by simp) rfl (by decide) (by decide) ⟨E0, (some ci), (some hi), ⟨hci, hco⟩, ⟨hhi, hhy⟩, Or.inr ⟨rfl, fun V => absurd V.1.1 (by omega)⟩⟩
            · refine g_icY w e20_93 (by decide) (q := 117) (by decide) (Jvm.Free.XT.ii_ge_t (not_lt_ofNat (by omega) (by have := S_x.1; omega))) ?_
              refine g_iconst w e20_117 (q := 118) rfl (v := (0 : Int32)) (by decide) ?_
              refine g_istore w e20_118 (q := 120) rfl (Ls' := #[.val (.ref x), .val (.int (Int32.ofNat ci)), .val (.int (Int32.ofNat hi)), .val (.int (Int32.ofNat hi)), .val (.int (0 : Int32)), .val (.int (1 : Int32)), .val (.int (0 : Int32))]) rfl ?_
              refine g_iload w e20_120 (q := 122) rfl rfl ?_
              refine g_ifY w e20_122 (by decide) (q := 139) (by decide) (by decide) ?_
              refine g_iconst w e20_139 (q := 140) rfl (v := (0 : Int32)) (by decide) ?_
              exact g_retn w e20_140 rfl (by simp) rfl (by decide) (by decide) ⟨E0, (some ci), (some hi), ⟨hci, hco⟩, ⟨hhi, hhy⟩, Or.inr ⟨rfl, fun V => absurd V.1.1 (by omega)⟩⟩
          · show Go p e below _ (State.setTop T (mkF m 72 #[.val (.ref x), .val (.int (Int32.ofNat ci)), .val (.int (Int32.ofNat hi)), .val (.int (Int32.ofNat hi)), .val (.int (0 : Int32)), .unset, .unset] [(.int (0 : Int32))]))
            refine g_ifY w e20_72 (by decide) (q := 79) (by decide) (by decide) ?_
            refine g_iconst w e20_79 (q := 80) rfl (v := (0 : Int32)) (by decide) ?_
            refine g_istore w e20_80 (q := 82) rfl (Ls' := #[.val (.ref x), .val (.int (Int32.ofNat ci)), .val (.int (Int32.ofNat hi)), .val (.int (Int32.ofNat hi)), .val (.int (0 : Int32)), .val (.int (0 : Int32)), .unset]) rfl ?_
            refine g_iloadN w e20_82 (q := 83) rfl rfl ?_
            refine g_ifN w e20_83 (q := 86) rfl (Jvm.Free.XT.i0_lt_f (ofNat_nonneg (by omega))) ?_
            refine g_iloadN w e20_86 (q := 87) rfl rfl ?_
            refine g_aloadN w e20_87 (q := 88) rfl rfl rfl ?_
            refine g_virtualB w (a := x) (argsL := []) (own_lenB hw S_x (w.sta SC_) hz_ (by decide) (by decide)) S_x.exa e20_88 (q := 91) rfl rfl (Hw hw 88 rfl) (Hw hw 52 rfl) (Hw hw 54 rfl) (Hw hw 53 rfl) (by decide) (nf (Hw hw 54 rfl)) pd5 rfl rfl (W := 1) (Nat.le_of_eq rfl) (by decide) (by decide) (fun T v w hq => ?_)
            obtain rfl := hq
            show Go p e below _ (State.setTop T (mkF m 91 #[.val (.ref x), .val (.int (Int32.ofNat ci)), .val (.int (Int32.ofNat hi)), .val (.int (Int32.ofNat hi)), .val (.int (0 : Int32)), .val (.int (0 : Int32)), .unset] [(.int (Int32.ofNat (cs).length)), (.int (Int32.ofNat hi))]))
            refine g_iconst w e20_91 (q := 92) rfl (v := (1 : Int32)) (by decide) ?_
            refine g_isub w e20_92 (q := 93) rfl ?_
            rw [ofNat_sub1 (by omega)]
            show Go p e below _ (State.setTop T (mkF m 93 #[.val (.ref x), .val (.int (Int32.ofNat ci)), .val (.int (Int32.ofNat hi)), .val (.int (Int32.ofNat hi)), .val (.int (0 : Int32)), .val (.int (0 : Int32)), .unset] [(.int (Int32.ofNat (cs.length - 1))), (.int (Int32.ofNat hi))]))
            rcases Decidable.em ((hi) < ((cs.length - 1))) with hn115 | hn115
            · refine g_icN w e20_93 (q := 96) rfl (Jvm.Free.XT.ii_ge_f (lt_ofNat hn115 (by have := S_x.1; omega))) ?_
              refine g_aloadN w e20_96 (q := 97) rfl rfl rfl ?_
              refine g_iloadN w e20_97 (q := 98) rfl rfl ?_
              refine g_iconst w e20_98 (q := 99) rfl (v := (1 : Int32)) (by decide) ?_
              refine g_iadd w e20_99 (q := 100) rfl ?_
              rw [ofNat_succ]
              show Go p e below _ (State.setTop T (mkF m 100 #[.val (.ref x), .val (.int (Int32.ofNat ci)), .val (.int (Int32.ofNat hi)), .val (.int (Int32.ofNat hi)), .val (.int (0 : Int32)), .val (.int (0 : Int32)), .unset] [(.int (Int32.ofNat ((hi) + 1))), (.ref x)]))
              refine g_aloadN w e20_100 (q := 101) rfl rfl rfl ?_
              refine g_virtualB w (a := x) (argsL := []) (own_lenB hw S_x (w.sta SC_) hz_ (by decide) (by decide)) S_x.exa e20_101 (q := 104) rfl rfl (Hw hw 88 rfl) (Hw hw 52 rfl) (Hw hw 54 rfl) (Hw hw 53 rfl) (by decide) (nf (Hw hw 54 rfl)) pd5 rfl rfl (W := 2) (Nat.le_of_eq rfl) (by decide) (by decide) (fun T v w hq => ?_)
              obtain rfl := hq
              show Go p e below _ (State.setTop T (mkF m 104 #[.val (.ref x), .val (.int (Int32.ofNat ci)), .val (.int (Int32.ofNat hi)), .val (.int (Int32.ofNat hi)), .val (.int (0 : Int32)), .val (.int (0 : Int32)), .unset] [(.int (Int32.ofNat (cs).length)), (.int (Int32.ofNat ((hi) + 1))), (.ref x)]))
              refine g_iconst w e20_104 (q := 105) rfl (v := (1 : Int32)) (by decide) ?_
              refine g_ldcS w e20_105 (q := 107) rfl rfl (Hw hw 137 rfl) (own_wS hw) (by decide) (vs := [.int (46 : Int32), .int (43 : Int32), .int (126 : Int32)]) (z := 3) ⟨by decide, by decide⟩ (by decide) (by decide) (nn := 12) (by decide) (by decide) (by decide) (by decide) (fun T vm h t116 b_t116 kb_t116 w E X_t116 Fc_t116 Fv_t116 Ab_t116 C Sf => ?_)
              replace E0 := ext_trans E0 E
              replace S_x := S_x.ext E
              replace S_t103 := S_t103.ext E
              have S_t116 : Sg Z h t116 [46, 43, 126] := ⟨Nat.le_of_ble_eq_true rfl, by unfold Lt8; decide, X_t116, b_t116, kb_t116, Fv_t116, Fc_t116, Ab_t116⟩
              refine g_staticP w (con_holds l Z a0 hw fm x t116 (((hi) + 1)) ((cs).length) (1 : Int32) _ _ _ w.old S_x S_t116 (by omega) (by have := S_x.1; omega) hcm SFm rfm) no0 e20_107 (q := 110) rfl rfl (Hw hw 109 rfl) (Hw hw 110 rfl) (Hw hw 33 rfl) (Hw hw 111 rfl) (by decide) pd12 rfl rfl (W := 0) (Nat.le_of_eq rfl) (by decide) (by decide) (by decide) (by decide) (fun T v w C q => ?_)
              rcases q with ⟨rfl, hh117⟩ | ⟨rfl, hh117⟩
              · show Go p e below _ (State.setTop T (mkF m 110 #[.val (.ref x), .val (.int (Int32.ofNat ci)), .val (.int (Int32.ofNat hi)), .val (.int (Int32.ofNat hi)), .val (.int (0 : Int32)), .val (.int (0 : Int32)), .unset] [(.int (1 : Int32))]))
                refine g_ifN w e20_110 (q := 113) rfl (by decide) ?_
                refine g_iconst w e20_113 (q := 114) rfl (v := (1 : Int32)) (by decide) ?_
                refine g_goto w e20_114 (by decide) (q := 118) (by decide) ?_
                refine g_istore w e20_118 (q := 120) rfl (Ls' := #[.val (.ref x), .val (.int (Int32.ofNat ci)), .val (.int (Int32.ofNat hi)), .val (.int (Int32.ofNat hi)), .val (.int (0 : Int32)), .val (.int (0 : Int32)), .val (.int (1 : Int32))]) rfl ?_
                refine g_iload w e20_120 (q := 122) rfl rfl ?_
                refine g_ifY w e20_122 (by decide) (q := 139) (by decide) (by decide) ?_
                refine g_iconst w e20_139 (q := 140) rfl (v := (0 : Int32)) (by decide) ?_
                exact g_retn w e20_140 rfl (by simp) rfl (by decide) (by decide) ⟨E0, (some ci), (some hi), ⟨hci, hco⟩, ⟨hhi, hhy⟩, Or.inr ⟨rfl, fun V => absurd V.1.1 (by omega)⟩⟩
              · show Go p e below _ (State.setTop T (mkF m 110 #[.val (.ref x), .val (.int (Int32.ofNat ci)), .val (.int (Int32.ofNat hi)), .val (.int (Int32.ofNat hi)), .val (.int (0 : Int32)), .val (.int (0 : Int32)), .unset] [(.int (0 : Int32))]))
                refine g_ifY w e20_110 (by decide) (q := 117) (by decide) (by decide) ?_
                refine g_iconst w e20_117 (q := 118) rfl (v := (0 : Int32)) (by decide) ?_
                refine g_istore w e20_118 (q := 120) rfl (Ls' := #[.val (.ref x), .val (.int (Int32.ofNat ci)), .val (.int (Int32.ofNat hi)), .val (.int (Int32.ofNat hi)), .val (.int (0 : Int32)), .val (.int (0 : Int32)), .val (.int (0 : Int32))]) rfl ?_
                refine g_iload w e20_120 (q := 122) rfl rfl ?_
                refine g_ifY w e20_122 (by decide) (q := 139) (by decide) (by decide) ?_
                refine g_iconst w e20_139 (q := 140) rfl (v := (0 : Int32)) (by decide) ?_
                exact g_retn w e20_140 rfl (by simp) rfl (by decide) (by decide) ⟨E0, (some ci), (some hi), ⟨hci, hco⟩, ⟨hhi, hhy⟩, Or.inr ⟨rfl, fun V => absurd V.1.1 (by omega)⟩⟩
            · refine g_icY w e20_93 (by decide) (q := 117) (by decide) (Jvm.Free.XT.ii_ge_t (not_lt_ofNat (by omega) (by have := S_x.1; omega))) ?_
              refine g_iconst w e20_117 (q := 118) rfl (v := (0 : Int32)) (by decide) ?_
              refine g_istore w e20_118 (q := 120) rfl (Ls' := #[.val (.ref x), .val (.int (Int32.ofNat ci)), .val (.int (Int32.ofNat hi)), .val (.int (Int32.ofNat hi)), .val (.int (0 : Int32)), .val (.int (0 : Int32)), .val (.int (0 : Int32))]) rfl ?_
              refine g_iload w e20_120 (q := 122) rfl rfl ?_
              refine g_ifY w e20_122 (by decide) (q := 139) (by decide) (by decide) ?_
              refine g_iconst w e20_139 (q := 140) rfl (v := (0 : Int32)) (by decide) ?_
              exact g_retn w e20_140 rfl (by simp) rfl (by decide) (by decide) ⟨E0, (some ci), (some hi), ⟨hci, hco⟩, ⟨hhi, hhy⟩, Or.inr ⟨rfl, fun V => absurd V.1.1 (by omega)⟩⟩
        · refine g_icY w e20_58 (by decide) (q := 79) (by decide) (Jvm.Free.XT.ii_le_t (not_lt_ofNat (by omega) (by have := S_x.1; omega))) ?_
          refine g_iconst w e20_79 (q := 80) rfl (v := (0 : Int32)) (by decide) ?_
          refine g_istore w e20_80 (q := 82) rfl (Ls' := #[.val (.ref x), .val (.int (Int32.ofNat ci)), .val (.int (Int32.ofNat hi)), .val (.int (Int32.ofNat hi)), .val (.int (0 : Int32)), .val (.int (0 : Int32)), .unset]) rfl ?_
          refine g_iloadN w e20_82 (q := 83) rfl rfl ?_
          refine g_ifN w e20_83 (q := 86) rfl (Jvm.Free.XT.i0_lt_f (ofNat_nonneg (by omega))) ?_
          refine g_iloadN w e20_86 (q := 87) rfl rfl ?_
          refine g_aloadN w e20_87 (q := 88) rfl rfl rfl ?_
          refine g_virtualB w (a := x) (argsL := []) (own_lenB hw S_x (w.sta SC_) hz_ (by decide) (by decide)) S_x.exa e20_88 (q := 91) rfl rfl (Hw hw 88 rfl) (Hw hw 52 rfl) (Hw hw 54 rfl) (Hw hw 53 rfl) (by decide) (nf (Hw hw 54 rfl)) pd5 rfl rfl (W := 1) (Nat.le_of_eq rfl) (by decide) (by decide) (fun T v w hq => ?_)
          obtain rfl := hq
          show Go p e below _ (State.setTop T (mkF m 91 #[.val (.ref x), .val (.int (Int32.ofNat ci)), .val (.int (Int32.ofNat hi)), .val (.int (Int32.ofNat hi)), .val (.int (0 : Int32)), .val (.int (0 : Int32)), .unset] [(.int (Int32.ofNat (cs).length)), (.int (Int32.ofNat hi))]))
          refine g_iconst w e20_91 (q := 92) rfl (v := (1 : Int32)) (by decide) ?_
          refine g_isub w e20_92 (q := 93) rfl ?_
          rw [ofNat_sub1 (by omega)]
          show Go p e below _ (State.setTop T (mkF m 93 #[.val (.ref x), .val (.int (Int32.ofNat ci)), .val (.int (Int32.ofNat hi)), .val (.int (Int32.ofNat hi)), .val (.int (0 : Int32)), .val (.int (0 : Int32)), .unset] [(.int (Int32.ofNat (cs.length - 1))), (.int (Int32.ofNat hi))]))
          rcases Decidable.em ((hi) < ((cs.length - 1))) with hn123 | hn123
          · refine g_icN w e20_93 (q := 96) rfl (Jvm.Free.XT.ii_ge_f (lt_ofNat hn123 (by have := S_x.1; omega))) ?_
            refine g_aloadN w e20_96 (q := 97) rfl rfl rfl ?_
            refine g_iloadN w e20_97 (q := 98) rfl rfl ?_
            refine g_iconst w e20_98 (q := 99) rfl (v := (1 : Int32)) (by decide) ?_
            refine g_iadd w e20_99 (q := 100) rfl ?_
            rw [ofNat_succ]
            show Go p e below _ (State.setTop T (mkF m 100 #[.val (.ref x), .val (.int (Int32.ofNat ci)), .val (.int (Int32.ofNat hi)), .val (.int (Int32.ofNat hi)), .val (.int (0 : Int32)), .val (.int (0 : Int32)), .unset] [(.int (Int32.ofNat ((hi) + 1))), (.ref x)]))
            refine g_aloadN w e20_100 (q := 101) rfl rfl rfl ?_
            refine g_virtualB w (a := x) (argsL := []) (own_lenB hw S_x (w.sta SC_) hz_ (by decide) (by decide)) S_x.exa e20_101 (q := 104) rfl rfl (Hw hw 88 rfl) (Hw hw 52 rfl) (Hw hw 54 rfl) (Hw hw 53 rfl) (by decide) (nf (Hw hw 54 rfl)) pd5 rfl rfl (W := 2) (Nat.le_of_eq rfl) (by decide) (by decide) (fun T v w hq => ?_)
            obtain rfl := hq
            show Go p e below _ (State.setTop T (mkF m 104 #[.val (.ref x), .val (.int (Int32.ofNat ci)), .val (.int (Int32.ofNat hi)), .val (.int (Int32.ofNat hi)), .val (.int (0 : Int32)), .val (.int (0 : Int32)), .unset] [(.int (Int32.ofNat (cs).length)), (.int (Int32.ofNat ((hi) + 1))), (.ref x)]))
            refine g_iconst w e20_104 (q := 105) rfl (v := (1 : Int32)) (by decide) ?_
            refine g_ldcS w e20_105 (q := 107) rfl rfl (Hw hw 137 rfl) (own_wS hw) (by decide) (vs := [.int (46 : Int32), .int (43 : Int32), .int (126 : Int32)]) (z := 3) ⟨by decide, by decide⟩ (by decide) (by decide) (nn := 12) (by decide) (by decide) (by decide) (by decide) (fun T vm h t124 b_t124 kb_t124 w E X_t124 Fc_t124 Fv_t124 Ab_t124 C Sf => ?_)
            replace E0 := ext_trans E0 E
            replace S_x := S_x.ext E
            have S_t124 : Sg Z h t124 [46, 43, 126] := ⟨Nat.le_of_ble_eq_true rfl, by unfold Lt8; decide, X_t124, b_t124, kb_t124, Fv_t124, Fc_t124, Ab_t124⟩
            refine g_staticP w (con_holds l Z a0 hw fm x t124 (((hi) + 1)) ((cs).length) (1 : Int32) _ _ _ w.old S_x S_t124 (by omega) (by have := S_x.1; omega) hcm SFm rfm) no0 e20_107 (q := 110) rfl rfl (Hw hw 109 rfl) (Hw hw 110 rfl) (Hw hw 33 rfl) (Hw hw 111 rfl) (by decide) pd12 rfl rfl (W := 0) (Nat.le_of_eq rfl) (by decide) (by decide) (by decide) (by decide) (fun T v w C q => ?_)
            rcases q with ⟨rfl, hh125⟩ | ⟨rfl, hh125⟩
            · show Go p e below _ (State.setTop T (mkF m 110 #[.val (.ref x), .val (.int (Int32.ofNat ci)), .val (.int (Int32.ofNat hi)), .val (.int (Int32.ofNat hi)), .val (.int (0 : Int32)), .val (.int (0 : Int32)), .unset] [(.int (1 : Int32))]))
              refine g_ifN w e20_110 (q := 113) rfl (by decide) ?_
              refine g_iconst w e20_113 (q := 114) rfl (v := (1 : Int32)) (by decide) ?_
              refine g_goto w e20_114 (by decide) (q := 118) (by decide) ?_
              refine g_istore w e20_118 (q := 120) rfl (Ls' := #[.val (.ref x), .val (.int (Int32.ofNat ci)), .val (.int (Int32.ofNat hi)), .val (.int (Int32.ofNat hi)), .val (.int (0 : Int32)), .val (.int (0 : Int32)), .val (.int (1 : Int32))]) rfl ?_
              refine g_iload w e20_120 (q := 122) rfl rfl ?_
              refine g_ifY w e20_122 (by decide) (q := 139) (by decide) (by decide) ?_
              refine g_iconst w e20_139 (q := 140) rfl (v := (0 : Int32)) (by decide) ?_
              exact g_retn w e20_140 rfl (by simp) rfl (by decide) (by decide) ⟨E0, (some ci), (some hi), ⟨hci, hco⟩, ⟨hhi, hhy⟩, Or.inr ⟨rfl, fun V => absurd V.1.1 (by omega)⟩⟩
            · show Go p e below _ (State.setTop T (mkF m 110 #[.val (.ref x), .val (.int (Int32.ofNat ci)), .val (.int (Int32.ofNat hi)), .val (.int (Int32.ofNat hi)), .val (.int (0 : Int32)), .val (.int (0 : Int32)), .unset] [(.int (0 : Int32))]))
              refine g_ifY w e20_110 (by decide) (q := 117) (by decide) (by decide) ?_
              refine g_iconst w e20_117 (q := 118) rfl (v := (0 : Int32)) (by decide) ?_
              refine g_istore w e20_118 (q := 120) rfl (Ls' := #[.val (.ref x), .val (.int (Int32.ofNat ci)), .val (.int (Int32.ofNat hi)), .val (.int (Int32.ofNat hi)), .val (.int (0 : Int32)), .val (.int (0 : Int32)), .val (.int (0 : Int32))]) rfl ?_
              refine g_iload w e20_120 (q := 122) rfl rfl ?_
              refine g_ifY w e20_122 (by decide) (q := 139) (by decide) (by decide) ?_
              refine g_iconst w e20_139 (q := 140) rfl (v := (0 : Int32)) (by decide) ?_
              exact g_retn w e20_140 rfl (by simp) rfl (by decide) (by decide) ⟨E0, (some ci), (some hi), ⟨hci, hco⟩, ⟨hhi, hhy⟩, Or.inr ⟨rfl, fun V => absurd V.1.1 (by omega)⟩⟩
          · refine g_icY w e20_93 (by decide) (q := 117) (by decide) (Jvm.Free.XT.ii_ge_t (not_lt_ofNat (by omega) (by have := S_x.1; omega))) ?_
            refine g_iconst w e20_117 (q := 118) rfl (v := (0 : Int32)) (by decide) ?_
            refine g_istore w e20_118 (q := 120) rfl (Ls' := #[.val (.ref x), .val (.int (Int32.ofNat ci)), .val (.int (Int32.ofNat hi)), .val (.int (Int32.ofNat hi)), .val (.int (0 : Int32)), .val (.int (0 : Int32)), .val (.int (0 : Int32))]) rfl ?_
            refine g_iload w e20_120 (q := 122) rfl rfl ?_
            refine g_ifY w e20_122 (by decide) (q := 139) (by decide) (by decide) ?_
            refine g_iconst w e20_139 (q := 140) rfl (v := (0 : Int32)) (by decide) ?_
            exact g_retn w e20_140 rfl (by simp) rfl (by decide) (by decide) ⟨E0, (some ci), (some hi), ⟨hci, hco⟩, ⟨hhi, hhy⟩, Or.inr ⟨rfl, fun V => absurd V.1.1 (by omega)⟩⟩
      · refine g_ifN w e20_32 (q := 35) rfl (Jvm.Free.XT.i0_le_f (lt_ofNat (i := 0) (by omega) (by have := S_x.1; omega))) ?_
        refine g_aloadN w e20_35 (q := 36) rfl rfl rfl ?_
        refine g_iconst w e20_36 (q := 37) rfl (v := (0 : Int32)) (by decide) ?_
        refine g_iloadN w e20_37 (q := 38) rfl rfl ?_
        refine g_iconst w e20_38 (q := 39) rfl (v := (0 : Int32)) (by decide) ?_
        refine g_ldcS w e20_39 (q := 41) rfl rfl (Hw hw 136 rfl) (own_wS hw) (by decide) (vs := []) (z := 0) ⟨by decide, by decide⟩ (by decide) (by decide) (nn := 0) (by decide) (by decide) (by decide) (by decide) (fun T vm h t131 b_t131 kb_t131 w E X_t131 Fc_t131 Fv_t131 Ab_t131 C Sf => ?_)
        replace E0 := ext_trans E0 E
        replace S_x := S_x.ext E
        have S_t131 : Sg Z h t131 [] := ⟨Nat.le_of_ble_eq_true rfl, by unfold Lt8; decide, X_t131, b_t131, kb_t131, Fv_t131, Fc_t131, Ab_t131⟩
        refine g_staticP w (con_holds l Z a0 hw fm x t131 0 (ci) (0 : Int32) _ _ _ w.old S_x S_t131 (by omega) (by have := S_x.1; omega) hcm SFm rfm) no0 e20_41 (q := 44) rfl rfl (Hw hw 109 rfl) (Hw hw 110 rfl) (Hw hw 33 rfl) (Hw hw 111 rfl) (by decide) pd12 rfl rfl (W := 0) (Nat.le_of_eq rfl) (by decide) (by decide) (by decide) (by decide) (fun T v w C q => ?_)
        rcases q with ⟨rfl, hh132⟩ | ⟨rfl, hh132⟩
        · show Go p e below _ (State.setTop T (mkF m 44 #[.val (.ref x), .val (.int (Int32.ofNat ci)), .val (.int (Int32.ofNat hi)), .val (.int (Int32.ofNat hi)), .unset, .unset, .unset] [(.int (1 : Int32))]))
          refine g_ifN w e20_44 (q := 47) rfl (by decide) ?_
          refine g_iconst w e20_47 (q := 48) rfl (v := (1 : Int32)) (by decide) ?_
          refine g_goto w e20_48 (by decide) (q := 52) (by decide) ?_
          refine g_istore w e20_52 (q := 54) rfl (Ls' := #[.val (.ref x), .val (.int (Int32.ofNat ci)), .val (.int (Int32.ofNat hi)), .val (.int (Int32.ofNat hi)), .val (.int (1 : Int32)), .unset, .unset]) rfl ?_
          refine g_iloadN w e20_54 (q := 55) rfl rfl ?_
          refine g_iloadN w e20_55 (q := 56) rfl rfl ?_
          refine g_iconst w e20_56 (q := 57) rfl (v := (1 : Int32)) (by decide) ?_
          refine g_iadd w e20_57 (q := 58) rfl ?_
          rw [ofNat_succ]
          show Go p e below _ (State.setTop T (mkF m 58 #[.val (.ref x), .val (.int (Int32.ofNat ci)), .val (.int (Int32.ofNat hi)), .val (.int (Int32.ofNat hi)), .val (.int (1 : Int32)), .unset, .unset] [(.int (Int32.ofNat ((ci) + 1))), (.int (Int32.ofNat hi))]))
          rcases Decidable.em ((((ci) + 1)) < (hi)) with hn134 | hn134
          · refine g_icN w e20_58 (q := 61) rfl (Jvm.Free.XT.ii_le_f (lt_ofNat hn134 (by have := S_x.1; omega))) ?_
            refine g_aloadN w e20_61 (q := 62) rfl rfl rfl ?_
            refine g_iloadN w e20_62 (q := 63) rfl rfl ?_
            refine g_iconst w e20_63 (q := 64) rfl (v := (1 : Int32)) (by decide) ?_
            refine g_iadd w e20_64 (q := 65) rfl ?_
            rw [ofNat_succ]
            show Go p e below _ (State.setTop T (mkF m 65 #[.val (.ref x), .val (.int (Int32.ofNat ci)), .val (.int (Int32.ofNat hi)), .val (.int (Int32.ofNat hi)), .val (.int (1 : Int32)), .unset, .unset] [(.int (Int32.ofNat ((ci) + 1))), (.ref x)]))
            refine g_iloadN w e20_65 (q := 66) rfl rfl ?_
            refine g_iconst w e20_66 (q := 67) rfl (v := (1 : Int32)) (by decide) ?_
            refine g_ldcS w e20_67 (q := 69) rfl rfl (Hw hw 108 rfl) (own_wS hw) (by decide) (vs := [.int (46 : Int32), .int (43 : Int32), .int (45 : Int32), .int (126 : Int32)]) (z := 4) ⟨by decide, by decide⟩ (by decide) (by decide) (nn := 16) (by decide) (by decide) (by decide) (by decide) (fun T vm h t135 b_t135 kb_t135 w E X_t135 Fc_t135 Fv_t135 Ab_t135 C Sf => ?_)
            replace E0 := ext_trans E0 E
            replace S_x := S_x.ext E
            replace S_t131 := S_t131.ext E
            have S_t135 : Sg Z h t135 [46, 43, 45, 126] := ⟨Nat.le_of_ble_eq_true rfl, by unfold Lt8; decide, X_t135, b_t135, kb_t135, Fv_t135, Fc_t135, Ab_t135⟩
            refine g_staticP w (con_holds l Z a0 hw fm x t135 (((ci) + 1)) (hi) (1 : Int32) _ _ _ w.old S_x S_t135 (by omega) (by have := S_x.1; omega) hcm SFm rfm) no0 e20_69 (q := 72) rfl rfl (Hw hw 109 rfl) (Hw hw 110 rfl) (Hw hw 33 rfl) (Hw hw 111 rfl) (by decide) pd12 rfl rfl (W := 0) (Nat.le_of_eq rfl) (by decide) (by decide) (by decide) (by decide) (fun T v w C q => ?_)
            rcases q with ⟨rfl, hh136⟩ | ⟨rfl, hh136⟩
            · show Go p e below _ (State.setTop T (mkF m 72 #[.val (.ref x), .val (.int (Int32.ofNat ci)), .val (.int (Int32.ofNat hi)), .val (.int (Int32.ofNat hi)), .val (.int (1 : Int32)), .unset, .unset] [(.int (1 : Int32))]))
              refine g_ifN w e20_72 (q := 75) rfl (by decide) ?_
              refine g_iconst w e20_75 (q := 76) rfl (v := (1 : Int32)) (by decide) ?_
              refine g_goto w e20_76 (by decide) (q := 80) (by decide) ?_
              refine g_istore w e20_80 (q := 82) rfl (Ls' := #[.val (.ref x), .val (.int (Int32.ofNat ci)), .val (.int (Int32.ofNat hi)), .val (.int (Int32.ofNat hi)), .val (.int (1 : Int32)), .val (.int (1 : Int32)), .unset]) rfl ?_
              refine g_iloadN w e20_82 (q := 83) rfl rfl ?_
              refine g_ifN w e20_83 (q := 86) rfl (Jvm.Free.XT.i0_lt_f (ofNat_nonneg (by omega))) ?_
              refine g_iloadN w e20_86 (q := 87) rfl rfl ?_
              refine g_aloadN w e20_87 (q := 88) rfl rfl rfl ?_
              refine g_virtualB w (a := x) (argsL := []) (own_lenB hw S_x (w.sta SC_) hz_ (by decide) (by decide)) S_x.exa e20_88 (q := 91) rfl rfl (Hw hw 88 rfl) (Hw hw 52 rfl) (Hw hw 54 rfl) (Hw hw 53 rfl) (by decide) (nf (Hw hw 54 rfl)) pd5 rfl rfl (W := 1) (Nat.le_of_eq rfl) (by decide) (by decide) (fun T v w hq => ?_)
              obtain rfl := hq
              show Go p e below _ (State.setTop T (mkF m 91 #[.val (.ref x), .val (.int (Int32.ofNat ci)), .val (.int (Int32.ofNat hi)), .val (.int (Int32.ofNat hi)), .val (.int (1 : Int32)), .val (.int (1 : Int32)), .unset] [(.int (Int32.ofNat (cs).length)), (.int (Int32.ofNat hi))]))
              refine g_iconst w e20_91 (q := 92) rfl (v := (1 : Int32)) (by decide) ?_
              refine g_isub w e20_92 (q := 93) rfl ?_
              rw [ofNat_sub1 (by omega)]
              show Go p e below _ (State.setTop T (mkF m 93 #[.val (.ref x), .val (.int (Int32.ofNat ci)), .val (.int (Int32.ofNat hi)), .val (.int (Int32.ofNat hi)), .val (.int (1 : Int32)), .val (.int (1 : Int32)), .unset] [(.int (Int32.ofNat (cs.length - 1))), (.int (Int32.ofNat hi))]))
              rcases Decidable.em ((hi) < ((cs.length - 1))) with hn138 | hn138
              · refine g_icN w e20_93 (q := 96) rfl (Jvm.Free.XT.ii_ge_f (lt_ofNat hn138 (by have := S_x.1; omega))) ?_
                refine g_aloadN w e20_96 (q := 97) rfl rfl rfl ?_
                refine g_iloadN w e20_97 (q := 98) rfl rfl ?_
                refine g_iconst w e20_98 (q := 99) rfl (v := (1 : Int32)) (by decide) ?_
                refine g_iadd w e20_99 (q := 100) rfl ?_
                rw [ofNat_succ]
                show Go p e below _ (State.setTop T (mkF m 100 #[.val (.ref x), .val (.int (Int32.ofNat ci)), .val (.int (Int32.ofNat hi)), .val (.int (Int32.ofNat hi)), .val (.int (1 : Int32)), .val (.int (1 : Int32)), .unset] [(.int (Int32.ofNat ((hi) + 1))), (.ref x)]))
                refine g_aloadN w e20_100 (q := 101) rfl rfl rfl ?_
                refine g_virtualB w (a := x) (argsL := []) (own_lenB hw S_x (w.sta SC_) hz_ (by decide) (by decide)) S_x.exa e20_101 (q := 104) rfl rfl (Hw hw 88 rfl) (Hw hw 52 rfl) (Hw hw 54 rfl) (Hw hw 53 rfl) (by decide) (nf (Hw hw 54 rfl)) pd5 rfl rfl (W := 2) (Nat.le_of_eq rfl) (by decide) (by decide) (fun T v w hq => ?_)
                obtain rfl := hq
                show Go p e below _ (State.setTop T (mkF m 104 #[.val (.ref x), .val (.int (Int32.ofNat ci)), .val (.int (Int32.ofNat hi)), .val (.int (Int32.ofNat hi)), .val (.int (1 : Int32)), .val (.int (1 : Int32)), .unset] [(.int (Int32.ofNat (cs).length)), (.int (Int32.ofNat ((hi) + 1))), (.ref x)]))
                refine g_iconst w e20_104 (q := 105) rfl (v := (1 : Int32)) (by decide) ?_
                refine g_ldcS w e20_105 (q := 107) rfl rfl (Hw hw 137 rfl) (own_wS hw) (by decide) (vs := [.int (46 : Int32), .int (43 : Int32), .int (126 : Int32)]) (z := 3) ⟨by decide, by decide⟩ (by decide) (by decide) (nn := 12) (by decide) (by decide) (by decide) (by decide) (fun T vm h t139 b_t139 kb_t139 w E X_t139 Fc_t139 Fv_t139 Ab_t139 C Sf => ?_)
                replace E0 := ext_trans E0 E
                replace S_x := S_x.ext E
                replace S_t131 := S_t131.ext E
                replace S_t135 := S_t135.ext E
                have S_t139 : Sg Z h t139 [46, 43, 126] := ⟨Nat.le_of_ble_eq_true rfl, by unfold Lt8; decide, X_t139, b_t139, kb_t139, Fv_t139, Fc_t139, Ab_t139⟩
                refine g_staticP w (con_holds l Z a0 hw fm x t139 (((hi) + 1)) ((cs).length) (1 : Int32) _ _ _ w.old S_x S_t139 (by omega) (by have := S_x.1; omega) hcm SFm rfm) no0 e20_107 (q := 110) rfl rfl (Hw hw 109 rfl) (Hw hw 110 rfl) (Hw hw 33 rfl) (Hw hw 111 rfl) (by decide) pd12 rfl rfl (W := 0) (Nat.le_of_eq rfl) (by decide) (by decide) (by decide) (by decide) (fun T v w C q => ?_)
                rcases q with ⟨rfl, hh140⟩ | ⟨rfl, hh140⟩
                · show Go p e below _ (State.setTop T (mkF m 110 #[.val (.ref x), .val (.int (Int32.ofNat ci)), .val (.int (Int32.ofNat hi)), .val (.int (Int32.ofNat hi)), .val (.int (1 : Int32)), .val (.int (1 : Int32)), .unset] [(.int (1 : Int32))]))
                  refine g_ifN w e20_110 (q := 113) rfl (by decide) ?_
                  refine g_iconst w e20_113 (q := 114) rfl (v := (1 : Int32)) (by decide) ?_
                  refine g_goto w e20_114 (by decide) (q := 118) (by decide) ?_
                  refine g_istore w e20_118 (q := 120) rfl (Ls' := #[.val (.ref x), .val (.int (Int32.ofNat ci)), .val (.int (Int32.ofNat hi)), .val (.int (Int32.ofNat hi)), .val (.int (1 : Int32)), .val (.int (1 : Int32)), .val (.int (1 : Int32))]) rfl ?_
                  refine g_iload w e20_120 (q := 122) rfl rfl ?_
                  refine g_ifN w e20_122 (q := 125) rfl (by decide) ?_
                  refine g_iload w e20_125 (q := 127) rfl rfl ?_
                  refine g_ifN w e20_127 (q := 130) rfl (by decide) ?_
                  refine g_iload w e20_130 (q := 132) rfl rfl ?_
                  refine g_ifN w e20_132 (q := 135) rfl (by decide) ?_
                  refine g_iconst w e20_135 (q := 136) rfl (v := (1 : Int32)) (by decide) ?_
                  refine g_goto w e20_136 (by decide) (q := 140) (by decide) ?_
                  exact g_retn w e20_140 rfl (by simp) rfl (by decide) (by decide) ⟨E0, (some ci), (some hi), ⟨hci, hco⟩, ⟨hhi, hhy⟩, Or.inl ⟨rfl, And.intro (And.intro (by omega) hh132) (And.intro (And.intro (by omega) hh136) (And.intro (by omega) hh140))⟩⟩
                · show Go p e below _ (State.setTop T (mkF m 110 #[.val (.ref x), .val (.int (Int32.ofNat ci)), .val (.int (Int32.ofNat hi)), .val (.int (Int32.ofNat hi)), .val (.int (1 : Int32)), .val (.int (1 : Int32)), .unset] [(.int (0 : Int32))]))
                  refine g_ifY w e20_110 (by decide) (q := 117) (by decide) (by decide) ?_
                  refine g_iconst w e20_117 (q := 118) rfl (v := (0 : Int32)) (by decide) ?_
                  refine g_istore w e20_118 (q := 120) rfl (Ls' := #[.val (.ref x), .val (.int (Int32.ofNat ci)), .val (.int (Int32.ofNat hi)), .val (.int (Int32.ofNat hi)), .val (.int (1 : Int32)), .val (.int (1 : Int32)), .val (.int (0 : Int32))]) rfl ?_
                  refine g_iload w e20_120 (q := 122) rfl rfl ?_
                  refine g_ifN w e20_122 (q := 125) rfl (by decide) ?_
                  refine g_iload w e20_125 (q := 127) rfl rfl ?_
                  refine g_ifN w e20_127 (q := 130) rfl (by decide) ?_
                  refine g_iload w e20_130 (q := 132) rfl rfl ?_
                  refine g_ifY w e20_132 (by decide) (q := 139) (by decide) (by decide) ?_
                  refine g_iconst w e20_139 (q := 140) rfl (v := (0 : Int32)) (by decide) ?_
                  exact g_retn w e20_140 rfl (by simp) rfl (by decide) (by decide) ⟨E0, (some ci), (some hi), ⟨hci, hco⟩, ⟨hhi, hhy⟩, Or.inr ⟨rfl, fun V => hh140 V.2.2.2⟩⟩
              · refine g_icY w e20_93 (by decide) (q := 117) (by decide) (Jvm.Free.XT.ii_ge_t (not_lt_ofNat (by omega) (by have := S_x.1; omega))) ?_
                refine g_iconst w e20_117 (q := 118) rfl (v := (0 : Int32)) (by decide) ?_
                refine g_istore w e20_118 (q := 120) rfl (Ls' := #[.val (.ref x), .val (.int (Int32.ofNat ci)), .val (.int (Int32.ofNat hi)), .val (.int (Int32.ofNat hi)), .val (.int (1 : Int32)), .val (.int (1 : Int32)), .val (.int (0 : Int32))]) rfl ?_
                refine g_iload w e20_120 (q := 122) rfl rfl ?_
                refine g_ifN w e20_122 (q := 125) rfl (by decide) ?_
                refine g_iload w e20_125 (q := 127) rfl rfl ?_
                refine g_ifN w e20_127 (q := 130) rfl (by decide) ?_
                refine g_iload w e20_130 (q := 132) rfl rfl ?_
                refine g_ifY w e20_132 (by decide) (q := 139) (by decide) (by decide) ?_
                refine g_iconst w e20_139 (q := 140) rfl (v := (0 : Int32)) (by decide) ?_
                exact g_retn w e20_140 rfl (by simp) rfl (by decide) (by decide) ⟨E0, (some ci), (some hi), ⟨hci, hco⟩, ⟨hhi, hhy⟩, Or.inr ⟨rfl, fun V => absurd V.2.2.1 (by omega)⟩⟩
            · show Go p e below _ (State.setTop T (mkF m 72 #[.val (.ref x), .val (.int (Int32.ofNat ci)), .val (.int (Int32.ofNat hi)), .val (.int (Int32.ofNat hi)), .val (.int (1 : Int32)), .unset, .unset] [(.int (0 : Int32))]))
              refine g_ifY w e20_72 (by decide) (q := 79) (by decide) (by decide) ?_
              refine g_iconst w e20_79 (q := 80) rfl (v := (0 : Int32)) (by decide) ?_
              refine g_istore w e20_80 (q := 82) rfl (Ls' := #[.val (.ref x), .val (.int (Int32.ofNat ci)), .val (.int (Int32.ofNat hi)), .val (.int (Int32.ofNat hi)), .val (.int (1 : Int32)), .val (.int (0 : Int32)), .unset]) rfl ?_
              refine g_iloadN w e20_82 (q := 83) rfl rfl ?_
              refine g_ifN w e20_83 (q := 86) rfl (Jvm.Free.XT.i0_lt_f (ofNat_nonneg (by omega))) ?_
              refine g_iloadN w e20_86 (q := 87) rfl rfl ?_
              refine g_aloadN w e20_87 (q := 88) rfl rfl rfl ?_
              refine g_virtualB w (a := x) (argsL := []) (own_lenB hw S_x (w.sta SC_) hz_ (by decide) (by decide)) S_x.exa e20_88 (q := 91) rfl rfl (Hw hw 88 rfl) (Hw hw 52 rfl) (Hw hw 54 rfl) (Hw hw 53 rfl) (by decide) (nf (Hw hw 54 rfl)) pd5 rfl rfl (W := 1) (Nat.le_of_eq rfl) (by decide) (by decide) (fun T v w hq => ?_)
              obtain rfl := hq
              show Go p e below _ (State.setTop T (mkF m 91 #[.val (.ref x), .val (.int (Int32.ofNat ci)), .val (.int (Int32.ofNat hi)), .val (.int (Int32.ofNat hi)), .val (.int (1 : Int32)), .val (.int (0 : Int32)), .unset] [(.int (Int32.ofNat (cs).length)), (.int (Int32.ofNat hi))]))
              refine g_iconst w e20_91 (q := 92) rfl (v := (1 : Int32)) (by decide) ?_
              refine g_isub w e20_92 (q := 93) rfl ?_
              rw [ofNat_sub1 (by omega)]
              show Go p e below _ (State.setTop T (mkF m 93 #[.val (.ref x), .val (.int (Int32.ofNat ci)), .val (.int (Int32.ofNat hi)), .val (.int (Int32.ofNat hi)), .val (.int (1 : Int32)), .val (.int (0 : Int32)), .unset] [(.int (Int32.ofNat (cs.length - 1))), (.int (Int32.ofNat hi))]))
              rcases Decidable.em ((hi) < ((cs.length - 1))) with hn153 | hn153
              · refine g_icN w e20_93 (q := 96) rfl (Jvm.Free.XT.ii_ge_f (lt_ofNat hn153 (by have := S_x.1; omega))) ?_
                refine g_aloadN w e20_96 (q := 97) rfl rfl rfl ?_
                refine g_iloadN w e20_97 (q := 98) rfl rfl ?_
                refine g_iconst w e20_98 (q := 99) rfl (v := (1 : Int32)) (by decide) ?_
                refine g_iadd w e20_99 (q := 100) rfl ?_
                rw [ofNat_succ]
                show Go p e below _ (State.setTop T (mkF m 100 #[.val (.ref x), .val (.int (Int32.ofNat ci)), .val (.int (Int32.ofNat hi)), .val (.int (Int32.ofNat hi)), .val (.int (1 : Int32)), .val (.int (0 : Int32)), .unset] [(.int (Int32.ofNat ((hi) + 1))), (.ref x)]))
                refine g_aloadN w e20_100 (q := 101) rfl rfl rfl ?_
                refine g_virtualB w (a := x) (argsL := []) (own_lenB hw S_x (w.sta SC_) hz_ (by decide) (by decide)) S_x.exa e20_101 (q := 104) rfl rfl (Hw hw 88 rfl) (Hw hw 52 rfl) (Hw hw 54 rfl) (Hw hw 53 rfl) (by decide) (nf (Hw hw 54 rfl)) pd5 rfl rfl (W := 2) (Nat.le_of_eq rfl) (by decide) (by decide) (fun T v w hq => ?_)
                obtain rfl := hq
                show Go p e below _ (State.setTop T (mkF m 104 #[.val (.ref x), .val (.int (Int32.ofNat ci)), .val (.int (Int32.ofNat hi)), .val (.int (Int32.ofNat hi)), .val (.int (1 : Int32)), .val (.int (0 : Int32)), .unset] [(.int (Int32.ofNat (cs).length)), (.int (Int32.ofNat ((hi) + 1))), (.ref x)]))
                refine g_iconst w e20_104 (q := 105) rfl (v := (1 : Int32)) (by decide) ?_
                refine g_ldcS w e20_105 (q := 107) rfl rfl (Hw hw 137 rfl) (own_wS hw) (by decide) (vs := [.int (46 : Int32), .int (43 : Int32), .int (126 : Int32)]) (z := 3) ⟨by decide, by decide⟩ (by decide) (by decide) (nn := 12) (by decide) (by decide) (by decide) (by decide) (fun T vm h t154 b_t154 kb_t154 w E X_t154 Fc_t154 Fv_t154 Ab_t154 C Sf => ?_)
                replace E0 := ext_trans E0 E
                replace S_x := S_x.ext E
                replace S_t131 := S_t131.ext E
                replace S_t135 := S_t135.ext E
                have S_t154 : Sg Z h t154 [46, 43, 126] := ⟨Nat.le_of_ble_eq_true rfl, by unfold Lt8; decide, X_t154, b_t154, kb_t154, Fv_t154, Fc_t154, Ab_t154⟩
                refine g_staticP w (con_holds l Z a0 hw fm x t154 (((hi) + 1)) ((cs).length) (1 : Int32) _ _ _ w.old S_x S_t154 (by omega) (by have := S_x.1; omega) hcm SFm rfm) no0 e20_107 (q := 110) rfl rfl (Hw hw 109 rfl) (Hw hw 110 rfl) (Hw hw 33 rfl) (Hw hw 111 rfl) (by decide) pd12 rfl rfl (W := 0) (Nat.le_of_eq rfl) (by decide) (by decide) (by decide) (by decide) (fun T v w C q => ?_)
                rcases q with ⟨rfl, hh155⟩ | ⟨rfl, hh155⟩
                · show Go p e below _ (State.setTop T (mkF m 110 #[.val (.ref x), .val (.int (Int32.ofNat ci)), .val (.int (Int32.ofNat hi)), .val (.int (Int32.ofNat hi)), .val (.int (1 : Int32)), .val (.int (0 : Int32)), .unset] [(.int (1 : Int32))]))
                  refine g_ifN w e20_110 (q := 113) rfl (by decide) ?_
                  refine g_iconst w e20_113 (q := 114) rfl (v := (1 : Int32)) (by decide) ?_
                  refine g_goto w e20_114 (by decide) (q := 118) (by decide) ?_
                  refine g_istore w e20_118 (q := 120) rfl (Ls' := #[.val (.ref x), .val (.int (Int32.ofNat ci)), .val (.int (Int32.ofNat hi)), .val (.int (Int32.ofNat hi)), .val (.int (1 : Int32)), .val (.int (0 : Int32)), .val (.int (1 : Int32))]) rfl ?_
                  refine g_iload w e20_120 (q := 122) rfl rfl ?_
                  refine g_ifN w e20_122 (q := 125) rfl (by decide) ?_
                  refine g_iload w e20_125 (q := 127) rfl rfl ?_
                  refine g_ifY w e20_127 (by decide) (q := 139) (by decide) (by decide) ?_
                  refine g_iconst w e20_139 (q := 140) rfl (v := (0 : Int32)) (by decide) ?_
                  exact g_retn w e20_140 rfl (by simp) rfl (by decide) (by decide) ⟨E0, (some ci), (some hi), ⟨hci, hco⟩, ⟨hhi, hhy⟩, Or.inr ⟨rfl, fun V => hh136 V.2.1.2⟩⟩
                · show Go p e below _ (State.setTop T (mkF m 110 #[.val (.ref x), .val (.int (Int32.ofNat ci)), .val (.int (Int32.ofNat hi)), .val (.int (Int32.ofNat hi)), .val (.int (1 : Int32)), .val (.int (0 : Int32)), .unset] [(.int (0 : Int32))]))
                  refine g_ifY w e20_110 (by decide) (q := 117) (by decide) (by decide) ?_
                  refine g_iconst w e20_117 (q := 118) rfl (v := (0 : Int32)) (by decide) ?_
                  refine g_istore w e20_118 (q := 120) rfl (Ls' := #[.val (.ref x), .val (.int (Int32.ofNat ci)), .val (.int (Int32.ofNat hi)), .val (.int (Int32.ofNat hi)), .val (.int (1 : Int32)), .val (.int (0 : Int32)), .val (.int (0 : Int32))]) rfl ?_
                  refine g_iload w e20_120 (q := 122) rfl rfl ?_
                  refine g_ifN w e20_122 (q := 125) rfl (by decide) ?_
                  refine g_iload w e20_125 (q := 127) rfl rfl ?_
                  refine g_ifY w e20_127 (by decide) (q := 139) (by decide) (by decide) ?_
                  refine g_iconst w e20_139 (q := 140) rfl (v := (0 : Int32)) (by decide) ?_
                  exact g_retn w e20_140 rfl (by simp) rfl (by decide) (by decide) ⟨E0, (some ci), (some hi), ⟨hci, hco⟩, ⟨hhi, hhy⟩, Or.inr ⟨rfl, fun V => hh136 V.2.1.2⟩⟩
              · refine g_icY w e20_93 (by decide) (q := 117) (by decide) (Jvm.Free.XT.ii_ge_t (not_lt_ofNat (by omega) (by have := S_x.1; omega))) ?_
                refine g_iconst w e20_117 (q := 118) rfl (v := (0 : Int32)) (by decide) ?_
                refine g_istore w e20_118 (q := 120) rfl (Ls' := #[.val (.ref x), .val (.int (Int32.ofNat ci)), .val (.int (Int32.ofNat hi)), .val (.int (Int32.ofNat hi)), .val (.int (1 : Int32)), .val (.int (0 : Int32)), .val (.int (0 : Int32))]) rfl ?_
                refine g_iload w e20_120 (q := 122) rfl rfl ?_
                refine g_ifN w e20_122 (q := 125) rfl (by decide) ?_
                refine g_iload w e20_125 (q := 127) rfl rfl ?_
                refine g_ifY w e20_127 (by decide) (q := 139) (by decide) (by decide) ?_
                refine g_iconst w e20_139 (q := 140) rfl (v := (0 : Int32)) (by decide) ?_
                exact g_retn w e20_140 rfl (by simp) rfl (by decide) (by decide) ⟨E0, (some ci), (some hi), ⟨hci, hco⟩, ⟨hhi, hhy⟩, Or.inr ⟨rfl, fun V => hh136 V.2.1.2⟩⟩
          · refine g_icY w e20_58 (by decide) (q := 79) (by decide) (Jvm.Free.XT.ii_le_t (not_lt_ofNat (by omega) (by have := S_x.1; omega))) ?_
            refine g_iconst w e20_79 (q := 80) rfl (v := (0 : Int32)) (by decide) ?_
            refine g_istore w e20_80 (q := 82) rfl (Ls' := #[.val (.ref x), .val (.int (Int32.ofNat ci)), .val (.int (Int32.ofNat hi)), .val (.int (Int32.ofNat hi)), .val (.int (1 : Int32)), .val (.int (0 : Int32)), .unset]) rfl ?_
            refine g_iloadN w e20_82 (q := 83) rfl rfl ?_
            refine g_ifN w e20_83 (q := 86) rfl (Jvm.Free.XT.i0_lt_f (ofNat_nonneg (by omega))) ?_
            refine g_iloadN w e20_86 (q := 87) rfl rfl ?_
            refine g_aloadN w e20_87 (q := 88) rfl rfl rfl ?_
            refine g_virtualB w (a := x) (argsL := []) (own_lenB hw S_x (w.sta SC_) hz_ (by decide) (by decide)) S_x.exa e20_88 (q := 91) rfl rfl (Hw hw 88 rfl) (Hw hw 52 rfl) (Hw hw 54 rfl) (Hw hw 53 rfl) (by decide) (nf (Hw hw 54 rfl)) pd5 rfl rfl (W := 1) (Nat.le_of_eq rfl) (by decide) (by decide) (fun T v w hq => ?_)
            obtain rfl := hq
            show Go p e below _ (State.setTop T (mkF m 91 #[.val (.ref x), .val (.int (Int32.ofNat ci)), .val (.int (Int32.ofNat hi)), .val (.int (Int32.ofNat hi)), .val (.int (1 : Int32)), .val (.int (0 : Int32)), .unset] [(.int (Int32.ofNat (cs).length)), (.int (Int32.ofNat hi))]))
            refine g_iconst w e20_91 (q := 92) rfl (v := (1 : Int32)) (by decide) ?_
            refine g_isub w e20_92 (q := 93) rfl ?_
            rw [ofNat_sub1 (by omega)]
            show Go p e below _ (State.setTop T (mkF m 93 #[.val (.ref x), .val (.int (Int32.ofNat ci)), .val (.int (Int32.ofNat hi)), .val (.int (Int32.ofNat hi)), .val (.int (1 : Int32)), .val (.int (0 : Int32)), .unset] [(.int (Int32.ofNat (cs.length - 1))), (.int (Int32.ofNat hi))]))
            rcases Decidable.em ((hi) < ((cs.length - 1))) with hn164 | hn164
            · refine g_icN w e20_93 (q := 96) rfl (Jvm.Free.XT.ii_ge_f (lt_ofNat hn164 (by have := S_x.1; omega))) ?_
              refine g_aloadN w e20_96 (q := 97) rfl rfl rfl ?_
              refine g_iloadN w e20_97 (q := 98) rfl rfl ?_
              refine g_iconst w e20_98 (q := 99) rfl (v := (1 : Int32)) (by decide) ?_
              refine g_iadd w e20_99 (q := 100) rfl ?_
              rw [ofNat_succ]
              show Go p e below _ (State.setTop T (mkF m 100 #[.val (.ref x), .val (.int (Int32.ofNat ci)), .val (.int (Int32.ofNat hi)), .val (.int (Int32.ofNat hi)), .val (.int (1 : Int32)), .val (.int (0 : Int32)), .unset] [(.int (Int32.ofNat ((hi) + 1))), (.ref x)]))
              refine g_aloadN w e20_100 (q := 101) rfl rfl rfl ?_
              refine g_virtualB w (a := x) (argsL := []) (own_lenB hw S_x (w.sta SC_) hz_ (by decide) (by decide)) S_x.exa e20_101 (q := 104) rfl rfl (Hw hw 88 rfl) (Hw hw 52 rfl) (Hw hw 54 rfl) (Hw hw 53 rfl) (by decide) (nf (Hw hw 54 rfl)) pd5 rfl rfl (W := 2) (Nat.le_of_eq rfl) (by decide) (by decide) (fun T v w hq => ?_)
              obtain rfl := hq
              show Go p e below _ (State.setTop T (mkF m 104 #[.val (.ref x), .val (.int (Int32.ofNat ci)), .val (.int (Int32.ofNat hi)), .val (.int (Int32.ofNat hi)), .val (.int (1 : Int32)), .val (.int (0 : Int32)), .unset] [(.int (Int32.ofNat (cs).length)), (.int (Int32.ofNat ((hi) + 1))), (.ref x)]))
              refine g_iconst w e20_104 (q := 105) rfl (v := (1 : Int32)) (by decide) ?_
              refine g_ldcS w e20_105 (q := 107) rfl rfl (Hw hw 137 rfl) (own_wS hw) (by decide) (vs := [.int (46 : Int32), .int (43 : Int32), .int (126 : Int32)]) (z := 3) ⟨by decide, by decide⟩ (by decide) (by decide) (nn := 12) (by decide) (by decide) (by decide) (by decide) (fun T vm h t165 b_t165 kb_t165 w E X_t165 Fc_t165 Fv_t165 Ab_t165 C Sf => ?_)
              replace E0 := ext_trans E0 E
              replace S_x := S_x.ext E
              replace S_t131 := S_t131.ext E
              have S_t165 : Sg Z h t165 [46, 43, 126] := ⟨Nat.le_of_ble_eq_true rfl, by unfold Lt8; decide, X_t165, b_t165, kb_t165, Fv_t165, Fc_t165, Ab_t165⟩
              refine g_staticP w (con_holds l Z a0 hw fm x t165 (((hi) + 1)) ((cs).length) (1 : Int32) _ _ _ w.old S_x S_t165 (by omega) (by have := S_x.1; omega) hcm SFm rfm) no0 e20_107 (q := 110) rfl rfl (Hw hw 109 rfl) (Hw hw 110 rfl) (Hw hw 33 rfl) (Hw hw 111 rfl) (by decide) pd12 rfl rfl (W := 0) (Nat.le_of_eq rfl) (by decide) (by decide) (by decide) (by decide) (fun T v w C q => ?_)
              rcases q with ⟨rfl, hh166⟩ | ⟨rfl, hh166⟩
              · show Go p e below _ (State.setTop T (mkF m 110 #[.val (.ref x), .val (.int (Int32.ofNat ci)), .val (.int (Int32.ofNat hi)), .val (.int (Int32.ofNat hi)), .val (.int (1 : Int32)), .val (.int (0 : Int32)), .unset] [(.int (1 : Int32))]))
                refine g_ifN w e20_110 (q := 113) rfl (by decide) ?_
                refine g_iconst w e20_113 (q := 114) rfl (v := (1 : Int32)) (by decide) ?_
                refine g_goto w e20_114 (by decide) (q := 118) (by decide) ?_
                refine g_istore w e20_118 (q := 120) rfl (Ls' := #[.val (.ref x), .val (.int (Int32.ofNat ci)), .val (.int (Int32.ofNat hi)), .val (.int (Int32.ofNat hi)), .val (.int (1 : Int32)), .val (.int (0 : Int32)), .val (.int (1 : Int32))]) rfl ?_
                refine g_iload w e20_120 (q := 122) rfl rfl ?_
                refine g_ifN w e20_122 (q := 125) rfl (by decide) ?_
                refine g_iload w e20_125 (q := 127) rfl rfl ?_
                refine g_ifY w e20_127 (by decide) (q := 139) (by decide) (by decide) ?_
                refine g_iconst w e20_139 (q := 140) rfl (v := (0 : Int32)) (by decide) ?_
                exact g_retn w e20_140 rfl (by simp) rfl (by decide) (by decide) ⟨E0, (some ci), (some hi), ⟨hci, hco⟩, ⟨hhi, hhy⟩, Or.inr ⟨rfl, fun V => absurd V.2.1.1 (by omega)⟩⟩
              · show Go p e below _ (State.setTop T (mkF m 110 #[.val (.ref x), .val (.int (Int32.ofNat ci)), .val (.int (Int32.ofNat hi)), .val (.int (Int32.ofNat hi)), .val (.int (1 : Int32)), .val (.int (0 : Int32)), .unset] [(.int (0 : Int32))]))
                refine g_ifY w e20_110 (by decide) (q := 117) (by decide) (by decide) ?_
                refine g_iconst w e20_117 (q := 118) rfl (v := (0 : Int32)) (by decide) ?_
                refine g_istore w e20_118 (q := 120) rfl (Ls' := #[.val (.ref x), .val (.int (Int32.ofNat ci)), .val (.int (Int32.ofNat hi)), .val (.int (Int32.ofNat hi)), .val (.int (1 : Int32)), .val (.int (0 : Int32)), .val (.int (0 : Int32))]) rfl ?_
                refine g_iload w e20_120 (q := 122) rfl rfl ?_
                refine g_ifN w e20_122 (q := 125) rfl (by decide) ?_
                refine g_iload w e20_125 (q := 127) rfl rfl ?_
                refine g_ifY w e20_127 (by decide) (q := 139) (by decide) (by decide) ?_
                refine g_iconst w e20_139 (q := 140) rfl (v := (0 : Int32)) (by decide) ?_
                exact g_retn w e20_140 rfl (by simp) rfl (by decide) (by decide) ⟨E0, (some ci), (some hi), ⟨hci, hco⟩, ⟨hhi, hhy⟩, Or.inr ⟨rfl, fun V => absurd V.2.1.1 (by omega)⟩⟩
            · refine g_icY w e20_93 (by decide) (q := 117) (by decide) (Jvm.Free.XT.ii_ge_t (not_lt_ofNat (by omega) (by have := S_x.1; omega))) ?_
              refine g_iconst w e20_117 (q := 118) rfl (v := (0 : Int32)) (by decide) ?_
              refine g_istore w e20_118 (q := 120) rfl (Ls' := #[.val (.ref x), .val (.int (Int32.ofNat ci)), .val (.int (Int32.ofNat hi)), .val (.int (Int32.ofNat hi)), .val (.int (1 : Int32)), .val (.int (0 : Int32)), .val (.int (0 : Int32))]) rfl ?_
              refine g_iload w e20_120 (q := 122) rfl rfl ?_
              refine g_ifN w e20_122 (q := 125) rfl (by decide) ?_
              refine g_iload w e20_125 (q := 127) rfl rfl ?_
              refine g_ifY w e20_127 (by decide) (q := 139) (by decide) (by decide) ?_
              refine g_iconst w e20_139 (q := 140) rfl (v := (0 : Int32)) (by decide) ?_
              exact g_retn w e20_140 rfl (by simp) rfl (by decide) (by decide) ⟨E0, (some ci), (some hi), ⟨hci, hco⟩, ⟨hhi, hhy⟩, Or.inr ⟨rfl, fun V => absurd V.2.1.1 (by omega)⟩⟩
        · show Go p e below _ (State.setTop T (mkF m 44 #[.val (.ref x), .val (.int (Int32.ofNat ci)), .val (.int (Int32.ofNat hi)), .val (.int (Int32.ofNat hi)), .unset, .unset, .unset] [(.int (0 : Int32))]))
          refine g_ifY w e20_44 (by decide) (q := 51) (by decide) (by decide) ?_
          refine g_iconst w e20_51 (q := 52) rfl (v := (0 : Int32)) (by decide) ?_
          refine g_istore w e20_52 (q := 54) rfl (Ls' := #[.val (.ref x), .val (.int (Int32.ofNat ci)), .val (.int (Int32.ofNat hi)), .val (.int (Int32.ofNat hi)), .val (.int (0 : Int32)), .unset, .unset]) rfl ?_
          refine g_iloadN w e20_54 (q := 55) rfl rfl ?_
          refine g_iloadN w e20_55 (q := 56) rfl rfl ?_
          refine g_iconst w e20_56 (q := 57) rfl (v := (1 : Int32)) (by decide) ?_
          refine g_iadd w e20_57 (q := 58) rfl ?_
          rw [ofNat_succ]
          show Go p e below _ (State.setTop T (mkF m 58 #[.val (.ref x), .val (.int (Int32.ofNat ci)), .val (.int (Int32.ofNat hi)), .val (.int (Int32.ofNat hi)), .val (.int (0 : Int32)), .unset, .unset] [(.int (Int32.ofNat ((ci) + 1))), (.int (Int32.ofNat hi))]))
          rcases Decidable.em ((((ci) + 1)) < (hi)) with hn176 | hn176
          · refine g_icN w e20_58 (q := 61) rfl (Jvm.Free.XT.ii_le_f (lt_ofNat hn176 (by have := S_x.1; omega))) ?_
            refine g_aloadN w e20_61 (q := 62) rfl rfl rfl ?_
            refine g_iloadN w e20_62 (q := 63) rfl rfl ?_
            refine g_iconst w e20_63 (q := 64) rfl (v := (1 : Int32)) (by decide) ?_
            refine g_iadd w e20_64 (q := 65) rfl ?_
            rw [ofNat_succ]
            show Go p e below _ (State.setTop T (mkF m 65 #[.val (.ref x), .val (.int (Int32.ofNat ci)), .val (.int (Int32.ofNat hi)), .val (.int (Int32.ofNat hi)), .val (.int (0 : Int32)), .unset, .unset] [(.int (Int32.ofNat ((ci) + 1))), (.ref x)]))
            refine g_iloadN w e20_65 (q := 66) rfl rfl ?_
            refine g_iconst w e20_66 (q := 67) rfl (v := (1 : Int32)) (by decide) ?_
            refine g_ldcS w e20_67 (q := 69) rfl rfl (Hw hw 108 rfl) (own_wS hw) (by decide) (vs := [.int (46 : Int32), .int (43 : Int32), .int (45 : Int32), .int (126 : Int32)]) (z := 4) ⟨by decide, by decide⟩ (by decide) (by decide) (nn := 16) (by decide) (by decide) (by decide) (by decide) (fun T vm h t177 b_t177 kb_t177 w E X_t177 Fc_t177 Fv_t177 Ab_t177 C Sf => ?_)
            replace E0 := ext_trans E0 E
            replace S_x := S_x.ext E
            replace S_t131 := S_t131.ext E
            have S_t177 : Sg Z h t177 [46, 43, 45, 126] := ⟨Nat.le_of_ble_eq_true rfl, by unfold Lt8; decide, X_t177, b_t177, kb_t177, Fv_t177, Fc_t177, Ab_t177⟩
            refine g_staticP w (con_holds l Z a0 hw fm x t177 (((ci) + 1)) (hi) (1 : Int32) _ _ _ w.old S_x S_t177 (by omega) (by have := S_x.1; omega) hcm SFm rfm) no0 e20_69 (q := 72) rfl rfl (Hw hw 109 rfl) (Hw hw 110 rfl) (Hw hw 33 rfl) (Hw hw 111 rfl) (by decide) pd12 rfl rfl (W := 0) (Nat.le_of_eq rfl) (by decide) (by decide) (by decide) (by decide) (fun T v w C q => ?_)
            rcases q with ⟨rfl, hh178⟩ | ⟨rfl, hh178⟩
            · show Go p e below _ (State.setTop T (mkF m 72 #[.val (.ref x), .val (.int (Int32.ofNat ci)), .val (.int (Int32.ofNat hi)), .val (.int (Int32.ofNat hi)), .val (.int (0 : Int32)), .unset, .unset] [(.int (1 : Int32))]))
              refine g_ifN w e20_72 (q := 75) rfl (by decide) ?_
              refine g_iconst w e20_75 (q := 76) rfl (v := (1 : Int32)) (by decide) ?_
              refine g_goto w e20_76 (by decide) (q := 80) (by decide) ?_
              refine g_istore w e20_80 (q := 82) rfl (Ls' := #[.val (.ref x), .val (.int (Int32.ofNat ci)), .val (.int (Int32.ofNat hi)), .val (.int (Int32.ofNat hi)), .val (.int (0 : Int32)), .val (.int (1 : Int32)), .unset]) rfl ?_
              refine g_iloadN w e20_82 (q := 83) rfl rfl ?_
              refine g_ifN w e20_83 (q := 86) rfl (Jvm.Free.XT.i0_lt_f (ofNat_nonneg (by omega))) ?_
              refine g_iloadN w e20_86 (q := 87) rfl rfl ?_
              refine g_aloadN w e20_87 (q := 88) rfl rfl rfl ?_
              refine g_virtualB w (a := x) (argsL := []) (own_lenB hw S_x (w.sta SC_) hz_ (by decide) (by decide)) S_x.exa e20_88 (q := 91) rfl rfl (Hw hw 88 rfl) (Hw hw 52 rfl) (Hw hw 54 rfl) (Hw hw 53 rfl) (by decide) (nf (Hw hw 54 rfl)) pd5 rfl rfl (W := 1) (Nat.le_of_eq rfl) (by decide) (by decide) (fun T v w hq => ?_)
              obtain rfl := hq
              show Go p e below _ (State.setTop T (mkF m 91 #[.val (.ref x), .val (.int (Int32.ofNat ci)), .val (.int (Int32.ofNat hi)), .val (.int (Int32.ofNat hi)), .val (.int (0 : Int32)), .val (.int (1 : Int32)), .unset] [(.int (Int32.ofNat (cs).length)), (.int (Int32.ofNat hi))]))
              refine g_iconst w e20_91 (q := 92) rfl (v := (1 : Int32)) (by decide) ?_
              refine g_isub w e20_92 (q := 93) rfl ?_
              rw [ofNat_sub1 (by omega)]
              show Go p e below _ (State.setTop T (mkF m 93 #[.val (.ref x), .val (.int (Int32.ofNat ci)), .val (.int (Int32.ofNat hi)), .val (.int (Int32.ofNat hi)), .val (.int (0 : Int32)), .val (.int (1 : Int32)), .unset] [(.int (Int32.ofNat (cs.length - 1))), (.int (Int32.ofNat hi))]))
              rcases Decidable.em ((hi) < ((cs.length - 1))) with hn180 | hn180
              · refine g_icN w e20_93 (q := 96) rfl (Jvm.Free.XT.ii_ge_f (lt_ofNat hn180 (by have := S_x.1; omega))) ?_
                refine g_aloadN w e20_96 (q := 97) rfl rfl rfl ?_
                refine g_iloadN w e20_97 (q := 98) rfl rfl ?_
                refine g_iconst w e20_98 (q := 99) rfl (v := (1 : Int32)) (by decide) ?_
                refine g_iadd w e20_99 (q := 100) rfl ?_
                rw [ofNat_succ]
                show Go p e below _ (State.setTop T (mkF m 100 #[.val (.ref x), .val (.int (Int32.ofNat ci)), .val (.int (Int32.ofNat hi)), .val (.int (Int32.ofNat hi)), .val (.int (0 : Int32)), .val (.int (1 : Int32)), .unset] [(.int (Int32.ofNat ((hi) + 1))), (.ref x)]))
                refine g_aloadN w e20_100 (q := 101) rfl rfl rfl ?_
                refine g_virtualB w (a := x) (argsL := []) (own_lenB hw S_x (w.sta SC_) hz_ (by decide) (by decide)) S_x.exa e20_101 (q := 104) rfl rfl (Hw hw 88 rfl) (Hw hw 52 rfl) (Hw hw 54 rfl) (Hw hw 53 rfl) (by decide) (nf (Hw hw 54 rfl)) pd5 rfl rfl (W := 2) (Nat.le_of_eq rfl) (by decide) (by decide) (fun T v w hq => ?_)
                obtain rfl := hq
                show Go p e below _ (State.setTop T (mkF m 104 #[.val (.ref x), .val (.int (Int32.ofNat ci)), .val (.int (Int32.ofNat hi)), .val (.int (Int32.ofNat hi)), .val (.int (0 : Int32)), .val (.int (1 : Int32)), .unset] [(.int (Int32.ofNat (cs).length)), (.int (Int32.ofNat ((hi) + 1))), (.ref x)]))
                refine g_iconst w e20_104 (q := 105) rfl (v := (1 : Int32)) (by decide) ?_
                refine g_ldcS w e20_105 (q := 107) rfl rfl (Hw hw 137 rfl) (own_wS hw) (by decide) (vs := [.int (46 : Int32), .int (43 : Int32), .int (126 : Int32)]) (z := 3) ⟨by decide, by decide⟩ (by decide) (by decide) (nn := 12) (by decide) (by decide) (by decide) (by decide) (fun T vm h t181 b_t181 kb_t181 w E X_t181 Fc_t181 Fv_t181 Ab_t181 C Sf => ?_)
                replace E0 := ext_trans E0 E
                replace S_x := S_x.ext E
                replace S_t131 := S_t131.ext E
                replace S_t177 := S_t177.ext E
                have S_t181 : Sg Z h t181 [46, 43, 126] := ⟨Nat.le_of_ble_eq_true rfl, by unfold Lt8; decide, X_t181, b_t181, kb_t181, Fv_t181, Fc_t181, Ab_t181⟩
                refine g_staticP w (con_holds l Z a0 hw fm x t181 (((hi) + 1)) ((cs).length) (1 : Int32) _ _ _ w.old S_x S_t181 (by omega) (by have := S_x.1; omega) hcm SFm rfm) no0 e20_107 (q := 110) rfl rfl (Hw hw 109 rfl) (Hw hw 110 rfl) (Hw hw 33 rfl) (Hw hw 111 rfl) (by decide) pd12 rfl rfl (W := 0) (Nat.le_of_eq rfl) (by decide) (by decide) (by decide) (by decide) (fun T v w C q => ?_)
                rcases q with ⟨rfl, hh182⟩ | ⟨rfl, hh182⟩
                · show Go p e below _ (State.setTop T (mkF m 110 #[.val (.ref x), .val (.int (Int32.ofNat ci)), .val (.int (Int32.ofNat hi)), .val (.int (Int32.ofNat hi)), .val (.int (0 : Int32)), .val (.int (1 : Int32)), .unset] [(.int (1 : Int32))]))
                  refine g_ifN w e20_110 (q := 113) rfl (by decide) ?_
                  refine g_iconst w e20_113 (q := 114) rfl (v := (1 : Int32)) (by decide) ?_
                  refine g_goto w e20_114 (by decide) (q := 118) (by decide) ?_
                  refine g_istore w e20_118 (q := 120) rfl (Ls' := #[.val (.ref x), .val (.int (Int32.ofNat ci)), .val (.int (Int32.ofNat hi)), .val (.int (Int32.ofNat hi)), .val (.int (0 : Int32)), .val (.int (1 : Int32)), .val (.int (1 : Int32))]) rfl ?_
                  refine g_iload w e20_120 (q := 122) rfl rfl ?_
                  refine g_ifY w e20_122 (by decide) (q := 139) (by decide) (by decide) ?_
                  refine g_iconst w e20_139 (q := 140) rfl (v := (0 : Int32)) (by decide) ?_
                  exact g_retn w e20_140 rfl (by simp) rfl (by decide) (by decide) ⟨E0, (some ci), (some hi), ⟨hci, hco⟩, ⟨hhi, hhy⟩, Or.inr ⟨rfl, fun V => hh132 V.1.2⟩⟩
                · show Go p e below _ (State.setTop T (mkF m 110 #[.val (.ref x), .val (.int (Int32.ofNat ci)), .val (.int (Int32.ofNat hi)), .val (.int (Int32.ofNat hi)), .val (.int (0 : Int32)), .val (.int (1 : Int32)), .unset] [(.int (0 : Int32))]))
                  refine g_ifY w e20_110 (by decide) (q := 117) (by decide) (by decide) ?_
                  refine g_iconst w e20_117 (q := 118) rfl (v := (0 : Int32)) (by decide) ?_
                  refine g_istore w e20_118 (q := 120) rfl (Ls' := #[.val (.ref x), .val (.int (Int32.ofNat ci)), .val (.int (Int32.ofNat hi)), .val (.int (Int32.ofNat hi)), .val (.int (0 : Int32)), .val (.int (1 : Int32)), .val (.int (0 : Int32))]) rfl ?_
                  refine g_iload w e20_120 (q := 122) rfl rfl ?_
                  refine g_ifY w e20_122 (by decide) (q := 139) (by decide) (by decide) ?_
                  refine g_iconst w e20_139 (q := 140) rfl (v := (0 : Int32)) (by decide) ?_
                  exact g_retn w e20_140 rfl (by simp) rfl (by decide) (by decide) ⟨E0, (some ci), (some hi), ⟨hci, hco⟩, ⟨hhi, hhy⟩, Or.inr ⟨rfl, fun V => hh132 V.1.2⟩⟩
              · refine g_icY w e20_93 (by decide) (q := 117) (by decide) (Jvm.Free.XT.ii_ge_t (not_lt_ofNat (by omega) (by have := S_x.1; omega))) ?_
                refine g_iconst w e20_117 (q := 118) rfl (v := (0 : Int32)) (by decide) ?_
                refine g_istore w e20_118 (q := 120) rfl (Ls' := #[.val (.ref x), .val (.int (Int32.ofNat ci)), .val (.int (Int32.ofNat hi)), .val (.int (Int32.ofNat hi)), .val (.int (0 : Int32)), .val (.int (1 : Int32)), .val (.int (0 : Int32))]) rfl ?_
                refine g_iload w e20_120 (q := 122) rfl rfl ?_
                refine g_ifY w e20_122 (by decide) (q := 139) (by decide) (by decide) ?_
                refine g_iconst w e20_139 (q := 140) rfl (v := (0 : Int32)) (by decide) ?_
                exact g_retn w e20_140 rfl (by simp) rfl (by decide) (by decide) ⟨E0, (some ci), (some hi), ⟨hci, hco⟩, ⟨hhi, hhy⟩, Or.inr ⟨rfl, fun V => hh132 V.1.2⟩⟩
            · show Go p e below _ (State.setTop T (mkF m 72 #[.val (.ref x), .val (.int (Int32.ofNat ci)), .val (.int (Int32.ofNat hi)), .val (.int (Int32.ofNat hi)), .val (.int (0 : Int32)), .unset, .unset] [(.int (0 : Int32))]))
              refine g_ifY w e20_72 (by decide) (q := 79) (by decide) (by decide) ?_
              refine g_iconst w e20_79 (q := 80) rfl (v := (0 : Int32)) (by decide) ?_
              refine g_istore w e20_80 (q := 82) rfl (Ls' := #[.val (.ref x), .val (.int (Int32.ofNat ci)), .val (.int (Int32.ofNat hi)), .val (.int (Int32.ofNat hi)), .val (.int (0 : Int32)), .val (.int (0 : Int32)), .unset]) rfl ?_
              refine g_iloadN w e20_82 (q := 83) rfl rfl ?_
              refine g_ifN w e20_83 (q := 86) rfl (Jvm.Free.XT.i0_lt_f (ofNat_nonneg (by omega))) ?_
              refine g_iloadN w e20_86 (q := 87) rfl rfl ?_
              refine g_aloadN w e20_87 (q := 88) rfl rfl rfl ?_
              refine g_virtualB w (a := x) (argsL := []) (own_lenB hw S_x (w.sta SC_) hz_ (by decide) (by decide)) S_x.exa e20_88 (q := 91) rfl rfl (Hw hw 88 rfl) (Hw hw 52 rfl) (Hw hw 54 rfl) (Hw hw 53 rfl) (by decide) (nf (Hw hw 54 rfl)) pd5 rfl rfl (W := 1) (Nat.le_of_eq rfl) (by decide) (by decide) (fun T v w hq => ?_)
              obtain rfl := hq
              show Go p e below _ (State.setTop T (mkF m 91 #[.val (.ref x), .val (.int (Int32.ofNat ci)), .val (.int (Int32.ofNat hi)), .val (.int (Int32.ofNat hi)), .val (.int (0 : Int32)), .val (.int (0 : Int32)), .unset] [(.int (Int32.ofNat (cs).length)), (.int (Int32.ofNat hi))]))
              refine g_iconst w e20_91 (q := 92) rfl (v := (1 : Int32)) (by decide) ?_
              refine g_isub w e20_92 (q := 93) rfl ?_
              rw [ofNat_sub1 (by omega)]
              show Go p e below _ (State.setTop T (mkF m 93 #[.val (.ref x), .val (.int (Int32.ofNat ci)), .val (.int (Int32.ofNat hi)), .val (.int (Int32.ofNat hi)), .val (.int (0 : Int32)), .val (.int (0 : Int32)), .unset] [(.int (Int32.ofNat (cs.length - 1))), (.int (Int32.ofNat hi))]))
              rcases Decidable.em ((hi) < ((cs.length - 1))) with hn189 | hn189
              · refine g_icN w e20_93 (q := 96) rfl (Jvm.Free.XT.ii_ge_f (lt_ofNat hn189 (by have := S_x.1; omega))) ?_
                refine g_aloadN w e20_96 (q := 97) rfl rfl rfl ?_
                refine g_iloadN w e20_97 (q := 98) rfl rfl ?_
                refine g_iconst w e20_98 (q := 99) rfl (v := (1 : Int32)) (by decide) ?_
                refine g_iadd w e20_99 (q := 100) rfl ?_
                rw [ofNat_succ]
                show Go p e below _ (State.setTop T (mkF m 100 #[.val (.ref x), .val (.int (Int32.ofNat ci)), .val (.int (Int32.ofNat hi)), .val (.int (Int32.ofNat hi)), .val (.int (0 : Int32)), .val (.int (0 : Int32)), .unset] [(.int (Int32.ofNat ((hi) + 1))), (.ref x)]))
                refine g_aloadN w e20_100 (q := 101) rfl rfl rfl ?_
                refine g_virtualB w (a := x) (argsL := []) (own_lenB hw S_x (w.sta SC_) hz_ (by decide) (by decide)) S_x.exa e20_101 (q := 104) rfl rfl (Hw hw 88 rfl) (Hw hw 52 rfl) (Hw hw 54 rfl) (Hw hw 53 rfl) (by decide) (nf (Hw hw 54 rfl)) pd5 rfl rfl (W := 2) (Nat.le_of_eq rfl) (by decide) (by decide) (fun T v w hq => ?_)
                obtain rfl := hq
                show Go p e below _ (State.setTop T (mkF m 104 #[.val (.ref x), .val (.int (Int32.ofNat ci)), .val (.int (Int32.ofNat hi)), .val (.int (Int32.ofNat hi)), .val (.int (0 : Int32)), .val (.int (0 : Int32)), .unset] [(.int (Int32.ofNat (cs).length)), (.int (Int32.ofNat ((hi) + 1))), (.ref x)]))
                refine g_iconst w e20_104 (q := 105) rfl (v := (1 : Int32)) (by decide) ?_
                refine g_ldcS w e20_105 (q := 107) rfl rfl (Hw hw 137 rfl) (own_wS hw) (by decide) (vs := [.int (46 : Int32), .int (43 : Int32), .int (126 : Int32)]) (z := 3) ⟨by decide, by decide⟩ (by decide) (by decide) (nn := 12) (by decide) (by decide) (by decide) (by decide) (fun T vm h t190 b_t190 kb_t190 w E X_t190 Fc_t190 Fv_t190 Ab_t190 C Sf => ?_)
                replace E0 := ext_trans E0 E
                replace S_x := S_x.ext E
                replace S_t131 := S_t131.ext E
                replace S_t177 := S_t177.ext E
                have S_t190 : Sg Z h t190 [46, 43, 126] := ⟨Nat.le_of_ble_eq_true rfl, by unfold Lt8; decide, X_t190, b_t190, kb_t190, Fv_t190, Fc_t190, Ab_t190⟩
                refine g_staticP w (con_holds l Z a0 hw fm x t190 (((hi) + 1)) ((cs).length) (1 : Int32) _ _ _ w.old S_x S_t190 (by omega) (by have := S_x.1; omega) hcm SFm rfm) no0 e20_107 (q := 110) rfl rfl (Hw hw 109 rfl) (Hw hw 110 rfl) (Hw hw 33 rfl) (Hw hw 111 rfl) (by decide) pd12 rfl rfl (W := 0) (Nat.le_of_eq rfl) (by decide) (by decide) (by decide) (by decide) (fun T v w C q => ?_)
                rcases q with ⟨rfl, hh191⟩ | ⟨rfl, hh191⟩
                · show Go p e below _ (State.setTop T (mkF m 110 #[.val (.ref x), .val (.int (Int32.ofNat ci)), .val (.int (Int32.ofNat hi)), .val (.int (Int32.ofNat hi)), .val (.int (0 : Int32)), .val (.int (0 : Int32)), .unset] [(.int (1 : Int32))]))
                  refine g_ifN w e20_110 (q := 113) rfl (by decide) ?_
                  refine g_iconst w e20_113 (q := 114) rfl (v := (1 : Int32)) (by decide) ?_
                  refine g_goto w e20_114 (by decide) (q := 118) (by decide) ?_
                  refine g_istore w e20_118 (q := 120) rfl (Ls' := #[.val (.ref x), .val (.int (Int32.ofNat ci)), .val (.int (Int32.ofNat hi)), .val (.int (Int32.ofNat hi)), .val (.int (0 : Int32)), .val (.int (0 : Int32)), .val (.int (1 : Int32))]) rfl ?_
                  refine g_iload w e20_120 (q := 122) rfl rfl ?_
                  refine g_ifY w e20_122 (by decide) (q := 139) (by decide) (by decide) ?_
                  refine g_iconst w e20_139 (q := 140) rfl (v := (0 : Int32)) (by decide) ?_
                  exact g_retn w e20_140 rfl (by simp) rfl (by decide) (by decide) ⟨E0, (some ci), (some hi), ⟨hci, hco⟩, ⟨hhi, hhy⟩, Or.inr ⟨rfl, fun V => hh132 V.1.2⟩⟩
                · show Go p e below _ (State.setTop T (mkF m 110 #[.val (.ref x), .val (.int (Int32.ofNat ci)), .val (.int (Int32.ofNat hi)), .val (.int (Int32.ofNat hi)), .val (.int (0 : Int32)), .val (.int (0 : Int32)), .unset] [(.int (0 : Int32))]))
                  refine g_ifY w e20_110 (by decide) (q := 117) (by decide) (by decide) ?_
                  refine g_iconst w e20_117 (q := 118) rfl (v := (0 : Int32)) (by decide) ?_
                  refine g_istore w e20_118 (q := 120) rfl (Ls' := #[.val (.ref x), .val (.int (Int32.ofNat ci)), .val (.int (Int32.ofNat hi)), .val (.int (Int32.ofNat hi)), .val (.int (0 : Int32)), .val (.int (0 : Int32)), .val (.int (0 : Int32))]) rfl ?_
                  refine g_iload w e20_120 (q := 122) rfl rfl ?_
                  refine g_ifY w e20_122 (by decide) (q := 139) (by decide) (by decide) ?_
                  refine g_iconst w e20_139 (q := 140) rfl (v := (0 : Int32)) (by decide) ?_
                  exact g_retn w e20_140 rfl (by simp) rfl (by decide) (by decide) ⟨E0, (some ci), (some hi), ⟨hci, hco⟩, ⟨hhi, hhy⟩, Or.inr ⟨rfl, fun V => hh132 V.1.2⟩⟩
              · refine g_icY w e20_93 (by decide) (q := 117) (by decide) (Jvm.Free.XT.ii_ge_t (not_lt_ofNat (by omega) (by have := S_x.1; omega))) ?_
                refine g_iconst w e20_117 (q := 118) rfl (v := (0 : Int32)) (by decide) ?_
                refine g_istore w e20_118 (q := 120) rfl (Ls' := #[.val (.ref x), .val (.int (Int32.ofNat ci)), .val (.int (Int32.ofNat hi)), .val (.int (Int32.ofNat hi)), .val (.int (0 : Int32)), .val (.int (0 : Int32)), .val (.int (0 : Int32))]) rfl ?_
                refine g_iload w e20_120 (q := 122) rfl rfl ?_
                refine g_ifY w e20_122 (by decide) (q := 139) (by decide) (by decide) ?_
                refine g_iconst w e20_139 (q := 140) rfl (v := (0 : Int32)) (by decide) ?_
                exact g_retn w e20_140 rfl (by simp) rfl (by decide) (by decide) ⟨E0, (some ci), (some hi), ⟨hci, hco⟩, ⟨hhi, hhy⟩, Or.inr ⟨rfl, fun V => hh132 V.1.2⟩⟩
          · refine g_icY w e20_58 (by decide) (q := 79) (by decide) (Jvm.Free.XT.ii_le_t (not_lt_ofNat (by omega) (by have := S_x.1; omega))) ?_
            refine g_iconst w e20_79 (q := 80) rfl (v := (0 : Int32)) (by decide) ?_
            refine g_istore w e20_80 (q := 82) rfl (Ls' := #[.val (.ref x), .val (.int (Int32.ofNat ci)), .val (.int (Int32.ofNat hi)), .val (.int (Int32.ofNat hi)), .val (.int (0 : Int32)), .val (.int (0 : Int32)), .unset]) rfl ?_
            refine g_iloadN w e20_82 (q := 83) rfl rfl ?_
            refine g_ifN w e20_83 (q := 86) rfl (Jvm.Free.XT.i0_lt_f (ofNat_nonneg (by omega))) ?_
            refine g_iloadN w e20_86 (q := 87) rfl rfl ?_
            refine g_aloadN w e20_87 (q := 88) rfl rfl rfl ?_
            refine g_virtualB w (a := x) (argsL := []) (own_lenB hw S_x (w.sta SC_) hz_ (by decide) (by decide)) S_x.exa e20_88 (q := 91) rfl rfl (Hw hw 88 rfl) (Hw hw 52 rfl) (Hw hw 54 rfl) (Hw hw 53 rfl) (by decide) (nf (Hw hw 54 rfl)) pd5 rfl rfl (W := 1) (Nat.le_of_eq rfl) (by decide) (by decide) (fun T v w hq => ?_)
            obtain rfl := hq
            show Go p e below _ (State.setTop T (mkF m 91 #[.val (.ref x), .val (.int (Int32.ofNat ci)), .val (.int (Int32.ofNat hi)), .val (.int (Int32.ofNat hi)), .val (.int (0 : Int32)), .val (.int (0 : Int32)), .unset] [(.int (Int32.ofNat (cs).length)), (.int (Int32.ofNat hi))]))
            refine g_iconst w e20_91 (q := 92) rfl (v := (1 : Int32)) (by decide) ?_
            refine g_isub w e20_92 (q := 93) rfl ?_
            rw [ofNat_sub1 (by omega)]
            show Go p e below _ (State.setTop T (mkF m 93 #[.val (.ref x), .val (.int (Int32.ofNat ci)), .val (.int (Int32.ofNat hi)), .val (.int (Int32.ofNat hi)), .val (.int (0 : Int32)), .val (.int (0 : Int32)), .unset] [(.int (Int32.ofNat (cs.length - 1))), (.int (Int32.ofNat hi))]))
            rcases Decidable.em ((hi) < ((cs.length - 1))) with hn197 | hn197
            · refine g_icN w e20_93 (q := 96) rfl (Jvm.Free.XT.ii_ge_f (lt_ofNat hn197 (by have := S_x.1; omega))) ?_
              refine g_aloadN w e20_96 (q := 97) rfl rfl rfl ?_
              refine g_iloadN w e20_97 (q := 98) rfl rfl ?_
              refine g_iconst w e20_98 (q := 99) rfl (v := (1 : Int32)) (by decide) ?_
              refine g_iadd w e20_99 (q := 100) rfl ?_
              rw [ofNat_succ]
              show Go p e below _ (State.setTop T (mkF m 100 #[.val (.ref x), .val (.int (Int32.ofNat ci)), .val (.int (Int32.ofNat hi)), .val (.int (Int32.ofNat hi)), .val (.int (0 : Int32)), .val (.int (0 : Int32)), .unset] [(.int (Int32.ofNat ((hi) + 1))), (.ref x)]))
              refine g_aloadN w e20_100 (q := 101) rfl rfl rfl ?_
              refine g_virtualB w (a := x) (argsL := []) (own_lenB hw S_x (w.sta SC_) hz_ (by decide) (by decide)) S_x.exa e20_101 (q := 104) rfl rfl (Hw hw 88 rfl) (Hw hw 52 rfl) (Hw hw 54 rfl) (Hw hw 53 rfl) (by decide) (nf (Hw hw 54 rfl)) pd5 rfl rfl (W := 2) (Nat.le_of_eq rfl) (by decide) (by decide) (fun T v w hq => ?_)
              obtain rfl := hq
              show Go p e below _ (State.setTop T (mkF m 104 #[.val (.ref x), .val (.int (Int32.ofNat ci)), .val (.int (Int32.ofNat hi)), .val (.int (Int32.ofNat hi)), .val (.int (0 : Int32)), .val (.int (0 : Int32)), .unset] [(.int (Int32.ofNat (cs).length)), (.int (Int32.ofNat ((hi) + 1))), (.ref x)]))
              refine g_iconst w e20_104 (q := 105) rfl (v := (1 : Int32)) (by decide) ?_
              refine g_ldcS w e20_105 (q := 107) rfl rfl (Hw hw 137 rfl) (own_wS hw) (by decide) (vs := [.int (46 : Int32), .int (43 : Int32), .int (126 : Int32)]) (z := 3) ⟨by decide, by decide⟩ (by decide) (by decide) (nn := 12) (by decide) (by decide) (by decide) (by decide) (fun T vm h t198 b_t198 kb_t198 w E X_t198 Fc_t198 Fv_t198 Ab_t198 C Sf => ?_)
              replace E0 := ext_trans E0 E
              replace S_x := S_x.ext E
              replace S_t131 := S_t131.ext E
              have S_t198 : Sg Z h t198 [46, 43, 126] := ⟨Nat.le_of_ble_eq_true rfl, by unfold Lt8; decide, X_t198, b_t198, kb_t198, Fv_t198, Fc_t198, Ab_t198⟩
              refine g_staticP w (con_holds l Z a0 hw fm x t198 (((hi) + 1)) ((cs).length) (1 : Int32) _ _ _ w.old S_x S_t198 (by omega) (by have := S_x.1; omega) hcm SFm rfm) no0 e20_107 (q := 110) rfl rfl (Hw hw 109 rfl) (Hw hw 110 rfl) (Hw hw 33 rfl) (Hw hw 111 rfl) (by decide) pd12 rfl rfl (W := 0) (Nat.le_of_eq rfl) (by decide) (by decide) (by decide) (by decide) (fun T v w C q => ?_)
              rcases q with ⟨rfl, hh199⟩ | ⟨rfl, hh199⟩
              · show Go p e below _ (State.setTop T (mkF m 110 #[.val (.ref x), .val (.int (Int32.ofNat ci)), .val (.int (Int32.ofNat hi)), .val (.int (Int32.ofNat hi)), .val (.int (0 : Int32)), .val (.int (0 : Int32)), .unset] [(.int (1 : Int32))]))
                refine g_ifN w e20_110 (q := 113) rfl (by decide) ?_
                refine g_iconst w e20_113 (q := 114) rfl (v := (1 : Int32)) (by decide) ?_
                refine g_goto w e20_114 (by decide) (q := 118) (by decide) ?_
                refine g_istore w e20_118 (q := 120) rfl (Ls' := #[.val (.ref x), .val (.int (Int32.ofNat ci)), .val (.int (Int32.ofNat hi)), .val (.int (Int32.ofNat hi)), .val (.int (0 : Int32)), .val (.int (0 : Int32)), .val (.int (1 : Int32))]) rfl ?_
                refine g_iload w e20_120 (q := 122) rfl rfl ?_
                refine g_ifY w e20_122 (by decide) (q := 139) (by decide) (by decide) ?_
                refine g_iconst w e20_139 (q := 140) rfl (v := (0 : Int32)) (by decide) ?_
                exact g_retn w e20_140 rfl (by simp) rfl (by decide) (by decide) ⟨E0, (some ci), (some hi), ⟨hci, hco⟩, ⟨hhi, hhy⟩, Or.inr ⟨rfl, fun V => hh132 V.1.2⟩⟩
              · show Go p e below _ (State.setTop T (mkF m 110 #[.val (.ref x), .val (.int (Int32.ofNat ci)), .val (.int (Int32.ofNat hi)), .val (.int (Int32.ofNat hi)), .val (.int (0 : Int32)), .val (.int (0 : Int32)), .unset] [(.int (0 : Int32))]))
                refine g_ifY w e20_110 (by decide) (q := 117) (by decide) (by decide) ?_
                refine g_iconst w e20_117 (q := 118) rfl (v := (0 : Int32)) (by decide) ?_
                refine g_istore w e20_118 (q := 120) rfl (Ls' := #[.val (.ref x), .val (.int (Int32.ofNat ci)), .val (.int (Int32.ofNat hi)), .val (.int (Int32.ofNat hi)), .val (.int (0 : Int32)), .val (.int (0 : Int32)), .val (.int (0 : Int32))]) rfl ?_
                refine g_iload w e20_120 (q := 122) rfl rfl ?_
                refine g_ifY w e20_122 (by decide) (q := 139) (by decide) (by decide) ?_
                refine g_iconst w e20_139 (q := 140) rfl (v := (0 : Int32)) (by decide) ?_
                exact g_retn w e20_140 rfl (by simp) rfl (by decide) (by decide) ⟨E0, (some ci), (some hi), ⟨hci, hco⟩, ⟨hhi, hhy⟩, Or.inr ⟨rfl, fun V => hh132 V.1.2⟩⟩
            · refine g_icY w e20_93 (by decide) (q := 117) (by decide) (Jvm.Free.XT.ii_ge_t (not_lt_ofNat (by omega) (by have := S_x.1; omega))) ?_
              refine g_iconst w e20_117 (q := 118) rfl (v := (0 : Int32)) (by decide) ?_
              refine g_istore w e20_118 (q := 120) rfl (Ls' := #[.val (.ref x), .val (.int (Int32.ofNat ci)), .val (.int (Int32.ofNat hi)), .val (.int (Int32.ofNat hi)), .val (.int (0 : Int32)), .val (.int (0 : Int32)), .val (.int (0 : Int32))]) rfl ?_
              refine g_iload w e20_120 (q := 122) rfl rfl ?_
              refine g_ifY w e20_122 (by decide) (q := 139) (by decide) (by decide) ?_
              refine g_iconst w e20_139 (q := 140) rfl (v := (0 : Int32)) (by decide) ?_
              exact g_retn w e20_140 rfl (by simp) rfl (by decide) (by decide) ⟨E0, (some ci), (some hi), ⟨hci, hco⟩, ⟨hhi, hhy⟩, Or.inr ⟨rfl, fun V => hh132 V.1.2⟩⟩
/-- the kinds as Nats; the automaton on them -/
def kdn (c : Int32) : Nat := if ¬ c < 48 ∧ ¬ 57 < c then 0 else if (¬ c < 97 ∧ ¬ 122 < c) ∨ (¬ c < 65 ∧ ¬ 90 < c) ∨ c = 46 ∨ c = 43 ∨ c = 126 then 1 else if c = 45 then 2 else if c = 58 then 3 else 4
def stepN (s k : Nat) : Nat := if s = 8 ∨ k = 4 then 8 else if k = 3 then (if s = 1 then 2 else 8) else if k = 2 then (if s = 0 ∨ s = 2 then 5 else 4) else if s = 0 ∨ s = 1 then (if k = 0 then 1 else 3) else if s = 2 ∨ s = 3 then 3 else if s = 4 ∨ s = 6 then 6 else 7
theorem kdn_lt (c : Int32) : kdn c < 5 := by unfold kdn; repeat' split <;> first | decide | skip
theorem kd_kdn (c : Int32) : kd c = Int32.ofNat (kdn c) := by unfold kd kdn; repeat' split <;> first | rfl | skip
theorem stepN_lt {s k : Nat} (hs : s < 9) (hk : k < 5) : stepN s k < 9 := by unfold stepN; repeat' split <;> first | decide | skip
theorem stp_stepN : ∀ s < 9, ∀ k < 5, stp (Int32.ofNat s) (Int32.ofNat k) = Int32.ofNat (stepN s k) := by decide +kernel
def runN (ks : List Nat) (s : Nat) : Nat := ks.foldl stepN s
def run (cs : List Int32) (s : Int32) : Int32 := cs.foldl (fun s c => stp s (kd c)) s
theorem run_runN : ∀ (cs : List Int32) (s : Nat), s < 9 → run cs (Int32.ofNat s) = Int32.ofNat (runN (cs.map kdn) s) ∧ runN (cs.map kdn) s < 9
  | [], s, h => ⟨rfl, h⟩
  | c :: cs, s, h => by
    have e : run (c :: cs) (Int32.ofNat s) = run cs (Int32.ofNat (stepN s (kdn c))) := by
      show run cs (stp (Int32.ofNat s) (kd c)) = _
      rw [kd_kdn, stp_stepN s h _ (kdn_lt c)]
    rw [e]
    exact run_runN cs (stepN s (kdn c)) (stepN_lt h (kdn_lt c))
def acc (s : Int32) : Prop := s = 1 ∨ s = 3 ∨ s = 6
def accB (s : Nat) : Bool := s == 1 || s == 3 || s == 6
theorem acc_accB : ∀ s < 9, (acc (Int32.ofNat s) ↔ accB s = true) := by unfold acc; decide +kernel
def lastO (p : Nat → Bool) (ks : List Nat) : Nat → Option Nat
  | 0 => none
  | n + 1 => if p (ks.getD n 9) then some n else lastO p ks n
def hldB (ks : List Nat) (s e t : Nat) : Bool := (List.range e).all fun j => decide (j < s) || decide (ks.getD j 9 ≤ t)
def verC (ks : List Nat) (co hy : Option Nat) : Bool :=
  (match co with | none => true | some i => decide (0 < i) && hldB ks 0 i 0) && ((decide ((match co with | none => 0 | some i => i + 1) < (match hy with | none => ks.length | some j => j)) && hldB ks (match co with | none => 0 | some i => i + 1) (match hy with | none => ks.length | some j => j) 2) && (match hy with | none => true | some j => decide (j + 1 < ks.length) && hldB ks (j + 1) ks.length 1))
def verB (ks : List Nat) : Bool := verC ks (ks.findIdx? (· == 3)) (lastO (· == 2) ks ks.length)
def allL : Nat → List (List Nat)
  | 0 => [[]]
  | n + 1 => (allL n).flatMap fun l => [0 :: l, 1 :: l, 2 :: l, 3 :: l, 4 :: l]
theorem mem_allL : ∀ (ks : List Nat), (∀ k ∈ ks, k < 5) → ks ∈ allL ks.length
  | [], _ => by simp [allL]
  | k :: ks, h => by
    have h1 := mem_allL ks fun k' hk => h k' (List.mem_cons_of_mem _ hk)
    have h2 := h k (List.mem_cons_self ..)
    show k :: ks ∈ (allL ks.length).flatMap _
    refine List.mem_flatMap.mpr ⟨ks, h1, ?_⟩
    have : k = 0 ∨ k = 1 ∨ k = 2 ∨ k = 3 ∨ k = 4 := by omega
    rcases this with rfl | rfl | rfl | rfl | rfl <;> simp
set_option maxRecDepth 65536 in
theorem auto5 : ∀ n < 6, ∀ ks ∈ allL n, verB ks = accB (runN ks 0) := by decide +kernel
def Pw (c : Int32) : Prop := lt c ∨ c = 46 ∨ c = 43 ∨ c = 126
theorem kdn_cases (c : Int32) : (kdn c = 0 ∧ dg c) ∨ (kdn c = 1 ∧ ¬ dg c ∧ Pw c) ∨ (kdn c = 2 ∧ ¬ dg c ∧ ¬ Pw c ∧ c = 45) ∨ (kdn c = 3 ∧ ¬ dg c ∧ ¬ Pw c ∧ ¬ c = 45 ∧ c = 58) ∨ (kdn c = 4 ∧ ¬ dg c ∧ ¬ Pw c ∧ ¬ c = 45 ∧ ¬ c = 58) := by
  unfold kdn dg Pw lt
  by_cases h1 : ¬ c < 48 ∧ ¬ 57 < c
  · exact Or.inl ⟨if_pos h1, h1⟩
  · rw [if_neg h1]
    by_cases h2 : (¬ c < 97 ∧ ¬ 122 < c) ∨ (¬ c < 65 ∧ ¬ 90 < c) ∨ c = 46 ∨ c = 43 ∨ c = 126
    · exact Or.inr (Or.inl ⟨if_pos h2, h1, or_assoc.mpr h2⟩)
    · rw [if_neg h2]
      have h2' : ¬ (((¬ c < 97 ∧ ¬ 122 < c) ∨ (¬ c < 65 ∧ ¬ 90 < c)) ∨ c = 46 ∨ c = 43 ∨ c = 126) := fun q => h2 (or_assoc.mp q)
      by_cases h3 : c = 45
      · exact Or.inr (Or.inr (Or.inl ⟨if_pos h3, h1, h2', h3⟩))
      · rw [if_neg h3]
        by_cases h4 : c = 58
        · exact Or.inr (Or.inr (Or.inr (Or.inl ⟨if_pos h4, h1, h2', h3, h4⟩)))
        · exact Or.inr (Or.inr (Or.inr (Or.inr ⟨if_neg h4, h1, h2', h3, h4⟩)))
theorem okc0 (c : Int32) : okc 0 [] c ↔ kdn c ≤ 0 := by
  have hm : okc 0 [] c ↔ dg c := ⟨fun h => h.elim id fun h => h.elim (fun h => absurd rfl h.1) (fun h => nomatch h), Or.inl⟩
  rw [hm]
  rcases kdn_cases c with ⟨e, h⟩ | ⟨e, h, _⟩ | ⟨e, h, _⟩ | ⟨e, h, _⟩ | ⟨e, h, _⟩ <;> rw [e] <;> simp [h]
theorem okc1 (c : Int32) : okc 1 [46, 43, 126] c ↔ kdn c ≤ 1 := by
  have hm : okc 1 [46, 43, 126] c ↔ dg c ∨ Pw c := by
    have hm : c ∈ ([46, 43, 126] : List Int32) ↔ c = 46 ∨ c = 43 ∨ c = 126 := by simp
    unfold okc Pw; rw [hm]
    exact ⟨fun h => h.elim Or.inl fun h => Or.inr (h.elim (fun h => Or.inl h.2) Or.inr), fun h => h.elim Or.inl fun h => Or.inr (h.elim (fun h => Or.inl ⟨by decide, h⟩) Or.inr)⟩
  rw [hm]
  rcases kdn_cases c with ⟨e, h⟩ | ⟨e, h, g⟩ | ⟨e, h, g, _⟩ | ⟨e, h, g, _⟩ | ⟨e, h, g, _⟩ <;> rw [e]
  · exact ⟨fun _ => by decide, fun _ => Or.inl h⟩
  · exact ⟨fun _ => by decide, fun _ => Or.inr g⟩
  · exact ⟨fun q => absurd q (fun q => q.elim h g), fun q => absurd q (by decide)⟩
  · exact ⟨fun q => absurd q (fun q => q.elim h g), fun q => absurd q (by decide)⟩
  · exact ⟨fun q => absurd q (fun q => q.elim h g), fun q => absurd q (by decide)⟩
theorem okc2 (c : Int32) : okc 1 [46, 43, 45, 126] c ↔ kdn c ≤ 2 := by
  have hm : okc 1 [46, 43, 45, 126] c ↔ dg c ∨ Pw c ∨ c = 45 := by
    have hm : c ∈ ([46, 43, 45, 126] : List Int32) ↔ c = 46 ∨ c = 43 ∨ c = 45 ∨ c = 126 := by simp
    unfold okc Pw; rw [hm]
    constructor
    · rintro (h | ⟨_, h⟩ | h | h | h | h)
      · exact Or.inl h
      · exact Or.inr (Or.inl (Or.inl h))
      · exact Or.inr (Or.inl (Or.inr (Or.inl h)))
      · exact Or.inr (Or.inl (Or.inr (Or.inr (Or.inl h))))
      · exact Or.inr (Or.inr h)
      · exact Or.inr (Or.inl (Or.inr (Or.inr (Or.inr h))))
    · rintro (h | (h | h | h | h) | h)
      · exact Or.inl h
      · exact Or.inr (Or.inl ⟨by decide, h⟩)
      · exact Or.inr (Or.inr (Or.inl h))
      · exact Or.inr (Or.inr (Or.inr (Or.inl h)))
      · exact Or.inr (Or.inr (Or.inr (Or.inr (Or.inr h))))
      · exact Or.inr (Or.inr (Or.inr (Or.inr (Or.inl h))))
  rw [hm]
  rcases kdn_cases c with ⟨e, h⟩ | ⟨e, h, g⟩ | ⟨e, h, g, i⟩ | ⟨e, h, g, i, _⟩ | ⟨e, h, g, i, _⟩ <;> rw [e] <;> simp [h] <;> first | exact Or.inl g | exact Or.inr i | exact ⟨g, i⟩
theorem k45 (c : Int32) : c = 45 ↔ kdn c = 2 := by
  constructor
  · rintro rfl; decide
  · intro q
    rcases kdn_cases c with ⟨e, h⟩ | ⟨e, h, g⟩ | ⟨e, h, g, i⟩ | ⟨e, h, g, i, _⟩ | ⟨e, h, g, i, _⟩ <;> first | exact i | (rw [e] at q; cases q)
theorem k58 (c : Int32) : c = 58 ↔ kdn c = 3 := by
  constructor
  · rintro rfl; decide
  · intro q
    rcases kdn_cases c with ⟨e, h⟩ | ⟨e, h, g⟩ | ⟨e, h, g, i⟩ | ⟨e, h, g, i, j⟩ | ⟨e, h, g, i, _⟩ <;> first | exact j | (rw [e] at q; cases q)
theorem gd9 {cs : List Int32} {j : Nat} (h : j < cs.length) : (cs.map kdn).getD j 9 = kdn (cs.getD j 0) := by
  simp [List.getD_eq_getElem?_getD, h]
theorem hld_iff {cs : List Int32} {s e t : Nat} {L : Int32} {ds : List Int32} (hk : ∀ c, okc L ds c ↔ kdn c ≤ t) (he : e ≤ cs.length) : Hld cs s e L ds ↔ hldB (cs.map kdn) s e t = true := by
  unfold Hld hldB
  rw [List.all_eq_true]
  constructor
  · intro h j hj
    have hj := List.mem_range.mp hj
    rw [Bool.or_eq_true, decide_eq_true_iff, decide_eq_true_iff]
    by_cases q : j < s
    · exact Or.inl q
    · rw [gd9 (by omega)]; exact Or.inr ((hk _).mp (h j (by omega) hj))
  · intro h j h1 h2
    have q := h j (List.mem_range.mpr h2)
    rw [gd9 (by omega), Bool.or_eq_true, decide_eq_true_iff, decide_eq_true_iff] at q
    exact (hk _).mpr (q.resolve_left (by omega))
theorem lastO_none {p : Nat → Bool} {ks : List Nat} : ∀ n, (∀ j, j < n → ¬ p (ks.getD j 9) = true) → lastO p ks n = none
  | 0, _ => rfl
  | n + 1, h => by
    rw [lastO, if_neg (h n (Nat.lt_succ_self n))]
    exact lastO_none n fun j hj => h j (by omega)
theorem lastO_some {p : Nat → Bool} {ks : List Nat} {i : Nat} (hp : p (ks.getD i 9) = true) : ∀ n, i < n → (∀ j, i < j → j < n → ¬ p (ks.getD j 9) = true) → lastO p ks n = some i
  | 0, h, _ => absurd h (Nat.not_lt_zero i)
  | n + 1, h, g => by
    by_cases e : i = n
    · subst e; rw [lastO, if_pos hp]
    · rw [lastO, if_neg (g n (by omega) (Nat.lt_succ_self n))]
      exact lastO_some hp n (by omega) fun j h1 h2 => g j h1 (by omega)
theorem gd0 {cs : List Int32} {j : Nat} (h : j < cs.length) : cs.getD j 0 = cs[j] := by simp [List.getD_eq_getElem?_getD, h]
theorem ver_acc {cs : List Int32} {co hy : Option Nat} (hn : cs.length ≤ 5) (hF : First cs 58 co) (hL : Last cs 45 hy) : Ver cs co hy ↔ acc (run cs 0) := by
  have e1 : (cs.map kdn).findIdx? (· == 3) = co := by
    cases co with
    | none =>
      refine List.findIdx?_eq_none_iff.mpr fun x hx => ?_
      obtain ⟨c, hc, rfl⟩ := List.mem_map.mp hx
      have hF : (58 : Int32) ∉ cs := hF
      have : ¬ kdn c = 3 := fun q => hF ((k58 c).mpr q ▸ hc)
      simp [this]
    | some i =>
      obtain ⟨h1, h2, h3⟩ := (hF : i < cs.length ∧ cs.getD i 0 = 58 ∧ ∀ j, j < i → ¬ cs.getD j 0 = 58)
      refine List.findIdx?_eq_some_iff_getElem.mpr ⟨by simpa using h1, ?_, fun j hj => ?_⟩
      · rw [gd0 h1] at h2; simp [(k58 _).mp h2]
      · have q := h3 j hj
        rw [gd0 (by omega), k58] at q; simp [q]
  have e2 : lastO (· == 2) (cs.map kdn) (cs.map kdn).length = hy := by
    rw [List.length_map]
    cases hy with
    | none =>
      have hL : ∀ j, j < cs.length → ¬ cs.getD j 0 = 45 := hL
      exact lastO_none _ fun j hj => by rw [gd9 hj]; exact fun z => hL j hj ((k45 _).mpr (beq_iff_eq.mp z))
    | some i =>
      obtain ⟨h1, h2, h3⟩ := (hL : i < cs.length ∧ cs.getD i 0 = 45 ∧ ∀ j, i < j → j < cs.length → ¬ cs.getD j 0 = 45)
      exact lastO_some (by rw [gd9 h1]; exact beq_iff_eq.mpr ((k45 _).mp h2)) _ h1 fun j q1 q2 => by rw [gd9 q2]; exact fun z => h3 j q1 q2 ((k45 _).mpr (beq_iff_eq.mp z))
  have e3 : Ver cs co hy ↔ verB (cs.map kdn) = true := by
    show _ ↔ verC (cs.map kdn) _ _ = true
    rw [e1, e2]
    cases co with
    | none => cases hy with
      | none => simp only [Ver, verC, List.length_map, hld_iff okc2 (Nat.le_refl _), Bool.and_eq_true, decide_eq_true_iff]
      | some j =>
        have h1 : j < cs.length := hL.1
        simp only [Ver, verC, List.length_map, hld_iff okc2 (Nat.le_of_lt h1), hld_iff okc1 (Nat.le_refl _), Bool.and_eq_true, decide_eq_true_iff]
    | some i =>
      have h2 : i < cs.length := hF.1
      cases hy with
      | none => simp only [Ver, verC, List.length_map, hld_iff okc0 (Nat.le_of_lt h2), hld_iff okc2 (Nat.le_refl _), Bool.and_eq_true, decide_eq_true_iff]
      | some j =>
        have h1 : j < cs.length := hL.1
        simp only [Ver, verC, List.length_map, hld_iff okc0 (Nat.le_of_lt h2), hld_iff okc2 (Nat.le_of_lt h1), hld_iff okc1 (Nat.le_refl _), Bool.and_eq_true, decide_eq_true_iff]
  have e4 := run_runN cs 0 (by decide)
  rw [e3, auto5 cs.length (by omega) (cs.map kdn) (by have := mem_allL (cs.map kdn) (fun k hk => by obtain ⟨c, _, rfl⟩ := List.mem_map.mp hk; exact kdn_lt c); rwa [List.length_map] at this), ← acc_accB _ e4.2, ← e4.1]
  exact Iff.rfl
theorem run_nil (s : Int32) : run [] s = s := rfl
theorem run_cons (c : Int32) (cs : List Int32) (s : Int32) : run (c :: cs) s = run cs (stp s (kd c)) := rfl
theorem pd13 : parseMethodDescriptor "(ICCCCC)Ljava/lang/String;" = some ⟨[.int, .char, .char, .char, .char, .char], some (.object "java/lang/String")⟩ := by decide +kernel
theorem pd14 : parseMethodDescriptor "(Ljava/lang/String;)Z" = some ⟨[(.object "java/lang/String")], some .boolean⟩ := by decide +kernel
theorem pd15 : parseMethodDescriptor "(IC)I" = some ⟨[.int, .char], some .int⟩ := by decide +kernel
set_option maxRecDepth 65536 in
set_option maxHeartbeats 40000000 in
theorem con_law (l : Launch) (Z : State) (a0 : Array Value) (hw : ∀ d ∈ tables_1, d.before a0 Z = true) (fm : Value) (j0 j1 j2 j3 j4 j5 : Int32) (h0 : Heap) (O0 : Ext Z.heap h0) (hcm : Cpt Z) (SFm : Sta Z Z.heap "jdk/internal/util/Preconditions" "SIOOBE_FORMATTER" "Ljava/util/function/BiFunction;" fm) (rfm : fm.isRef = true) :
    Con l Z consts_1 false x code maxLocals ret tables_1 room_1 #[(.int j0), (.int j1), (.int j2), (.int j3), (.int j4), (.int j5)] [] h0 (fun v h => v = some (.int 1)) := by
  refine Con.intro (Ls := #[.val (.int j0), .val (.int j1), .val (.int j2), .val (.int j3), .val (.int j4), .val (.int j5), .unset, .unset, .unset, .unset, .unset, .unset, .unset, .unset, .unset]) (plainFor_of_name pn2) (own_EL hw) O0 (fun m => by first | (simp [entryFrame, mkF, argsToLocals, Value.category, maxLocals]; done) | rfl) (fun p e s m below meth cc_ T w sf_ => ?_)
  have E0 := ext_refl h0
  obtain ⟨z_, hz_, SC_⟩ := id hcm
  refine g_iloadN w at_0 (q := 1) rfl rfl ?_
  refine g_ldcI w at_1 (q := 3) rfl (v := (2147483647 : Int32)) (Hw hw 0 rfl) ?_
  refine g_iand w at_3 (q := 4) rfl ?_
  refine g_bipush w at_4 (q := 6) rfl (v := (6 : Int32)) (by decide) ?_
  refine g_irem w at_6 (q := 7) rfl (by decide) ?_
  refine g_istore w at_7 (q := 9) rfl (Ls' := #[.val (.int j0), .val (.int j1), .val (.int j2), .val (.int j3), .val (.int j4), .val (.int j5), .val (.int ((j0 &&& (2147483647 : Int32)) % (6 : Int32))), .unset, .unset, .unset, .unset, .unset, .unset, .unset, .unset]) rfl ?_
  have hn6 := mod6 (mask31 j0)
  generalize ((j0 &&& (2147483647 : Int32)) % (6 : Int32)) = n6 at hn6 ⊢
  rcases hn6 with rfl | rfl | rfl | rfl | rfl | rfl
  · show Go p e below _ (State.setTop T (mkF m 9 #[.val (.int j0), .val (.int j1), .val (.int j2), .val (.int j3), .val (.int j4), .val (.int j5), .val (.int (0 : Int32)), .unset, .unset, .unset, .unset, .unset, .unset, .unset, .unset] []))
    refine g_iloadN w at_9 (q := 10) rfl rfl ?_
    refine g_static w (con_pick l Z a0 hw fm j1 _ w.old hcm SFm rfm) no0 at_10 (q := 13) rfl rfl (Hw hw 1 rfl) (Hw hw 2 rfl) (Hw hw 3 rfl) (Hw hw 4 rfl) (by decide) pd7 rfl rfl (W := 0) (Nat.le_of_eq rfl) (by decide) (by decide) (by decide) (by decide) (fun T h v w gs C q => ?_)
    obtain ⟨p1, rfl, l_p1, E⟩ := q
    replace E0 := ext_trans E0 E
    show Go p e below _ (State.setTop T (mkF m 13 #[.val (.int j0), .val (.int j1), .val (.int j2), .val (.int j3), .val (.int j4), .val (.int j5), .val (.int (0 : Int32)), .unset, .unset, .unset, .unset, .unset, .unset, .unset, .unset] [(.int p1)]))
    refine g_istore w at_13 (q := 15) rfl (Ls' := #[.val (.int j0), .val (.int j1), .val (.int j2), .val (.int j3), .val (.int j4), .val (.int j5), .val (.int (0 : Int32)), .val (.int p1), .unset, .unset, .unset, .unset, .unset, .unset, .unset]) rfl ?_
    refine g_iloadN w at_15 (q := 16) rfl rfl ?_
    refine g_static w (con_pick l Z a0 hw fm j2 _ w.old hcm SFm rfm) no0 at_16 (q := 19) rfl rfl (Hw hw 1 rfl) (Hw hw 2 rfl) (Hw hw 3 rfl) (Hw hw 4 rfl) (by decide) pd7 rfl rfl (W := 0) (Nat.le_of_eq rfl) (by decide) (by decide) (by decide) (by decide) (fun T h v w gs C q => ?_)
    obtain ⟨p2, rfl, l_p2, E⟩ := q
    replace E0 := ext_trans E0 E
    show Go p e below _ (State.setTop T (mkF m 19 #[.val (.int j0), .val (.int j1), .val (.int j2), .val (.int j3), .val (.int j4), .val (.int j5), .val (.int (0 : Int32)), .val (.int p1), .unset, .unset, .unset, .unset, .unset, .unset, .unset] [(.int p2)]))
    refine g_istore w at_19 (q := 21) rfl (Ls' := #[.val (.int j0), .val (.int j1), .val (.int j2), .val (.int j3), .val (.int j4), .val (.int j5), .val (.int (0 : Int32)), .val (.int p1), .val (.int p2), .unset, .unset, .unset, .unset, .unset, .unset]) rfl ?_
    refine g_iloadN w at_21 (q := 22) rfl rfl ?_
    refine g_static w (con_pick l Z a0 hw fm j3 _ w.old hcm SFm rfm) no0 at_22 (q := 25) rfl rfl (Hw hw 1 rfl) (Hw hw 2 rfl) (Hw hw 3 rfl) (Hw hw 4 rfl) (by decide) pd7 rfl rfl (W := 0) (Nat.le_of_eq rfl) (by decide) (by decide) (by decide) (by decide) (fun T h v w gs C q => ?_)
    obtain ⟨p3, rfl, l_p3, E⟩ := q
    replace E0 := ext_trans E0 E
    show Go p e below _ (State.setTop T (mkF m 25 #[.val (.int j0), .val (.int j1), .val (.int j2), .val (.int j3), .val (.int j4), .val (.int j5), .val (.int (0 : Int32)), .val (.int p1), .val (.int p2), .unset, .unset, .unset, .unset, .unset, .unset] [(.int p3)]))
    refine g_istore w at_25 (q := 27) rfl (Ls' := #[.val (.int j0), .val (.int j1), .val (.int j2), .val (.int j3), .val (.int j4), .val (.int j5), .val (.int (0 : Int32)), .val (.int p1), .val (.int p2), .val (.int p3), .unset, .unset, .unset, .unset, .unset]) rfl ?_
    refine g_iload w at_27 (q := 29) rfl rfl ?_
    refine g_static w (con_pick l Z a0 hw fm j4 _ w.old hcm SFm rfm) no0 at_29 (q := 32) rfl rfl (Hw hw 1 rfl) (Hw hw 2 rfl) (Hw hw 3 rfl) (Hw hw 4 rfl) (by decide) pd7 rfl rfl (W := 0) (Nat.le_of_eq rfl) (by decide) (by decide) (by decide) (by decide) (fun T h v w gs C q => ?_)
    obtain ⟨p4, rfl, l_p4, E⟩ := q
    replace E0 := ext_trans E0 E
    show Go p e below _ (State.setTop T (mkF m 32 #[.val (.int j0), .val (.int j1), .val (.int j2), .val (.int j3), .val (.int j4), .val (.int j5), .val (.int (0 : Int32)), .val (.int p1), .val (.int p2), .val (.int p3), .unset, .unset, .unset, .unset, .unset] [(.int p4)]))
    refine g_istore w at_32 (q := 34) rfl (Ls' := #[.val (.int j0), .val (.int j1), .val (.int j2), .val (.int j3), .val (.int j4), .val (.int j5), .val (.int (0 : Int32)), .val (.int p1), .val (.int p2), .val (.int p3), .val (.int p4), .unset, .unset, .unset, .unset]) rfl ?_
    refine g_iload w at_34 (q := 36) rfl rfl ?_
    refine g_static w (con_pick l Z a0 hw fm j5 _ w.old hcm SFm rfm) no0 at_36 (q := 39) rfl rfl (Hw hw 1 rfl) (Hw hw 2 rfl) (Hw hw 3 rfl) (Hw hw 4 rfl) (by decide) pd7 rfl rfl (W := 0) (Nat.le_of_eq rfl) (by decide) (by decide) (by decide) (by decide) (fun T h v w gs C q => ?_)
    obtain ⟨p5, rfl, l_p5, E⟩ := q
    replace E0 := ext_trans E0 E
    show Go p e below _ (State.setTop T (mkF m 39 #[.val (.int j0), .val (.int j1), .val (.int j2), .val (.int j3), .val (.int j4), .val (.int j5), .val (.int (0 : Int32)), .val (.int p1), .val (.int p2), .val (.int p3), .val (.int p4), .unset, .unset, .unset, .unset] [(.int p5)]))
    refine g_istore w at_39 (q := 41) rfl (Ls' := #[.val (.int j0), .val (.int j1), .val (.int j2), .val (.int j3), .val (.int j4), .val (.int j5), .val (.int (0 : Int32)), .val (.int p1), .val (.int p2), .val (.int p3), .val (.int p4), .val (.int p5), .unset, .unset, .unset]) rfl ?_
    refine g_iload w at_41 (q := 43) rfl rfl ?_
    refine g_iload w at_43 (q := 45) rfl rfl ?_
    refine g_iload w at_45 (q := 47) rfl rfl ?_
    refine g_iload w at_47 (q := 49) rfl rfl ?_
    refine g_iload w at_49 (q := 51) rfl rfl ?_
    refine g_iload w at_51 (q := 53) rfl rfl ?_
    refine g_static w (con_make l Z a0 hw (0 : Int32) p1 p2 p3 p4 p5 _ w.old l_p1 l_p2 l_p3 l_p4 l_p5 hcm) no0 at_53 (q := 56) rfl rfl (Hw hw 6 rfl) (Hw hw 7 rfl) (Hw hw 3 rfl) (Hw hw 8 rfl) (by decide) pd13 rfl rfl (W := 0) (Nat.le_of_eq rfl) (by decide) (by decide) (by decide) (by decide) (fun T h v w gs C q => ?_)
    obtain ⟨x6, rfl, E, g_x6, S_x6⟩ := q
    replace S_x6 : Sg Z h x6 [] := S_x6
    have z_x6 := Nat.le_trans E0.1 g_x6
    replace E0 := ext_trans E0 E
    show Go p e below _ (State.setTop T (mkF m 56 #[.val (.int j0), .val (.int j1), .val (.int j2), .val (.int j3), .val (.int j4), .val (.int j5), .val (.int (0 : Int32)), .val (.int p1), .val (.int p2), .val (.int p3), .val (.int p4), .val (.int p5), .unset, .unset, .unset] [(.ref x6)]))
    refine g_astore w at_56 (q := 58) rfl rfl (Ls' := #[.val (.int j0), .val (.int j1), .val (.int j2), .val (.int j3), .val (.int j4), .val (.int j5), .val (.int (0 : Int32)), .val (.int p1), .val (.int p2), .val (.int p3), .val (.int p4), .val (.int p5), .val (.ref x6), .unset, .unset]) rfl ?_
    refine g_iconst w at_58 (q := 59) rfl (v := (0 : Int32)) (by decide) ?_
    refine g_istore w at_59 (q := 61) rfl (Ls' := #[.val (.int j0), .val (.int j1), .val (.int j2), .val (.int j3), .val (.int j4), .val (.int j5), .val (.int (0 : Int32)), .val (.int p1), .val (.int p2), .val (.int p3), .val (.int p4), .val (.int p5), .val (.ref x6), .val (.int (0 : Int32)), .unset]) rfl ?_
    refine g_iload w at_61 (q := 63) rfl rfl ?_
    refine g_ifY w at_63 (by decide) (q := 75) (by decide) (by decide) ?_
    refine g_iload w at_75 (q := 77) rfl rfl ?_
    refine g_iconst w at_77 (q := 78) rfl (v := (1 : Int32)) (by decide) ?_
    refine g_icY w at_78 (by decide) (q := 90) (by decide) (by decide) ?_
    refine g_iload w at_90 (q := 92) rfl rfl ?_
    refine g_iconst w at_92 (q := 93) rfl (v := (2 : Int32)) (by decide) ?_
    refine g_icY w at_93 (by decide) (q := 105) (by decide) (by decide) ?_
    refine g_iload w at_105 (q := 107) rfl rfl ?_
    refine g_iconst w at_107 (q := 108) rfl (v := (3 : Int32)) (by decide) ?_
    refine g_icY w at_108 (by decide) (q := 120) (by decide) (by decide) ?_
    refine g_iload w at_120 (q := 122) rfl rfl ?_
    refine g_iconst w at_122 (q := 123) rfl (v := (4 : Int32)) (by decide) ?_
    refine g_icY w at_123 (by decide) (q := 135) (by decide) (by decide) ?_
    refine g_iload w at_135 (q := 137) rfl rfl ?_
    refine g_iconst w at_137 (q := 138) rfl (v := (1 : Int32)) (by decide) ?_
    refine g_icN w at_138 (q := 141) rfl (by decide) ?_
    refine g_iload w at_141 (q := 143) rfl rfl ?_
    refine g_iconst w at_143 (q := 144) rfl (v := (3 : Int32)) (by decide) ?_
    refine g_icN w at_144 (q := 147) rfl (by decide) ?_
    refine g_iload w at_147 (q := 149) rfl rfl ?_
    refine g_bipush w at_149 (q := 151) rfl (v := (6 : Int32)) (by decide) ?_
    refine g_icY w at_151 (by decide) (q := 158) (by decide) (by decide) ?_
    refine g_iconst w at_158 (q := 159) rfl (v := (0 : Int32)) (by decide) ?_
    refine g_istore w at_159 (q := 161) rfl (Ls' := #[.val (.int j0), .val (.int j1), .val (.int j2), .val (.int j3), .val (.int j4), .val (.int j5), .val (.int (0 : Int32)), .val (.int p1), .val (.int p2), .val (.int p3), .val (.int p4), .val (.int p5), .val (.ref x6), .val (.int (0 : Int32)), .val (.int (0 : Int32))]) rfl ?_
    refine g_aload w at_161 (q := 163) rfl rfl rfl ?_
    refine g_static w (con_ver l Z a0 hw fm x6 _ _ w.old S_x6 hcm SFm rfm) no0 at_163 (q := 166) rfl rfl (Hw hw 31 rfl) (Hw hw 32 rfl) (Hw hw 33 rfl) (Hw hw 34 rfl) (by decide) pd14 rfl rfl (W := 0) (Nat.le_of_eq rfl) (by decide) (by decide) (by decide) (by decide) (fun T h v w gs C q => ?_)
    obtain ⟨E, co_, hy_, hF, hL, hv⟩ := q
    replace E0 := ext_trans E0 E
    replace S_x6 := S_x6.ext E
    rcases hv with ⟨rfl, hv⟩ | ⟨rfl, hv⟩
    · exact absurd ((ver_acc (Nat.le_of_ble_eq_true rfl) hF hL).mp hv) (by unfold acc run; decide)
    · show Go p e below _ (State.setTop T (mkF m 166 #[.val (.int j0), .val (.int j1), .val (.int j2), .val (.int j3), .val (.int j4), .val (.int j5), .val (.int (0 : Int32)), .val (.int p1), .val (.int p2), .val (.int p3), .val (.int p4), .val (.int p5), .val (.ref x6), .val (.int (0 : Int32)), .val (.int (0 : Int32))] [(.int (0 : Int32))]))
      refine g_iload w at_166 (q := 168) rfl rfl ?_
      refine g_icN w at_168 (q := 171) rfl (Jvm.Free.XT.ii_ne_f rfl) ?_
      refine g_iconst w at_171 (q := 172) rfl (v := (1 : Int32)) (by decide) ?_
      refine g_goto w at_172 (by decide) (q := 176) (by decide) ?_
      exact g_retn w at_176 rfl (by simp) rfl (by decide) (by decide) rfl
  · show Go p e below _ (State.setTop T (mkF m 9 #[.val (.int j0), .val (.int j1), .val (.int j2), .val (.int j3), .val (.int j4), .val (.int j5), .val (.int (1 : Int32)), .unset, .unset, .unset, .unset, .unset, .unset, .unset, .unset] []))
    refine g_iloadN w at_9 (q := 10) rfl rfl ?_
    refine g_static w (con_pick l Z a0 hw fm j1 _ w.old hcm SFm rfm) no0 at_10 (q := 13) rfl rfl (Hw hw 1 rfl) (Hw hw 2 rfl) (Hw hw 3 rfl) (Hw hw 4 rfl) (by decide) pd7 rfl rfl (W := 0) (Nat.le_of_eq rfl) (by decide) (by decide) (by decide) (by decide) (fun T h v w gs C q => ?_)
    obtain ⟨p16, rfl, l_p16, E⟩ := q
    replace E0 := ext_trans E0 E
    show Go p e below _ (State.setTop T (mkF m 13 #[.val (.int j0), .val (.int j1), .val (.int j2), .val (.int j3), .val (.int j4), .val (.int j5), .val (.int (1 : Int32)), .unset, .unset, .unset, .unset, .unset, .unset, .unset, .unset] [(.int p16)]))
    refine g_istore w at_13 (q := 15) rfl (Ls' := #[.val (.int j0), .val (.int j1), .val (.int j2), .val (.int j3), .val (.int j4), .val (.int j5), .val (.int (1 : Int32)), .val (.int p16), .unset, .unset, .unset, .unset, .unset, .unset, .unset]) rfl ?_
    refine g_iloadN w at_15 (q := 16) rfl rfl ?_
    refine g_static w (con_pick l Z a0 hw fm j2 _ w.old hcm SFm rfm) no0 at_16 (q := 19) rfl rfl (Hw hw 1 rfl) (Hw hw 2 rfl) (Hw hw 3 rfl) (Hw hw 4 rfl) (by decide) pd7 rfl rfl (W := 0) (Nat.le_of_eq rfl) (by decide) (by decide) (by decide) (by decide) (fun T h v w gs C q => ?_)
    obtain ⟨p17, rfl, l_p17, E⟩ := q
    replace E0 := ext_trans E0 E
    show Go p e below _ (State.setTop T (mkF m 19 #[.val (.int j0), .val (.int j1), .val (.int j2), .val (.int j3), .val (.int j4), .val (.int j5), .val (.int (1 : Int32)), .val (.int p16), .unset, .unset, .unset, .unset, .unset, .unset, .unset] [(.int p17)]))
    refine g_istore w at_19 (q := 21) rfl (Ls' := #[.val (.int j0), .val (.int j1), .val (.int j2), .val (.int j3), .val (.int j4), .val (.int j5), .val (.int (1 : Int32)), .val (.int p16), .val (.int p17), .unset, .unset, .unset, .unset, .unset, .unset]) rfl ?_
    refine g_iloadN w at_21 (q := 22) rfl rfl ?_
    refine g_static w (con_pick l Z a0 hw fm j3 _ w.old hcm SFm rfm) no0 at_22 (q := 25) rfl rfl (Hw hw 1 rfl) (Hw hw 2 rfl) (Hw hw 3 rfl) (Hw hw 4 rfl) (by decide) pd7 rfl rfl (W := 0) (Nat.le_of_eq rfl) (by decide) (by decide) (by decide) (by decide) (fun T h v w gs C q => ?_)
    obtain ⟨p18, rfl, l_p18, E⟩ := q
    replace E0 := ext_trans E0 E
    show Go p e below _ (State.setTop T (mkF m 25 #[.val (.int j0), .val (.int j1), .val (.int j2), .val (.int j3), .val (.int j4), .val (.int j5), .val (.int (1 : Int32)), .val (.int p16), .val (.int p17), .unset, .unset, .unset, .unset, .unset, .unset] [(.int p18)]))
    refine g_istore w at_25 (q := 27) rfl (Ls' := #[.val (.int j0), .val (.int j1), .val (.int j2), .val (.int j3), .val (.int j4), .val (.int j5), .val (.int (1 : Int32)), .val (.int p16), .val (.int p17), .val (.int p18), .unset, .unset, .unset, .unset, .unset]) rfl ?_
    refine g_iload w at_27 (q := 29) rfl rfl ?_
    refine g_static w (con_pick l Z a0 hw fm j4 _ w.old hcm SFm rfm) no0 at_29 (q := 32) rfl rfl (Hw hw 1 rfl) (Hw hw 2 rfl) (Hw hw 3 rfl) (Hw hw 4 rfl) (by decide) pd7 rfl rfl (W := 0) (Nat.le_of_eq rfl) (by decide) (by decide) (by decide) (by decide) (fun T h v w gs C q => ?_)
    obtain ⟨p19, rfl, l_p19, E⟩ := q
    replace E0 := ext_trans E0 E
    show Go p e below _ (State.setTop T (mkF m 32 #[.val (.int j0), .val (.int j1), .val (.int j2), .val (.int j3), .val (.int j4), .val (.int j5), .val (.int (1 : Int32)), .val (.int p16), .val (.int p17), .val (.int p18), .unset, .unset, .unset, .unset, .unset] [(.int p19)]))
    refine g_istore w at_32 (q := 34) rfl (Ls' := #[.val (.int j0), .val (.int j1), .val (.int j2), .val (.int j3), .val (.int j4), .val (.int j5), .val (.int (1 : Int32)), .val (.int p16), .val (.int p17), .val (.int p18), .val (.int p19), .unset, .unset, .unset, .unset]) rfl ?_
    refine g_iload w at_34 (q := 36) rfl rfl ?_
    refine g_static w (con_pick l Z a0 hw fm j5 _ w.old hcm SFm rfm) no0 at_36 (q := 39) rfl rfl (Hw hw 1 rfl) (Hw hw 2 rfl) (Hw hw 3 rfl) (Hw hw 4 rfl) (by decide) pd7 rfl rfl (W := 0) (Nat.le_of_eq rfl) (by decide) (by decide) (by decide) (by decide) (fun T h v w gs C q => ?_)
    obtain ⟨p20, rfl, l_p20, E⟩ := q
    replace E0 := ext_trans E0 E
    show Go p e below _ (State.setTop T (mkF m 39 #[.val (.int j0), .val (.int j1), .val (.int j2), .val (.int j3), .val (.int j4), .val (.int j5), .val (.int (1 : Int32)), .val (.int p16), .val (.int p17), .val (.int p18), .val (.int p19), .unset, .unset, .unset, .unset] [(.int p20)]))
    refine g_istore w at_39 (q := 41) rfl (Ls' := #[.val (.int j0), .val (.int j1), .val (.int j2), .val (.int j3), .val (.int j4), .val (.int j5), .val (.int (1 : Int32)), .val (.int p16), .val (.int p17), .val (.int p18), .val (.int p19), .val (.int p20), .unset, .unset, .unset]) rfl ?_
    refine g_iload w at_41 (q := 43) rfl rfl ?_
    refine g_iload w at_43 (q := 45) rfl rfl ?_
    refine g_iload w at_45 (q := 47) rfl rfl ?_
    refine g_iload w at_47 (q := 49) rfl rfl ?_
    refine g_iload w at_49 (q := 51) rfl rfl ?_
    refine g_iload w at_51 (q := 53) rfl rfl ?_
    refine g_static w (con_make l Z a0 hw (1 : Int32) p16 p17 p18 p19 p20 _ w.old l_p16 l_p17 l_p18 l_p19 l_p20 hcm) no0 at_53 (q := 56) rfl rfl (Hw hw 6 rfl) (Hw hw 7 rfl) (Hw hw 3 rfl) (Hw hw 8 rfl) (by decide) pd13 rfl rfl (W := 0) (Nat.le_of_eq rfl) (by decide) (by decide) (by decide) (by decide) (fun T h v w gs C q => ?_)
    obtain ⟨x21, rfl, E, g_x21, S_x21⟩ := q
    replace S_x21 : Sg Z h x21 [p16] := S_x21
    have z_x21 := Nat.le_trans E0.1 g_x21
    replace E0 := ext_trans E0 E
    show Go p e below _ (State.setTop T (mkF m 56 #[.val (.int j0), .val (.int j1), .val (.int j2), .val (.int j3), .val (.int j4), .val (.int j5), .val (.int (1 : Int32)), .val (.int p16), .val (.int p17), .val (.int p18), .val (.int p19), .val (.int p20), .unset, .unset, .unset] [(.ref x21)]))
    refine g_astore w at_56 (q := 58) rfl rfl (Ls' := #[.val (.int j0), .val (.int j1), .val (.int j2), .val (.int j3), .val (.int j4), .val (.int j5), .val (.int (1 : Int32)), .val (.int p16), .val (.int p17), .val (.int p18), .val (.int p19), .val (.int p20), .val (.ref x21), .unset, .unset]) rfl ?_
    refine g_iconst w at_58 (q := 59) rfl (v := (0 : Int32)) (by decide) ?_
    refine g_istore w at_59 (q := 61) rfl (Ls' := #[.val (.int j0), .val (.int j1), .val (.int j2), .val (.int j3), .val (.int j4), .val (.int j5), .val (.int (1 : Int32)), .val (.int p16), .val (.int p17), .val (.int p18), .val (.int p19), .val (.int p20), .val (.ref x21), .val (.int (0 : Int32)), .unset]) rfl ?_
    refine g_iload w at_61 (q := 63) rfl rfl ?_
    refine g_ifN w at_63 (q := 66) rfl (by decide) ?_
    refine g_iload w at_66 (q := 68) rfl rfl ?_
    refine g_iload w at_68 (q := 70) rfl rfl ?_
    refine g_staticP w (con_step l Z a0 hw (0 : Int32) p16 _ w.old) no0 at_70 (q := 73) rfl rfl (Hw hw 99 rfl) (Hw hw 100 rfl) (Hw hw 3 rfl) (Hw hw 101 rfl) (by decide) pd15 rfl rfl (W := 0) (Nat.le_of_eq rfl) (by decide) (by decide) (by decide) (by decide) (fun T v w C q => ?_)
    obtain rfl := q
    obtain ⟨sq23, hsq23⟩ : ∃ s_ : Int32, s_ = stp (0 : Int32) (kd p16) := ⟨_, rfl⟩
    rw [← hsq23]
    show Go p e below _ (State.setTop T (mkF m 73 #[.val (.int j0), .val (.int j1), .val (.int j2), .val (.int j3), .val (.int j4), .val (.int j5), .val (.int (1 : Int32)), .val (.int p16), .val (.int p17), .val (.int p18), .val (.int p19), .val (.int p20), .val (.ref x21), .val (.int (0 : Int32)), .unset] [(.int sq23)]))
    refine g_istore w at_73 (q := 75) rfl (Ls' := #[.val (.int j0), .val (.int j1), .val (.int j2), .val (.int j3), .val (.int j4), .val (.int j5), .val (.int (1 : Int32)), .val (.int p16), .val (.int p17), .val (.int p18), .val (.int p19), .val (.int p20), .val (.ref x21), .val (.int sq23), .unset]) rfl ?_
    refine g_iload w at_75 (q := 77) rfl rfl ?_
    refine g_iconst w at_77 (q := 78) rfl (v := (1 : Int32)) (by decide) ?_
    refine g_icY w at_78 (by decide) (q := 90) (by decide) (Jvm.Free.XT.ii_le_t Int32.lt_irrefl) ?_
    refine g_iload w at_90 (q := 92) rfl rfl ?_
    refine g_iconst w at_92 (q := 93) rfl (v := (2 : Int32)) (by decide) ?_
    refine g_icY w at_93 (by decide) (q := 105) (by decide) (by decide) ?_
    refine g_iload w at_105 (q := 107) rfl rfl ?_
    refine g_iconst w at_107 (q := 108) rfl (v := (3 : Int32)) (by decide) ?_
    refine g_icY w at_108 (by decide) (q := 120) (by decide) (by decide) ?_
    refine g_iload w at_120 (q := 122) rfl rfl ?_
    refine g_iconst w at_122 (q := 123) rfl (v := (4 : Int32)) (by decide) ?_
    refine g_icY w at_123 (by decide) (q := 135) (by decide) (by decide) ?_
    refine g_iload w at_135 (q := 137) rfl rfl ?_
    refine g_iconst w at_137 (q := 138) rfl (v := (1 : Int32)) (by decide) ?_
    refine g_ic_eq w at_138 (by decide) (q := 154) (by decide) (q' := 141) rfl (fun cd28 => ?_) (fun cd28 => ?_)
    · refine g_iconst w at_154 (q := 155) rfl (v := (1 : Int32)) (by decide) ?_
      refine g_goto w at_155 (by decide) (q := 159) (by decide) ?_
      refine g_istore w at_159 (q := 161) rfl (Ls' := #[.val (.int j0), .val (.int j1), .val (.int j2), .val (.int j3), .val (.int j4), .val (.int j5), .val (.int (1 : Int32)), .val (.int p16), .val (.int p17), .val (.int p18), .val (.int p19), .val (.int p20), .val (.ref x21), .val (.int sq23), .val (.int (1 : Int32))]) rfl ?_
      refine g_aload w at_161 (q := 163) rfl rfl rfl ?_
      refine g_static w (con_ver l Z a0 hw fm x21 _ _ w.old S_x21 hcm SFm rfm) no0 at_163 (q := 166) rfl rfl (Hw hw 31 rfl) (Hw hw 32 rfl) (Hw hw 33 rfl) (Hw hw 34 rfl) (by decide) pd14 rfl rfl (W := 0) (Nat.le_of_eq rfl) (by decide) (by decide) (by decide) (by decide) (fun T h v w gs C q => ?_)
      obtain ⟨E, co_, hy_, hF, hL, hv⟩ := q
      replace E0 := ext_trans E0 E
      replace S_x21 := S_x21.ext E
      rcases hv with ⟨rfl, hv⟩ | ⟨rfl, hv⟩
      · show Go p e below _ (State.setTop T (mkF m 166 #[.val (.int j0), .val (.int j1), .val (.int j2), .val (.int j3), .val (.int j4), .val (.int j5), .val (.int (1 : Int32)), .val (.int p16), .val (.int p17), .val (.int p18), .val (.int p19), .val (.int p20), .val (.ref x21), .val (.int sq23), .val (.int (1 : Int32))] [(.int (1 : Int32))]))
        refine g_iload w at_166 (q := 168) rfl rfl ?_
        refine g_icN w at_168 (q := 171) rfl (Jvm.Free.XT.ii_ne_f rfl) ?_
        refine g_iconst w at_171 (q := 172) rfl (v := (1 : Int32)) (by decide) ?_
        refine g_goto w at_172 (by decide) (q := 176) (by decide) ?_
        exact g_retn w at_176 rfl (by simp) rfl (by decide) (by decide) rfl
      · have hr : run [p16] 0 = sq23 := by rw [run_cons, ← hsq23, run_nil]
        have va := (ver_acc (Nat.le_of_ble_eq_true rfl) hF hL)
        rw [hr] at va
        exact absurd (va.mpr (Or.inl cd28)) hv
    · refine g_iload w at_141 (q := 143) rfl rfl ?_
      refine g_iconst w at_143 (q := 144) rfl (v := (3 : Int32)) (by decide) ?_
      refine g_ic_eq w at_144 (by decide) (q := 154) (by decide) (q' := 147) rfl (fun cd30 => ?_) (fun cd30 => ?_)
      · refine g_iconst w at_154 (q := 155) rfl (v := (1 : Int32)) (by decide) ?_
        refine g_goto w at_155 (by decide) (q := 159) (by decide) ?_
        refine g_istore w at_159 (q := 161) rfl (Ls' := #[.val (.int j0), .val (.int j1), .val (.int j2), .val (.int j3), .val (.int j4), .val (.int j5), .val (.int (1 : Int32)), .val (.int p16), .val (.int p17), .val (.int p18), .val (.int p19), .val (.int p20), .val (.ref x21), .val (.int sq23), .val (.int (1 : Int32))]) rfl ?_
        refine g_aload w at_161 (q := 163) rfl rfl rfl ?_
        refine g_static w (con_ver l Z a0 hw fm x21 _ _ w.old S_x21 hcm SFm rfm) no0 at_163 (q := 166) rfl rfl (Hw hw 31 rfl) (Hw hw 32 rfl) (Hw hw 33 rfl) (Hw hw 34 rfl) (by decide) pd14 rfl rfl (W := 0) (Nat.le_of_eq rfl) (by decide) (by decide) (by decide) (by decide) (fun T h v w gs C q => ?_)
        obtain ⟨E, co_, hy_, hF, hL, hv⟩ := q
        replace E0 := ext_trans E0 E
        replace S_x21 := S_x21.ext E
        rcases hv with ⟨rfl, hv⟩ | ⟨rfl, hv⟩
        · show Go p e below _ (State.setTop T (mkF m 166 #[.val (.int j0), .val (.int j1), .val (.int j2), .val (.int j3), .val (.int j4), .val (.int j5), .val (.int (1 : Int32)), .val (.int p16), .val (.int p17), .val (.int p18), .val (.int p19), .val (.int p20), .val (.ref x21), .val (.int sq23), .val (.int (1 : Int32))] [(.int (1 : Int32))]))
          refine g_iload w at_166 (q := 168) rfl rfl ?_
          refine g_icN w at_168 (q := 171) rfl (Jvm.Free.XT.ii_ne_f rfl) ?_
          refine g_iconst w at_171 (q := 172) rfl (v := (1 : Int32)) (by decide) ?_
          refine g_goto w at_172 (by decide) (q := 176) (by decide) ?_
          exact g_retn w at_176 rfl (by simp) rfl (by decide) (by decide) rfl
        · have hr : run [p16] 0 = sq23 := by rw [run_cons, ← hsq23, run_nil]
          have va := (ver_acc (Nat.le_of_ble_eq_true rfl) hF hL)
          rw [hr] at va
          exact absurd (va.mpr (Or.inr (Or.inl cd30))) hv
      · refine g_iload w at_147 (q := 149) rfl rfl ?_
        refine g_bipush w at_149 (q := 151) rfl (v := (6 : Int32)) (by decide) ?_
        refine g_ic_ne w at_151 (by decide) (q := 158) (by decide) (q' := 154) rfl (fun cd32 => ?_) (fun cd32 => ?_)
        · refine g_iconst w at_158 (q := 159) rfl (v := (0 : Int32)) (by decide) ?_
          refine g_istore w at_159 (q := 161) rfl (Ls' := #[.val (.int j0), .val (.int j1), .val (.int j2), .val (.int j3), .val (.int j4), .val (.int j5), .val (.int (1 : Int32)), .val (.int p16), .val (.int p17), .val (.int p18), .val (.int p19), .val (.int p20), .val (.ref x21), .val (.int sq23), .val (.int (0 : Int32))]) rfl ?_
          refine g_aload w at_161 (q := 163) rfl rfl rfl ?_
          refine g_static w (con_ver l Z a0 hw fm x21 _ _ w.old S_x21 hcm SFm rfm) no0 at_163 (q := 166) rfl rfl (Hw hw 31 rfl) (Hw hw 32 rfl) (Hw hw 33 rfl) (Hw hw 34 rfl) (by decide) pd14 rfl rfl (W := 0) (Nat.le_of_eq rfl) (by decide) (by decide) (by decide) (by decide) (fun T h v w gs C q => ?_)
          obtain ⟨E, co_, hy_, hF, hL, hv⟩ := q
          replace E0 := ext_trans E0 E
          replace S_x21 := S_x21.ext E
          rcases hv with ⟨rfl, hv⟩ | ⟨rfl, hv⟩
          · have hr : run [p16] 0 = sq23 := by rw [run_cons, ← hsq23, run_nil]
            have va := (ver_acc (Nat.le_of_ble_eq_true rfl) hF hL)
            rw [hr] at va
            exact absurd (va.mp hv) (fun q => q.elim cd28 (fun q => q.elim cd30 cd32))
          · show Go p e below _ (State.setTop T (mkF m 166 #[.val (.int j0), .val (.int j1), .val (.int j2), .val (.int j3), .val (.int j4), .val (.int j5), .val (.int (1 : Int32)), .val (.int p16), .val (.int p17), .val (.int p18), .val (.int p19), .val (.int p20), .val (.ref x21), .val (.int sq23), .val (.int (0 : Int32))] [(.int (0 : Int32))]))
            refine g_iload w at_166 (q := 168) rfl rfl ?_
            refine g_icN w at_168 (q := 171) rfl (Jvm.Free.XT.ii_ne_f rfl) ?_
            refine g_iconst w at_171 (q := 172) rfl (v := (1 : Int32)) (by decide) ?_
            refine g_goto w at_172 (by decide) (q := 176) (by decide) ?_
            exact g_retn w at_176 rfl (by simp) rfl (by decide) (by decide) rfl
        · refine g_iconst w at_154 (q := 155) rfl (v := (1 : Int32)) (by decide) ?_
          refine g_goto w at_155 (by decide) (q := 159) (by decide) ?_
          refine g_istore w at_159 (q := 161) rfl (Ls' := #[.val (.int j0), .val (.int j1), .val (.int j2), .val (.int j3), .val (.int j4), .val (.int j5), .val (.int (1 : Int32)), .val (.int p16), .val (.int p17), .val (.int p18), .val (.int p19), .val (.int p20), .val (.ref x21), .val (.int sq23), .val (.int (1 : Int32))]) rfl ?_
          refine g_aload w at_161 (q := 163) rfl rfl rfl ?_
          refine g_static w (con_ver l Z a0 hw fm x21 _ _ w.old S_x21 hcm SFm rfm) no0 at_163 (q := 166) rfl rfl (Hw hw 31 rfl) (Hw hw 32 rfl) (Hw hw 33 rfl) (Hw hw 34 rfl) (by decide) pd14 rfl rfl (W := 0) (Nat.le_of_eq rfl) (by decide) (by decide) (by decide) (by decide) (fun T h v w gs C q => ?_)
          obtain ⟨E, co_, hy_, hF, hL, hv⟩ := q
          replace E0 := ext_trans E0 E
          replace S_x21 := S_x21.ext E
          rcases hv with ⟨rfl, hv⟩ | ⟨rfl, hv⟩
          · show Go p e below _ (State.setTop T (mkF m 166 #[.val (.int j0), .val (.int j1), .val (.int j2), .val (.int j3), .val (.int j4), .val (.int j5), .val (.int (1 : Int32)), .val (.int p16), .val (.int p17), .val (.int p18), .val (.int p19), .val (.int p20), .val (.ref x21), .val (.int sq23), .val (.int (1 : Int32))] [(.int (1 : Int32))]))
            refine g_iload w at_166 (q := 168) rfl rfl ?_
            refine g_icN w at_168 (q := 171) rfl (Jvm.Free.XT.ii_ne_f rfl) ?_
            refine g_iconst w at_171 (q := 172) rfl (v := (1 : Int32)) (by decide) ?_
            refine g_goto w at_172 (by decide) (q := 176) (by decide) ?_
            exact g_retn w at_176 rfl (by simp) rfl (by decide) (by decide) rfl
          · have hr : run [p16] 0 = sq23 := by rw [run_cons, ← hsq23, run_nil]
            have va := (ver_acc (Nat.le_of_ble_eq_true rfl) hF hL)
            rw [hr] at va
            exact absurd (va.mpr (Or.inr (Or.inr cd32))) hv
  · show Go p e below _ (State.setTop T (mkF m 9 #[.val (.int j0), .val (.int j1), .val (.int j2), .val (.int j3), .val (.int j4), .val (.int j5), .val (.int (2 : Int32)), .unset, .unset, .unset, .unset, .unset, .unset, .unset, .unset] []))
    refine g_iloadN w at_9 (q := 10) rfl rfl ?_
    refine g_static w (con_pick l Z a0 hw fm j1 _ w.old hcm SFm rfm) no0 at_10 (q := 13) rfl rfl (Hw hw 1 rfl) (Hw hw 2 rfl) (Hw hw 3 rfl) (Hw hw 4 rfl) (by decide) pd7 rfl rfl (W := 0) (Nat.le_of_eq rfl) (by decide) (by decide) (by decide) (by decide) (fun T h v w gs C q => ?_)
    obtain ⟨p35, rfl, l_p35, E⟩ := q
    replace E0 := ext_trans E0 E
    show Go p e below _ (State.setTop T (mkF m 13 #[.val (.int j0), .val (.int j1), .val (.int j2), .val (.int j3), .val (.int j4), .val (.int j5), .val (.int (2 : Int32)), .unset, .unset, .unset, .unset, .unset, .unset, .unset, .unset] [(.int p35)]))
    refine g_istore w at_13 (q := 15) rfl (Ls' := #[.val (.int j0), .val (.int j1), .val (.int j2), .val (.int j3), .val (.int j4), .val (.int j5), .val (.int (2 : Int32)), .val (.int p35), .unset, .unset, .unset, .unset, .unset, .unset, .unset]) rfl ?_
    refine g_iloadN w at_15 (q := 16) rfl rfl ?_
    refine g_static w (con_pick l Z a0 hw fm j2 _ w.old hcm SFm rfm) no0 at_16 (q := 19) rfl rfl (Hw hw 1 rfl) (Hw hw 2 rfl) (Hw hw 3 rfl) (Hw hw 4 rfl) (by decide) pd7 rfl rfl (W := 0) (Nat.le_of_eq rfl) (by decide) (by decide) (by decide) (by decide) (fun T h v w gs C q => ?_)
    obtain ⟨p36, rfl, l_p36, E⟩ := q
    replace E0 := ext_trans E0 E
    show Go p e below _ (State.setTop T (mkF m 19 #[.val (.int j0), .val (.int j1), .val (.int j2), .val (.int j3), .val (.int j4), .val (.int j5), .val (.int (2 : Int32)), .val (.int p35), .unset, .unset, .unset, .unset, .unset, .unset, .unset] [(.int p36)]))
    refine g_istore w at_19 (q := 21) rfl (Ls' := #[.val (.int j0), .val (.int j1), .val (.int j2), .val (.int j3), .val (.int j4), .val (.int j5), .val (.int (2 : Int32)), .val (.int p35), .val (.int p36), .unset, .unset, .unset, .unset, .unset, .unset]) rfl ?_
    refine g_iloadN w at_21 (q := 22) rfl rfl ?_
    refine g_static w (con_pick l Z a0 hw fm j3 _ w.old hcm SFm rfm) no0 at_22 (q := 25) rfl rfl (Hw hw 1 rfl) (Hw hw 2 rfl) (Hw hw 3 rfl) (Hw hw 4 rfl) (by decide) pd7 rfl rfl (W := 0) (Nat.le_of_eq rfl) (by decide) (by decide) (by decide) (by decide) (fun T h v w gs C q => ?_)
    obtain ⟨p37, rfl, l_p37, E⟩ := q
    replace E0 := ext_trans E0 E
    show Go p e below _ (State.setTop T (mkF m 25 #[.val (.int j0), .val (.int j1), .val (.int j2), .val (.int j3), .val (.int j4), .val (.int j5), .val (.int (2 : Int32)), .val (.int p35), .val (.int p36), .unset, .unset, .unset, .unset, .unset, .unset] [(.int p37)]))
    refine g_istore w at_25 (q := 27) rfl (Ls' := #[.val (.int j0), .val (.int j1), .val (.int j2), .val (.int j3), .val (.int j4), .val (.int j5), .val (.int (2 : Int32)), .val (.int p35), .val (.int p36), .val (.int p37), .unset, .unset, .unset, .unset, .unset]) rfl ?_
    refine g_iload w at_27 (q := 29) rfl rfl ?_
    refine g_static w (con_pick l Z a0 hw fm j4 _ w.old hcm SFm rfm) no0 at_29 (q := 32) rfl rfl (Hw hw 1 rfl) (Hw hw 2 rfl) (Hw hw 3 rfl) (Hw hw 4 rfl) (by decide) pd7 rfl rfl (W := 0) (Nat.le_of_eq rfl) (by decide) (by decide) (by decide) (by decide) (fun T h v w gs C q => ?_)
    obtain ⟨p38, rfl, l_p38, E⟩ := q
    replace E0 := ext_trans E0 E
    show Go p e below _ (State.setTop T (mkF m 32 #[.val (.int j0), .val (.int j1), .val (.int j2), .val (.int j3), .val (.int j4), .val (.int j5), .val (.int (2 : Int32)), .val (.int p35), .val (.int p36), .val (.int p37), .unset, .unset, .unset, .unset, .unset] [(.int p38)]))
    refine g_istore w at_32 (q := 34) rfl (Ls' := #[.val (.int j0), .val (.int j1), .val (.int j2), .val (.int j3), .val (.int j4), .val (.int j5), .val (.int (2 : Int32)), .val (.int p35), .val (.int p36), .val (.int p37), .val (.int p38), .unset, .unset, .unset, .unset]) rfl ?_
    refine g_iload w at_34 (q := 36) rfl rfl ?_
    refine g_static w (con_pick l Z a0 hw fm j5 _ w.old hcm SFm rfm) no0 at_36 (q := 39) rfl rfl (Hw hw 1 rfl) (Hw hw 2 rfl) (Hw hw 3 rfl) (Hw hw 4 rfl) (by decide) pd7 rfl rfl (W := 0) (Nat.le_of_eq rfl) (by decide) (by decide) (by decide) (by decide) (fun T h v w gs C q => ?_)
    obtain ⟨p39, rfl, l_p39, E⟩ := q
    replace E0 := ext_trans E0 E
    show Go p e below _ (State.setTop T (mkF m 39 #[.val (.int j0), .val (.int j1), .val (.int j2), .val (.int j3), .val (.int j4), .val (.int j5), .val (.int (2 : Int32)), .val (.int p35), .val (.int p36), .val (.int p37), .val (.int p38), .unset, .unset, .unset, .unset] [(.int p39)]))
    refine g_istore w at_39 (q := 41) rfl (Ls' := #[.val (.int j0), .val (.int j1), .val (.int j2), .val (.int j3), .val (.int j4), .val (.int j5), .val (.int (2 : Int32)), .val (.int p35), .val (.int p36), .val (.int p37), .val (.int p38), .val (.int p39), .unset, .unset, .unset]) rfl ?_
    refine g_iload w at_41 (q := 43) rfl rfl ?_
    refine g_iload w at_43 (q := 45) rfl rfl ?_
    refine g_iload w at_45 (q := 47) rfl rfl ?_
    refine g_iload w at_47 (q := 49) rfl rfl ?_
    refine g_iload w at_49 (q := 51) rfl rfl ?_
    refine g_iload w at_51 (q := 53) rfl rfl ?_
    refine g_static w (con_make l Z a0 hw (2 : Int32) p35 p36 p37 p38 p39 _ w.old l_p35 l_p36 l_p37 l_p38 l_p39 hcm) no0 at_53 (q := 56) rfl rfl (Hw hw 6 rfl) (Hw hw 7 rfl) (Hw hw 3 rfl) (Hw hw 8 rfl) (by decide) pd13 rfl rfl (W := 0) (Nat.le_of_eq rfl) (by decide) (by decide) (by decide) (by decide) (fun T h v w gs C q => ?_)
    obtain ⟨x40, rfl, E, g_x40, S_x40⟩ := q
    replace S_x40 : Sg Z h x40 [p35, p36] := S_x40
    have z_x40 := Nat.le_trans E0.1 g_x40
    replace E0 := ext_trans E0 E
    show Go p e below _ (State.setTop T (mkF m 56 #[.val (.int j0), .val (.int j1), .val (.int j2), .val (.int j3), .val (.int j4), .val (.int j5), .val (.int (2 : Int32)), .val (.int p35), .val (.int p36), .val (.int p37), .val (.int p38), .val (.int p39), .unset, .unset, .unset] [(.ref x40)]))
    refine g_astore w at_56 (q := 58) rfl rfl (Ls' := #[.val (.int j0), .val (.int j1), .val (.int j2), .val (.int j3), .val (.int j4), .val (.int j5), .val (.int (2 : Int32)), .val (.int p35), .val (.int p36), .val (.int p37), .val (.int p38), .val (.int p39), .val (.ref x40), .unset, .unset]) rfl ?_
    refine g_iconst w at_58 (q := 59) rfl (v := (0 : Int32)) (by decide) ?_
    refine g_istore w at_59 (q := 61) rfl (Ls' := #[.val (.int j0), .val (.int j1), .val (.int j2), .val (.int j3), .val (.int j4), .val (.int j5), .val (.int (2 : Int32)), .val (.int p35), .val (.int p36), .val (.int p37), .val (.int p38), .val (.int p39), .val (.ref x40), .val (.int (0 : Int32)), .unset]) rfl ?_
    refine g_iload w at_61 (q := 63) rfl rfl ?_
    refine g_ifN w at_63 (q := 66) rfl (by decide) ?_
    refine g_iload w at_66 (q := 68) rfl rfl ?_
    refine g_iload w at_68 (q := 70) rfl rfl ?_
    refine g_staticP w (con_step l Z a0 hw (0 : Int32) p35 _ w.old) no0 at_70 (q := 73) rfl rfl (Hw hw 99 rfl) (Hw hw 100 rfl) (Hw hw 3 rfl) (Hw hw 101 rfl) (by decide) pd15 rfl rfl (W := 0) (Nat.le_of_eq rfl) (by decide) (by decide) (by decide) (by decide) (fun T v w C q => ?_)
    obtain rfl := q
    obtain ⟨sq42, hsq42⟩ : ∃ s_ : Int32, s_ = stp (0 : Int32) (kd p35) := ⟨_, rfl⟩
    rw [← hsq42]
    show Go p e below _ (State.setTop T (mkF m 73 #[.val (.int j0), .val (.int j1), .val (.int j2), .val (.int j3), .val (.int j4), .val (.int j5), .val (.int (2 : Int32)), .val (.int p35), .val (.int p36), .val (.int p37), .val (.int p38), .val (.int p39), .val (.ref x40), .val (.int (0 : Int32)), .unset] [(.int sq42)]))
    refine g_istore w at_73 (q := 75) rfl (Ls' := #[.val (.int j0), .val (.int j1), .val (.int j2), .val (.int j3), .val (.int j4), .val (.int j5), .val (.int (2 : Int32)), .val (.int p35), .val (.int p36), .val (.int p37), .val (.int p38), .val (.int p39), .val (.ref x40), .val (.int sq42), .unset]) rfl ?_
    refine g_iload w at_75 (q := 77) rfl rfl ?_
    refine g_iconst w at_77 (q := 78) rfl (v := (1 : Int32)) (by decide) ?_
    refine g_icN w at_78 (q := 81) rfl (by decide) ?_
    refine g_iload w at_81 (q := 83) rfl rfl ?_
    refine g_iload w at_83 (q := 85) rfl rfl ?_
    refine g_staticP w (con_step l Z a0 hw sq42 p36 _ w.old) no0 at_85 (q := 88) rfl rfl (Hw hw 99 rfl) (Hw hw 100 rfl) (Hw hw 3 rfl) (Hw hw 101 rfl) (by decide) pd15 rfl rfl (W := 0) (Nat.le_of_eq rfl) (by decide) (by decide) (by decide) (by decide) (fun T v w C q => ?_)
    obtain rfl := q
    obtain ⟨sq44, hsq44⟩ : ∃ s_ : Int32, s_ = stp sq42 (kd p36) := ⟨_, rfl⟩
    rw [← hsq44]
    show Go p e below _ (State.setTop T (mkF m 88 #[.val (.int j0), .val (.int j1), .val (.int j2), .val (.int j3), .val (.int j4), .val (.int j5), .val (.int (2 : Int32)), .val (.int p35), .val (.int p36), .val (.int p37), .val (.int p38), .val (.int p39), .val (.ref x40), .val (.int sq42), .unset] [(.int sq44)]))
    refine g_istore w at_88 (q := 90) rfl (Ls' := #[.val (.int j0), .val (.int j1), .val (.int j2), .val (.int j3), .val (.int j4), .val (.int j5), .val (.int (2 : Int32)), .val (.int p35), .val (.int p36), .val (.int p37), .val (.int p38), .val (.int p39), .val (.ref x40), .val (.int sq44), .unset]) rfl ?_
    refine g_iload w at_90 (q := 92) rfl rfl ?_
    refine g_iconst w at_92 (q := 93) rfl (v := (2 : Int32)) (by decide) ?_
    refine g_icY w at_93 (by decide) (q := 105) (by decide) (Jvm.Free.XT.ii_le_t Int32.lt_irrefl) ?_
    refine g_iload w at_105 (q := 107) rfl rfl ?_
    refine g_iconst w at_107 (q := 108) rfl (v := (3 : Int32)) (by decide) ?_
    refine g_icY w at_108 (by decide) (q := 120) (by decide) (by decide) ?_
    refine g_iload w at_120 (q := 122) rfl rfl ?_
    refine g_iconst w at_122 (q := 123) rfl (v := (4 : Int32)) (by decide) ?_
    refine g_icY w at_123 (by decide) (q := 135) (by decide) (by decide) ?_
    refine g_iload w at_135 (q := 137) rfl rfl ?_
    refine g_iconst w at_137 (q := 138) rfl (v := (1 : Int32)) (by decide) ?_
    refine g_ic_eq w at_138 (by decide) (q := 154) (by decide) (q' := 141) rfl (fun cd48 => ?_) (fun cd48 => ?_)
    · refine g_iconst w at_154 (q := 155) rfl (v := (1 : Int32)) (by decide) ?_
      refine g_goto w at_155 (by decide) (q := 159) (by decide) ?_
      refine g_istore w at_159 (q := 161) rfl (Ls' := #[.val (.int j0), .val (.int j1), .val (.int j2), .val (.int j3), .val (.int j4), .val (.int j5), .val (.int (2 : Int32)), .val (.int p35), .val (.int p36), .val (.int p37), .val (.int p38), .val (.int p39), .val (.ref x40), .val (.int sq44), .val (.int (1 : Int32))]) rfl ?_
      refine g_aload w at_161 (q := 163) rfl rfl rfl ?_
      refine g_static w (con_ver l Z a0 hw fm x40 _ _ w.old S_x40 hcm SFm rfm) no0 at_163 (q := 166) rfl rfl (Hw hw 31 rfl) (Hw hw 32 rfl) (Hw hw 33 rfl) (Hw hw 34 rfl) (by decide) pd14 rfl rfl (W := 0) (Nat.le_of_eq rfl) (by decide) (by decide) (by decide) (by decide) (fun T h v w gs C q => ?_)
      obtain ⟨E, co_, hy_, hF, hL, hv⟩ := q
      replace E0 := ext_trans E0 E
      replace S_x40 := S_x40.ext E
      rcases hv with ⟨rfl, hv⟩ | ⟨rfl, hv⟩
      · show Go p e below _ (State.setTop T (mkF m 166 #[.val (.int j0), .val (.int j1), .val (.int j2), .val (.int j3), .val (.int j4), .val (.int j5), .val (.int (2 : Int32)), .val (.int p35), .val (.int p36), .val (.int p37), .val (.int p38), .val (.int p39), .val (.ref x40), .val (.int sq44), .val (.int (1 : Int32))] [(.int (1 : Int32))]))
        refine g_iload w at_166 (q := 168) rfl rfl ?_
        refine g_icN w at_168 (q := 171) rfl (Jvm.Free.XT.ii_ne_f rfl) ?_
        refine g_iconst w at_171 (q := 172) rfl (v := (1 : Int32)) (by decide) ?_
        refine g_goto w at_172 (by decide) (q := 176) (by decide) ?_
        exact g_retn w at_176 rfl (by simp) rfl (by decide) (by decide) rfl
      · have hr : run [p35, p36] 0 = sq44 := by rw [run_cons, ← hsq42, run_cons, ← hsq44, run_nil]
        have va := (ver_acc (Nat.le_of_ble_eq_true rfl) hF hL)
        rw [hr] at va
        exact absurd (va.mpr (Or.inl cd48)) hv
    · refine g_iload w at_141 (q := 143) rfl rfl ?_
      refine g_iconst w at_143 (q := 144) rfl (v := (3 : Int32)) (by decide) ?_
      refine g_ic_eq w at_144 (by decide) (q := 154) (by decide) (q' := 147) rfl (fun cd50 => ?_) (fun cd50 => ?_)
      · refine g_iconst w at_154 (q := 155) rfl (v := (1 : Int32)) (by decide) ?_
        refine g_goto w at_155 (by decide) (q := 159) (by decide) ?_
        refine g_istore w at_159 (q := 161) rfl (Ls' := #[.val (.int j0), .val (.int j1), .val (.int j2), .val (.int j3), .val (.int j4), .val (.int j5), .val (.int (2 : Int32)), .val (.int p35), .val (.int p36), .val (.int p37), .val (.int p38), .val (.int p39), .val (.ref x40), .val (.int sq44), .val (.int (1 : Int32))]) rfl ?_
        refine g_aload w at_161 (q := 163) rfl rfl rfl ?_
        refine g_static w (con_ver l Z a0 hw fm x40 _ _ w.old S_x40 hcm SFm rfm) no0 at_163 (q := 166) rfl rfl (Hw hw 31 rfl) (Hw hw 32 rfl) (Hw hw 33 rfl) (Hw hw 34 rfl) (by decide) pd14 rfl rfl (W := 0) (Nat.le_of_eq rfl) (by decide) (by decide) (by decide) (by decide) (fun T h v w gs C q => ?_)
        obtain ⟨E, co_, hy_, hF, hL, hv⟩ := q
        replace E0 := ext_trans E0 E
        replace S_x40 := S_x40.ext E
        rcases hv with ⟨rfl, hv⟩ | ⟨rfl, hv⟩
        · show Go p e below _ (State.setTop T (mkF m 166 #[.val (.int j0), .val (.int j1), .val (.int j2), .val (.int j3), .val (.int j4), .val (.int j5), .val (.int (2 : Int32)), .val (.int p35), .val (.int p36), .val (.int p37), .val (.int p38), .val (.int p39), .val (.ref x40), .val (.int sq44), .val (.int (1 : Int32))] [(.int (1 : Int32))]))
          refine g_iload w at_166 (q := 168) rfl rfl ?_
          refine g_icN w at_168 (q := 171) rfl (Jvm.Free.XT.ii_ne_f rfl) ?_
          refine g_iconst w at_171 (q := 172) rfl (v := (1 : Int32)) (by decide) ?_
          refine g_goto w at_172 (by decide) (q := 176) (by decide) ?_
          exact g_retn w at_176 rfl (by simp) rfl (by decide) (by decide) rfl
        · have hr : run [p35, p36] 0 = sq44 := by rw [run_cons, ← hsq42, run_cons, ← hsq44, run_nil]
          have va := (ver_acc (Nat.le_of_ble_eq_true rfl) hF hL)
          rw [hr] at va
          exact absurd (va.mpr (Or.inr (Or.inl cd50))) hv
      · refine g_iload w at_147 (q := 149) rfl rfl ?_
        refine g_bipush w at_149 (q := 151) rfl (v := (6 : Int32)) (by decide) ?_
        refine g_ic_ne w at_151 (by decide) (q := 158) (by decide) (q' := 154) rfl (fun cd52 => ?_) (fun cd52 => ?_)
        · refine g_iconst w at_158 (q := 159) rfl (v := (0 : Int32)) (by decide) ?_
          refine g_istore w at_159 (q := 161) rfl (Ls' := #[.val (.int j0), .val (.int j1), .val (.int j2), .val (.int j3), .val (.int j4), .val (.int j5), .val (.int (2 : Int32)), .val (.int p35), .val (.int p36), .val (.int p37), .val (.int p38), .val (.int p39), .val (.ref x40), .val (.int sq44), .val (.int (0 : Int32))]) rfl ?_
          refine g_aload w at_161 (q := 163) rfl rfl rfl ?_
          refine g_static w (con_ver l Z a0 hw fm x40 _ _ w.old S_x40 hcm SFm rfm) no0 at_163 (q := 166) rfl rfl (Hw hw 31 rfl) (Hw hw 32 rfl) (Hw hw 33 rfl) (Hw hw 34 rfl) (by decide) pd14 rfl rfl (W := 0) (Nat.le_of_eq rfl) (by decide) (by decide) (by decide) (by decide) (fun T h v w gs C q => ?_)
          obtain ⟨E, co_, hy_, hF, hL, hv⟩ := q
          replace E0 := ext_trans E0 E
          replace S_x40 := S_x40.ext E
          rcases hv with ⟨rfl, hv⟩ | ⟨rfl, hv⟩
          · have hr : run [p35, p36] 0 = sq44 := by rw [run_cons, ← hsq42, run_cons, ← hsq44, run_nil]
            have va := (ver_acc (Nat.le_of_ble_eq_true rfl) hF hL)
            rw [hr] at va
            exact absurd (va.mp hv) (fun q => q.elim cd48 (fun q => q.elim cd50 cd52))
          · show Go p e below _ (State.setTop T (mkF m 166 #[.val (.int j0), .val (.int j1), .val (.int j2), .val (.int j3), .val (.int j4), .val (.int j5), .val (.int (2 : Int32)), .val (.int p35), .val (.int p36), .val (.int p37), .val (.int p38), .val (.int p39), .val (.ref x40), .val (.int sq44), .val (.int (0 : Int32))] [(.int (0 : Int32))]))
            refine g_iload w at_166 (q := 168) rfl rfl ?_
            refine g_icN w at_168 (q := 171) rfl (Jvm.Free.XT.ii_ne_f rfl) ?_
            refine g_iconst w at_171 (q := 172) rfl (v := (1 : Int32)) (by decide) ?_
            refine g_goto w at_172 (by decide) (q := 176) (by decide) ?_
            exact g_retn w at_176 rfl (by simp) rfl (by decide) (by decide) rfl
        · refine g_iconst w at_154 (q := 155) rfl (v := (1 : Int32)) (by decide) ?_
          refine g_goto w at_155 (by decide) (q := 159) (by decide) ?_
          refine g_istore w at_159 (q := 161) rfl (Ls' := #[.val (.int j0), .val (.int j1), .val (.int j2), .val (.int j3), .val (.int j4), .val (.int j5), .val (.int (2 : Int32)), .val (.int p35), .val (.int p36), .val (.int p37), .val (.int p38), .val (.int p39), .val (.ref x40), .val (.int sq44), .val (.int (1 : Int32))]) rfl ?_
          refine g_aload w at_161 (q := 163) rfl rfl rfl ?_
          refine g_static w (con_ver l Z a0 hw fm x40 _ _ w.old S_x40 hcm SFm rfm) no0 at_163 (q := 166) rfl rfl (Hw hw 31 rfl) (Hw hw 32 rfl) (Hw hw 33 rfl) (Hw hw 34 rfl) (by decide) pd14 rfl rfl (W := 0) (Nat.le_of_eq rfl) (by decide) (by decide) (by decide) (by decide) (fun T h v w gs C q => ?_)
          obtain ⟨E, co_, hy_, hF, hL, hv⟩ := q
          replace E0 := ext_trans E0 E
          replace S_x40 := S_x40.ext E
          rcases hv with ⟨rfl, hv⟩ | ⟨rfl, hv⟩
          · show Go p e below _ (State.setTop T (mkF m 166 #[.val (.int j0), .val (.int j1), .val (.int j2), .val (.int j3), .val (.int j4), .val (.int j5), .val (.int (2 : Int32)), .val (.int p35), .val (.int p36), .val (.int p37), .val (.int p38), .val (.int p39), .val (.ref x40), .val (.int sq44), .val (.int (1 : Int32))] [(.int (1 : Int32))]))
            refine g_iload w at_166 (q := 168) rfl rfl ?_
            refine g_icN w at_168 (q := 171) rfl (Jvm.Free.XT.ii_ne_f rfl) ?_
            refine g_iconst w at_171 (q := 172) rfl (v := (1 : Int32)) (by decide) ?_
            refine g_goto w at_172 (by decide) (q := 176) (by decide) ?_
            exact g_retn w at_176 rfl (by simp) rfl (by decide) (by decide) rfl
          · have hr : run [p35, p36] 0 = sq44 := by rw [run_cons, ← hsq42, run_cons, ← hsq44, run_nil]
            have va := (ver_acc (Nat.le_of_ble_eq_true rfl) hF hL)
            rw [hr] at va
            exact absurd (va.mpr (Or.inr (Or.inr cd52))) hv
  · show Go p e below _ (State.setTop T (mkF m 9 #[.val (.int j0), .val (.int j1), .val (.int j2), .val (.int j3), .val (.int j4), .val (.int j5), .val (.int (3 : Int32)), .unset, .unset, .unset, .unset, .unset, .unset, .unset, .unset] []))
    refine g_iloadN w at_9 (q := 10) rfl rfl ?_
    refine g_static w (con_pick l Z a0 hw fm j1 _ w.old hcm SFm rfm) no0 at_10 (q := 13) rfl rfl (Hw hw 1 rfl) (Hw hw 2 rfl) (Hw hw 3 rfl) (Hw hw 4 rfl) (by decide) pd7 rfl rfl (W := 0) (Nat.le_of_eq rfl) (by decide) (by decide) (by decide) (by decide) (fun T h v w gs C q => ?_)
    obtain ⟨p55, rfl, l_p55, E⟩ := q
    replace E0 := ext_trans E0 E
    show Go p e below _ (State.setTop T (mkF m 13 #[.val (.int j0), .val (.int j1), .val (.int j2), .val (.int j3), .val (.int j4), .val (.int j5), .val (.int (3 : Int32)), .unset, .unset, .unset, .unset, .unset, .unset, .unset, .unset] [(.int p55)]))
    refine g_istore w at_13 (q := 15) rfl (Ls' := #[.val (.int j0), .val (.int j1), .val (.int j2), .val (.int j3), .val (.int j4), .val (.int j5), .val (.int (3 : Int32)), .val (.int p55), .unset, .unset, .unset, .unset, .unset, .unset, .unset]) rfl ?_
    refine g_iloadN w at_15 (q := 16) rfl rfl ?_
    refine g_static w (con_pick l Z a0 hw fm j2 _ w.old hcm SFm rfm) no0 at_16 (q := 19) rfl rfl (Hw hw 1 rfl) (Hw hw 2 rfl) (Hw hw 3 rfl) (Hw hw 4 rfl) (by decide) pd7 rfl rfl (W := 0) (Nat.le_of_eq rfl) (by decide) (by decide) (by decide) (by decide) (fun T h v w gs C q => ?_)
    obtain ⟨p56, rfl, l_p56, E⟩ := q
    replace E0 := ext_trans E0 E
    show Go p e below _ (State.setTop T (mkF m 19 #[.val (.int j0), .val (.int j1), .val (.int j2), .val (.int j3), .val (.int j4), .val (.int j5), .val (.int (3 : Int32)), .val (.int p55), .unset, .unset, .unset, .unset, .unset, .unset, .unset] [(.int p56)]))
    refine g_istore w at_19 (q := 21) rfl (Ls' := #[.val (.int j0), .val (.int j1), .val (.int j2), .val (.int j3), .val (.int j4), .val (.int j5), .val (.int (3 : Int32)), .val (.int p55), .val (.int p56), .unset, .unset, .unset, .unset, .unset, .unset]) rfl ?_
    refine g_iloadN w at_21 (q := 22) rfl rfl ?_
    refine g_static w (con_pick l Z a0 hw fm j3 _ w.old hcm SFm rfm) no0 at_22 (q := 25) rfl rfl (Hw hw 1 rfl) (Hw hw 2 rfl) (Hw hw 3 rfl) (Hw hw 4 rfl) (by decide) pd7 rfl rfl (W := 0) (Nat.le_of_eq rfl) (by decide) (by decide) (by decide) (by decide) (fun T h v w gs C q => ?_)
    obtain ⟨p57, rfl, l_p57, E⟩ := q
    replace E0 := ext_trans E0 E
    show Go p e below _ (State.setTop T (mkF m 25 #[.val (.int j0), .val (.int j1), .val (.int j2), .val (.int j3), .val (.int j4), .val (.int j5), .val (.int (3 : Int32)), .val (.int p55), .val (.int p56), .unset, .unset, .unset, .unset, .unset, .unset] [(.int p57)]))
    refine g_istore w at_25 (q := 27) rfl (Ls' := #[.val (.int j0), .val (.int j1), .val (.int j2), .val (.int j3), .val (.int j4), .val (.int j5), .val (.int (3 : Int32)), .val (.int p55), .val (.int p56), .val (.int p57), .unset, .unset, .unset, .unset, .unset]) rfl ?_
    refine g_iload w at_27 (q := 29) rfl rfl ?_
    refine g_static w (con_pick l Z a0 hw fm j4 _ w.old hcm SFm rfm) no0 at_29 (q := 32) rfl rfl (Hw hw 1 rfl) (Hw hw 2 rfl) (Hw hw 3 rfl) (Hw hw 4 rfl) (by decide) pd7 rfl rfl (W := 0) (Nat.le_of_eq rfl) (by decide) (by decide) (by decide) (by decide) (fun T h v w gs C q => ?_)
    obtain ⟨p58, rfl, l_p58, E⟩ := q
    replace E0 := ext_trans E0 E
    show Go p e below _ (State.setTop T (mkF m 32 #[.val (.int j0), .val (.int j1), .val (.int j2), .val (.int j3), .val (.int j4), .val (.int j5), .val (.int (3 : Int32)), .val (.int p55), .val (.int p56), .val (.int p57), .unset, .unset, .unset, .unset, .unset] [(.int p58)]))
    refine g_istore w at_32 (q := 34) rfl (Ls' := #[.val (.int j0), .val (.int j1), .val (.int j2), .val (.int j3), .val (.int j4), .val (.int j5), .val (.int (3 : Int32)), .val (.int p55), .val (.int p56), .val (.int p57), .val (.int p58), .unset, .unset, .unset, .unset]) rfl ?_
    refine g_iload w at_34 (q := 36) rfl rfl ?_
    refine g_static w (con_pick l Z a0 hw fm j5 _ w.old hcm SFm rfm) no0 at_36 (q := 39) rfl rfl (Hw hw 1 rfl) (Hw hw 2 rfl) (Hw hw 3 rfl) (Hw hw 4 rfl) (by decide) pd7 rfl rfl (W := 0) (Nat.le_of_eq rfl) (by decide) (by decide) (by decide) (by decide) (fun T h v w gs C q => ?_)
    obtain ⟨p59, rfl, l_p59, E⟩ := q
    replace E0 := ext_trans E0 E
    show Go p e below _ (State.setTop T (mkF m 39 #[.val (.int j0), .val (.int j1), .val (.int j2), .val (.int j3), .val (.int j4), .val (.int j5), .val (.int (3 : Int32)), .val (.int p55), .val (.int p56), .val (.int p57), .val (.int p58), .unset, .unset, .unset, .unset] [(.int p59)]))
    refine g_istore w at_39 (q := 41) rfl (Ls' := #[.val (.int j0), .val (.int j1), .val (.int j2), .val (.int j3), .val (.int j4), .val (.int j5), .val (.int (3 : Int32)), .val (.int p55), .val (.int p56), .val (.int p57), .val (.int p58), .val (.int p59), .unset, .unset, .unset]) rfl ?_
    refine g_iload w at_41 (q := 43) rfl rfl ?_
    refine g_iload w at_43 (q := 45) rfl rfl ?_
    refine g_iload w at_45 (q := 47) rfl rfl ?_
    refine g_iload w at_47 (q := 49) rfl rfl ?_
    refine g_iload w at_49 (q := 51) rfl rfl ?_
    refine g_iload w at_51 (q := 53) rfl rfl ?_
    refine g_static w (con_make l Z a0 hw (3 : Int32) p55 p56 p57 p58 p59 _ w.old l_p55 l_p56 l_p57 l_p58 l_p59 hcm) no0 at_53 (q := 56) rfl rfl (Hw hw 6 rfl) (Hw hw 7 rfl) (Hw hw 3 rfl) (Hw hw 8 rfl) (by decide) pd13 rfl rfl (W := 0) (Nat.le_of_eq rfl) (by decide) (by decide) (by decide) (by decide) (fun T h v w gs C q => ?_)
    obtain ⟨x60, rfl, E, g_x60, S_x60⟩ := q
    replace S_x60 : Sg Z h x60 [p55, p56, p57] := S_x60
    have z_x60 := Nat.le_trans E0.1 g_x60
    replace E0 := ext_trans E0 E
    show Go p e below _ (State.setTop T (mkF m 56 #[.val (.int j0), .val (.int j1), .val (.int j2), .val (.int j3), .val (.int j4), .val (.int j5), .val (.int (3 : Int32)), .val (.int p55), .val (.int p56), .val (.int p57), .val (.int p58), .val (.int p59), .unset, .unset, .unset] [(.ref x60)]))
    refine g_astore w at_56 (q := 58) rfl rfl (Ls' := #[.val (.int j0), .val (.int j1), .val (.int j2), .val (.int j3), .val (.int j4), .val (.int j5), .val (.int (3 : Int32)), .val (.int p55), .val (.int p56), .val (.int p57), .val (.int p58), .val (.int p59), .val (.ref x60), .unset, .unset]) rfl ?_
    refine g_iconst w at_58 (q := 59) rfl (v := (0 : Int32)) (by decide) ?_
    refine g_istore w at_59 (q := 61) rfl (Ls' := #[.val (.int j0), .val (.int j1), .val (.int j2), .val (.int j3), .val (.int j4), .val (.int j5), .val (.int (3 : Int32)), .val (.int p55), .val (.int p56), .val (.int p57), .val (.int p58), .val (.int p59), .val (.ref x60), .val (.int (0 : Int32)), .unset]) rfl ?_
    refine g_iload w at_61 (q := 63) rfl rfl ?_
    refine g_ifN w at_63 (q := 66) rfl (by decide) ?_
    refine g_iload w at_66 (q := 68) rfl rfl ?_
    refine g_iload w at_68 (q := 70) rfl rfl ?_
    refine g_staticP w (con_step l Z a0 hw (0 : Int32) p55 _ w.old) no0 at_70 (q := 73) rfl rfl (Hw hw 99 rfl) (Hw hw 100 rfl) (Hw hw 3 rfl) (Hw hw 101 rfl) (by decide) pd15 rfl rfl (W := 0) (Nat.le_of_eq rfl) (by decide) (by decide) (by decide) (by decide) (fun T v w C q => ?_)
    obtain rfl := q
    obtain ⟨sq62, hsq62⟩ : ∃ s_ : Int32, s_ = stp (0 : Int32) (kd p55) := ⟨_, rfl⟩
    rw [← hsq62]
    show Go p e below _ (State.setTop T (mkF m 73 #[.val (.int j0), .val (.int j1), .val (.int j2), .val (.int j3), .val (.int j4), .val (.int j5), .val (.int (3 : Int32)), .val (.int p55), .val (.int p56), .val (.int p57), .val (.int p58), .val (.int p59), .val (.ref x60), .val (.int (0 : Int32)), .unset] [(.int sq62)]))
    refine g_istore w at_73 (q := 75) rfl (Ls' := #[.val (.int j0), .val (.int j1), .val (.int j2), .val (.int j3), .val (.int j4), .val (.int j5), .val (.int (3 : Int32)), .val (.int p55), .val (.int p56), .val (.int p57), .val (.int p58), .val (.int p59), .val (.ref x60), .val (.int sq62), .unset]) rfl ?_
    refine g_iload w at_75 (q := 77) rfl rfl ?_
    refine g_iconst w at_77 (q := 78) rfl (v := (1 : Int32)) (by decide) ?_
    refine g_icN w at_78 (q := 81) rfl (by decide) ?_
    refine g_iload w at_81 (q := 83) rfl rfl ?_
    refine g_iload w at_83 (q := 85) rfl rfl ?_
    refine g_staticP w (con_step l Z a0 hw sq62 p56 _ w.old) no0 at_85 (q := 88) rfl rfl (Hw hw 99 rfl) (Hw hw 100 rfl) (Hw hw 3 rfl) (Hw hw 101 rfl) (by decide) pd15 rfl rfl (W := 0) (Nat.le_of_eq rfl) (by decide) (by decide) (by decide) (by decide) (fun T v w C q => ?_)
    obtain rfl := q
    obtain ⟨sq64, hsq64⟩ : ∃ s_ : Int32, s_ = stp sq62 (kd p56) := ⟨_, rfl⟩
    rw [← hsq64]
    show Go p e below _ (State.setTop T (mkF m 88 #[.val (.int j0), .val (.int j1), .val (.int j2), .val (.int j3), .val (.int j4), .val (.int j5), .val (.int (3 : Int32)), .val (.int p55), .val (.int p56), .val (.int p57), .val (.int p58), .val (.int p59), .val (.ref x60), .val (.int sq62), .unset] [(.int sq64)]))
    refine g_istore w at_88 (q := 90) rfl (Ls' := #[.val (.int j0), .val (.int j1), .val (.int j2), .val (.int j3), .val (.int j4), .val (.int j5), .val (.int (3 : Int32)), .val (.int p55), .val (.int p56), .val (.int p57), .val (.int p58), .val (.int p59), .val (.ref x60), .val (.int sq64), .unset]) rfl ?_
    refine g_iload w at_90 (q := 92) rfl rfl ?_
    refine g_iconst w at_92 (q := 93) rfl (v := (2 : Int32)) (by decide) ?_
    refine g_icN w at_93 (q := 96) rfl (by decide) ?_
    refine g_iload w at_96 (q := 98) rfl rfl ?_
    refine g_iload w at_98 (q := 100) rfl rfl ?_
    refine g_staticP w (con_step l Z a0 hw sq64 p57 _ w.old) no0 at_100 (q := 103) rfl rfl (Hw hw 99 rfl) (Hw hw 100 rfl) (Hw hw 3 rfl) (Hw hw 101 rfl) (by decide) pd15 rfl rfl (W := 0) (Nat.le_of_eq rfl) (by decide) (by decide) (by decide) (by decide) (fun T v w C q => ?_)
    obtain rfl := q
    obtain ⟨sq66, hsq66⟩ : ∃ s_ : Int32, s_ = stp sq64 (kd p57) := ⟨_, rfl⟩
    rw [← hsq66]
    show Go p e below _ (State.setTop T (mkF m 103 #[.val (.int j0), .val (.int j1), .val (.int j2), .val (.int j3), .val (.int j4), .val (.int j5), .val (.int (3 : Int32)), .val (.int p55), .val (.int p56), .val (.int p57), .val (.int p58), .val (.int p59), .val (.ref x60), .val (.int sq64), .unset] [(.int sq66)]))
    refine g_istore w at_103 (q := 105) rfl (Ls' := #[.val (.int j0), .val (.int j1), .val (.int j2), .val (.int j3), .val (.int j4), .val (.int j5), .val (.int (3 : Int32)), .val (.int p55), .val (.int p56), .val (.int p57), .val (.int p58), .val (.int p59), .val (.ref x60), .val (.int sq66), .unset]) rfl ?_
    refine g_iload w at_105 (q := 107) rfl rfl ?_
    refine g_iconst w at_107 (q := 108) rfl (v := (3 : Int32)) (by decide) ?_
    refine g_icY w at_108 (by decide) (q := 120) (by decide) (Jvm.Free.XT.ii_le_t Int32.lt_irrefl) ?_
    refine g_iload w at_120 (q := 122) rfl rfl ?_
    refine g_iconst w at_122 (q := 123) rfl (v := (4 : Int32)) (by decide) ?_
    refine g_icY w at_123 (by decide) (q := 135) (by decide) (by decide) ?_
    refine g_iload w at_135 (q := 137) rfl rfl ?_
    refine g_iconst w at_137 (q := 138) rfl (v := (1 : Int32)) (by decide) ?_
    refine g_ic_eq w at_138 (by decide) (q := 154) (by decide) (q' := 141) rfl (fun cd69 => ?_) (fun cd69 => ?_)
    · refine g_iconst w at_154 (q := 155) rfl (v := (1 : Int32)) (by decide) ?_
      refine g_goto w at_155 (by decide) (q := 159) (by decide) ?_
      refine g_istore w at_159 (q := 161) rfl (Ls' := #[.val (.int j0), .val (.int j1), .val (.int j2), .val (.int j3), .val (.int j4), .val (.int j5), .val (.int (3 : Int32)), .val (.int p55), .val (.int p56), .val (.int p57), .val (.int p58), .val (.int p59), .val (.ref x60), .val (.int sq66), .val (.int (1 : Int32))]) rfl ?_
      refine g_aload w at_161 (q := 163) rfl rfl rfl ?_
      refine g_static w (con_ver l Z a0 hw fm x60 _ _ w.old S_x60 hcm SFm rfm) no0 at_163 (q := 166) rfl rfl (Hw hw 31 rfl) (Hw hw 32 rfl) (Hw hw 33 rfl) (Hw hw 34 rfl) (by decide) pd14 rfl rfl (W := 0) (Nat.le_of_eq rfl) (by decide) (by decide) (by decide) (by decide) (fun T h v w gs C q => ?_)
      obtain ⟨E, co_, hy_, hF, hL, hv⟩ := q
      replace E0 := ext_trans E0 E
      replace S_x60 := S_x60.ext E
      rcases hv with ⟨rfl, hv⟩ | ⟨rfl, hv⟩
      · show Go p e below _ (State.setTop T (mkF m 166 #[.val (.int j0), .val (.int j1), .val (.int j2), .val (.int j3), .val (.int j4), .val (.int j5), .val (.int (3 : Int32)), .val (.int p55), .val (.int p56), .val (.int p57), .val (.int p58), .val (.int p59), .val (.ref x60), .val (.int sq66), .val (.int (1 : Int32))] [(.int (1 : Int32))]))
        refine g_iload w at_166 (q := 168) rfl rfl ?_
        refine g_icN w at_168 (q := 171) rfl (Jvm.Free.XT.ii_ne_f rfl) ?_
        refine g_iconst w at_171 (q := 172) rfl (v := (1 : Int32)) (by decide) ?_
        refine g_goto w at_172 (by decide) (q := 176) (by decide) ?_
        exact g_retn w at_176 rfl (by simp) rfl (by decide) (by decide) rfl
      · have hr : run [p55, p56, p57] 0 = sq66 := by rw [run_cons, ← hsq62, run_cons, ← hsq64, run_cons, ← hsq66, run_nil]
        have va := (ver_acc (Nat.le_of_ble_eq_true rfl) hF hL)
        rw [hr] at va
        exact absurd (va.mpr (Or.inl cd69)) hv
    · refine g_iload w at_141 (q := 143) rfl rfl ?_
      refine g_iconst w at_143 (q := 144) rfl (v := (3 : Int32)) (by decide) ?_
      refine g_ic_eq w at_144 (by decide) (q := 154) (by decide) (q' := 147) rfl (fun cd71 => ?_) (fun cd71 => ?_)
      · refine g_iconst w at_154 (q := 155) rfl (v := (1 : Int32)) (by decide) ?_
        refine g_goto w at_155 (by decide) (q := 159) (by decide) ?_
        refine g_istore w at_159 (q := 161) rfl (Ls' := #[.val (.int j0), .val (.int j1), .val (.int j2), .val (.int j3), .val (.int j4), .val (.int j5), .val (.int (3 : Int32)), .val (.int p55), .val (.int p56), .val (.int p57), .val (.int p58), .val (.int p59), .val (.ref x60), .val (.int sq66), .val (.int (1 : Int32))]) rfl ?_
        refine g_aload w at_161 (q := 163) rfl rfl rfl ?_
        refine g_static w (con_ver l Z a0 hw fm x60 _ _ w.old S_x60 hcm SFm rfm) no0 at_163 (q := 166) rfl rfl (Hw hw 31 rfl) (Hw hw 32 rfl) (Hw hw 33 rfl) (Hw hw 34 rfl) (by decide) pd14 rfl rfl (W := 0) (Nat.le_of_eq rfl) (by decide) (by decide) (by decide) (by decide) (fun T h v w gs C q => ?_)
        obtain ⟨E, co_, hy_, hF, hL, hv⟩ := q
        replace E0 := ext_trans E0 E
        replace S_x60 := S_x60.ext E
        rcases hv with ⟨rfl, hv⟩ | ⟨rfl, hv⟩
        · show Go p e below _ (State.setTop T (mkF m 166 #[.val (.int j0), .val (.int j1), .val (.int j2), .val (.int j3), .val (.int j4), .val (.int j5), .val (.int (3 : Int32)), .val (.int p55), .val (.int p56), .val (.int p57), .val (.int p58), .val (.int p59), .val (.ref x60), .val (.int sq66), .val (.int (1 : Int32))] [(.int (1 : Int32))]))
          refine g_iload w at_166 (q := 168) rfl rfl ?_
          refine g_icN w at_168 (q := 171) rfl (Jvm.Free.XT.ii_ne_f rfl) ?_
          refine g_iconst w at_171 (q := 172) rfl (v := (1 : Int32)) (by decide) ?_
          refine g_goto w at_172 (by decide) (q := 176) (by decide) ?_
          exact g_retn w at_176 rfl (by simp) rfl (by decide) (by decide) rfl
        · have hr : run [p55, p56, p57] 0 = sq66 := by rw [run_cons, ← hsq62, run_cons, ← hsq64, run_cons, ← hsq66, run_nil]
          have va := (ver_acc (Nat.le_of_ble_eq_true rfl) hF hL)
          rw [hr] at va
          exact absurd (va.mpr (Or.inr (Or.inl cd71))) hv
      · refine g_iload w at_147 (q := 149) rfl rfl ?_
        refine g_bipush w at_149 (q := 151) rfl (v := (6 : Int32)) (by decide) ?_
        refine g_ic_ne w at_151 (by decide) (q := 158) (by decide) (q' := 154) rfl (fun cd73 => ?_) (fun cd73 => ?_)
        · refine g_iconst w at_158 (q := 159) rfl (v := (0 : Int32)) (by decide) ?_
          refine g_istore w at_159 (q := 161) rfl (Ls' := #[.val (.int j0), .val (.int j1), .val (.int j2), .val (.int j3), .val (.int j4), .val (.int j5), .val (.int (3 : Int32)), .val (.int p55), .val (.int p56), .val (.int p57), .val (.int p58), .val (.int p59), .val (.ref x60), .val (.int sq66), .val (.int (0 : Int32))]) rfl ?_
          refine g_aload w at_161 (q := 163) rfl rfl rfl ?_
          refine g_static w (con_ver l Z a0 hw fm x60 _ _ w.old S_x60 hcm SFm rfm) no0 at_163 (q := 166) rfl rfl (Hw hw 31 rfl) (Hw hw 32 rfl) (Hw hw 33 rfl) (Hw hw 34 rfl) (by decide) pd14 rfl rfl (W := 0) (Nat.le_of_eq rfl) (by decide) (by decide) (by decide) (by decide) (fun T h v w gs C q => ?_)
          obtain ⟨E, co_, hy_, hF, hL, hv⟩ := q
          replace E0 := ext_trans E0 E
          replace S_x60 := S_x60.ext E
          rcases hv with ⟨rfl, hv⟩ | ⟨rfl, hv⟩
          · have hr : run [p55, p56, p57] 0 = sq66 := by rw [run_cons, ← hsq62, run_cons, ← hsq64, run_cons, ← hsq66, run_nil]
            have va := (ver_acc (Nat.le_of_ble_eq_true rfl) hF hL)
            rw [hr] at va
            exact absurd (va.mp hv) (fun q => q.elim cd69 (fun q => q.elim cd71 cd73))
          · show Go p e below _ (State.setTop T (mkF m 166 #[.val (.int j0), .val (.int j1), .val (.int j2), .val (.int j3), .val (.int j4), .val (.int j5), .val (.int (3 : Int32)), .val (.int p55), .val (.int p56), .val (.int p57), .val (.int p58), .val (.int p59), .val (.ref x60), .val (.int sq66), .val (.int (0 : Int32))] [(.int (0 : Int32))]))
            refine g_iload w at_166 (q := 168) rfl rfl ?_
            refine g_icN w at_168 (q := 171) rfl (Jvm.Free.XT.ii_ne_f rfl) ?_
            refine g_iconst w at_171 (q := 172) rfl (v := (1 : Int32)) (by decide) ?_
            refine g_goto w at_172 (by decide) (q := 176) (by decide) ?_
            exact g_retn w at_176 rfl (by simp) rfl (by decide) (by decide) rfl
        · refine g_iconst w at_154 (q := 155) rfl (v := (1 : Int32)) (by decide) ?_
          refine g_goto w at_155 (by decide) (q := 159) (by decide) ?_
          refine g_istore w at_159 (q := 161) rfl (Ls' := #[.val (.int j0), .val (.int j1), .val (.int j2), .val (.int j3), .val (.int j4), .val (.int j5), .val (.int (3 : Int32)), .val (.int p55), .val (.int p56), .val (.int p57), .val (.int p58), .val (.int p59), .val (.ref x60), .val (.int sq66), .val (.int (1 : Int32))]) rfl ?_
          refine g_aload w at_161 (q := 163) rfl rfl rfl ?_
          refine g_static w (con_ver l Z a0 hw fm x60 _ _ w.old S_x60 hcm SFm rfm) no0 at_163 (q := 166) rfl rfl (Hw hw 31 rfl) (Hw hw 32 rfl) (Hw hw 33 rfl) (Hw hw 34 rfl) (by decide) pd14 rfl rfl (W := 0) (Nat.le_of_eq rfl) (by decide) (by decide) (by decide) (by decide) (fun T h v w gs C q => ?_)
          obtain ⟨E, co_, hy_, hF, hL, hv⟩ := q
          replace E0 := ext_trans E0 E
          replace S_x60 := S_x60.ext E
          rcases hv with ⟨rfl, hv⟩ | ⟨rfl, hv⟩
          · show Go p e below _ (State.setTop T (mkF m 166 #[.val (.int j0), .val (.int j1), .val (.int j2), .val (.int j3), .val (.int j4), .val (.int j5), .val (.int (3 : Int32)), .val (.int p55), .val (.int p56), .val (.int p57), .val (.int p58), .val (.int p59), .val (.ref x60), .val (.int sq66), .val (.int (1 : Int32))] [(.int (1 : Int32))]))
            refine g_iload w at_166 (q := 168) rfl rfl ?_
            refine g_icN w at_168 (q := 171) rfl (Jvm.Free.XT.ii_ne_f rfl) ?_
            refine g_iconst w at_171 (q := 172) rfl (v := (1 : Int32)) (by decide) ?_
            refine g_goto w at_172 (by decide) (q := 176) (by decide) ?_
            exact g_retn w at_176 rfl (by simp) rfl (by decide) (by decide) rfl
          · have hr : run [p55, p56, p57] 0 = sq66 := by rw [run_cons, ← hsq62, run_cons, ← hsq64, run_cons, ← hsq66, run_nil]
            have va := (ver_acc (Nat.le_of_ble_eq_true rfl) hF hL)
            rw [hr] at va
            exact absurd (va.mpr (Or.inr (Or.inr cd73))) hv
  · show Go p e below _ (State.setTop T (mkF m 9 #[.val (.int j0), .val (.int j1), .val (.int j2), .val (.int j3), .val (.int j4), .val (.int j5), .val (.int (4 : Int32)), .unset, .unset, .unset, .unset, .unset, .unset, .unset, .unset] []))
    refine g_iloadN w at_9 (q := 10) rfl rfl ?_
    refine g_static w (con_pick l Z a0 hw fm j1 _ w.old hcm SFm rfm) no0 at_10 (q := 13) rfl rfl (Hw hw 1 rfl) (Hw hw 2 rfl) (Hw hw 3 rfl) (Hw hw 4 rfl) (by decide) pd7 rfl rfl (W := 0) (Nat.le_of_eq rfl) (by decide) (by decide) (by decide) (by decide) (fun T h v w gs C q => ?_)
    obtain ⟨p76, rfl, l_p76, E⟩ := q
    replace E0 := ext_trans E0 E
    show Go p e below _ (State.setTop T (mkF m 13 #[.val (.int j0), .val (.int j1), .val (.int j2), .val (.int j3), .val (.int j4), .val (.int j5), .val (.int (4 : Int32)), .unset, .unset, .unset, .unset, .unset, .unset, .unset, .unset] [(.int p76)]))
    refine g_istore w at_13 (q := 15) rfl (Ls' := #[.val (.int j0), .val (.int j1), .val (.int j2), .val (.int j3), .val (.int j4), .val (.int j5), .val (.int (4 : Int32)), .val (.int p76), .unset, .unset, .unset, .unset, .unset, .unset, .unset]) rfl ?_
    refine g_iloadN w at_15 (q := 16) rfl rfl ?_
    refine g_static w (con_pick l Z a0 hw fm j2 _ w.old hcm SFm rfm) no0 at_16 (q := 19) rfl rfl (Hw hw 1 rfl) (Hw hw 2 rfl) (Hw hw 3 rfl) (Hw hw 4 rfl) (by decide) pd7 rfl rfl (W := 0) (Nat.le_of_eq rfl) (by decide) (by decide) (by decide) (by decide) (fun T h v w gs C q => ?_)
    obtain ⟨p77, rfl, l_p77, E⟩ := q
    replace E0 := ext_trans E0 E
    show Go p e below _ (State.setTop T (mkF m 19 #[.val (.int j0), .val (.int j1), .val (.int j2), .val (.int j3), .val (.int j4), .val (.int j5), .val (.int (4 : Int32)), .val (.int p76), .unset, .unset, .unset, .unset, .unset, .unset, .unset] [(.int p77)]))
    refine g_istore w at_19 (q := 21) rfl (Ls' := #[.val (.int j0), .val (.int j1), .val (.int j2), .val (.int j3), .val (.int j4), .val (.int j5), .val (.int (4 : Int32)), .val (.int p76), .val (.int p77), .unset, .unset, .unset, .unset, .unset, .unset]) rfl ?_
    refine g_iloadN w at_21 (q := 22) rfl rfl ?_
    refine g_static w (con_pick l Z a0 hw fm j3 _ w.old hcm SFm rfm) no0 at_22 (q := 25) rfl rfl (Hw hw 1 rfl) (Hw hw 2 rfl) (Hw hw 3 rfl) (Hw hw 4 rfl) (by decide) pd7 rfl rfl (W := 0) (Nat.le_of_eq rfl) (by decide) (by decide) (by decide) (by decide) (fun T h v w gs C q => ?_)
    obtain ⟨p78, rfl, l_p78, E⟩ := q
    replace E0 := ext_trans E0 E
    show Go p e below _ (State.setTop T (mkF m 25 #[.val (.int j0), .val (.int j1), .val (.int j2), .val (.int j3), .val (.int j4), .val (.int j5), .val (.int (4 : Int32)), .val (.int p76), .val (.int p77), .unset, .unset, .unset, .unset, .unset, .unset] [(.int p78)]))
    refine g_istore w at_25 (q := 27) rfl (Ls' := #[.val (.int j0), .val (.int j1), .val (.int j2), .val (.int j3), .val (.int j4), .val (.int j5), .val (.int (4 : Int32)), .val (.int p76), .val (.int p77), .val (.int p78), .unset, .unset, .unset, .unset, .unset]) rfl ?_
    refine g_iload w at_27 (q := 29) rfl rfl ?_
    refine g_static w (con_pick l Z a0 hw fm j4 _ w.old hcm SFm rfm) no0 at_29 (q := 32) rfl rfl (Hw hw 1 rfl) (Hw hw 2 rfl) (Hw hw 3 rfl) (Hw hw 4 rfl) (by decide) pd7 rfl rfl (W := 0) (Nat.le_of_eq rfl) (by decide) (by decide) (by decide) (by decide) (fun T h v w gs C q => ?_)
    obtain ⟨p79, rfl, l_p79, E⟩ := q
    replace E0 := ext_trans E0 E
    show Go p e below _ (State.setTop T (mkF m 32 #[.val (.int j0), .val (.int j1), .val (.int j2), .val (.int j3), .val (.int j4), .val (.int j5), .val (.int (4 : Int32)), .val (.int p76), .val (.int p77), .val (.int p78), .unset, .unset, .unset, .unset, .unset] [(.int p79)]))
    refine g_istore w at_32 (q := 34) rfl (Ls' := #[.val (.int j0), .val (.int j1), .val (.int j2), .val (.int j3), .val (.int j4), .val (.int j5), .val (.int (4 : Int32)), .val (.int p76), .val (.int p77), .val (.int p78), .val (.int p79), .unset, .unset, .unset, .unset]) rfl ?_
    refine g_iload w at_34 (q := 36) rfl rfl ?_
    refine g_static w (con_pick l Z a0 hw fm j5 _ w.old hcm SFm rfm) no0 at_36 (q := 39) rfl rfl (Hw hw 1 rfl) (Hw hw 2 rfl) (Hw hw 3 rfl) (Hw hw 4 rfl) (by decide) pd7 rfl rfl (W := 0) (Nat.le_of_eq rfl) (by decide) (by decide) (by decide) (by decide) (fun T h v w gs C q => ?_)
    obtain ⟨p80, rfl, l_p80, E⟩ := q
    replace E0 := ext_trans E0 E
    show Go p e below _ (State.setTop T (mkF m 39 #[.val (.int j0), .val (.int j1), .val (.int j2), .val (.int j3), .val (.int j4), .val (.int j5), .val (.int (4 : Int32)), .val (.int p76), .val (.int p77), .val (.int p78), .val (.int p79), .unset, .unset, .unset, .unset] [(.int p80)]))
    refine g_istore w at_39 (q := 41) rfl (Ls' := #[.val (.int j0), .val (.int j1), .val (.int j2), .val (.int j3), .val (.int j4), .val (.int j5), .val (.int (4 : Int32)), .val (.int p76), .val (.int p77), .val (.int p78), .val (.int p79), .val (.int p80), .unset, .unset, .unset]) rfl ?_
    refine g_iload w at_41 (q := 43) rfl rfl ?_
    refine g_iload w at_43 (q := 45) rfl rfl ?_
    refine g_iload w at_45 (q := 47) rfl rfl ?_
    refine g_iload w at_47 (q := 49) rfl rfl ?_
    refine g_iload w at_49 (q := 51) rfl rfl ?_
    refine g_iload w at_51 (q := 53) rfl rfl ?_
    refine g_static w (con_make l Z a0 hw (4 : Int32) p76 p77 p78 p79 p80 _ w.old l_p76 l_p77 l_p78 l_p79 l_p80 hcm) no0 at_53 (q := 56) rfl rfl (Hw hw 6 rfl) (Hw hw 7 rfl) (Hw hw 3 rfl) (Hw hw 8 rfl) (by decide) pd13 rfl rfl (W := 0) (Nat.le_of_eq rfl) (by decide) (by decide) (by decide) (by decide) (fun T h v w gs C q => ?_)
    obtain ⟨x81, rfl, E, g_x81, S_x81⟩ := q
    replace S_x81 : Sg Z h x81 [p76, p77, p78, p79] := S_x81
    have z_x81 := Nat.le_trans E0.1 g_x81
    replace E0 := ext_trans E0 E
    show Go p e below _ (State.setTop T (mkF m 56 #[.val (.int j0), .val (.int j1), .val (.int j2), .val (.int j3), .val (.int j4), .val (.int j5), .val (.int (4 : Int32)), .val (.int p76), .val (.int p77), .val (.int p78), .val (.int p79), .val (.int p80), .unset, .unset, .unset] [(.ref x81)]))
    refine g_astore w at_56 (q := 58) rfl rfl (Ls' := #[.val (.int j0), .val (.int j1), .val (.int j2), .val (.int j3), .val (.int j4), .val (.int j5), .val (.int (4 : Int32)), .val (.int p76), .val (.int p77), .val (.int p78), .val (.int p79), .val (.int p80), .val (.ref x81), .unset, .unset]) rfl ?_
    refine g_iconst w at_58 (q := 59) rfl (v := (0 : Int32)) (by decide) ?_
    refine g_istore w at_59 (q := 61) rfl (Ls' := #[.val (.int j0), .val (.int j1), .val (.int j2), .val (.int j3), .val (.int j4), .val (.int j5), .val (.int (4 : Int32)), .val (.int p76), .val (.int p77), .val (.int p78), .val (.int p79), .val (.int p80), .val (.ref x81), .val (.int (0 : Int32)), .unset]) rfl ?_
    refine g_iload w at_61 (q := 63) rfl rfl ?_
    refine g_ifN w at_63 (q := 66) rfl (by decide) ?_
    refine g_iload w at_66 (q := 68) rfl rfl ?_
    refine g_iload w at_68 (q := 70) rfl rfl ?_
    refine g_staticP w (con_step l Z a0 hw (0 : Int32) p76 _ w.old) no0 at_70 (q := 73) rfl rfl (Hw hw 99 rfl) (Hw hw 100 rfl) (Hw hw 3 rfl) (Hw hw 101 rfl) (by decide) pd15 rfl rfl (W := 0) (Nat.le_of_eq rfl) (by decide) (by decide) (by decide) (by decide) (fun T v w C q => ?_)
    obtain rfl := q
    obtain ⟨sq83, hsq83⟩ : ∃ s_ : Int32, s_ = stp (0 : Int32) (kd p76) := ⟨_, rfl⟩
    rw [← hsq83]
    show Go p e below _ (State.setTop T (mkF m 73 #[.val (.int j0), .val (.int j1), .val (.int j2), .val (.int j3), .val (.int j4), .val (.int j5), .val (.int (4 : Int32)), .val (.int p76), .val (.int p77), .val (.int p78), .val (.int p79), .val (.int p80), .val (.ref x81), .val (.int (0 : Int32)), .unset] [(.int sq83)]))
    refine g_istore w at_73 (q := 75) rfl (Ls' := #[.val (.int j0), .val (.int j1), .val (.int j2), .val (.int j3), .val (.int j4), .val (.int j5), .val (.int (4 : Int32)), .val (.int p76), .val (.int p77), .val (.int p78), .val (.int p79), .val (.int p80), .val (.ref x81), .val (.int sq83), .unset]) rfl ?_
    refine g_iload w at_75 (q := 77) rfl rfl ?_
    refine g_iconst w at_77 (q := 78) rfl (v := (1 : Int32)) (by decide) ?_
    refine g_icN w at_78 (q := 81) rfl (by decide) ?_
    refine g_iload w at_81 (q := 83) rfl rfl ?_
    refine g_iload w at_83 (q := 85) rfl rfl ?_
    refine g_staticP w (con_step l Z a0 hw sq83 p77 _ w.old) no0 at_85 (q := 88) rfl rfl (Hw hw 99 rfl) (Hw hw 100 rfl) (Hw hw 3 rfl) (Hw hw 101 rfl) (by decide) pd15 rfl rfl (W := 0) (Nat.le_of_eq rfl) (by decide) (by decide) (by decide) (by decide) (fun T v w C q => ?_)
    obtain rfl := q
    obtain ⟨sq85, hsq85⟩ : ∃ s_ : Int32, s_ = stp sq83 (kd p77) := ⟨_, rfl⟩
    rw [← hsq85]
    show Go p e below _ (State.setTop T (mkF m 88 #[.val (.int j0), .val (.int j1), .val (.int j2), .val (.int j3), .val (.int j4), .val (.int j5), .val (.int (4 : Int32)), .val (.int p76), .val (.int p77), .val (.int p78), .val (.int p79), .val (.int p80), .val (.ref x81), .val (.int sq83), .unset] [(.int sq85)]))
    refine g_istore w at_88 (q := 90) rfl (Ls' := #[.val (.int j0), .val (.int j1), .val (.int j2), .val (.int j3), .val (.int j4), .val (.int j5), .val (.int (4 : Int32)), .val (.int p76), .val (.int p77), .val (.int p78), .val (.int p79), .val (.int p80), .val (.ref x81), .val (.int sq85), .unset]) rfl ?_
    refine g_iload w at_90 (q := 92) rfl rfl ?_
    refine g_iconst w at_92 (q := 93) rfl (v := (2 : Int32)) (by decide) ?_
    refine g_icN w at_93 (q := 96) rfl (by decide) ?_
    refine g_iload w at_96 (q := 98) rfl rfl ?_
    refine g_iload w at_98 (q := 100) rfl rfl ?_
    refine g_staticP w (con_step l Z a0 hw sq85 p78 _ w.old) no0 at_100 (q := 103) rfl rfl (Hw hw 99 rfl) (Hw hw 100 rfl) (Hw hw 3 rfl) (Hw hw 101 rfl) (by decide) pd15 rfl rfl (W := 0) (Nat.le_of_eq rfl) (by decide) (by decide) (by decide) (by decide) (fun T v w C q => ?_)
    obtain rfl := q
    obtain ⟨sq87, hsq87⟩ : ∃ s_ : Int32, s_ = stp sq85 (kd p78) := ⟨_, rfl⟩
    rw [← hsq87]
    show Go p e below _ (State.setTop T (mkF m 103 #[.val (.int j0), .val (.int j1), .val (.int j2), .val (.int j3), .val (.int j4), .val (.int j5), .val (.int (4 : Int32)), .val (.int p76), .val (.int p77), .val (.int p78), .val (.int p79), .val (.int p80), .val (.ref x81), .val (.int sq85), .unset] [(.int sq87)]))
    refine g_istore w at_103 (q := 105) rfl (Ls' := #[.val (.int j0), .val (.int j1), .val (.int j2), .val (.int j3), .val (.int j4), .val (.int j5), .val (.int (4 : Int32)), .val (.int p76), .val (.int p77), .val (.int p78), .val (.int p79), .val (.int p80), .val (.ref x81), .val (.int sq87), .unset]) rfl ?_
    refine g_iload w at_105 (q := 107) rfl rfl ?_
    refine g_iconst w at_107 (q := 108) rfl (v := (3 : Int32)) (by decide) ?_
    refine g_icN w at_108 (q := 111) rfl (by decide) ?_
    refine g_iload w at_111 (q := 113) rfl rfl ?_
    refine g_iload w at_113 (q := 115) rfl rfl ?_
    refine g_staticP w (con_step l Z a0 hw sq87 p79 _ w.old) no0 at_115 (q := 118) rfl rfl (Hw hw 99 rfl) (Hw hw 100 rfl) (Hw hw 3 rfl) (Hw hw 101 rfl) (by decide) pd15 rfl rfl (W := 0) (Nat.le_of_eq rfl) (by decide) (by decide) (by decide) (by decide) (fun T v w C q => ?_)
    obtain rfl := q
    obtain ⟨sq89, hsq89⟩ : ∃ s_ : Int32, s_ = stp sq87 (kd p79) := ⟨_, rfl⟩
    rw [← hsq89]
    show Go p e below _ (State.setTop T (mkF m 118 #[.val (.int j0), .val (.int j1), .val (.int j2), .val (.int j3), .val (.int j4), .val (.int j5), .val (.int (4 : Int32)), .val (.int p76), .val (.int p77), .val (.int p78), .val (.int p79), .val (.int p80), .val (.ref x81), .val (.int sq87), .unset] [(.int sq89)]))
    refine g_istore w at_118 (q := 120) rfl (Ls' := #[.val (.int j0), .val (.int j1), .val (.int j2), .val (.int j3), .val (.int j4), .val (.int j5), .val (.int (4 : Int32)), .val (.int p76), .val (.int p77), .val (.int p78), .val (.int p79), .val (.int p80), .val (.ref x81), .val (.int sq89), .unset]) rfl ?_
    refine g_iload w at_120 (q := 122) rfl rfl ?_
    refine g_iconst w at_122 (q := 123) rfl (v := (4 : Int32)) (by decide) ?_
    refine g_icY w at_123 (by decide) (q := 135) (by decide) (Jvm.Free.XT.ii_le_t Int32.lt_irrefl) ?_
    refine g_iload w at_135 (q := 137) rfl rfl ?_
    refine g_iconst w at_137 (q := 138) rfl (v := (1 : Int32)) (by decide) ?_
    refine g_ic_eq w at_138 (by decide) (q := 154) (by decide) (q' := 141) rfl (fun cd91 => ?_) (fun cd91 => ?_)
    · refine g_iconst w at_154 (q := 155) rfl (v := (1 : Int32)) (by decide) ?_
      refine g_goto w at_155 (by decide) (q := 159) (by decide) ?_
      refine g_istore w at_159 (q := 161) rfl (Ls' := #[.val (.int j0), .val (.int j1), .val (.int j2), .val (.int j3), .val (.int j4), .val (.int j5), .val (.int (4 : Int32)), .val (.int p76), .val (.int p77), .val (.int p78), .val (.int p79), .val (.int p80), .val (.ref x81), .val (.int sq89), .val (.int (1 : Int32))]) rfl ?_
      refine g_aload w at_161 (q := 163) rfl rfl rfl ?_
      refine g_static w (con_ver l Z a0 hw fm x81 _ _ w.old S_x81 hcm SFm rfm) no0 at_163 (q := 166) rfl rfl (Hw hw 31 rfl) (Hw hw 32 rfl) (Hw hw 33 rfl) (Hw hw 34 rfl) (by decide) pd14 rfl rfl (W := 0) (Nat.le_of_eq rfl) (by decide) (by decide) (by decide) (by decide) (fun T h v w gs C q => ?_)
      obtain ⟨E, co_, hy_, hF, hL, hv⟩ := q
      replace E0 := ext_trans E0 E
      replace S_x81 := S_x81.ext E
      rcases hv with ⟨rfl, hv⟩ | ⟨rfl, hv⟩
      · show Go p e below _ (State.setTop T (mkF m 166 #[.val (.int j0), .val (.int j1), .val (.int j2), .val (.int j3), .val (.int j4), .val (.int j5), .val (.int (4 : Int32)), .val (.int p76), .val (.int p77), .val (.int p78), .val (.int p79), .val (.int p80), .val (.ref x81), .val (.int sq89), .val (.int (1 : Int32))] [(.int (1 : Int32))]))
        refine g_iload w at_166 (q := 168) rfl rfl ?_
        refine g_icN w at_168 (q := 171) rfl (Jvm.Free.XT.ii_ne_f rfl) ?_
        refine g_iconst w at_171 (q := 172) rfl (v := (1 : Int32)) (by decide) ?_
        refine g_goto w at_172 (by decide) (q := 176) (by decide) ?_
        exact g_retn w at_176 rfl (by simp) rfl (by decide) (by decide) rfl
      · have hr : run [p76, p77, p78, p79] 0 = sq89 := by rw [run_cons, ← hsq83, run_cons, ← hsq85, run_cons, ← hsq87, run_cons, ← hsq89, run_nil]
        have va := (ver_acc (Nat.le_of_ble_eq_true rfl) hF hL)
        rw [hr] at va
        exact absurd (va.mpr (Or.inl cd91)) hv
    · refine g_iload w at_141 (q := 143) rfl rfl ?_
      refine g_iconst w at_143 (q := 144) rfl (v := (3 : Int32)) (by decide) ?_
      refine g_ic_eq w at_144 (by decide) (q := 154) (by decide) (q' := 147) rfl (fun cd93 => ?_) (fun cd93 => ?_)
      · refine g_iconst w at_154 (q := 155) rfl (v := (1 : Int32)) (by decide) ?_
        refine g_goto w at_155 (by decide) (q := 159) (by decide) ?_
        refine g_istore w at_159 (q := 161) rfl (Ls' := #[.val (.int j0), .val (.int j1), .val (.int j2), .val (.int j3), .val (.int j4), .val (.int j5), .val (.int (4 : Int32)), .val (.int p76), .val (.int p77), .val (.int p78), .val (.int p79), .val (.int p80), .val (.ref x81), .val (.int sq89), .val (.int (1 : Int32))]) rfl ?_
        refine g_aload w at_161 (q := 163) rfl rfl rfl ?_
        refine g_static w (con_ver l Z a0 hw fm x81 _ _ w.old S_x81 hcm SFm rfm) no0 at_163 (q := 166) rfl rfl (Hw hw 31 rfl) (Hw hw 32 rfl) (Hw hw 33 rfl) (Hw hw 34 rfl) (by decide) pd14 rfl rfl (W := 0) (Nat.le_of_eq rfl) (by decide) (by decide) (by decide) (by decide) (fun T h v w gs C q => ?_)
        obtain ⟨E, co_, hy_, hF, hL, hv⟩ := q
        replace E0 := ext_trans E0 E
        replace S_x81 := S_x81.ext E
        rcases hv with ⟨rfl, hv⟩ | ⟨rfl, hv⟩
        · show Go p e below _ (State.setTop T (mkF m 166 #[.val (.int j0), .val (.int j1), .val (.int j2), .val (.int j3), .val (.int j4), .val (.int j5), .val (.int (4 : Int32)), .val (.int p76), .val (.int p77), .val (.int p78), .val (.int p79), .val (.int p80), .val (.ref x81), .val (.int sq89), .val (.int (1 : Int32))] [(.int (1 : Int32))]))
          refine g_iload w at_166 (q := 168) rfl rfl ?_
          refine g_icN w at_168 (q := 171) rfl (Jvm.Free.XT.ii_ne_f rfl) ?_
          refine g_iconst w at_171 (q := 172) rfl (v := (1 : Int32)) (by decide) ?_
          refine g_goto w at_172 (by decide) (q := 176) (by decide) ?_
          exact g_retn w at_176 rfl (by simp) rfl (by decide) (by decide) rfl
        · have hr : run [p76, p77, p78, p79] 0 = sq89 := by rw [run_cons, ← hsq83, run_cons, ← hsq85, run_cons, ← hsq87, run_cons, ← hsq89, run_nil]
          have va := (ver_acc (Nat.le_of_ble_eq_true rfl) hF hL)
          rw [hr] at va
          exact absurd (va.mpr (Or.inr (Or.inl cd93))) hv
      · refine g_iload w at_147 (q := 149) rfl rfl ?_
        refine g_bipush w at_149 (q := 151) rfl (v := (6 : Int32)) (by decide) ?_
        refine g_ic_ne w at_151 (by decide) (q := 158) (by decide) (q' := 154) rfl (fun cd95 => ?_) (fun cd95 => ?_)
        · refine g_iconst w at_158 (q := 159) rfl (v := (0 : Int32)) (by decide) ?_
          refine g_istore w at_159 (q := 161) rfl (Ls' := #[.val (.int j0), .val (.int j1), .val (.int j2), .val (.int j3), .val (.int j4), .val (.int j5), .val (.int (4 : Int32)), .val (.int p76), .val (.int p77), .val (.int p78), .val (.int p79), .val (.int p80), .val (.ref x81), .val (.int sq89), .val (.int (0 : Int32))]) rfl ?_
          refine g_aload w at_161 (q := 163) rfl rfl rfl ?_
          refine g_static w (con_ver l Z a0 hw fm x81 _ _ w.old S_x81 hcm SFm rfm) no0 at_163 (q := 166) rfl rfl (Hw hw 31 rfl) (Hw hw 32 rfl) (Hw hw 33 rfl) (Hw hw 34 rfl) (by decide) pd14 rfl rfl (W := 0) (Nat.le_of_eq rfl) (by decide) (by decide) (by decide) (by decide) (fun T h v w gs C q => ?_)
          obtain ⟨E, co_, hy_, hF, hL, hv⟩ := q
          replace E0 := ext_trans E0 E
          replace S_x81 := S_x81.ext E
          rcases hv with ⟨rfl, hv⟩ | ⟨rfl, hv⟩
          · have hr : run [p76, p77, p78, p79] 0 = sq89 := by rw [run_cons, ← hsq83, run_cons, ← hsq85, run_cons, ← hsq87, run_cons, ← hsq89, run_nil]
            have va := (ver_acc (Nat.le_of_ble_eq_true rfl) hF hL)
            rw [hr] at va
            exact absurd (va.mp hv) (fun q => q.elim cd91 (fun q => q.elim cd93 cd95))
          · show Go p e below _ (State.setTop T (mkF m 166 #[.val (.int j0), .val (.int j1), .val (.int j2), .val (.int j3), .val (.int j4), .val (.int j5), .val (.int (4 : Int32)), .val (.int p76), .val (.int p77), .val (.int p78), .val (.int p79), .val (.int p80), .val (.ref x81), .val (.int sq89), .val (.int (0 : Int32))] [(.int (0 : Int32))]))
            refine g_iload w at_166 (q := 168) rfl rfl ?_
            refine g_icN w at_168 (q := 171) rfl (Jvm.Free.XT.ii_ne_f rfl) ?_
            refine g_iconst w at_171 (q := 172) rfl (v := (1 : Int32)) (by decide) ?_
            refine g_goto w at_172 (by decide) (q := 176) (by decide) ?_
            exact g_retn w at_176 rfl (by simp) rfl (by decide) (by decide) rfl
        · refine g_iconst w at_154 (q := 155) rfl (v := (1 : Int32)) (by decide) ?_
          refine g_goto w at_155 (by decide) (q := 159) (by decide) ?_
          refine g_istore w at_159 (q := 161) rfl (Ls' := #[.val (.int j0), .val (.int j1), .val (.int j2), .val (.int j3), .val (.int j4), .val (.int j5), .val (.int (4 : Int32)), .val (.int p76), .val (.int p77), .val (.int p78), .val (.int p79), .val (.int p80), .val (.ref x81), .val (.int sq89), .val (.int (1 : Int32))]) rfl ?_
          refine g_aload w at_161 (q := 163) rfl rfl rfl ?_
          refine g_static w (con_ver l Z a0 hw fm x81 _ _ w.old S_x81 hcm SFm rfm) no0 at_163 (q := 166) rfl rfl (Hw hw 31 rfl) (Hw hw 32 rfl) (Hw hw 33 rfl) (Hw hw 34 rfl) (by decide) pd14 rfl rfl (W := 0) (Nat.le_of_eq rfl) (by decide) (by decide) (by decide) (by decide) (fun T h v w gs C q => ?_)
          obtain ⟨E, co_, hy_, hF, hL, hv⟩ := q
          replace E0 := ext_trans E0 E
          replace S_x81 := S_x81.ext E
          rcases hv with ⟨rfl, hv⟩ | ⟨rfl, hv⟩
          · show Go p e below _ (State.setTop T (mkF m 166 #[.val (.int j0), .val (.int j1), .val (.int j2), .val (.int j3), .val (.int j4), .val (.int j5), .val (.int (4 : Int32)), .val (.int p76), .val (.int p77), .val (.int p78), .val (.int p79), .val (.int p80), .val (.ref x81), .val (.int sq89), .val (.int (1 : Int32))] [(.int (1 : Int32))]))
            refine g_iload w at_166 (q := 168) rfl rfl ?_
            refine g_icN w at_168 (q := 171) rfl (Jvm.Free.XT.ii_ne_f rfl) ?_
            refine g_iconst w at_171 (q := 172) rfl (v := (1 : Int32)) (by decide) ?_
            refine g_goto w at_172 (by decide) (q := 176) (by decide) ?_
            exact g_retn w at_176 rfl (by simp) rfl (by decide) (by decide) rfl
          · have hr : run [p76, p77, p78, p79] 0 = sq89 := by rw [run_cons, ← hsq83, run_cons, ← hsq85, run_cons, ← hsq87, run_cons, ← hsq89, run_nil]
            have va := (ver_acc (Nat.le_of_ble_eq_true rfl) hF hL)
            rw [hr] at va
            exact absurd (va.mpr (Or.inr (Or.inr cd95))) hv
  · show Go p e below _ (State.setTop T (mkF m 9 #[.val (.int j0), .val (.int j1), .val (.int j2), .val (.int j3), .val (.int j4), .val (.int j5), .val (.int (5 : Int32)), .unset, .unset, .unset, .unset, .unset, .unset, .unset, .unset] []))
    refine g_iloadN w at_9 (q := 10) rfl rfl ?_
    refine g_static w (con_pick l Z a0 hw fm j1 _ w.old hcm SFm rfm) no0 at_10 (q := 13) rfl rfl (Hw hw 1 rfl) (Hw hw 2 rfl) (Hw hw 3 rfl) (Hw hw 4 rfl) (by decide) pd7 rfl rfl (W := 0) (Nat.le_of_eq rfl) (by decide) (by decide) (by decide) (by decide) (fun T h v w gs C q => ?_)
    obtain ⟨p98, rfl, l_p98, E⟩ := q
    replace E0 := ext_trans E0 E
    show Go p e below _ (State.setTop T (mkF m 13 #[.val (.int j0), .val (.int j1), .val (.int j2), .val (.int j3), .val (.int j4), .val (.int j5), .val (.int (5 : Int32)), .unset, .unset, .unset, .unset, .unset, .unset, .unset, .unset] [(.int p98)]))
    refine g_istore w at_13 (q := 15) rfl (Ls' := #[.val (.int j0), .val (.int j1), .val (.int j2), .val (.int j3), .val (.int j4), .val (.int j5), .val (.int (5 : Int32)), .val (.int p98), .unset, .unset, .unset, .unset, .unset, .unset, .unset]) rfl ?_
    refine g_iloadN w at_15 (q := 16) rfl rfl ?_
    refine g_static w (con_pick l Z a0 hw fm j2 _ w.old hcm SFm rfm) no0 at_16 (q := 19) rfl rfl (Hw hw 1 rfl) (Hw hw 2 rfl) (Hw hw 3 rfl) (Hw hw 4 rfl) (by decide) pd7 rfl rfl (W := 0) (Nat.le_of_eq rfl) (by decide) (by decide) (by decide) (by decide) (fun T h v w gs C q => ?_)
    obtain ⟨p99, rfl, l_p99, E⟩ := q
    replace E0 := ext_trans E0 E
    show Go p e below _ (State.setTop T (mkF m 19 #[.val (.int j0), .val (.int j1), .val (.int j2), .val (.int j3), .val (.int j4), .val (.int j5), .val (.int (5 : Int32)), .val (.int p98), .unset, .unset, .unset, .unset, .unset, .unset, .unset] [(.int p99)]))
    refine g_istore w at_19 (q := 21) rfl (Ls' := #[.val (.int j0), .val (.int j1), .val (.int j2), .val (.int j3), .val (.int j4), .val (.int j5), .val (.int (5 : Int32)), .val (.int p98), .val (.int p99), .unset, .unset, .unset, .unset, .unset, .unset]) rfl ?_
    refine g_iloadN w at_21 (q := 22) rfl rfl ?_
    refine g_static w (con_pick l Z a0 hw fm j3 _ w.old hcm SFm rfm) no0 at_22 (q := 25) rfl rfl (Hw hw 1 rfl) (Hw hw 2 rfl) (Hw hw 3 rfl) (Hw hw 4 rfl) (by decide) pd7 rfl rfl (W := 0) (Nat.le_of_eq rfl) (by decide) (by decide) (by decide) (by decide) (fun T h v w gs C q => ?_)
    obtain ⟨p100, rfl, l_p100, E⟩ := q
    replace E0 := ext_trans E0 E
    show Go p e below _ (State.setTop T (mkF m 25 #[.val (.int j0), .val (.int j1), .val (.int j2), .val (.int j3), .val (.int j4), .val (.int j5), .val (.int (5 : Int32)), .val (.int p98), .val (.int p99), .unset, .unset, .unset, .unset, .unset, .unset] [(.int p100)]))
    refine g_istore w at_25 (q := 27) rfl (Ls' := #[.val (.int j0), .val (.int j1), .val (.int j2), .val (.int j3), .val (.int j4), .val (.int j5), .val (.int (5 : Int32)), .val (.int p98), .val (.int p99), .val (.int p100), .unset, .unset, .unset, .unset, .unset]) rfl ?_
    refine g_iload w at_27 (q := 29) rfl rfl ?_
    refine g_static w (con_pick l Z a0 hw fm j4 _ w.old hcm SFm rfm) no0 at_29 (q := 32) rfl rfl (Hw hw 1 rfl) (Hw hw 2 rfl) (Hw hw 3 rfl) (Hw hw 4 rfl) (by decide) pd7 rfl rfl (W := 0) (Nat.le_of_eq rfl) (by decide) (by decide) (by decide) (by decide) (fun T h v w gs C q => ?_)
    obtain ⟨p101, rfl, l_p101, E⟩ := q
    replace E0 := ext_trans E0 E
    show Go p e below _ (State.setTop T (mkF m 32 #[.val (.int j0), .val (.int j1), .val (.int j2), .val (.int j3), .val (.int j4), .val (.int j5), .val (.int (5 : Int32)), .val (.int p98), .val (.int p99), .val (.int p100), .unset, .unset, .unset, .unset, .unset] [(.int p101)]))
    refine g_istore w at_32 (q := 34) rfl (Ls' := #[.val (.int j0), .val (.int j1), .val (.int j2), .val (.int j3), .val (.int j4), .val (.int j5), .val (.int (5 : Int32)), .val (.int p98), .val (.int p99), .val (.int p100), .val (.int p101), .unset, .unset, .unset, .unset]) rfl ?_
    refine g_iload w at_34 (q := 36) rfl rfl ?_
    refine g_static w (con_pick l Z a0 hw fm j5 _ w.old hcm SFm rfm) no0 at_36 (q := 39) rfl rfl (Hw hw 1 rfl) (Hw hw 2 rfl) (Hw hw 3 rfl) (Hw hw 4 rfl) (by decide) pd7 rfl rfl (W := 0) (Nat.le_of_eq rfl) (by decide) (by decide) (by decide) (by decide) (fun T h v w gs C q => ?_)
    obtain ⟨p102, rfl, l_p102, E⟩ := q
    replace E0 := ext_trans E0 E
    show Go p e below _ (State.setTop T (mkF m 39 #[.val (.int j0), .val (.int j1), .val (.int j2), .val (.int j3), .val (.int j4), .val (.int j5), .val (.int (5 : Int32)), .val (.int p98), .val (.int p99), .val (.int p100), .val (.int p101), .unset, .unset, .unset, .unset] [(.int p102)]))
    refine g_istore w at_39 (q := 41) rfl (Ls' := #[.val (.int j0), .val (.int j1), .val (.int j2), .val (.int j3), .val (.int j4), .val (.int j5), .val (.int (5 : Int32)), .val (.int p98), .val (.int p99), .val (.int p100), .val (.int p101), .val (.int p102), .unset, .unset, .unset]) rfl ?_
    refine g_iload w at_41 (q := 43) rfl rfl ?_
    refine g_iload w at_43 (q := 45) rfl rfl ?_
    refine g_iload w at_45 (q := 47) rfl rfl ?_
    refine g_iload w at_47 (q := 49) rfl rfl ?_
    refine g_iload w at_49 (q := 51) rfl rfl ?_
    refine g_iload w at_51 (q := 53) rfl rfl ?_
    refine g_static w (con_make l Z a0 hw (5 : Int32) p98 p99 p100 p101 p102 _ w.old l_p98 l_p99 l_p100 l_p101 l_p102 hcm) no0 at_53 (q := 56) rfl rfl (Hw hw 6 rfl) (Hw hw 7 rfl) (Hw hw 3 rfl) (Hw hw 8 rfl) (by decide) pd13 rfl rfl (W := 0) (Nat.le_of_eq rfl) (by decide) (by decide) (by decide) (by decide) (fun T h v w gs C q => ?_)
    obtain ⟨x103, rfl, E, g_x103, S_x103⟩ := q
    replace S_x103 : Sg Z h x103 [p98, p99, p100, p101, p102] := S_x103
    have z_x103 := Nat.le_trans E0.1 g_x103
    replace E0 := ext_trans E0 E
    show Go p e below _ (State.setTop T (mkF m 56 #[.val (.int j0), .val (.int j1), .val (.int j2), .val (.int j3), .val (.int j4), .val (.int j5), .val (.int (5 : Int32)), .val (.int p98), .val (.int p99), .val (.int p100), .val (.int p101), .val (.int p102), .unset, .unset, .unset] [(.ref x103)]))
    refine g_astore w at_56 (q := 58) rfl rfl (Ls' := #[.val (.int j0), .val (.int j1), .val (.int j2), .val (.int j3), .val (.int j4), .val (.int j5), .val (.int (5 : Int32)), .val (.int p98), .val (.int p99), .val (.int p100), .val (.int p101), .val (.int p102), .val (.ref x103), .unset, .unset]) rfl ?_
    refine g_iconst w at_58 (q := 59) rfl (v := (0 : Int32)) (by decide) ?_
    refine g_istore w at_59 (q := 61) rfl (Ls' := #[.val (.int j0), .val (.int j1), .val (.int j2), .val (.int j3), .val (.int j4), .val (.int j5), .val (.int (5 : Int32)), .val (.int p98), .val (.int p99), .val (.int p100), .val (.int p101), .val (.int p102), .val (.ref x103), .val (.int (0 : Int32)), .unset]) rfl ?_
    refine g_iload w at_61 (q := 63) rfl rfl ?_
    refine g_ifN w at_63 (q := 66) rfl (by decide) ?_
    refine g_iload w at_66 (q := 68) rfl rfl ?_
    refine g_iload w at_68 (q := 70) rfl rfl ?_
    refine g_staticP w (con_step l Z a0 hw (0 : Int32) p98 _ w.old) no0 at_70 (q := 73) rfl rfl (Hw hw 99 rfl) (Hw hw 100 rfl) (Hw hw 3 rfl) (Hw hw 101 rfl) (by decide) pd15 rfl rfl (W := 0) (Nat.le_of_eq rfl) (by decide) (by decide) (by decide) (by decide) (fun T v w C q => ?_)
    obtain rfl := q
    obtain ⟨sq105, hsq105⟩ : ∃ s_ : Int32, s_ = stp (0 : Int32) (kd p98) := ⟨_, rfl⟩
    rw [← hsq105]
    show Go p e below _ (State.setTop T (mkF m 73 #[.val (.int j0), .val (.int j1), .val (.int j2), .val (.int j3), .val (.int j4), .val (.int j5), .val (.int (5 : Int32)), .val (.int p98), .val (.int p99), .val (.int p100), .val (.int p101), .val (.int p102), .val (.ref x103), .val (.int (0 : Int32)), .unset] [(.int sq105)]))
    refine g_istore w at_73 (q := 75) rfl (Ls' := #[.val (.int j0), .val (.int j1), .val (.int j2), .val (.int j3), .val (.int j4), .val (.int j5), .val (.int (5 : Int32)), .val (.int p98), .val (.int p99), .val (.int p100), .val (.int p101), .val (.int p102), .val (.ref x103), .val (.int sq105), .unset]) rfl ?_
    refine g_iload w at_75 (q := 77) rfl rfl ?_
    refine g_iconst w at_77 (q := 78) rfl (v := (1 : Int32)) (by decide) ?_
    refine g_icN w at_78 (q := 81) rfl (by decide) ?_
    refine g_iload w at_81 (q := 83) rfl rfl ?_
    refine g_iload w at_83 (q := 85) rfl rfl ?_
    refine g_staticP w (con_step l Z a0 hw sq105 p99 _ w.old) no0 at_85 (q := 88) rfl rfl (Hw hw 99 rfl) (Hw hw 100 rfl) (Hw hw 3 rfl) (Hw hw 101 rfl) (by decide) pd15 rfl rfl (W := 0) (Nat.le_of_eq rfl) (by decide) (by decide) (by decide) (by decide) (fun T v w C q => ?_)
    obtain rfl := q
    obtain ⟨sq107, hsq107⟩ : ∃ s_ : Int32, s_ = stp sq105 (kd p99) := ⟨_, rfl⟩
    rw [← hsq107]
    show Go p e below _ (State.setTop T (mkF m 88 #[.val (.int j0), .val (.int j1), .val (.int j2), .val (.int j3), .val (.int j4), .val (.int j5), .val (.int (5 : Int32)), .val (.int p98), .val (.int p99), .val (.int p100), .val (.int p101), .val (.int p102), .val (.ref x103), .val (.int sq105), .unset] [(.int sq107)]))
    refine g_istore w at_88 (q := 90) rfl (Ls' := #[.val (.int j0), .val (.int j1), .val (.int j2), .val (.int j3), .val (.int j4), .val (.int j5), .val (.int (5 : Int32)), .val (.int p98), .val (.int p99), .val (.int p100), .val (.int p101), .val (.int p102), .val (.ref x103), .val (.int sq107), .unset]) rfl ?_
    refine g_iload w at_90 (q := 92) rfl rfl ?_
    refine g_iconst w at_92 (q := 93) rfl (v := (2 : Int32)) (by decide) ?_
    refine g_icN w at_93 (q := 96) rfl (by decide) ?_
    refine g_iload w at_96 (q := 98) rfl rfl ?_
    refine g_iload w at_98 (q := 100) rfl rfl ?_
    refine g_staticP w (con_step l Z a0 hw sq107 p100 _ w.old) no0 at_100 (q := 103) rfl rfl (Hw hw 99 rfl) (Hw hw 100 rfl) (Hw hw 3 rfl) (Hw hw 101 rfl) (by decide) pd15 rfl rfl (W := 0) (Nat.le_of_eq rfl) (by decide) (by decide) (by decide) (by decide) (fun T v w C q => ?_)
    obtain rfl := q
    obtain ⟨sq109, hsq109⟩ : ∃ s_ : Int32, s_ = stp sq107 (kd p100) := ⟨_, rfl⟩
    rw [← hsq109]
    show Go p e below _ (State.setTop T (mkF m 103 #[.val (.int j0), .val (.int j1), .val (.int j2), .val (.int j3), .val (.int j4), .val (.int j5), .val (.int (5 : Int32)), .val (.int p98), .val (.int p99), .val (.int p100), .val (.int p101), .val (.int p102), .val (.ref x103), .val (.int sq107), .unset] [(.int sq109)]))
    refine g_istore w at_103 (q := 105) rfl (Ls' := #[.val (.int j0), .val (.int j1), .val (.int j2), .val (.int j3), .val (.int j4), .val (.int j5), .val (.int (5 : Int32)), .val (.int p98), .val (.int p99), .val (.int p100), .val (.int p101), .val (.int p102), .val (.ref x103), .val (.int sq109), .unset]) rfl ?_
    refine g_iload w at_105 (q := 107) rfl rfl ?_
    refine g_iconst w at_107 (q := 108) rfl (v := (3 : Int32)) (by decide) ?_
    refine g_icN w at_108 (q := 111) rfl (by decide) ?_
    refine g_iload w at_111 (q := 113) rfl rfl ?_
    refine g_iload w at_113 (q := 115) rfl rfl ?_
    refine g_staticP w (con_step l Z a0 hw sq109 p101 _ w.old) no0 at_115 (q := 118) rfl rfl (Hw hw 99 rfl) (Hw hw 100 rfl) (Hw hw 3 rfl) (Hw hw 101 rfl) (by decide) pd15 rfl rfl (W := 0) (Nat.le_of_eq rfl) (by decide) (by decide) (by decide) (by decide) (fun T v w C q => ?_)
    obtain rfl := q
    obtain ⟨sq111, hsq111⟩ : ∃ s_ : Int32, s_ = stp sq109 (kd p101) := ⟨_, rfl⟩
    rw [← hsq111]
    show Go p e below _ (State.setTop T (mkF m 118 #[.val (.int j0), .val (.int j1), .val (.int j2), .val (.int j3), .val (.int j4), .val (.int j5), .val (.int (5 : Int32)), .val (.int p98), .val (.int p99), .val (.int p100), .val (.int p101), .val (.int p102), .val (.ref x103), .val (.int sq109), .unset] [(.int sq111)]))
    refine g_istore w at_118 (q := 120) rfl (Ls' := #[.val (.int j0), .val (.int j1), .val (.int j2), .val (.int j3), .val (.int j4), .val (.int j5), .val (.int (5 : Int32)), .val (.int p98), .val (.int p99), .val (.int p100), .val (.int p101), .val (.int p102), .val (.ref x103), .val (.int sq111), .unset]) rfl ?_
    refine g_iload w at_120 (q := 122) rfl rfl ?_
    refine g_iconst w at_122 (q := 123) rfl (v := (4 : Int32)) (by decide) ?_
    refine g_icN w at_123 (q := 126) rfl (by decide) ?_
    refine g_iload w at_126 (q := 128) rfl rfl ?_
    refine g_iload w at_128 (q := 130) rfl rfl ?_
    refine g_staticP w (con_step l Z a0 hw sq111 p102 _ w.old) no0 at_130 (q := 133) rfl rfl (Hw hw 99 rfl) (Hw hw 100 rfl) (Hw hw 3 rfl) (Hw hw 101 rfl) (by decide) pd15 rfl rfl (W := 0) (Nat.le_of_eq rfl) (by decide) (by decide) (by decide) (by decide) (fun T v w C q => ?_)
    obtain rfl := q
    obtain ⟨sq113, hsq113⟩ : ∃ s_ : Int32, s_ = stp sq111 (kd p102) := ⟨_, rfl⟩
    rw [← hsq113]
    show Go p e below _ (State.setTop T (mkF m 133 #[.val (.int j0), .val (.int j1), .val (.int j2), .val (.int j3), .val (.int j4), .val (.int j5), .val (.int (5 : Int32)), .val (.int p98), .val (.int p99), .val (.int p100), .val (.int p101), .val (.int p102), .val (.ref x103), .val (.int sq111), .unset] [(.int sq113)]))
    refine g_istore w at_133 (q := 135) rfl (Ls' := #[.val (.int j0), .val (.int j1), .val (.int j2), .val (.int j3), .val (.int j4), .val (.int j5), .val (.int (5 : Int32)), .val (.int p98), .val (.int p99), .val (.int p100), .val (.int p101), .val (.int p102), .val (.ref x103), .val (.int sq113), .unset]) rfl ?_
    refine g_iload w at_135 (q := 137) rfl rfl ?_
    refine g_iconst w at_137 (q := 138) rfl (v := (1 : Int32)) (by decide) ?_
    refine g_ic_eq w at_138 (by decide) (q := 154) (by decide) (q' := 141) rfl (fun cd114 => ?_) (fun cd114 => ?_)
    · refine g_iconst w at_154 (q := 155) rfl (v := (1 : Int32)) (by decide) ?_
      refine g_goto w at_155 (by decide) (q := 159) (by decide) ?_
      refine g_istore w at_159 (q := 161) rfl (Ls' := #[.val (.int j0), .val (.int j1), .val (.int j2), .val (.int j3), .val (.int j4), .val (.int j5), .val (.int (5 : Int32)), .val (.int p98), .val (.int p99), .val (.int p100), .val (.int p101), .val (.int p102), .val (.ref x103), .val (.int sq113), .val (.int (1 : Int32))]) rfl ?_
      refine g_aload w at_161 (q := 163) rfl rfl rfl ?_
      refine g_static w (con_ver l Z a0 hw fm x103 _ _ w.old S_x103 hcm SFm rfm) no0 at_163 (q := 166) rfl rfl (Hw hw 31 rfl) (Hw hw 32 rfl) (Hw hw 33 rfl) (Hw hw 34 rfl) (by decide) pd14 rfl rfl (W := 0) (Nat.le_of_eq rfl) (by decide) (by decide) (by decide) (by decide) (fun T h v w gs C q => ?_)
      obtain ⟨E, co_, hy_, hF, hL, hv⟩ := q
      replace E0 := ext_trans E0 E
      replace S_x103 := S_x103.ext E
      rcases hv with ⟨rfl, hv⟩ | ⟨rfl, hv⟩
      · show Go p e below _ (State.setTop T (mkF m 166 #[.val (.int j0), .val (.int j1), .val (.int j2), .val (.int j3), .val (.int j4), .val (.int j5), .val (.int (5 : Int32)), .val (.int p98), .val (.int p99), .val (.int p100), .val (.int p101), .val (.int p102), .val (.ref x103), .val (.int sq113), .val (.int (1 : Int32))] [(.int (1 : Int32))]))
        refine g_iload w at_166 (q := 168) rfl rfl ?_
        refine g_icN w at_168 (q := 171) rfl (Jvm.Free.XT.ii_ne_f rfl) ?_
        refine g_iconst w at_171 (q := 172) rfl (v := (1 : Int32)) (by decide) ?_
        refine g_goto w at_172 (by decide) (q := 176) (by decide) ?_
        exact g_retn w at_176 rfl (by simp) rfl (by decide) (by decide) rfl
      · have hr : run [p98, p99, p100, p101, p102] 0 = sq113 := by rw [run_cons, ← hsq105, run_cons, ← hsq107, run_cons, ← hsq109, run_cons, ← hsq111, run_cons, ← hsq113, run_nil]
        have va := (ver_acc (Nat.le_of_ble_eq_true rfl) hF hL)
        rw [hr] at va
        exact absurd (va.mpr (Or.inl cd114)) hv
    · refine g_iload w at_141 (q := 143) rfl rfl ?_
      refine g_iconst w at_143 (q := 144) rfl (v := (3 : Int32)) (by decide) ?_
      refine g_ic_eq w at_144 (by decide) (q := 154) (by decide) (q' := 147) rfl (fun cd116 => ?_) (fun cd116 => ?_)
      · refine g_iconst w at_154 (q := 155) rfl (v := (1 : Int32)) (by decide) ?_
        refine g_goto w at_155 (by decide) (q := 159) (by decide) ?_
        refine g_istore w at_159 (q := 161) rfl (Ls' := #[.val (.int j0), .val (.int j1), .val (.int j2), .val (.int j3), .val (.int j4), .val (.int j5), .val (.int (5 : Int32)), .val (.int p98), .val (.int p99), .val (.int p100), .val (.int p101), .val (.int p102), .val (.ref x103), .val (.int sq113), .val (.int (1 : Int32))]) rfl ?_
        refine g_aload w at_161 (q := 163) rfl rfl rfl ?_
        refine g_static w (con_ver l Z a0 hw fm x103 _ _ w.old S_x103 hcm SFm rfm) no0 at_163 (q := 166) rfl rfl (Hw hw 31 rfl) (Hw hw 32 rfl) (Hw hw 33 rfl) (Hw hw 34 rfl) (by decide) pd14 rfl rfl (W := 0) (Nat.le_of_eq rfl) (by decide) (by decide) (by decide) (by decide) (fun T h v w gs C q => ?_)
        obtain ⟨E, co_, hy_, hF, hL, hv⟩ := q
        replace E0 := ext_trans E0 E
        replace S_x103 := S_x103.ext E
        rcases hv with ⟨rfl, hv⟩ | ⟨rfl, hv⟩
        · show Go p e below _ (State.setTop T (mkF m 166 #[.val (.int j0), .val (.int j1), .val (.int j2), .val (.int j3), .val (.int j4), .val (.int j5), .val (.int (5 : Int32)), .val (.int p98), .val (.int p99), .val (.int p100), .val (.int p101), .val (.int p102), .val (.ref x103), .val (.int sq113), .val (.int (1 : Int32))] [(.int (1 : Int32))]))
          refine g_iload w at_166 (q := 168) rfl rfl ?_
          refine g_icN w at_168 (q := 171) rfl (Jvm.Free.XT.ii_ne_f rfl) ?_
          refine g_iconst w at_171 (q := 172) rfl (v := (1 : Int32)) (by decide) ?_
          refine g_goto w at_172 (by decide) (q := 176) (by decide) ?_
          exact g_retn w at_176 rfl (by simp) rfl (by decide) (by decide) rfl
        · have hr : run [p98, p99, p100, p101, p102] 0 = sq113 := by rw [run_cons, ← hsq105, run_cons, ← hsq107, run_cons, ← hsq109, run_cons, ← hsq111, run_cons, ← hsq113, run_nil]
          have va := (ver_acc (Nat.le_of_ble_eq_true rfl) hF hL)
          rw [hr] at va
          exact absurd (va.mpr (Or.inr (Or.inl cd116))) hv
      · refine g_iload w at_147 (q := 149) rfl rfl ?_
        refine g_bipush w at_149 (q := 151) rfl (v := (6 : Int32)) (by decide) ?_
        refine g_ic_ne w at_151 (by decide) (q := 158) (by decide) (q' := 154) rfl (fun cd118 => ?_) (fun cd118 => ?_)
        · refine g_iconst w at_158 (q := 159) rfl (v := (0 : Int32)) (by decide) ?_
          refine g_istore w at_159 (q := 161) rfl (Ls' := #[.val (.int j0), .val (.int j1), .val (.int j2), .val (.int j3), .val (.int j4), .val (.int j5), .val (.int (5 : Int32)), .val (.int p98), .val (.int p99), .val (.int p100), .val (.int p101), .val (.int p102), .val (.ref x103), .val (.int sq113), .val (.int (0 : Int32))]) rfl ?_
          refine g_aload w at_161 (q := 163) rfl rfl rfl ?_
          refine g_static w (con_ver l Z a0 hw fm x103 _ _ w.old S_x103 hcm SFm rfm) no0 at_163 (q := 166) rfl rfl (Hw hw 31 rfl) (Hw hw 32 rfl) (Hw hw 33 rfl) (Hw hw 34 rfl) (by decide) pd14 rfl rfl (W := 0) (Nat.le_of_eq rfl) (by decide) (by decide) (by decide) (by decide) (fun T h v w gs C q => ?_)
          obtain ⟨E, co_, hy_, hF, hL, hv⟩ := q
          replace E0 := ext_trans E0 E
          replace S_x103 := S_x103.ext E
          rcases hv with ⟨rfl, hv⟩ | ⟨rfl, hv⟩
          · have hr : run [p98, p99, p100, p101, p102] 0 = sq113 := by rw [run_cons, ← hsq105, run_cons, ← hsq107, run_cons, ← hsq109, run_cons, ← hsq111, run_cons, ← hsq113, run_nil]
            have va := (ver_acc (Nat.le_of_ble_eq_true rfl) hF hL)
            rw [hr] at va
            exact absurd (va.mp hv) (fun q => q.elim cd114 (fun q => q.elim cd116 cd118))
          · show Go p e below _ (State.setTop T (mkF m 166 #[.val (.int j0), .val (.int j1), .val (.int j2), .val (.int j3), .val (.int j4), .val (.int j5), .val (.int (5 : Int32)), .val (.int p98), .val (.int p99), .val (.int p100), .val (.int p101), .val (.int p102), .val (.ref x103), .val (.int sq113), .val (.int (0 : Int32))] [(.int (0 : Int32))]))
            refine g_iload w at_166 (q := 168) rfl rfl ?_
            refine g_icN w at_168 (q := 171) rfl (Jvm.Free.XT.ii_ne_f rfl) ?_
            refine g_iconst w at_171 (q := 172) rfl (v := (1 : Int32)) (by decide) ?_
            refine g_goto w at_172 (by decide) (q := 176) (by decide) ?_
            exact g_retn w at_176 rfl (by simp) rfl (by decide) (by decide) rfl
        · refine g_iconst w at_154 (q := 155) rfl (v := (1 : Int32)) (by decide) ?_
          refine g_goto w at_155 (by decide) (q := 159) (by decide) ?_
          refine g_istore w at_159 (q := 161) rfl (Ls' := #[.val (.int j0), .val (.int j1), .val (.int j2), .val (.int j3), .val (.int j4), .val (.int j5), .val (.int (5 : Int32)), .val (.int p98), .val (.int p99), .val (.int p100), .val (.int p101), .val (.int p102), .val (.ref x103), .val (.int sq113), .val (.int (1 : Int32))]) rfl ?_
          refine g_aload w at_161 (q := 163) rfl rfl rfl ?_
          refine g_static w (con_ver l Z a0 hw fm x103 _ _ w.old S_x103 hcm SFm rfm) no0 at_163 (q := 166) rfl rfl (Hw hw 31 rfl) (Hw hw 32 rfl) (Hw hw 33 rfl) (Hw hw 34 rfl) (by decide) pd14 rfl rfl (W := 0) (Nat.le_of_eq rfl) (by decide) (by decide) (by decide) (by decide) (fun T h v w gs C q => ?_)
          obtain ⟨E, co_, hy_, hF, hL, hv⟩ := q
          replace E0 := ext_trans E0 E
          replace S_x103 := S_x103.ext E
          rcases hv with ⟨rfl, hv⟩ | ⟨rfl, hv⟩
          · show Go p e below _ (State.setTop T (mkF m 166 #[.val (.int j0), .val (.int j1), .val (.int j2), .val (.int j3), .val (.int j4), .val (.int j5), .val (.int (5 : Int32)), .val (.int p98), .val (.int p99), .val (.int p100), .val (.int p101), .val (.int p102), .val (.ref x103), .val (.int sq113), .val (.int (1 : Int32))] [(.int (1 : Int32))]))
            refine g_iload w at_166 (q := 168) rfl rfl ?_
            refine g_icN w at_168 (q := 171) rfl (Jvm.Free.XT.ii_ne_f rfl) ?_
            refine g_iconst w at_171 (q := 172) rfl (v := (1 : Int32)) (by decide) ?_
            refine g_goto w at_172 (by decide) (q := 176) (by decide) ?_
            exact g_retn w at_176 rfl (by simp) rfl (by decide) (by decide) rfl
          · have hr : run [p98, p99, p100, p101, p102] 0 = sq113 := by rw [run_cons, ← hsq105, run_cons, ← hsq107, run_cons, ← hsq109, run_cons, ← hsq111, run_cons, ← hsq113, run_nil]
            have va := (ver_acc (Nat.le_of_ble_eq_true rfl) hF hL)
            rw [hr] at va
            exact absurd (va.mpr (Or.inr (Or.inr cd118))) hv
set_option maxRecDepth 65536 in
set_option maxHeartbeats 40000000 in
theorem comes_1 {Post : Tables → Env → Array Value → State → Outcome → State → Prop} (hpost : ∀ tb e args s v u, (limb_1_1.after args s (.returned v) u = true ∧ limb_1_2.after args s (.returned v) u = true ∧ True) → ReturnedEndW s (.returned v) u (Jvm.fieldLocs frame_1_writes args s ++ Jvm.arrayLocs frame_1_arrays args s ++ Jvm.staticLocs frame_1_statics s) 24 5248 → Post tb e args s (.returned v) u) :
    ArmFor flags0 classFile x code maxLocals ret World_1 tables_1 room_1 Calls_1 rest_1 Pre_1 Post := by
  intro l hfl _ _ p e ha hc hk s m args below hf hA hF happ hP
  obtain ⟨hcalls, hrest, hpre⟩ := hP
  obtain ⟨-, -, -, hnamed, -, -, -, hat⟩ := (Spec.applies_iff hf).mp happ
  obtain ⟨hg, hn⟩ := and_e (Cond.before_iff.mp (show (Jvm.Cond.and given_1 narrow_1).before args s = true from hpre))
  obtain ⟨h1, hr0⟩ := and_e hg
  obtain ⟨w0, w1, w2, w3, w4, w5, rfl⟩ : ∃ w0 w1 w2 w3 w4 w5 : Value, args = #[w0, w1, w2, w3, w4, w5] := by
    have hs : args.size = 6 := by simpa [Cond.value, given_1] using h1
    obtain ⟨L⟩ := args
    match L, hs with
    | [w0, w1, w2, w3, w4, w5], _ => exact ⟨w0, w1, w2, w3, w4, w5, rfl⟩
  obtain ⟨q0, hr1⟩ := and_e hr0
  obtain ⟨i0, ei0⟩ := is_v q0
  obtain rfl : w0 = (.int i0) := Option.some.inj ei0
  obtain ⟨q1, hr2⟩ := and_e hr1
  obtain ⟨i1, ei1⟩ := is_v q1
  obtain rfl : w1 = (.int i1) := Option.some.inj ei1
  obtain ⟨q2, hr3⟩ := and_e hr2
  obtain ⟨i2, ei2⟩ := is_v q2
  obtain rfl : w2 = (.int i2) := Option.some.inj ei2
  obtain ⟨q3, hr4⟩ := and_e hr3
  obtain ⟨i3, ei3⟩ := is_v q3
  obtain rfl : w3 = (.int i3) := Option.some.inj ei3
  obtain ⟨q4, hr5⟩ := and_e hr4
  obtain ⟨i4, ei4⟩ := is_v q4
  obtain rfl : w4 = (.int i4) := Option.some.inj ei4
  obtain ⟨i5, ei5⟩ := is_v hr5
  obtain rfl : w5 = (.int i5) := Option.some.inj ei5
  have hw := fun d (hd : d ∈ tables_1) => atoms_spec (ws := Jvm.Cond.code x code maxLocals ret :: tables_1) hat d (List.mem_cons_of_mem _ hd)
  have hfit : Fit s := fun {y c} hc i hi => by
    obtain ⟨ha, rfl⟩ := Array.getElem?_eq_some_iff.mp hc
    have q := List.all_eq_true.mp ((Array.all_eq_true_iff_forall_mem.mp hF) _ (Array.getElem_mem ha)) i (List.mem_range.mpr hi)
    simpa [Array.getElem?_eq_getElem hi] using q
  obtain ⟨hsets, hown0⟩ := atoms_of _ (rest_1_c_eq ▸ (show rest_1_c.before _ s = true from hrest))
  have hcm : Cpt s := by
    obtain ⟨z, ez⟩ := is_v (Cond.before_iff.mp (hsets _ (List.mem_of_getElem? (i := 1) rfl)))
    refine ⟨z, ?_, Sta.start ez (Or.inl (hsets _ (List.mem_of_getElem? (i := 0) rfl)))⟩
    intro hz; subst hz
    have q := not_v (Cond.before_iff.mp (hsets _ (List.mem_of_getElem? (i := 2) rfl)))
    rw [eq_i ez (Term.int_eval (0)) rfl] at q; cases q
  obtain ⟨fm, efm, rfm⟩ := isR_v (Cond.before_iff.mp (hsets _ (List.mem_of_getElem? (i := 8) rfl)))
  have SFm := Sta.start efm (Or.inl (hsets _ (List.mem_of_getElem? (i := 7) rfl)))
  have hch : CHv s consts_1 s.vm s.heap := CHv.start (own_EL hw) (fun p hp => hcalls.1 p hp) (hsets _ (List.mem_of_getElem? (i := 2) rfl)) (Hw hw 24 rfl) (Hw hw 10 rfl)
  obtain ⟨n, o, h1, h2, h3, _, L, rfl, rfl, O, N, C, W, hq⟩ := con_law l s _ hw fm i0 i1 i2 i3 i4 i5 s.heap (ext_refl _) hcm SFm rfm p e ha hc hk s m _ below hf ((Spec.applies_iff_loose hf).mp happ).1 ⟨rfl, State.Warmed39.refl s, rfl, hch, no0⟩ trivial
  refine ⟨n, _, h1, h2, h3, hpost _ _ _ _ _ _ ⟨Cond.after_iff.mpr rfl, Cond.after_iff.mpr (eq_i res_at (Term.int_eval (1)) rfl), trivial⟩ ⟨hq.1, hq.2.1, hq.2.2.1, (hq.2.2.2.sift fun y hy => Or.inr (N y hy)).mono (by decide) (by decide)⟩⟩
theorem main_1_1 : Claimed_1_1 := comes_1 fun _ _ _ _ _ _ h hF => ⟨h.1, hF⟩
theorem main_1_2 : Claimed_1_2 := comes_1 fun _ _ _ _ _ _ h hF => ⟨h.2.1, hF⟩
end Jvm.Pilot.@@N@@
namespace Jvm.Pilot.@@N@@
open Jvm Jvm.ClassFile Sem Op Lib Jvm.Free Jvm.Stand Jvm.Pilot.@@N@@.Jvm.D
/-! MADE BY PROGRAM (witnessworld.py) out of the Statement's table words and the real class files: 21 classes; the members and pool entries that the words name. The judged class is class 1, her method 1. -/
namespace start1
open Jvm.ClassFile
def u (s : String) : CpInfo := .utf8 (stringToUtf16 s)
/-- a pool by its gaps: so many unusable entries, then the entry; so many at the end -/
def gap : Nat → List CpInfo → List CpInfo
  | 0, r => r
  | n + 1, r => .unusable :: gap n r
def poolList (es : List (Nat × CpInfo)) (last : Nat) : List CpInfo := es.foldr (fun e r => gap e.1 (e.2 :: r)) (gap last [])
def pool (es : List (Nat × CpInfo)) (last : Nat) : Array CpInfo := ⟨poolList es last⟩
def fileOf (pool : Array CpInfo) (this : Nat) (attrs : Array Attribute := #[]) (ms : Array MethodInfo := #[]) (fl : Nat := 33) (sup : Nat := 0) (ifs : Array Nat := #[]) (fds : Array FieldInfo := #[]) : ClassFile where
  minorVersion := 0
  majorVersion := 65
  constantPool := pool
  accessFlags := fl
  thisClass := this
  superClass := sup
  interfaces := ifs
  fields := fds
  methods := ms
  attributes := attrs
def plain (name : String) (sup : Option ClassId) : Class where
  name := name
  kind := .ordinary
  loader := none
  accessFlags := 33
  super := sup
  interfaces := #[]
  cf := none
  fields := #[]
  methods := #[]
  instanceTypes := #[]
  staticTypes := #[]
  resolved := #[]
  callSites := []
  init := .initialized
  statics := none
  mirror := none

def pool0 : Array CpInfo := pool [(5, u "<init>"), (0, u "()V"), (1, .class_ 10), (1, u "java/lang/Object")] 113

def k0c0 : Code := { maxStack := 0, maxLocals := 1, code := object_method_1_code, exceptionTable := #[], attributes := #[] }
def k0m0 : Method := { name := "<init>", desc := "()V", sig := { parameters := [], returnType := none }, accessFlags := 1, code := some k0c0 }
/-- java/lang/Object -/
def k0 : Class := { plain "java/lang/Object" none with
  accessFlags := 33
  interfaces := #[]
  cf := some (fileOf pool0 8 #[] #[{ accessFlags := 1, nameIndex := 5, descriptorIndex := 6, attributes := #[] }] 33 0 #[] #[])
  fields := #[]
  methods := #[k0m0]
  instanceTypes := #[]
  staticTypes := #[]
  resolved := Array.replicate 124 none
  statics := none }

def pool1 : Array CpInfo := pool [(2, .class_ 4), (1, u "java/lang/Object"), (0, u "<init>"), (0, u "()V"), (0, .integer 2147483647), (0, .methodref 9 10), (0, .class_ 11), (0, .nameAndType 12 13), (0, u "com/example/deepquery/deepquery/DebianVersionIsVersionPinLaw"), (0, u "pick"), (0, u "(I)C"), (0, .methodref 9 15), (0, .nameAndType 16 17), (0, u "make"), (0, u "(ICCCCC)Ljava/lang/String;"), (0, .methodref 9 19), (0, .nameAndType 20 21), (0, u "step"), (0, u "(IC)I"), (0, .methodref 23 24), (0, .class_ 25), (0, .nameAndType 26 27), (0, u "com/example/deepquery/deepquery/DebianVersion"), (0, u "isVersion"), (0, u "(Ljava/lang/String;)Z"), (0, .integer 65536), (0, .string 30), (0, u "09azAZ.+~-:/\x40[`{"), (0, .methodref 32 33), (0, .class_ 34), (0, .nameAndType 35 13), (0, u "java/lang/String"), (0, u "charAt"), (0, .methodref 32 37), (0, .nameAndType 5 38), (0, u "([C)V"), (0, .methodref 9 40), (0, .nameAndType 41 42), (0, u "kind"), (0, u "(C)I"), (2, u "law"), (0, u "(IIIIII)Z")] 3

def k1m0 : Method := { name := "<init>", desc := "()V", sig := { parameters := [], returnType := none }, accessFlags := 2, code := none }
def k1c1 : Code := { maxStack := 6, maxLocals := 15, code := code, exceptionTable := #[], attributes := #[] }
def k1m1 : Method := { name := "law", desc := "(IIIIII)Z", sig := { parameters := [.int, .int, .int, .int, .int, .int], returnType := some .boolean }, accessFlags := 9, code := some k1c1 }
def k1c2 : Code := { maxStack := 3, maxLocals := 1, code := method_3_code, exceptionTable := #[], attributes := #[] }
def k1m2 : Method := { name := "pick", desc := "(I)C", sig := { parameters := [.int], returnType := some .char }, accessFlags := 10, code := some k1c2 }
def k1c3 : Code := { maxStack := 6, maxLocals := 6, code := method_4_code, exceptionTable := #[], attributes := #[] }
def k1m3 : Method := { name := "make", desc := "(ICCCCC)Ljava/lang/String;", sig := { parameters := [.int, .char, .char, .char, .char, .char], returnType := some (.object "java/lang/String") }, accessFlags := 10, code := some k1c3 }
def k1c4 : Code := { maxStack := 2, maxLocals := 1, code := method_5_code, exceptionTable := #[], attributes := #[] }
def k1m4 : Method := { name := "kind", desc := "(C)I", sig := { parameters := [.char], returnType := some .int }, accessFlags := 10, code := some k1c4 }
def k1c5 : Code := { maxStack := 2, maxLocals := 3, code := method_6_code, exceptionTable := #[], attributes := #[] }
def k1m5 : Method := { name := "step", desc := "(IC)I", sig := { parameters := [.int, .char], returnType := some .int }, accessFlags := 10, code := some k1c5 }
/-- com/example/deepquery/deepquery/DebianVersionIsVersionPinLaw -/
def k1 : Class := { plain "com/example/deepquery/deepquery/DebianVersionIsVersionPinLaw" (some 0) with
  accessFlags := 49
  interfaces := #[]
  cf := some (fileOf pool1 9 #[] #[{ accessFlags := 2, nameIndex := 5, descriptorIndex := 6, attributes := #[] }, { accessFlags := 9, nameIndex := 45, descriptorIndex := 46, attributes := #[] }, { accessFlags := 10, nameIndex := 12, descriptorIndex := 13, attributes := #[] }, { accessFlags := 10, nameIndex := 16, descriptorIndex := 17, attributes := #[] }, { accessFlags := 10, nameIndex := 41, descriptorIndex := 42, attributes := #[] }, { accessFlags := 10, nameIndex := 20, descriptorIndex := 21, attributes := #[] }] 49 2 #[] #[])
  fields := #[]
  methods := #[k1m0, k1m1, k1m2, k1m3, k1m4, k1m5]
  instanceTypes := #[]
  staticTypes := #[]
  resolved := Array.replicate 50 none
  statics := none }

def pool2 : Array CpInfo := pool [(1, .class_ 2), (0, u "java/io/Serializable"), (0, .class_ 4), (0, u "java/lang/Object")] 2

/-- java/io/Serializable -/
def k2 : Class := { plain "java/io/Serializable" (some 0) with
  accessFlags := 1537
  interfaces := #[]
  cf := some (fileOf pool2 1 #[] #[] 1537 3 #[] #[])
  fields := #[]
  methods := #[]
  instanceTypes := #[]
  staticTypes := #[]
  resolved := Array.replicate 7 none
  statics := none }

def pool3 : Array CpInfo := pool [(1, .class_ 2), (0, u "java/lang/Comparable"), (0, .class_ 4), (0, u "java/lang/Object")] 7

/-- java/lang/Comparable -/
def k3 : Class := { plain "java/lang/Comparable" (some 0) with
  accessFlags := 1537
  interfaces := #[]
  cf := some (fileOf pool3 1 #[] #[] 1537 3 #[] #[])
  fields := #[]
  methods := #[]
  instanceTypes := #[]
  staticTypes := #[]
  resolved := Array.replicate 12 none
  statics := none }

def pool4 : Array CpInfo := pool [(2, .class_ 4), (1, u "java/lang/CharSequence"), (42, .class_ 48), (0, u "java/lang/CharSequence$1CodePointIterator"), (10, .class_ 60), (0, u "java/lang/CharSequence$1CharIterator"), (5, .class_ 67), (0, u "java/lang/Object")] 63

/-- java/lang/CharSequence -/
def k4 : Class := { plain "java/lang/CharSequence" (some 0) with
  accessFlags := 1537
  interfaces := #[]
  cf := some (fileOf pool4 2 #[.nestMembers #[47, 59]] #[] 1537 66 #[] #[])
  fields := #[]
  methods := #[]
  instanceTypes := #[]
  staticTypes := #[]
  resolved := Array.replicate 131 none
  statics := none }

def pool5 : Array CpInfo := pool [(1, .class_ 2), (0, u "java/lang/constant/Constable"), (0, .class_ 4), (0, u "java/lang/Object")] 6

/-- java/lang/constant/Constable -/
def k5 : Class := { plain "java/lang/constant/Constable" (some 0) with
  accessFlags := 1537
  interfaces := #[]
  cf := some (fileOf pool5 1 #[] #[] 1537 3 #[] #[])
  fields := #[]
  methods := #[]
  instanceTypes := #[]
  staticTypes := #[]
  resolved := Array.replicate 11 none
  statics := none }

def pool6 : Array CpInfo := pool [(1, .class_ 2), (0, u "java/lang/constant/ConstantDesc"), (0, .class_ 4), (0, u "java/lang/Object")] 32

/-- java/lang/constant/ConstantDesc -/
def k6 : Class := { plain "java/lang/constant/ConstantDesc" (some 0) with
  accessFlags := 1537
  interfaces := #[]
  cf := some (fileOf pool6 1 #[] #[] 1537 3 #[] #[])
  fields := #[]
  methods := #[]
  instanceTypes := #[]
  staticTypes := #[]
  resolved := Array.replicate 37 none
  statics := none }

def pool7 : Array CpInfo := pool [(1, .methodref 2 3), (0, .class_ 4), (0, .nameAndType 5 6), (0, u "java/lang/Object"), (0, u "<init>"), (0, u "()V"), (0, .string 8), (0, u ""), (0, .fieldref 10 11), (0, .class_ 12), (0, .nameAndType 13 14), (0, u "java/lang/String"), (0, u "value"), (0, u "[B"), (0, .fieldref 10 16), (0, .nameAndType 17 18), (0, u "coder"), (0, u "B"), (2, u "hash"), (0, u "I"), (2, u "hashIsZero"), (0, u "Z"), (0, .methodref 10 28), (0, .nameAndType 5 29), (0, u "([CIILjava/lang/Void;)V"), (8, .fieldref 10 39), (0, .nameAndType 40 26), (0, u "COMPACT_STRINGS"), (1, .class_ 44), (1, u "java/lang/StringUTF16"), (0, u "compress"), (1, .methodref 42 48), (0, .nameAndType 49 50), (0, u "coderFromArrayLen"), (0, u "([BI)B"), (46, u "([BII)I"), (9, .class_ 109), (1, u "java/lang/StringLatin1"), (32, u "()Z"), (34, .methodref 42 178), (0, .nameAndType 45 179), (0, u "([CII)[B"), (154, u "()I"), (0, .methodref 10 336), (0, .nameAndType 17 337), (0, u "()B"), (25, u "([BI)C"), (27, u "(II)V"), (35, u "(I)C"), (64, .methodref 10 493), (0, .nameAndType 494 142), (0, u "isLatin1"), (0, .methodref 107 496), (0, .nameAndType 497 363), (0, u "charAt"), (3, u "checkIndex"), (3, .methodref 10 506), (0, .nameAndType 507 334), (0, u "length"), (67, .class_ 576), (0, u "java/lang/CharSequence"), (22, u "CASE_INSENSITIVE_ORDER"), (0, u "Ljava/util/Comparator;"), (32, .methodref 10 634), (0, .nameAndType 635 636), (0, u "indexOf"), (0, u "(II)I"), (0, .methodref 107 638), (0, .nameAndType 635 639), (0, u "([BIII)I"), (1, .methodref 10 642), (0, .nameAndType 643 636), (0, u "lastIndexOf"), (0, .methodref 107 645), (0, .nameAndType 643 97), (119, u "(I)I"), (244, u "([C)V"), (42, .fieldref 1054 1055), (0, .class_ 1056), (0, .nameAndType 1057 1058), (0, u "jdk/internal/util/Preconditions"), (0, u "SIOOBE_FORMATTER"), (0, u "Ljava/util/function/BiFunction;"), (0, .methodref 1054 1060), (0, .nameAndType 501 1061), (0, u "(IILjava/util/function/BiFunction;)I"), (39, u "serialPersistentFields"), (0, u "[Ljava/io/ObjectStreamField;"), (0, .class_ 1104), (0, u "java/lang/String$CaseInsensitiveComparator"), (1, .class_ 1107), (0, u "java/io/Serializable"), (0, .class_ 1109), (0, u "java/lang/Comparable"), (0, .class_ 1111), (0, u "java/lang/constant/Constable"), (0, .class_ 1113), (0, u "java/lang/constant/ConstantDesc"), (2, u "serialVersionUID"), (0, u "J"), (3, u "REPL"), (0, u "C"), (2, u "LATIN1"), (1, u "UTF16")] 323

def k7m0 : Method := { name := "<init>", desc := "()V", sig := { parameters := [], returnType := none }, accessFlags := 1, code := none }
def k7c1 : Code := { maxStack := 5, maxLocals := 2, code := jdk_42_method_3_code, exceptionTable := #[], attributes := #[] }
def k7m1 : Method := { name := "<init>", desc := "([C)V", sig := { parameters := [(.array .char)], returnType := none }, accessFlags := 1, code := some k7c1 }
def k7c2 : Code := { maxStack := 2, maxLocals := 1, code := jdk_42_method_54_code, exceptionTable := #[], attributes := #[] }
def k7m2 : Method := { name := "length", desc := "()I", sig := { parameters := [], returnType := some .int }, accessFlags := 1, code := some k7c2 }
def k7c3 : Code := { maxStack := 2, maxLocals := 2, code := jdk_42_method_56_code, exceptionTable := #[], attributes := #[] }
def k7m3 : Method := { name := "charAt", desc := "(I)C", sig := { parameters := [.int], returnType := some .char }, accessFlags := 1, code := some k7c3 }
def k7c4 : Code := { maxStack := 3, maxLocals := 2, code := jdk_42_method_79_code, exceptionTable := #[], attributes := #[] }
def k7m4 : Method := { name := "indexOf", desc := "(I)I", sig := { parameters := [.int], returnType := some .int }, accessFlags := 1, code := some k7c4 }
def k7c5 : Code := { maxStack := 4, maxLocals := 3, code := jdk_42_method_80_code, exceptionTable := #[], attributes := #[] }
def k7m5 : Method := { name := "indexOf", desc := "(II)I", sig := { parameters := [.int, .int], returnType := some .int }, accessFlags := 1, code := some k7c5 }
def k7c6 : Code := { maxStack := 4, maxLocals := 2, code := jdk_42_method_82_code, exceptionTable := #[], attributes := #[] }
def k7m6 : Method := { name := "lastIndexOf", desc := "(I)I", sig := { parameters := [.int], returnType := some .int }, accessFlags := 1, code := some k7c6 }
def k7c7 : Code := { maxStack := 3, maxLocals := 3, code := jdk_42_method_83_code, exceptionTable := #[], attributes := #[] }
def k7m7 : Method := { name := "lastIndexOf", desc := "(II)I", sig := { parameters := [.int, .int], returnType := some .int }, accessFlags := 1, code := some k7c7 }
def k7c8 : Code := { maxStack := 4, maxLocals := 6, code := jdk_42_method_149_code, exceptionTable := #[], attributes := #[] }
def k7m8 : Method := { name := "<init>", desc := "([CIILjava/lang/Void;)V", sig := { parameters := [(.array .char), .int, .int, (.object "java/lang/Void")], returnType := none }, accessFlags := 2, code := some k7c8 }
def k7c9 : Code := { maxStack := 1, maxLocals := 1, code := jdk_42_method_152_code, exceptionTable := #[], attributes := #[] }
def k7m9 : Method := { name := "coder", desc := "()B", sig := { parameters := [], returnType := some .byte }, accessFlags := 0, code := some k7c9 }
def k7c10 : Code := { maxStack := 1, maxLocals := 1, code := jdk_42_method_154_code, exceptionTable := #[], attributes := #[] }
def k7m10 : Method := { name := "isLatin1", desc := "()Z", sig := { parameters := [], returnType := some .boolean }, accessFlags := 0, code := some k7c10 }
def k7c11 : Code := { maxStack := 3, maxLocals := 2, code := jdk_42_method_155_code, exceptionTable := #[], attributes := #[] }
def k7m11 : Method := { name := "checkIndex", desc := "(II)V", sig := { parameters := [.int, .int], returnType := none }, accessFlags := 8, code := some k7c11 }
/-- java/lang/String -/
def k7 : Class := { plain "java/lang/String" (some 0) with
  accessFlags := 49
  interfaces := #[2, 3, 4, 5, 6]
  cf := some (fileOf pool7 10 #[.nestMembers #[1103]] #[{ accessFlags := 1, nameIndex := 5, descriptorIndex := 6, attributes := #[] }, { accessFlags := 1, nameIndex := 5, descriptorIndex := 1010, attributes := #[] }, { accessFlags := 1, nameIndex := 507, descriptorIndex := 334, attributes := #[] }, { accessFlags := 1, nameIndex := 497, descriptorIndex := 427, attributes := #[] }, { accessFlags := 1, nameIndex := 635, descriptorIndex := 765, attributes := #[] }, { accessFlags := 1, nameIndex := 635, descriptorIndex := 636, attributes := #[] }, { accessFlags := 1, nameIndex := 643, descriptorIndex := 765, attributes := #[] }, { accessFlags := 1, nameIndex := 643, descriptorIndex := 636, attributes := #[] }, { accessFlags := 2, nameIndex := 5, descriptorIndex := 29, attributes := #[] }, { accessFlags := 0, nameIndex := 17, descriptorIndex := 337, attributes := #[] }, { accessFlags := 0, nameIndex := 494, descriptorIndex := 142, attributes := #[] }, { accessFlags := 8, nameIndex := 501, descriptorIndex := 391, attributes := #[] }] 49 2 #[1106, 1108, 575, 1110, 1112] #[{ accessFlags := 18, nameIndex := 13, descriptorIndex := 14, attributes := #[] }, { accessFlags := 18, nameIndex := 17, descriptorIndex := 18, attributes := #[] }, { accessFlags := 2, nameIndex := 21, descriptorIndex := 22, attributes := #[] }, { accessFlags := 2, nameIndex := 25, descriptorIndex := 26, attributes := #[] }, { accessFlags := 26, nameIndex := 1116, descriptorIndex := 1117, attributes := #[] }, { accessFlags := 24, nameIndex := 40, descriptorIndex := 26, attributes := #[] }, { accessFlags := 26, nameIndex := 1101, descriptorIndex := 1102, attributes := #[] }, { accessFlags := 26, nameIndex := 1121, descriptorIndex := 1122, attributes := #[] }, { accessFlags := 25, nameIndex := 599, descriptorIndex := 600, attributes := #[] }, { accessFlags := 24, nameIndex := 1125, descriptorIndex := 18, attributes := #[] }, { accessFlags := 24, nameIndex := 1127, descriptorIndex := 18, attributes := #[] }])
  fields := #[{ name := "value", type := (.array .byte), accessFlags := 18, slot := 0, constantValue := 0 }, { name := "coder", type := .byte, accessFlags := 18, slot := 1, constantValue := 0 }, { name := "hash", type := .int, accessFlags := 2, slot := 2, constantValue := 0 }, { name := "hashIsZero", type := .boolean, accessFlags := 2, slot := 3, constantValue := 0 }, { name := "serialVersionUID", type := .long, accessFlags := 26, slot := 0, constantValue := 0 }, { name := "COMPACT_STRINGS", type := .boolean, accessFlags := 24, slot := 1, constantValue := 0 }, { name := "serialPersistentFields", type := (.array (.object "java/io/ObjectStreamField")), accessFlags := 26, slot := 2, constantValue := 0 }, { name := "REPL", type := .char, accessFlags := 26, slot := 3, constantValue := 0 }, { name := "CASE_INSENSITIVE_ORDER", type := (.object "java/util/Comparator"), accessFlags := 25, slot := 4, constantValue := 0 }, { name := "LATIN1", type := .byte, accessFlags := 24, slot := 5, constantValue := 0 }, { name := "UTF16", type := .byte, accessFlags := 24, slot := 6, constantValue := 0 }]
  methods := #[k7m0, k7m1, k7m2, k7m3, k7m4, k7m5, k7m6, k7m7, k7m8, k7m9, k7m10, k7m11]
  instanceTypes := #[(.array .byte), .byte, .int, .boolean]
  staticTypes := #[.long, .boolean, (.array (.object "java/io/ObjectStreamField")), .char, (.object "java/util/Comparator"), .byte, .byte]
  resolved := Array.replicate 1451 none
  statics := some 0 }

def pool8 : Array CpInfo := pool [(2, .class_ 4), (1, u "java/lang/Object"), (0, u "<init>"), (0, u "()V"), (0, .methodref 8 9), (0, .class_ 10), (0, .nameAndType 11 12), (0, u "java/lang/String"), (0, u "indexOf"), (0, u "(I)I"), (0, .methodref 8 14), (0, .nameAndType 15 12), (0, u "lastIndexOf"), (0, .methodref 8 17), (0, .nameAndType 18 19), (0, u "length"), (0, u "()I"), (0, .string 21), (0, u ""), (0, .methodref 23 24), (0, .class_ 25), (0, .nameAndType 26 27), (0, u "com/example/deepquery/deepquery/DebianVersion"), (0, u "holdsOnly"), (0, u "(Ljava/lang/String;IIZLjava/lang/String;)Z"), (0, .string 29), (0, u ".+-~"), (0, .string 31), (0, u ".+~"), (1, .class_ 35), (1, u "com/example/deepquery/deepquery/DebianVersion$Parts"), (19, .methodref 8 56), (0, .nameAndType 57 58), (0, u "charAt"), (0, u "(I)C"), (0, .methodref 23 60), (0, .nameAndType 61 62), (0, u "isDigit"), (0, u "(C)Z"), (0, .methodref 23 64), (0, .nameAndType 65 62), (0, u "isLetter"), (39, u "isVersion"), (0, u "(Ljava/lang/String;)Z")] 6

def k8m0 : Method := { name := "<init>", desc := "()V", sig := { parameters := [], returnType := none }, accessFlags := 2, code := none }
def k8c1 : Code := { maxStack := 5, maxLocals := 7, code := prog_3_method_2_code, exceptionTable := #[], attributes := #[] }
def k8m1 : Method := { name := "isVersion", desc := "(Ljava/lang/String;)Z", sig := { parameters := [(.object "java/lang/String")], returnType := some .boolean }, accessFlags := 8, code := some k8c1 }
def k8c2 : Code := { maxStack := 2, maxLocals := 7, code := prog_3_method_4_code, exceptionTable := #[], attributes := #[] }
def k8m2 : Method := { name := "holdsOnly", desc := "(Ljava/lang/String;IIZLjava/lang/String;)Z", sig := { parameters := [(.object "java/lang/String"), .int, .int, .boolean, (.object "java/lang/String")], returnType := some .boolean }, accessFlags := 10, code := some k8c2 }
def k8c3 : Code := { maxStack := 2, maxLocals := 1, code := prog_3_method_11_code, exceptionTable := #[], attributes := #[] }
def k8m3 : Method := { name := "isLetter", desc := "(C)Z", sig := { parameters := [.char], returnType := some .boolean }, accessFlags := 10, code := some k8c3 }
def k8c4 : Code := { maxStack := 2, maxLocals := 1, code := prog_3_method_12_code, exceptionTable := #[], attributes := #[] }
def k8m4 : Method := { name := "isDigit", desc := "(C)Z", sig := { parameters := [.char], returnType := some .boolean }, accessFlags := 10, code := some k8c4 }
/-- com/example/deepquery/deepquery/DebianVersion -/
def k8 : Class := { plain "com/example/deepquery/deepquery/DebianVersion" (some 0) with
  accessFlags := 48
  interfaces := #[]
  cf := some (fileOf pool8 23 #[.nestMembers #[33]] #[{ accessFlags := 2, nameIndex := 5, descriptorIndex := 6, attributes := #[] }, { accessFlags := 8, nameIndex := 105, descriptorIndex := 106, attributes := #[] }, { accessFlags := 10, nameIndex := 26, descriptorIndex := 27, attributes := #[] }, { accessFlags := 10, nameIndex := 65, descriptorIndex := 62, attributes := #[] }, { accessFlags := 10, nameIndex := 61, descriptorIndex := 62, attributes := #[] }] 48 2 #[] #[])
  fields := #[]
  methods := #[k8m0, k8m1, k8m2, k8m3, k8m4]
  instanceTypes := #[]
  staticTypes := #[]
  resolved := Array.replicate 113 none
  statics := none }

def pool9 : Array CpInfo := pool [(1, .class_ 2), (0, u "java/lang/String"), (1, .class_ 6), (1, u "java/lang/Object"), (0, u "<init>"), (0, u "()V"), (0, .methodref 1 10), (0, .nameAndType 11 12), (0, u "checkIndex"), (0, u "(II)V"), (1, .class_ 16), (1, u "java/lang/StringLatin1"), (21, .methodref 39 40), (0, .class_ 41), (0, .nameAndType 42 43), (0, u "java/lang/Math"), (0, u "min"), (0, u "(II)I"), (9, u "([BI)C"), (34, .methodref 14 89), (0, .nameAndType 90 91), (0, u "canEncode"), (0, u "(I)Z"), (0, .methodref 39 93), (0, .nameAndType 94 43), (0, u "max"), (0, .methodref 14 96), (0, .nameAndType 97 98), (0, u "indexOfChar"), (0, u "([BIII)I"), (2, u "indexOf"), (19, u "$assertionsDisabled"), (0, u "Z"), (98, .class_ 223), (1, u "java/lang/StringLatin1$LinesSpliterator"), (28, u "charAt"), (8, u "([BII)I"), (47, u "lastIndexOf"), (80, .class_ 391), (0, u "java/lang/StringLatin1$CharsSpliterator")] 3

def k9m0 : Method := { name := "<init>", desc := "()V", sig := { parameters := [], returnType := none }, accessFlags := 0, code := none }
def k9c1 : Code := { maxStack := 2, maxLocals := 2, code := jdk_43_method_2_code, exceptionTable := #[], attributes := #[] }
def k9m1 : Method := { name := "charAt", desc := "([BI)C", sig := { parameters := [(.array .byte), .int], returnType := some .char }, accessFlags := 9, code := some k9c1 }
def k9c2 : Code := { maxStack := 2, maxLocals := 1, code := jdk_43_method_4_code, exceptionTable := #[], attributes := #[] }
def k9m2 : Method := { name := "canEncode", desc := "(I)Z", sig := { parameters := [.int], returnType := some .boolean }, accessFlags := 9, code := some k9c2 }
def k9c3 : Code := { maxStack := 4, maxLocals := 4, code := jdk_43_method_22_code, exceptionTable := #[], attributes := #[] }
def k9m3 : Method := { name := "indexOf", desc := "([BIII)I", sig := { parameters := [(.array .byte), .int, .int, .int], returnType := some .int }, accessFlags := 9, code := some k9c3 }
def k9c4 : Code := { maxStack := 2, maxLocals := 6, code := jdk_43_method_23_code, exceptionTable := #[], attributes := #[] }
def k9m4 : Method := { name := "indexOfChar", desc := "([BIII)I", sig := { parameters := [(.array .byte), .int, .int, .int], returnType := some .int }, accessFlags := 10, code := some k9c4 }
def k9c5 : Code := { maxStack := 3, maxLocals := 4, code := jdk_43_method_27_code, exceptionTable := #[], attributes := #[] }
def k9m5 : Method := { name := "lastIndexOf", desc := "([BII)I", sig := { parameters := [(.array .byte), .int, .int], returnType := some .int }, accessFlags := 9, code := some k9c5 }
/-- java/lang/StringLatin1 -/
def k9 : Class := { plain "java/lang/StringLatin1" (some 0) with
  accessFlags := 48
  interfaces := #[]
  cf := some (fileOf pool9 14 #[.nestMembers #[390, 221]] #[{ accessFlags := 0, nameIndex := 7, descriptorIndex := 8, attributes := #[] }, { accessFlags := 9, nameIndex := 252, descriptorIndex := 53, attributes := #[] }, { accessFlags := 9, nameIndex := 90, descriptorIndex := 91, attributes := #[] }, { accessFlags := 9, nameIndex := 101, descriptorIndex := 98, attributes := #[] }, { accessFlags := 10, nameIndex := 97, descriptorIndex := 98, attributes := #[] }, { accessFlags := 9, nameIndex := 309, descriptorIndex := 261, attributes := #[] }] 48 4 #[] #[{ accessFlags := 4120, nameIndex := 121, descriptorIndex := 122, attributes := #[] }])
  fields := #[{ name := "$assertionsDisabled", type := .boolean, accessFlags := 4120, slot := 0, constantValue := 0 }]
  methods := #[k9m0, k9m1, k9m2, k9m3, k9m4, k9m5]
  instanceTypes := #[]
  staticTypes := #[.boolean]
  resolved := Array.replicate 395 none
  statics := none }

def pool10 : Array CpInfo := pool [(1, .class_ 2), (0, u "java/lang/Math"), (1, .class_ 6), (1, u "java/lang/Object"), (0, u "<init>"), (0, u "()V"), (89, .class_ 100), (1, u "java/lang/Math$RandomNumberGeneratorHolder"), (71, u "negativeZeroFloatBits"), (0, u "J"), (2, u "negativeZeroDoubleBits"), (21, u "max"), (2, u "min"), (43, u "$assertionsDisabled"), (0, u "Z"), (88, u "(II)I"), (2, u "twoToTheDoubleScaleDown"), (0, u "D"), (4, u "twoToTheDoubleScaleUp"), (9, u "E"), (3, u "PI"), (2, u "TAU"), (2, u "DEGREES_TO_RADIANS"), (0, u "RADIANS_TO_DEGREES")] 94

def k10m0 : Method := { name := "<init>", desc := "()V", sig := { parameters := [], returnType := none }, accessFlags := 2, code := none }
def k10c1 : Code := { maxStack := 2, maxLocals := 2, code := jdk_29_method_65_code, exceptionTable := #[], attributes := #[] }
def k10m1 : Method := { name := "max", desc := "(II)I", sig := { parameters := [.int, .int], returnType := some .int }, accessFlags := 9, code := some k10c1 }
def k10c2 : Code := { maxStack := 2, maxLocals := 2, code := jdk_29_method_69_code, exceptionTable := #[], attributes := #[] }
def k10m2 : Method := { name := "min", desc := "(II)I", sig := { parameters := [.int, .int], returnType := some .int }, accessFlags := 9, code := some k10c2 }
/-- java/lang/Math -/
def k10 : Class := { plain "java/lang/Math" (some 0) with
  accessFlags := 49
  interfaces := #[]
  cf := some (fileOf pool10 1 #[.nestMembers #[98]] #[{ accessFlags := 2, nameIndex := 7, descriptorIndex := 8, attributes := #[] }, { accessFlags := 9, nameIndex := 198, descriptorIndex := 335, attributes := #[] }, { accessFlags := 9, nameIndex := 201, descriptorIndex := 335, attributes := #[] }] 49 4 #[] #[{ accessFlags := 25, nameIndex := 354, descriptorIndex := 339, attributes := #[] }, { accessFlags := 25, nameIndex := 358, descriptorIndex := 339, attributes := #[] }, { accessFlags := 25, nameIndex := 361, descriptorIndex := 339, attributes := #[] }, { accessFlags := 26, nameIndex := 364, descriptorIndex := 339, attributes := #[] }, { accessFlags := 26, nameIndex := 365, descriptorIndex := 339, attributes := #[] }, { accessFlags := 26, nameIndex := 172, descriptorIndex := 173, attributes := #[] }, { accessFlags := 26, nameIndex := 176, descriptorIndex := 173, attributes := #[] }, { accessFlags := 8, nameIndex := 344, descriptorIndex := 339, attributes := #[] }, { accessFlags := 8, nameIndex := 338, descriptorIndex := 339, attributes := #[] }, { accessFlags := 4120, nameIndex := 245, descriptorIndex := 246, attributes := #[] }])
  fields := #[{ name := "E", type := .double, accessFlags := 25, slot := 0, constantValue := 0 }, { name := "PI", type := .double, accessFlags := 25, slot := 1, constantValue := 0 }, { name := "TAU", type := .double, accessFlags := 25, slot := 2, constantValue := 0 }, { name := "DEGREES_TO_RADIANS", type := .double, accessFlags := 26, slot := 3, constantValue := 0 }, { name := "RADIANS_TO_DEGREES", type := .double, accessFlags := 26, slot := 4, constantValue := 0 }, { name := "negativeZeroFloatBits", type := .long, accessFlags := 26, slot := 5, constantValue := 0 }, { name := "negativeZeroDoubleBits", type := .long, accessFlags := 26, slot := 6, constantValue := 0 }, { name := "twoToTheDoubleScaleUp", type := .double, accessFlags := 8, slot := 7, constantValue := 0 }, { name := "twoToTheDoubleScaleDown", type := .double, accessFlags := 8, slot := 8, constantValue := 0 }, { name := "$assertionsDisabled", type := .boolean, accessFlags := 4120, slot := 9, constantValue := 0 }]
  methods := #[k10m0, k10m1, k10m2]
  instanceTypes := #[]
  staticTypes := #[.double, .double, .double, .double, .double, .long, .long, .double, .double, .boolean]
  resolved := Array.replicate 460 none
  statics := none }

def pool11 : Array CpInfo := pool [(6, .class_ 8), (1, u "java/lang/Object"), (0, u "<init>"), (0, u "()V"), (1, .class_ 14), (1, u "java/lang/StringUTF16"), (31, u "$assertionsDisabled"), (0, u "Z"), (13, u "HI_BYTE_SHIFT"), (0, u "I"), (2, u "LO_BYTE_SHIFT"), (49, .methodref 12 116), (0, .nameAndType 117 118), (0, u "compress"), (0, u "([CI[BII)I"), (3, u "([CII)[B"), (138, u "coderFromArrayLen"), (0, u "([BI)B"), (106, .class_ 371), (1, u "java/lang/StringUTF16$LinesSpliterator"), (58, u "MAX_LENGTH"), (196, .class_ 628), (0, u "java/lang/StringUTF16$CodePointsSpliterator"), (0, .class_ 630), (0, u "java/lang/StringUTF16$CharsSpliterator")] 4

def k11m0 : Method := { name := "<init>", desc := "()V", sig := { parameters := [], returnType := none }, accessFlags := 0, code := none }
def k11c1 : Code := { maxStack := 2, maxLocals := 2, code := jdk_52_method_15_code, exceptionTable := #[], attributes := #[] }
def k11m1 : Method := { name := "coderFromArrayLen", desc := "([BI)B", sig := { parameters := [(.array .byte), .int], returnType := some .byte }, accessFlags := 8, code := some k11c1 }
def k11c2 : Code := { maxStack := 5, maxLocals := 6, code := jdk_52_method_16_code, exceptionTable := #[], attributes := #[] }
def k11m2 : Method := { name := "compress", desc := "([CII)[B", sig := { parameters := [(.array .char), .int, .int], returnType := some (.array .byte) }, accessFlags := 9, code := some k11c2 }
def k11c3 : Code := { maxStack := 3, maxLocals := 7, code := jdk_52_method_21_code, exceptionTable := #[], attributes := #[] }
def k11m3 : Method := { name := "compress", desc := "([CI[BII)I", sig := { parameters := [(.array .char), .int, (.array .byte), .int, .int], returnType := some .int }, accessFlags := 9, code := some k11c3 }
/-- java/lang/StringUTF16 -/
def k11 : Class := { plain "java/lang/StringUTF16" (some 0) with
  accessFlags := 48
  interfaces := #[]
  cf := some (fileOf pool11 12 #[.nestMembers #[627, 629, 369]] #[{ accessFlags := 0, nameIndex := 9, descriptorIndex := 10, attributes := #[] }, { accessFlags := 8, nameIndex := 261, descriptorIndex := 262, attributes := #[] }, { accessFlags := 9, nameIndex := 117, descriptorIndex := 122, attributes := #[] }, { accessFlags := 9, nameIndex := 117, descriptorIndex := 118, attributes := #[] }] 48 6 #[] #[{ accessFlags := 26, nameIndex := 61, descriptorIndex := 62, attributes := #[] }, { accessFlags := 26, nameIndex := 65, descriptorIndex := 62, attributes := #[] }, { accessFlags := 24, nameIndex := 430, descriptorIndex := 62, attributes := #[] }, { accessFlags := 4120, nameIndex := 46, descriptorIndex := 47, attributes := #[] }])
  fields := #[{ name := "HI_BYTE_SHIFT", type := .int, accessFlags := 26, slot := 0, constantValue := 0 }, { name := "LO_BYTE_SHIFT", type := .int, accessFlags := 26, slot := 1, constantValue := 0 }, { name := "MAX_LENGTH", type := .int, accessFlags := 24, slot := 2, constantValue := 0 }, { name := "$assertionsDisabled", type := .boolean, accessFlags := 4120, slot := 3, constantValue := 0 }]
  methods := #[k11m0, k11m1, k11m2, k11m3]
  instanceTypes := #[]
  staticTypes := #[.int, .int, .int, .boolean]
  resolved := Array.replicate 635 none
  statics := none }

def pool12 : Array CpInfo := pool [(2, .class_ 4), (1, u "java/lang/Object"), (0, u "<init>"), (0, u "()V"), (17, .class_ 26), (1, u "jdk/internal/util/Preconditions"), (6, u "checkIndex"), (21, .class_ 56), (0, u "jdk/internal/util/Preconditions$4"), (57, .class_ 115), (0, u "jdk/internal/util/Preconditions$1"), (7, u "SIOOBE_FORMATTER"), (0, u "Ljava/util/function/BiFunction;"), (0, .class_ 126), (0, u "jdk/internal/util/Preconditions$2"), (3, u "AIOOBE_FORMATTER"), (0, .class_ 132), (0, u "jdk/internal/util/Preconditions$3"), (3, u "IOOBE_FORMATTER"), (41, u "(IILjava/util/function/BiFunction;)I")] 15

def k12m0 : Method := { name := "<init>", desc := "()V", sig := { parameters := [], returnType := none }, accessFlags := 1, code := none }
def k12c1 : Code := { maxStack := 3, maxLocals := 3, code := jdk_41_method_11_code, exceptionTable := #[], attributes := #[] }
def k12m1 : Method := { name := "checkIndex", desc := "(IILjava/util/function/BiFunction;)I", sig := { parameters := [.int, .int, (.object "java/util/function/BiFunction")], returnType := some .int }, accessFlags := 9, code := some k12c1 }
/-- jdk/internal/util/Preconditions -/
def k12 : Class := { plain "jdk/internal/util/Preconditions" (some 0) with
  accessFlags := 33
  interfaces := #[]
  cf := some (fileOf pool12 24 #[.nestMembers #[55, 131, 125, 114]] #[{ accessFlags := 1, nameIndex := 5, descriptorIndex := 6, attributes := #[] }, { accessFlags := 9, nameIndex := 33, descriptorIndex := 178, attributes := #[] }] 33 2 #[] #[{ accessFlags := 25, nameIndex := 123, descriptorIndex := 124, attributes := #[] }, { accessFlags := 25, nameIndex := 130, descriptorIndex := 124, attributes := #[] }, { accessFlags := 25, nameIndex := 136, descriptorIndex := 124, attributes := #[] }])
  fields := #[{ name := "SIOOBE_FORMATTER", type := (.object "java/util/function/BiFunction"), accessFlags := 25, slot := 0, constantValue := 0 }, { name := "AIOOBE_FORMATTER", type := (.object "java/util/function/BiFunction"), accessFlags := 25, slot := 1, constantValue := 0 }, { name := "IOOBE_FORMATTER", type := (.object "java/util/function/BiFunction"), accessFlags := 25, slot := 2, constantValue := 0 }]
  methods := #[k12m0, k12m1]
  instanceTypes := #[]
  staticTypes := #[(.object "java/util/function/BiFunction"), (.object "java/util/function/BiFunction"), (.object "java/util/function/BiFunction")]
  resolved := Array.replicate 194 none
  statics := some 1 }

def pool13 : Array CpInfo := pool [(9, u "<init>"), (6, .class_ 18), (1, u "java/lang/Object"), (0, u "()V"), (1, .class_ 23), (1, u "jdk/internal/util/ArraysSupport"), (0, u "LOG2_ARRAY_LONG_INDEX_SCALE"), (0, u "I"), (2, u "U"), (0, u "Ljdk/internal/misc/Unsafe;"), (8, u "BIG_ENDIAN"), (0, u "Z"), (8, u "LOG2_BYTE_BIT_SIZE"), (4, u "LOG2_ARRAY_INT_INDEX_SCALE"), (54, u "JLA"), (0, u "Ljdk/internal/access/JavaLangAccess;"), (11, u "LOG2_ARRAY_BOOLEAN_INDEX_SCALE"), (9, u "LOG2_ARRAY_BYTE_INDEX_SCALE"), (5, u "LOG2_ARRAY_CHAR_INDEX_SCALE"), (5, u "LOG2_ARRAY_SHORT_INDEX_SCALE"), (18, u "LOG2_ARRAY_FLOAT_INDEX_SCALE"), (24, u "LOG2_ARRAY_DOUBLE_INDEX_SCALE"), (89, u "T_BOOLEAN"), (2, u "T_CHAR"), (1, u "T_FLOAT"), (1, u "T_DOUBLE"), (1, u "T_BYTE"), (1, u "T_SHORT"), (1, u "T_INT"), (1, u "T_LONG"), (1, u "SOFT_MAX_ARRAY_LENGTH")] 83

def k13m0 : Method := { name := "<init>", desc := "()V", sig := { parameters := [], returnType := none }, accessFlags := 2, code := none }
/-- jdk/internal/util/ArraysSupport -/
def k13 : Class := { plain "jdk/internal/util/ArraysSupport" (some 0) with
  accessFlags := 33
  interfaces := #[]
  cf := some (fileOf pool13 21 #[] #[{ accessFlags := 2, nameIndex := 9, descriptorIndex := 19, attributes := #[] }] 33 16 #[] #[{ accessFlags := 24, nameIndex := 28, descriptorIndex := 29, attributes := #[] }, { accessFlags := 26, nameIndex := 38, descriptorIndex := 39, attributes := #[] }, { accessFlags := 25, nameIndex := 121, descriptorIndex := 25, attributes := #[] }, { accessFlags := 25, nameIndex := 131, descriptorIndex := 25, attributes := #[] }, { accessFlags := 25, nameIndex := 137, descriptorIndex := 25, attributes := #[] }, { accessFlags := 25, nameIndex := 143, descriptorIndex := 25, attributes := #[] }, { accessFlags := 25, nameIndex := 53, descriptorIndex := 25, attributes := #[] }, { accessFlags := 25, nameIndex := 24, descriptorIndex := 25, attributes := #[] }, { accessFlags := 25, nameIndex := 162, descriptorIndex := 25, attributes := #[] }, { accessFlags := 25, nameIndex := 187, descriptorIndex := 25, attributes := #[] }, { accessFlags := 26, nameIndex := 48, descriptorIndex := 25, attributes := #[] }, { accessFlags := 25, nameIndex := 277, descriptorIndex := 25, attributes := #[] }, { accessFlags := 25, nameIndex := 280, descriptorIndex := 25, attributes := #[] }, { accessFlags := 25, nameIndex := 282, descriptorIndex := 25, attributes := #[] }, { accessFlags := 25, nameIndex := 284, descriptorIndex := 25, attributes := #[] }, { accessFlags := 25, nameIndex := 286, descriptorIndex := 25, attributes := #[] }, { accessFlags := 25, nameIndex := 288, descriptorIndex := 25, attributes := #[] }, { accessFlags := 25, nameIndex := 290, descriptorIndex := 25, attributes := #[] }, { accessFlags := 25, nameIndex := 292, descriptorIndex := 25, attributes := #[] }, { accessFlags := 26, nameIndex := 108, descriptorIndex := 109, attributes := #[] }, { accessFlags := 25, nameIndex := 294, descriptorIndex := 25, attributes := #[] }])
  fields := #[{ name := "U", type := (.object "jdk/internal/misc/Unsafe"), accessFlags := 24, slot := 0, constantValue := 0 }, { name := "BIG_ENDIAN", type := .boolean, accessFlags := 26, slot := 1, constantValue := 0 }, { name := "LOG2_ARRAY_BOOLEAN_INDEX_SCALE", type := .int, accessFlags := 25, slot := 2, constantValue := 0 }, { name := "LOG2_ARRAY_BYTE_INDEX_SCALE", type := .int, accessFlags := 25, slot := 3, constantValue := 0 }, { name := "LOG2_ARRAY_CHAR_INDEX_SCALE", type := .int, accessFlags := 25, slot := 4, constantValue := 0 }, { name := "LOG2_ARRAY_SHORT_INDEX_SCALE", type := .int, accessFlags := 25, slot := 5, constantValue := 0 }, { name := "LOG2_ARRAY_INT_INDEX_SCALE", type := .int, accessFlags := 25, slot := 6, constantValue := 0 }, { name := "LOG2_ARRAY_LONG_INDEX_SCALE", type := .int, accessFlags := 25, slot := 7, constantValue := 0 }, { name := "LOG2_ARRAY_FLOAT_INDEX_SCALE", type := .int, accessFlags := 25, slot := 8, constantValue := 0 }, { name := "LOG2_ARRAY_DOUBLE_INDEX_SCALE", type := .int, accessFlags := 25, slot := 9, constantValue := 0 }, { name := "LOG2_BYTE_BIT_SIZE", type := .int, accessFlags := 26, slot := 10, constantValue := 0 }, { name := "T_BOOLEAN", type := .int, accessFlags := 25, slot := 11, constantValue := 0 }, { name := "T_CHAR", type := .int, accessFlags := 25, slot := 12, constantValue := 0 }, { name := "T_FLOAT", type := .int, accessFlags := 25, slot := 13, constantValue := 0 }, { name := "T_DOUBLE", type := .int, accessFlags := 25, slot := 14, constantValue := 0 }, { name := "T_BYTE", type := .int, accessFlags := 25, slot := 15, constantValue := 0 }, { name := "T_SHORT", type := .int, accessFlags := 25, slot := 16, constantValue := 0 }, { name := "T_INT", type := .int, accessFlags := 25, slot := 17, constantValue := 0 }, { name := "T_LONG", type := .int, accessFlags := 25, slot := 18, constantValue := 0 }, { name := "JLA", type := (.object "jdk/internal/access/JavaLangAccess"), accessFlags := 26, slot := 19, constantValue := 0 }, { name := "SOFT_MAX_ARRAY_LENGTH", type := .int, accessFlags := 25, slot := 20, constantValue := 0 }]
  methods := #[k13m0]
  instanceTypes := #[]
  staticTypes := #[(.object "jdk/internal/misc/Unsafe"), .boolean, .int, .int, .int, .int, .int, .int, .int, .int, .int, .int, .int, .int, .int, .int, .int, .int, .int, (.object "jdk/internal/access/JavaLangAccess"), .int]
  resolved := Array.replicate 378 none
  statics := none }

def pool14 : Array CpInfo := pool [(1, u "java/lang/Cloneable"), (0, .class_ 1), (0, u "java/lang/Object"), (0, .class_ 3)] 3

/-- java/lang/Cloneable -/
def k14 : Class := { plain "java/lang/Cloneable" (some 0) with
  accessFlags := 1537
  interfaces := #[]
  cf := some (fileOf pool14 2 #[] #[] 1537 4 #[] #[])
  fields := #[]
  methods := #[]
  instanceTypes := #[]
  staticTypes := #[]
  resolved := Array.replicate 8 none
  statics := none }

/-- the primitive byte -/
def k15 : Class := { plain "byte" none with kind := .primitive 'B', accessFlags := 0x411 }
/-- [B -/
def k16 : Class := { plain "[B" (some 0) with kind := .array 15 .byte, interfaces := #[14, 2], accessFlags := 1041 }

/-- the primitive char -/
def k17 : Class := { plain "char" none with kind := .primitive 'C', accessFlags := 0x411 }
/-- [C -/
def k18 : Class := { plain "[C" (some 0) with kind := .array 17 .char, interfaces := #[14, 2], accessFlags := 1041 }

/-- the primitive int -/
def k19 : Class := { plain "int" none with kind := .primitive 'I', accessFlags := 0x411 }
/-- [I -/
def k20 : Class := { plain "[I" (some 0) with kind := .array 19 .int, interfaces := #[14, 2], accessFlags := 1041 }

def heap : Heap := #[{ cls := 7, slots := #[.long 0, .int 1, .null, .int 0, .null, .int 0, .int 0], vm := .statics 7 },
  { cls := 12, slots := #[.null, .null, .null], vm := .statics 12 }]
def classes : Array Class := #[k0, k1, k2, k3, k4, k5, k6, k7, k8, k9, k10, k11, k12, k13, k14, k15, k16, k17, k18, k19, k20]
def interned : List (Array UInt16 × Addr) := []
def slotsUsed : Nat := 10
def theMethod : MethodId := ⟨1, 1⟩
def args0 : Array Value := #[.int 5, .int 6, .int 7, .int 8, .int 9, .int 10]
def aboutOver (below : List Frame) : State where
  vm := { classes := classes, interned := interned.toArray }
  heap := heap
  slotsUsed := slotsUsed
  threads := #[{ frames := .invoking theMethod args0 :: below }]
def below0 : List Frame := [.native { method := ⟨0, 0⟩, args := #[] }]
def about1 : State := aboutOver below0
def p0 : Program := .bare "" "" ""
def e0 : Env := launch0.env 0 0 0
theorem w_frames : about1.frames = Frame.invoking theMethod args0 :: below0 := rfl
set_option maxRecDepth 65536 in
theorem w_args : argsFit about1.vm theMethod args0 = true := by decide +kernel
set_option maxRecDepth 65536 in
theorem w_heap : heapFits about1 = true := by decide +kernel
set_option maxRecDepth 65536 in
theorem w_runnable : about1.curStatus? = some .runnable := by decide +kernel
set_option maxRecDepth 65536 in
theorem w_alone : about1.alone = true := by decide +kernel
set_option maxRecDepth 65536 in
theorem w_named : about1.methodNamed? x = some theMethod := by decide +kernel
set_option maxRecDepth 65536 in
theorem w_hears : about1.hears theMethod below0 = true := by decide +kernel
set_option maxRecDepth 65536 in
theorem w_ripe : about1.ripe theMethod args0 below0 = true := by decide +kernel
theorem w_running : about1.status = .running := rfl
set_option maxRecDepth 65536 in
theorem w_room : about1.hasRoom e0.platform room_1 = true :=
  launch0.hasRoom_least _ room_1 (by decide +kernel) (by decide +kernel) (by decide +kernel) (by decide +kernel) (by decide +kernel) (by decide +kernel)
theorem allAtoms_all (ts : List Jvm.Cond) (a : Array Jvm.Value) (st : Jvm.State) : (allAtoms ts).before a st = ts.all (fun c => c.before a st) := by
  induction ts with
  | nil => rfl
  | cons c t ih =>
    show (Jvm.Cond.and c (allAtoms t)).before a st = _
    rw [Jvm.Cond.before_and, ih, List.all_cons]
def words1 : List Jvm.Cond := Jvm.Cond.code x code maxLocals ret :: tables_1
/-- a 'code' word, met by the world's own term for the bytes: nothing is compared byte by byte -/
theorem code_word {y : MethodName} {bytes : ByteArray} {mx : Nat} {rt : Option FieldType} {a : Array Value} {s : State} {m : MethodId} {meth : Method} {c : Code} (h1 : s.methodNamed? y = some m) (h2 : s.vm.method? m = some meth) (h3 : meth.code = some c) (h4 : c.code = bytes)
    (h5 : (c.maxLocals == mx && c.exceptionTable.isEmpty && decide (c.maxStack ≤ mostOperands) && decide (meth.sig.returnType = rt) && !meth.locks && decide (parseMethodDescriptor y.desc = some meth.sig)) = true) : (Jvm.Cond.code y bytes mx rt).before a s = true := by
  simp only [Bool.and_eq_true, beq_iff_eq, Bool.not_eq_true', decide_eq_true_eq] at h5
  obtain ⟨⟨⟨⟨⟨g1, g2⟩, g3⟩, g4⟩, g5⟩, g6⟩ := h5
  simp [Cond.before, Cond.holds, Cond.value, h1, h2, h3, h4, g1, g2, g3, g4, g5, g6]
def isCode : Jvm.Cond → Bool
  | .code _ _ _ _ => true
  | _ => false
theorem all_split {L : List Jvm.Cond} {P : Jvm.Cond → Bool} (h1 : L.all (fun c => isCode c || P c) = true) (h2 : ∀ c ∈ L.filter isCode, P c = true) : L.all P = true := by
  refine List.all_eq_true.mpr fun c hc => ?_
  have h := List.all_eq_true.mp h1 c hc
  rcases Bool.eq_false_or_eq_true (isCode c) with hi | hi
  · exact h2 c (List.mem_filter.mpr ⟨hc, hi⟩)
  · simpa [hi] using h
set_option maxRecDepth 65536 in
theorem w_c0 : (Jvm.Cond.code x code maxLocals ret).before args0 about1 = true := code_word (m := ⟨1, 1⟩) (meth := k1m1) (c := k1c1) (by decide +kernel) rfl rfl rfl (by decide +kernel)
set_option maxRecDepth 65536 in
theorem w_c1 : (Jvm.Cond.code ({ cls := "com/example/deepquery/deepquery/DebianVersionIsVersionPinLaw", name := "pick", desc := "(I)C" } : Jvm.MethodName) method_3_code (1 : Nat) (Option.some Jvm.ClassFile.FieldType.char)).before args0 about1 = true := code_word (m := ⟨1, 2⟩) (meth := k1m2) (c := k1c2) (by decide +kernel) rfl rfl rfl (by decide +kernel)
set_option maxRecDepth 65536 in
theorem w_c2 : (Jvm.Cond.code ({ cls := "com/example/deepquery/deepquery/DebianVersionIsVersionPinLaw", name := "make", desc := "(ICCCCC)Ljava/lang/String;" } : Jvm.MethodName) method_4_code (6 : Nat) (Option.some (Jvm.ClassFile.FieldType.object "java/lang/String"))).before args0 about1 = true := code_word (m := ⟨1, 3⟩) (meth := k1m3) (c := k1c3) (by decide +kernel) rfl rfl rfl (by decide +kernel)
set_option maxRecDepth 65536 in
theorem w_c3 : (Jvm.Cond.code ({ cls := "java/lang/String", name := "<init>", desc := "([C)V" } : Jvm.MethodName) jdk_42_method_3_code (2 : Nat) (Option.none : Option Jvm.ClassFile.FieldType)).before args0 about1 = true := code_word (m := ⟨7, 1⟩) (meth := k7m1) (c := k7c1) (by decide +kernel) rfl rfl rfl (by decide +kernel)
set_option maxRecDepth 65536 in
theorem w_c4 : (Jvm.Cond.code ({ cls := "java/lang/String", name := "<init>", desc := "([CIILjava/lang/Void;)V" } : Jvm.MethodName) jdk_42_method_149_code (6 : Nat) (Option.none : Option Jvm.ClassFile.FieldType)).before args0 about1 = true := code_word (m := ⟨7, 8⟩) (meth := k7m8) (c := k7c8) (by decide +kernel) rfl rfl rfl (by decide +kernel)
set_option maxRecDepth 65536 in
theorem w_c5 : (Jvm.Cond.code ({ cls := "java/lang/Object", name := "<init>", desc := "()V" } : Jvm.MethodName) object_method_1_code (1 : Nat) (Option.none : Option Jvm.ClassFile.FieldType)).before args0 about1 = true := code_word (m := ⟨0, 0⟩) (meth := k0m0) (c := k0c0) (by decide +kernel) rfl rfl rfl (by decide +kernel)
set_option maxRecDepth 65536 in
theorem w_c6 : (Jvm.Cond.code ({ cls := "com/example/deepquery/deepquery/DebianVersion", name := "isVersion", desc := "(Ljava/lang/String;)Z" } : Jvm.MethodName) prog_3_method_2_code (7 : Nat) (Option.some Jvm.ClassFile.FieldType.boolean)).before args0 about1 = true := code_word (m := ⟨8, 1⟩) (meth := k8m1) (c := k8c1) (by decide +kernel) rfl rfl rfl (by decide +kernel)
set_option maxRecDepth 65536 in
theorem w_c7 : (Jvm.Cond.code ({ cls := "java/lang/String", name := "indexOf", desc := "(I)I" } : Jvm.MethodName) jdk_42_method_79_code (2 : Nat) (Option.some Jvm.ClassFile.FieldType.int)).before args0 about1 = true := code_word (m := ⟨7, 4⟩) (meth := k7m4) (c := k7c4) (by decide +kernel) rfl rfl rfl (by decide +kernel)
set_option maxRecDepth 65536 in
theorem w_c8 : (Jvm.Cond.code ({ cls := "java/lang/String", name := "indexOf", desc := "(II)I" } : Jvm.MethodName) jdk_42_method_80_code (3 : Nat) (Option.some Jvm.ClassFile.FieldType.int)).before args0 about1 = true := code_word (m := ⟨7, 5⟩) (meth := k7m5) (c := k7c5) (by decide +kernel) rfl rfl rfl (by decide +kernel)
set_option maxRecDepth 65536 in
theorem w_c9 : (Jvm.Cond.code ({ cls := "java/lang/String", name := "isLatin1", desc := "()Z" } : Jvm.MethodName) jdk_42_method_154_code (1 : Nat) (Option.some Jvm.ClassFile.FieldType.boolean)).before args0 about1 = true := code_word (m := ⟨7, 10⟩) (meth := k7m10) (c := k7c10) (by decide +kernel) rfl rfl rfl (by decide +kernel)
set_option maxRecDepth 65536 in
theorem w_c10 : (Jvm.Cond.code ({ cls := "java/lang/String", name := "length", desc := "()I" } : Jvm.MethodName) jdk_42_method_54_code (1 : Nat) (Option.some Jvm.ClassFile.FieldType.int)).before args0 about1 = true := code_word (m := ⟨7, 2⟩) (meth := k7m2) (c := k7c2) (by decide +kernel) rfl rfl rfl (by decide +kernel)
set_option maxRecDepth 65536 in
theorem w_c11 : (Jvm.Cond.code ({ cls := "java/lang/String", name := "coder", desc := "()B" } : Jvm.MethodName) jdk_42_method_152_code (1 : Nat) (Option.some Jvm.ClassFile.FieldType.byte)).before args0 about1 = true := code_word (m := ⟨7, 9⟩) (meth := k7m9) (c := k7c9) (by decide +kernel) rfl rfl rfl (by decide +kernel)
set_option maxRecDepth 65536 in
theorem w_c12 : (Jvm.Cond.code ({ cls := "java/lang/StringLatin1", name := "indexOf", desc := "([BIII)I" } : Jvm.MethodName) jdk_43_method_22_code (4 : Nat) (Option.some Jvm.ClassFile.FieldType.int)).before args0 about1 = true := code_word (m := ⟨9, 3⟩) (meth := k9m3) (c := k9c3) (by decide +kernel) rfl rfl rfl (by decide +kernel)
set_option maxRecDepth 65536 in
theorem w_c13 : (Jvm.Cond.code ({ cls := "java/lang/StringLatin1", name := "canEncode", desc := "(I)Z" } : Jvm.MethodName) jdk_43_method_4_code (1 : Nat) (Option.some Jvm.ClassFile.FieldType.boolean)).before args0 about1 = true := code_word (m := ⟨9, 2⟩) (meth := k9m2) (c := k9c2) (by decide +kernel) rfl rfl rfl (by decide +kernel)
set_option maxRecDepth 65536 in
theorem w_c14 : (Jvm.Cond.code ({ cls := "java/lang/Math", name := "max", desc := "(II)I" } : Jvm.MethodName) jdk_29_method_65_code (2 : Nat) (Option.some Jvm.ClassFile.FieldType.int)).before args0 about1 = true := code_word (m := ⟨10, 1⟩) (meth := k10m1) (c := k10c1) (by decide +kernel) rfl rfl rfl (by decide +kernel)
set_option maxRecDepth 65536 in
theorem w_c15 : (Jvm.Cond.code ({ cls := "java/lang/Math", name := "min", desc := "(II)I" } : Jvm.MethodName) jdk_29_method_69_code (2 : Nat) (Option.some Jvm.ClassFile.FieldType.int)).before args0 about1 = true := code_word (m := ⟨10, 2⟩) (meth := k10m2) (c := k10c2) (by decide +kernel) rfl rfl rfl (by decide +kernel)
set_option maxRecDepth 65536 in
theorem w_c16 : (Jvm.Cond.code ({ cls := "java/lang/String", name := "lastIndexOf", desc := "(I)I" } : Jvm.MethodName) jdk_42_method_82_code (2 : Nat) (Option.some Jvm.ClassFile.FieldType.int)).before args0 about1 = true := code_word (m := ⟨7, 6⟩) (meth := k7m6) (c := k7c6) (by decide +kernel) rfl rfl rfl (by decide +kernel)
set_option maxRecDepth 65536 in
theorem w_c17 : (Jvm.Cond.code ({ cls := "java/lang/String", name := "lastIndexOf", desc := "(II)I" } : Jvm.MethodName) jdk_42_method_83_code (3 : Nat) (Option.some Jvm.ClassFile.FieldType.int)).before args0 about1 = true := code_word (m := ⟨7, 7⟩) (meth := k7m7) (c := k7c7) (by decide +kernel) rfl rfl rfl (by decide +kernel)
set_option maxRecDepth 65536 in
theorem w_c18 : (Jvm.Cond.code ({ cls := "java/lang/StringLatin1", name := "lastIndexOf", desc := "([BII)I" } : Jvm.MethodName) jdk_43_method_27_code (4 : Nat) (Option.some Jvm.ClassFile.FieldType.int)).before args0 about1 = true := code_word (m := ⟨9, 5⟩) (meth := k9m5) (c := k9c5) (by decide +kernel) rfl rfl rfl (by decide +kernel)
set_option maxRecDepth 65536 in
theorem w_c19 : (Jvm.Cond.code ({ cls := "java/lang/StringUTF16", name := "compress", desc := "([CII)[B" } : Jvm.MethodName) jdk_52_method_16_code (6 : Nat) (Option.some (Jvm.ClassFile.FieldType.array Jvm.ClassFile.FieldType.byte))).before args0 about1 = true := code_word (m := ⟨11, 2⟩) (meth := k11m2) (c := k11c2) (by decide +kernel) rfl rfl rfl (by decide +kernel)
set_option maxRecDepth 65536 in
theorem w_c20 : (Jvm.Cond.code ({ cls := "java/lang/StringUTF16", name := "compress", desc := "([CI[BII)I" } : Jvm.MethodName) jdk_52_method_21_code (7 : Nat) (Option.some Jvm.ClassFile.FieldType.int)).before args0 about1 = true := code_word (m := ⟨11, 3⟩) (meth := k11m3) (c := k11c3) (by decide +kernel) rfl rfl rfl (by decide +kernel)
set_option maxRecDepth 65536 in
theorem w_c21 : (Jvm.Cond.code ({ cls := "java/lang/StringUTF16", name := "coderFromArrayLen", desc := "([BI)B" } : Jvm.MethodName) jdk_52_method_15_code (2 : Nat) (Option.some Jvm.ClassFile.FieldType.byte)).before args0 about1 = true := code_word (m := ⟨11, 1⟩) (meth := k11m1) (c := k11c1) (by decide +kernel) rfl rfl rfl (by decide +kernel)
set_option maxRecDepth 65536 in
theorem w_c22 : (Jvm.Cond.code ({ cls := "com/example/deepquery/deepquery/DebianVersionIsVersionPinLaw", name := "step", desc := "(IC)I" } : Jvm.MethodName) method_6_code (3 : Nat) (Option.some Jvm.ClassFile.FieldType.int)).before args0 about1 = true := code_word (m := ⟨1, 5⟩) (meth := k1m5) (c := k1c5) (by decide +kernel) rfl rfl rfl (by decide +kernel)
set_option maxRecDepth 65536 in
theorem w_c23 : (Jvm.Cond.code ({ cls := "com/example/deepquery/deepquery/DebianVersionIsVersionPinLaw", name := "kind", desc := "(C)I" } : Jvm.MethodName) method_5_code (1 : Nat) (Option.some Jvm.ClassFile.FieldType.int)).before args0 about1 = true := code_word (m := ⟨1, 4⟩) (meth := k1m4) (c := k1c4) (by decide +kernel) rfl rfl rfl (by decide +kernel)
set_option maxRecDepth 65536 in
theorem w_c24 : (Jvm.Cond.code ({ cls := "java/lang/StringLatin1", name := "indexOfChar", desc := "([BIII)I" } : Jvm.MethodName) jdk_43_method_23_code (6 : Nat) (Option.some Jvm.ClassFile.FieldType.int)).before args0 about1 = true := code_word (m := ⟨9, 4⟩) (meth := k9m4) (c := k9c4) (by decide +kernel) rfl rfl rfl (by decide +kernel)
set_option maxRecDepth 65536 in
theorem w_c25 : (Jvm.Cond.code ({ cls := "com/example/deepquery/deepquery/DebianVersion", name := "holdsOnly", desc := "(Ljava/lang/String;IIZLjava/lang/String;)Z" } : Jvm.MethodName) prog_3_method_4_code (7 : Nat) (Option.some Jvm.ClassFile.FieldType.boolean)).before args0 about1 = true := code_word (m := ⟨8, 2⟩) (meth := k8m2) (c := k8c2) (by decide +kernel) rfl rfl rfl (by decide +kernel)
set_option maxRecDepth 65536 in
theorem w_c26 : (Jvm.Cond.code ({ cls := "java/lang/String", name := "charAt", desc := "(I)C" } : Jvm.MethodName) jdk_42_method_56_code (2 : Nat) (Option.some Jvm.ClassFile.FieldType.char)).before args0 about1 = true := code_word (m := ⟨7, 3⟩) (meth := k7m3) (c := k7c3) (by decide +kernel) rfl rfl rfl (by decide +kernel)
set_option maxRecDepth 65536 in
theorem w_c27 : (Jvm.Cond.code ({ cls := "java/lang/StringLatin1", name := "charAt", desc := "([BI)C" } : Jvm.MethodName) jdk_43_method_2_code (2 : Nat) (Option.some Jvm.ClassFile.FieldType.char)).before args0 about1 = true := code_word (m := ⟨9, 1⟩) (meth := k9m1) (c := k9c1) (by decide +kernel) rfl rfl rfl (by decide +kernel)
set_option maxRecDepth 65536 in
theorem w_c28 : (Jvm.Cond.code ({ cls := "java/lang/String", name := "checkIndex", desc := "(II)V" } : Jvm.MethodName) jdk_42_method_155_code (2 : Nat) (Option.none : Option Jvm.ClassFile.FieldType)).before args0 about1 = true := code_word (m := ⟨7, 11⟩) (meth := k7m11) (c := k7c11) (by decide +kernel) rfl rfl rfl (by decide +kernel)
set_option maxRecDepth 65536 in
theorem w_c29 : (Jvm.Cond.code ({ cls := "jdk/internal/util/Preconditions", name := "checkIndex", desc := "(IILjava/util/function/BiFunction;)I" } : Jvm.MethodName) jdk_41_method_11_code (3 : Nat) (Option.some Jvm.ClassFile.FieldType.int)).before args0 about1 = true := code_word (m := ⟨12, 1⟩) (meth := k12m1) (c := k12c1) (by decide +kernel) rfl rfl rfl (by decide +kernel)
set_option maxRecDepth 65536 in
theorem w_c30 : (Jvm.Cond.code ({ cls := "com/example/deepquery/deepquery/DebianVersion", name := "isDigit", desc := "(C)Z" } : Jvm.MethodName) prog_3_method_12_code (1 : Nat) (Option.some Jvm.ClassFile.FieldType.boolean)).before args0 about1 = true := code_word (m := ⟨8, 4⟩) (meth := k8m4) (c := k8c4) (by decide +kernel) rfl rfl rfl (by decide +kernel)
set_option maxRecDepth 65536 in
theorem w_c31 : (Jvm.Cond.code ({ cls := "com/example/deepquery/deepquery/DebianVersion", name := "isLetter", desc := "(C)Z" } : Jvm.MethodName) prog_3_method_11_code (1 : Nat) (Option.some Jvm.ClassFile.FieldType.boolean)).before args0 about1 = true := code_word (m := ⟨8, 3⟩) (meth := k8m3) (c := k8c3) (by decide +kernel) rfl rfl rfl (by decide +kernel)
def codes1 : List Jvm.Cond := [Jvm.Cond.code x code maxLocals ret, Jvm.Cond.code ({ cls := "com/example/deepquery/deepquery/DebianVersionIsVersionPinLaw", name := "pick", desc := "(I)C" } : Jvm.MethodName) method_3_code (1 : Nat) (Option.some Jvm.ClassFile.FieldType.char), Jvm.Cond.code ({ cls := "com/example/deepquery/deepquery/DebianVersionIsVersionPinLaw", name := "make", desc := "(ICCCCC)Ljava/lang/String;" } : Jvm.MethodName) method_4_code (6 : Nat) (Option.some (Jvm.ClassFile.FieldType.object "java/lang/String")), Jvm.Cond.code ({ cls := "java/lang/String", name := "<init>", desc := "([C)V" } : Jvm.MethodName) jdk_42_method_3_code (2 : Nat) (Option.none : Option Jvm.ClassFile.FieldType), Jvm.Cond.code ({ cls := "java/lang/String", name := "<init>", desc := "([CIILjava/lang/Void;)V" } : Jvm.MethodName) jdk_42_method_149_code (6 : Nat) (Option.none : Option Jvm.ClassFile.FieldType), Jvm.Cond.code ({ cls := "java/lang/Object", name := "<init>", desc := "()V" } : Jvm.MethodName) object_method_1_code (1 : Nat) (Option.none : Option Jvm.ClassFile.FieldType), Jvm.Cond.code ({ cls := "com/example/deepquery/deepquery/DebianVersion", name := "isVersion", desc := "(Ljava/lang/String;)Z" } : Jvm.MethodName) prog_3_method_2_code (7 : Nat) (Option.some Jvm.ClassFile.FieldType.boolean), Jvm.Cond.code ({ cls := "java/lang/String", name := "indexOf", desc := "(I)I" } : Jvm.MethodName) jdk_42_method_79_code (2 : Nat) (Option.some Jvm.ClassFile.FieldType.int), Jvm.Cond.code ({ cls := "java/lang/String", name := "indexOf", desc := "(II)I" } : Jvm.MethodName) jdk_42_method_80_code (3 : Nat) (Option.some Jvm.ClassFile.FieldType.int), Jvm.Cond.code ({ cls := "java/lang/String", name := "isLatin1", desc := "()Z" } : Jvm.MethodName) jdk_42_method_154_code (1 : Nat) (Option.some Jvm.ClassFile.FieldType.boolean), Jvm.Cond.code ({ cls := "java/lang/String", name := "length", desc := "()I" } : Jvm.MethodName) jdk_42_method_54_code (1 : Nat) (Option.some Jvm.ClassFile.FieldType.int), Jvm.Cond.code ({ cls := "java/lang/String", name := "coder", desc := "()B" } : Jvm.MethodName) jdk_42_method_152_code (1 : Nat) (Option.some Jvm.ClassFile.FieldType.byte), Jvm.Cond.code ({ cls := "java/lang/StringLatin1", name := "indexOf", desc := "([BIII)I" } : Jvm.MethodName) jdk_43_method_22_code (4 : Nat) (Option.some Jvm.ClassFile.FieldType.int), Jvm.Cond.code ({ cls := "java/lang/StringLatin1", name := "canEncode", desc := "(I)Z" } : Jvm.MethodName) jdk_43_method_4_code (1 : Nat) (Option.some Jvm.ClassFile.FieldType.boolean), Jvm.Cond.code ({ cls := "java/lang/Math", name := "max", desc := "(II)I" } : Jvm.MethodName) jdk_29_method_65_code (2 : Nat) (Option.some Jvm.ClassFile.FieldType.int), Jvm.Cond.code ({ cls := "java/lang/Math", name := "min", desc := "(II)I" } : Jvm.MethodName) jdk_29_method_69_code (2 : Nat) (Option.some Jvm.ClassFile.FieldType.int), Jvm.Cond.code ({ cls := "java/lang/String", name := "lastIndexOf", desc := "(I)I" } : Jvm.MethodName) jdk_42_method_82_code (2 : Nat) (Option.some Jvm.ClassFile.FieldType.int), Jvm.Cond.code ({ cls := "java/lang/String", name := "lastIndexOf", desc := "(II)I" } : Jvm.MethodName) jdk_42_method_83_code (3 : Nat) (Option.some Jvm.ClassFile.FieldType.int), Jvm.Cond.code ({ cls := "java/lang/StringLatin1", name := "lastIndexOf", desc := "([BII)I" } : Jvm.MethodName) jdk_43_method_27_code (4 : Nat) (Option.some Jvm.ClassFile.FieldType.int), Jvm.Cond.code ({ cls := "java/lang/StringUTF16", name := "compress", desc := "([CII)[B" } : Jvm.MethodName) jdk_52_method_16_code (6 : Nat) (Option.some (Jvm.ClassFile.FieldType.array Jvm.ClassFile.FieldType.byte)), Jvm.Cond.code ({ cls := "java/lang/StringUTF16", name := "compress", desc := "([CI[BII)I" } : Jvm.MethodName) jdk_52_method_21_code (7 : Nat) (Option.some Jvm.ClassFile.FieldType.int), Jvm.Cond.code ({ cls := "java/lang/StringUTF16", name := "coderFromArrayLen", desc := "([BI)B" } : Jvm.MethodName) jdk_52_method_15_code (2 : Nat) (Option.some Jvm.ClassFile.FieldType.byte), Jvm.Cond.code ({ cls := "com/example/deepquery/deepquery/DebianVersionIsVersionPinLaw", name := "step", desc := "(IC)I" } : Jvm.MethodName) method_6_code (3 : Nat) (Option.some Jvm.ClassFile.FieldType.int), Jvm.Cond.code ({ cls := "com/example/deepquery/deepquery/DebianVersionIsVersionPinLaw", name := "kind", desc := "(C)I" } : Jvm.MethodName) method_5_code (1 : Nat) (Option.some Jvm.ClassFile.FieldType.int), Jvm.Cond.code ({ cls := "java/lang/StringLatin1", name := "indexOfChar", desc := "([BIII)I" } : Jvm.MethodName) jdk_43_method_23_code (6 : Nat) (Option.some Jvm.ClassFile.FieldType.int), Jvm.Cond.code ({ cls := "com/example/deepquery/deepquery/DebianVersion", name := "holdsOnly", desc := "(Ljava/lang/String;IIZLjava/lang/String;)Z" } : Jvm.MethodName) prog_3_method_4_code (7 : Nat) (Option.some Jvm.ClassFile.FieldType.boolean), Jvm.Cond.code ({ cls := "java/lang/String", name := "charAt", desc := "(I)C" } : Jvm.MethodName) jdk_42_method_56_code (2 : Nat) (Option.some Jvm.ClassFile.FieldType.char), Jvm.Cond.code ({ cls := "java/lang/StringLatin1", name := "charAt", desc := "([BI)C" } : Jvm.MethodName) jdk_43_method_2_code (2 : Nat) (Option.some Jvm.ClassFile.FieldType.char), Jvm.Cond.code ({ cls := "java/lang/String", name := "checkIndex", desc := "(II)V" } : Jvm.MethodName) jdk_42_method_155_code (2 : Nat) (Option.none : Option Jvm.ClassFile.FieldType), Jvm.Cond.code ({ cls := "jdk/internal/util/Preconditions", name := "checkIndex", desc := "(IILjava/util/function/BiFunction;)I" } : Jvm.MethodName) jdk_41_method_11_code (3 : Nat) (Option.some Jvm.ClassFile.FieldType.int), Jvm.Cond.code ({ cls := "com/example/deepquery/deepquery/DebianVersion", name := "isDigit", desc := "(C)Z" } : Jvm.MethodName) prog_3_method_12_code (1 : Nat) (Option.some Jvm.ClassFile.FieldType.boolean), Jvm.Cond.code ({ cls := "com/example/deepquery/deepquery/DebianVersion", name := "isLetter", desc := "(C)Z" } : Jvm.MethodName) prog_3_method_11_code (1 : Nat) (Option.some Jvm.ClassFile.FieldType.boolean)]
set_option maxRecDepth 65536 in
theorem codes_eq : words1.filter isCode = codes1 := rfl
theorem w_codes : ∀ c ∈ words1.filter isCode, c.before args0 about1 = true := by
  rw [codes_eq]
  intro c hc
  simp only [codes1, List.mem_cons, List.not_mem_nil, or_false] at hc
  rcases hc with rfl | rfl | rfl | rfl | rfl | rfl | rfl | rfl | rfl | rfl | rfl | rfl | rfl | rfl | rfl | rfl | rfl | rfl | rfl | rfl | rfl | rfl | rfl | rfl | rfl | rfl | rfl | rfl | rfl | rfl | rfl | rfl
  · exact w_c0
  · exact w_c1
  · exact w_c2
  · exact w_c3
  · exact w_c4
  · exact w_c5
  · exact w_c6
  · exact w_c7
  · exact w_c8
  · exact w_c9
  · exact w_c10
  · exact w_c11
  · exact w_c12
  · exact w_c13
  · exact w_c14
  · exact w_c15
  · exact w_c16
  · exact w_c17
  · exact w_c18
  · exact w_c19
  · exact w_c20
  · exact w_c21
  · exact w_c22
  · exact w_c23
  · exact w_c24
  · exact w_c25
  · exact w_c26
  · exact w_c27
  · exact w_c28
  · exact w_c29
  · exact w_c30
  · exact w_c31
set_option maxRecDepth 65536 in
theorem w_t1 : (words1.take 24).all (fun c => isCode c || c.before args0 about1) = true := by decide +kernel
set_option maxRecDepth 65536 in
theorem w_t2 : ((words1.drop 24).take 24).all (fun c => isCode c || c.before args0 about1) = true := by decide +kernel
set_option maxRecDepth 65536 in
theorem w_t3 : (((words1.drop 24).drop 24).take 24).all (fun c => isCode c || c.before args0 about1) = true := by decide +kernel
set_option maxRecDepth 65536 in
theorem w_t4 : ((((words1.drop 24).drop 24).drop 24).take 24).all (fun c => isCode c || c.before args0 about1) = true := by decide +kernel
set_option maxRecDepth 65536 in
theorem w_t5 : (((((words1.drop 24).drop 24).drop 24).drop 24).take 24).all (fun c => isCode c || c.before args0 about1) = true := by decide +kernel
set_option maxRecDepth 65536 in
theorem w_t6 : (((((words1.drop 24).drop 24).drop 24).drop 24).drop 24).all (fun c => isCode c || c.before args0 about1) = true := by decide +kernel
theorem w_tables : (allAtoms (Jvm.Cond.code x code maxLocals ret :: tables_1)).before args0 about1 = true := by
  rw [allAtoms_all]
  show words1.all (fun c => c.before args0 about1) = true
  refine all_split ?_ w_codes
  rw [← List.take_append_drop 24 words1, List.all_append, w_t1, ← List.take_append_drop 24 (words1.drop 24), List.all_append, w_t2, ← List.take_append_drop 24 ((words1.drop 24).drop 24), List.all_append, w_t3, ← List.take_append_drop 24 (((words1.drop 24).drop 24).drop 24), List.all_append, w_t4, ← List.take_append_drop 24 ((((words1.drop 24).drop 24).drop 24).drop 24), List.all_append, w_t5, w_t6]
  rfl
set_option maxRecDepth 65536 in
theorem w_rest : rest_1_c.before args0 about1 = true := by decide +kernel
set_option maxRecDepth 65536 in
theorem w_case : (Jvm.Cond.and given_1 narrow_1).before args0 about1 = true := by decide +kernel
set_option maxRecDepth 65536 in
theorem w_consts : constsHeld consts_1 about1 := Jvm.Lit.constsHeldB_iff.mp (by decide +kernel)
theorem w_applies : (headSpec (Jvm.Cond.code x code maxLocals ret :: tables_1) room_1).applies x e0.platform about1 = true :=
  (Spec.applies_iff w_frames).mpr ⟨w_running, w_runnable, w_alone, w_named, w_hears, w_ripe, w_room, w_tables⟩
theorem atStart : AtStart classFile x code maxLocals ret World_1 tables_1 room_1 Calls_1 rest_1 Pre_1 launch0 p0 e0 about1 theMethod args0 below0 :=
  ⟨lists_1, trivial, launch0.admits_env _ _ _, launch0.least_env, fairChoices_fair.cas, fairChoices_fair.clock, w_frames, w_args, w_heap, w_applies, ⟨w_consts, trivial⟩, w_rest, w_case⟩
end start1
theorem witness_1 : WitnessClaimed_1 := ⟨start1.p0, start1.e0, start1.about1, start1.theMethod, start1.args0, start1.below0, start1.atStart⟩
end Jvm.Pilot.@@N@@
