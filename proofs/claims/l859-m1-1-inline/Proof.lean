import JvmDerived
import JvmDerived.Pilot.@@N@@Statement
import JvmDerived.Pilot.@@N@@Code
set_option linter.unusedVariables false
set_option linter.unusedSimpArgs false
namespace Jvm.Own
open Sem ClassFile Op Lib Jvm.Stand Jvm.Free Jvm.LawKit Jvm.RoadKit Bundle
section K
variable {p : Program} {l : Launch} {e : Env} {R : Room} {s : State} {m : MethodId} {args : Array Value} {below : List Frame} {meth : Method} {c : Code} {Z : State} {a0 : Array Value} {EL : List (String × Nat)} {pr : Bool} {y : MethodName} {bs : ByteArray} {ml : Nat} {rt : Option FieldType} {T : State} {vm0 : Vm} {h : Heap} {k n : Nat} {Φ : Outcome → State → Prop} {Ls : Array Slot} {st : List Value} {pc q : Nat}
/-- from U the run comes to its end, and Φ holds there -/
def Go (p : Program) (e : Env) (below : List Frame) (Φ : Outcome → State → Prop) (U : State) : Prop := ∃ s₂ o, Steps p.tables e below U s₂ ∧ s₂.status = .running ∧ Ended s₂ below o ∧ Φ o s₂
theorem Go.pre {U U' : State} (hr : Go p e below Φ U') (g : ∀ t, Steps p.tables e below U' t → Steps p.tables e below U t) : Go p e below Φ U := by
  obtain ⟨s2, o, h1, r⟩ := hr; exact ⟨s2, o, g _ h1, r⟩
theorem Go.pre' {U U' : State} (hr : Go p e below Φ U') (g : Steps p.tables e below U U') : Go p e below Φ U := hr.pre fun _ r => g.trans r
/-- where a walk stands: the tables vm0 since the last step that may have interned; only new places were written; what the start's heap held stands -/
def Wk (p : Program) (l : Launch) (e : Env) (R : Room) (s : State) (m : MethodId) (args : Array Value) (below : List Frame) (meth : Method) (c : Code) (Z : State) (a0 : Array Value) (EL : List (String × Nat)) (pr : Bool) (y : MethodName) (bs : ByteArray) (ml : Nat) (rt : Option FieldType) (T : State) (vm0 : Vm) (h : Heap) (k n : Nat) : Prop :=
  (p.tables.exec = Jvm.exec ∧ c.code = bs ∧ c.maxLocals = ml ∧ meth.sig.returnType = rt ∧ meth.locks = false ∧ meth.name = y.name ∧ EW Z a0 EL) ∧
  ∃ (k0 : Nat) (locs : List Loc), Stand p l e R (s.setVm vm0) m args below meth c T locs k n ∧ T.heap = h ∧ Z.Warmed39 vm0 ∧ vm0.findClass y.cls = some m.cls ∧ s.Since vm0 k0 ∧ k0 ≤ h.size ∧ Fr Z.heap.size locs ∧ CHr Z EL s.vm s.heap vm0 h ∧ Ext Z.heap h ∧ (pr = true → s.WarmedH vm0)
abbrev WkT (p : Program) (l : Launch) (e : Env) (R : Room) (s : State) (m : MethodId) (args : Array Value) (below : List Frame) (meth : Method) (c : Code) (Z : State) (a0 : Array Value) (EL : List (String × Nat)) (pr : Bool) (y : MethodName) (bs : ByteArray) (ml : Nat) (rt : Option FieldType) := Wk p l e R s m args below meth c Z a0 EL pr y bs ml rt
theorem Wk.here (w : Wk p l e R s m args below meth c Z a0 EL pr y bs ml rt T vm0 h k n) : At T m c below := by obtain ⟨-, _, _, X, -⟩ := w; exact X.here
theorem Wk.hx (w : Wk p l e R s m args below meth c Z a0 EL pr y bs ml rt T vm0 h k n) : p.tables.exec = Jvm.exec := w.1.1
theorem Wk.b (w : Wk p l e R s m args below meth c Z a0 EL pr y bs ml rt T vm0 h k n) {r : Except DecodeError (Instr × Nat)} (hd : decode bs pc = r) : decode c.code pc = r := hb w.1.2.1 hd
theorem Wk.old (w : Wk p l e R s m args below meth c Z a0 EL pr y bs ml rt T vm0 h k n) : Ext Z.heap h := by obtain ⟨-, _, _, -, -, -, -, -, -, -, -, O, -⟩ := w; exact O
theorem Wk.wz (w : Wk p l e R s m args below meth c Z a0 EL pr y bs ml rt T vm0 h k n) : Z.Warmed39 vm0 := by obtain ⟨-, _, _, -, -, hZ, -⟩ := w; exact hZ
theorem Wk.chv (w : Wk p l e R s m args below meth c Z a0 EL pr y bs ml rt T vm0 h k n) : CHv Z EL vm0 h := by obtain ⟨-, _, _, -, -, -, -, -, -, -, C, -⟩ := w; exact C.1
theorem Wk.safe (w : Wk p l e R s m args below meth c Z a0 EL pr y bs ml rt T vm0 h k n) {a : Addr} {C : String} (E : Exa Z h a C) (h1 : C ≠ "java/lang/String") (h2 : C ≠ "[B") : Safe Z EL vm0 h a := Safe.exa w.wz.alike E h1 h2
/-- how a body ends: it returned v, Q holds of v and the heap -/
def Fini (Z : State) (EL : List (String × Nat)) (pr : Bool) (kc ks : Nat) (Q : Option Value → Heap → Prop) (s : State) (o : Outcome) (t : State) : Prop :=
  ∃ v L, o = .returned v ∧ Q v t.heap ∧ Ext Z.heap t.heap ∧ Fr Z.heap.size L ∧ CHr Z EL s.vm s.heap t.vm t.heap ∧ (pr = true → s.WarmedH t.vm) ∧ ReturnedEndW s o t L kc ks
/-- a body's contract: called with these arguments at the heap h it returns, and Q holds -/
def Con (l : Launch) (Z : State) (EL : List (String × Nat)) (pr : Bool) (y : MethodName) (bs : ByteArray) (ml : Nat) (rt : Option FieldType) (ws : List Cond) (rm : Room) (as' : Array Value) (sf : List Addr) (h : Heap) (Q : Option Value → Heap → Prop) : Prop :=
  MetFree l y (head1 (Cond.code y bs ml rt :: ws) rm) (fun a U => a = as' ∧ Z.Warmed39 U.vm ∧ U.heap = h ∧ CHv Z EL U.vm h ∧ ∀ x ∈ sf, Safe Z EL U.vm h x) (fun _ _ _ _ _ => True) (fun _ U o U' => Fini Z EL pr rm.cells rm.slots Q U o U')
theorem Con.intro {ws : List Cond} {rm : Room} {as' : Array Value} {sf : List Addr} {Q : Option Value → Heap → Prop} (hpl : plainFor y = true) (hEL : EW Z a0 EL) (hO : Ext Z.heap h) (hef : ∀ m, entryFrame m as' ml = mkF m 0 Ls [])
    (body : ∀ (p : Program) (e : Env) (s : State) (m : MethodId) (below : List Frame) (meth : Method) (c : Code) (T : State), Wk p l e rm s m as' below meth c Z a0 EL pr y bs ml rt T s.vm h 0 0 → (∀ x ∈ sf, Safe Z EL s.vm h x) → Go p e below (Fini Z EL pr rm.cells rm.slots Q s) (T.setTop (mkF m 0 Ls []))) :
    Con l Z EL pr y bs ml rt ws rm as' sf h Q := by
  refine MetFree.of_bodySF hpl hisR ?_
  intro p e s m args below meth c s₁ Bd hml0 hP hK
  obtain ⟨rfl, hZ, hh, hC, hsf⟩ := hP
  have X0 : Stand p l e rm s m args below meth c s₁ [] 0 0 := Stand.of_body Bd
  have e0 : s₁.heap = h := by rw [← hh, Bd.state]; rfl
  have hown : s.vm.findClass y.cls = some m.cls := findClass_of_methodNamed Bd.named
  have hnm := (name_of_methodNamed Bd.named Bd.method).1
  have w : Wk p l e rm s m args below meth c Z a0 EL pr y bs ml rt s₁ s.vm h 0 0 :=
    ⟨⟨Bd.exec, Bd.bytes, hml0, Bd.returns, Bd.notSynchronized, hnm, hEL⟩, h.size, [], X0, e0, hZ, hown, (State.WarmedH.refl s).since _, Nat.le_refl _, Fr.nil _, by subst hh; exact CHr.refl hC, hO, fun _ => State.WarmedH.refl s⟩
  have q := body p e s m below meth c s₁ w hsf
  rw [← hef] at q
  exact q
/-- the two ends of a walk joined -/
theorem Wk.fin (w : Wk p l e R s m args below meth c Z a0 EL pr y bs ml rt T vm0 h k n) {Q : Option Value → Heap → Prop} {v : Option Value} (hv : rt = none → v = none) (hk : k ≤ R.cells) (hn : n ≤ R.slots) (hQ : Q v h) :
    ∃ fs, (∀ (f : JFrame) (acts : List Action), f.method = m → f.locked = none → f.entered = [] → (doReturn e (T.setTop f) acts v).1 = T.setFrames fs) ∧ (T.setFrames fs).status = .running ∧ Ended (T.setFrames fs) below (.returned v) ∧ Fini Z EL pr R.cells R.slots Q s (.returned v) (T.setFrames fs) := by
  obtain ⟨⟨hx, hb1, hml, hrt, hlk, hnm, hEL⟩, k0, locs, X, rfl, hZ, hown, hS, hk0, N, C, O, hpr⟩ := w
  obtain ⟨fs, hr, hrun, hended, e1, e2, e3, e4⟩ := X.leaveW hS hk0 (v := v) (fun q => hv (hrt.symm.trans q)) hlk
  exact ⟨fs, hr, hrun, hended, v, locs, rfl, hQ, O, N, C.trans (show CHr Z EL vm0 T.heap T.vm T.heap from CHv.at X hZ hEL C.1), fun q => State.WarmedH.trans (t := s.setVm vm0) (hpr q) X.warmed, e1, e2, e3, e4.mono hk hn⟩
/-- a value is returned -/
theorem g_ret (w : Wk p l e R s m args below meth c Z a0 EL pr y bs ml rt T vm0 h k n) {Q : Option Value → Heap → Prop} {t : FieldType} {i : Instr} {v : Value} (hd : decode bs pc = .ok (i, 1)) (ht : rt = some t) (hn : narrow t v = v)
    (hi : (i = .ireturn ∧ (t = .int ∨ t = .boolean ∨ t = .byte ∨ t = .char ∨ t = .short) ∧ ∃ z, v = .int z) ∨ (i = .lreturn ∧ t = .long ∧ ∃ z, v = .long z) ∨ (i = .dreturn ∧ t = .double ∧ ∃ z, v = .double z) ∨ (i = .freturn ∧ t = .float ∧ ∃ z, v = .float z) ∨ (i = .areturn ∧ t.isReference = true ∧ v.isRef = true))
    (hk : k ≤ R.cells) (hn' : n ≤ R.slots) (hQ : Q (some v) h) : Go p e below (Fini Z EL pr R.cells R.slots Q s) (T.setTop (mkF m pc Ls (v :: st))) := by
  obtain ⟨fs, hr, hrun, hended, hf⟩ := w.fin (v := some v) (fun q => by rw [ht] at q; cases q) hk hn' hQ
  obtain ⟨⟨hx, hb1, hml, hrt, -⟩, _, _, X, -⟩ := w
  exact ⟨_, _, retOut X hx (hrt.trans ht) hn hi (hb hb1 hd) hr, hrun, hended, hf⟩
theorem g_reti (w : Wk p l e R s m args below meth c Z a0 EL pr y bs ml rt T vm0 h k n) {Q : Option Value → Heap → Prop} {z : Int32} (hd : decode bs pc = .ok (.ireturn, 1)) (ht : rt = some .int) (hk : k ≤ R.cells) (hn : n ≤ R.slots) (hQ : Q (some (.int z)) h) : Go p e below (Fini Z EL pr R.cells R.slots Q s) (T.setTop (mkF m pc Ls (.int z :: st))) :=
  g_ret w hd ht rfl (Or.inl ⟨rfl, Or.inl rfl, _, rfl⟩) hk hn hQ
theorem g_retl (w : Wk p l e R s m args below meth c Z a0 EL pr y bs ml rt T vm0 h k n) {Q : Option Value → Heap → Prop} {z : Int64} (hd : decode bs pc = .ok (.lreturn, 1)) (ht : rt = some .long) (hk : k ≤ R.cells) (hn : n ≤ R.slots) (hQ : Q (some (.long z)) h) : Go p e below (Fini Z EL pr R.cells R.slots Q s) (T.setTop (mkF m pc Ls (.long z :: st))) :=
  g_ret w hd ht rfl (Or.inr (Or.inl ⟨rfl, rfl, _, rfl⟩)) hk hn hQ
/-- a boolean, byte, char or short is returned: it is narrowed -/
theorem g_retn (w : Wk p l e R s m args below meth c Z a0 EL pr y bs ml rt T vm0 h k n) {Q : Option Value → Heap → Prop} {t : FieldType} {z z' : Int32} (hd : decode bs pc = .ok (.ireturn, 1)) (ht : rt = some t) (hs : t = .boolean ∨ t = .byte ∨ t = .char ∨ t = .short) (hz : nar t z = z') (hk : k ≤ R.cells) (hn : n ≤ R.slots) (hQ : Q (some (.int z')) h) :
    Go p e below (Fini Z EL pr R.cells R.slots Q s) (T.setTop (mkF m pc Ls (.int z :: st))) := by
  subst hz
  obtain ⟨fs, hr, hrun, hended, hf⟩ := w.fin (v := some (.int (nar t z))) (fun q => by rw [ht] at q; cases q) hk hn hQ
  obtain ⟨⟨hx, hb1, hml, hrt, -⟩, _, _, X, -⟩ := w
  exact ⟨_, _, retN X hx (hrt.trans ht) hs (hb hb1 hd) hr, hrun, hended, hf⟩
theorem g_reta (w : Wk p l e R s m args below meth c Z a0 EL pr y bs ml rt T vm0 h k n) {Q : Option Value → Heap → Prop} {t : FieldType} {v : Value} (hd : decode bs pc = .ok (.areturn, 1)) (ht : rt = some t) (hr : t.isReference = true) (hv : v.isRef = true) (hk : k ≤ R.cells) (hn : n ≤ R.slots) (hQ : Q (some v) h) : Go p e below (Fini Z EL pr R.cells R.slots Q s) (T.setTop (mkF m pc Ls (v :: st))) :=
  g_ret w hd ht (by cases t <;> simp [FieldType.isReference] at hr <;> cases v <;> simp [Value.isRef] at hv <;> rfl) (Or.inr (Or.inr (Or.inr (Or.inr ⟨rfl, hr, hv⟩)))) hk hn hQ
theorem g_return (w : Wk p l e R s m args below meth c Z a0 EL pr y bs ml rt T vm0 h k n) {Q : Option Value → Heap → Prop} (hd : decode bs pc = .ok (.return_, 1)) (ht : rt = none) (hk : k ≤ R.cells) (hn : n ≤ R.slots) (hQ : Q none h) : Go p e below (Fini Z EL pr R.cells R.slots Q s) (T.setTop (mkF m pc Ls [])) := by
  obtain ⟨fs, hr, hrun, hended, hf⟩ := w.fin (v := none) (fun _ => rfl) hk hn hQ
  obtain ⟨⟨hx, hb1, hml, hrt, -⟩, _, _, X, -⟩ := w
  exact ⟨_, _, X.returnOut hx (hrt.trans ht) (hb hb1 hd) hr, hrun, hended, hf⟩
theorem g_iloadN (w : Wk p l e R s m args below meth c Z a0 EL pr y bs ml rt T vm0 h k n) {kk : Fin 4} {v : Int32} (hd : decode bs pc = .ok (.iload_n kk, 1)) (hq : pc + 1 = q) (hl : Ls[kk.val]? = some (.val (.int v))) (hr : Go p e below Φ (T.setTop (mkF m q Ls (.int v :: st)))) : Go p e below Φ (T.setTop (mkF m pc Ls st)) := by
  subst hq; exact hr.pre fun t r => Jvm.Free.XS.iloadN w.here w.hx rfl (w.b hd) hl r
theorem g_iload (w : Wk p l e R s m args below meth c Z a0 EL pr y bs ml rt T vm0 h k n) {kk : Nat} {v : Int32} (hd : decode bs pc = .ok (.iload kk, 2)) (hq : pc + 2 = q) (hl : Ls[kk]? = some (.val (.int v))) (hr : Go p e below Φ (T.setTop (mkF m q Ls (.int v :: st)))) : Go p e below Φ (T.setTop (mkF m pc Ls st)) := by
  subst hq; exact hr.pre fun t r => Jvm.Free.XS.iload w.here w.hx rfl (w.b hd) hl r
theorem g_lloadN (w : Wk p l e R s m args below meth c Z a0 EL pr y bs ml rt T vm0 h k n) {kk : Fin 4} {v : Int64} (hd : decode bs pc = .ok (.lload_n kk, 1)) (hq : pc + 1 = q) (hl : Ls[kk.val]? = some (.val (.long v))) (hr : Go p e below Φ (T.setTop (mkF m q Ls (.long v :: st)))) : Go p e below Φ (T.setTop (mkF m pc Ls st)) := by
  subst hq; exact hr.pre fun t r => Jvm.Free.XT.lloadN w.here w.hx rfl (w.b hd) hl r
theorem g_lload (w : Wk p l e R s m args below meth c Z a0 EL pr y bs ml rt T vm0 h k n) {kk : Nat} {v : Int64} (hd : decode bs pc = .ok (.lload kk, 2)) (hq : pc + 2 = q) (hl : Ls[kk]? = some (.val (.long v))) (hr : Go p e below Φ (T.setTop (mkF m q Ls (.long v :: st)))) : Go p e below Φ (T.setTop (mkF m pc Ls st)) := by
  subst hq; exact hr.pre fun t r => Jvm.Free.XT.lload w.here w.hx rfl (w.b hd) hl r
theorem g_aloadN (w : Wk p l e R s m args below meth c Z a0 EL pr y bs ml rt T vm0 h k n) {kk : Fin 4} {v : Value} (hd : decode bs pc = .ok (.aload_n kk, 1)) (hq : pc + 1 = q) (hl : Ls[kk.val]? = some (.val v)) (hv : v.isRef = true) (hr : Go p e below Φ (T.setTop (mkF m q Ls (v :: st)))) : Go p e below Φ (T.setTop (mkF m pc Ls st)) := by
  subst hq; exact hr.pre fun t r => Jvm.Free.XS.aloadN w.here w.hx rfl (w.b hd) hl hv r
theorem g_aload (w : Wk p l e R s m args below meth c Z a0 EL pr y bs ml rt T vm0 h k n) {kk : Nat} {v : Value} (hd : decode bs pc = .ok (.aload kk, 2)) (hq : pc + 2 = q) (hl : Ls[kk]? = some (.val v)) (hv : v.isRef = true) (hr : Go p e below Φ (T.setTop (mkF m q Ls (v :: st)))) : Go p e below Φ (T.setTop (mkF m pc Ls st)) := by
  subst hq; exact hr.pre fun t r => Jvm.Free.XS.aload w.here w.hx rfl (w.b hd) hl hv r
theorem g_istoreN (w : Wk p l e R s m args below meth c Z a0 EL pr y bs ml rt T vm0 h k n) {kk : Fin 4} {v : Int32} {Ls' : Array Slot} (hd : decode bs pc = .ok (.istore_n kk, 1)) (hq : pc + 1 = q) (hl : storeLocals Ls kk.val (.int v) = some Ls') (hr : Go p e below Φ (T.setTop (mkF m q Ls' st))) : Go p e below Φ (T.setTop (mkF m pc Ls (.int v :: st))) := by
  subst hq; exact hr.pre fun t r => Jvm.Free.XS.istoreN w.here w.hx rfl (w.b hd) rfl hl r
theorem g_istore (w : Wk p l e R s m args below meth c Z a0 EL pr y bs ml rt T vm0 h k n) {kk : Nat} {v : Int32} {Ls' : Array Slot} (hd : decode bs pc = .ok (.istore kk, 2)) (hq : pc + 2 = q) (hl : storeLocals Ls kk (.int v) = some Ls') (hr : Go p e below Φ (T.setTop (mkF m q Ls' st))) : Go p e below Φ (T.setTop (mkF m pc Ls (.int v :: st))) := by
  subst hq; exact hr.pre fun t r => Jvm.Free.XS.istore w.here w.hx rfl (w.b hd) rfl hl r
theorem g_lstoreN (w : Wk p l e R s m args below meth c Z a0 EL pr y bs ml rt T vm0 h k n) {kk : Fin 4} {v : Int64} {Ls' : Array Slot} (hd : decode bs pc = .ok (.lstore_n kk, 1)) (hq : pc + 1 = q) (hl : storeLocals Ls kk.val (.long v) = some Ls') (hr : Go p e below Φ (T.setTop (mkF m q Ls' st))) : Go p e below Φ (T.setTop (mkF m pc Ls (.long v :: st))) := by
  subst hq; exact hr.pre fun t r => Jvm.Free.XT.lstoreN w.here w.hx rfl (w.b hd) rfl hl r
theorem g_lstore (w : Wk p l e R s m args below meth c Z a0 EL pr y bs ml rt T vm0 h k n) {kk : Nat} {v : Int64} {Ls' : Array Slot} (hd : decode bs pc = .ok (.lstore kk, 2)) (hq : pc + 2 = q) (hl : storeLocals Ls kk (.long v) = some Ls') (hr : Go p e below Φ (T.setTop (mkF m q Ls' st))) : Go p e below Φ (T.setTop (mkF m pc Ls (.long v :: st))) := by
  subst hq; exact hr.pre fun t r => Jvm.Free.XT.lstore w.here w.hx rfl (w.b hd) rfl hl r
theorem g_astoreN (w : Wk p l e R s m args below meth c Z a0 EL pr y bs ml rt T vm0 h k n) {kk : Fin 4} {v : Value} {Ls' : Array Slot} (hd : decode bs pc = .ok (.astore_n kk, 1)) (hq : pc + 1 = q) (hv : v.isRef = true) (hl : storeLocals Ls kk.val v = some Ls') (hr : Go p e below Φ (T.setTop (mkF m q Ls' st))) : Go p e below Φ (T.setTop (mkF m pc Ls (v :: st))) := by
  subst hq; exact hr.pre fun t r => Jvm.Free.XS.astoreN w.here w.hx rfl (w.b hd) rfl hv hl r
theorem g_astore (w : Wk p l e R s m args below meth c Z a0 EL pr y bs ml rt T vm0 h k n) {kk : Nat} {v : Value} {Ls' : Array Slot} (hd : decode bs pc = .ok (.astore kk, 2)) (hq : pc + 2 = q) (hv : v.isRef = true) (hl : storeLocals Ls kk v = some Ls') (hr : Go p e below Φ (T.setTop (mkF m q Ls' st))) : Go p e below Φ (T.setTop (mkF m pc Ls (v :: st))) := by
  subst hq; exact hr.pre fun t r => Jvm.Free.XS.astore w.here w.hx rfl (w.b hd) rfl hv hl r
theorem g_iconst (w : Wk p l e R s m args below meth c Z a0 EL pr y bs ml rt T vm0 h k n) {i : Int} {v : Int32} (hd : decode bs pc = .ok (.iconst i, 1)) (hq : pc + 1 = q) (hv : Int32.ofInt i = v) (hr : Go p e below Φ (T.setTop (mkF m q Ls (.int v :: st)))) : Go p e below Φ (T.setTop (mkF m pc Ls st)) := by
  subst hq; exact hr.pre fun t r => Jvm.Free.XT.iconstV w.here w.hx rfl v (w.b hd) hv r
theorem g_bipush (w : Wk p l e R s m args below meth c Z a0 EL pr y bs ml rt T vm0 h k n) {i : Int} {v : Int32} (hd : decode bs pc = .ok (.bipush i, 2)) (hq : pc + 2 = q) (hv : (Int8.ofInt i).toInt32 = v) (hr : Go p e below Φ (T.setTop (mkF m q Ls (.int v :: st)))) : Go p e below Φ (T.setTop (mkF m pc Ls st)) := by
  subst hq; exact hr.pre fun t r => Jvm.Free.XT.bipushV w.here w.hx rfl v (w.b hd) hv r
theorem g_sipush (w : Wk p l e R s m args below meth c Z a0 EL pr y bs ml rt T vm0 h k n) {i : Int} {v : Int32} (hd : decode bs pc = .ok (.sipush i, 3)) (hq : pc + 3 = q) (hv : (Int16.ofInt i).toInt32 = v) (hr : Go p e below Φ (T.setTop (mkF m q Ls (.int v :: st)))) : Go p e below Φ (T.setTop (mkF m pc Ls st)) := by
  subst hq; exact hr.pre fun t r => Jvm.Free.XT.sipushV w.here w.hx rfl v (w.b hd) hv r
theorem g_lconst (w : Wk p l e R s m args below meth c Z a0 EL pr y bs ml rt T vm0 h k n) {i : Fin 2} {v : Int64} (hd : decode bs pc = .ok (.lconst i, 1)) (hq : pc + 1 = q) (hv : Int64.ofNat i = v) (hr : Go p e below Φ (T.setTop (mkF m q Ls (.long v :: st)))) : Go p e below Φ (T.setTop (mkF m pc Ls st)) := by
  subst hq; exact hr.pre fun t r => Jvm.Free.XT.lconstV w.here w.hx rfl v (w.b hd) hv r
theorem g_anull (w : Wk p l e R s m args below meth c Z a0 EL pr y bs ml rt T vm0 h k n) (hd : decode bs pc = .ok (.aconst_null, 1)) (hq : pc + 1 = q) (hr : Go p e below Φ (T.setTop (mkF m q Ls (.null :: st)))) : Go p e below Φ (T.setTop (mkF m pc Ls st)) := by
  subst hq; exact hr.pre fun t r => Jvm.Free.XS.aconstNull w.here w.hx rfl (w.b hd) r
theorem g_dup (w : Wk p l e R s m args below meth c Z a0 EL pr y bs ml rt T vm0 h k n) {v : Value} (hd : decode bs pc = .ok (.dup, 1)) (hq : pc + 1 = q) (hc : v.category = 1) (hr : Go p e below Φ (T.setTop (mkF m q Ls (v :: v :: st)))) : Go p e below Φ (T.setTop (mkF m pc Ls (v :: st))) := by
  subst hq; exact hr.pre fun t r => Jvm.Free.XS.dup w.here w.hx rfl (w.b hd) rfl hc r
theorem g_pop (w : Wk p l e R s m args below meth c Z a0 EL pr y bs ml rt T vm0 h k n) {v : Value} (hd : decode bs pc = .ok (.pop, 1)) (hq : pc + 1 = q) (hc : v.category = 1) (hr : Go p e below Φ (T.setTop (mkF m q Ls st))) : Go p e below Φ (T.setTop (mkF m pc Ls (v :: st))) := by
  subst hq; exact hr.pre fun t r => Jvm.Free.XT.pop w.here w.hx rfl (w.b hd) rfl hc r
theorem g_dupX1 (w : Wk p l e R s m args below meth c Z a0 EL pr y bs ml rt T vm0 h k n) {v u : Value} (hd : decode bs pc = .ok (.dup_x1, 1)) (hq : pc + 1 = q) (hc : v.category = 1) (hc' : u.category = 1) (hr : Go p e below Φ (T.setTop (mkF m q Ls (v :: u :: v :: st)))) : Go p e below Φ (T.setTop (mkF m pc Ls (v :: u :: st))) := by
  subst hq; exact hr.pre fun t r => Jvm.Free.XT.dupX1 w.here w.hx rfl (w.b hd) rfl hc hc' r
theorem g_dup2 (w : Wk p l e R s m args below meth c Z a0 EL pr y bs ml rt T vm0 h k n) {v u : Value} (hd : decode bs pc = .ok (.dup2, 1)) (hq : pc + 1 = q) (hc : v.category = 1) (hc' : u.category = 1) (hr : Go p e below Φ (T.setTop (mkF m q Ls (v :: u :: v :: u :: st)))) : Go p e below Φ (T.setTop (mkF m pc Ls (v :: u :: st))) := by
  subst hq; exact hr.pre fun t r => Jvm.Free.XT.dup2 w.here w.hx rfl (w.b hd) rfl hc hc' r
theorem g_dup2L (w : Wk p l e R s m args below meth c Z a0 EL pr y bs ml rt T vm0 h k n) {x : Int64} (hd : decode bs pc = .ok (.dup2, 1)) (hq : pc + 1 = q) (hr : Go p e below Φ (T.setTop (mkF m q Ls (.long x :: .long x :: st)))) : Go p e below Φ (T.setTop (mkF m pc Ls (.long x :: st))) := by
  subst hq; exact hr.pre fun t r => Jvm.Free.XT.dup2L w.here w.hx rfl (w.b hd) rfl r
theorem g_iadd (w : Wk p l e R s m args below meth c Z a0 EL pr y bs ml rt T vm0 h k n) {x z : Int32} (hd : decode bs pc = .ok (.iadd, 1)) (hq : pc + 1 = q) (hr : Go p e below Φ (T.setTop (mkF m q Ls (.int (x + z) :: st)))) : Go p e below Φ (T.setTop (mkF m pc Ls (.int z :: .int x :: st))) := by
  subst hq; exact hr.pre fun t r => Jvm.Free.XS.iadd w.here w.hx rfl (w.b hd) rfl r
theorem g_isub (w : Wk p l e R s m args below meth c Z a0 EL pr y bs ml rt T vm0 h k n) {x z : Int32} (hd : decode bs pc = .ok (.isub, 1)) (hq : pc + 1 = q) (hr : Go p e below Φ (T.setTop (mkF m q Ls (.int (x - z) :: st)))) : Go p e below Φ (T.setTop (mkF m pc Ls (.int z :: .int x :: st))) := by
  subst hq; exact hr.pre fun t r => Jvm.Free.XS.isub w.here w.hx rfl (w.b hd) rfl r
theorem g_imul (w : Wk p l e R s m args below meth c Z a0 EL pr y bs ml rt T vm0 h k n) {x z : Int32} (hd : decode bs pc = .ok (.imul, 1)) (hq : pc + 1 = q) (hr : Go p e below Φ (T.setTop (mkF m q Ls (.int (x * z) :: st)))) : Go p e below Φ (T.setTop (mkF m pc Ls (.int z :: .int x :: st))) := by
  subst hq; exact hr.pre fun t r => Jvm.Free.XS.imul w.here w.hx rfl (w.b hd) rfl r
theorem g_iand (w : Wk p l e R s m args below meth c Z a0 EL pr y bs ml rt T vm0 h k n) {x z : Int32} (hd : decode bs pc = .ok (.iand, 1)) (hq : pc + 1 = q) (hr : Go p e below Φ (T.setTop (mkF m q Ls (.int (x &&& z) :: st)))) : Go p e below Φ (T.setTop (mkF m pc Ls (.int z :: .int x :: st))) := by
  subst hq; exact hr.pre fun t r => Jvm.Free.XS.iand w.here w.hx rfl (w.b hd) rfl r
theorem g_ior (w : Wk p l e R s m args below meth c Z a0 EL pr y bs ml rt T vm0 h k n) {x z : Int32} (hd : decode bs pc = .ok (.ior, 1)) (hq : pc + 1 = q) (hr : Go p e below Φ (T.setTop (mkF m q Ls (.int (x ||| z) :: st)))) : Go p e below Φ (T.setTop (mkF m pc Ls (.int z :: .int x :: st))) := by
  subst hq; exact hr.pre fun t r => Jvm.Free.XT.ior w.here w.hx rfl (w.b hd) rfl r
theorem g_ixor (w : Wk p l e R s m args below meth c Z a0 EL pr y bs ml rt T vm0 h k n) {x z : Int32} (hd : decode bs pc = .ok (.ixor, 1)) (hq : pc + 1 = q) (hr : Go p e below Φ (T.setTop (mkF m q Ls (.int (x ^^^ z) :: st)))) : Go p e below Φ (T.setTop (mkF m pc Ls (.int z :: .int x :: st))) := by
  subst hq; exact hr.pre fun t r => Jvm.Free.XT.ixor w.here w.hx rfl (w.b hd) rfl r
theorem g_ishl (w : Wk p l e R s m args below meth c Z a0 EL pr y bs ml rt T vm0 h k n) {x z : Int32} (hd : decode bs pc = .ok (.ishl, 1)) (hq : pc + 1 = q) (hr : Go p e below Φ (T.setTop (mkF m q Ls (.int (x <<< (z &&& 31)) :: st)))) : Go p e below Φ (T.setTop (mkF m pc Ls (.int z :: .int x :: st))) := by
  subst hq; exact hr.pre fun t r => Jvm.Free.XT.ishl w.here w.hx rfl (w.b hd) rfl r
theorem g_ishr (w : Wk p l e R s m args below meth c Z a0 EL pr y bs ml rt T vm0 h k n) {x z : Int32} (hd : decode bs pc = .ok (.ishr, 1)) (hq : pc + 1 = q) (hr : Go p e below Φ (T.setTop (mkF m q Ls (.int (x >>> (z &&& 31)) :: st)))) : Go p e below Φ (T.setTop (mkF m pc Ls (.int z :: .int x :: st))) := by
  subst hq; exact hr.pre fun t r => Jvm.Free.XT.ishr w.here w.hx rfl (w.b hd) rfl r
theorem g_iushr (w : Wk p l e R s m args below meth c Z a0 EL pr y bs ml rt T vm0 h k n) {x z : Int32} (hd : decode bs pc = .ok (.iushr, 1)) (hq : pc + 1 = q) (hr : Go p e below Φ (T.setTop (mkF m q Ls (.int (Jvm.Free.XT.ushr x z) :: st)))) : Go p e below Φ (T.setTop (mkF m pc Ls (.int z :: .int x :: st))) := by
  subst hq; exact hr.pre fun t r => Jvm.Free.XT.iushr w.here w.hx rfl (w.b hd) rfl r
theorem g_idiv (w : Wk p l e R s m args below meth c Z a0 EL pr y bs ml rt T vm0 h k n) {x z : Int32} (hd : decode bs pc = .ok (.idiv, 1)) (hq : pc + 1 = q) (hz : z ≠ 0) (hr : Go p e below Φ (T.setTop (mkF m q Ls (.int (x / z) :: st)))) : Go p e below Φ (T.setTop (mkF m pc Ls (.int z :: .int x :: st))) := by
  subst hq; exact hr.pre fun t r => Jvm.Free.XS.idiv w.here w.hx rfl (w.b hd) rfl hz r
theorem g_irem (w : Wk p l e R s m args below meth c Z a0 EL pr y bs ml rt T vm0 h k n) {x z : Int32} (hd : decode bs pc = .ok (.irem, 1)) (hq : pc + 1 = q) (hz : z ≠ 0) (hr : Go p e below Φ (T.setTop (mkF m q Ls (.int (x % z) :: st)))) : Go p e below Φ (T.setTop (mkF m pc Ls (.int z :: .int x :: st))) := by
  subst hq; obtain ⟨⟨hx, hb1, -⟩, _, _, X, -⟩ := w; exact hr.pre fun t r => iremM X hx rfl (hb hb1 hd) rfl hz r
theorem g_ladd (w : Wk p l e R s m args below meth c Z a0 EL pr y bs ml rt T vm0 h k n) {x z : Int64} (hd : decode bs pc = .ok (.ladd, 1)) (hq : pc + 1 = q) (hr : Go p e below Φ (T.setTop (mkF m q Ls (.long (x + z) :: st)))) : Go p e below Φ (T.setTop (mkF m pc Ls (.long z :: .long x :: st))) := by
  subst hq; exact hr.pre fun t r => Jvm.Free.XT.ladd w.here w.hx rfl (w.b hd) rfl r
theorem g_lsub (w : Wk p l e R s m args below meth c Z a0 EL pr y bs ml rt T vm0 h k n) {x z : Int64} (hd : decode bs pc = .ok (.lsub, 1)) (hq : pc + 1 = q) (hr : Go p e below Φ (T.setTop (mkF m q Ls (.long (x - z) :: st)))) : Go p e below Φ (T.setTop (mkF m pc Ls (.long z :: .long x :: st))) := by
  subst hq; exact hr.pre fun t r => Jvm.Free.XT.lsub w.here w.hx rfl (w.b hd) rfl r
theorem g_lmul (w : Wk p l e R s m args below meth c Z a0 EL pr y bs ml rt T vm0 h k n) {x z : Int64} (hd : decode bs pc = .ok (.lmul, 1)) (hq : pc + 1 = q) (hr : Go p e below Φ (T.setTop (mkF m q Ls (.long (x * z) :: st)))) : Go p e below Φ (T.setTop (mkF m pc Ls (.long z :: .long x :: st))) := by
  subst hq; exact hr.pre fun t r => Jvm.Free.XT.lmul w.here w.hx rfl (w.b hd) rfl r
theorem g_land (w : Wk p l e R s m args below meth c Z a0 EL pr y bs ml rt T vm0 h k n) {x z : Int64} (hd : decode bs pc = .ok (.land, 1)) (hq : pc + 1 = q) (hr : Go p e below Φ (T.setTop (mkF m q Ls (.long (x &&& z) :: st)))) : Go p e below Φ (T.setTop (mkF m pc Ls (.long z :: .long x :: st))) := by
  subst hq; exact hr.pre fun t r => Jvm.Free.XT.land w.here w.hx rfl (w.b hd) rfl r
theorem g_lor (w : Wk p l e R s m args below meth c Z a0 EL pr y bs ml rt T vm0 h k n) {x z : Int64} (hd : decode bs pc = .ok (.lor, 1)) (hq : pc + 1 = q) (hr : Go p e below Φ (T.setTop (mkF m q Ls (.long (x ||| z) :: st)))) : Go p e below Φ (T.setTop (mkF m pc Ls (.long z :: .long x :: st))) := by
  subst hq; exact hr.pre fun t r => Jvm.Free.XT.lor w.here w.hx rfl (w.b hd) rfl r
theorem g_lxor (w : Wk p l e R s m args below meth c Z a0 EL pr y bs ml rt T vm0 h k n) {x z : Int64} (hd : decode bs pc = .ok (.lxor, 1)) (hq : pc + 1 = q) (hr : Go p e below Φ (T.setTop (mkF m q Ls (.long (x ^^^ z) :: st)))) : Go p e below Φ (T.setTop (mkF m pc Ls (.long z :: .long x :: st))) := by
  subst hq; exact hr.pre fun t r => Jvm.Free.XT.lxor w.here w.hx rfl (w.b hd) rfl r
theorem g_ldiv (w : Wk p l e R s m args below meth c Z a0 EL pr y bs ml rt T vm0 h k n) {x z : Int64} (hd : decode bs pc = .ok (.ldiv, 1)) (hq : pc + 1 = q) (hz : z ≠ 0) (hr : Go p e below Φ (T.setTop (mkF m q Ls (.long (x / z) :: st)))) : Go p e below Φ (T.setTop (mkF m pc Ls (.long z :: .long x :: st))) := by
  subst hq; exact hr.pre fun t r => Jvm.Free.XT.ldiv w.here w.hx rfl (w.b hd) rfl hz r
theorem g_lrem (w : Wk p l e R s m args below meth c Z a0 EL pr y bs ml rt T vm0 h k n) {x z : Int64} (hd : decode bs pc = .ok (.lrem, 1)) (hq : pc + 1 = q) (hz : z ≠ 0) (hr : Go p e below Φ (T.setTop (mkF m q Ls (.long (x - (x / z) * z) :: st)))) : Go p e below Φ (T.setTop (mkF m pc Ls (.long z :: .long x :: st))) := by
  subst hq; exact hr.pre fun t r => Jvm.Free.XT.lrem w.here w.hx rfl (w.b hd) rfl hz r
theorem g_lneg (w : Wk p l e R s m args below meth c Z a0 EL pr y bs ml rt T vm0 h k n) {x : Int64} (hd : decode bs pc = .ok (.lneg, 1)) (hq : pc + 1 = q) (hr : Go p e below Φ (T.setTop (mkF m q Ls (.long (-x) :: st)))) : Go p e below Φ (T.setTop (mkF m pc Ls (.long x :: st))) := by
  subst hq; exact hr.pre fun t r => Jvm.Free.XT.lneg w.here w.hx rfl (w.b hd) rfl r
theorem g_ineg (w : Wk p l e R s m args below meth c Z a0 EL pr y bs ml rt T vm0 h k n) {x : Int32} (hd : decode bs pc = .ok (.ineg, 1)) (hq : pc + 1 = q) (hr : Go p e below Φ (T.setTop (mkF m q Ls (.int (-x) :: st)))) : Go p e below Φ (T.setTop (mkF m pc Ls (.int x :: st))) := by
  subst hq; exact hr.pre fun t r => Jvm.Free.XS.ineg w.here w.hx rfl (w.b hd) rfl r
theorem g_i2l (w : Wk p l e R s m args below meth c Z a0 EL pr y bs ml rt T vm0 h k n) {x : Int32} (hd : decode bs pc = .ok (.i2l, 1)) (hq : pc + 1 = q) (hr : Go p e below Φ (T.setTop (mkF m q Ls (.long (x.toInt64) :: st)))) : Go p e below Φ (T.setTop (mkF m pc Ls (.int x :: st))) := by
  subst hq; exact hr.pre fun t r => Jvm.Free.XT.i2l w.here w.hx rfl (w.b hd) rfl r
theorem g_i2b (w : Wk p l e R s m args below meth c Z a0 EL pr y bs ml rt T vm0 h k n) {x : Int32} (hd : decode bs pc = .ok (.i2b, 1)) (hq : pc + 1 = q) (hr : Go p e below Φ (T.setTop (mkF m q Ls (.int (x.toInt8.toInt32) :: st)))) : Go p e below Φ (T.setTop (mkF m pc Ls (.int x :: st))) := by
  subst hq; exact hr.pre fun t r => Jvm.Free.XT.i2b w.here w.hx rfl (w.b hd) rfl r
theorem g_i2c (w : Wk p l e R s m args below meth c Z a0 EL pr y bs ml rt T vm0 h k n) {x : Int32} (hd : decode bs pc = .ok (.i2c, 1)) (hq : pc + 1 = q) (hr : Go p e below Φ (T.setTop (mkF m q Ls (.int (x.toUInt32.toUInt16.toUInt32.toInt32) :: st)))) : Go p e below Φ (T.setTop (mkF m pc Ls (.int x :: st))) := by
  subst hq; exact hr.pre fun t r => Jvm.Free.XT.i2c w.here w.hx rfl (w.b hd) rfl r
theorem g_l2i (w : Wk p l e R s m args below meth c Z a0 EL pr y bs ml rt T vm0 h k n) {x : Int64} (hd : decode bs pc = .ok (.l2i, 1)) (hq : pc + 1 = q) (hr : Go p e below Φ (T.setTop (mkF m q Ls (.int (x.toInt32) :: st)))) : Go p e below Φ (T.setTop (mkF m pc Ls (.long x :: st))) := by
  subst hq; exact hr.pre fun t r => Jvm.Free.XT.l2i w.here w.hx rfl (w.b hd) rfl r
theorem g_lcmp (w : Wk p l e R s m args below meth c Z a0 EL pr y bs ml rt T vm0 h k n) {x z : Int64} (hd : decode bs pc = .ok (.lcmp, 1)) (hq : pc + 1 = q) (hr : Go p e below Φ (T.setTop (mkF m q Ls (.int (Jvm.Free.XT.cmpL x z) :: st)))) : Go p e below Φ (T.setTop (mkF m pc Ls (.long z :: .long x :: st))) := by
  subst hq; exact hr.pre fun t r => Jvm.Free.XT.lcmp w.here w.hx rfl (w.b hd) rfl r
theorem g_iinc (w : Wk p l e R s m args below meth c Z a0 EL pr y bs ml rt T vm0 h k n) {kk : Nat} {cst : Int} {x v : Int32} {Ls' : Array Slot} (hd : decode bs pc = .ok (.iinc kk cst, 3)) (hq : pc + 3 = q) (hv : Int32.ofInt cst = v) (hl : Ls[kk]? = some (.val (.int x))) (hl' : storeLocals Ls kk (.int (x + v)) = some Ls') (hr : Go p e below Φ (T.setTop (mkF m q Ls' st))) : Go p e below Φ (T.setTop (mkF m pc Ls st)) := by
  subst hq; exact hr.pre fun t r => Jvm.Free.XS.iinc w.here w.hx rfl (w.b hd) hl (by rw [hv]; exact hl') r
theorem g_goto (w : Wk p l e R s m args below meth c Z a0 EL pr y bs ml rt T vm0 h k n) {o : Int} (hd : decode bs pc = .ok (.goto o, 3)) (ho : 0 ≤ (pc : Int) + o) (hq : ((pc : Int) + o).toNat = q) (hr : Go p e below Φ (T.setTop (mkF m q Ls st))) : Go p e below Φ (T.setTop (mkF m pc Ls st)) := by
  exact hr.pre fun t r => Jvm.Free.XS.goto w.here w.hx rfl rfl (w.b hd) ho hq r
theorem g_ifY (w : Wk p l e R s m args below meth c Z a0 EL pr y bs ml rt T vm0 h k n) {cd : ClassFile.Cond} {x : Int32} {o : Int} (hd : decode bs pc = .ok (.ifCond cd o, 3)) (ho : 0 ≤ (pc : Int) + o) (hq : ((pc : Int) + o).toNat = q) (hc : ifCond.holds cd x = true) (hr : Go p e below Φ (T.setTop (mkF m q Ls st))) : Go p e below Φ (T.setTop (mkF m pc Ls (.int x :: st))) := by
  exact hr.pre fun t r => Jvm.Free.XS.ifYes w.here w.hx rfl rfl (w.b hd) rfl hc ho hq r
theorem g_ifN (w : Wk p l e R s m args below meth c Z a0 EL pr y bs ml rt T vm0 h k n) {cd : ClassFile.Cond} {x : Int32} {o : Int} (hd : decode bs pc = .ok (.ifCond cd o, 3)) (hq : pc + 3 = q) (hc : ifCond.holds cd x = false) (hr : Go p e below Φ (T.setTop (mkF m q Ls st))) : Go p e below Φ (T.setTop (mkF m pc Ls (.int x :: st))) := by
  subst hq; exact hr.pre fun t r => Jvm.Free.XS.ifNo w.here w.hx rfl (w.b hd) rfl hc r
theorem g_icY (w : Wk p l e R s m args below meth c Z a0 EL pr y bs ml rt T vm0 h k n) {cd : ClassFile.Cond} {x z : Int32} {o : Int} (hd : decode bs pc = .ok (.if_icmp cd o, 3)) (ho : 0 ≤ (pc : Int) + o) (hq : ((pc : Int) + o).toNat = q) (hc : if_icmp.holds cd x z = true) (hr : Go p e below Φ (T.setTop (mkF m q Ls st))) : Go p e below Φ (T.setTop (mkF m pc Ls (.int z :: .int x :: st))) := by
  exact hr.pre fun t r => Jvm.Free.XS.icmpYes w.here w.hx rfl rfl (w.b hd) rfl hc ho hq r
theorem g_icN (w : Wk p l e R s m args below meth c Z a0 EL pr y bs ml rt T vm0 h k n) {cd : ClassFile.Cond} {x z : Int32} {o : Int} (hd : decode bs pc = .ok (.if_icmp cd o, 3)) (hq : pc + 3 = q) (hc : if_icmp.holds cd x z = false) (hr : Go p e below Φ (T.setTop (mkF m q Ls st))) : Go p e below Φ (T.setTop (mkF m pc Ls (.int z :: .int x :: st))) := by
  subst hq; exact hr.pre fun t r => Jvm.Free.XS.icmpNo w.here w.hx rfl (w.b hd) rfl hc r
theorem g_acY (w : Wk p l e R s m args below meth c Z a0 EL pr y bs ml rt T vm0 h k n) {cd : ClassFile.ACond} {x z : Value} {o : Int} (hd : decode bs pc = .ok (.if_acmp cd o, 3)) (ho : 0 ≤ (pc : Int) + o) (hq : ((pc : Int) + o).toNat = q) (h1 : x.isRef = true) (h2 : z.isRef = true) (hc : Jvm.Free.XT.acmp cd x z = true) (hr : Go p e below Φ (T.setTop (mkF m q Ls st))) : Go p e below Φ (T.setTop (mkF m pc Ls (z :: x :: st))) := by
  exact hr.pre fun t r => Jvm.Free.XT.acmpYes w.here w.hx rfl rfl (w.b hd) rfl h1 h2 hc ho hq r
theorem g_acN (w : Wk p l e R s m args below meth c Z a0 EL pr y bs ml rt T vm0 h k n) {cd : ClassFile.ACond} {x z : Value} {o : Int} (hd : decode bs pc = .ok (.if_acmp cd o, 3)) (hq : pc + 3 = q) (h1 : x.isRef = true) (h2 : z.isRef = true) (hc : Jvm.Free.XT.acmp cd x z = false) (hr : Go p e below Φ (T.setTop (mkF m q Ls st))) : Go p e below Φ (T.setTop (mkF m pc Ls (z :: x :: st))) := by
  subst hq; exact hr.pre fun t r => Jvm.Free.XT.acmpNo w.here w.hx rfl (w.b hd) rfl h1 h2 hc r
theorem g_nullY (w : Wk p l e R s m args below meth c Z a0 EL pr y bs ml rt T vm0 h k n) {o : Int} (hd : decode bs pc = .ok (.ifnull o, 3)) (ho : 0 ≤ (pc : Int) + o) (hq : ((pc : Int) + o).toNat = q) (hr : Go p e below Φ (T.setTop (mkF m q Ls st))) : Go p e below Φ (T.setTop (mkF m pc Ls (.null :: st))) := by
  exact hr.pre fun t r => Jvm.Free.XS.ifnullYes w.here w.hx rfl rfl (w.b hd) rfl ho hq r
theorem g_nullN (w : Wk p l e R s m args below meth c Z a0 EL pr y bs ml rt T vm0 h k n) {o : Int} {b : Addr} (hd : decode bs pc = .ok (.ifnull o, 3)) (hq : pc + 3 = q) (hr : Go p e below Φ (T.setTop (mkF m q Ls st))) : Go p e below Φ (T.setTop (mkF m pc Ls (.ref b :: st))) := by
  subst hq; exact hr.pre fun t r => Jvm.Free.XS.ifnullNo w.here w.hx rfl (w.b hd) rfl r
theorem g_nonnullY (w : Wk p l e R s m args below meth c Z a0 EL pr y bs ml rt T vm0 h k n) {o : Int} {b : Addr} (hd : decode bs pc = .ok (.ifnonnull o, 3)) (ho : 0 ≤ (pc : Int) + o) (hq : ((pc : Int) + o).toNat = q) (hr : Go p e below Φ (T.setTop (mkF m q Ls st))) : Go p e below Φ (T.setTop (mkF m pc Ls (.ref b :: st))) := by
  exact hr.pre fun t r => Jvm.Free.XT.ifnonnullYes w.here w.hx rfl rfl (w.b hd) rfl ho hq r
theorem g_nonnullN (w : Wk p l e R s m args below meth c Z a0 EL pr y bs ml rt T vm0 h k n) {o : Int} (hd : decode bs pc = .ok (.ifnonnull o, 3)) (hq : pc + 3 = q) (hr : Go p e below Φ (T.setTop (mkF m q Ls st))) : Go p e below Φ (T.setTop (mkF m pc Ls (.null :: st))) := by
  subst hq; exact hr.pre fun t r => Jvm.Free.XT.ifnonnullNo w.here w.hx rfl (w.b hd) rfl r
theorem g_if_eq (w : Wk p l e R s m args below meth c Z a0 EL pr y bs ml rt T vm0 h k n) {x : Int32} {o : Int} {q' : Nat} (hd : decode bs pc = .ok (.ifCond .eq o, 3)) (ho : 0 ≤ (pc : Int) + o) (hq : ((pc : Int) + o).toNat = q) (hq' : pc + 3 = q') (hY : x = 0 → Go p e below Φ (T.setTop (mkF m q Ls st))) (hN : ¬ x = 0 → Go p e below Φ (T.setTop (mkF m q' Ls st))) : Go p e below Φ (T.setTop (mkF m pc Ls (.int x :: st))) := by
  by_cases hc : x = 0
  · exact g_ifY w hd ho hq (Jvm.Free.XT.i0_eq_t hc) (hY hc)
  · exact g_ifN w hd hq' (Jvm.Free.XT.i0_eq_f hc) (hN hc)
theorem g_ic_eq (w : Wk p l e R s m args below meth c Z a0 EL pr y bs ml rt T vm0 h k n) {x z : Int32} {o : Int} {q' : Nat} (hd : decode bs pc = .ok (.if_icmp .eq o, 3)) (ho : 0 ≤ (pc : Int) + o) (hq : ((pc : Int) + o).toNat = q) (hq' : pc + 3 = q') (hY : x = z → Go p e below Φ (T.setTop (mkF m q Ls st))) (hN : ¬ x = z → Go p e below Φ (T.setTop (mkF m q' Ls st))) : Go p e below Φ (T.setTop (mkF m pc Ls (.int z :: .int x :: st))) := by
  by_cases hc : x = z
  · exact g_icY w hd ho hq (Jvm.Free.XT.ii_eq_t hc) (hY hc)
  · exact g_icN w hd hq' (Jvm.Free.XT.ii_eq_f hc) (hN hc)
theorem g_lc_eq (w : Wk p l e R s m args below meth c Z a0 EL pr y bs ml rt T vm0 h k n) {x z : Int64} {o : Int} {q' : Nat} (hd : decode bs pc = .ok (.ifCond .eq o, 3)) (ho : 0 ≤ (pc : Int) + o) (hq : ((pc : Int) + o).toNat = q) (hq' : pc + 3 = q') (hY : x = z → Go p e below Φ (T.setTop (mkF m q Ls st))) (hN : ¬ x = z → Go p e below Φ (T.setTop (mkF m q' Ls st))) : Go p e below Φ (T.setTop (mkF m pc Ls (.int (Jvm.Free.XT.cmpL x z) :: st))) := by
  by_cases hc : x = z
  · exact g_ifY w hd ho hq (Jvm.Free.XT.ll_eq_t hc) (hY hc)
  · exact g_ifN w hd hq' (Jvm.Free.XT.ll_eq_f hc) (hN hc)
theorem g_if_ne (w : Wk p l e R s m args below meth c Z a0 EL pr y bs ml rt T vm0 h k n) {x : Int32} {o : Int} {q' : Nat} (hd : decode bs pc = .ok (.ifCond .ne o, 3)) (ho : 0 ≤ (pc : Int) + o) (hq : ((pc : Int) + o).toNat = q) (hq' : pc + 3 = q') (hY : ¬ x = 0 → Go p e below Φ (T.setTop (mkF m q Ls st))) (hN : x = 0 → Go p e below Φ (T.setTop (mkF m q' Ls st))) : Go p e below Φ (T.setTop (mkF m pc Ls (.int x :: st))) := by
  by_cases hc : ¬ x = 0
  · exact g_ifY w hd ho hq (Jvm.Free.XT.i0_ne_t hc) (hY hc)
  · exact g_ifN w hd hq' (Jvm.Free.XT.i0_ne_f (Classical.not_not.mp hc)) (hN (Classical.not_not.mp hc))
theorem g_ic_ne (w : Wk p l e R s m args below meth c Z a0 EL pr y bs ml rt T vm0 h k n) {x z : Int32} {o : Int} {q' : Nat} (hd : decode bs pc = .ok (.if_icmp .ne o, 3)) (ho : 0 ≤ (pc : Int) + o) (hq : ((pc : Int) + o).toNat = q) (hq' : pc + 3 = q') (hY : ¬ x = z → Go p e below Φ (T.setTop (mkF m q Ls st))) (hN : x = z → Go p e below Φ (T.setTop (mkF m q' Ls st))) : Go p e below Φ (T.setTop (mkF m pc Ls (.int z :: .int x :: st))) := by
  by_cases hc : ¬ x = z
  · exact g_icY w hd ho hq (Jvm.Free.XT.ii_ne_t hc) (hY hc)
  · exact g_icN w hd hq' (Jvm.Free.XT.ii_ne_f (Classical.not_not.mp hc)) (hN (Classical.not_not.mp hc))
theorem g_lc_ne (w : Wk p l e R s m args below meth c Z a0 EL pr y bs ml rt T vm0 h k n) {x z : Int64} {o : Int} {q' : Nat} (hd : decode bs pc = .ok (.ifCond .ne o, 3)) (ho : 0 ≤ (pc : Int) + o) (hq : ((pc : Int) + o).toNat = q) (hq' : pc + 3 = q') (hY : ¬ x = z → Go p e below Φ (T.setTop (mkF m q Ls st))) (hN : x = z → Go p e below Φ (T.setTop (mkF m q' Ls st))) : Go p e below Φ (T.setTop (mkF m pc Ls (.int (Jvm.Free.XT.cmpL x z) :: st))) := by
  by_cases hc : ¬ x = z
  · exact g_ifY w hd ho hq (Jvm.Free.XT.ll_ne_t hc) (hY hc)
  · exact g_ifN w hd hq' (Jvm.Free.XT.ll_ne_f (Classical.not_not.mp hc)) (hN (Classical.not_not.mp hc))
theorem g_if_lt (w : Wk p l e R s m args below meth c Z a0 EL pr y bs ml rt T vm0 h k n) {x : Int32} {o : Int} {q' : Nat} (hd : decode bs pc = .ok (.ifCond .lt o, 3)) (ho : 0 ≤ (pc : Int) + o) (hq : ((pc : Int) + o).toNat = q) (hq' : pc + 3 = q') (hY : x < 0 → Go p e below Φ (T.setTop (mkF m q Ls st))) (hN : ¬ x < 0 → Go p e below Φ (T.setTop (mkF m q' Ls st))) : Go p e below Φ (T.setTop (mkF m pc Ls (.int x :: st))) := by
  by_cases hc : x < 0
  · exact g_ifY w hd ho hq (Jvm.Free.XT.i0_lt_t hc) (hY hc)
  · exact g_ifN w hd hq' (Jvm.Free.XT.i0_lt_f hc) (hN hc)
theorem g_ic_lt (w : Wk p l e R s m args below meth c Z a0 EL pr y bs ml rt T vm0 h k n) {x z : Int32} {o : Int} {q' : Nat} (hd : decode bs pc = .ok (.if_icmp .lt o, 3)) (ho : 0 ≤ (pc : Int) + o) (hq : ((pc : Int) + o).toNat = q) (hq' : pc + 3 = q') (hY : x < z → Go p e below Φ (T.setTop (mkF m q Ls st))) (hN : ¬ x < z → Go p e below Φ (T.setTop (mkF m q' Ls st))) : Go p e below Φ (T.setTop (mkF m pc Ls (.int z :: .int x :: st))) := by
  by_cases hc : x < z
  · exact g_icY w hd ho hq (Jvm.Free.XT.ii_lt_t hc) (hY hc)
  · exact g_icN w hd hq' (Jvm.Free.XT.ii_lt_f hc) (hN hc)
theorem g_lc_lt (w : Wk p l e R s m args below meth c Z a0 EL pr y bs ml rt T vm0 h k n) {x z : Int64} {o : Int} {q' : Nat} (hd : decode bs pc = .ok (.ifCond .lt o, 3)) (ho : 0 ≤ (pc : Int) + o) (hq : ((pc : Int) + o).toNat = q) (hq' : pc + 3 = q') (hY : x < z → Go p e below Φ (T.setTop (mkF m q Ls st))) (hN : ¬ x < z → Go p e below Φ (T.setTop (mkF m q' Ls st))) : Go p e below Φ (T.setTop (mkF m pc Ls (.int (Jvm.Free.XT.cmpL x z) :: st))) := by
  by_cases hc : x < z
  · exact g_ifY w hd ho hq (Jvm.Free.XT.ll_lt_t hc) (hY hc)
  · exact g_ifN w hd hq' (Jvm.Free.XT.ll_lt_f hc) (hN hc)
theorem g_if_ge (w : Wk p l e R s m args below meth c Z a0 EL pr y bs ml rt T vm0 h k n) {x : Int32} {o : Int} {q' : Nat} (hd : decode bs pc = .ok (.ifCond .ge o, 3)) (ho : 0 ≤ (pc : Int) + o) (hq : ((pc : Int) + o).toNat = q) (hq' : pc + 3 = q') (hY : ¬ x < 0 → Go p e below Φ (T.setTop (mkF m q Ls st))) (hN : x < 0 → Go p e below Φ (T.setTop (mkF m q' Ls st))) : Go p e below Φ (T.setTop (mkF m pc Ls (.int x :: st))) := by
  by_cases hc : ¬ x < 0
  · exact g_ifY w hd ho hq (Jvm.Free.XT.i0_ge_t hc) (hY hc)
  · exact g_ifN w hd hq' (Jvm.Free.XT.i0_ge_f (Classical.not_not.mp hc)) (hN (Classical.not_not.mp hc))
theorem g_ic_ge (w : Wk p l e R s m args below meth c Z a0 EL pr y bs ml rt T vm0 h k n) {x z : Int32} {o : Int} {q' : Nat} (hd : decode bs pc = .ok (.if_icmp .ge o, 3)) (ho : 0 ≤ (pc : Int) + o) (hq : ((pc : Int) + o).toNat = q) (hq' : pc + 3 = q') (hY : ¬ x < z → Go p e below Φ (T.setTop (mkF m q Ls st))) (hN : x < z → Go p e below Φ (T.setTop (mkF m q' Ls st))) : Go p e below Φ (T.setTop (mkF m pc Ls (.int z :: .int x :: st))) := by
  by_cases hc : ¬ x < z
  · exact g_icY w hd ho hq (Jvm.Free.XT.ii_ge_t hc) (hY hc)
  · exact g_icN w hd hq' (Jvm.Free.XT.ii_ge_f (Classical.not_not.mp hc)) (hN (Classical.not_not.mp hc))
theorem g_lc_ge (w : Wk p l e R s m args below meth c Z a0 EL pr y bs ml rt T vm0 h k n) {x z : Int64} {o : Int} {q' : Nat} (hd : decode bs pc = .ok (.ifCond .ge o, 3)) (ho : 0 ≤ (pc : Int) + o) (hq : ((pc : Int) + o).toNat = q) (hq' : pc + 3 = q') (hY : ¬ x < z → Go p e below Φ (T.setTop (mkF m q Ls st))) (hN : x < z → Go p e below Φ (T.setTop (mkF m q' Ls st))) : Go p e below Φ (T.setTop (mkF m pc Ls (.int (Jvm.Free.XT.cmpL x z) :: st))) := by
  by_cases hc : ¬ x < z
  · exact g_ifY w hd ho hq (Jvm.Free.XT.ll_ge_t hc) (hY hc)
  · exact g_ifN w hd hq' (Jvm.Free.XT.ll_ge_f (Classical.not_not.mp hc)) (hN (Classical.not_not.mp hc))
theorem g_if_gt (w : Wk p l e R s m args below meth c Z a0 EL pr y bs ml rt T vm0 h k n) {x : Int32} {o : Int} {q' : Nat} (hd : decode bs pc = .ok (.ifCond .gt o, 3)) (ho : 0 ≤ (pc : Int) + o) (hq : ((pc : Int) + o).toNat = q) (hq' : pc + 3 = q') (hY : 0 < x → Go p e below Φ (T.setTop (mkF m q Ls st))) (hN : ¬ 0 < x → Go p e below Φ (T.setTop (mkF m q' Ls st))) : Go p e below Φ (T.setTop (mkF m pc Ls (.int x :: st))) := by
  by_cases hc : 0 < x
  · exact g_ifY w hd ho hq (Jvm.Free.XT.i0_gt_t hc) (hY hc)
  · exact g_ifN w hd hq' (Jvm.Free.XT.i0_gt_f hc) (hN hc)
theorem g_ic_gt (w : Wk p l e R s m args below meth c Z a0 EL pr y bs ml rt T vm0 h k n) {x z : Int32} {o : Int} {q' : Nat} (hd : decode bs pc = .ok (.if_icmp .gt o, 3)) (ho : 0 ≤ (pc : Int) + o) (hq : ((pc : Int) + o).toNat = q) (hq' : pc + 3 = q') (hY : z < x → Go p e below Φ (T.setTop (mkF m q Ls st))) (hN : ¬ z < x → Go p e below Φ (T.setTop (mkF m q' Ls st))) : Go p e below Φ (T.setTop (mkF m pc Ls (.int z :: .int x :: st))) := by
  by_cases hc : z < x
  · exact g_icY w hd ho hq (Jvm.Free.XT.ii_gt_t hc) (hY hc)
  · exact g_icN w hd hq' (Jvm.Free.XT.ii_gt_f hc) (hN hc)
theorem g_lc_gt (w : Wk p l e R s m args below meth c Z a0 EL pr y bs ml rt T vm0 h k n) {x z : Int64} {o : Int} {q' : Nat} (hd : decode bs pc = .ok (.ifCond .gt o, 3)) (ho : 0 ≤ (pc : Int) + o) (hq : ((pc : Int) + o).toNat = q) (hq' : pc + 3 = q') (hY : z < x → Go p e below Φ (T.setTop (mkF m q Ls st))) (hN : ¬ z < x → Go p e below Φ (T.setTop (mkF m q' Ls st))) : Go p e below Φ (T.setTop (mkF m pc Ls (.int (Jvm.Free.XT.cmpL x z) :: st))) := by
  by_cases hc : z < x
  · exact g_ifY w hd ho hq (Jvm.Free.XT.ll_gt_t hc) (hY hc)
  · exact g_ifN w hd hq' (Jvm.Free.XT.ll_gt_f hc) (hN hc)
theorem g_if_le (w : Wk p l e R s m args below meth c Z a0 EL pr y bs ml rt T vm0 h k n) {x : Int32} {o : Int} {q' : Nat} (hd : decode bs pc = .ok (.ifCond .le o, 3)) (ho : 0 ≤ (pc : Int) + o) (hq : ((pc : Int) + o).toNat = q) (hq' : pc + 3 = q') (hY : ¬ 0 < x → Go p e below Φ (T.setTop (mkF m q Ls st))) (hN : 0 < x → Go p e below Φ (T.setTop (mkF m q' Ls st))) : Go p e below Φ (T.setTop (mkF m pc Ls (.int x :: st))) := by
  by_cases hc : ¬ 0 < x
  · exact g_ifY w hd ho hq (Jvm.Free.XT.i0_le_t hc) (hY hc)
  · exact g_ifN w hd hq' (Jvm.Free.XT.i0_le_f (Classical.not_not.mp hc)) (hN (Classical.not_not.mp hc))
theorem g_ic_le (w : Wk p l e R s m args below meth c Z a0 EL pr y bs ml rt T vm0 h k n) {x z : Int32} {o : Int} {q' : Nat} (hd : decode bs pc = .ok (.if_icmp .le o, 3)) (ho : 0 ≤ (pc : Int) + o) (hq : ((pc : Int) + o).toNat = q) (hq' : pc + 3 = q') (hY : ¬ z < x → Go p e below Φ (T.setTop (mkF m q Ls st))) (hN : z < x → Go p e below Φ (T.setTop (mkF m q' Ls st))) : Go p e below Φ (T.setTop (mkF m pc Ls (.int z :: .int x :: st))) := by
  by_cases hc : ¬ z < x
  · exact g_icY w hd ho hq (Jvm.Free.XT.ii_le_t hc) (hY hc)
  · exact g_icN w hd hq' (Jvm.Free.XT.ii_le_f (Classical.not_not.mp hc)) (hN (Classical.not_not.mp hc))
theorem g_lc_le (w : Wk p l e R s m args below meth c Z a0 EL pr y bs ml rt T vm0 h k n) {x z : Int64} {o : Int} {q' : Nat} (hd : decode bs pc = .ok (.ifCond .le o, 3)) (ho : 0 ≤ (pc : Int) + o) (hq : ((pc : Int) + o).toNat = q) (hq' : pc + 3 = q') (hY : ¬ z < x → Go p e below Φ (T.setTop (mkF m q Ls st))) (hN : z < x → Go p e below Φ (T.setTop (mkF m q' Ls st))) : Go p e below Φ (T.setTop (mkF m pc Ls (.int (Jvm.Free.XT.cmpL x z) :: st))) := by
  by_cases hc : ¬ z < x
  · exact g_ifY w hd ho hq (Jvm.Free.XT.ll_le_t hc) (hY hc)
  · exact g_ifN w hd hq' (Jvm.Free.XT.ll_le_f (Classical.not_not.mp hc)) (hN (Classical.not_not.mp hc))
theorem g_ar_eq (w : Wk p l e R s m args below meth c Z a0 EL pr y bs ml rt T vm0 h k n) {a b : Addr} {o : Int} {q' : Nat} (hd : decode bs pc = .ok (.if_acmp .eq o, 3)) (ho : 0 ≤ (pc : Int) + o) (hq : ((pc : Int) + o).toNat = q) (hq' : pc + 3 = q') (hY : a = b → Go p e below Φ (T.setTop (mkF m q Ls st))) (hN : ¬ a = b → Go p e below Φ (T.setTop (mkF m q' Ls st))) : Go p e below Φ (T.setTop (mkF m pc Ls (.ref b :: .ref a :: st))) := by
  by_cases hc : a = b
  · exact g_acY w hd ho hq rfl rfl (Jvm.Free.XT.aa_eq_t (congrArg Value.ref hc)) (hY hc)
  · exact g_acN w hd hq' rfl rfl (Jvm.Free.XT.aa_eq_f fun z => hc (Value.ref.inj z)) (hN hc)
theorem g_ar_ne (w : Wk p l e R s m args below meth c Z a0 EL pr y bs ml rt T vm0 h k n) {a b : Addr} {o : Int} {q' : Nat} (hd : decode bs pc = .ok (.if_acmp .ne o, 3)) (ho : 0 ≤ (pc : Int) + o) (hq : ((pc : Int) + o).toNat = q) (hq' : pc + 3 = q') (hY : ¬ a = b → Go p e below Φ (T.setTop (mkF m q Ls st))) (hN : a = b → Go p e below Φ (T.setTop (mkF m q' Ls st))) : Go p e below Φ (T.setTop (mkF m pc Ls (.ref b :: .ref a :: st))) := by
  by_cases hc : a = b
  · exact g_acN w hd hq' rfl rfl (Jvm.Free.XT.aa_ne_f (congrArg Value.ref hc)) (hN hc)
  · exact g_acY w hd ho hq rfl rfl (Jvm.Free.XT.aa_ne_t fun z => hc (Value.ref.inj z)) (hY hc)
theorem g_ldcI (w : Wk p l e R s m args below meth c Z a0 EL pr y bs ml rt T vm0 h k n) {i : Nat} {v : Int32} (hd : decode bs pc = .ok (.ldc i, 2)) (hq : pc + 2 = q) (wc : (Cond.constant y.cls i v).before a0 Z = true) (hr : Go p e below Φ (T.setTop (mkF m q Ls (.int v :: st)))) : Go p e below Φ (T.setTop (mkF m pc Ls st)) := by
  subst hq; obtain ⟨⟨hx, hb1, hml, hrt, hlk, hnm, hEL⟩, k0, locs, X, hh, hZ, hown, hS, hk0, N, C, O, hpr⟩ := w
  exact hr.pre fun t r => X.ldcI hx hown (mvT (s := s.setVm vm0) hZ wc) rfl (hb hb1 hd) r
theorem g_ldcWI (w : Wk p l e R s m args below meth c Z a0 EL pr y bs ml rt T vm0 h k n) {i : Nat} {v : Int32} (hd : decode bs pc = .ok (.ldc_w i, 3)) (hq : pc + 3 = q) (wc : (Cond.constant y.cls i v).before a0 Z = true) (hr : Go p e below Φ (T.setTop (mkF m q Ls (.int v :: st)))) : Go p e below Φ (T.setTop (mkF m pc Ls st)) := by
  subst hq; obtain ⟨⟨hx, hb1, hml, hrt, hlk, hnm, hEL⟩, k0, locs, X, hh, hZ, hown, hS, hk0, N, C, O, hpr⟩ := w
  exact hr.pre fun t r => X.ldcWI hx hown (mvT (s := s.setVm vm0) hZ wc) rfl (hb hb1 hd) r
theorem g_ldc2J (w : Wk p l e R s m args below meth c Z a0 EL pr y bs ml rt T vm0 h k n) {i : Nat} {v : Int64} (hd : decode bs pc = .ok (.ldc2_w i, 3)) (hq : pc + 3 = q) (wc : (Cond.constantLong y.cls i v).before a0 Z = true) (hr : Go p e below Φ (T.setTop (mkF m q Ls (.long v :: st)))) : Go p e below Φ (T.setTop (mkF m pc Ls st)) := by
  subst hq; obtain ⟨⟨hx, hb1, hml, hrt, hlk, hnm, hEL⟩, k0, locs, X, hh, hZ, hown, hS, hk0, N, C, O, hpr⟩ := w
  exact hr.pre fun t r => X.ldc2J hx hown (mvT (s := s.setVm vm0) hZ wc) rfl (hb hb1 hd) r
theorem ext_refl (h : Heap) : Ext h h := ⟨Nat.le_refl _, fun _ _ q => q⟩
theorem ext_trans {h1 h2 h3 : Heap} (E : Ext h1 h2) (F : Ext h2 h3) : Ext h1 h3 := ⟨Nat.le_trans E.1 F.1, fun a c q => F.2 _ _ (E.2 _ _ q)⟩
theorem ext_keep {h1 h2 h3 : Heap} {a : Addr} (E : Ext h1 h2) (K : Keep h2 h3 [a]) (ha : h1.size ≤ a) : Ext h1 h3 := ⟨Nat.le_trans E.1 K.1, fun x c q => K.2.1 x c (E.2 _ _ q) fun hm => by
  have := (Array.getElem?_eq_some_iff.mp q).1
  cases List.mem_singleton.mp hm
  omega⟩
theorem ext_wr {h1 h2 h3 : Heap} {a : Addr} {sl : Nat} {v : Value} (E : Ext h1 h2) (W : Wr h2 h3 a sl v) (ha : h1.size ≤ a) : Ext h1 h3 := ext_keep E (Keep.of_wr W) ha
theorem Wk.sta (w : Wk p l e R s m args below meth c Z a0 EL pr y bs ml rt T vm0 h k n) {C nm d : String} {v : Value} (S : Sta Z Z.heap C nm d v) : Sta Z h C nm d v := S.ext w.old
/-- getfield -/
theorem g_getF (w : Wk p l e R s m args below meth c Z a0 EL pr y bs ml rt T vm0 h k n) {i : Nat} {R0 O' nm d host : String} {a : Addr} {v : Value} (hd : decode bs pc = .ok (.getfield i, 3)) (hq : pc + 3 = q) (wl : (Cond.fieldLink y.cls i R0 nm d).before a0 Z = true ∨ (Cond.fieldLinkNest y.cls i R0 nm d host).before a0 Z = true) (via : Via Z R0 O' nm d) (F : Fld Z h a O' nm d v)
    (K : ∀ T', Wk p l e R s m args below meth c Z a0 EL pr y bs ml rt T' vm0 h k n → Go p e below Φ (T'.setTop (mkF m q Ls (v :: st)))) : Go p e below Φ (T.setTop (mkF m pc Ls (.ref a :: st))) := by
  subst hq; obtain ⟨⟨hx, hb1, hml, hrt, hlk, hnm, hEL⟩, k0, locs, X, hh, hZ, hown, hS, hk0, N, C, O, hpr⟩ := w
  obtain ⟨T', X', e', g'⟩ := getF X hx hZ hown wl via hh F (g := mkF m pc Ls (.ref a :: st)) rfl rfl (hb hb1 hd)
  exact (K T' ⟨⟨hx, hb1, hml, hrt, hlk, hnm, hEL⟩, k0, locs, X', e', hZ, hown, hS, hk0, N, C, O, hpr⟩).pre g'
/-- getstatic -/
theorem g_getS (w : Wk p l e R s m args below meth c Z a0 EL pr y bs ml rt T vm0 h k n) {i : Nat} {R0 O' nm d : String} {v : Value} (hd : decode bs pc = .ok (.getstatic i, 3)) (hq : pc + 3 = q) (wl : (Cond.fieldLink y.cls i R0 nm d).before a0 Z = true) (via : Via Z R0 O' nm d) (F : Sta Z Z.heap O' nm d v)
    (K : ∀ T', Wk p l e R s m args below meth c Z a0 EL pr y bs ml rt T' vm0 h k n → Go p e below Φ (T'.setTop (mkF m q Ls (v :: st)))) : Go p e below Φ (T.setTop (mkF m pc Ls st)) := by
  subst hq; have F' := w.sta F; obtain ⟨⟨hx, hb1, hml, hrt, hlk, hnm, hEL⟩, k0, locs, X, hh, hZ, hown, hS, hk0, N, C, O, hpr⟩ := w
  obtain ⟨T', X', e', g'⟩ := getS (host := "") X hx hZ hown wl via hh F' (g := mkF m pc Ls st) rfl (hb hb1 hd)
  exact (K T' ⟨⟨hx, hb1, hml, hrt, hlk, hnm, hEL⟩, k0, locs, X', e', hZ, hown, hS, hk0, N, C, O, hpr⟩).pre g'
/-- putfield of an object that is new -/
theorem g_putF (w : Wk p l e R s m args below meth c Z a0 EL pr y bs ml rt T vm0 h k n) {i kk : Nat} {R0 O' nm d C' : String} {a : Addr} {v v' old : Value} {ty : FieldType} (hd : decode bs pc = .ok (.putfield i, 3)) (hq : pc + 3 = q) (wl : (Cond.fieldLink y.cls i R0 nm d).before a0 Z = true) (via : Via Z R0 O' nm d) (F : Fld Z h a O' nm d old) (E : Exa Z h a C')
    (L : (Cond.lays C' O' nm d).before a0 Z = true ∨ ((Cond.laysFinal C' O' nm d).before a0 Z = true ∧ y.cls = O' ∧ y.name = "<init>")) (wi : (Cond.instantiable C' kk).before a0 Z = true) (hty : parseFieldDescriptor d = some ty) (hn : narrow ty v = v') (hf : fits ty v' = true) (ga : Z.heap.size ≤ a) (S : Safe Z EL vm0 h a)
    (K : ∀ T' h', Wk p l e R s m args below meth c Z a0 EL pr y bs ml rt T' vm0 h' k n → Wr h h' a (Jvm.RoadKit.slotOf Z O' nm d) v' → Go p e below Φ (T'.setTop (mkF m q Ls st))) : Go p e below Φ (T.setTop (mkF m pc Ls (v :: .ref a :: st))) := by
  subst hq; obtain ⟨⟨hx, hb1, hml, hrt, hlk, hnm, hEL⟩, k0, locs, X, hh, hZ, hown, hS, hk0, N, C, O, hpr⟩ := w
  obtain ⟨T', h', X', e', W, g'⟩ := putFN X hx hZ hown wl via hh F E (L.imp id fun q => ⟨q.1, q.2.1, hnm.trans q.2.2⟩) wi hty hn hf (g := mkF m pc Ls (v :: .ref a :: st)) rfl rfl (hb hb1 hd)
  exact (K T' h' ⟨⟨hx, hb1, hml, hrt, hlk, hnm, hEL⟩, k0, _, X', e', hZ, hown, hS, by rw [W.size]; exact hk0, N.snoc X' ga, C.trans (CHr.wr W S C.1), ext_wr O W ga, hpr⟩ W).pre g'
/-- new -/
theorem g_new (w : Wk p l e R s m args below meth c Z a0 EL pr y bs ml rt T vm0 h k n) {i nn : Nat} {C' : String} (hd : decode bs pc = .ok (.new i, 3)) (hq : pc + 3 = q) (w1 : (Cond.classLink y.cls i C').before a0 Z = true) (w2 : (Cond.instantiable C' nn).before a0 Z = true) (w3 : (Cond.initialized C').before a0 Z = true) (hc : k + 1 ≤ R.cells) (hl : n + nn ≤ R.slots)
    (K : ∀ T' h' a, Wk p l e R s m args below meth c Z a0 EL pr y bs ml rt T' vm0 h' (k + 1) (n + nn) → Ext h h' → h.size ≤ a → Z.heap.size ≤ a → Exa Z h' a C' → (∀ {O' nm d : String} {ty : FieldType}, Laid Z a0 C' O' nm d → parseFieldDescriptor d = some ty → Fld Z h' a O' nm d (defaultValue ty)) → Safe Z EL vm0 h' a → Go p e below Φ (T'.setTop (mkF m q Ls (.ref a :: st)))) : Go p e below Φ (T.setTop (mkF m pc Ls st)) := by
  subst hq; obtain ⟨⟨hx, hb1, hml, hrt, hlk, hnm, hEL⟩, k0, locs, X, hh, hZ, hown, hS, hk0, N, C, O, hpr⟩ := w
  obtain ⟨T', h', X', e', E, A, D, -, g'⟩ := newO X hx hZ hown w1 w2 w3 hh (g := mkF m pc Ls st) rfl (hb hb1 hd) hc hl
  exact (K T' h' h.size ⟨⟨hx, hb1, hml, hrt, hlk, hnm, hEL⟩, k0, locs, X', e', hZ, hown, hS, Nat.le_trans hk0 E.1, N, C.trans (CHr.ext E C.1), ext_trans O E, hpr⟩ E (Nat.le_refl _) O.1 A D (Safe.ext E C.1 (Safe.new (Nat.le_refl _)))).pre g'
/-- an array, its components known -/
def Ar (Z : State) (h : Heap) (a : Addr) (ty : FieldType) (vs : List Value) : Prop := vs.length < 2147483648 ∧ ∃ kC d, Arv Z h a kC ty (Int32.ofNat vs.length) vs d
theorem ofNat_clamp {n : Nat} (h : n < 2147483648) : (Int32.ofNat n).toNatClampNeg = n := by
  have : (Int32.ofNat n).toInt = n := Int32.toInt_ofNat_of_lt (by omega)
  simp only [Int32.toNatClampNeg, this]; rfl
theorem ofNat_nonneg {n : Nat} (h : n < 2147483648) : ¬ Int32.ofNat n < 0 := by
  have : (Int32.ofNat n).toInt = n := Int32.toInt_ofNat_of_lt (by omega)
  rw [Int32.lt_iff_toInt_lt, this, show (0 : Int32).toInt = 0 from rfl]; omega
theorem Ar.lt {a : Addr} {ty : FieldType} {vs : List Value} (F : Ar Z h a ty vs) : a < h.size := by obtain ⟨-, _, _, F⟩ := F; exact F.lt
theorem Ar.ext {h' : Heap} {a : Addr} {ty : FieldType} {vs : List Value} (F : Ar Z h a ty vs) (E : Ext h h') : Ar Z h' a ty vs := by obtain ⟨q, _, _, F⟩ := F; exact ⟨q, _, _, F.ext E⟩
theorem Ar.keep {h' : Heap} {a : Addr} {ty : FieldType} {vs : List Value} {ws : List Addr} (F : Ar Z h a ty vs) (K : Keep h h' ws) (q : a ∉ ws) : Ar Z h' a ty vs := by obtain ⟨q', _, _, F⟩ := F; exact ⟨q', _, _, F.keep K q⟩
theorem Ar.other {h' : Heap} {a b : Addr} {ty : FieldType} {vs : List Value} {sl : Nat} {v : Value} (F : Ar Z h b ty vs) (W : Wr h h' a sl v) (q : b ≠ a) : Ar Z h' b ty vs := by obtain ⟨q', _, _, F⟩ := F; exact ⟨q', _, _, F.other W q⟩
theorem Ar.arv {a : Addr} {ty : FieldType} {vs : List Value} (F : Ar Z h a ty vs) (d' : Value) : ∃ kC, Arv Z h a kC ty (Int32.ofNat vs.length) vs d' := by
  obtain ⟨q, kC, d, c, A, r1, r2, r3, H, G⟩ := F
  have e : ∀ i, i < c.slots.size → vs.getD i d' = vs.getD i d := fun i hi => by
    rw [r2, ofNat_clamp q] at hi; simp [List.getD_eq_getElem?_getD, hi]
  exact ⟨kC, c, A, r1, r2, r3, fun i hi => by rw [e i hi]; exact H i hi, fun i hi => by rw [e i hi]; exact G i hi⟩
/-- newarray -/
theorem g_newarr (w : Wk p l e R s m args below meth c Z a0 EL pr y bs ml rt T vm0 h k n) {aty : ArrayType} {z : Int32} {len cap : Nat} (hd : decode bs pc = .ok (.newarray aty, 2)) (hq : pc + 2 = q) (w1 : (Cond.arrayClass (newarray.typeOf aty)).before a0 Z = true) (hz : z = Int32.ofNat len) (hl : len ≤ cap) (hcap : cap * 8 ≤ 536870912) (hc : k + 1 ≤ R.cells) (hs : n + cap ≤ R.slots)
    (K : ∀ T' h' a, Wk p l e R s m args below meth c Z a0 EL pr y bs ml rt T' vm0 h' (k + 1) (n + cap) → Ext h h' → h.size ≤ a → Z.heap.size ≤ a → Ar Z h' a (newarray.typeOf aty) (List.replicate len (defaultValue (newarray.typeOf aty))) → Safe Z EL vm0 h' a → Go p e below Φ (T'.setTop (mkF m q Ls (.ref a :: st)))) : Go p e below Φ (T.setTop (mkF m pc Ls (.int z :: st))) := by
  subst hq hz; obtain ⟨⟨hx, hb1, hml, hrt, hlk, hnm, hEL⟩, k0, locs, X, hh, hZ, hown, hS, hk0, N, C, O, hpr⟩ := w
  have hlen : len < 2147483648 := by omega
  obtain ⟨T', h', cA, X', e', E, A, g'⟩ := newP X hx hZ w1 hh (g := mkF m pc Ls (.int (Int32.ofNat len) :: st)) rfl (hb hb1 hd) rfl (ofNat_nonneg hlen) (cap := cap) (by rw [ofNat_clamp hlen]; exact hl) hcap hc hs
  refine (K T' h' h.size ⟨⟨hx, hb1, hml, hrt, hlk, hnm, hEL⟩, k0, locs, X', e', hZ, hown, hS, Nat.le_trans hk0 E.1, N, C.trans (CHr.ext E C.1), ext_trans O E, hpr⟩ E (Nat.le_refl _) O.1 ⟨by simpa using hlen, cA, defaultValue (newarray.typeOf aty), ?_⟩ (Safe.ext E C.1 (Safe.new (Nat.le_refl _)))).pre g'
  have q := (Arv.new A (ofNat_nonneg hlen)).pad (vs' := List.replicate len (defaultValue (newarray.typeOf aty))) (fun i => by simpa using pad_rep [] (defaultValue (newarray.typeOf aty)) len i)
  simpa using q
theorem inb {vs : List Value} {i : Nat} {cl : Cell} (hv : vs.length < 2147483648) (S : cl.slots.size = (Int32.ofNat vs.length).toNatClampNeg) (hi : i < vs.length) : ¬ (Int32.ofNat i < 0 ∨ cl.slots.size ≤ (Int32.ofNat i).toNatClampNeg) := by
  rw [S, ofNat_clamp hv, ofNat_clamp (by omega)]
  intro q
  rcases q with q | q
  · exact ofNat_nonneg (by omega) q
  · omega
/-- castore into a new array -/
theorem g_castore (w : Wk p l e R s m args below meth c Z a0 EL pr y bs ml rt T vm0 h k n) {a : Addr} {vs : List Value} {j x x' : Int32} {i : Nat} (hd : decode bs pc = .ok (.castore, 1)) (hq : pc + 1 = q) (A : Ar Z h a .char vs) (hj : j = Int32.ofNat i) (hi : i < vs.length) (hx' : nar .char x = x') (ga : Z.heap.size ≤ a) (S : Safe Z EL vm0 h a)
    (K : ∀ T' h', Wk p l e R s m args below meth c Z a0 EL pr y bs ml rt T' vm0 h' k n → Wr h h' a i (.int x') → Ar Z h' a .char (vs.set i (.int x')) → Go p e below Φ (T'.setTop (mkF m q Ls st))) : Go p e below Φ (T.setTop (mkF m pc Ls (.int x :: .int j :: .ref a :: st))) := by
  subst hq hj hx'; obtain ⟨⟨hx, hb1, hml, hrt, hlk, hnm, hEL⟩, k0, locs, X, hh, hZ, hown, hS, hk0, N, C, O, hpr⟩ := w
  obtain ⟨hv, kC, dv, cl, B, q1, S1, q3, H1, G1⟩ := A
  obtain ⟨T', h', X', e', W, g'⟩ := stC X hx hZ hh B (j := Int32.ofNat i) (inb hv S1 hi) (g := mkF m pc Ls (.int x :: .int (Int32.ofNat i) :: .ref a :: st)) rfl rfl (hb hb1 hd)
  have V := Arv.set B q1 S1 q3 H1 G1 (fits_nar_char x) W i (ofNat_clamp (by omega)) hi
  rw [ofNat_clamp (by omega)] at W
  exact (K T' h' ⟨⟨hx, hb1, hml, hrt, hlk, hnm, hEL⟩, k0, _, X', e', hZ, hown, hS, by rw [W.size]; exact hk0, N.snoc X' ga, C.trans (CHr.wr W S C.1), ext_wr O W ga, hpr⟩ W ⟨by simpa using hv, kC, dv, by simpa using V⟩).pre g'
/-- bastore into a new byte[] -/
theorem g_bastore (w : Wk p l e R s m args below meth c Z a0 EL pr y bs ml rt T vm0 h k n) {a : Addr} {vs : List Value} {j x x' : Int32} {i : Nat} (hd : decode bs pc = .ok (.bastore, 1)) (hq : pc + 1 = q) (A : Ar Z h a .byte vs) (hj : j = Int32.ofNat i) (hi : i < vs.length) (hx' : nar .byte x = x') (ga : Z.heap.size ≤ a) (S : Safe Z EL vm0 h a)
    (K : ∀ T' h', Wk p l e R s m args below meth c Z a0 EL pr y bs ml rt T' vm0 h' k n → Wr h h' a i (.int x') → Ar Z h' a .byte (vs.set i (.int x')) → Go p e below Φ (T'.setTop (mkF m q Ls st))) : Go p e below Φ (T.setTop (mkF m pc Ls (.int x :: .int j :: .ref a :: st))) := by
  subst hq hj hx'; obtain ⟨⟨hx, hb1, hml, hrt, hlk, hnm, hEL⟩, k0, locs, X, hh, hZ, hown, hS, hk0, N, C, O, hpr⟩ := w
  obtain ⟨hv, kC, dv, cl, B, q1, S1, q3, H1, G1⟩ := A
  obtain ⟨T', h', X', e', W, g'⟩ := stB X hx hZ hh B (j := Int32.ofNat i) (inb hv S1 hi) (g := mkF m pc Ls (.int x :: .int (Int32.ofNat i) :: .ref a :: st)) rfl rfl (hb hb1 hd)
  have V := Arv.set B q1 S1 q3 H1 G1 (fits_nar_byte x) W i (ofNat_clamp (by omega)) hi
  rw [ofNat_clamp (by omega)] at W
  exact (K T' h' ⟨⟨hx, hb1, hml, hrt, hlk, hnm, hEL⟩, k0, _, X', e', hZ, hown, hS, by rw [W.size]; exact hk0, N.snoc X' ga, C.trans (CHr.wr W S C.1), ext_wr O W ga, hpr⟩ W ⟨by simpa using hv, kC, dv, by rw [List.length_set]; exact V⟩).pre g'
theorem g_alen (w : Wk p l e R s m args below meth c Z a0 EL pr y bs ml rt T vm0 h k n) {a : Addr} {ty : FieldType} {vs : List Value} (hd : decode bs pc = .ok (.arraylength, 1)) (hq : pc + 1 = q) (A : Ar Z h a ty vs) (hr : Go p e below Φ (T.setTop (mkF m q Ls (.int (Int32.ofNat vs.length) :: st)))) : Go p e below Φ (T.setTop (mkF m pc Ls (.ref a :: st))) := by
  subst hq; obtain ⟨⟨hx, hb1, hml, hrt, hlk, hnm, hEL⟩, k0, locs, X, hh, hZ, hown, hS, hk0, N, C, O, hpr⟩ := w
  obtain ⟨hv, kC, dv, cl, B, q1, S1, q3, H1, G1⟩ := A
  refine hr.pre fun t r => X.arraylength (g := mkF m pc Ls (.ref a :: st)) hx (by rw [hh]; exact B.1) (State.isArrayOf_alike hZ.alike B.2.1) rfl rfl (hb hb1 hd) t ?_
  rw [len_of S1 q3]; exact r
theorem g_caload (w : Wk p l e R s m args below meth c Z a0 EL pr y bs ml rt T vm0 h k n) {a : Addr} {vs : List Value} {j : Int32} {i : Nat} {v : Value} (hd : decode bs pc = .ok (.caload, 1)) (hq : pc + 1 = q) (A : Ar Z h a .char vs) (hj : j = Int32.ofNat i) (hi : i < vs.length) (hv' : vs[i]? = some v) (hr : Go p e below Φ (T.setTop (mkF m q Ls (v :: st)))) : Go p e below Φ (T.setTop (mkF m pc Ls (.int j :: .ref a :: st))) := by
  subst hq hj; obtain ⟨⟨hx, hb1, hml, hrt, hlk, hnm, hEL⟩, k0, locs, X, hh, hZ, hown, hS, hk0, N, C, O, hpr⟩ := w
  obtain ⟨hv, kC, dv, cl, B, q1, S1, q3, H1, G1⟩ := A
  refine hr.pre fun t r => X.caload (g := mkF m pc Ls (.int (Int32.ofNat i) :: .ref a :: st)) hx (by rw [hh]; exact B.1) (State.isArrayOf_alike hZ.alike B.2.1) B.2.2 (inb hv S1 hi) (H1.at (inb hv S1 hi) (by rw [ofNat_clamp (by omega), List.getD_eq_getElem?_getD, hv']; rfl)) rfl rfl (hb hb1 hd) t r
theorem g_baload (w : Wk p l e R s m args below meth c Z a0 EL pr y bs ml rt T vm0 h k n) {a : Addr} {vs : List Value} {j : Int32} {i : Nat} {v : Value} (hd : decode bs pc = .ok (.baload, 1)) (hq : pc + 1 = q) (A : Ar Z h a .byte vs) (hj : j = Int32.ofNat i) (hi : i < vs.length) (hv' : vs[i]? = some v) (hr : Go p e below Φ (T.setTop (mkF m q Ls (v :: st)))) : Go p e below Φ (T.setTop (mkF m pc Ls (.int j :: .ref a :: st))) := by
  subst hq hj; obtain ⟨⟨hx, hb1, hml, hrt, hlk, hnm, hEL⟩, k0, locs, X, hh, hZ, hown, hS, hk0, N, C, O, hpr⟩ := w
  obtain ⟨hv, kC, dv, cl, B, q1, S1, q3, H1, G1⟩ := A
  refine hr.pre fun t r => X.baloadBytes (g := mkF m pc Ls (.int (Int32.ofNat i) :: .ref a :: st)) hx (by rw [hh]; exact B.1) (State.isArrayOf_alike hZ.alike B.2.1) B.2.2 (inb hv S1 hi) (H1.at (inb hv S1 hi) (by rw [ofNat_clamp (by omega), List.getD_eq_getElem?_getD, hv']; rfl)) rfl rfl (hb hb1 hd) t r
/-- checkcast, instanceof: yes -/
theorem g_cast (w : Wk p l e R s m args below meth c Z a0 EL pr y bs ml rt T vm0 h k n) {i : Nat} {K' : String} {a : Addr} (hd : decode bs pc = .ok (.checkcast i, 3)) (hq : pc + 3 = q) (w1 : (Cond.classLink y.cls i K').before a0 Z = true) (F : Ins Z h a K' true) (K : ∀ T', Wk p l e R s m args below meth c Z a0 EL pr y bs ml rt T' vm0 h k n → Go p e below Φ (T'.setTop (mkF m q Ls (.ref a :: st)))) : Go p e below Φ (T.setTop (mkF m pc Ls (.ref a :: st))) := by
  subst hq; obtain ⟨⟨hx, hb1, hml, hrt, hlk, hnm, hEL⟩, k0, locs, X, hh, hZ, hown, hS, hk0, N, C, O, hpr⟩ := w
  obtain ⟨T', X', e', g'⟩ := castY X hx hZ hown w1 hh F (g := mkF m pc Ls (.ref a :: st)) rfl rfl (hb hb1 hd)
  exact (K T' ⟨⟨hx, hb1, hml, hrt, hlk, hnm, hEL⟩, k0, locs, X', e', hZ, hown, hS, hk0, N, C, O, hpr⟩).pre g'
theorem g_inst (w : Wk p l e R s m args below meth c Z a0 EL pr y bs ml rt T vm0 h k n) {i : Nat} {K' : String} {a : Addr} (hd : decode bs pc = .ok (.instanceof i, 3)) (hq : pc + 3 = q) (w1 : (Cond.classLink y.cls i K').before a0 Z = true) (F : Ins Z h a K' true) (K : ∀ T', Wk p l e R s m args below meth c Z a0 EL pr y bs ml rt T' vm0 h k n → Go p e below Φ (T'.setTop (mkF m q Ls (.int 1 :: st)))) : Go p e below Φ (T.setTop (mkF m pc Ls (.ref a :: st))) := by
  subst hq; obtain ⟨⟨hx, hb1, hml, hrt, hlk, hnm, hEL⟩, k0, locs, X, hh, hZ, hown, hS, hk0, N, C, O, hpr⟩ := w
  obtain ⟨T', X', e', g'⟩ := instY X hx hZ hown w1 hh F (g := mkF m pc Ls (.ref a :: st)) rfl rfl (hb hb1 hd)
  exact (K T' ⟨⟨hx, hb1, hml, hrt, hlk, hnm, hEL⟩, k0, locs, X', e', hZ, hown, hS, hk0, N, C, O, hpr⟩).pre g'
/-- Object.<init> -/
theorem g_initO (w : Wk p l e R s m args below meth c Z a0 EL pr y bs ml rt T vm0 h k n) {i W : Nat} {a : Addr} (hd : decode bs pc = .ok (.invokespecial i, 3)) (hq : pc + 3 = q) (hsz : Ls.size = ml) (w1 : (Cond.methodLink y.cls i Lib.objectInit).before a0 Z = true) (w2 : (Cond.instanceMethod Lib.objectInit).before a0 Z = true) (w3 : (Cond.code Lib.objectInit ⟨#[0xb1]⟩ 1 none).before a0 Z = true) (hW : 2 * 0 + (st.map fun v => v.category).sum ≤ W) (hf : 1 ≤ R.frames) (hl : W + 12 ≤ R.locals)
    (K : ∀ T', Wk p l e R s m args below meth c Z a0 EL pr y bs ml rt T' vm0 h k n → Go p e below Φ (T'.setTop (mkF m q Ls st))) : Go p e below Φ (T.setTop (mkF m pc Ls (.ref a :: st))) := by
  subst hq; obtain ⟨⟨hx, hb1, hml, hrt, hlk, hnm, hEL⟩, k0, locs, X, hh, hZ, hown, hS, hk0, N, C, O, hpr⟩ := w
  obtain ⟨T', X', e', g'⟩ := initO X hx hZ hown w1 w2 w3 hh (g := mkF m pc Ls (.ref a :: st)) rfl (hsz.trans hml.symm) rfl (hb hb1 hd) hf hW hl
  exact (K T' ⟨⟨hx, hb1, hml, hrt, hlk, hnm, hEL⟩, k0, locs, X', e', hZ, hown, hS, hk0, N, C, O, hpr⟩).pre g'
/-- ldc of a String constant of EL -/
theorem g_ldcS (w : Wk p l e R s m args below meth c Z a0 EL pr y bs ml rt T vm0 h k n) {i nn : Nat} {text : String} {vs : List Value} {z : Int32} (hd : decode bs pc = .ok (.ldc i, 2)) (hq : pc + 2 = q) (hp : pr = false) (w1 : (Cond.stringLink y.cls i text).before a0 Z = true) (wS : ∀ a ∈ Bundle.stringAtoms, a.before a0 Z = true) (hmem : (y.cls, i) ∈ EL)
    (ht : (∀ c ∈ text.toList, c.toNat < 256) ∧ text.toList.map (fun c => Value.int (Jvm.Lit.byteI c.toNat.toUInt16)) = vs) (hz : ¬ z < 0) (hl : z.toNatClampNeg = vs.length) (hn : 4 * text.toList.length ≤ nn) (hbig : nn ≤ 536870912) (hc : k + 2 ≤ R.cells) (hs : n + (nn + 4) ≤ R.slots)
    (K : ∀ T' vm' h' a b kb, Wk p l e R s m args below meth c Z a0 EL pr y bs ml rt T' vm' h' (k + 2) (n + (nn + 4)) → Ext h h' → Exa Z h' a "java/lang/String" → Fld Z h' a "java/lang/String" "coder" "B" (.int 0) → Fld Z h' a "java/lang/String" "value" "[B" (.ref b) → Arv Z h' b kb .byte z vs (.int 0) → CHr Z EL vm0 h vm' h' → (∀ x, Safe Z EL vm' h' x → x ≠ a ∧ x ≠ b) → Go p e below Φ (T'.setTop (mkF m q Ls (.ref a :: st)))) : Go p e below Φ (T.setTop (mkF m pc Ls st)) := by
  subst hq hp; obtain ⟨⟨hx, hb1, hml, hrt, hlk, hnm, hEL⟩, k0, locs, X, hh, hZ, hown, hS, hk0, N, C, O, hpr⟩ := w
  obtain ⟨a, T', h', k1, b, kb, X', e', E, hS', hk', hZ', hown', E1, F1, F2, A1, -, -, C', -, Sf, g'⟩ := ldcCH X hx hZ hown w1 wS hh hS hk0 hEL hmem C.1 ht hz hl (g := mkF m pc Ls st) rfl (hb hb1 hd) hn hbig hc hs
  exact (K T' T'.vm h' a b kb ⟨⟨hx, hb1, hml, hrt, hlk, hnm, hEL⟩, k1, locs, X', e', hZ', hown', hS', hk', N, C.trans C', ext_trans O E, fun q => by cases q⟩ E E1 F1 F2 A1 C' Sf).pre g'
/-- ldc of a String constant, its text not asked -/
theorem g_ldcO (w : Wk p l e R s m args below meth c Z a0 EL pr y bs ml rt T vm0 h k n) {i nn : Nat} {text : String} (hd : decode bs pc = .ok (.ldc i, 2)) (hq : pc + 2 = q) (hp : pr = false) (w1 : (Cond.stringLink y.cls i text).before a0 Z = true) (wS : ∀ a ∈ Bundle.stringAtoms, a.before a0 Z = true) (hn : 4 * text.toList.length ≤ nn) (hbig : nn ≤ 536870912) (hc : k + 2 ≤ R.cells) (hs : n + (nn + 4) ≤ R.slots)
    (K : ∀ T' vm' h' a, Wk p l e R s m args below meth c Z a0 EL pr y bs ml rt T' vm' h' (k + 2) (n + (nn + 4)) → Ext h h' → CHr Z EL vm0 h vm' h' → Go p e below Φ (T'.setTop (mkF m q Ls (.ref a :: st)))) : Go p e below Φ (T.setTop (mkF m pc Ls st)) := by
  subst hq hp; obtain ⟨⟨hx, hb1, hml, hrt, hlk, hnm, hEL⟩, k0, locs, X, hh, hZ, hown, hS, hk0, N, C, O, hpr⟩ := w
  obtain ⟨a, T', h', k1, X', e', E, hS', hk', hZ', hown', C', -, g'⟩ := ldcOH X hx hZ hown w1 wS hh hS hk0 hEL C.1 (g := mkF m pc Ls st) rfl (hb hb1 hd) hn hbig hc hs
  exact (K T' T'.vm h' a ⟨⟨hx, hb1, hml, hrt, hlk, hnm, hEL⟩, k1, locs, X', e', hZ', hown', hS', hk', N, C.trans C', ext_trans O E, fun q => by cases q⟩ E C').pre g'
/-- a callee's contract, at the call -/
theorem Con.back {y' : MethodName} {bs' : ByteArray} {ml' : Nat} {rt' : Option FieldType} {rm : Room} {as' : Array Value} {sf : List Addr} {Q : Option Value → Heap → Prop} {len W : Nat} (hM : Con l Z EL pr y' bs' ml' rt' [] rm as' sf h Q) (hsf : ∀ x ∈ sf, x < h.size ∧ Safe Z EL vm0 h x) (hZ : Z.Warmed39 vm0) (wc : (Cond.code y' bs' ml' rt').before a0 Z = true) (wz : (Cond.initialized y'.cls).before a0 Z = true)
    (hf : rm.frames + 1 ≤ R.frames) (hl : W + (ml' + 11) + rm.locals ≤ R.locals) (hEL : EW Z a0 EL) (H : CHv Z EL vm0 h) :
    BackS l R p e below (s.setVm vm0) args y' len W (fun A a => a = as' ∧ A.U.heap = h ∧ A.cells + rm.cells ≤ R.cells ∧ A.slots + rm.slots ≤ R.slots)
      (fun A _ v B => ∃ L, (Q v B.U.heap ∧ Ext Z.heap B.U.heap ∧ Fr Z.heap.size L) ∧ B.locs = A.locs ++ L ∧ B.cells = A.cells + rm.cells ∧ B.slots = A.slots + rm.slots ∧ CHr Z EL vm0 h B.U.vm B.U.heap ∧ (pr = true → A.U.WarmedH B.U.vm)) :=
  BackS.of_freeW (bytes := bs') (maxL := ml') (ret := rt') (E := fun _ first o t L kk nn => kk = rm.cells ∧ nn = rm.slots ∧ (∃ v, o = .returned v ∧ Q v t.heap ∧ Ext Z.heap t.heap ∧ Fr Z.heap.size L) ∧ CHr Z EL first.vm first.heap t.vm t.heap ∧ (pr = true → first.WarmedH t.vm)) hM hf hl
    (fun m meth c A a Y hp => have hU : Z.Warmed39 A.U.vm := wtrans (s := s.setVm vm0) hZ Y.warmed
      ⟨by show (Cond.and _ .tt).before a A.U = true; rw [Cond.before_and, mv hU wc]; rfl, mv hU wc, mv hU wz, hp.2.2.1, hp.2.2.2⟩)
    (fun m meth c A a g mk Y hp => ⟨hp.1, wtrans (s := s.setVm vm0) hZ Y.warmed, hp.2.1, (CHv.at Y hZ hEL H).1, fun x hx => (CHv.at Y hZ hEL H).safe (hsf x hx).1 (hsf x hx).2⟩) (fun _ _ _ _ _ _ _ _ _ => trivial)
    (fun _ _ _ _ ⟨v, L, h1, h2, h3, h4, h5, h6, h7⟩ => ⟨L, _, _, h7, rfl, rfl, ⟨v, h1, h2, h3, h4⟩, h5, h6⟩)
    (fun m meth c A a g mk v t L kk nn Y hp _ _ ⟨e1, e2, ⟨v', e3, e4⟩, e5, e6⟩ => by
      cases e3; subst e1 e2
      refine ⟨L, e4, rfl, rfl, rfl, (CHv.at Y hZ hEL H).trans ?_, e6⟩
      rw [← hp.2.1]; exact e5)
/-- behind a call -/
theorem Wk.after (w : Wk p l e R s m args below meth c Z a0 EL pr y bs ml rt T vm0 h k n) {T' : State} {locs' : List Loc} {k' n' : Nat} (X' : Stand p l e R ((s.setVm vm0).setVm T'.vm) m args below meth c T' locs' k' n') (h2 : (s.setVm vm0).Since T'.vm T'.heap.size) (hg : T.heap.size ≤ T'.heap.size) (N' : Fr Z.heap.size locs') (C' : CHr Z EL vm0 h T'.vm T'.heap) (O' : Ext Z.heap T'.heap) (hpr' : pr = true → (s.setVm vm0).WarmedH T'.vm) :
    Wk p l e R s m args below meth c Z a0 EL pr y bs ml rt T' T'.vm T'.heap k' n' := by
  obtain ⟨hd, k0, locs, X, rfl, hZ, hown, hS, hk0, N, C, O, hpr⟩ := w
  obtain ⟨a, b, c', d⟩ := rebS (Z := Z) hS hk0 X' h2 hg hZ hown
  exact ⟨hd, _, locs', a, rfl, c', d, b, Nat.le_refl _, N', C.trans C', O', fun q => State.WarmedH.trans (t := s.setVm vm0) (hpr q) (hpr' q)⟩
/-- invokestatic -/
theorem g_static (w : Wk p l e R s m args below meth c Z a0 EL pr y bs ml rt T vm0 h k n) {y' : MethodName} {bs' : ByteArray} {ml' : Nat} {rt' : Option FieldType} {rm : Room} {Q : Option Value → Heap → Prop} {i W : Nat} {argsL : List Value} {ps : List FieldType} {rr : Option FieldType} {stk : List Value} {sf : List Addr} (hM : Con l Z EL pr y' bs' ml' rt' [] rm argsL.toArray sf h Q) (hsf : ∀ x ∈ sf, x < h.size ∧ Safe Z EL vm0 h x) (hd : decode bs pc = .ok (.invokestatic i, 3)) (hq : pc + 3 = q) (hsz : Ls.size = ml)
    (w1 : (Cond.methodLink y.cls i y').before a0 Z = true) (w2 : (Cond.static y').before a0 Z = true) (w3 : (Cond.initialized y'.cls).before a0 Z = true) (w4 : (Cond.code y' bs' ml' rt').before a0 Z = true) (hy : y'.cls ≠ "java/lang/invoke/MethodHandle" ∧ y'.cls ≠ "java/lang/invoke/VarHandle") (hpd : parseMethodDescriptor y'.desc = some ⟨ps, rr⟩) (hlen : argsL.length = ps.length) (hst : stk = argsL.reverse ++ st)
    (hW : 2 * 0 + (st.map fun v => v.category).sum ≤ W) (hf : rm.frames + 1 ≤ R.frames) (hl : W + (ml' + 11) + rm.locals ≤ R.locals) (hc : k + rm.cells ≤ R.cells) (hs : n + rm.slots ≤ R.slots)
    (K : ∀ T' h' v, Wk p l e R s m args below meth c Z a0 EL pr y bs ml rt T' T'.vm h' (k + rm.cells) (n + rm.slots) → h.size ≤ h'.size → CHr Z EL vm0 h T'.vm h' → Q v h' → Go p e below Φ (T'.setTop (mkF m q Ls (v.toList ++ st)))) : Go p e below Φ (T.setTop (mkF m pc Ls stk)) := by
  subst hq hst; have w' := w; obtain ⟨⟨hx, hb1, hml, hrt, hlk, hnm, hEL⟩, k0, locs, X, hh, hZ, hown, hS, hk0, N, C, O, hpr⟩ := w
  obtain ⟨v, vm₁, ⟨T', L', k', n'⟩, hW1, X', hS', hg, ⟨L, ⟨hQ, hO', hF⟩, hl', hk', hn', hC', hp'⟩, stp⟩ := callSS X hx hown (mvT (s := s.setVm vm0) hZ w1) (mvT (s := s.setVm vm0) hZ w2) (mvT (s := s.setVm vm0) hZ w3) (mvT (s := s.setVm vm0) hZ w4) hy (hM.back hsf hZ w4 w3 hf hl hEL C.1) (g := mkF m pc Ls (argsL.reverse ++ st)) rfl (hsz.trans hml.symm) (lenOf hpd hlen) rfl hW (hb hb1 hd) (fun _ _ => ⟨rfl, hh, hc, hs⟩)
  dsimp only [Pt.U, Pt.locs, Pt.cells, Pt.slots] at X' hS' hg hQ hO' hl' hk' hn' hC' hp' stp
  subst hl' hk' hn'
  exact (K T' T'.heap v (w'.after X' hS' hg (N.app hF) hC' hO' fun q => State.WarmedH.trans (t := T.setVm vm₁) hW1 (hp' q)) hC'.2.1 hC' hQ).pre' stp
/-- invokespecial of a constructor -/
theorem g_special (w : Wk p l e R s m args below meth c Z a0 EL pr y bs ml rt T vm0 h k n) {y' : MethodName} {bs' : ByteArray} {ml' : Nat} {rm : Room} {Q : Option Value → Heap → Prop} {i W : Nat} {a : Addr} {argsL : List Value} {ps : List FieldType} {rr : Option FieldType} {stk : List Value} {sf : List Addr} (hM : Con l Z EL pr y' bs' ml' none [] rm (.ref a :: argsL).toArray sf h Q) (hsf : ∀ x ∈ sf, x < h.size ∧ Safe Z EL vm0 h x) (hd : decode bs pc = .ok (.invokespecial i, 3)) (hq : pc + 3 = q) (hsz : Ls.size = ml) (hni : y'.name = "<init>")
    (w1 : (Cond.methodLink y.cls i y').before a0 Z = true) (w2 : (Cond.instanceMethod y').before a0 Z = true) (w3 : (Cond.initialized y'.cls).before a0 Z = true) (w4 : (Cond.code y' bs' ml' none).before a0 Z = true) (hy : y'.cls ≠ "java/lang/invoke/MethodHandle" ∧ y'.cls ≠ "java/lang/invoke/VarHandle") (hpd : parseMethodDescriptor y'.desc = some ⟨ps, rr⟩) (hlen : argsL.length = ps.length) (hst : stk = argsL.reverse ++ .ref a :: st)
    (hW : 2 * 0 + (st.map fun v => v.category).sum ≤ W) (hf : rm.frames + 1 ≤ R.frames) (hl : W + (ml' + 11) + rm.locals ≤ R.locals) (hc : k + rm.cells ≤ R.cells) (hs : n + rm.slots ≤ R.slots)
    (K : ∀ T' h' v, Wk p l e R s m args below meth c Z a0 EL pr y bs ml rt T' T'.vm h' (k + rm.cells) (n + rm.slots) → h.size ≤ h'.size → CHr Z EL vm0 h T'.vm h' → Q v h' → Go p e below Φ (T'.setTop (mkF m q Ls (v.toList ++ st)))) : Go p e below Φ (T.setTop (mkF m pc Ls stk)) := by
  subst hq hst; have w' := w; obtain ⟨⟨hx, hb1, hml, hrt, hlk, hnm, hEL⟩, k0, locs, X, hh, hZ, hown, hS, hk0, N, C, O, hpr⟩ := w
  obtain ⟨v, vm₁, ⟨T', L', k', n'⟩, hW1, X', hS', hg, ⟨L, ⟨hQ, hO', hF⟩, hl', hk', hn', hC', hp'⟩, stp⟩ := X.specialBackS hx hni hown (mvT (s := s.setVm vm0) hZ w1) (mvT (s := s.setVm vm0) hZ w2) (mvT (s := s.setVm vm0) hZ w4) hy (hM.back hsf hZ w4 w3 hf hl hEL C.1) (g := mkF m pc Ls (argsL.reverse ++ .ref a :: st)) rfl (hsz.trans hml.symm) (Steps.refl _) (a := a) (lenOf hpd hlen) rfl hW (hb hb1 hd) (fun _ _ => ⟨rfl, hh, hc, hs⟩)
  dsimp only [Pt.U, Pt.locs, Pt.cells, Pt.slots] at X' hS' hg hQ hO' hl' hk' hn' hC' hp' stp
  subst hl' hk' hn'
  exact (K T' T'.heap v (w'.after X' hS' hg (N.app hF) hC' hO' fun q => State.WarmedH.trans (t := T.setVm vm₁) hW1 (hp' q)) hC'.2.1 hC' hQ).pre' stp
/-- invokevirtual -/
theorem g_virtual (w : Wk p l e R s m args below meth c Z a0 EL pr y bs ml rt T vm0 h k n) {y1 y' : MethodName} {bs' : ByteArray} {ml' : Nat} {rt' : Option FieldType} {rm : Room} {Q : Option Value → Heap → Prop} {i W : Nat} {a : Addr} {C' : String} {argsL : List Value} {ps : List FieldType} {rr : Option FieldType} {stk : List Value} {sf : List Addr} (hM : Con l Z EL pr y' bs' ml' rt' [] rm (.ref a :: argsL).toArray sf h Q) (hsf : ∀ x ∈ sf, x < h.size ∧ Safe Z EL vm0 h x) (E : Exa Z h a C') (hd : decode bs pc = .ok (.invokevirtual i, 3)) (hq : pc + 3 = q) (hsz : Ls.size = ml)
    (w1 : (Cond.methodLink y.cls i y1).before a0 Z = true) (wd : (Cond.declares y1).before a0 Z = true) (ws : (Cond.selects C' y1 y').before a0 Z = true) (w2 : (Cond.instanceMethod y').before a0 Z = true) (w3 : (Cond.initialized y'.cls).before a0 Z = true) (w4 : (Cond.code y' bs' ml' rt').before a0 Z = true) (hy : y1.cls ≠ "java/lang/invoke/MethodHandle" ∧ y1.cls ≠ "java/lang/invoke/VarHandle") (hnf : ∀ s' : State, Z.Warmed39 s'.vm → NotFace s' y1) (hpd : parseMethodDescriptor y1.desc = some ⟨ps, rr⟩) (hlen : argsL.length = ps.length) (hst : stk = argsL.reverse ++ .ref a :: st)
    (hW : 2 * 0 + (st.map fun v => v.category).sum ≤ W) (hf : rm.frames + 1 ≤ R.frames) (hl : W + (ml' + 11) + rm.locals ≤ R.locals) (hc : k + rm.cells ≤ R.cells) (hs : n + rm.slots ≤ R.slots)
    (K : ∀ T' h' v, Wk p l e R s m args below meth c Z a0 EL pr y bs ml rt T' T'.vm h' (k + rm.cells) (n + rm.slots) → h.size ≤ h'.size → CHr Z EL vm0 h T'.vm h' → Q v h' → Go p e below Φ (T'.setTop (mkF m q Ls (v.toList ++ st)))) : Go p e below Φ (T.setTop (mkF m pc Ls stk)) := by
  subst hq hst; have w' := w; obtain ⟨⟨hx, hb1, hml, hrt, hlk, hnm, hEL⟩, k0, locs, X, hh, hZ, hown, hS, hk0, N, C, O, hpr⟩ := w
  obtain ⟨cq, kq, qa, -, qc⟩ := isOf (s := s.setVm vm0) hZ hh E
  obtain ⟨v, vm₁, ⟨T', L', k', n'⟩, hW1, X', hS', hg, ⟨L, ⟨hQ, hO', hF⟩, hl', hk', hn', hC', hp'⟩, stp⟩ := X.virtualBackS hx hown (mvT (s := s.setVm vm0) hZ w1) (mvT (s := s.setVm vm0) hZ wd) (hnf (s.setVm vm0) hZ) (mvT (s := s.setVm vm0) hZ ws) (mvT (s := s.setVm vm0) hZ w2) hy (hM.back hsf hZ w4 w3 hf hl hEL C.1) qa qc (g := mkF m pc Ls (argsL.reverse ++ .ref a :: st)) rfl (hsz.trans hml.symm) (Steps.refl _) (lenOf hpd hlen) rfl hW (hb hb1 hd) (fun _ _ => ⟨rfl, hh, hc, hs⟩)
  dsimp only [Pt.U, Pt.locs, Pt.cells, Pt.slots] at X' hS' hg hQ hO' hl' hk' hn' hC' hp' stp
  subst hl' hk' hn'
  exact (K T' T'.heap v (w'.after X' hS' hg (N.app hF) hC' hO' fun q => State.WarmedH.trans (t := T.setVm vm₁) hW1 (hp' q)) hC'.2.1 hC' hQ).pre' stp
theorem nf {y1 : MethodName} {C' : String} (ws : (Cond.selects C' y1 y1).before a0 Z = true) (s' : State) (hZ : Z.Warmed39 s'.vm) : NotFace s' y1 := notFace_of_selects (args := #[]) (mvT hZ ws)
/-- behind a step whose law leaves the tables: Back's form -/
theorem Wk.afterB (w : Wk p l e R s m args below meth c Z a0 EL pr y bs ml rt T vm0 h k n) {T' : State} {L : List Loc} {k' n' : Nat} {ws : List Addr} (hh' : ∃ locs, ∀ locs0, locs0 = locs → Stand p l e R (s.setVm vm0) m args below meth c T' (locs0 ++ L) k' n' ∧ Fr Z.heap.size locs0) (hF : Fr Z.heap.size L) (Kp : Keep h T'.heap ws) (hs : ∀ x ∈ ws, Safe Z EL vm0 h x) (hn : ∀ x ∈ ws, Z.heap.size ≤ x) : Wk p l e R s m args below meth c Z a0 EL pr y bs ml rt T' vm0 T'.heap k' n' := by
  obtain ⟨hd, k0, locs, X, rfl, hZ, hown, hS, hk0, N, C, O, hpr⟩ := w
  obtain ⟨l1, q⟩ := hh'
  obtain ⟨X', N'⟩ := q _ rfl
  exact ⟨hd, k0, _, X', rfl, hZ, hown, hS, Nat.le_trans hk0 Kp.1, N'.app hF, C.trans (CHr.keep Kp hs C.1), (Old.keep (n0 := Z.heap.size) ⟨rfl, O⟩ Kp hn).2, hpr⟩
/-- invokevirtual paid by a law that leaves the heap -/
theorem g_virtualB (w : Wk p l e R s m args below meth c Z a0 EL pr y bs ml rt T vm0 h k n) {y1 y' : MethodName} {V : Option Value → Prop} {i W : Nat} {a : Addr} {C' : String} {argsL : List Value} {ps : List FieldType} {rr : Option FieldType} {stk : List Value}
    (hK : ∀ s' : State, Z.Warmed39 s'.vm → Back l R p e below s' args y' 3 W (fun P a' => a' = (.ref a :: argsL).toArray ∧ P.U.heap = h ∧ P.cells + 0 ≤ R.cells ∧ P.slots + 0 ≤ R.slots) (fun P _ v B => ∃ L, (V v ∧ L = [] ∧ B.U.heap = h) ∧ B.locs = P.locs ++ L ∧ B.cells = P.cells + 0 ∧ B.slots = P.slots + 0))
    (E : Exa Z h a C') (hd : decode bs pc = .ok (.invokevirtual i, 3)) (hq : pc + 3 = q) (hsz : Ls.size = ml)
    (w1 : (Cond.methodLink y.cls i y1).before a0 Z = true) (wd : (Cond.declares y1).before a0 Z = true) (ws : (Cond.selects C' y1 y').before a0 Z = true) (w2 : (Cond.instanceMethod y').before a0 Z = true) (hy : y1.cls ≠ "java/lang/invoke/MethodHandle" ∧ y1.cls ≠ "java/lang/invoke/VarHandle") (hnf : ∀ s' : State, Z.Warmed39 s'.vm → NotFace s' y1) (hpd : parseMethodDescriptor y1.desc = some ⟨ps, rr⟩) (hlen : argsL.length = ps.length) (hst : stk = argsL.reverse ++ .ref a :: st)
    (hW : 2 * 0 + (st.map fun v => v.category).sum ≤ W) (hc : k ≤ R.cells) (hs : n ≤ R.slots)
    (K : ∀ T' v, Wk p l e R s m args below meth c Z a0 EL pr y bs ml rt T' vm0 h k n → V v → Go p e below Φ (T'.setTop (mkF m q Ls (v.toList ++ st)))) : Go p e below Φ (T.setTop (mkF m pc Ls stk)) := by
  subst hq hst; have w' := w; obtain ⟨⟨hx, hb1, hml, hrt, hlk, hnm, hEL⟩, k0, locs, X, hh, hZ, hown, hS, hk0, N, C, O, hpr⟩ := w
  obtain ⟨cq, kq, qa, -, qc⟩ := isOf (s := s.setVm vm0) hZ hh E
  obtain ⟨v, vm₁, ⟨T', L', k', n'⟩, hW1, X', ⟨L, ⟨hV, hL, hH⟩, hl', hk', hn'⟩, stp⟩ := X.virtualBack hx hown (mvT (s := s.setVm vm0) hZ w1) (mvT (s := s.setVm vm0) hZ wd) (hnf (s.setVm vm0) hZ) (mvT (s := s.setVm vm0) hZ ws) (mvT (s := s.setVm vm0) hZ w2) hy (hK (s.setVm vm0) hZ) qa qc (g := mkF m pc Ls (argsL.reverse ++ .ref a :: st)) rfl (hsz.trans hml.symm) (Steps.refl _) (lenOf hpd hlen) rfl hW (hb hb1 hd) (fun _ _ => ⟨rfl, hh, hc, hs⟩)
  dsimp only [Pt.U, Pt.locs, Pt.cells, Pt.slots] at X' hV hL hH hl' hk' hn' stp
  subst hL hl' hk' hn'
  exact (K T' v ⟨⟨hx, hb1, hml, hrt, hlk, hnm, hEL⟩, k0, _, X', hH, hZ, hown, hS, hk0, N.app (Fr.nil _), C, O, hpr⟩ hV).pre' stp
/-- a constructor paid by a law in Back's form -/
theorem g_specialB (w : Wk p l e R s m args below meth c Z a0 EL pr y bs ml rt T vm0 h k n) {y' : MethodName} {bs' : ByteArray} {ml' kc ks : Nat} {Q : Option Value → Heap → List Loc → Prop} {i W : Nat} {a : Addr} {argsL : List Value} {ps : List FieldType} {rr : Option FieldType} {stk : List Value} {wr : List Addr}
    (hK : ∀ s' : State, Z.Warmed39 s'.vm → Back l R p e below s' args y' 3 W (fun P a' => a' = (.ref a :: argsL).toArray ∧ P.U.heap = h ∧ P.cells + kc ≤ R.cells ∧ P.slots + ks ≤ R.slots) (fun P _ v B => ∃ L, Q v B.U.heap L ∧ B.locs = P.locs ++ L ∧ B.cells = P.cells + kc ∧ B.slots = P.slots + ks))
    (hQ : ∀ v h' L, Q v h' L → Fr Z.heap.size L ∧ Keep h h' wr) (hsf : ∀ x ∈ wr, Safe Z EL vm0 h x) (hnw : ∀ x ∈ wr, Z.heap.size ≤ x)
    (hd : decode bs pc = .ok (.invokespecial i, 3)) (hq : pc + 3 = q) (hsz : Ls.size = ml) (hni : y'.name = "<init>")
    (w1 : (Cond.methodLink y.cls i y').before a0 Z = true) (w2 : (Cond.instanceMethod y').before a0 Z = true) (w4 : (Cond.code y' bs' ml' none).before a0 Z = true) (hy : y'.cls ≠ "java/lang/invoke/MethodHandle" ∧ y'.cls ≠ "java/lang/invoke/VarHandle") (hpd : parseMethodDescriptor y'.desc = some ⟨ps, rr⟩) (hlen : argsL.length = ps.length) (hst : stk = argsL.reverse ++ .ref a :: st)
    (hW : 2 * 0 + (st.map fun v => v.category).sum ≤ W) (hc : k + kc ≤ R.cells) (hs : n + ks ≤ R.slots)
    (K : ∀ T' h' v L, Wk p l e R s m args below meth c Z a0 EL pr y bs ml rt T' vm0 h' (k + kc) (n + ks) → Q v h' L → Go p e below Φ (T'.setTop (mkF m q Ls (v.toList ++ st)))) : Go p e below Φ (T.setTop (mkF m pc Ls stk)) := by
  subst hq hst; have w' := w; obtain ⟨⟨hx, hb1, hml, hrt, hlk, hnm, hEL⟩, k0, locs, X, hh, hZ, hown, hS, hk0, N, C, O, hpr⟩ := w
  obtain ⟨v, vm₁, ⟨T', L', k', n'⟩, hW1, X', ⟨L, hQ', hl', hk', hn'⟩, stp⟩ := X.specialBack hx hni hown (mvT (s := s.setVm vm0) hZ w1) (mvT (s := s.setVm vm0) hZ w2) (mvT (s := s.setVm vm0) hZ w4) hy (hK (s.setVm vm0) hZ) (g := mkF m pc Ls (argsL.reverse ++ .ref a :: st)) rfl (hsz.trans hml.symm) (Steps.refl _) (a := a) (lenOf hpd hlen) rfl hW (hb hb1 hd) (fun _ _ => ⟨rfl, hh, hc, hs⟩)
  dsimp only [Pt.U, Pt.locs, Pt.cells, Pt.slots] at X' hQ' hl' hk' hn' stp
  subst hl' hk' hn'
  obtain ⟨hF, Kp⟩ := hQ v T'.heap L hQ'
  exact (K T' T'.heap v L ⟨⟨hx, hb1, hml, hrt, hlk, hnm, hEL⟩, k0, _, X', rfl, hZ, hown, hS, Nat.le_trans hk0 Kp.1, N.app hF, C.trans (CHr.keep Kp hsf C.1), (Old.keep (n0 := Z.heap.size) ⟨rfl, O⟩ Kp hnw).2, hpr⟩ hQ').pre' stp
/-- a String whose value is null is no booked one -/
theorem safe_null {vm : Vm} {x : Addr} {kk : Nat} (hal : Z.vm.Alike vm) (wi : (Cond.instantiable "java/lang/String" kk).before a0 Z = true) (E : Exa Z h x "java/lang/String") (F : Fld Z h x "java/lang/String" "value" "[B" .null) : Safe Z EL vm h x := fun B => by
  obtain ⟨p, -, u, a, -, q, -, F', hy⟩ := B
  obtain ⟨cell, cf, k, i, f, h1, h2, h3, h4, h5, h6, h7⟩ := F
  obtain ⟨cS, ⟨⟨s1, s2, s3, ⟨cv, kv, iv, s4, s4'⟩, -, s6, s7, s8, s9, s10, s11, -⟩, -⟩, -⟩ := F'
  obtain ⟨k3, e3, -⟩ := State.fieldFound?_setVm (s := Z) hal h2
  have e4 := (show (Wst Z vm h).fieldFound? _ _ _ = _ from e3).symm.trans s4
  simp only [Option.some.injEq, Prod.mk.injEq] at e4
  rcases hy with rfl | rfl
  · have e5 : h[q.sa]? = some q.sC := s1
    rw [h1] at e5; cases e5
    rw [← e4.2.2.2, h7] at s8; cases s8
  · have e5 : h[q.sd]? = some q.SA := s10
    rw [h1] at e5; cases e5
    obtain ⟨ce, ke, f1, f2, f3, -⟩ := E
    rw [h1] at f1; cases f1
    obtain ⟨c2, k2, i1, i2, i3, -⟩ := Cond.instantiable_spec wi
    cases f2.symm.trans i1
    cases f3.symm.trans i2
    obtain ⟨k', z1, z2⟩ := hal.2.2 _ _ f3
    obtain ⟨-, k9, hk9, comp, hkind⟩ := s11
    have hk9 : vm.classes[q.SA.cls]? = some k9 := hk9
    cases hk9.symm.trans z1
    rw [z2] at hkind
    have hkind : ke.kind = _ := hkind
    rw [i3] at hkind; cases hkind
theorem Wk.more (w : Wk p l e R s m args below meth c Z a0 EL pr y bs ml rt T vm0 h k n) {k' n' : Nat} (hk : k ≤ k') (hn : n ≤ n') : Wk p l e R s m args below meth c Z a0 EL pr y bs ml rt T vm0 h k' n' := by
  obtain ⟨hd, k0, locs, X, r⟩ := w
  exact ⟨hd, k0, locs, X.more hk hn, r⟩
theorem Wk.safeAr (w : Wk p l e R s m args below meth c Z a0 EL pr y bs ml rt T vm0 h k n) {a : Addr} {ty : FieldType} {vs : List Value} (A : Ar Z h a ty vs) (ht : ty ≠ .byte) : Safe Z EL vm0 h a := by
  obtain ⟨-, _, _, A⟩ := A; exact Safe.arv w.wz.alike A ht
/-- calls whose callee leaves the heap as it was -/
theorem g_staticP (w : Wk p l e R s m args below meth c Z a0 EL pr y bs ml rt T vm0 h k n) {y' : MethodName} {bs' : ByteArray} {ml' : Nat} {rt' : Option FieldType} {rm : Room} {V : Option Value → Prop} {i W : Nat} {argsL : List Value} {ps : List FieldType} {rr : Option FieldType} {stk : List Value} {sf : List Addr} (hM : Con l Z EL pr y' bs' ml' rt' [] rm argsL.toArray sf h (fun v h' => V v ∧ h' = h)) (hsf : ∀ x ∈ sf, x < h.size ∧ Safe Z EL vm0 h x) (hd : decode bs pc = .ok (.invokestatic i, 3)) (hq : pc + 3 = q) (hsz : Ls.size = ml)
    (w1 : (Cond.methodLink y.cls i y').before a0 Z = true) (w2 : (Cond.static y').before a0 Z = true) (w3 : (Cond.initialized y'.cls).before a0 Z = true) (w4 : (Cond.code y' bs' ml' rt').before a0 Z = true) (hy : y'.cls ≠ "java/lang/invoke/MethodHandle" ∧ y'.cls ≠ "java/lang/invoke/VarHandle") (hpd : parseMethodDescriptor y'.desc = some ⟨ps, rr⟩) (hlen : argsL.length = ps.length) (hst : stk = argsL.reverse ++ st)
    (hW : 2 * 0 + (st.map fun v => v.category).sum ≤ W) (hf : rm.frames + 1 ≤ R.frames) (hl : W + (ml' + 11) + rm.locals ≤ R.locals) (hc : k + rm.cells ≤ R.cells) (hs : n + rm.slots ≤ R.slots)
    (K : ∀ T' v, Wk p l e R s m args below meth c Z a0 EL pr y bs ml rt T' T'.vm h (k + rm.cells) (n + rm.slots) → CHr Z EL vm0 h T'.vm h → V v → Go p e below Φ (T'.setTop (mkF m q Ls (v.toList ++ st)))) : Go p e below Φ (T.setTop (mkF m pc Ls stk)) :=
  g_static w hM hsf hd hq hsz w1 w2 w3 w4 hy hpd hlen hst hW hf hl hc hs fun T' h' v w' _ C' q' => by
    obtain ⟨hV, rfl⟩ := q'; exact K T' v w' C' hV
theorem g_specialP (w : Wk p l e R s m args below meth c Z a0 EL pr y bs ml rt T vm0 h k n) {y' : MethodName} {bs' : ByteArray} {ml' : Nat} {rm : Room} {V : Option Value → Prop} {i W : Nat} {a : Addr} {argsL : List Value} {ps : List FieldType} {rr : Option FieldType} {stk : List Value} {sf : List Addr} (hM : Con l Z EL pr y' bs' ml' none [] rm (.ref a :: argsL).toArray sf h (fun v h' => V v ∧ h' = h)) (hsf : ∀ x ∈ sf, x < h.size ∧ Safe Z EL vm0 h x) (hd : decode bs pc = .ok (.invokespecial i, 3)) (hq : pc + 3 = q) (hsz : Ls.size = ml) (hni : y'.name = "<init>")
    (w1 : (Cond.methodLink y.cls i y').before a0 Z = true) (w2 : (Cond.instanceMethod y').before a0 Z = true) (w3 : (Cond.initialized y'.cls).before a0 Z = true) (w4 : (Cond.code y' bs' ml' none).before a0 Z = true) (hy : y'.cls ≠ "java/lang/invoke/MethodHandle" ∧ y'.cls ≠ "java/lang/invoke/VarHandle") (hpd : parseMethodDescriptor y'.desc = some ⟨ps, rr⟩) (hlen : argsL.length = ps.length) (hst : stk = argsL.reverse ++ .ref a :: st)
    (hW : 2 * 0 + (st.map fun v => v.category).sum ≤ W) (hf : rm.frames + 1 ≤ R.frames) (hl : W + (ml' + 11) + rm.locals ≤ R.locals) (hc : k + rm.cells ≤ R.cells) (hs : n + rm.slots ≤ R.slots)
    (K : ∀ T' v, Wk p l e R s m args below meth c Z a0 EL pr y bs ml rt T' T'.vm h (k + rm.cells) (n + rm.slots) → CHr Z EL vm0 h T'.vm h → V v → Go p e below Φ (T'.setTop (mkF m q Ls (v.toList ++ st)))) : Go p e below Φ (T.setTop (mkF m pc Ls stk)) :=
  g_special w hM hsf hd hq hsz hni w1 w2 w3 w4 hy hpd hlen hst hW hf hl hc hs fun T' h' v w' _ C' q' => by
    obtain ⟨hV, rfl⟩ := q'; exact K T' v w' C' hV
theorem g_virtualP (w : Wk p l e R s m args below meth c Z a0 EL pr y bs ml rt T vm0 h k n) {y1 y' : MethodName} {bs' : ByteArray} {ml' : Nat} {rt' : Option FieldType} {rm : Room} {V : Option Value → Prop} {i W : Nat} {a : Addr} {C' : String} {argsL : List Value} {ps : List FieldType} {rr : Option FieldType} {stk : List Value} {sf : List Addr} (hM : Con l Z EL pr y' bs' ml' rt' [] rm (.ref a :: argsL).toArray sf h (fun v h' => V v ∧ h' = h)) (hsf : ∀ x ∈ sf, x < h.size ∧ Safe Z EL vm0 h x) (E : Exa Z h a C') (hd : decode bs pc = .ok (.invokevirtual i, 3)) (hq : pc + 3 = q) (hsz : Ls.size = ml)
    (w1 : (Cond.methodLink y.cls i y1).before a0 Z = true) (wd : (Cond.declares y1).before a0 Z = true) (ws : (Cond.selects C' y1 y').before a0 Z = true) (w2 : (Cond.instanceMethod y').before a0 Z = true) (w3 : (Cond.initialized y'.cls).before a0 Z = true) (w4 : (Cond.code y' bs' ml' rt').before a0 Z = true) (hy : y1.cls ≠ "java/lang/invoke/MethodHandle" ∧ y1.cls ≠ "java/lang/invoke/VarHandle") (hnf : ∀ s' : State, Z.Warmed39 s'.vm → NotFace s' y1) (hpd : parseMethodDescriptor y1.desc = some ⟨ps, rr⟩) (hlen : argsL.length = ps.length) (hst : stk = argsL.reverse ++ .ref a :: st)
    (hW : 2 * 0 + (st.map fun v => v.category).sum ≤ W) (hf : rm.frames + 1 ≤ R.frames) (hl : W + (ml' + 11) + rm.locals ≤ R.locals) (hc : k + rm.cells ≤ R.cells) (hs : n + rm.slots ≤ R.slots)
    (K : ∀ T' v, Wk p l e R s m args below meth c Z a0 EL pr y bs ml rt T' T'.vm h (k + rm.cells) (n + rm.slots) → CHr Z EL vm0 h T'.vm h → V v → Go p e below Φ (T'.setTop (mkF m q Ls (v.toList ++ st)))) : Go p e below Φ (T.setTop (mkF m pc Ls stk)) :=
  g_virtual w hM hsf E hd hq hsz w1 wd ws w2 w3 w4 hy hnf hpd hlen hst hW hf hl hc hs fun T' h' v w' _ C' q' => by
    obtain ⟨hV, rfl⟩ := q'; exact K T' v w' C' hV
theorem g_i2cM (w : Wk p l e R s m args below meth c Z a0 EL pr y bs ml rt T vm0 h k n) {x : Int32} (hd : decode bs pc = .ok (.i2c, 1)) (hq : pc + 1 = q) (hr : Go p e below Φ (T.setTop (mkF m q Ls (.int (x &&& 255) :: st)))) : Go p e below Φ (T.setTop (mkF m pc Ls (.int (x &&& 255) :: st))) := by
  refine g_i2c w hd hq ?_
  rw [i2c_mask]; exact hr
theorem no0 {P : Addr → Prop} : ∀ x ∈ ([] : List Addr), P x := fun _ q => nomatch q
theorem not1 {a b : Addr} (h : b ≠ a) : b ∉ [a] := fun q => h (List.mem_singleton.mp q)
theorem in1 {a : Addr} {P : Addr → Prop} (h : P a) : ∀ x ∈ [a], P x := fun x hx => by cases List.mem_singleton.mp hx; exact h
theorem keep_same {h1 h2 h3 : Heap} {a : Addr} (K : Keep h1 h2 [a]) (K' : Keep h2 h3 [a]) : Keep h1 h3 [a] := K.trans K' fun x hx => Or.inl hx
theorem keep_new {h1 h2 h3 : Heap} {a b : Addr} (K : Keep h1 h2 [a]) (K' : Keep h2 h3 [b]) (z : h1.size ≤ b) : Keep h1 h3 [a] := K.trans K' fun x hx => by cases List.mem_singleton.mp hx; exact Or.inr z
/-- a char of Latin-1; a char -/
def Lt8 (c : Int32) : Prop := ¬ c < 0 ∧ ¬ (255 : Int32) < c
def Lt16 (c : Int32) : Prop := ¬ c < 0 ∧ ¬ (65535 : Int32) < c
theorem Lt16.int {c : Int32} (h : Lt16 c) : 0 ≤ c.toInt ∧ c.toInt ≤ 65535 := by
  obtain ⟨h0, h1⟩ := h
  rw [Int32.lt_iff_toInt_lt] at h0 h1
  have e0 : (0 : Int32).toInt = 0 := rfl
  have e1 : (65535 : Int32).toInt = 65535 := rfl
  omega
theorem Lt8.int {c : Int32} (h : Lt8 c) : 0 ≤ c.toInt ∧ c.toInt ≤ 255 := by
  obtain ⟨h0, h1⟩ := h
  rw [Int32.lt_iff_toInt_lt] at h0 h1
  have e0 : (0 : Int32).toInt = 0 := rfl
  have e1 : (255 : Int32).toInt = 255 := rfl
  omega
theorem Lt16.of {c : Int32} (h0 : 0 ≤ c.toInt) (h1 : c.toInt ≤ 65535) : Lt16 c := by
  constructor
  · rw [Int32.lt_iff_toInt_lt]; have e0 : (0 : Int32).toInt = 0 := rfl; omega
  · rw [Int32.lt_iff_toInt_lt]; have e0 : (65535 : Int32).toInt = 65535 := rfl; omega
theorem Lt8.of {c : Int32} (h0 : 0 ≤ c.toInt) (h1 : c.toInt ≤ 255) : Lt8 c := by
  constructor
  · rw [Int32.lt_iff_toInt_lt]; have e0 : (0 : Int32).toInt = 0 := rfl; omega
  · rw [Int32.lt_iff_toInt_lt]; have e0 : (255 : Int32).toInt = 255 := rfl; omega
theorem Lt8.chr {c : Int32} (h : Lt8 c) : Lt16 c := Lt16.of h.int.1 (by have := h.int.2; omega)
theorem nar_chr {c : Int32} (h : Lt16 c) : nar .char c = c := by
  have := h.int
  show c.toUInt32.toUInt16.toUInt32.toInt32 = c
  apply Int32.toInt_inj.mp
  have e : c.toUInt32.toNat = c.toInt.toNat := by
    have h1 : c.toInt = c.toBitVec.toInt := rfl
    have h2 : c.toUInt32.toNat = c.toBitVec.toNat := rfl
    rw [h2, h1]
    rw [h1] at this
    rw [BitVec.toInt_eq_toNat_cond] at this ⊢
    split at this <;> split <;> omega
  have e2 : c.toUInt32.toUInt16.toUInt32 = c.toUInt32 := by
    apply UInt32.toNat_inj.mp
    rw [UInt16.toNat_toUInt32, UInt32.toNat_toUInt16, e]
    omega
  rw [e2, Int32.toInt32_toUInt32]
theorem nar_lat {c : Int32} (h : Lt8 c) : nar .char c = c := nar_chr h.chr
theorem mask255 (x : Int32) : Lt8 (x &&& 255) := by
  have e : (x &&& 255).toInt = ((x &&& 255).toBitVec.toNat : Int) ∧ (x &&& 255).toBitVec.toNat ≤ 255 := by
    have h1 : (x &&& 255).toBitVec.toNat = x.toBitVec.toNat % 256 := by
      rw [Int32.toBitVec_and, BitVec.toNat_and]
      exact Nat.and_two_pow_sub_one_eq_mod _ 8
    have h3 : (x &&& 255).toInt = (x &&& 255).toBitVec.toInt := rfl
    refine ⟨?_, by omega⟩
    rw [h3, BitVec.toInt_eq_toNat_cond, if_pos (by omega)]
  exact Lt8.of (by omega) (by omega)
theorem cs0 {P : Int32 → Prop} : ∀ c ∈ ([] : List Int32), P c := fun _ q => nomatch q
theorem csS {P : Int32 → Prop} {a : Int32} {l : List Int32} (h : P a) (r : ∀ c ∈ l, P c) : ∀ c ∈ a :: l, P c := fun c q => by
  rcases List.mem_cons.mp q with rfl | q
  · exact h
  · exact r c q
theorem lt8_nat {c : Int32} : Lt8 c ↔ c.toBitVec.toNat < 256 := by
  have h3 : c.toInt = c.toBitVec.toInt := rfl
  constructor
  · intro h
    have := h.int
    rw [h3, BitVec.toInt_eq_toNat_cond] at this
    split at this <;> omega
  · intro h
    have : c.toInt = (c.toBitVec.toNat : Int) := by rw [h3, BitVec.toInt_eq_toNat_cond, if_pos (by omega)]
    exact Lt8.of (by omega) (by omega)
theorem lat_xor {a : Int32} (ha : Lt8 a) (x : Int32) : Lt8 ((a ^^^ (x &&& 1)).toUInt32.toUInt16.toUInt32.toInt32) := by
  have h1 : (x &&& 1).toBitVec.toNat < 256 := by
    rw [Int32.toBitVec_and, BitVec.toNat_and]
    exact Nat.lt_of_le_of_lt Nat.and_le_right (by decide)
  have h2 : Lt8 (a ^^^ (x &&& 1)) := by
    rw [lt8_nat] at ha ⊢
    rw [Int32.toBitVec_xor, BitVec.toNat_xor]
    exact Nat.xor_lt_two_pow (n := 8) ha h1
  have h3 : (a ^^^ (x &&& 1)).toUInt32.toUInt16.toUInt32.toInt32 = a ^^^ (x &&& 1) := nar_lat h2
  rw [h3]; exact h2
theorem mask31_nat (x : Int32) : (x &&& 2147483647).toInt = ((x.toBitVec.toNat % 2147483648 : Nat) : Int) := by
  have h1 : (x &&& 2147483647).toBitVec.toNat = x.toBitVec.toNat % 2147483648 := by
    rw [Int32.toBitVec_and, BitVec.toNat_and]
    exact Nat.and_two_pow_sub_one_eq_mod _ 31
  have h3 : (x &&& 2147483647).toInt = (x &&& 2147483647).toBitVec.toInt := rfl
  rw [h3, BitVec.toInt_eq_toNat_cond, if_pos (by omega), h1]
theorem mask31 (x : Int32) : ¬ (x &&& 2147483647) < 0 := by
  rw [Int32.lt_iff_toInt_lt, mask31_nat, show (0 : Int32).toInt = 0 from rfl]; omega
theorem rem_int {x z : Int32} (hx : ¬ x < 0) (hz : 0 < z.toInt) : (x % z).toInt = x.toInt % z.toInt := by
  rw [Int32.lt_iff_toInt_lt, show (0 : Int32).toInt = 0 from rfl] at hx
  rw [Int32.toInt_mod, Int.tmod_eq_emod_of_nonneg (by omega)]
theorem mod3 {x : Int32} (hx : ¬ x < 0) : x % 3 = 0 ∨ x % 3 = 1 ∨ x % 3 = 2 := by
  have h := rem_int (z := 3) hx (by decide)
  rw [show (3 : Int32).toInt = 3 from rfl] at h
  have h2 : (x % 3).toInt = 0 ∨ (x % 3).toInt = 1 ∨ (x % 3).toInt = 2 := by omega
  rcases h2 with h2 | h2 | h2
  · exact Or.inl (Int32.toInt_inj.mp h2)
  · exact Or.inr (Or.inl (Int32.toInt_inj.mp h2))
  · exact Or.inr (Or.inr (Int32.toInt_inj.mp h2))
theorem mask3 (x : Int32) : x &&& 3 = 0 ∨ x &&& 3 = 1 ∨ x &&& 3 = 2 ∨ x &&& 3 = 3 := by
  have h1 : (x &&& 3).toBitVec.toNat = x.toBitVec.toNat % 4 := by
    rw [Int32.toBitVec_and, BitVec.toNat_and]
    exact Nat.and_two_pow_sub_one_eq_mod _ 2
  have h2 : (x &&& 3).toBitVec.toNat = 0 ∨ (x &&& 3).toBitVec.toNat = 1 ∨ (x &&& 3).toBitVec.toNat = 2 ∨ (x &&& 3).toBitVec.toNat = 3 := by omega
  rcases h2 with h2 | h2 | h2 | h2
  · exact Or.inl (Int32.toBitVec_inj.mp (BitVec.eq_of_toNat_eq h2))
  · exact Or.inr (Or.inl (Int32.toBitVec_inj.mp (BitVec.eq_of_toNat_eq h2)))
  · exact Or.inr (Or.inr (Or.inl (Int32.toBitVec_inj.mp (BitVec.eq_of_toNat_eq h2))))
  · exact Or.inr (Or.inr (Or.inr (Int32.toBitVec_inj.mp (BitVec.eq_of_toNat_eq h2))))
theorem ushr16 (x : Int32) : ¬ Jvm.Free.XT.ushr x 16 < 0 := by
  have h1 : (Jvm.Free.XT.ushr x 16).toBitVec.toNat < 65536 := by
    show (x.toUInt32 >>> ((16 : Int32) &&& 31).toUInt32).toNat < 65536
    rw [show ((16 : Int32) &&& 31).toUInt32 = 16 from by decide, UInt32.toNat_shiftRight, show (16 : UInt32).toNat % 32 = 16 from rfl, Nat.shiftRight_eq_div_pow]
    have := x.toUInt32.toNat_lt
    omega
  have h3 : (Jvm.Free.XT.ushr x 16).toInt = (Jvm.Free.XT.ushr x 16).toBitVec.toInt := rfl
  rw [Int32.lt_iff_toInt_lt, h3, BitVec.toInt_eq_toNat_cond, if_pos (by omega), show (0 : Int32).toInt = 0 from rfl]; omega
/-- a String of none, one or two of these chars -/
def sg (n a b : Int32) : List Int32 := if n = 0 then [] else if n = 1 then [a] else [a, b]
def In3 (n : Int32) : Prop := n = 0 ∨ n = 1 ∨ n = 2
theorem sg_iff {n z a b c d : Int32} (hn : In3 n) (hz : In3 z) : sg n a b = sg z c d ↔ (n = z ∧ (n < 1 ∨ a = c) ∧ (n < 2 ∨ b = d)) := by
  rcases hn with rfl | rfl | rfl <;> rcases hz with rfl | rfl | rfl <;> simp [sg]
theorem sg_lat {n a b : Int32} (ha : Lt8 a) (hb : Lt8 b) : ∀ c ∈ sg n a b, Lt8 c := by
  unfold sg; split
  · exact cs0
  · split
    · exact csS ha cs0
    · exact csS ha (csS hb cs0)
/-- x is a String of these Latin-1 chars -/
def Sg (Z : State) (h : Heap) (x : Addr) (cs : List Int32) : Prop := cs.length ≤ 4000 ∧ (∀ c ∈ cs, Lt8 c) ∧ Exa Z h x "java/lang/String" ∧ ∃ (t : Addr) (kb : ClassId), Fld Z h x "java/lang/String" "value" "[B" (.ref t) ∧ Fld Z h x "java/lang/String" "coder" "B" (.int 0) ∧ Arv Z h t kb .byte (Int32.ofNat cs.length) ((cs.map fun c => c.toInt8.toInt32).map Value.int) (.int 0)
theorem Sg.ext {h' : Heap} {x : Addr} {cs : List Int32} (F : Sg Z h x cs) (E : Ext h h') : Sg Z h' x cs := by obtain ⟨a, b, c, t, kb, d, e, f⟩ := F; exact ⟨a, b, c.ext E, t, kb, d.ext E, e.ext E, f.ext E⟩
theorem Sg.lt {x : Addr} {cs : List Int32} (F : Sg Z h x cs) : x < h.size := F.2.2.1.lt
theorem Sg.exa {x : Addr} {cs : List Int32} (F : Sg Z h x cs) : Exa Z h x "java/lang/String" := F.2.2.1
theorem Sg.keepO {h' : Heap} {x a : Addr} {cs : List Int32} {C : String} {kk : Nat} (F : Sg Z h x cs) (K : Keep h h' [a]) (q : x ≠ a) (E : Exa Z h a C) (wi : (Cond.instantiable C kk).before a0 Z = true) : Sg Z h' x cs := by
  obtain ⟨a, b, c, t, kb, d, e, f⟩ := F
  exact ⟨a, b, c.keep K, t, kb, d.keep K (not1 q), e.keep K (not1 q), f.keep K (not1 (Exa.neArv E f wi).symm)⟩
theorem Sg.ar {x : Addr} {cs : List Int32} (F : Sg Z h x cs) : ∃ t, Fld Z h x "java/lang/String" "value" "[B" (.ref t) ∧ Fld Z h x "java/lang/String" "coder" "B" (.int 0) ∧ Ar Z h t .byte ((cs.map fun c => c.toInt8.toInt32).map Value.int) := by
  obtain ⟨a, b, c, t, kb, d, e, f⟩ := F
  exact ⟨t, d, e, by simp; omega, kb, _, by simpa using f⟩
/-- compact strings are on -/
def Cpt (Z : State) : Prop := ∃ z : Int32, ¬ z = 0 ∧ Sta Z Z.heap "java/lang/String" "COMPACT_STRINGS" "Z" (.int z)
end K
end Jvm.Own
namespace Jvm.Own
open Sem ClassFile Op Lib Jvm.Stand Jvm.Free Jvm.LawKit Jvm.RoadKit Bundle
section KU
variable {p : Program} {l : Launch} {e : Env} {R : Room} {s : State} {m : MethodId} {args : Array Value} {below : List Frame} {meth : Method} {c : Code} {Z : State} {a0 : Array Value} {EL : List (String × Nat)} {pr : Bool} {y : MethodName} {bs : ByteArray} {ml : Nat} {rt : Option FieldType} {T : State} {vm0 : Vm} {h : Heap} {k n : Nat} {Φ : Outcome → State → Prop} {Ls : Array Slot} {st : List Value} {pc q : Nat}
/-- Fini, and the object returned is safe -/
def FiniS (Z : State) (EL : List (String × Nat)) (pr : Bool) (kc ks : Nat) (Q : Option Value → Heap → Prop) (s : State) (o : Outcome) (t : State) : Prop := Fini Z EL pr kc ks Q s o t ∧ ∀ a, o = .returned (some (.ref a)) → Safe Z EL t.vm t.heap a
def ConS (l : Launch) (Z : State) (EL : List (String × Nat)) (pr : Bool) (y : MethodName) (bs : ByteArray) (ml : Nat) (rt : Option FieldType) (ws : List Cond) (rm : Room) (as' : Array Value) (sf : List Addr) (h : Heap) (Q : Option Value → Heap → Prop) : Prop :=
  MetFree l y (head1 (Cond.code y bs ml rt :: ws) rm) (fun a U => a = as' ∧ Z.Warmed39 U.vm ∧ U.heap = h ∧ CHv Z EL U.vm h ∧ ∀ x ∈ sf, Safe Z EL U.vm h x) (fun _ _ _ _ _ => True) (fun _ U o U' => FiniS Z EL pr rm.cells rm.slots Q U o U')
theorem ConS.intro {ws : List Cond} {rm : Room} {as' : Array Value} {sf : List Addr} {Q : Option Value → Heap → Prop} (hpl : plainFor y = true) (hEL : EW Z a0 EL) (hO : Ext Z.heap h) (hef : ∀ m, entryFrame m as' ml = mkF m 0 Ls [])
    (body : ∀ (p : Program) (e : Env) (s : State) (m : MethodId) (below : List Frame) (meth : Method) (c : Code) (T : State), Wk p l e rm s m as' below meth c Z a0 EL pr y bs ml rt T s.vm h 0 0 → (∀ x ∈ sf, Safe Z EL s.vm h x) → Go p e below (FiniS Z EL pr rm.cells rm.slots Q s) (T.setTop (mkF m 0 Ls []))) :
    ConS l Z EL pr y bs ml rt ws rm as' sf h Q := by
  refine MetFree.of_bodySF hpl hisR ?_
  intro p e s m args below meth c s₁ Bd hml0 hP hK
  obtain ⟨rfl, hZ, hh, hC, hsf⟩ := hP
  have X0 : Stand p l e rm s m args below meth c s₁ [] 0 0 := Stand.of_body Bd
  have e0 : s₁.heap = h := by rw [← hh, Bd.state]; rfl
  have hown : s.vm.findClass y.cls = some m.cls := findClass_of_methodNamed Bd.named
  have hnm := (name_of_methodNamed Bd.named Bd.method).1
  have w : Wk p l e rm s m args below meth c Z a0 EL pr y bs ml rt s₁ s.vm h 0 0 :=
    ⟨⟨Bd.exec, Bd.bytes, hml0, Bd.returns, Bd.notSynchronized, hnm, hEL⟩, h.size, [], X0, e0, hZ, hown, (State.WarmedH.refl s).since _, Nat.le_refl _, Fr.nil _, by subst hh; exact CHr.refl hC, hO, fun _ => State.WarmedH.refl s⟩
  have q := body p e s m below meth c s₁ w hsf
  rw [← hef] at q
  exact q
theorem g_retaS (w : Wk p l e R s m args below meth c Z a0 EL pr y bs ml rt T vm0 h k n) {Q : Option Value → Heap → Prop} {t : FieldType} {a : Addr} (hd : decode bs pc = .ok (.areturn, 1)) (ht : rt = some t) (hr : t.isReference = true) (hk : k ≤ R.cells) (hn' : n ≤ R.slots) (ha : a < h.size) (S : Safe Z EL vm0 h a) (hQ : Q (some (.ref a)) h) : Go p e below (FiniS Z EL pr R.cells R.slots Q s) (T.setTop (mkF m pc Ls (.ref a :: st))) := by
  have hn : narrow t (.ref a) = .ref a := by cases t <;> simp [FieldType.isReference] at hr <;> rfl
  obtain ⟨fs, hr', hrun, hended, hf⟩ := w.fin (v := some (.ref a)) (fun q => by rw [ht] at q; cases q) hk hn' hQ
  obtain ⟨⟨hx, hb1, hml, hrt, hlk, hnm, hEL⟩, k0, locs, X, rfl, hZ, hown, hS, hk0, N, C, O, hpr⟩ := w
  exact ⟨_, _, retOut X hx (hrt.trans ht) hn (Or.inr (Or.inr (Or.inr (Or.inr ⟨rfl, hr, rfl⟩)))) (hb hb1 hd) hr', hrun, hended, hf, fun b eb => by cases eb; exact (CHv.at X hZ hEL C.1).safe ha S⟩
theorem ConS.back {y' : MethodName} {bs' : ByteArray} {ml' : Nat} {rt' : Option FieldType} {rm : Room} {as' : Array Value} {sf : List Addr} {Q : Option Value → Heap → Prop} {len W : Nat} (hM : ConS l Z EL pr y' bs' ml' rt' [] rm as' sf h Q) (hsf : ∀ x ∈ sf, x < h.size ∧ Safe Z EL vm0 h x) (hZ : Z.Warmed39 vm0) (wc : (Cond.code y' bs' ml' rt').before a0 Z = true) (wz : (Cond.initialized y'.cls).before a0 Z = true)
    (hf : rm.frames + 1 ≤ R.frames) (hl : W + (ml' + 11) + rm.locals ≤ R.locals) (hEL : EW Z a0 EL) (H : CHv Z EL vm0 h) :
    BackS l R p e below (s.setVm vm0) args y' len W (fun A a => a = as' ∧ A.U.heap = h ∧ A.cells + rm.cells ≤ R.cells ∧ A.slots + rm.slots ≤ R.slots)
      (fun A _ v B => ∃ L, ((Q v B.U.heap ∧ ∀ a, v = some (.ref a) → Safe Z EL B.U.vm B.U.heap a) ∧ Ext Z.heap B.U.heap ∧ Fr Z.heap.size L) ∧ B.locs = A.locs ++ L ∧ B.cells = A.cells + rm.cells ∧ B.slots = A.slots + rm.slots ∧ CHr Z EL vm0 h B.U.vm B.U.heap ∧ (pr = true → A.U.WarmedH B.U.vm)) :=
  BackS.of_freeW (bytes := bs') (maxL := ml') (ret := rt') (E := fun _ first o t L kk nn => kk = rm.cells ∧ nn = rm.slots ∧ (∃ v, o = .returned v ∧ (Q v t.heap ∧ ∀ a, v = some (.ref a) → Safe Z EL t.vm t.heap a) ∧ Ext Z.heap t.heap ∧ Fr Z.heap.size L) ∧ CHr Z EL first.vm first.heap t.vm t.heap ∧ (pr = true → first.WarmedH t.vm)) hM hf hl
    (fun m meth c A a Y hp => have hU : Z.Warmed39 A.U.vm := wtrans (s := s.setVm vm0) hZ Y.warmed
      ⟨by show (Cond.and _ .tt).before a A.U = true; rw [Cond.before_and, mv hU wc]; rfl, mv hU wc, mv hU wz, hp.2.2.1, hp.2.2.2⟩)
    (fun m meth c A a g mk Y hp => ⟨hp.1, wtrans (s := s.setVm vm0) hZ Y.warmed, hp.2.1, (CHv.at Y hZ hEL H).1, fun x hx => (CHv.at Y hZ hEL H).safe (hsf x hx).1 (hsf x hx).2⟩) (fun _ _ _ _ _ _ _ _ _ => trivial)
    (fun _ _ _ _ ⟨⟨v, L, h1, h2, h3, h4, h5, h6, h7⟩, h8⟩ => ⟨L, _, _, h7, rfl, rfl, ⟨v, h1, ⟨h2, fun a ea => h8 a (by rw [h1, ea])⟩, h3, h4⟩, h5, h6⟩)
    (fun m meth c A a g mk v t L kk nn Y hp _ _ ⟨e1, e2, ⟨v', e3, e4⟩, e5, e6⟩ => by
      cases e3; subst e1 e2
      refine ⟨L, e4, rfl, rfl, rfl, (CHv.at Y hZ hEL H).trans ?_, e6⟩
      rw [← hp.2.1]; exact e5)
theorem g_staticS (w : Wk p l e R s m args below meth c Z a0 EL pr y bs ml rt T vm0 h k n) {y' : MethodName} {bs' : ByteArray} {ml' : Nat} {rt' : Option FieldType} {rm : Room} {Q : Option Value → Heap → Prop} {i W : Nat} {argsL : List Value} {ps : List FieldType} {rr : Option FieldType} {stk : List Value} {sf : List Addr} (hM : ConS l Z EL pr y' bs' ml' rt' [] rm argsL.toArray sf h Q) (hsf : ∀ x ∈ sf, x < h.size ∧ Safe Z EL vm0 h x) (hd : decode bs pc = .ok (.invokestatic i, 3)) (hq : pc + 3 = q) (hsz : Ls.size = ml)
    (w1 : (Cond.methodLink y.cls i y').before a0 Z = true) (w2 : (Cond.static y').before a0 Z = true) (w3 : (Cond.initialized y'.cls).before a0 Z = true) (w4 : (Cond.code y' bs' ml' rt').before a0 Z = true) (hy : y'.cls ≠ "java/lang/invoke/MethodHandle" ∧ y'.cls ≠ "java/lang/invoke/VarHandle") (hpd : parseMethodDescriptor y'.desc = some ⟨ps, rr⟩) (hlen : argsL.length = ps.length) (hst : stk = argsL.reverse ++ st)
    (hW : 2 * 0 + (st.map fun v => v.category).sum ≤ W) (hf : rm.frames + 1 ≤ R.frames) (hl : W + (ml' + 11) + rm.locals ≤ R.locals) (hc : k + rm.cells ≤ R.cells) (hs : n + rm.slots ≤ R.slots)
    (K : ∀ T' h' v, Wk p l e R s m args below meth c Z a0 EL pr y bs ml rt T' T'.vm h' (k + rm.cells) (n + rm.slots) → h.size ≤ h'.size → CHr Z EL vm0 h T'.vm h' → Q v h' → (∀ a, v = some (.ref a) → Safe Z EL T'.vm h' a) → Go p e below Φ (T'.setTop (mkF m q Ls (v.toList ++ st)))) : Go p e below Φ (T.setTop (mkF m pc Ls stk)) := by
  subst hq hst; have w' := w; obtain ⟨⟨hx, hb1, hml, hrt, hlk, hnm, hEL⟩, k0, locs, X, hh, hZ, hown, hS, hk0, N, C, O, hpr⟩ := w
  obtain ⟨v, vm₁, ⟨T', L', k', n'⟩, hW1, X', hS', hg, ⟨L, ⟨hQ, hO', hF⟩, hl', hk', hn', hC', hp'⟩, stp⟩ := callSS X hx hown (mvT (s := s.setVm vm0) hZ w1) (mvT (s := s.setVm vm0) hZ w2) (mvT (s := s.setVm vm0) hZ w3) (mvT (s := s.setVm vm0) hZ w4) hy (hM.back hsf hZ w4 w3 hf hl hEL C.1) (g := mkF m pc Ls (argsL.reverse ++ st)) rfl (hsz.trans hml.symm) (lenOf hpd hlen) rfl hW (hb hb1 hd) (fun _ _ => ⟨rfl, hh, hc, hs⟩)
  dsimp only [Pt.U, Pt.locs, Pt.cells, Pt.slots] at X' hS' hg hQ hO' hl' hk' hn' hC' hp' stp
  subst hl' hk' hn'
  exact (K T' T'.heap v (w'.after X' hS' hg (N.app hF) hC' hO' fun q => State.WarmedH.trans (t := T.setVm vm₁) hW1 (hp' q)) hC'.2.1 hC' hQ.1 hQ.2).pre' stp
theorem fits_long (x : Int64) : fits .long (.long x) = true := rfl
/-- lastore into a new long[] -/
theorem g_lastore (w : Wk p l e R s m args below meth c Z a0 EL pr y bs ml rt T vm0 h k n) {a : Addr} {vs : List Value} {j : Int32} {x : Int64} {i : Nat} (hd : decode bs pc = .ok (.lastore, 1)) (hq : pc + 1 = q) (A : Ar Z h a .long vs) (hj : j = Int32.ofNat i) (hi : i < vs.length) (ga : Z.heap.size ≤ a) (S : Safe Z EL vm0 h a)
    (K : ∀ T' h', Wk p l e R s m args below meth c Z a0 EL pr y bs ml rt T' vm0 h' k n → Wr h h' a i (.long x) → Ar Z h' a .long (vs.set i (.long x)) → Go p e below Φ (T'.setTop (mkF m q Ls st))) : Go p e below Φ (T.setTop (mkF m pc Ls (.long x :: .int j :: .ref a :: st))) := by
  subst hq hj; obtain ⟨⟨hx, hb1, hml, hrt, hlk, hnm, hEL⟩, k0, locs, X, hh, hZ, hown, hS, hk0, N, C, O, hpr⟩ := w
  obtain ⟨hv, kC, dv, cl, B, q1, S1, q3, H1, G1⟩ := A
  obtain ⟨T', h', X', e', W, g'⟩ := Jvm.RoadKit.stJ X hx hZ hh B (j := Int32.ofNat i) (inb hv S1 hi) (g := mkF m pc Ls (.long x :: .int (Int32.ofNat i) :: .ref a :: st)) rfl rfl (hb hb1 hd)
  have V := Arv.set B q1 S1 q3 H1 G1 (fits_long x) W i (ofNat_clamp (by omega)) hi
  rw [ofNat_clamp (by omega)] at W
  exact (K T' h' ⟨⟨hx, hb1, hml, hrt, hlk, hnm, hEL⟩, k0, _, X', e', hZ, hown, hS, by rw [W.size]; exact hk0, N.snoc X' ga, C.trans (CHr.wr W S C.1), ext_wr O W ga, hpr⟩ W ⟨by simpa using hv, kC, dv, by rw [List.length_set]; exact V⟩).pre g'
theorem g_laload (w : Wk p l e R s m args below meth c Z a0 EL pr y bs ml rt T vm0 h k n) {a : Addr} {vs : List Value} {j : Int32} {i : Nat} {v : Value} (hd : decode bs pc = .ok (.laload, 1)) (hq : pc + 1 = q) (A : Ar Z h a .long vs) (hj : j = Int32.ofNat i) (hi : i < vs.length) (hv' : vs[i]? = some v) (hr : Go p e below Φ (T.setTop (mkF m q Ls (v :: st)))) : Go p e below Φ (T.setTop (mkF m pc Ls (.int j :: .ref a :: st))) := by
  subst hq hj; obtain ⟨⟨hx, hb1, hml, hrt, hlk, hnm, hEL⟩, k0, locs, X, hh, hZ, hown, hS, hk0, N, C, O, hpr⟩ := w
  obtain ⟨hv, kC, dv, cl, B, q1, S1, q3, H1, G1⟩ := A
  refine hr.pre fun t r => X.laload (g := mkF m pc Ls (.int (Int32.ofNat i) :: .ref a :: st)) hx (by rw [hh]; exact B.1) (State.isArrayOf_alike hZ.alike B.2.1) B.2.2 (inb hv S1 hi) (H1.at (inb hv S1 hi) (by rw [ofNat_clamp (by omega), List.getD_eq_getElem?_getD, hv']; rfl)) rfl rfl (hb hb1 hd) t r
end KU
end Jvm.Own
namespace Jvm.Own
open Sem ClassFile Op Lib Jvm.Stand Jvm.Free Jvm.LawKit Jvm.RoadKit Bundle
section KV
variable {p : Program} {l : Launch} {e : Env} {R : Room} {s : State} {m : MethodId} {args : Array Value} {below : List Frame} {meth : Method} {c : Code} {Z : State} {a0 : Array Value} {EL : List (String × Nat)} {pr : Bool} {y : MethodName} {bs : ByteArray} {ml : Nat} {rt : Option FieldType} {T : State} {vm0 : Vm} {h : Heap} {k n : Nat} {Φ : Outcome → State → Prop} {Ls : Array Slot} {st : List Value} {pc q : Nat}
/-- a's class is the array class over C -/
def OvA (Z : State) (h : Heap) (a : Addr) (C : String) : Prop := ∃ cell : Cell, h[a]? = some cell ∧ Ovr Z cell.cls C
theorem OvA.ext {h' : Heap} {a : Addr} {C : String} (F : OvA Z h a C) (E : Ext h h') : OvA Z h' a C := by obtain ⟨c1, q, r⟩ := F; exact ⟨c1, E.2 _ _ q, r⟩
theorem OvA.keep {h' : Heap} {a : Addr} {C : String} {ws : List Addr} (F : OvA Z h a C) (K : Keep h h' ws) : OvA Z h' a C := by
  obtain ⟨c1, q, r⟩ := F; obtain ⟨c2, q2, e2, -⟩ := K.2.2 _ _ q; exact ⟨c2, q2, by rw [e2]; exact r⟩
theorem OvA.wr {h' : Heap} {a b : Addr} {C : String} {sl : Nat} {v : Value} (F : OvA Z h a C) (W : Wr h h' b sl v) : OvA Z h' a C := F.keep (Keep.of_wr W)
theorem OvA.lt {a : Addr} {C : String} (F : OvA Z h a C) : a < h.size := by obtain ⟨c1, q, -⟩ := F; exact (Array.getElem?_eq_some_iff.mp q).1
theorem g_anew (w : Wk p l e R s m args below meth c Z a0 EL pr y bs ml rt T vm0 h k n) {i len cap : Nat} {C' ad : String} {z : Int32} (hd : decode bs pc = .ok (.anewarray i, 3)) (hq : pc + 3 = q) (w1 : (Cond.classLink y.cls i C').before a0 Z = true) (w2 : (Cond.arrayOver (.object C')).before a0 Z = true) (had : "[" ++ (FieldType.object C').toString = ad) (hz : z = Int32.ofNat len) (hl : len ≤ cap) (hcap : cap * 8 ≤ 536870912) (hc : k + 1 ≤ R.cells) (hs : n + cap ≤ R.slots)
    (K : ∀ T' h' a, Wk p l e R s m args below meth c Z a0 EL pr y bs ml rt T' vm0 h' (k + 1) (n + cap) → Ext h h' → h.size ≤ a → Z.heap.size ≤ a → Ar Z h' a (.object C') (List.replicate len .null) → Exa Z h' a ad → OvA Z h' a C' → Safe Z EL vm0 h' a → Go p e below Φ (T'.setTop (mkF m q Ls (.ref a :: st)))) : Go p e below Φ (T.setTop (mkF m pc Ls (.int z :: st))) := by
  subst hq hz; obtain ⟨⟨hx, hb1, hml, hrt, hlk, hnm, hEL⟩, k0, locs, X, hh, hZ, hown, hS, hk0, N, C, O, hpr⟩ := w
  have hlen : len < 2147483648 := by omega
  obtain ⟨T', h', cA, X', e', E, A, E1, O1, g'⟩ := newRE X hx hZ hown w1 w2 hh (g := mkF m pc Ls (.int (Int32.ofNat len) :: st)) rfl (hb hb1 hd) rfl (ofNat_nonneg hlen) (cap := cap) (by rw [ofNat_clamp hlen]; exact hl) hcap hc hs had
  refine (K T' h' h.size ⟨⟨hx, hb1, hml, hrt, hlk, hnm, hEL⟩, k0, locs, X', e', hZ, hown, hS, Nat.le_trans hk0 E.1, N, C.trans (CHr.ext E C.1), ext_trans O E, hpr⟩ E (Nat.le_refl _) O.1 ⟨by simpa using hlen, cA, defaultValue (FieldType.object C'), ?_⟩ E1 ⟨_, A.1, O1⟩ (Safe.ext E C.1 (Safe.new (Nat.le_refl _)))).pre g'
  have q := (Arv.new A (ofNat_nonneg hlen)).pad (vs' := List.replicate len (defaultValue (FieldType.object C'))) (fun i => by simpa using pad_rep [] (defaultValue (FieldType.object C')) len i)
  show Arv Z h' h.size cA (.object C') (Int32.ofNat (List.replicate len (defaultValue (FieldType.object C'))).length) (List.replicate len (defaultValue (FieldType.object C'))) (defaultValue (FieldType.object C'))
  simpa using q
theorem g_aastore (w : Wk p l e R s m args below meth c Z a0 EL pr y bs ml rt T vm0 h k n) {a : Addr} {C' : String} {vs : List Value} {j : Int32} {v : Value} {i : Nat} (hd : decode bs pc = .ok (.aastore, 1)) (hq : pc + 1 = q) (A : Ar Z h a (.object C') vs) (hj : j = Int32.ofNat i) (hi : i < vs.length) (F : Sto Z h a v) (hv' : fits (.object C') v = true) (ga : Z.heap.size ≤ a) (S : Safe Z EL vm0 h a)
    (K : ∀ T' h', Wk p l e R s m args below meth c Z a0 EL pr y bs ml rt T' vm0 h' k n → Wr h h' a i v → Ar Z h' a (.object C') (vs.set i v) → Go p e below Φ (T'.setTop (mkF m q Ls st))) : Go p e below Φ (T.setTop (mkF m pc Ls (v :: .int j :: .ref a :: st))) := by
  subst hq hj; obtain ⟨⟨hx, hb1, hml, hrt, hlk, hnm, hEL⟩, k0, locs, X, hh, hZ, hown, hS, hk0, N, C, O, hpr⟩ := w
  obtain ⟨hv, kC, dv, cl, B, q1, S1, q3, H1, G1⟩ := A
  obtain ⟨T', h', X', e', W, g'⟩ := stR X hx hZ hh B (j := Int32.ofNat i) (inb hv S1 hi) rfl F (g := mkF m pc Ls (v :: .int (Int32.ofNat i) :: .ref a :: st)) rfl rfl (hb hb1 hd)
  have V := Arv.set B q1 S1 q3 H1 G1 hv' W i (ofNat_clamp (by omega)) hi
  rw [ofNat_clamp (by omega)] at W
  exact (K T' h' ⟨⟨hx, hb1, hml, hrt, hlk, hnm, hEL⟩, k0, _, X', e', hZ, hown, hS, by rw [W.size]; exact hk0, N.snoc X' ga, C.trans (CHr.wr W S C.1), ext_wr O W ga, hpr⟩ W ⟨by simpa using hv, kC, dv, by rw [List.length_set]; exact V⟩).pre g'
theorem sto_of {a b : Addr} {C' : String} {vs : List Value} (A : Ar Z h a (.object C') vs) (O : OvA Z h a C') (I : Ins Z h b C' true) : Sto Z h a (.ref b) := by
  obtain ⟨hv, kC, dv, cl, B, -⟩ := A
  obtain ⟨c1, q1, r1⟩ := O
  cases B.1.symm.trans q1
  exact Sto.of B r1 I
theorem g_aaload (w : Wk p l e R s m args below meth c Z a0 EL pr y bs ml rt T vm0 h k n) {a : Addr} {C' : String} {vs : List Value} {j : Int32} {i : Nat} {v : Value} (hd : decode bs pc = .ok (.aaload, 1)) (hq : pc + 1 = q) (A : Ar Z h a (.object C') vs) (hj : j = Int32.ofNat i) (hi : i < vs.length) (hv' : vs[i]? = some v) (hr : Go p e below Φ (T.setTop (mkF m q Ls (v :: st)))) : Go p e below Φ (T.setTop (mkF m pc Ls (.int j :: .ref a :: st))) := by
  subst hq hj; obtain ⟨⟨hx, hb1, hml, hrt, hlk, hnm, hEL⟩, k0, locs, X, hh, hZ, hown, hS, hk0, N, C, O, hpr⟩ := w
  obtain ⟨hv, kC, dv, cl, B, q1, S1, q3, H1, G1⟩ := A
  refine hr.pre fun t r => X.aaload (g := mkF m pc Ls (.int (Int32.ofNat i) :: .ref a :: st)) hx (by rw [hh]; exact B.1) (State.isArrayOf_alike hZ.alike B.2.1) rfl B.2.2 (inb hv S1 hi) (H1.at (inb hv S1 hi) (by rw [ofNat_clamp (by omega), List.getD_eq_getElem?_getD, hv']; rfl)) rfl rfl (hb hb1 hd) t r
theorem g_tsw (w : Wk p l e R s m args below meth c Z a0 EL pr y bs ml rt T vm0 h k n) {dflt low high : Int} {offs : Array Int} {len : Nat} {o : Int} {i : Int32} (hd : decode bs pc = .ok (.tableswitch dflt low high offs, len)) (hin : ¬ (i.toInt < low ∨ i.toInt > high)) (hoff : offs[(i.toInt - low).toNat]? = some o) (ho : 0 ≤ (pc : Int) + o) (hq : ((pc : Int) + o).toNat = q) (hr : Go p e below Φ (T.setTop (mkF m q Ls st))) : Go p e below Φ (T.setTop (mkF m pc Ls (.int i :: st))) := by
  exact hr.pre fun t r => Jvm.Free.XS.tswIn w.here w.hx rfl rfl (w.b hd) rfl hin hoff ho hq r
theorem mir_eval {C' : String} {mr : Addr} (M : Mir Z C' mr) : (Term.mirror C').eval #[] Z none [] Z = some (.ref mr) := by
  obtain ⟨c1, k1, e1, e2, e3, cell, e4, e5⟩ := M
  simp [Term.eval, e1, e2, e3]
theorem g_ldcM (w : Wk p l e R s m args below meth c Z a0 EL pr y bs ml rt T vm0 h k n) {i : Nat} {C' : String} {mr : Addr} (hd : decode bs pc = .ok (.ldc i, 2)) (hq : pc + 2 = q) (w1 : (Cond.classLink y.cls i C').before a0 Z = true) (M : Mir Z C' mr)
    (K : ∀ T', Wk p l e R s m args below meth c Z a0 EL pr y bs ml rt T' vm0 h k n → Go p e below Φ (T'.setTop (mkF m q Ls (.ref mr :: st)))) : Go p e below Φ (T.setTop (mkF m pc Ls st)) := by
  subst hq; obtain ⟨⟨hx, hb1, hml, hrt, hlk, hnm, hEL⟩, k0, locs, X, hh, hZ, hown, hS, hk0, N, C, O, hpr⟩ := w
  obtain ⟨c1, k1, e1, e2, e3, cell, e4, e5⟩ := M
  obtain ⟨k2, f1, f2⟩ := hZ.alike.2.2 _ _ e2
  have em : k2.mirror = some mr := by rw [f2]; exact e3
  obtain ⟨vm', X', st'⟩ := X.ldcMirror hx hown (mvT (s := s.setVm vm0) hZ w1) (a := mr) (by simp only [Term.eval]; rw [show (s.setVm vm0).vm.findClass C' = some c1 from by show vm0.findClass C' = _; rw [hZ.alike.findClass]; exact e1]; simp [f1, em]) (g := mkF m pc Ls st) rfl (hb hb1 hd)
  exact (K _ ⟨⟨hx, hb1, hml, hrt, hlk, hnm, hEL⟩, k0, locs, X', hh, hZ, hown, hS, hk0, N, C, O, hpr⟩).pre st'
theorem g_gcls (w : Wk p l e R s m args below meth c Z a0 EL pr y bs ml rt T vm0 h k n) {i Wd : Nat} {C' : String} {a mr : Addr} (E : Exa Z h a C') (M : Mir Z C' mr) (hd : decode bs pc = .ok (.invokevirtual i, 3)) (hq : pc + 3 = q) (hsz : Ls.size = ml)
    (w1 : (Cond.methodLink y.cls i ⟨"java/lang/Object", "getClass", "()Ljava/lang/Class;"⟩).before a0 Z = true) (w2 : (Cond.declares ⟨"java/lang/Object", "getClass", "()Ljava/lang/Class;"⟩).before a0 Z = true) (w3 : (Cond.noSuperclass "java/lang/Object").before a0 Z = true) (w4 : (Cond.selects C' ⟨"java/lang/Object", "getClass", "()Ljava/lang/Class;"⟩ ⟨"java/lang/Object", "getClass", "()Ljava/lang/Class;"⟩).before a0 Z = true)
    (w5 : (Cond.instanceMethod ⟨"java/lang/Object", "getClass", "()Ljava/lang/Class;"⟩).before a0 Z = true) (w6 : (Cond.native ⟨"java/lang/Object", "getClass", "()Ljava/lang/Class;"⟩).before a0 Z = true) (hW : 2 * 0 + (st.map fun v => v.category).sum ≤ Wd) (hf : 1 ≤ R.frames) (hl : Wd + (nativeFrameWords "java/lang/Object" "getClass" 1 + 11) ≤ R.locals)
    (K : ∀ T', Wk p l e R s m args below meth c Z a0 EL pr y bs ml rt T' vm0 h k n → Go p e below Φ (T'.setTop (mkF m q Ls (.ref mr :: st)))) : Go p e below Φ (T.setTop (mkF m pc Ls (.ref a :: st))) := by
  subst hq; obtain ⟨⟨hx, hb1, hml, hrt, hlk, hnm, hEL⟩, k0, locs, X, hh, hZ, hown, hS, hk0, N, C, O, hpr⟩ := w
  obtain ⟨T', X', e', g'⟩ := gcls X hx hZ hown w1 w2 w3 w4 w5 w6 hh E M (g := mkF m pc Ls (.ref a :: st)) rfl (hsz.trans hml.symm) rfl (hb hb1 hd) hf hW hl
  exact (K T' ⟨⟨hx, hb1, hml, hrt, hlk, hnm, hEL⟩, k0, locs, X', e', hZ, hown, hS, hk0, N, C, O, hpr⟩).pre g'
theorem g_acopy (w : Wk p l e R s m args below meth c Z a0 EL pr y bs ml rt T vm0 h k n) {i Wd nn : Nat} {a b : Addr} {C' D' : String} {vs vd : List Value} (A : Ar Z h a (.object C') vs) (B : Ar Z h b (.object D') vd) (hst : StoL Z h b (vs.take nn)) (h1 : nn ≤ vs.length) (h2 : nn ≤ vd.length) (ga : Z.heap.size ≤ b) (S : Safe Z EL vm0 h b) (hd : decode bs pc = .ok (.invokestatic i, 3)) (hq : pc + 3 = q) (hsz : Ls.size = ml)
    (w1 : (Cond.methodLink y.cls i Jvm.Stand.acN).before a0 Z = true) (w2 : (Cond.native Jvm.Stand.acN).before a0 Z = true) (w3 : (Cond.static Jvm.Stand.acN).before a0 Z = true) (w4 : (Cond.initialized "java/lang/System").before a0 Z = true) (hW : 2 * 0 + (st.map fun v => v.category).sum ≤ Wd) (hf : 1 ≤ R.frames) (hl : Wd + (nativeFrameWords "java/lang/System" "arraycopy" 5 + 11) ≤ R.locals)
    (K : ∀ T' h', Wk p l e R s m args below meth c Z a0 EL pr y bs ml rt T' vm0 h' k n → Keep h h' [b] → Ar Z h' b (.object D') (vs.take nn ++ vd.drop nn) → Go p e below Φ (T'.setTop (mkF m q Ls st))) : Go p e below Φ (T.setTop (mkF m pc Ls (.int (Int32.ofNat nn) :: .int 0 :: .ref b :: .int 0 :: .ref a :: st))) := by
  subst hq; obtain ⟨⟨hx, hb1, hml, hrt, hlk, hnm, hEL⟩, k0, locs, X, hh, hZ, hown, hS, hk0, N, C, O, hpr⟩ := w
  obtain ⟨hv, kC, dv, A⟩ := A
  obtain ⟨hv2, kD, dd, B⟩ := B
  have en : (Int32.ofNat nn).toNatClampNeg = nn := ofNat_clamp (by omega)
  have e0 : (0 : Int32).toNatClampNeg = 0 := rfl
  have hus : vs.take nn = (List.range (Int32.ofNat nn).toNatClampNeg).map fun i => vs.getD ((0 : Int32).toNatClampNeg + i) dv := by
    rw [en, e0]
    apply List.ext_getElem?
    intro j
    by_cases hj : j < nn
    · have hj2 : j < vs.length := by omega
      simp [List.getElem?_take, hj, hj2, List.getD_eq_getElem?_getD]
    · simp [List.getElem?_take, hj]
  obtain ⟨T', h', L, X', e', N', Kp, V, g'⟩ := cpA X hx hZ hown w1 w2 w3 w4 hh A B (us := vs.take nn) (Or.inr ⟨rfl, rfl, hst⟩) (sp := 0) (dp := 0) (nn := Int32.ofNat nn) (by decide) (by decide) (ofNat_nonneg (by omega)) (by rw [en, e0, ofNat_clamp hv]; omega) (by rw [en, e0, ofNat_clamp hv2]; omega) hus (by rw [en, e0]; omega) N ga (g := mkF m pc Ls (.int (Int32.ofNat nn) :: .int 0 :: .ref b :: .int 0 :: .ref a :: st)) rfl (hsz.trans hml.symm) rfl (hb hb1 hd) hf hW hl
  rw [en, e0, List.take_zero, List.nil_append, Nat.zero_add] at V
  have hlen : (vs.take nn ++ vd.drop nn).length = vd.length := by simp; omega
  exact (K T' h' ⟨⟨hx, hb1, hml, hrt, hlk, hnm, hEL⟩, k0, L, X', e', hZ, hown, hS, Nat.le_trans hk0 Kp.1, N', C.trans (CHr.keep Kp (in1 S) C.1), ext_keep O Kp ga, hpr⟩ Kp ⟨by rw [hlen]; exact hv2, kD, dd, by rw [hlen]; exact V⟩).pre g'
theorem g_instN (w : Wk p l e R s m args below meth c Z a0 EL pr y bs ml rt T vm0 h k n) {i : Nat} {K' C' : String} {a : Addr} (hd : decode bs pc = .ok (.instanceof i, 3)) (hq : pc + 3 = q) (w1 : (Cond.classLink y.cls i K').before a0 Z = true) (E : Exa Z h a C') (F : ∃ c t, Z.vm.findClass C' = some c ∧ Z.vm.findClass K' = some t ∧ Z.vm.assignable c t = false)
    (K : ∀ T', Wk p l e R s m args below meth c Z a0 EL pr y bs ml rt T' vm0 h k n → Go p e below Φ (T'.setTop (mkF m q Ls (.int 0 :: st)))) : Go p e below Φ (T.setTop (mkF m pc Ls (.ref a :: st))) := by
  subst hq; obtain ⟨⟨hx, hb1, hml, hrt, hlk, hnm, hEL⟩, k0, locs, X, hh, hZ, hown, hS, hk0, N, C, O, hpr⟩ := w
  obtain ⟨T', X', e', g'⟩ := instNo X hx hZ hown w1 hh E F (g := mkF m pc Ls (.ref a :: st)) rfl rfl (hb hb1 hd)
  exact (K T' ⟨⟨hx, hb1, hml, hrt, hlk, hnm, hEL⟩, k0, locs, X', e', hZ, hown, hS, hk0, N, C, O, hpr⟩).pre g'
theorem g_getSN (w : Wk p l e R s m args below meth c Z a0 EL pr y bs ml rt T vm0 h k n) {i : Nat} {R0 O' nm d host : String} {v : Value} (hd : decode bs pc = .ok (.getstatic i, 3)) (hq : pc + 3 = q) (wl : (Cond.fieldLinkNest y.cls i R0 nm d host).before a0 Z = true) (via : Via Z R0 O' nm d) (F : Sta Z Z.heap O' nm d v)
    (K : ∀ T', Wk p l e R s m args below meth c Z a0 EL pr y bs ml rt T' vm0 h k n → Go p e below Φ (T'.setTop (mkF m q Ls (v :: st)))) : Go p e below Φ (T.setTop (mkF m pc Ls st)) := by
  subst hq; have F' := w.sta F; obtain ⟨⟨hx, hb1, hml, hrt, hlk, hnm, hEL⟩, k0, locs, X, hh, hZ, hown, hS, hk0, N, C, O, hpr⟩ := w
  obtain ⟨T', X', e', g'⟩ := getS2 X hx hZ hown (Or.inr wl) via hh F' (g := mkF m pc Ls st) rfl (hb hb1 hd)
  exact (K T' ⟨⟨hx, hb1, hml, hrt, hlk, hnm, hEL⟩, k0, locs, X', e', hZ, hown, hS, hk0, N, C, O, hpr⟩).pre g'
theorem ns_rootI {O' K' : String} {nk : Nat} (w : (Cond.noSuperclass O').before a0 Z = true) (wk : (Cond.instantiable K' nk).before a0 Z = true) (hn : O' ≠ K') : NS Z O' K' := by
  obtain ⟨c, k, h1, h2, h3, -, -⟩ := Cond.noSuperclass_spec w
  obtain ⟨t, kt, g1, -⟩ := Cond.instantiable_spec wk
  have ne := ids_ne h1 g1 hn
  refine ⟨c, t, h1, g1, fun fuel => ?_⟩
  cases fuel with
  | zero => rfl
  | succ f => simp [Vm.isSubclassAux, ne, h2, h3]
theorem ns_noI {C' S' K' : String} {nk : Nat} (w : (Cond.superclass C' S').before a0 Z = true) (wk : (Cond.instantiable K' nk).before a0 Z = true) (nn : NS Z C' K') (hn : C' ≠ K') : ∃ c t, Z.vm.findClass C' = some c ∧ Z.vm.findClass K' = some t ∧ Z.vm.assignable c t = false := by
  obtain ⟨c, t, h0, g0, n3⟩ := nn
  obtain ⟨p, k, kp, h1, h2, h3, h4, h5, -, h7⟩ := Cond.superclass_spec h0 w
  obtain ⟨t2, k', g1, g2, g5, g7, -⟩ := Cond.instantiable_spec wk
  cases g0.symm.trans g1
  have g7' : k'.isInterface = false := (Bool.or_eq_false_iff.mp g7).1
  have ne := ids_ne h0 g0 hn
  refine ⟨c, t, h0, g0, ?_⟩
  show Z.vm.assignableAux (255 + 1) c t = false
  simp [Vm.assignableAux, ne, h2, g2, h5, g5, g7', Vm.isSubclass, n3]
theorem g_aaloadB (w : Wk p l e R s m args below meth c Z a0 EL pr y bs ml rt T vm0 h k n) {a : Addr} {cc : Cell} {K' d : String} {z j : Int32} {val : Int32 → Value} (hd : decode bs pc = .ok (.aaload, 1)) (hq : pc + 1 = q) (B : Bxs Z a cc K' d z val) (hj : ¬ j < 0 ∧ j < z)
    (K : ∀ b, Exa Z Z.heap b K' → Fld Z Z.heap b K' "value" d (val j) → Go p e below Φ (T.setTop (mkF m q Ls (.ref b :: st)))) : Go p e below Φ (T.setTop (mkF m pc Ls (.int j :: .ref a :: st))) := by
  subst hq; obtain ⟨⟨hx, hb1, hml, hrt, hlk, hnm, hEL⟩, k0, locs, X, hh, hZ, hown, hS, hk0, N, C, O, hpr⟩ := w
  obtain ⟨A, S1, hz, H⟩ := B
  have hin := inb_of S1 hj
  obtain ⟨b, e1, e2, e3⟩ := H j hin
  have A' := A.ext O
  exact (K b e2 e3).pre fun t r => X.aaload (g := mkF m pc Ls (.int j :: .ref a :: st)) hx (by rw [hh]; exact A'.1) (State.isArrayOf_alike hZ.alike A'.2.1) rfl A'.2.2 hin e1 rfl rfl (hb hb1 hd) t r
theorem len_cell {t : Term} {aa : Array Value} {z : Int32} {a : Addr} {cc : Cell} {ty : FieldType} (ev : t.eval aa Z none [] Z = some (.ref a)) (A : Arr Z Z.heap a cc ty) (hl : (Term.length t).eval aa Z none [] Z = some (.int z)) : cc.slots.size < 2 ^ 31 ∧ cc.slots.size.toInt32 = z := by
  have A' := A.fin (Vm.Alike.refl _)
  by_cases q : cc.slots.size < 2 ^ 31
  · rw [len_f ev A' q] at hl; cases hl; exact ⟨q, rfl⟩
  · have q' : ¬ cc.slots.size < 2147483648 := by omega
    simp [Term.eval, ev, A', q'] at hl
theorem ar_empty (hf : Fit Z) {t : Term} {aa : Array Value} {a : Addr} {ty : FieldType} (ev : t.eval aa Z none [] Z = some (.ref a)) (h1 : (Cond.arrayOf t ty).value aa Z none Z [] = some true) (h2 : (Cond.eq (.length t) (.int 0)).value aa Z none Z [] = some true) : Ar Z Z.heap a ty [] := by
  obtain ⟨cc, A⟩ := Arr.start ev h1
  obtain ⟨q1, q2⟩ := len_cell ev A (eqv_i (Term.int_eval 0) h2)
  exact ⟨Nat.le_of_ble_eq_true rfl, cc.cls, .null, Arv.start (vs := []) hf A q1 q2 (by decide) rfl trivial⟩
theorem vo_in {i : Int32} (h1 : ¬ i < -128) (h2 : ¬ 127 < i) : ¬ i + 128 < 0 ∧ i + 128 < 256 := by
  have r := c_iadd i 128
  have r1 := rng32 (i + 128)
  rw [Int32.lt_iff_toInt_lt, show (-128 : Int32).toInt = -128 from rfl] at h1
  rw [Int32.lt_iff_toInt_lt, show (127 : Int32).toInt = 127 from rfl] at h2
  rw [show (128 : Int32).toInt = 128 from rfl] at r
  rw [Int32.lt_iff_toInt_lt, Int32.lt_iff_toInt_lt, show (0 : Int32).toInt = 0 from rfl, show (256 : Int32).toInt = 256 from rfl]
  omega
theorem g_iface (w : Wk p l e R s m args below meth c Z a0 EL pr y bs ml rt T vm0 h k n) {y1 y' : MethodName} {bs' : ByteArray} {ml' : Nat} {rt' : Option FieldType} {rm : Room} {Q : Option Value → Heap → Prop} {i cn W : Nat} {a : Addr} {C' : String} {argsL : List Value} {ps : List FieldType} {rr : Option FieldType} {stk : List Value} {sf : List Addr} (hM : Con l Z EL pr y' bs' ml' rt' [] rm (.ref a :: argsL).toArray sf h Q) (hsf : ∀ x ∈ sf, x < h.size ∧ Safe Z EL vm0 h x) (E : Exa Z h a C') (hd : decode bs pc = .ok (.invokeinterface i cn, 5)) (hq : pc + 5 = q) (hsz : Ls.size = ml)
    (w1 : (Cond.methodLink y.cls i y1).before a0 Z = true) (wd : (Cond.declares y1).before a0 Z = true) (wf : (Cond.interfaceMethod y1.cls y1.cls y1.name y1.desc).before a0 Z = true) (hfa : ((Cond.interfaceMethod y1.cls y1.cls y1.name y1.desc).onTables && (Cond.interfaceMethod y1.cls y1.cls y1.name y1.desc).keepsFace) = true) (wp : (Cond.publicMethod y').before a0 Z = true) (wu : (Cond.unhidden C' y1.name y1.desc).before a0 Z = true) (wk : (Cond.castable C' y1.cls).before a0 Z = true) (ws : (Cond.selects C' y1 y').before a0 Z = true) (w2 : (Cond.instanceMethod y').before a0 Z = true) (w3 : (Cond.initialized y'.cls).before a0 Z = true) (w4 : (Cond.code y' bs' ml' rt').before a0 Z = true) (hy : y1.cls ≠ "java/lang/invoke/MethodHandle" ∧ y1.cls ≠ "java/lang/invoke/VarHandle") (hpd : parseMethodDescriptor y1.desc = some ⟨ps, rr⟩) (hlen : argsL.length = ps.length) (hst : stk = argsL.reverse ++ .ref a :: st)
    (hW : 2 * 0 + (st.map fun v => v.category).sum ≤ W) (hf : rm.frames + 1 ≤ R.frames) (hl : W + (ml' + 11) + rm.locals ≤ R.locals) (hc : k + rm.cells ≤ R.cells) (hs : n + rm.slots ≤ R.slots)
    (K : ∀ T' h' v, Wk p l e R s m args below meth c Z a0 EL pr y bs ml rt T' T'.vm h' (k + rm.cells) (n + rm.slots) → h.size ≤ h'.size → CHr Z EL vm0 h T'.vm h' → Q v h' → Go p e below Φ (T'.setTop (mkF m q Ls (v.toList ++ st)))) : Go p e below Φ (T.setTop (mkF m pc Ls stk)) := by
  subst hq hst; have w' := w; obtain ⟨⟨hx, hb1, hml, hrt, hlk, hnm, hEL⟩, k0, locs, X, hh, hZ, hown, hS, hk0, N, C, O, hpr⟩ := w
  obtain ⟨cq, kq, qa, qk, qc⟩ := isOf (s := s.setVm vm0) hZ hh E
  obtain ⟨v, vm₁, ⟨T', L', k', n'⟩, hW1, X', hS', hg, ⟨L, ⟨hQ, hO', hF⟩, hl', hk', hn', hC', hp'⟩, stp⟩ := X.interfaceBackS hx hown (mvT (s := s.setVm vm0) hZ w1) (mvT (s := s.setVm vm0) hZ wd) (mvT (s := s.setVm vm0) hZ wf hfa) (mvT (s := s.setVm vm0) hZ ws) (mvT (s := s.setVm vm0) hZ w2) (mvT (s := s.setVm vm0) hZ wp) (mvT (s := s.setVm vm0) hZ wu) (mvT (s := s.setVm vm0) hZ wk) hy (hM.back hsf hZ w4 w3 hf hl hEL C.1) qa qk qc (g := mkF m pc Ls (argsL.reverse ++ .ref a :: st)) rfl (hsz.trans hml.symm) (Steps.refl _) (lenOf hpd hlen) rfl hW (hb hb1 hd) (fun _ _ => ⟨rfl, hh, hc, hs⟩)
  dsimp only [Pt.U, Pt.locs, Pt.cells, Pt.slots] at X' hS' hg hQ hO' hl' hk' hn' hC' hp' stp
  subst hl' hk' hn'
  exact (K T' T'.heap v (w'.after X' hS' hg (N.app hF) hC' hO' fun q => State.WarmedH.trans (t := T.setVm vm₁) hW1 (hp' q)) hC'.2.1 hC' hQ).pre' stp
theorem g_priv (w : Wk p l e R s m args below meth c Z a0 EL pr y bs ml rt T vm0 h k n) {y' : MethodName} {bs' : ByteArray} {ml' : Nat} {rt' : Option FieldType} {rm : Room} {Q : Option Value → Heap → Prop} {i W : Nat} {a : Addr} {C' : String} {argsL : List Value} {ps : List FieldType} {rr : Option FieldType} {stk : List Value} {sf : List Addr} (hM : Con l Z EL pr y' bs' ml' rt' [] rm (.ref a :: argsL).toArray sf h Q) (hsf : ∀ x ∈ sf, x < h.size ∧ Safe Z EL vm0 h x) (E : Exa Z h a C') (hd : decode bs pc = .ok (.invokevirtual i, 3)) (hq : pc + 3 = q) (hsz : Ls.size = ml)
    (w1 : (Cond.methodLink y.cls i y').before a0 Z = true) (wd : (Cond.privateMethod y').before a0 Z = true) (ws : (Cond.selects y'.cls y' y').before a0 Z = true) (w2 : (Cond.instanceMethod y').before a0 Z = true) (w3 : (Cond.initialized y'.cls).before a0 Z = true) (w4 : (Cond.code y' bs' ml' rt').before a0 Z = true) (hy : y'.cls ≠ "java/lang/invoke/MethodHandle" ∧ y'.cls ≠ "java/lang/invoke/VarHandle") (hpd : parseMethodDescriptor y'.desc = some ⟨ps, rr⟩) (hlen : argsL.length = ps.length) (hst : stk = argsL.reverse ++ .ref a :: st)
    (hW : 2 * 0 + (st.map fun v => v.category).sum ≤ W) (hf : rm.frames + 1 ≤ R.frames) (hl : W + (ml' + 11) + rm.locals ≤ R.locals) (hc : k + rm.cells ≤ R.cells) (hs : n + rm.slots ≤ R.slots)
    (K : ∀ T' h' v, Wk p l e R s m args below meth c Z a0 EL pr y bs ml rt T' T'.vm h' (k + rm.cells) (n + rm.slots) → h.size ≤ h'.size → CHr Z EL vm0 h T'.vm h' → Q v h' → Go p e below Φ (T'.setTop (mkF m q Ls (v.toList ++ st)))) : Go p e below Φ (T.setTop (mkF m pc Ls stk)) := by
  subst hq hst; have w' := w; obtain ⟨⟨hx, hb1, hml, hrt, hlk, hnm, hEL⟩, k0, locs, X, hh, hZ, hown, hS, hk0, N, C, O, hpr⟩ := w
  obtain ⟨cq, kq, qa, -, cB, hcB, -, hsB⟩ := isOf (s := s.setVm vm0) hZ hh E
  obtain ⟨v, vm₁, ⟨T', L', k', n'⟩, hW1, X', hS', hg, ⟨L, ⟨hQ, hO', hF⟩, hl', hk', hn', hC', hp'⟩, stp⟩ := X.privateBackS hx hown (mvT (s := s.setVm vm0) hZ w1) (mvT (s := s.setVm vm0) hZ w2) (mvT (s := s.setVm vm0) hZ ws) (Cond.privateMethod_at (args := #[]) (mvP (s := s.setVm vm0) hZ wd)) (mvT (s := s.setVm vm0) hZ w4) hy (hM.back hsf hZ w4 w3 hf hl hEL C.1) (g := mkF m pc Ls (argsL.reverse ++ .ref a :: st)) rfl (hsz.trans hml.symm) (Steps.refl _) hcB (fun q z => by rw [z] at hsB; cases hsB) (lenOf hpd hlen) rfl hW (hb hb1 hd) (fun _ _ => ⟨rfl, hh, hc, hs⟩)
  dsimp only [Pt.U, Pt.locs, Pt.cells, Pt.slots] at X' hS' hg hQ hO' hl' hk' hn' hC' hp' stp
  subst hl' hk' hn'
  exact (K T' T'.heap v (w'.after X' hS' hg (N.app hF) hC' hO' fun q => State.WarmedH.trans (t := T.setVm vm₁) hW1 (hp' q)) hC'.2.1 hC' hQ).pre' stp
theorem g_ifaceP (w : Wk p l e R s m args below meth c Z a0 EL pr y bs ml rt T vm0 h k n) {y1 y' : MethodName} {bs' : ByteArray} {ml' : Nat} {rt' : Option FieldType} {rm : Room} {V : Option Value → Prop} {i cn W : Nat} {a : Addr} {C' : String} {argsL : List Value} {ps : List FieldType} {rr : Option FieldType} {stk : List Value} {sf : List Addr} (hM : Con l Z EL pr y' bs' ml' rt' [] rm (.ref a :: argsL).toArray sf h (fun v h' => V v ∧ h' = h)) (hsf : ∀ x ∈ sf, x < h.size ∧ Safe Z EL vm0 h x) (E : Exa Z h a C') (hd : decode bs pc = .ok (.invokeinterface i cn, 5)) (hq : pc + 5 = q) (hsz : Ls.size = ml)
    (w1 : (Cond.methodLink y.cls i y1).before a0 Z = true) (wd : (Cond.declares y1).before a0 Z = true) (wf : (Cond.interfaceMethod y1.cls y1.cls y1.name y1.desc).before a0 Z = true) (hfa : ((Cond.interfaceMethod y1.cls y1.cls y1.name y1.desc).onTables && (Cond.interfaceMethod y1.cls y1.cls y1.name y1.desc).keepsFace) = true) (wp : (Cond.publicMethod y').before a0 Z = true) (wu : (Cond.unhidden C' y1.name y1.desc).before a0 Z = true) (wk : (Cond.castable C' y1.cls).before a0 Z = true) (ws : (Cond.selects C' y1 y').before a0 Z = true) (w2 : (Cond.instanceMethod y').before a0 Z = true) (w3 : (Cond.initialized y'.cls).before a0 Z = true) (w4 : (Cond.code y' bs' ml' rt').before a0 Z = true) (hy : y1.cls ≠ "java/lang/invoke/MethodHandle" ∧ y1.cls ≠ "java/lang/invoke/VarHandle") (hpd : parseMethodDescriptor y1.desc = some ⟨ps, rr⟩) (hlen : argsL.length = ps.length) (hst : stk = argsL.reverse ++ .ref a :: st)
    (hW : 2 * 0 + (st.map fun v => v.category).sum ≤ W) (hf : rm.frames + 1 ≤ R.frames) (hl : W + (ml' + 11) + rm.locals ≤ R.locals) (hc : k + rm.cells ≤ R.cells) (hs : n + rm.slots ≤ R.slots)
    (K : ∀ T' v, Wk p l e R s m args below meth c Z a0 EL pr y bs ml rt T' T'.vm h (k + rm.cells) (n + rm.slots) → CHr Z EL vm0 h T'.vm h → V v → Go p e below Φ (T'.setTop (mkF m q Ls (v.toList ++ st)))) : Go p e below Φ (T.setTop (mkF m pc Ls stk)) :=
  g_iface w hM hsf E hd hq hsz w1 wd wf hfa wp wu wk ws w2 w3 w4 hy hpd hlen hst hW hf hl hc hs fun T' h' v w' _ C' q' => by
    obtain ⟨hV, rfl⟩ := q'; exact K T' v w' C' hV
end KV
end Jvm.Own
namespace Jvm.Own
open Sem ClassFile Op Lib Jvm.Stand Jvm.Free Jvm.LawKit Jvm.RoadKit Bundle
section KB
variable {p : Program} {l : Launch} {e : Env} {R : Room} {s : State} {m : MethodId} {args : Array Value} {below : List Frame} {meth : Method} {c : Code} {Z : State} {a0 : Array Value} {EL : List (String × Nat)} {pr : Bool} {y : MethodName} {bs : ByteArray} {ml : Nat} {rt : Option FieldType} {T : State} {vm0 : Vm} {h : Heap} {k n : Nat} {Φ : Outcome → State → Prop} {Ls : Array Slot} {st : List Value} {pc q : Nat}
theorem noFace {C' : String} {x0 y0 y1 : MethodName} {mk : MethodId} (ws : (Cond.selects C' x0 y0).before a0 Z = true) (he : y0.cls = y1.cls) (hn : Z.methodNamed? y1 = some mk) : ∃ kr, Z.vm.classes[mk.cls]? = some kr ∧ kr.isInterface = false := by
  obtain ⟨c1, r1, m1, -, -, hn', -, kr, hk, hi⟩ := Cond.selects_spec ws
  have h1 := findClass_of_methodNamed hn
  have h2 := findClass_of_methodNamed hn'
  rw [he, h1] at h2
  exact ⟨kr, by rw [Option.some.inj h2]; exact hk, hi⟩
theorem nfC {C' : String} {x0 y0 y1 : MethodName} (ws : (Cond.selects C' x0 y0).before a0 Z = true) (he : y0.cls = y1.cls) (s' : State) (hZ : Z.Warmed39 s'.vm) : NotFace s' y1 := fun _ hn => noFace (Z := s') (a0 := #[]) (mvT hZ ws) he hn
theorem selOwn {C0 : String} {y1 : MethodName} (wi : (Cond.instanceMethod y1).before a0 Z = true) (ws : (Cond.selects C0 y1 y1).before a0 Z = true) (wp : (Cond.privateMethod y1).before a0 Z = true) (hy : y1.cls ≠ "java/lang/invoke/MethodHandle" ∧ y1.cls ≠ "java/lang/invoke/VarHandle") : (Cond.selects y1.cls y1 y1).before a0 Z = true := by
  obtain ⟨mk, methM, hnamed, hmethM, -, -⟩ := Cond.instanceMethod_spec wi
  obtain ⟨c2, r2, m2, -, -, q3, -, kP, hkP, hkPi⟩ := Cond.selects_spec ws
  cases hnamed.symm.trans q3
  have f := State.methodFound?_of_named hnamed hy
  have hc := findClass_of_methodNamed hnamed
  have hsel : selectMethod {} Z.vm mk.cls mk = .method mk := selectMethod_private hmethM (Cond.privateMethod_at wp mk methM hnamed hmethM)
  simp [Cond.before, Cond.holds, Cond.value, hc, f, hnamed, hsel, hkP, hkPi]
theorem sameOwn {C0 : String} {x0 y0 y1 : MethodName} (wi : (Cond.instanceMethod y1).before a0 Z = true) (ws : (Cond.selects C0 x0 y0).before a0 Z = true) (he : y0.cls = y1.cls) (hy : y1.cls ≠ "java/lang/invoke/MethodHandle" ∧ y1.cls ≠ "java/lang/invoke/VarHandle") : (Cond.sameMethod y1.cls y1.cls y1.name y1.desc).before a0 Z = true := by
  obtain ⟨mk, methM, hnamed, hmethM, -, -⟩ := Cond.instanceMethod_spec wi
  obtain ⟨kP, hkP, hkPi⟩ := noFace ws he hnamed
  have f := State.methodFound?_of_named hnamed hy
  have hc := findClass_of_methodNamed hnamed
  have hn' : Z.methodNamed? ⟨y1.cls, y1.name, y1.desc⟩ = some mk := hnamed
  simp [Cond.before, Cond.holds, Cond.value, hc, f, hn', hkP, hkPi]
/-- a byte[] that is longer than every literal is no literal's array -/
def EWL (Z : State) (a0 : Array Value) (EL : List (String × Nat)) (N : Nat) : Prop := ∀ p ∈ EL, ∃ text : String, (Cond.stringLink p.1 p.2 text).before a0 Z = true ∧ (∀ c ∈ text.toList, c.toNat < 256) ∧ text.toList.length ≤ N
theorem EWL.nil {N : Nat} : EWL Z a0 [] N := fun _ hp => by cases hp
theorem EWL.cons {N i : Nat} {own text : String} (wt : (Cond.stringLink own i text).before a0 Z = true) (ht : ∀ c ∈ text.toList, c.toNat < 256) (hN : text.toList.length ≤ N) (E : EWL Z a0 EL N) : EWL Z a0 ((own, i) :: EL) N := fun p hp => by
  rcases List.mem_cons.mp hp with rfl | hp
  · exact ⟨text, wt, ht, hN⟩
  · exact E p hp
theorem safe_long {vm : Vm} {x : Addr} {vs : List Value} {N : Nat} (hZ : Z.Warmed39 vm) (wl : EWL Z a0 EL N) (A : Ar Z h x .byte vs) (hl : N < vs.length) : Safe Z EL vm h x := fun B => by
  have hal := hZ.alike
  obtain ⟨hv, kC, dv, cl, ⟨A1, ⟨-, kA, hkA, compA, hkindA⟩, -⟩, q1, S1, -⟩ := A
  obtain ⟨kA', hkA', ekA⟩ := hal.2.2 _ _ hkA
  obtain ⟨pp, hp, u, a, hbk, q, -, F, rfl | rfl⟩ := B
  · cases (show h[q.sa]? = some q.sC from F.ha).symm.trans A1
    obtain ⟨cS, ⟨-, -, e⟩, ⟨kS, g1, g2, -⟩, -⟩ := F
    subst e
    cases (show vm.classes[q.sC.cls]? = some kS from g1).symm.trans hkA'
    rw [ekA] at g2
    have := hkindA.symm.trans g2
    cases this
  · cases (show h[q.sd]? = some q.SA from F.hd).symm.trans A1
    obtain ⟨text, wt, ht, hN⟩ := wl pp hp
    obtain ⟨cc, kk, cf, i, hc', hk', hcf', hpool, hu, -⟩ := hbk
    have wl' : (Cond.stringLink pp.1 pp.2 text).before a0 (Wst Z vm h) = true := mvS (s := { Z with heap := h }) hZ wt
    obtain ⟨k2, cf0, i0, units0, hk, hcf, hp0, hu0, hnm, htext, -⟩ := Cond.stringLink_spec (s := Wst Z vm h) hc' wl'
    cases (show vm.classes[cc]? = some k2 from hk).symm.trans hk'
    cases hcf.symm.trans hcf'
    cases hp0.symm.trans hpool
    cases hu0.symm.trans hu
    have hlat := Jvm.ClassFile.lat_of_text htext ht
    obtain ⟨cS, -, -, -, hbyt⟩ := F
    have e1 : q.SA.slots.size = u.size := by rw [hbyt, Jvm.Free.SBG.stringBytes_lat hlat]; simp
    have e2 : u.size = text.toList.length := by rw [← Array.length_toList, Jvm.ClassFile.units_of_text htext ht]; simp
    rw [S1, ofNat_clamp hv] at e1
    omega
theorem Wk.safeL (w : Wk p l e R s m args below meth c Z a0 EL pr y bs ml rt T vm0 h k n) {x : Addr} {vs : List Value} {N : Nat} (wl : EWL Z a0 EL N) (A : Ar Z h x .byte vs) (hl : N < vs.length) : Safe Z EL vm0 h x := safe_long w.wz wl A hl
theorem ne_len {a b : Addr} {ty ty' : FieldType} {vs vs' : List Value} (A : Ar Z h a ty vs) (B : Ar Z h b ty' vs') (hne : vs.length ≠ vs'.length) : a ≠ b := fun q => by
  subst q
  obtain ⟨hv, _, _, c1, ⟨A1, -⟩, -, S1, -⟩ := A
  obtain ⟨hv', _, _, c2, ⟨B1, -⟩, -, S2, -⟩ := B
  cases A1.symm.trans B1
  rw [S1, ofNat_clamp hv, ofNat_clamp hv'] at S2
  exact hne S2
theorem ne_xar {x b : Addr} {C' : String} {kk : Nat} {ty : FieldType} {vs : List Value} (E : Exa Z h x C') (A : Ar Z h b ty vs) (wi : (Cond.instantiable C' kk).before a0 Z = true) : x ≠ b := by
  obtain ⟨-, _, _, A⟩ := A; exact Exa.neArv E A wi
theorem in2 {a b : Addr} {P : Addr → Prop} (h1 : P a) (h2 : P b) : ∀ x ∈ [a, b], P x := fun x hx => by
  rcases List.mem_cons.mp hx with rfl | hx
  · exact h1
  · cases List.mem_singleton.mp hx; exact h2
theorem m1 {a b : Addr} : a ∈ [a, b] := List.mem_cons_self
theorem m2 {a b : Addr} : b ∈ [a, b] := List.mem_cons_of_mem _ (List.mem_singleton.mpr rfl)
theorem not2 {a b x : Addr} (h1 : x ≠ a) (h2 : x ≠ b) : x ∉ [a, b] := fun q => by
  rcases List.mem_cons.mp q with q | q
  · exact h1 q
  · exact h2 (List.mem_singleton.mp q)
theorem ext_keep2 {h1 h2 h3 : Heap} {a b : Addr} (E : Ext h1 h2) (K : Keep h2 h3 [a, b]) (ha : h1.size ≤ a) (hb : h1.size ≤ b) : Ext h1 h3 := ⟨Nat.le_trans E.1 K.1, fun x c q => K.2.1 _ _ (E.2 _ _ q) (not2 (Nat.ne_of_lt (Nat.lt_of_lt_of_le (Array.getElem?_eq_some_iff.mp q).1 ha)) (Nat.ne_of_lt (Nat.lt_of_lt_of_le (Array.getElem?_eq_some_iff.mp q).1 hb)))⟩
theorem g_newarrE (w : Wk p l e R s m args below meth c Z a0 EL pr y bs ml rt T vm0 h k n) {aty : ArrayType} {z : Int32} {len cap : Nat} {ad : String} (hd : decode bs pc = .ok (.newarray aty, 2)) (hq : pc + 2 = q) (w1 : (Cond.arrayClass (newarray.typeOf aty)).before a0 Z = true) (had : "[" ++ (newarray.typeOf aty).toString = ad) (hz : z = Int32.ofNat len) (hl : len ≤ cap) (hcap : cap * 8 ≤ 536870912) (hc : k + 1 ≤ R.cells) (hs : n + cap ≤ R.slots)
    (K : ∀ T' h' a, Wk p l e R s m args below meth c Z a0 EL pr y bs ml rt T' vm0 h' (k + 1) (n + cap) → Ext h h' → h.size ≤ a → Z.heap.size ≤ a → Ar Z h' a (newarray.typeOf aty) (List.replicate len (defaultValue (newarray.typeOf aty))) → Exa Z h' a ad → Safe Z EL vm0 h' a → Go p e below Φ (T'.setTop (mkF m q Ls (.ref a :: st)))) : Go p e below Φ (T.setTop (mkF m pc Ls (.int z :: st))) := by
  subst hq hz; obtain ⟨⟨hx, hb1, hml, hrt, hlk, hnm, hEL⟩, k0, locs, X, hh, hZ, hown, hS, hk0, N, C, O, hpr⟩ := w
  have hlen : len < 2147483648 := by omega
  obtain ⟨T', h', cA, X', e', E, A, E1, g'⟩ := newPE X hx hZ w1 hh (g := mkF m pc Ls (.int (Int32.ofNat len) :: st)) rfl (hb hb1 hd) rfl (ofNat_nonneg hlen) (cap := cap) (by rw [ofNat_clamp hlen]; exact hl) hcap hc hs had
  refine (K T' h' h.size ⟨⟨hx, hb1, hml, hrt, hlk, hnm, hEL⟩, k0, locs, X', e', hZ, hown, hS, Nat.le_trans hk0 E.1, N, C.trans (CHr.ext E C.1), ext_trans O E, hpr⟩ E (Nat.le_refl _) O.1 ⟨by simpa using hlen, cA, defaultValue (newarray.typeOf aty), ?_⟩ E1 (Safe.ext E C.1 (Safe.new (Nat.le_refl _)))).pre g'
  have q := (Arv.new A (ofNat_nonneg hlen)).pad (vs' := List.replicate len (defaultValue (newarray.typeOf aty))) (fun i => by simpa using pad_rep [] (defaultValue (newarray.typeOf aty)) len i)
  simpa using q
theorem g_acopyB (w : Wk p l e R s m args below meth c Z a0 EL pr y bs ml rt T vm0 h k n) {i Wd sp dp nn : Nat} {a b : Addr} {vs vd : List Value} (A : Ar Z h a .byte vs) (B : Ar Z h b .byte vd) (h1 : sp + nn ≤ vs.length) (h2 : dp + nn ≤ vd.length) (ga : Z.heap.size ≤ b) (S : Safe Z EL vm0 h b) (hd : decode bs pc = .ok (.invokestatic i, 3)) (hq : pc + 3 = q) (hsz : Ls.size = ml)
    (w1 : (Cond.methodLink y.cls i Jvm.Stand.acN).before a0 Z = true) (w2 : (Cond.native Jvm.Stand.acN).before a0 Z = true) (w3 : (Cond.static Jvm.Stand.acN).before a0 Z = true) (w4 : (Cond.initialized "java/lang/System").before a0 Z = true) (hW : 2 * 0 + (st.map fun v => v.category).sum ≤ Wd) (hf : 1 ≤ R.frames) (hl : Wd + (nativeFrameWords "java/lang/System" "arraycopy" 5 + 11) ≤ R.locals)
    (K : ∀ T' h', Wk p l e R s m args below meth c Z a0 EL pr y bs ml rt T' vm0 h' k n → Keep h h' [b] → Ar Z h' b .byte (vd.take dp ++ (vs.drop sp).take nn ++ vd.drop (dp + nn)) → Go p e below Φ (T'.setTop (mkF m q Ls st))) : Go p e below Φ (T.setTop (mkF m pc Ls (.int (Int32.ofNat nn) :: .int (Int32.ofNat dp) :: .ref b :: .int (Int32.ofNat sp) :: .ref a :: st))) := by
  subst hq; obtain ⟨⟨hx, hb1, hml, hrt, hlk, hnm, hEL⟩, k0, locs, X, hh, hZ, hown, hS, hk0, N, C, O, hpr⟩ := w
  obtain ⟨hv, kC, dv, A⟩ := A
  obtain ⟨hv2, kD, dd, B⟩ := B
  have en : (Int32.ofNat nn).toNatClampNeg = nn := ofNat_clamp (by omega)
  have es : (Int32.ofNat sp).toNatClampNeg = sp := ofNat_clamp (by omega)
  have ed : (Int32.ofNat dp).toNatClampNeg = dp := ofNat_clamp (by omega)
  have hus : (vs.drop sp).take nn = (List.range (Int32.ofNat nn).toNatClampNeg).map fun i => vs.getD ((Int32.ofNat sp).toNatClampNeg + i) dv := by
    rw [en, es]
    apply List.ext_getElem?
    intro j
    by_cases hj : j < nn
    · have hj2 : sp + j < vs.length := by omega
      simp [List.getElem?_take, List.getElem?_drop, hj, hj2, List.getD_eq_getElem?_getD]
    · simp [List.getElem?_take, hj]
  obtain ⟨T', h', L, X', e', N', Kp, V, g'⟩ := cpA X hx hZ hown w1 w2 w3 w4 hh A B (us := (vs.drop sp).take nn) (Or.inl ⟨rfl, rfl⟩) (sp := Int32.ofNat sp) (dp := Int32.ofNat dp) (nn := Int32.ofNat nn) (ofNat_nonneg (by omega)) (ofNat_nonneg (by omega)) (ofNat_nonneg (by omega)) (by rw [en, es, ofNat_clamp hv]; omega) (by rw [en, ed, ofNat_clamp hv2]; omega) hus (by rw [en, ed]; omega) N ga (g := mkF m pc Ls (.int (Int32.ofNat nn) :: .int (Int32.ofNat dp) :: .ref b :: .int (Int32.ofNat sp) :: .ref a :: st)) rfl (hsz.trans hml.symm) rfl (hb hb1 hd) hf hW hl
  rw [en, ed] at V
  have hlen : (vd.take dp ++ (vs.drop sp).take nn ++ vd.drop (dp + nn)).length = vd.length := by simp; omega
  exact (K T' h' ⟨⟨hx, hb1, hml, hrt, hlk, hnm, hEL⟩, k0, L, X', e', hZ, hown, hS, Nat.le_trans hk0 Kp.1, N', C.trans (CHr.keep Kp (in1 S) C.1), ext_keep O Kp ga, hpr⟩ Kp ⟨by rw [hlen]; exact hv2, kD, dd, by rw [hlen]; exact V⟩).pre g'
theorem g_clone (w : Wk p l e R s m args below meth c Z a0 EL pr y bs ml rt T vm0 h k n) {i Wd cap : Nat} {a : Addr} {vs : List Value} (A : Ar Z h a .byte vs) (E : Exa Z h a "[B") (hd : decode bs pc = .ok (.invokevirtual i, 3)) (hq : pc + 3 = q) (hsz : Ls.size = ml)
    (w1 : (Cond.methodLink y.cls i ⟨"[B", "clone", "()Ljava/lang/Object;"⟩).before a0 Z = true) (w2 : (Cond.sameMethod "[B" "java/lang/Object" "clone" "()Ljava/lang/Object;").before a0 Z = true) (w3 : (Cond.native ⟨"java/lang/Object", "clone", "()Ljava/lang/Object;"⟩).before a0 Z = true) (w4 : (Cond.instanceMethod ⟨"java/lang/Object", "clone", "()Ljava/lang/Object;"⟩).before a0 Z = true) (w5 : (Cond.selects "[B" ⟨"[B", "clone", "()Ljava/lang/Object;"⟩ ⟨"java/lang/Object", "clone", "()Ljava/lang/Object;"⟩).before a0 Z = true) (w6 : (Cond.castable "[B" "java/lang/Cloneable").before a0 Z = true)
    (hW : 2 * 0 + (st.map fun v => v.category).sum ≤ Wd) (hf : 1 ≤ R.frames) (hl : Wd + 14 ≤ R.locals) (hcap : vs.length ≤ cap) (hc : k + 1 ≤ R.cells) (hs : n + cap ≤ R.slots)
    (K : ∀ T' h' u, Wk p l e R s m args below meth c Z a0 EL pr y bs ml rt T' vm0 h' (k + 1) (n + cap) → Ext h h' → h.size ≤ u → Z.heap.size ≤ u → Ar Z h' u .byte vs → Exa Z h' u "[B" → Go p e below Φ (T'.setTop (mkF m q Ls (.ref u :: st)))) : Go p e below Φ (T.setTop (mkF m pc Ls (.ref a :: st))) := by
  subst hq; obtain ⟨⟨hx, hb1, hml, hrt, hlk, hnm, hEL⟩, k0, locs, X, hh, hZ, hown, hS, hk0, N, C, O, hpr⟩ := w
  obtain ⟨hv, kC, dv, A⟩ := A
  obtain ⟨T', h', X', e', Ex, A', E', g'⟩ := cloneH X hx hZ hown w1 w2 w3 w4 w5 w6 hh A.arh E (g := mkF m pc Ls (.ref a :: st)) rfl (hsz.trans hml.symm) rfl (hb hb1 hd) hf hW hl (cap := cap) (by rw [ofNat_clamp hv]; exact hcap) hc hs
  exact (K T' h' h.size ⟨⟨hx, hb1, hml, hrt, hlk, hnm, hEL⟩, k0, locs, X', e', hZ, hown, hS, Nat.le_trans hk0 Ex.1, N, C.trans (CHr.ext Ex C.1), ext_trans O Ex, hpr⟩ Ex (Nat.le_refl _) O.1 ⟨hv, kC, dv, A'⟩ E').pre g'
/-- an old byte table: its j-th component is f j -/
def Dg (Z : State) (a : Addr) (N : Nat) (f : Nat → Int32) : Prop := ∃ cc : Cell, Arr Z Z.heap a cc .byte ∧ cc.slots.size = N ∧ ∀ j, j < N → cc.slots[j]? = some (.int (f j))
theorem g_baloadD (w : Wk p l e R s m args below meth c Z a0 EL pr y bs ml rt T vm0 h k n) {a : Addr} {N i : Nat} {j : Int32} {f : Nat → Int32} (hd : decode bs pc = .ok (.baload, 1)) (hq : pc + 1 = q) (D : Dg Z a N f) (hj : j = Int32.ofNat i) (hi : i < N) (hN : N ≤ 4000) (hr : Go p e below Φ (T.setTop (mkF m q Ls (.int (f i) :: st)))) : Go p e below Φ (T.setTop (mkF m pc Ls (.int j :: .ref a :: st))) := by
  subst hq hj; obtain ⟨⟨hx, hb1, hml, hrt, hlk, hnm, hEL⟩, k0, locs, X, hh, hZ, hown, hS, hk0, N, C, O, hpr⟩ := w
  obtain ⟨cc, A, hS1, H⟩ := D
  have A' := A.ext O
  have ec : (Int32.ofNat i).toNatClampNeg = i := ofNat_clamp (by omega)
  have hin : ¬ (Int32.ofNat i < 0 ∨ cc.slots.size ≤ (Int32.ofNat i).toNatClampNeg) := by
    rw [ec, hS1]; intro q
    rcases q with q | q
    · exact ofNat_nonneg (by omega) q
    · omega
  exact hr.pre fun t r => X.baloadBytes (g := mkF m pc Ls (.int (Int32.ofNat i) :: .ref a :: st)) hx (by rw [hh]; exact A'.1) (State.isArrayOf_alike hZ.alike A'.2.1) A'.2.2 hin (by rw [ec]; exact H i hi) rfl rfl (hb hb1 hd) t r
theorem dg_start {t F : Term} {aa : Array Value} {a : Addr} {N : Nat} {z : Int32} {f : Nat → Int32} (ev : ∀ idx, t.eval aa Z none idx Z = some (.ref a)) (hx : (Cond.exactly t "[B").value aa Z none Z [] = some true) (wa : (Cond.arrayClass .byte).before a0 Z = true) (hl : (Term.length t).eval aa Z none [] Z = some (.int z)) (hz : z = Int32.ofNat N) (hN : N ≤ 4000)
    (h1 : (Cond.all t (.eq (.elem t (.index 0)) F)).value aa Z none Z [] = some true) (hF : ∀ j, j < N → F.eval aa Z none [j] Z = some (.int (f j))) : Dg Z a N f := by
  obtain ⟨a', cc, e1, e2, e3⟩ := Term.length_spec hl
  cases (ev []).symm.trans e1
  have e4 : cc.slots.size < 2147483648 := by
    by_cases q : cc.slots.size < 2147483648
    · exact q
    · exfalso; simp [Term.eval, ev, e2, q] at hl
  have es : cc.slots.size = N := by
    have e5 : Int32.ofNat N = cc.slots.size.toInt32 := by rw [← hz]; exact Value.int.inj e3
    have e6 := congrArg Int32.toNatClampNeg e5
    rw [ofNat_clamp (by omega)] at e6
    rw [e6]; exact (ofNat_clamp e4).symm
  obtain ⟨cell, k1, f1, f2, f3, f4, -⟩ := Exa.start (ev []) hx
  have hc0 : Z.heap[a]? = some cc ∧ ¬ cc.vm = .unknown ∧ cc.vm.isStatics = false ∧ ∃ k comp ty, Z.vm.classes[cc.cls]? = some k ∧ k.kind = .array comp ty := State.arrayAt?_spec e2
  obtain ⟨g1, g2, g3, k2, comp, ty, g4, g5⟩ := hc0
  cases f1.symm.trans g1
  cases f3.symm.trans g4
  have hty : ty = .byte := by
    have f2' : Z.vm.findClass ("[" ++ FieldType.byte.toString) = some cc.cls := f2
    simp [Cond.before, Cond.holds, Cond.value, f2', f3, g5] at wa
    exact wa
  subst hty
  refine ⟨cc, ⟨f1, ⟨(fun q z => by rw [z] at g3; cases g3), k1, f3, comp, g5⟩, g2⟩, es, fun j hj => ?_⟩
  have u := Cond.all_elim (ev []) e2 h1 j (by omega)
  have nn : ¬ Int32.ofNat j < 0 := ofNat_nonneg (by omega)
  have ej : (Int32.ofNat j).toNatClampNeg = j := ofNat_clamp (by omega)
  have ix : (Term.index 0).eval aa Z none [j] Z = some (.int (Int32.ofNat j)) := by have q := idx_at (args := aa) (s := Z) (first := Z) (o := none) nn; rw [ej] at q; exact q
  have v := eqv_i (hF j hj) u
  rw [elem_f (ev _) ix e2 nn, ej] at v
  exact v
abbrev bys (cs : List Int32) : List Value := (cs.map fun c => c.toInt8.toInt32).map Value.int
/-- x is a Latin-1 builder of the text cs; its array b holds vs -/
def Bd (Z : State) (h : Heap) (x b : Addr) (vs : List Value) (cs : List Int32) : Prop := Exa Z h x "java/lang/StringBuilder" ∧ Fld Z h x "java/lang/AbstractStringBuilder" "value" "[B" (.ref b) ∧ Fld Z h x "java/lang/AbstractStringBuilder" "coder" "B" (.int 0) ∧ Fld Z h x "java/lang/AbstractStringBuilder" "count" "I" (.int (Int32.ofNat cs.length)) ∧ Ar Z h b .byte vs ∧ Exa Z h b "[B" ∧ 16 ≤ vs.length ∧ vs.length ≤ 126 ∧ ∃ us, vs = bys cs ++ us
theorem Bd.ext {h' : Heap} {x b : Addr} {vs : List Value} {cs : List Int32} (F : Bd Z h x b vs cs) (E : Ext h h') : Bd Z h' x b vs cs := by obtain ⟨a1, a2, a3, a4, a5, a6, a7⟩ := F; exact ⟨a1.ext E, a2.ext E, a3.ext E, a4.ext E, a5.ext E, a6.ext E, a7⟩
theorem Bd.exa {x b : Addr} {vs : List Value} {cs : List Int32} (F : Bd Z h x b vs cs) : Exa Z h x "java/lang/StringBuilder" := F.1
theorem Bd.lt {x b : Addr} {vs : List Value} {cs : List Int32} (F : Bd Z h x b vs cs) : x < h.size := F.1.lt
theorem Bd.ltb {x b : Addr} {vs : List Value} {cs : List Int32} (F : Bd Z h x b vs cs) : b < h.size := F.2.2.2.2.2.1.lt
theorem Bd.keep {h' : Heap} {x b : Addr} {vs : List Value} {cs : List Int32} {ws : List Addr} (F : Bd Z h x b vs cs) (K : Keep h h' ws) (q1 : x ∉ ws) (q2 : b ∉ ws) : Bd Z h' x b vs cs := by obtain ⟨a1, a2, a3, a4, a5, a6, a7⟩ := F; exact ⟨a1.keep K, a2.keep K q1, a3.keep K q1, a4.keep K q1, a5.keep K q2, a6.keep K, a7⟩
theorem Sg.arr {x : Addr} {cs : List Int32} (F : Sg Z h x cs) : ∃ t, Fld Z h x "java/lang/String" "value" "[B" (.ref t) ∧ Fld Z h x "java/lang/String" "coder" "B" (.int 0) ∧ Ar Z h t .byte (bys cs) := by
  obtain ⟨a1, a2, a3, t, kb, a4, a5, a6⟩ := F
  exact ⟨t, a4, a5, by simp [bys]; omega, kb, .int 0, by simpa [bys] using a6⟩
theorem sg_of' {x t : Addr} {cs : List Int32} (hn : cs.length ≤ 4000) (hl : ∀ c ∈ cs, Lt8 c) (X : Exa Z h x "java/lang/String") (V : Fld Z h x "java/lang/String" "value" "[B" (.ref t)) (C1 : Fld Z h x "java/lang/String" "coder" "B" (.int 0)) (A : Ar Z h t .byte (bys cs)) : Sg Z h x cs := by
  obtain ⟨kC, A⟩ := A.arv (.int 0)
  rw [List.length_map, List.length_map] at A
  exact ⟨hn, hl, X, t, kC, V, C1, A⟩
theorem g_super (w : Wk p l e R s m args below meth c Z a0 EL pr y bs ml rt T vm0 h k n) {y' x0 y0 : MethodName} {bs' : ByteArray} {ml' : Nat} {rt' : Option FieldType} {C' C0 : String} {rm : Room} {Q : Option Value → Heap → Prop} {i W : Nat} {a : Addr} {argsL : List Value} {ps : List FieldType} {rr : Option FieldType} {stk : List Value} {sf : List Addr} (hM : Con l Z EL pr y' bs' ml' rt' [] rm (.ref a :: argsL).toArray sf h Q) (hsf : ∀ x ∈ sf, x < h.size ∧ Safe Z EL vm0 h x) (hd : decode bs pc = .ok (.invokespecial i, 3)) (hq : pc + 3 = q) (hsz : Ls.size = ml) (E : Exa Z h a C') (hni : y'.name ≠ "<init>")
    (w1 : (Cond.methodLink y.cls i y').before a0 Z = true) (wu : (Cond.superclass y.cls y'.cls).before a0 Z = true) (ws : (Cond.selects C0 x0 y0).before a0 Z = true) (he : y0.cls = y'.cls) (w2 : (Cond.instanceMethod y').before a0 Z = true) (w3 : (Cond.initialized y'.cls).before a0 Z = true) (w4 : (Cond.code y' bs' ml' rt').before a0 Z = true) (hy : y'.cls ≠ "java/lang/invoke/MethodHandle" ∧ y'.cls ≠ "java/lang/invoke/VarHandle") (hpd : parseMethodDescriptor y'.desc = some ⟨ps, rr⟩) (hlen : argsL.length = ps.length) (hst : stk = argsL.reverse ++ .ref a :: st)
    (hW : 2 * 0 + (st.map fun v => v.category).sum ≤ W) (hf : rm.frames + 1 ≤ R.frames) (hl : W + (ml' + 11) + rm.locals ≤ R.locals) (hc : k + rm.cells ≤ R.cells) (hs : n + rm.slots ≤ R.slots)
    (K : ∀ T' h' v, Wk p l e R s m args below meth c Z a0 EL pr y bs ml rt T' T'.vm h' (k + rm.cells) (n + rm.slots) → h.size ≤ h'.size → CHr Z EL vm0 h T'.vm h' → Q v h' → Go p e below Φ (T'.setTop (mkF m q Ls (v.toList ++ st)))) : Go p e below Φ (T.setTop (mkF m pc Ls stk)) := by
  subst hq hst; have w' := w; obtain ⟨⟨hx, hb1, hml, hrt, hlk, hnm, hEL⟩, k0, locs, X, hh, hZ, hown, hS, hk0, N, C, O, hpr⟩ := w
  obtain ⟨v, vm₁, ⟨T', L', k', n'⟩, hW1, X', hS', hg, ⟨L, ⟨hQ, hO', hF⟩, hl', hk', hn', hC', hp'⟩, stp⟩ := superBackS X hx hZ hown w1 (sameOwn w2 ws he hy) w2 wu hni (hM.back hsf hZ w4 w3 hf hl hEL C.1) hh (Ins.self E) (g := mkF m pc Ls (argsL.reverse ++ .ref a :: st)) rfl (hsz.trans hml.symm) w4 (lenOf hpd hlen) rfl hW (hb hb1 hd) (fun _ _ => ⟨rfl, hh, hc, hs⟩)
  dsimp only [Pt.U, Pt.locs, Pt.cells, Pt.slots] at X' hS' hg hQ hO' hl' hk' hn' hC' hp' stp
  subst hl' hk' hn'
  exact (K T' T'.heap v (w'.after X' hS' hg (N.app hF) hC' hO' fun q => State.WarmedH.trans (t := T.setVm vm₁) hW1 (hp' q)) hC'.2.1 hC' hQ).pre' stp
theorem g_superP (w : Wk p l e R s m args below meth c Z a0 EL pr y bs ml rt T vm0 h k n) {y' x0 y0 : MethodName} {bs' : ByteArray} {ml' : Nat} {rt' : Option FieldType} {C' C0 : String} {rm : Room} {V : Option Value → Prop} {i W : Nat} {a : Addr} {argsL : List Value} {ps : List FieldType} {rr : Option FieldType} {stk : List Value} {sf : List Addr} (hM : Con l Z EL pr y' bs' ml' rt' [] rm (.ref a :: argsL).toArray sf h (fun v h' => V v ∧ h' = h)) (hsf : ∀ x ∈ sf, x < h.size ∧ Safe Z EL vm0 h x) (hd : decode bs pc = .ok (.invokespecial i, 3)) (hq : pc + 3 = q) (hsz : Ls.size = ml) (E : Exa Z h a C') (hni : y'.name ≠ "<init>")
    (w1 : (Cond.methodLink y.cls i y').before a0 Z = true) (wu : (Cond.superclass y.cls y'.cls).before a0 Z = true) (ws : (Cond.selects C0 x0 y0).before a0 Z = true) (he : y0.cls = y'.cls) (w2 : (Cond.instanceMethod y').before a0 Z = true) (w3 : (Cond.initialized y'.cls).before a0 Z = true) (w4 : (Cond.code y' bs' ml' rt').before a0 Z = true) (hy : y'.cls ≠ "java/lang/invoke/MethodHandle" ∧ y'.cls ≠ "java/lang/invoke/VarHandle") (hpd : parseMethodDescriptor y'.desc = some ⟨ps, rr⟩) (hlen : argsL.length = ps.length) (hst : stk = argsL.reverse ++ .ref a :: st)
    (hW : 2 * 0 + (st.map fun v => v.category).sum ≤ W) (hf : rm.frames + 1 ≤ R.frames) (hl : W + (ml' + 11) + rm.locals ≤ R.locals) (hc : k + rm.cells ≤ R.cells) (hs : n + rm.slots ≤ R.slots)
    (K : ∀ T' v, Wk p l e R s m args below meth c Z a0 EL pr y bs ml rt T' T'.vm h (k + rm.cells) (n + rm.slots) → CHr Z EL vm0 h T'.vm h → V v → Go p e below Φ (T'.setTop (mkF m q Ls (v.toList ++ st)))) : Go p e below Φ (T.setTop (mkF m pc Ls stk)) :=
  g_super w hM hsf hd hq hsz E hni w1 wu ws he w2 w3 w4 hy hpd hlen hst hW hf hl hc hs fun T' h' v w' _ C' q' => by
    obtain ⟨hV, rfl⟩ := q'; exact K T' v w' C' hV
theorem g_privP (w : Wk p l e R s m args below meth c Z a0 EL pr y bs ml rt T vm0 h k n) {y' : MethodName} {bs' : ByteArray} {ml' : Nat} {rt' : Option FieldType} {rm : Room} {V : Option Value → Prop} {i W : Nat} {a : Addr} {C' : String} {argsL : List Value} {ps : List FieldType} {rr : Option FieldType} {stk : List Value} {sf : List Addr} (hM : Con l Z EL pr y' bs' ml' rt' [] rm (.ref a :: argsL).toArray sf h (fun v h' => V v ∧ h' = h)) (hsf : ∀ x ∈ sf, x < h.size ∧ Safe Z EL vm0 h x) (E : Exa Z h a C') (hd : decode bs pc = .ok (.invokevirtual i, 3)) (hq : pc + 3 = q) (hsz : Ls.size = ml)
    (w1 : (Cond.methodLink y.cls i y').before a0 Z = true) (wd : (Cond.privateMethod y').before a0 Z = true) (ws : (Cond.selects y'.cls y' y').before a0 Z = true) (w2 : (Cond.instanceMethod y').before a0 Z = true) (w3 : (Cond.initialized y'.cls).before a0 Z = true) (w4 : (Cond.code y' bs' ml' rt').before a0 Z = true) (hy : y'.cls ≠ "java/lang/invoke/MethodHandle" ∧ y'.cls ≠ "java/lang/invoke/VarHandle") (hpd : parseMethodDescriptor y'.desc = some ⟨ps, rr⟩) (hlen : argsL.length = ps.length) (hst : stk = argsL.reverse ++ .ref a :: st)
    (hW : 2 * 0 + (st.map fun v => v.category).sum ≤ W) (hf : rm.frames + 1 ≤ R.frames) (hl : W + (ml' + 11) + rm.locals ≤ R.locals) (hc : k + rm.cells ≤ R.cells) (hs : n + rm.slots ≤ R.slots)
    (K : ∀ T' v, Wk p l e R s m args below meth c Z a0 EL pr y bs ml rt T' T'.vm h (k + rm.cells) (n + rm.slots) → CHr Z EL vm0 h T'.vm h → V v → Go p e below Φ (T'.setTop (mkF m q Ls (v.toList ++ st)))) : Go p e below Φ (T.setTop (mkF m pc Ls stk)) :=
  g_priv w hM hsf E hd hq hsz w1 wd ws w2 w3 w4 hy hpd hlen hst hW hf hl hc hs fun T' h' v w' _ C' q' => by
    obtain ⟨hV, rfl⟩ := q'; exact K T' v w' C' hV
end KB
end Jvm.Own
namespace Jvm.Own
open Jvm.RoadKit Jvm.Free Jvm.ClassFile
section PD
theorem ofInt_eq {a b : Int32} (h : a.toInt = b.toInt) : a = b := Int32.toInt_inj.mp h
theorem oN_int {n : Nat} (h : n < 2147483648) : (Int32.ofNat n).toInt = n := Int32.toInt_ofNat_of_lt (by omega)
theorem oN_sub {a b : Nat} (h : b ≤ a) : Int32.ofNat a - Int32.ofNat b = Int32.ofNat (a - b) := by
  have e : a = (a - b) + b := by omega
  conv => lhs; rw [e, Int32.ofNat_add, Int32.add_sub_cancel]
theorem oN_add (a b : Nat) : Int32.ofNat a + Int32.ofNat b = Int32.ofNat (a + b) := (Int32.ofNat_add a b).symm
theorem oN_lt {a b : Nat} (ha : a < 2147483648) (hb : b < 2147483648) : Int32.ofNat a < Int32.ofNat b ↔ a < b := by
  rw [Int32.lt_iff_toInt_lt, oN_int ha, oN_int hb]; omega
theorem oN_inj {a b : Nat} (ha : a < 2147483648) (hb : b < 2147483648) : Int32.ofNat a = Int32.ofNat b ↔ a = b := by
  constructor
  · intro h; have := congrArg Int32.toInt h; rw [oN_int ha, oN_int hb] at this; omega
  · intro h; rw [h]
theorem z31 : ((0 : Int32) &&& 31) = 0 := by decide
theorem shl0 (x : Int32) : x <<< ((0 : Int32) &&& 31) = x := by
  apply ofInt_eq; have := Jvm.RoadKit.c_ishl x 0 0 (by decide)
  have h1 := Jvm.RoadKit.rng32 (x <<< ((0 : Int32) &&& 31)); have h2 := Jvm.RoadKit.rng32 x
  simp only [Nat.pow_zero, Int.ofNat_one, Int.mul_one] at this
  omega
theorem shr0 (x : Int32) : x >>> ((0 : Int32) &&& 31) = x := by
  apply ofInt_eq; have := Jvm.RoadKit.c_ishr x 0 0 (by decide)
  rw [this]; simp
/-- the capacity that newCapacity gives -/
def nsz (L m : Nat) : Nat := if m < 2 * L + 2 then 2 * L + 2 else m
theorem nsz_ge {L m : Nat} : m ≤ nsz L m := by unfold nsz; split <;> omega
theorem nsz_gt {L m : Nat} : L < nsz L m := by unfold nsz; split <;> omega
theorem nsz_le {L m : Nat} (h : L < m) (hm : m ≤ 63) : nsz L m ≤ 126 := by unfold nsz; split <;> omega
theorem nl_eq {L m : Nat} (h : L < m) (hm : m ≤ 63) : Int32.ofNat L + (if Int32.ofNat (m - L) < Int32.ofNat (L + 2) then Int32.ofNat (L + 2) else Int32.ofNat (m - L)) = Int32.ofNat (nsz L m) := by
  unfold nsz
  by_cases q : m - L < L + 2
  · rw [if_pos ((oN_lt (by omega) (by omega)).mpr q), if_pos (by omega), oN_add]; congr 1; omega
  · rw [if_neg (fun z => q ((oN_lt (by omega) (by omega)).mp z)), if_neg (by omega), oN_add]; congr 1; omega
theorem sub_pos {L m : Nat} (h : L < m) (hm : m ≤ 4000) : 0 < Int32.ofNat m - Int32.ofNat L := by
  rw [oN_sub (by omega), show (0 : Int32) = Int32.ofNat 0 from rfl, oN_lt (by omega) (by omega)]; omega
theorem sub_npos {L m : Nat} (h : m ≤ L) (hm : L ≤ 4000) : ¬ 0 < Int32.ofNat m - Int32.ofNat L := by
  have e1 := Jvm.RoadKit.c_isub (Int32.ofNat m) (Int32.ofNat L)
  rw [oN_int (by omega), oN_int (by omega)] at e1
  have e2 := Jvm.RoadKit.rng32 (Int32.ofNat m - Int32.ofNat L)
  rw [Int32.lt_iff_toInt_lt, show (0 : Int32).toInt = 0 from rfl]; omega
theorem lt0 {n : Nat} (h : 0 < n) (hn : n ≤ 4000) : (0 : Int32) < Int32.ofNat n := by
  rw [show (0 : Int32) = Int32.ofNat 0 from rfl, oN_lt (by omega) (by omega)]; exact h
theorem n_big {n : Nat} (hn : n ≤ 4000) : ¬ (2147483639 : Int32) < Int32.ofNat n := by
  rw [show (2147483639 : Int32) = Int32.ofNat 2147483639 from rfl, oN_lt (by omega) (by omega)]; omega
theorem n_ne_max {n : Nat} (hn : n ≤ 4000) : ¬ Int32.ofNat n = (2147483647 : Int32) := by
  rw [show (2147483647 : Int32) = Int32.ofNat 2147483647 from rfl, oN_inj (by omega) (by omega)]; omega
/-- lists under a builder -/
theorem bys_len (cs : List Int32) : (bys cs).length = cs.length := by simp [bys]
theorem bys_app (cs ds : List Int32) : bys (cs ++ ds) = bys cs ++ bys ds := by simp [bys]
theorem pre_put {vs us : List Value} {cs : List Int32} (hv : vs = bys cs ++ us) (xs : List Int32) (rest : List Value) : ∃ us', vs.take cs.length ++ bys xs ++ rest = bys (cs ++ xs) ++ us' :=
  ⟨rest, by rw [hv, List.take_left' (bys_len cs), bys_app]⟩
theorem pre_take {vs us : List Value} {cs : List Int32} (hv : vs = bys cs ++ us) : vs.take cs.length = bys cs := by rw [hv, List.take_left' (bys_len cs)]
theorem put_len {vs xs : List Value} {k n : Nat} (hn : xs.length = n) (h : k + n ≤ vs.length) : (vs.take k ++ xs ++ vs.drop (k + n)).length = vs.length := by
  simp only [List.length_append, List.length_take, List.length_drop, hn]; omega
theorem cp_all {vs : List Value} {n : Nat} (h : vs.length < n) : (List.replicate n (Value.int 0)).take 0 ++ (vs.drop 0).take vs.length ++ (List.replicate n (Value.int 0)).drop (0 + vs.length) = vs ++ List.replicate (n - vs.length) (.int 0) := by simp
theorem cp_pre {vs : List Value} {n : Nat} (h : n ≤ vs.length) : (List.replicate n (Value.int 0)).take 0 ++ (vs.drop 0).take n ++ (List.replicate n (Value.int 0)).drop (0 + n) = vs.take n := by simp
theorem cp_in {vs xs : List Value} {k n : Nat} (hn : xs.length = n) : vs.take k ++ (xs.drop 0).take n ++ vs.drop (k + n) = vs.take k ++ xs ++ vs.drop (k + n) := by subst hn; simp
/-- the array with xs written from k on -/
def put (vs : List Value) (k : Nat) (xs : List Value) : List Value := vs.take k ++ xs ++ vs.drop (k + xs.length)
theorem put_nil (vs : List Value) (k : Nat) : put vs k [] = vs := by simp [put]
theorem put_length {vs : List Value} {k : Nat} {xs : List Value} (h : k + xs.length ≤ vs.length) : (put vs k xs).length = vs.length := put_len rfl h
theorem put_set {vs : List Value} {k : Nat} {xs : List Value} {v : Value} (h : k + 1 + xs.length ≤ vs.length) : (put vs (k + 1) xs).set k v = put vs k (v :: xs) := by
  unfold put
  have e : vs.take (k + 1) = vs.take k ++ [vs[k]'(by omega)] := by rw [List.take_add_one]; simp [show k < vs.length from by omega]
  have hl : (vs.take k).length = k := by rw [List.length_take]; omega
  rw [e]
  simp only [List.append_assoc, List.length_cons, List.singleton_append]
  rw [List.set_append_right _ _ (by omega), hl, Nat.sub_self, show k + 1 + xs.length = k + (xs.length + 1) from by omega]
  rfl
/-- decimal digits -/
def mag (i : Int32) : Nat := i.toInt.natAbs
def dl (n : Nat) : Nat := if n < 10 then 1 else if n < 100 then 2 else if n < 1000 then 3 else if n < 10000 then 4 else if n < 100000 then 5 else if n < 1000000 then 6 else if n < 10000000 then 7 else if n < 100000000 then 8 else if n < 1000000000 then 9 else 10
def dg (n j : Nat) : Int32 := Int32.ofNat (48 + n / 10 ^ j % 10)
def dgs (n : Nat) : Nat → List Int32
  | 0 => []
  | j + 1 => dg n j :: dgs n j
def dec (i : Int32) : List Int32 := if i < 0 then 45 :: dgs (mag i) (dl (mag i)) else dgs (mag i) (dl (mag i))
theorem dgs_len (n : Nat) : ∀ j, (dgs n j).length = j
  | 0 => rfl
  | j + 1 => congrArg (· + 1) (dgs_len n j)
theorem dgs_at (n : Nat) : ∀ j t, t < j → (dgs n j).getD (j - 1 - t) 0 = dg n t
  | j + 1, t, h => by
    by_cases q : t = j
    · subst q; simp [dgs]
    · have := dgs_at n j t (by omega)
      rw [show j + 1 - 1 - t = (j - 1 - t) + 1 from by omega]
      simpa [dgs] using this
theorem mag_le (i : Int32) : mag i ≤ 2147483648 := by have := Jvm.RoadKit.rng32 i; unfold mag; omega
theorem dl_range (n : Nat) : 1 ≤ dl n ∧ dl n ≤ 10 := by unfold dl; repeat' split
                                                        all_goals omega
theorem dec_len (i : Int32) : (dec i).length = (if i < 0 then 1 else 0) + dl (mag i) := by
  unfold dec; split
  · rw [List.length_cons, dgs_len, Nat.add_comm]
  · rw [dgs_len, Nat.zero_add]
theorem dec_le (i : Int32) : 1 ≤ (dec i).length ∧ (dec i).length ≤ 11 := by
  have := dl_range (mag i); rw [dec_len]; split <;> omega
set_option maxHeartbeats 8000000 in
theorem dl_gt {n j : Nat} (hn : n ≤ 2147483648) (h : 10 ^ j ≤ n) : j < dl n := by
  have hj : j < 10 := by
    rcases Nat.lt_or_ge j 10 with q | q
    · exact q
    · have := Nat.pow_le_pow_right (n := 10) (by decide) q; omega
  have : j = 0 ∨ j = 1 ∨ j = 2 ∨ j = 3 ∨ j = 4 ∨ j = 5 ∨ j = 6 ∨ j = 7 ∨ j = 8 ∨ j = 9 := by omega
  rcases this with rfl | rfl | rfl | rfl | rfl | rfl | rfl | rfl | rfl | rfl <;> simp at h <;> unfold dl <;> (repeat' split) <;> omega
set_option maxHeartbeats 8000000 in
theorem dl_le {n j : Nat} (hj : j < 10) (h : n < 10 ^ (j + 1)) : dl n ≤ j + 1 := by
  have : j = 0 ∨ j = 1 ∨ j = 2 ∨ j = 3 ∨ j = 4 ∨ j = 5 ∨ j = 6 ∨ j = 7 ∨ j = 8 ∨ j = 9 := by omega
  rcases this with rfl | rfl | rfl | rfl | rfl | rfl | rfl | rfl | rfl | rfl <;> simp at h <;> unfold dl <;> (repeat' split) <;> omega
theorem dl_eq {n j : Nat} (hn : n ≤ 2147483648) (h1 : n / 10 ^ j < 10) (h2 : j = 0 ∨ 10 ^ j ≤ n) : dl n = j + 1 := by
  have hj : j < dl n := by
    rcases h2 with rfl | h2
    · exact (dl_range n).1
    · exact dl_gt hn h2
  have h3 : n < 10 ^ (j + 1) := by
    have := Nat.div_lt_iff_lt_mul (x := n) (y := 10) (k := 10 ^ j) (Nat.pow_pos (by decide))
    rw [Nat.pow_succ, Nat.mul_comm]; exact this.mp h1
  have := dl_le (n := n) (j := j) (by have := (dl_range n).2; omega) h3
  omega
theorem dg_lat (n j : Nat) : Lt8 (dg n j) := by
  have h : 48 + n / 10 ^ j % 10 < 58 := by have := Nat.mod_lt (n / 10 ^ j) (show 10 > 0 by decide); omega
  unfold dg; exact Lt8.of (by rw [oN_int (by omega)]; omega) (by rw [oN_int (by omega)]; omega)
theorem dgs_lat (n : Nat) : ∀ j, ∀ c ∈ dgs n j, Lt8 c
  | 0 => fun _ q => nomatch q
  | j + 1 => csS (dg_lat n j) (dgs_lat n j)
theorem dec_lat (i : Int32) : ∀ c ∈ dec i, Lt8 c := by
  unfold dec; split
  · exact csS (by constructor <;> decide) (dgs_lat _ _)
  · exact dgs_lat _ _
theorem by8 : ∀ d : Fin 128, (Int32.ofNat d.1).toInt8.toInt32 = Int32.ofNat d.1 := by decide +kernel
theorem by8' {d : Nat} (h : d < 128) : (Int32.ofNat d).toInt8.toInt32 = Int32.ofNat d := by8 ⟨d, h⟩
theorem dg_by (n j : Nat) : (dg n j).toInt8.toInt32 = dg n j := by
  unfold dg; exact by8' (by have := Nat.mod_lt (n / 10 ^ j) (show 10 > 0 by decide); omega)
theorem bys_dgs (n j : Nat) : bys (dgs n (j + 1)) = Value.int (dg n j) :: bys (dgs n j) := by simp [bys, dgs, dg_by]
/-- the numbers of getChars: x = -m -/
theorem neg_int {m : Nat} (h : m ≤ 2147483648) : (-(Int32.ofNat m)).toInt = -(m : Int) := by
  have e := Jvm.RoadKit.c_ineg (Int32.ofNat m)
  have r := Jvm.RoadKit.rng32 (-(Int32.ofNat m))
  by_cases q : m < 2147483648
  · rw [oN_int q] at e; omega
  · have : m = 2147483648 := by omega
    subst this; decide
theorem mag_neg {i : Int32} (h : i < 0) : i = -(Int32.ofNat (mag i)) := by
  apply ofInt_eq; rw [neg_int (mag_le i)]
  have h' : i.toInt < 0 := by simpa [Int32.lt_iff_toInt_lt] using h
  unfold mag; omega
theorem mag_pos {i : Int32} (h : ¬ i < 0) : -i = -(Int32.ofNat (mag i)) := by
  have h' : ¬ i.toInt < 0 := by simpa [Int32.lt_iff_toInt_lt] using h
  have r := Jvm.RoadKit.rng32 i
  congr 1; apply ofInt_eq; unfold mag; rw [oN_int (by omega)]; omega
theorem gt_neg {m K : Nat} (hm : m ≤ 2147483648) (hK : K ≤ 2147483648) : -(Int32.ofNat K) < -(Int32.ofNat m) ↔ m < K := by
  rw [Int32.lt_iff_toInt_lt, neg_int hm, neg_int hK]; omega
theorem gc_div {m : Nat} (hm : m ≤ 2147483648) : -(Int32.ofNat m) / 100 = -(Int32.ofNat (m / 100)) := by
  apply ofInt_eq; rw [neg_int (by omega)]
  have := Jvm.RoadKit.c_idiv (-(Int32.ofNat m)) 100 100 rfl (by decide)
  rw [neg_int hm] at this
  rcases Nat.eq_zero_or_pos m with q | q
  · subst q; decide
  · have h2 := this.2 (by omega); omega
theorem gc_rem {m : Nat} (hm : m ≤ 2147483648) : (-(Int32.ofNat (m / 100))) * 100 - (-(Int32.ofNat m)) = Int32.ofNat (m % 100) := by
  apply ofInt_eq
  have e1 := Jvm.RoadKit.c_imul (-(Int32.ofNat (m / 100))) 100
  have e2 := Jvm.RoadKit.c_isub ((-(Int32.ofNat (m / 100))) * 100) (-(Int32.ofNat m))
  have r1 := Jvm.RoadKit.rng32 ((-(Int32.ofNat (m / 100))) * 100)
  have r2 := Jvm.RoadKit.rng32 ((-(Int32.ofNat (m / 100))) * 100 - (-(Int32.ofNat m)))
  rw [neg_int (by omega), show (100 : Int32).toInt = 100 from rfl] at e1
  rw [neg_int hm] at e2
  rw [oN_int (by omega)]
  omega
theorem div_step {n j : Nat} : n / 10 ^ j / 100 = n / 10 ^ (j + 2) := by rw [Nat.div_div_eq_div_mul, Nat.pow_add]
theorem dg_lo {n j : Nat} : Int32.ofNat (48 + n / 10 ^ j % 100 % 10) = dg n j := by unfold dg; congr 2; omega
theorem dg_hi {n j : Nat} : Int32.ofNat (48 + n / 10 ^ j % 100 / 10) = dg n (j + 1) := by
  unfold dg; congr 2
  rw [Nat.pow_succ, ← Nat.div_div_eq_div_mul]; omega
theorem pow_ge {n j K d : Nat} (hK : K = 10 ^ d) (h : K ≤ n / 10 ^ j) : 10 ^ (j + d) ≤ n := by
  subst hK; rw [Nat.pow_add, Nat.mul_comm]; exact (Nat.le_div_iff_mul_le (Nat.pow_pos (by decide))).mp h
end PD
end Jvm.Own
namespace Jvm.Own
open Jvm.RoadKit Jvm.Free Jvm.ClassFile
section PD2
theorem oN_a1 (a : Nat) : Int32.ofNat a + 1 = Int32.ofNat (a + 1) := oN_add a 1
theorem oN_a2 (a : Nat) : Int32.ofNat a + 2 = Int32.ofNat (a + 2) := oN_add a 2
theorem sub0 (x : Int32) : x - 0 = x := by apply ofInt_eq; have := Jvm.RoadKit.c_isub x 0; have h1 := Jvm.RoadKit.rng32 (x - 0); have h2 := Jvm.RoadKit.rng32 x; rw [show (0 : Int32).toInt = 0 from rfl] at this; omega
theorem mn_l {a b : Nat} (h : a ≤ b) (hb : b ≤ 4000) : (if Int32.ofNat b < Int32.ofNat a then Int32.ofNat b else Int32.ofNat a) = Int32.ofNat a := if_neg fun q => absurd ((oN_lt (by omega) (by omega)).mp q) (by omega)
theorem mn_r {a b : Nat} (h : b ≤ a) (ha : a ≤ 4000) : (if Int32.ofNat b < Int32.ofNat a then Int32.ofNat b else Int32.ofNat a) = Int32.ofNat b := by
  by_cases q : b = a
  · subst q; rw [ite_self]
  · exact if_pos ((oN_lt (by omega) (by omega)).mpr (by omega))
theorem ecl {vs : List Value} {m : Nat} (h : vs.length < m) (hm : m ≤ 63) (v : Value) : m ≤ (vs ++ List.replicate (nsz vs.length m - vs.length) v).length ∧ (vs ++ List.replicate (nsz vs.length m - vs.length) v).length ≤ 126 := by
  have h1 := @nsz_ge vs.length m; have h2 := @nsz_gt vs.length m; have h3 := nsz_le h hm
  rw [List.length_append, List.length_replicate]; omega
theorem nar_dg (n j : Nat) : nar .byte (dg n j) = dg n j := by
  have := dg_by n j; simpa [nar] using this
theorem dg_hi' {n j : Nat} (h : n / 10 ^ j < 100) : Int32.ofNat (48 + n / 10 ^ j / 10) = dg n (j + 1) := by
  unfold dg; congr 2; rw [Nat.pow_succ, ← Nat.div_div_eq_div_mul]; generalize n / 10 ^ j = m at *; omega
theorem div10 {n j : Nat} (h : n / 10 ^ j < 100) : n / 10 ^ (j + 1) < 10 := by rw [Nat.pow_succ, ← Nat.div_div_eq_div_mul]; generalize n / 10 ^ j = m at *; omega
theorem hr_next {n j r : Nat} (h : n / 10 ^ j < 100 ^ (r + 1 + 1)) : n / 10 ^ (j + 2) < 100 ^ (r + 1) := by
  rw [← div_step]; exact (Nat.div_lt_iff_lt_mul (by decide)).mpr (by rw [← Nat.pow_succ]; exact h)
theorem hr_start (i : Int32) : mag i / 10 ^ 0 < 100 ^ (5 + 1) := by have := mag_le i; simp; omega
theorem put_pre {vs us : List Value} {cs xs : List Int32} (hv : vs = bys cs ++ us) : ∃ us', put vs cs.length (bys xs) = bys (cs ++ xs) ++ us' := pre_put hv xs _
end PD2
end Jvm.Own
namespace Jvm.Own
open Jvm.RoadKit Jvm.Free Jvm.ClassFile
section PD3
theorem ss_n {i : Int32} (h : i < 0) {K : Nat} (hK : K ≤ 2147483648) : -(Int32.ofNat K) < i ↔ mag i < K := by
  conv => lhs; rhs; rw [mag_neg h]
  exact gt_neg (mag_le i) hK
theorem ss_p {i : Int32} (h : ¬ i < 0) {K : Nat} (hK : K ≤ 2147483648) : -(Int32.ofNat K) < -i ↔ mag i < K := by
  rw [mag_pos h]; exact gt_neg (mag_le i) hK
end PD3
end Jvm.Own
/- laws to paste: Road.lenW, Road.eqW, pair_says, lo8_mask, Road.codOf (cut by pick.py; bodies as the Statement names them) -/
namespace Jvm.Pilot.@@N@@
namespace StrChars
open Jvm Sem ClassFile Op Lib Jvm.Stand Jvm.Free.XT Jvm.Free.ALB Jvm.Free.JM Jvm.Free
open Jvm.Lib.Cold (StaticIs)
/-- a char array whose places are chars -/
def Ch (a : Addr) (A : Cell) (U : State) : Prop := Arr .char a A U ∧ Typed .char A
theorem Ch.mv {a : Addr} {A : Cell} {U U' : State} (h : Ch a A U) (hal : U.vm.Alike U'.vm) (hh : U'.heap = U.heap) : Ch a A U' := ⟨h.1.mv hal hh, h.2⟩
theorem Ch.keep {a : Addr} {A : Cell} {U U' : State} (h : Ch a A U) (hal : U.vm.Alike U'.vm) (hk : U'.heap[a]? = some A) : Ch a A U' := ⟨h.1.keep hal hk, h.2⟩
/-- what place i of a char[]'s cell holds -/
def cv (A : Cell) (i : Nat) : Int32 := match A.slots[i]? with | some (.int x) => x | _ => 0
theorem Ch.get {a : Addr} {A : Cell} {U : State} (h : Ch a A U) {i : Nat} (hi : i < A.slots.size) : A.slots[i]? = some (.int (cv A i)) := by
  have e := Array.getElem?_eq_getElem hi
  have f := h.2 i _ e
  unfold cv; rw [e]
  generalize A.slots[i] = v at f
  cases v <;> simp [fits] at f ⊢
/-- the byte that i2b leaves of a char -/
def lo8 (x : Int32) : Int32 := x.toInt8.toInt32
theorem fits_lo8 (y : Int32) : fits .byte (.int (lo8 y)) = true := by
  have h1 := y.toInt8.le_toInt
  have h2 := y.toInt8.toInt_lt
  simp only [lo8, fits, Bool.and_eq_true, decide_eq_true_eq, Int32.le_iff_toInt_le, Int8.toInt_toInt32, show (-128 : Int32).toInt = -128 from by decide, show (127 : Int32).toInt = 127 from by decide]
  omega
/-- A' is A but that each place j of lo .. hi - 1 holds f j -/
def Laid (A A' : Cell) (lo hi : Nat) (f : Nat → Value) : Prop := A'.cls = A.cls ∧ A'.vm = A.vm ∧ A'.slots.size = A.slots.size ∧ ∀ i, A'.slots[i]? = if lo ≤ i ∧ i < hi then some (f i) else A.slots[i]?
theorem Laid.zero (A : Cell) (lo : Nat) (f : Nat → Value) : Laid A A lo (lo + 0) f := ⟨rfl, rfl, rfl, fun i => by rw [if_neg (by omega)]⟩
theorem Laid.step {A Ak : Cell} {lo k : Nat} {f : Nat → Value} {v : Value} (h : Laid A Ak lo k f) (hlo : lo ≤ k) (hk : k < Ak.slots.size) (hv : v = f k) : Laid A (Ak.setSlot k v) lo (k + 1) f := by
  refine ⟨h.1, h.2.1, by simpa [Cell.setSlot] using h.2.2.1, fun i => ?_⟩
  by_cases e : k = i
  · subst e; rw [Cell.slots_setSlot_self v hk, if_pos (by omega), hv]
  · rw [Cell.slots_setSlot_ne v e, h.2.2.2 i]
    by_cases q : lo ≤ i ∧ i < k
    · rw [if_pos q, if_pos (by omega)]
    · rw [if_neg q, if_neg (by omega)]
def U16 : String := "java/lang/StringUTF16"
namespace Cmp5
def yN : MethodName := ⟨"java/lang/StringUTF16", "compress", "([CI[BII)I"⟩
abbrev yB : ByteArray := jdk_52_method_21_code
theorem d0 : decode yB 0 = .ok (.iconst 0, 1) := by decide +kernel
theorem d1 : decode yB 1 = .ok (.istore 5, 2) := by decide +kernel
theorem d3 : decode yB 3 = .ok (.iload 5, 2) := by decide +kernel
theorem d5 : decode yB 5 = .ok (.iload 4, 2) := by decide +kernel
theorem d7 : decode yB 7 = .ok (.if_icmp (.ge) 37, 3) := by decide +kernel
theorem d10 : decode yB 10 = .ok (.aload_n 0, 1) := by decide +kernel
theorem d11 : decode yB 11 = .ok (.iload_n 1, 1) := by decide +kernel
theorem d12 : decode yB 12 = .ok (.caload, 1) := by decide +kernel
theorem d13 : decode yB 13 = .ok (.istore 6, 2) := by decide +kernel
theorem d15 : decode yB 15 = .ok (.iload 6, 2) := by decide +kernel
theorem d17 : decode yB 17 = .ok (.sipush 255, 3) := by decide +kernel
theorem d20 : decode yB 20 = .ok (.if_icmp (.le) 6, 3) := by decide +kernel
theorem d26 : decode yB 26 = .ok (.aload_n 2, 1) := by decide +kernel
theorem d27 : decode yB 27 = .ok (.iload_n 3, 1) := by decide +kernel
theorem d28 : decode yB 28 = .ok (.iload 6, 2) := by decide +kernel
theorem d30 : decode yB 30 = .ok (.i2b, 1) := by decide +kernel
theorem d31 : decode yB 31 = .ok (.bastore, 1) := by decide +kernel
theorem d32 : decode yB 32 = .ok (.iinc 1 1, 3) := by decide +kernel
theorem d35 : decode yB 35 = .ok (.iinc 3 1, 3) := by decide +kernel
theorem d38 : decode yB 38 = .ok (.iinc 5 1, 3) := by decide +kernel
theorem d41 : decode yB 41 = .ok (.goto (-38), 3) := by decide +kernel
theorem d44 : decode yB 44 = .ok (.iload 4, 2) := by decide +kernel
theorem d46 : decode yB 46 = .ok (.ireturn, 1) := by decide +kernel
def site : List Cond := []
def tab : Cond := tabOf yN yB 7 (some .int) site
def P (b : Addr) (A : Cell) (d : Addr) (B : Cell) (o q len : Nat) (args : Array Value) (s : State) : Prop := args = #[.ref b, .int (Int32.ofNat o), .ref d, .int (Int32.ofNat q), .int (Int32.ofNat len)] ∧ Ch b A s ∧ Arr .byte d B s ∧ b ≠ d ∧ o + len ≤ A.slots.size ∧ q + len ≤ B.slots.size ∧ ∀ i, i < len → ¬ 255 < cv A (o + i)
def E (b : Addr) (A : Cell) (d : Addr) (B : Cell) (o q len : Nat) (r : Option Value) (s u : State) : Prop := r = some (.int (Int32.ofNat len)) ∧ ∃ B', Put d B' s u ∧ Laid B B' q (q + len) (fun j => Value.int (lo8 (cv A (o + (j - q)))))
/-- no char of the range above 255: len; the places written hold each char's low byte -/
theorem law (l : Launch) (b : Addr) (A : Cell) (d : Addr) (B : Cell) (o q len : Nat) : Law l yN 5 5 0 0 yB 7 (some .int) site (P b A d B o q len) (E b A d B o q len) (copyLocs d q len) 0 0 := by
  refine Law.of_walk (plainFor_of_name (by decide +kernel)) (by decide +kernel) (by decide +kernel) (by decide) (fun _ _ h => by rw [h.1]; rfl) (fun _ U U' hal hh h => ⟨h.1, h.2.1.mv hal hh, h.2.2.1.mv hal hh, h.2.2.2⟩) (fun r U U' V V' h1 hal h2 h => ⟨h.1, h.2.elim fun B' q => ⟨B', q.1.mv h1 h2, q.2⟩⟩) ?_
  intro p e s m args below meth c s₁ X0 hexec hbytes hml hret hlk hnm hown hh0 W hP
  obtain ⟨rfl, hA, hB, hne, l1, l2, hp⟩ := hP
  have c1 : Steps p.tables e below (s₁.setTop (entryFrame m #[.ref b, .int (Int32.ofNat o), .ref d, .int (Int32.ofNat q), .int (Int32.ofNat len)] 7)) (s₁.setTop (mkF m 0 #[.val (.ref b), .val (.int (Int32.ofNat o)), .val (.ref d), .val (.int (Int32.ofNat q)), .val (.int (Int32.ofNat len)), .unset, .unset] [])) := entry rfl
  have hA0 := hA.1.mv X0.warmed.alike hh0
  have hB0 := hB.mv X0.warmed.alike hh0
  have a31 := hA.1.2.2.2
  have c2 : Steps p.tables e below (s₁.setTop (entryFrame m #[.ref b, .int (Int32.ofNat o), .ref d, .int (Int32.ofNat q), .int (Int32.ofNat len)] 7)) (s₁.setTop (mkF m 3 #[.val (.ref b), .val (.int (Int32.ofNat o)), .val (.ref d), .val (.int (Int32.ofNat q)), .val (.int (Int32.ofNat len)), .val (.int 0), .unset] [])) := c1.trans (by
    refine iconstV X0.here hexec rfl 0 (hb hbytes d0) (by decide) ?_
    refine XS.istore X0.here hexec rfl (hb hbytes d1) rfl rfl ?_
    exact Steps.refl _)
  have loop : ∀ (r i : Nat), i + r = len → ∀ (z : Slot), (z = .unset ∨ ∃ w, z = .val w ∧ w.category = 1) → ∀ (Tl : State) (Bk : Cell), Stand p l e { frames := 0, locals := 0, cells := 0, slots := 0 } s m #[.ref b, .int (Int32.ofNat o), .ref d, .int (Int32.ofNat q), .int (Int32.ofNat len)] below meth c Tl ([] ++ copyLocs d q i) 0 0 → Put d Bk s₁ Tl → Laid B Bk q (q + i) (fun j => Value.int (lo8 (cv A (o + (j - q))))) →
      Steps p.tables e below (s₁.setTop (entryFrame m #[.ref b, .int (Int32.ofNat o), .ref d, .int (Int32.ofNat q), .int (Int32.ofNat len)] 7)) (Tl.setTop (mkF m 3 #[.val (.ref b), .val (.int (Int32.ofNat (o + i))), .val (.ref d), .val (.int (Int32.ofNat (q + i))), .val (.int (Int32.ofNat len)), .val (.int (Int32.ofNat i)), z] [])) → ∃ (T' : State) (B' : Cell) (z' : Slot), Stand p l e { frames := 0, locals := 0, cells := 0, slots := 0 } s m #[.ref b, .int (Int32.ofNat o), .ref d, .int (Int32.ofNat q), .int (Int32.ofNat len)] below meth c T' ([] ++ copyLocs d q len) 0 0 ∧ Put d B' s₁ T' ∧ Laid B B' q (q + len) (fun j => Value.int (lo8 (cv A (o + (j - q))))) ∧
      Steps p.tables e below (s₁.setTop (entryFrame m #[.ref b, .int (Int32.ofNat o), .ref d, .int (Int32.ofNat q), .int (Int32.ofNat len)] 7)) (T'.setTop (mkF m 3 #[.val (.ref b), .val (.int (Int32.ofNat (o + len))), .val (.ref d), .val (.int (Int32.ofNat (q + len))), .val (.int (Int32.ofNat len)), .val (.int (Int32.ofNat len)), z'] [])) := by
    intro r
    induction r with
    | zero =>
      intro i hi z hz Tl Bk Xl pl fl cl
      have hil : i = len := by omega
      rw [hil] at Xl fl cl
      exact ⟨Tl, Bk, z, Xl, pl, fl, cl⟩
    | succ r ih =>
      intro i hi z hz Tl Bk Xl pl fl cl
      have all := X0.warmed.alike.symm.trans Xl.warmed.alike
      have hAl := hA0.keep all (pl.other hne hA0.1)
      have hBk := hB0.like all pl.1 fl.1 fl.2.1 fl.2.2.1
      have hlt : q + i < Bk.slots.size := by rw [fl.2.2.1]; omega
      have c3 : Steps p.tables e below (s₁.setTop (entryFrame m #[.ref b, .int (Int32.ofNat o), .ref d, .int (Int32.ofNat q), .int (Int32.ofNat len)] 7)) (Tl.setTop (mkF m 12 #[.val (.ref b), .val (.int (Int32.ofNat (o + i))), .val (.ref d), .val (.int (Int32.ofNat (q + i))), .val (.int (Int32.ofNat len)), .val (.int (Int32.ofNat i)), z] [.int (Int32.ofNat (o + i)), .ref b])) := cl.trans (by
        refine XS.iload Xl.here hexec rfl (hb hbytes d3) rfl ?_
        refine XS.iload Xl.here hexec rfl (hb hbytes d5) rfl ?_
        refine XS.icmpNo Xl.here hexec rfl (hb hbytes d7) rfl (ii_ge_f (lt32 (by omega) (by omega))) ?_
        refine XS.aloadN Xl.here hexec rfl (hb hbytes d10) rfl rfl ?_
        refine XS.iloadN Xl.here hexec rfl (hb hbytes d11) rfl ?_
        exact Steps.refl _)
      have c4 : Steps p.tables e below (s₁.setTop (entryFrame m #[.ref b, .int (Int32.ofNat o), .ref d, .int (Int32.ofNat q), .int (Int32.ofNat len)] 7)) (Tl.setTop (mkF m 13 #[.val (.ref b), .val (.int (Int32.ofNat (o + i))), .val (.ref d), .val (.int (Int32.ofNat (q + i))), .val (.int (Int32.ofNat len)), .val (.int (Int32.ofNat i)), z] [.int (cv A (o + i))])) := c3.trans (by
        refine Xl.aget hexec hAl rfl (hA.get (i := o + i) (by omega)) rfl rfl (hb hbytes d12) ?_
        exact Steps.refl _)
      have c5 : Steps p.tables e below (s₁.setTop (entryFrame m #[.ref b, .int (Int32.ofNat o), .ref d, .int (Int32.ofNat q), .int (Int32.ofNat len)] 7)) (Tl.setTop (mkF m 15 #[.val (.ref b), .val (.int (Int32.ofNat (o + i))), .val (.ref d), .val (.int (Int32.ofNat (q + i))), .val (.int (Int32.ofNat len)), .val (.int (Int32.ofNat i)), .val (.int (cv A (o + i)))] [])) := c4.trans (by
        refine XS.istoreS Xl.here hexec rfl (hb hbytes d13) rfl rfl hz ?_
        exact Steps.refl _)
      have c6 : Steps p.tables e below (s₁.setTop (entryFrame m #[.ref b, .int (Int32.ofNat o), .ref d, .int (Int32.ofNat q), .int (Int32.ofNat len)] 7)) (Tl.setTop (mkF m 31 #[.val (.ref b), .val (.int (Int32.ofNat (o + i))), .val (.ref d), .val (.int (Int32.ofNat (q + i))), .val (.int (Int32.ofNat len)), .val (.int (Int32.ofNat i)), .val (.int (cv A (o + i)))] [.int (lo8 (cv A (o + i))), .int (Int32.ofNat (q + i)), .ref d])) := c5.trans (by
        refine XS.iload Xl.here hexec rfl (hb hbytes d15) rfl ?_
        refine sipushV Xl.here hexec rfl 255 (hb hbytes d17) (by decide) ?_
        refine XS.icmpYes Xl.here hexec rfl (pc0 := 20) rfl (hb hbytes d20) rfl (ii_le_t (hp i (by omega))) (by decide) rfl ?_
        refine XS.aloadN Xl.here hexec rfl (hb hbytes d26) rfl rfl ?_
        refine XS.iloadN Xl.here hexec rfl (hb hbytes d27) rfl ?_
        refine XS.iload Xl.here hexec rfl (hb hbytes d28) rfl ?_
        refine i2b Xl.here hexec rfl (hb hbytes d30) rfl ?_
        exact Steps.refl _)
      obtain ⟨T7, X7, p7, st7⟩ := Xl.aput hexec hBk rfl hlt rfl (fits_lo8 (cv A (o + i))) (g := (mkF m 31 #[.val (.ref b), .val (.int (Int32.ofNat (o + i))), .val (.ref d), .val (.int (Int32.ofNat (q + i))), .val (.int (Int32.ofNat len)), .val (.int (Int32.ofNat i)), .val (.int (cv A (o + i)))] [.int (lo8 (cv A (o + i))), .int (Int32.ofNat (q + i)), .ref d])) rfl (rest := []) rfl (hb hbytes d31)
      have c8 : Steps p.tables e below (s₁.setTop (entryFrame m #[.ref b, .int (Int32.ofNat o), .ref d, .int (Int32.ofNat q), .int (Int32.ofNat len)] 7)) (T7.setTop (mkF m 32 #[.val (.ref b), .val (.int (Int32.ofNat (o + i))), .val (.ref d), .val (.int (Int32.ofNat (q + i))), .val (.int (Int32.ofNat len)), .val (.int (Int32.ofNat i)), .val (.int (cv A (o + i)))] [])) := c6.trans (st7 _ (Steps.refl _))
      have c9 : Steps p.tables e below (s₁.setTop (entryFrame m #[.ref b, .int (Int32.ofNat o), .ref d, .int (Int32.ofNat q), .int (Int32.ofNat len)] 7)) (T7.setTop (mkF m 3 #[.val (.ref b), .val (.int (Int32.ofNat (o + i) + 1)), .val (.ref d), .val (.int (Int32.ofNat (q + i) + 1)), .val (.int (Int32.ofNat len)), .val (.int (Int32.ofNat i + 1)), .val (.int (cv A (o + i)))] [])) := c8.trans (by
        refine iincV X7.here hexec rfl 1 (hb hbytes d32) (by decide) rfl rfl ?_
        refine iincV X7.here hexec rfl 1 (hb hbytes d35) (by decide) rfl rfl ?_
        refine iincV X7.here hexec rfl 1 (hb hbytes d38) (by decide) rfl rfl ?_
        refine XS.goto X7.here hexec rfl (pc0 := 41) rfl (hb hbytes d41) (by decide) rfl ?_
        exact Steps.refl _)
      have c10 : Steps p.tables e below (s₁.setTop (entryFrame m #[.ref b, .int (Int32.ofNat o), .ref d, .int (Int32.ofNat q), .int (Int32.ofNat len)] 7)) (T7.setTop (mkF m 3 #[.val (.ref b), .val (.int (Int32.ofNat (o + (i + 1)))), .val (.ref d), .val (.int (Int32.ofNat (q + (i + 1)))), .val (.int (Int32.ofNat len)), .val (.int (Int32.ofNat (i + 1))), .val (.int (cv A (o + i)))] [])) := by
        have := c9
        rw [succ32, succ32, succ32] at this
        exact this
      exact ih (i + 1) (by omega) _ (Or.inr ⟨_, rfl, rfl⟩) T7 _ (by rw [copyLocs_step, ← List.append_assoc]; exact X7) (pl.trans p7) (fl.step (by omega) hlt (by simp)) c10
  obtain ⟨T9, B9, z9, X9, p9, f9, g9⟩ := loop len 0 (by omega) .unset (Or.inl rfl) s₁ B (by simpa [copyLocs] using X0) ⟨hB0.1, fun _ _ => rfl, rfl⟩ (Laid.zero _ _ _) c2
  have c11 : Steps p.tables e below (s₁.setTop (entryFrame m #[.ref b, .int (Int32.ofNat o), .ref d, .int (Int32.ofNat q), .int (Int32.ofNat len)] 7)) (T9.setTop (mkF m 46 #[.val (.ref b), .val (.int (Int32.ofNat (o + len))), .val (.ref d), .val (.int (Int32.ofNat (q + len))), .val (.int (Int32.ofNat len)), .val (.int (Int32.ofNat len)), z9] [.int (Int32.ofNat len)])) := g9.trans (by
    refine XS.iload X9.here hexec rfl (hb hbytes d3) rfl ?_
    refine XS.iload X9.here hexec rfl (hb hbytes d5) rfl ?_
    refine XS.icmpYes X9.here hexec rfl (pc0 := 7) rfl (hb hbytes d7) rfl (ii_ge_t (nlt32 (by omega) (Nat.le_refl _))) (by decide) rfl ?_
    refine XS.iload X9.here hexec rfl (hb hbytes d44) rfl ?_
    exact Steps.refl _)
  exact ⟨T9, some (.int (Int32.ofNat len)), _, _, _, X9, by simp, rfl, rfl, (fun h => by cases h), ⟨rfl, B9, p9.from hh0, f9⟩, fun fs hl => c11.trans (X9.ireturnOut hexec hret rfl (Or.inl rfl) (hb hbytes d46) hl)⟩
end Cmp5
namespace Cmp3
def yN : MethodName := ⟨"java/lang/StringUTF16", "compress", "([CII)[B"⟩
abbrev yB : ByteArray := jdk_52_method_16_code
theorem d0 : decode yB 0 = .ok (.iload_n 2, 1) := by decide +kernel
theorem d1 : decode yB 1 = .ok (.newarray .byte, 2) := by decide +kernel
theorem d3 : decode yB 3 = .ok (.astore_n 3, 1) := by decide +kernel
theorem d4 : decode yB 4 = .ok (.aload_n 0, 1) := by decide +kernel
theorem d5 : decode yB 5 = .ok (.iload_n 1, 1) := by decide +kernel
theorem d6 : decode yB 6 = .ok (.aload_n 3, 1) := by decide +kernel
theorem d7 : decode yB 7 = .ok (.iconst 0, 1) := by decide +kernel
theorem d8 : decode yB 8 = .ok (.iload_n 2, 1) := by decide +kernel
theorem d9 : decode yB 9 = .ok (.invokestatic 115, 3) := by decide +kernel
theorem d12 : decode yB 12 = .ok (.istore 4, 2) := by decide +kernel
theorem d14 : decode yB 14 = .ok (.iload 4, 2) := by decide +kernel
theorem d16 : decode yB 16 = .ok (.iload_n 2, 1) := by decide +kernel
theorem d17 : decode yB 17 = .ok (.if_icmp (.eq) 40, 3) := by decide +kernel
theorem d57 : decode yB 57 = .ok (.aload_n 3, 1) := by decide +kernel
theorem d58 : decode yB 58 = .ok (.areturn, 1) := by decide +kernel
def site : List Cond := [.arrayClass .byte, Cmp5.tab] ++ staticW U16 115 Cmp5.yN
def tab : Cond := tabOf yN yB 6 (some (.array .byte)) site
def P (b : Addr) (A : Cell) (o len : Nat) (args : Array Value) (s : State) : Prop := args = #[.ref b, .int (Int32.ofNat o), .int (Int32.ofNat len)] ∧ Ch b A s ∧ o + len ≤ A.slots.size ∧ len ≤ 536870912 ∧ ∀ i, i < len → ¬ 255 < cv A (o + i)
def E (b : Addr) (A : Cell) (o len : Nat) (r : Option Value) (s u : State) : Prop := NewArr .byte "[B" len (fun j => .int (lo8 (cv A (o + j)))) r s u ∧ u.heap.size = s.heap.size + 1
/-- no char of the range above 255: a new byte[] of their low bytes -/
theorem law (l : Launch) (b : Addr) (A : Cell) (o len : Nat) : Law l yN 3 3 1 18 yB 6 (some (.array .byte)) site (P b A o len) (E b A o len) [] 1 len := by
  refine Law.of_walk (plainFor_of_name (by decide +kernel)) (by decide +kernel) (by decide +kernel) (by decide) (fun _ _ h => by rw [h.1]; rfl) (fun _ U U' hal hh h => ⟨h.1, h.2.1.mv hal hh, h.2.2⟩) (fun r U U' V V' h1 hal h2 h => ⟨NewArr.mv r U U' V V' h1 hal h2 h.1, by rw [h1, h2]; exact h.2⟩) ?_
  intro p e s m args below meth c s₁ X0 hexec hbytes hml hret hlk hnm hown hh0 W hP
  obtain ⟨rfl, hA, l1, l2, hp⟩ := hP
  have a31 := hA.1.2.2.2
  have c1 : Steps p.tables e below (s₁.setTop (entryFrame m #[.ref b, .int (Int32.ofNat o), .int (Int32.ofNat len)] 6)) (s₁.setTop (mkF m 0 #[.val (.ref b), .val (.int (Int32.ofNat o)), .val (.int (Int32.ofNat len)), .unset, .unset, .unset] [])) := entry rfl
  have c2 : Steps p.tables e below (s₁.setTop (entryFrame m #[.ref b, .int (Int32.ofNat o), .int (Int32.ofNat len)] 6)) (s₁.setTop (mkF m 1 #[.val (.ref b), .val (.int (Int32.ofNat o)), .val (.int (Int32.ofNat len)), .unset, .unset, .unset] [.int (Int32.ofNat len)])) := c1.trans (by
    refine XS.iloadN X0.here hexec rfl (hb hbytes d0) rfl ?_
    exact Steps.refl _)
  obtain ⟨T3, B3, X3, ba3, bs3, bv3, bh3, bf3, st3⟩ := X0.anew hexec (atype := .byte) (wk W (.arrayClass .byte)) rfl (by show len * 1 ≤ _; omega) (by omega) (g := (mkF m 1 #[.val (.ref b), .val (.int (Int32.ofNat o)), .val (.int (Int32.ofNat len)), .unset, .unset, .unset] [.int (Int32.ofNat len)])) rfl (hb hbytes d1) (rest := []) rfl (Nat.le_refl _) (by show 0 + len ≤ len; omega)
  rw [hh0] at ba3 st3
  have kp3 : XT.Kept s T3 := (XT.Kept.of_eq hh0).push bh3
  have hA3 := hA.keep X3.warmed.alike (kp3 _ _ hA.1.1)
  have hne : b ≠ s.heap.size := hA.1.ne
  have c4 : Steps p.tables e below (s₁.setTop (entryFrame m #[.ref b, .int (Int32.ofNat o), .int (Int32.ofNat len)] 6)) (T3.setTop (mkF m 3 #[.val (.ref b), .val (.int (Int32.ofNat o)), .val (.int (Int32.ofNat len)), .unset, .unset, .unset] [.ref s.heap.size])) := c2.trans (st3 _ (Steps.refl _))
  have c5 : Steps p.tables e below (s₁.setTop (entryFrame m #[.ref b, .int (Int32.ofNat o), .int (Int32.ofNat len)] 6)) (T3.setTop (mkF m 9 #[.val (.ref b), .val (.int (Int32.ofNat o)), .val (.int (Int32.ofNat len)), .val (.ref s.heap.size), .unset, .unset] [.int (Int32.ofNat len), .int 0, .ref s.heap.size, .int (Int32.ofNat o), .ref b])) := c4.trans (by
    refine XS.astoreN X3.here hexec rfl (hb hbytes d3) rfl rfl rfl ?_
    refine XS.aloadN X3.here hexec rfl (hb hbytes d4) rfl rfl ?_
    refine XS.iloadN X3.here hexec rfl (hb hbytes d5) rfl ?_
    refine XS.aloadN X3.here hexec rfl (hb hbytes d6) rfl rfl ?_
    refine iconstV X3.here hexec rfl 0 (hb hbytes d7) (by decide) ?_
    refine XS.iloadN X3.here hexec rfl (hb hbytes d8) rfl ?_
    exact Steps.refl _)
  obtain ⟨v6, T6, X6, E6, g6⟩ := X3.callS hexec (Cmp5.law l b A s.heap.size B3 o 0 len) hown (wks W (staticW U16 115 Cmp5.yN)) (wk W Cmp5.tab) (W := 0) (Nat.le_of_ble_eq_true rfl) (Nat.le_of_ble_eq_true rfl) (Nat.le_refl _) (by show 0 + len + 0 ≤ len; omega) (g := (mkF m 9 #[.val (.ref b), .val (.int (Int32.ofNat o)), .val (.int (Int32.ofNat len)), .val (.ref s.heap.size), .unset, .unset] [.int (Int32.ofNat len), .int (Int32.ofNat 0), .ref s.heap.size, .int (Int32.ofNat o), .ref b])) rfl (by rw [hml]; rfl) c5 (argsL := [.ref b, .int (Int32.ofNat o), .ref s.heap.size, .int (Int32.ofNat 0), .int (Int32.ofNat len)]) (rest := []) rfl rfl (by show 2 * 0 + 0 ≤ _; decide) (hb hbytes d9) (⟨rfl, hA3, ba3, hne, l1, by rw [bs3]; simp, hp⟩)
  obtain ⟨rfl, B6, p6, f6⟩ := E6
  have c7 : Steps p.tables e below (s₁.setTop (entryFrame m #[.ref b, .int (Int32.ofNat o), .int (Int32.ofNat len)] 6)) (T6.setTop (mkF m 12 #[.val (.ref b), .val (.int (Int32.ofNat o)), .val (.int (Int32.ofNat len)), .val (.ref s.heap.size), .unset, .unset] [.int (Int32.ofNat len)])) := g6
  have c8 : Steps p.tables e below (s₁.setTop (entryFrame m #[.ref b, .int (Int32.ofNat o), .int (Int32.ofNat len)] 6)) (T6.setTop (mkF m 58 #[.val (.ref b), .val (.int (Int32.ofNat o)), .val (.int (Int32.ofNat len)), .val (.ref s.heap.size), .val (.int (Int32.ofNat len)), .unset] [.ref s.heap.size])) := c7.trans (by
    refine XS.istore X6.here hexec rfl (hb hbytes d12) rfl rfl ?_
    refine XS.iload X6.here hexec rfl (hb hbytes d14) rfl ?_
    refine XS.iloadN X6.here hexec rfl (hb hbytes d16) rfl ?_
    refine XS.icmpYes X6.here hexec rfl (pc0 := 17) rfl (hb hbytes d17) rfl (ii_eq_t rfl) (by decide) rfl ?_
    refine XS.aloadN X6.here hexec rfl (hb hbytes d57) rfl rfl ?_
    exact Steps.refl _)
  have X8 := X6.wide (L' := []) (cells' := 1) (slots' := len) (fun x hx hlt => by
    simp only [List.nil_append, copyLocs, List.mem_map, List.mem_range] at hx
    obtain ⟨i, -, rfl⟩ := hx
    exact absurd hlt (Nat.lt_irrefl _)) (Nat.le_refl _) (by omega)
  exact ⟨T6, some (.ref s.heap.size), _, _, _, X8, rfl, rfl, rfl, (fun h => by cases h), ⟨⟨rfl, B6, ba3.like (X3.warmed.alike.symm.trans X6.warmed.alike) p6.1 f6.1 f6.2.1 f6.2.2.1, f6.2.1.trans bv3, by rw [X6.warmed.alike.findClass, f6.1]; exact bf3, by rw [f6.2.2.1, bs3]; simp, fun j hj => by rw [f6.2.2.2 j, if_pos (by omega)]; rfl, kp3.put p6 (Nat.le_refl _)⟩, by rw [p6.2.2, bh3, hh0]; simp⟩, fun fs hl => c8.trans (X8.areturnOut hexec rfl hret rfl (hb hbytes d58) hl)⟩
end Cmp3
namespace CodL
def yN : MethodName := ⟨"java/lang/StringUTF16", "coderFromArrayLen", "([BI)B"⟩
abbrev yB : ByteArray := jdk_52_method_15_code
theorem d0 : decode yB 0 = .ok (.iload_n 1, 1) := by decide +kernel
theorem d1 : decode yB 1 = .ok (.aload_n 0, 1) := by decide +kernel
theorem d2 : decode yB 2 = .ok (.arraylength, 1) := by decide +kernel
theorem d3 : decode yB 3 = .ok (.isub, 1) := by decide +kernel
theorem d4 : decode yB 4 = .ok (.bipush 31, 2) := by decide +kernel
theorem d6 : decode yB 6 = .ok (.iushr, 1) := by decide +kernel
theorem d7 : decode yB 7 = .ok (.i2b, 1) := by decide +kernel
theorem d8 : decode yB 8 = .ok (.ireturn, 1) := by decide +kernel
def site : List Cond := []
def tab : Cond := tabOf yN yB 2 (some .byte) site
def P (d : Addr) (B : Cell) (args : Array Value) (s : State) : Prop := args = #[.ref d, .int (Int32.ofNat B.slots.size)] ∧ Arr .byte d B s
def E (r : Option Value) (s u : State) : Prop := XT.PureE (some (.int 0)) r s u
/-- an array as long as the number of chars: LATIN1 -/
theorem law (l : Launch) (d : Addr) (B : Cell) : Law l yN 2 2 0 0 yB 2 (some .byte) site (P d B) E [] 0 0 := by
  refine Law.of_walk (plainFor_of_name (by decide +kernel)) (by decide +kernel) (by decide +kernel) (by decide) (fun _ _ h => by rw [h.1]; rfl) (fun _ U U' hal hh h => ⟨h.1, h.2.mv hal hh⟩) (fun r U U' V V' h1 hal h2 h => XT.PureE.mv r U U' V V' h1 hal h2 h) ?_
  intro p e s m args below meth c s₁ X0 hexec hbytes hml hret hlk hnm hown hh0 W hP
  obtain ⟨rfl, hB⟩ := hP
  have hB0 := hB.mv X0.warmed.alike hh0
  have c1 : Steps p.tables e below (s₁.setTop (entryFrame m #[.ref d, .int (Int32.ofNat B.slots.size)] 2)) (s₁.setTop (mkF m 0 #[.val (.ref d), .val (.int (Int32.ofNat B.slots.size))] [])) := entry rfl
  have c2 : Steps p.tables e below (s₁.setTop (entryFrame m #[.ref d, .int (Int32.ofNat B.slots.size)] 2)) (s₁.setTop (mkF m 2 #[.val (.ref d), .val (.int (Int32.ofNat B.slots.size))] [.ref d, .int (Int32.ofNat B.slots.size)])) := c1.trans (by
    refine XS.iloadN X0.here hexec rfl (hb hbytes d0) rfl ?_
    refine XS.aloadN X0.here hexec rfl (hb hbytes d1) rfl rfl ?_
    exact Steps.refl _)
  have c3 : Steps p.tables e below (s₁.setTop (entryFrame m #[.ref d, .int (Int32.ofNat B.slots.size)] 2)) (s₁.setTop (mkF m 8 #[.val (.ref d), .val (.int (Int32.ofNat B.slots.size))] [.int (lo8 (ushr (Int32.ofNat B.slots.size - Int32.ofNat B.slots.size) 31))])) := c2.trans (by
    refine X0.alen hexec hB0 rfl rfl (hb hbytes d2) ?_
    refine XS.isub X0.here hexec rfl (hb hbytes d3) rfl ?_
    refine bipushV X0.here hexec rfl 31 (hb hbytes d4) (by decide) ?_
    refine iushr X0.here hexec rfl (hb hbytes d6) rfl ?_
    refine i2b X0.here hexec rfl (hb hbytes d7) rfl ?_
    exact Steps.refl _)
  have e0 : lo8 (ushr (Int32.ofNat B.slots.size - Int32.ofNat B.slots.size) 31) = 0 := by rw [Int32.sub_self]; decide
  rw [e0] at c3
  exact ⟨s₁, some (.int 0), _, _, _, X0, rfl, rfl, rfl, (fun h => by cases h), ⟨rfl, hh0⟩, fun fs hl => c3.trans (X0.ireturnOut hexec hret rfl (Or.inr (Or.inr (Or.inl rfl))) (hb hbytes d8) hl)⟩
end CodL
/-- the String at a is Latin-1 over a new byte[] (the heap's one new cell): the low bytes of the len chars of A from o on; every cell but a is kept -/
def Got (a : Addr) (D : Cell) (fV fC : Field) (A : Cell) (o len : Nat) (r : Option Value) (s u : State) : Prop := r = none ∧ ∃ D' V : Cell, Blank "java/lang/String" a D' u ∧ Same D D' [fV.slot, fC.slot] ∧ D'.slots[fV.slot]? = some (.ref s.heap.size) ∧ D'.slots[fC.slot]? = some (.int 0) ∧ Arr .byte s.heap.size V u ∧ V.vm = .none ∧ u.vm.findClass "[B" = some V.cls ∧ V.slots.size = len ∧ (∀ j, j < len → V.slots[j]? = some (.int (lo8 (cv A (o + j))))) ∧ (∀ (y : Addr) (c : Cell), y ≠ a → s.heap[y]? = some c → u.heap[y]? = some c) ∧ u.heap.size = s.heap.size + 1
theorem Got.mv {a : Addr} {D A : Cell} {fV fC : Field} {o len : Nat} : ∀ r (U U' V V' : State), U'.heap = U.heap → V.vm.Alike V'.vm → V'.heap = V.heap → Got a D fV fC A o len r U V → Got a D fV fC A o len r U' V' :=
  fun r U U' V V' h1 hal h2 ⟨e0, D', X, a1, a2, a3, a4, a5, a6, a7, a8, a9, a10, a11⟩ => ⟨e0, D', X, a1.mv hal h2, a2, by rw [h1]; exact a3, a4, by rw [h1]; exact a5.mv hal h2, a6, by rw [hal.findClass]; exact a7, a8, a9, by rw [h1, h2]; exact a10, by rw [h1, h2]; exact a11⟩
namespace New4
def yN : MethodName := ⟨"java/lang/String", "<init>", "([CIILjava/lang/Void;)V"⟩
abbrev yB : ByteArray := jdk_42_method_149_code
theorem d0 : decode yB 0 = .ok (.aload_n 0, 1) := by decide +kernel
theorem d1 : decode yB 1 = .ok (.invokespecial 1, 3) := by decide +kernel
theorem d4 : decode yB 4 = .ok (.iload_n 3, 1) := by decide +kernel
theorem d5 : decode yB 5 = .ok (.ifCond (.ne) 22, 3) := by decide +kernel
theorem d27 : decode yB 27 = .ok (.getstatic 38, 3) := by decide +kernel
theorem d30 : decode yB 30 = .ok (.ifCond (.eq) 28, 3) := by decide +kernel
theorem d33 : decode yB 33 = .ok (.aload_n 1, 1) := by decide +kernel
theorem d34 : decode yB 34 = .ok (.iload_n 2, 1) := by decide +kernel
theorem d35 : decode yB 35 = .ok (.iload_n 3, 1) := by decide +kernel
theorem d36 : decode yB 36 = .ok (.invokestatic 177, 3) := by decide +kernel
theorem d39 : decode yB 39 = .ok (.astore 5, 2) := by decide +kernel
theorem d41 : decode yB 41 = .ok (.aload_n 0, 1) := by decide +kernel
theorem d42 : decode yB 42 = .ok (.aload 5, 2) := by decide +kernel
theorem d44 : decode yB 44 = .ok (.iload_n 3, 1) := by decide +kernel
theorem d45 : decode yB 45 = .ok (.invokestatic 47, 3) := by decide +kernel
theorem d48 : decode yB 48 = .ok (.putfield 15, 3) := by decide +kernel
theorem d51 : decode yB 51 = .ok (.aload_n 0, 1) := by decide +kernel
theorem d52 : decode yB 52 = .ok (.aload 5, 2) := by decide +kernel
theorem d54 : decode yB 54 = .ok (.putfield 9, 3) := by decide +kernel
theorem d57 : decode yB 57 = .ok (.return_, 1) := by decide +kernel
def site : List Cond := [.fieldLink "java/lang/String" 38 "java/lang/String" "COMPACT_STRINGS" "Z", Cmp3.tab, CodL.tab, .laysFinal "java/lang/String" "java/lang/String" "value" "[B", .fieldLink "java/lang/String" 9 "java/lang/String" "value" "[B", .laysFinal "java/lang/String" "java/lang/String" "coder" "B", .fieldLink "java/lang/String" 15 "java/lang/String" "coder" "B"] ++ objW "java/lang/String" 1 ++ staticW "java/lang/String" 177 Cmp3.yN ++ staticW "java/lang/String" 47 CodL.yN
def tab : Cond := tabOf yN yB 6 none site
def P (a : Addr) (D : Cell) (fV fC : Field) (b : Addr) (A : Cell) (z : Int32) (o len : Nat) (args : Array Value) (s : State) : Prop := args = #[.ref a, .ref b, .int (Int32.ofNat o), .int (Int32.ofNat len), .null] ∧ Blank "java/lang/String" a D s ∧ Found "java/lang/String" "value" "[B" fV s ∧ Found "java/lang/String" "coder" "B" fC s ∧ Ch b A s ∧ StaticIs s "java/lang/String" "COMPACT_STRINGS" "Z" (.int z) ∧ ¬ z = 0 ∧ 0 < len ∧ o + len ≤ A.slots.size ∧ len ≤ 536870912 ∧ ∀ i, i < len → ¬ 255 < cv A (o + i)
def E (a : Addr) (D : Cell) (fV fC : Field) (A : Cell) (o len : Nat) (r : Option Value) (s u : State) : Prop := Got a D fV fC A o len r s u
/-- len > 0, no char of the range above 255: a Latin-1 String of their low bytes -/
theorem law (l : Launch) (a : Addr) (D : Cell) (fV fC : Field) (b : Addr) (A : Cell) (z : Int32) (o len : Nat) : Law l yN 5 4 2 35 yB 6 none site (P a D fV fC b A z o len) (E a D fV fC A o len) [⟨a, fC.slot⟩, ⟨a, fV.slot⟩] 1 len := by
  refine Law.of_walk (plainFor_of_name (by decide +kernel)) (by decide +kernel) (by decide +kernel) (by decide) (fun _ _ h => by rw [h.1]; rfl) (fun _ U U' hal hh h => ⟨h.1, h.2.1.mv hal hh, h.2.2.1.al hal, h.2.2.2.1.al hal, h.2.2.2.2.1.mv hal hh, h.2.2.2.2.2.1.there hal hh, h.2.2.2.2.2.2⟩) (fun r U U' V V' h1 hal h2 h => Got.mv r U U' V V' h1 hal h2 h) ?_
  intro p e s m args below meth c s₁ X0 hexec hbytes hml hret hlk hnm hown hh0 W hP
  obtain ⟨rfl, hB, f1, f2, hA, s1, hz, l0, l1, l2, hp⟩ := hP
  have a31 := hA.1.2.2.2
  have c1 : Steps p.tables e below (s₁.setTop (entryFrame m #[.ref a, .ref b, .int (Int32.ofNat o), .int (Int32.ofNat len), .null] 6)) (s₁.setTop (mkF m 0 #[.val (.ref a), .val (.ref b), .val (.int (Int32.ofNat o)), .val (.int (Int32.ofNat len)), .val .null, .unset] [])) := entry rfl
  have c2 : Steps p.tables e below (s₁.setTop (entryFrame m #[.ref a, .ref b, .int (Int32.ofNat o), .int (Int32.ofNat len), .null] 6)) (s₁.setTop (mkF m 1 #[.val (.ref a), .val (.ref b), .val (.int (Int32.ofNat o)), .val (.int (Int32.ofNat len)), .val .null, .unset] [.ref a])) := c1.trans (by
    refine XS.aloadN X0.here hexec rfl (hb hbytes d0) rfl rfl ?_
    exact Steps.refl _)
  obtain ⟨T3, X3, q3, st3⟩ := X0.oinit hexec hown (wks W (objW "java/lang/String" 1)) (g := (mkF m 1 #[.val (.ref a), .val (.ref b), .val (.int (Int32.ofNat o)), .val (.int (Int32.ofNat len)), .val .null, .unset] [.ref a])) rfl (by rw [hml]; rfl) (rest := []) rfl (hb hbytes d1) (W := 0) (by show 2 * 0 + 0 ≤ _; decide) (Nat.le_of_ble_eq_true rfl) (Nat.le_of_ble_eq_true rfl)
  have hh3 := q3.trans hh0
  have c4 : Steps p.tables e below (s₁.setTop (entryFrame m #[.ref a, .ref b, .int (Int32.ofNat o), .int (Int32.ofNat len), .null] 6)) (T3.setTop (mkF m 27 #[.val (.ref a), .val (.ref b), .val (.int (Int32.ofNat o)), .val (.int (Int32.ofNat len)), .val .null, .unset] [])) := (c2.trans (st3 _ (Steps.refl _))).trans (by
    refine XS.iloadN X3.here hexec rfl (hb hbytes d4) rfl ?_
    refine XS.ifYes X3.here hexec rfl (pc0 := 5) rfl (hb hbytes d5) rfl (i0_ne_t (nz32 (by omega) l0)) (by decide) rfl ?_
    exact Steps.refl _)
  obtain ⟨T5, X5, q5, st5⟩ := X3.sget hexec hown (wk W (.fieldLink "java/lang/String" 38 "java/lang/String" "COMPACT_STRINGS" "Z")) s1 (fun _ _ h => by rw [hh3]; exact h) (g := (mkF m 27 #[.val (.ref a), .val (.ref b), .val (.int (Int32.ofNat o)), .val (.int (Int32.ofNat len)), .val .null, .unset] [])) rfl (hb hbytes d27)
  have hh5 := q5.trans hh3
  have c6 : Steps p.tables e below (s₁.setTop (entryFrame m #[.ref a, .ref b, .int (Int32.ofNat o), .int (Int32.ofNat len), .null] 6)) (T5.setTop (mkF m 30 #[.val (.ref a), .val (.ref b), .val (.int (Int32.ofNat o)), .val (.int (Int32.ofNat len)), .val .null, .unset] [.int z])) := c4.trans (st5 _ (Steps.refl _))
  have c7 : Steps p.tables e below (s₁.setTop (entryFrame m #[.ref a, .ref b, .int (Int32.ofNat o), .int (Int32.ofNat len), .null] 6)) (T5.setTop (mkF m 36 #[.val (.ref a), .val (.ref b), .val (.int (Int32.ofNat o)), .val (.int (Int32.ofNat len)), .val .null, .unset] [.int (Int32.ofNat len), .int (Int32.ofNat o), .ref b])) := c6.trans (by
    refine XS.ifNo X5.here hexec rfl (hb hbytes d30) rfl (i0_eq_f hz) ?_
    refine XS.aloadN X5.here hexec rfl (hb hbytes d33) rfl rfl ?_
    refine XS.iloadN X5.here hexec rfl (hb hbytes d34) rfl ?_
    refine XS.iloadN X5.here hexec rfl (hb hbytes d35) rfl ?_
    exact Steps.refl _)
  obtain ⟨v8, T8, X8, E8, g8⟩ := X5.callS hexec (Cmp3.law l b A o len) hown (wks W (staticW "java/lang/String" 177 Cmp3.yN)) (wk W Cmp3.tab) (W := 0) (Nat.le_of_ble_eq_true rfl) (Nat.le_of_ble_eq_true rfl) (Nat.le_refl _) (by show 0 + len ≤ len; omega) (g := (mkF m 36 #[.val (.ref a), .val (.ref b), .val (.int (Int32.ofNat o)), .val (.int (Int32.ofNat len)), .val .null, .unset] [.int (Int32.ofNat len), .int (Int32.ofNat o), .ref b])) rfl (by rw [hml]; rfl) c7 (argsL := [.ref b, .int (Int32.ofNat o), .int (Int32.ofNat len)]) (rest := []) rfl rfl (by show 2 * 0 + 0 ≤ _; decide) (hb hbytes d36) (⟨rfl, hA.mv X5.warmed.alike hh5, l1, l2, hp⟩)
  obtain ⟨e8, z8⟩ := E8
  obtain ⟨rfl, N, n1, n2, n3, n4, n5, n6⟩ := NewArr.mv _ T5 s _ _ hh5.symm (Vm.Alike.refl _) rfl e8
  rw [hh5] at z8
  have hB1 := hB.keep X8.warmed.alike (n6 _ _ hB.1)
  have hne : s.heap.size ≠ a := (Nat.ne_of_lt (Array.getElem?_eq_some_iff.mp hB.1).1).symm
  have c9 : Steps p.tables e below (s₁.setTop (entryFrame m #[.ref a, .ref b, .int (Int32.ofNat o), .int (Int32.ofNat len), .null] 6)) (T8.setTop (mkF m 39 #[.val (.ref a), .val (.ref b), .val (.int (Int32.ofNat o)), .val (.int (Int32.ofNat len)), .val .null, .unset] [.ref s.heap.size])) := g8
  have c10 : Steps p.tables e below (s₁.setTop (entryFrame m #[.ref a, .ref b, .int (Int32.ofNat o), .int (Int32.ofNat len), .null] 6)) (T8.setTop (mkF m 45 #[.val (.ref a), .val (.ref b), .val (.int (Int32.ofNat o)), .val (.int (Int32.ofNat len)), .val .null, .val (.ref s.heap.size)] [.int (Int32.ofNat N.slots.size), .ref s.heap.size, .ref a])) := by
    have hc : Steps p.tables e below (s₁.setTop (entryFrame m #[.ref a, .ref b, .int (Int32.ofNat o), .int (Int32.ofNat len), .null] 6)) (T8.setTop (mkF m 45 #[.val (.ref a), .val (.ref b), .val (.int (Int32.ofNat o)), .val (.int (Int32.ofNat len)), .val .null, .val (.ref s.heap.size)] [.int (Int32.ofNat len), .ref s.heap.size, .ref a])) := c9.trans (by
      refine XS.astore X8.here hexec rfl (hb hbytes d39) rfl rfl rfl ?_
      refine XS.aloadN X8.here hexec rfl (hb hbytes d41) rfl rfl ?_
      refine XS.aload X8.here hexec rfl (hb hbytes d42) rfl rfl ?_
      refine XS.iloadN X8.here hexec rfl (hb hbytes d44) rfl ?_
      exact Steps.refl _)
    rw [n4]; exact hc
  obtain ⟨v11, T11, X11, E11, g11⟩ := X8.callS hexec (CodL.law l s.heap.size N) hown (wks W (staticW "java/lang/String" 47 CodL.yN)) (wk W CodL.tab) (W := 1) (Nat.le_of_ble_eq_true rfl) (Nat.le_of_ble_eq_true rfl) (Nat.le_refl _) (by show 0 + len + 0 ≤ len; omega) (g := (mkF m 45 #[.val (.ref a), .val (.ref b), .val (.int (Int32.ofNat o)), .val (.int (Int32.ofNat len)), .val .null, .val (.ref s.heap.size)] [.int (Int32.ofNat N.slots.size), .ref s.heap.size, .ref a])) rfl (by rw [hml]; rfl) c10 (argsL := [.ref s.heap.size, .int (Int32.ofNat N.slots.size)]) (rest := [.ref a]) rfl rfl (by show 2 * 0 + (1 + 0) ≤ _; decide) (hb hbytes d45) (⟨rfl, n1⟩)
  obtain ⟨rfl, q11⟩ := E11
  have hB11 := hB1.mv (X8.warmed.alike.symm.trans X11.warmed.alike) q11
  have c12 : Steps p.tables e below (s₁.setTop (entryFrame m #[.ref a, .ref b, .int (Int32.ofNat o), .int (Int32.ofNat len), .null] 6)) (T11.setTop (mkF m 48 #[.val (.ref a), .val (.ref b), .val (.int (Int32.ofNat o)), .val (.int (Int32.ofNat len)), .val .null, .val (.ref s.heap.size)] [.int 0, .ref a])) := g11
  obtain ⟨T13, X13, p13, bl13, sl13, st13⟩ := X11.finit hexec hown (wk W (.fieldLink "java/lang/String" 15 "java/lang/String" "coder" "B")) (Or.inr ⟨_, (wk W (.laysFinal "java/lang/String" "java/lang/String" "coder" "B"))⟩) (Or.inl ⟨rfl, hnm⟩) f2 (Or.inl rfl) hB11 (t := .byte) (by decide +kernel) rfl (g := (mkF m 48 #[.val (.ref a), .val (.ref b), .val (.int (Int32.ofNat o)), .val (.int (Int32.ofNat len)), .val .null, .val (.ref s.heap.size)] [.int 0, .ref a])) rfl (rest := []) rfl (hb hbytes d48)
  have c14 : Steps p.tables e below (s₁.setTop (entryFrame m #[.ref a, .ref b, .int (Int32.ofNat o), .int (Int32.ofNat len), .null] 6)) (T13.setTop (mkF m 54 #[.val (.ref a), .val (.ref b), .val (.int (Int32.ofNat o)), .val (.int (Int32.ofNat len)), .val .null, .val (.ref s.heap.size)] [.ref s.heap.size, .ref a])) := (c12.trans (st13 _ (Steps.refl _))).trans (by
    refine XS.aloadN X13.here hexec rfl (hb hbytes d51) rfl rfl ?_
    refine XS.aload X13.here hexec rfl (hb hbytes d52) rfl rfl ?_
    exact Steps.refl _)
  obtain ⟨T15, X15, p15, bl15, sl15, st15⟩ := X13.finit hexec hown (wk W (.fieldLink "java/lang/String" 9 "java/lang/String" "value" "[B")) (Or.inr ⟨_, (wk W (.laysFinal "java/lang/String" "java/lang/String" "value" "[B"))⟩) (Or.inl ⟨rfl, hnm⟩) f1 (Or.inl rfl) bl13 (t := (.array .byte)) (by decide +kernel) rfl (g := (mkF m 54 #[.val (.ref a), .val (.ref b), .val (.int (Int32.ofNat o)), .val (.int (Int32.ofNat len)), .val .null, .val (.ref s.heap.size)] [.ref s.heap.size, .ref a])) rfl (rest := []) rfl (hb hbytes d54)
  have c16 : Steps p.tables e below (s₁.setTop (entryFrame m #[.ref a, .ref b, .int (Int32.ofNat o), .int (Int32.ofNat len), .null] 6)) (T15.setTop (mkF m 57 #[.val (.ref a), .val (.ref b), .val (.int (Int32.ofNat o)), .val (.int (Int32.ofNat len)), .val .null, .val (.ref s.heap.size)] [])) := c14.trans (st15 _ (Steps.refl _))
  have ap := apart (Or.inr ⟨_, (wk W (.laysFinal "java/lang/String" "java/lang/String" "value" "[B"))⟩) (Or.inr ⟨_, (wk W (.laysFinal "java/lang/String" "java/lang/String" "coder" "B"))⟩) f1 f2 (t₁ := .array .byte) (t₂ := .byte) (by decide +kernel) (by decide +kernel) (by decide)
  have al := X8.warmed.alike.symm.trans X15.warmed.alike
  have n7 : T11.heap[s.heap.size]? = some N := by rw [q11]; exact n1.1
  exact ⟨T15, none, _, _, _, X15, by simp, rfl, by omega, (fun _ => rfl), ⟨rfl, _, N, bl15, ((Same.refl D _).set _ (by simp)).set _ (by simp), sl15, (Cell.slots_setSlot_ne _ ap).trans sl13, n1.keep al (p15.other hne (p13.other hne n7)), n2, by rw [al.findClass]; exact n3, n4, n5, fun y c h1 h2 => p15.other h1 (p13.other h1 (by rw [q11]; exact n6 y c h2)), by rw [p15.2.2, p13.2.2, q11]; exact z8⟩, fun fs hl => c16.trans (X15.returnOut hexec hret (hb hbytes d57) hl)⟩
end New4
namespace New1
def yN : MethodName := ⟨"java/lang/String", "<init>", "([C)V"⟩
abbrev yB : ByteArray := jdk_42_method_3_code
theorem d0 : decode yB 0 = .ok (.aload_n 0, 1) := by decide +kernel
theorem d1 : decode yB 1 = .ok (.aload_n 1, 1) := by decide +kernel
theorem d2 : decode yB 2 = .ok (.iconst 0, 1) := by decide +kernel
theorem d3 : decode yB 3 = .ok (.aload_n 1, 1) := by decide +kernel
theorem d4 : decode yB 4 = .ok (.arraylength, 1) := by decide +kernel
theorem d5 : decode yB 5 = .ok (.aconst_null, 1) := by decide +kernel
theorem d6 : decode yB 6 = .ok (.invokespecial 27, 3) := by decide +kernel
theorem d9 : decode yB 9 = .ok (.return_, 1) := by decide +kernel
def site : List Cond := [New4.tab] ++ initW "java/lang/String" 27 New4.yN
def tab : Cond := tabOf yN yB 2 none site
def P (a : Addr) (D : Cell) (fV fC : Field) (b : Addr) (A : Cell) (z : Int32) (args : Array Value) (s : State) : Prop := args = #[.ref a, .ref b] ∧ Blank "java/lang/String" a D s ∧ Found "java/lang/String" "value" "[B" fV s ∧ Found "java/lang/String" "coder" "B" fC s ∧ Ch b A s ∧ StaticIs s "java/lang/String" "COMPACT_STRINGS" "Z" (.int z) ∧ ¬ z = 0 ∧ 0 < A.slots.size ∧ A.slots.size ≤ 536870912 ∧ ∀ i, i < A.slots.size → ¬ 255 < cv A i
def E (a : Addr) (D : Cell) (fV fC : Field) (A : Cell) (r : Option Value) (s u : State) : Prop := Got a D fV fC A 0 A.slots.size r s u
/-- new String(chars), not empty, no char above 255: a Latin-1 String of their low bytes -/
theorem law (l : Launch) (a : Addr) (D : Cell) (fV fC : Field) (b : Addr) (A : Cell) (z : Int32) : Law l yN 2 1 3 52 yB 2 none site (P a D fV fC b A z) (E a D fV fC A) [⟨a, fC.slot⟩, ⟨a, fV.slot⟩] 1 A.slots.size := by
  refine Law.of_walk (plainFor_of_name (by decide +kernel)) (by decide +kernel) (by decide +kernel) (by decide) (fun _ _ h => by rw [h.1]; rfl) (fun _ U U' hal hh h => ⟨h.1, h.2.1.mv hal hh, h.2.2.1.al hal, h.2.2.2.1.al hal, h.2.2.2.2.1.mv hal hh, h.2.2.2.2.2.1.there hal hh, h.2.2.2.2.2.2⟩) (fun r U U' V V' h1 hal h2 h => Got.mv r U U' V V' h1 hal h2 h) ?_
  intro p e s m args below meth c s₁ X0 hexec hbytes hml hret hlk hnm hown hh0 W hP
  obtain ⟨rfl, hB, f1, f2, hA, s1, hz, l0, l2, hp⟩ := hP
  have c1 : Steps p.tables e below (s₁.setTop (entryFrame m #[.ref a, .ref b] 2)) (s₁.setTop (mkF m 0 #[.val (.ref a), .val (.ref b)] [])) := entry rfl
  have c2 : Steps p.tables e below (s₁.setTop (entryFrame m #[.ref a, .ref b] 2)) (s₁.setTop (mkF m 6 #[.val (.ref a), .val (.ref b)] [.null, .int (Int32.ofNat A.slots.size), .int 0, .ref b, .ref a])) := c1.trans (by
    refine XS.aloadN X0.here hexec rfl (hb hbytes d0) rfl rfl ?_
    refine XS.aloadN X0.here hexec rfl (hb hbytes d1) rfl rfl ?_
    refine iconstV X0.here hexec rfl 0 (hb hbytes d2) (by decide) ?_
    refine XS.aloadN X0.here hexec rfl (hb hbytes d3) rfl rfl ?_
    refine X0.alen hexec (hA.1.mv X0.warmed.alike hh0) rfl rfl (hb hbytes d4) ?_
    refine XS.aconstNull X0.here hexec rfl (hb hbytes d5) ?_
    exact Steps.refl _)
  obtain ⟨v3, T3, X3, E3, g3⟩ := X0.callN hexec (New4.law l a D fV fC b A z 0 A.slots.size) rfl hown (wks W (initW "java/lang/String" 27 New4.yN)) (W New4.tab (by simp only [site, List.mem_cons, List.mem_append, true_or, or_true])) (W := 0) (Nat.le_of_ble_eq_true rfl) (Nat.le_of_ble_eq_true rfl) (Nat.le_refl _) (by show 0 + A.slots.size ≤ A.slots.size; omega) (g := (mkF m 6 #[.val (.ref a), .val (.ref b)] [.null, .int (Int32.ofNat A.slots.size), .int (Int32.ofNat 0), .ref b, .ref a])) rfl (by rw [hml]; rfl) c2 (argsL := [.ref b, .int (Int32.ofNat 0), .int (Int32.ofNat A.slots.size), .null]) (rest := []) rfl rfl (by show 2 * 0 + 0 ≤ _; decide) (hb hbytes d6) (⟨rfl, hB.mv X0.warmed.alike hh0, f1.al X0.warmed.alike, f2.al X0.warmed.alike, hA.mv X0.warmed.alike hh0, s1.there X0.warmed.alike hh0, hz, l0, by omega, l2, fun i hi => by rw [Nat.zero_add]; exact hp i hi⟩)
  have e0 := Got.mv _ s₁ s _ _ hh0.symm (Vm.Alike.refl _) rfl E3
  obtain rfl := e0.1
  have c4 : Steps p.tables e below (s₁.setTop (entryFrame m #[.ref a, .ref b] 2)) (T3.setTop (mkF m 9 #[.val (.ref a), .val (.ref b)] [])) := g3
  exact ⟨T3, none, _, _, _, X3, by simp, rfl, by omega, (fun _ => rfl), e0, fun fs hl => c4.trans (X3.returnOut hexec hret (hb hbytes d9) hl)⟩
theorem pays {l : Launch} {R : Room} {p : Program} {e : Env} {below : List Frame} {s : State} {sargs : Array Value} {len W : Nat} (a : Addr) (D : Cell) (fV fC : Field) (b : Addr) (A : Cell) (z : Int32) (htab : tab.before sargs s = true) (hfr : 4 ≤ R.frames) (hlo : W + 65 ≤ R.locals) :
    Back l R p e below s sargs yN len W (fun A₁ a₁ => A₁.cells + 1 ≤ R.cells ∧ A₁.slots + A.slots.size ≤ R.slots ∧ P a D fV fC b A z a₁ A₁.U) (fun A₁ _ v₁ B₁ => E a D fV fC A v₁ A₁.U B₁.U ∧ B₁.locs = A₁.locs ++ [⟨a, fC.slot⟩, ⟨a, fV.slot⟩] ∧ B₁.cells = A₁.cells + 1 ∧ B₁.slots = A₁.slots + A.slots.size) :=
  (law l a D fV fC b A z).pays htab hfr (by omega)
end New1
/-- the byte, read back as charAt reads it, is the char -/
theorem lo8_mask {x : Int32} (h0 : ¬ x < 0) (h1 : ¬ 255 < x) : lo8 x &&& 255 = x := by
  have t : ∀ k : Fin 256, lo8 (Int32.ofNat k.val) &&& 255 = Int32.ofNat k.val := by decide +kernel
  rw [Int32.lt_iff_toInt_lt] at h0 h1
  have e0 : (0 : Int32).toInt = 0 := rfl
  have e1 : (255 : Int32).toInt = 255 := rfl
  obtain ⟨k, hk⟩ : ∃ k : Nat, x.toInt = k := ⟨x.toInt.toNat, by omega⟩
  have hx : x = Int32.ofNat k := Int32.toInt_inj.mp (by rw [hk, Int32.toInt_ofNat_small (by omega)])
  rw [hx]
  exact t ⟨k, by omega⟩
end StrChars
namespace StrChars.Road
open Jvm Sem ClassFile Op Lib Jvm.Stand Jvm.Free Jvm.Free.XT
open Jvm.Lib.Cold (StaticIs)
abbrev ST : String := "java/lang/String"
/-- every table word that New1's law asks, flat -/
abbrev words : List Jvm.Cond := [.code New1.yN New1.yB 2 none, .initialized ST, .methodLink ST 27 New4.yN, .instanceMethod New4.yN,
  .code New4.yN New4.yB 6 none, .fieldLink ST 38 ST "COMPACT_STRINGS" "Z", .laysFinal ST ST "value" "[B", .fieldLink ST 9 ST "value" "[B", .laysFinal ST ST "coder" "B", .fieldLink ST 15 ST "coder" "B",
  .methodLink ST 1 Lib.objectInit, .instanceMethod Lib.objectInit, .code Lib.objectInit ⟨#[0xb1]⟩ 1 none, .methodLink ST 177 Cmp3.yN, .static Cmp3.yN, .methodLink ST 47 CodL.yN, .static CodL.yN,
  .code Cmp3.yN Cmp3.yB 6 (some (.array .byte)), .initialized U16, .arrayClass .byte, .methodLink U16 115 Cmp5.yN, .static Cmp5.yN, .code Cmp5.yN Cmp5.yB 7 (some .int), .code CodL.yN CodL.yB 2 (some .byte)]
theorem tab_of {a : Array Value} {s : State} (h : ∀ w ∈ words, w.before a s = true) : New1.tab.before a s = true := by
  have h5 : Cmp5.tab.before a s = true := unparts (wk h (.code Cmp5.yN Cmp5.yB 7 (some .int))) (wks h (.initialized Cmp5.yN.cls :: Cmp5.site))
  have hc : CodL.tab.before a s = true := unparts (wk h (.code CodL.yN CodL.yB 2 (some .byte))) (wks h (.initialized CodL.yN.cls :: CodL.site))
  have q5 : ∀ w ∈ Cmp5.tab :: words, w.before a s = true := fun w hw => (List.mem_cons.mp hw).elim (fun e => e ▸ h5) (h w)
  have h3 : Cmp3.tab.before a s = true := unparts (wk q5 (.code Cmp3.yN Cmp3.yB 6 (some (.array .byte)))) (wks q5 (.initialized Cmp3.yN.cls :: Cmp3.site))
  have q3 : ∀ w ∈ Cmp3.tab :: CodL.tab :: words, w.before a s = true := fun w hw => (List.mem_cons.mp hw).elim (fun e => e ▸ h3) fun hw => (List.mem_cons.mp hw).elim (fun e => e ▸ hc) (h w)
  have h4 : New4.tab.before a s = true := unparts (wk q3 (.code New4.yN New4.yB 6 none)) (wks q3 (.initialized New4.yN.cls :: New4.site))
  have q4 : ∀ w ∈ New4.tab :: words, w.before a s = true := fun w hw => (List.mem_cons.mp hw).elim (fun e => e ▸ h4) (h w)
  exact unparts (wk q4 (.code New1.yN New1.yB 2 none)) (wks q4 (.initialized New1.yN.cls :: New1.site))
/-- the words ride from the start Z to the walk's own state -/
theorem moved {Z s : State} {a0 args : Array Value} (hZ : Z.Warmed39 s.vm) (hw : ∀ d ∈ words, d.before a0 Z = true) : ∀ d ∈ words, d.before args s = true := fun d hd => by
  have q := hw d hd
  have t : ∀ d ∈ words, d = .arrayClass .byte ∨ (d.onTables && d.keepsFace) = true := by decide +kernel
  rcases t d hd with rfl | t
  · exact RoadKit.mvA hZ q
  · exact RoadKit.mv hZ q t
/-- WHAT COMES BACK, over the tables of the start Z: h the heap at the call, h' behind it -/
def Q (Z : State) (x : Addr) (A : Cell) (h : Heap) (v : Option Value) (h' : Heap) (L : List Loc) : Prop := v = none ∧ (∀ y ∈ L, y.base = x) ∧ RoadKit.Keep h h' [x] ∧ h'.size = h.size + 1 ∧ RoadKit.Exa Z h' x ST ∧ RoadKit.Fld Z h' x ST "value" "[B" (.ref h.size) ∧ RoadKit.Fld Z h' x ST "coder" "B" (.int 0) ∧
  (∃ V : Cell, RoadKit.Arr Z h' h.size V .byte ∧ V.vm = .none ∧ Z.vm.findClass "[B" = some V.cls ∧ V.slots.size = A.slots.size ∧ ∀ j, j < A.slots.size → V.slots[j]? = some (.int (lo8 (cv A j)))) ∧
  ∀ (O n d : String) (w : Value), RoadKit.Fld Z h x O n d w → RoadKit.slotOf Z O n d ≠ RoadKit.slotOf Z ST "value" "[B" → RoadKit.slotOf Z O n d ≠ RoadKit.slotOf Z ST "coder" "B" → RoadKit.Fld Z h' x O n d w
/-- **new String(chars) AT A CALL, IN THE ROAD'S FORM**: for specialBack behind newO: x the fresh String, b the char[] with the cell A -/
theorem back {p : Program} {l : Launch} {e : Env} {R : Room} {s : State} {args : Array Value} {below : List Frame} {len W : Nat} {Z : State} {a0 : Array Value} {h : Heap} (hZ : Z.Warmed39 s.vm) (hw : ∀ d ∈ words, d.before a0 Z = true) {kI : Nat} (wi : (Jvm.Cond.instantiable ST kI).before a0 Z = true)
    {x b : Addr} {A : Cell} {z : Int32} {v0 c0 : Value} (E : RoadKit.Exa Z h x ST) (V : RoadKit.Fld Z h x ST "value" "[B" v0) (C : RoadKit.Fld Z h x ST "coder" "B" c0) (K : RoadKit.Arr Z h b A .char) (hty : Typed .char A) (S : RoadKit.Sta Z h ST "COMPACT_STRINGS" "Z" (.int z)) (hz : ¬ z = 0)
    (l0 : 0 < A.slots.size) (l2 : A.slots.size ≤ 536870912) (hp : ∀ i, i < A.slots.size → ¬ 255 < cv A i) (hfr : 4 ≤ R.frames) (hlo : W + 65 ≤ R.locals) :
    Back l R p e below s args New1.yN len W (fun P a => a = #[.ref x, .ref b] ∧ P.U.heap = h ∧ P.cells + 1 ≤ R.cells ∧ P.slots + A.slots.size ≤ R.slots)
      (fun P _ v B => ∃ L, Q Z x A h v B.U.heap L ∧ B.locs = P.locs ++ L ∧ B.cells = P.cells + 1 ∧ B.slots = P.slots + A.slots.size) := by
  intro m meth c P g ig mk a X hg hsize hdg hW hn hp'
  obtain ⟨rfl, rfl, r1, r2⟩ := hp'
  have al : Z.vm.Alike P.U.vm := hZ.alike.trans X.warmed.alike
  obtain ⟨D, cfV, kV, iV, fV, hD, gV, stV, knV, obV, asV, slV⟩ := id V
  obtain ⟨D', cfC, kC, iC, fC, hD', gC, stC, -, -, asC, slC⟩ := id C
  cases hD.symm.trans hD'
  obtain ⟨D2, kD, e1, e2, e3, e4, e5⟩ := id E
  cases hD.symm.trans e1
  obtain ⟨c2, k2, i1, i2, i3, -⟩ := Cond.instantiable_spec wi
  cases e2.symm.trans i1
  cases e3.symm.trans i2
  obtain ⟨kU, u1, u2⟩ := al.2.2 _ _ e3
  have hB : Blank ST x D P.U := ⟨hD, ⟨knV, fun q hq => by rw [hq] at obV; cases obV⟩, by rw [al.findClass]; exact e2, kU, u1, by rw [u2]; exact i3, by rw [u2]; exact e5 i3⟩
  have F1 : Found ST "value" "[B" fV P.U := ⟨SBG.found_only al ⟨cfV, kV, iV, gV⟩, stV⟩
  have F2 : Found ST "coder" "B" fC P.U := ⟨SBG.found_only al ⟨cfC, kC, iC, gC⟩, stC⟩
  have hA : Ch b A P.U := ⟨⟨K.1, State.isArrayOf_alike al K.2.1, K.2.2, by omega⟩, hty⟩
  have hS : StaticIs P.U ST "COMPACT_STRINGS" "Z" (.int z) := by
    obtain ⟨cfS, iS, kS, fS, st, cS, t1, t2, t3, t4, t5, t6, t7⟩ := S
    exact StaticIs.there (s := { Z with heap := P.U.heap }) ⟨cfS, iS, kS, fS, st, cS, t1, t2, t3, t4, t5, (fun q => by rw [q] at t6; cases t6), t7⟩ al rfl
  obtain ⟨v, B, X', ⟨⟨hv, E', V', q1, q2, q3, q4, q5, q6, q7, q8, q9, q10, q11⟩, hl, hc, hs⟩, st⟩ := New1.pays x D fV fC b A z (tab_of (moved hZ hw)) hfr hlo m meth c P g ig mk _ X hg hsize hdg hW hn ⟨r1, r2, rfl, hB, F1, F2, hA, hS, hz, l0, l2, hp⟩
  have al' : Z.vm.Alike B.U.vm := hZ.alike.trans X'.warmed.alike
  have hsz : E'.slots.size = D.slots.size := by
    obtain ⟨-, -, -, kB, w1, w2, w3⟩ := q1
    obtain ⟨kB', y1, y2⟩ := al'.2.2 _ _ e3
    rw [q2.2.1] at w1
    cases w1.symm.trans y1
    rw [w3, e5 i3, y2]
  refine ⟨v, B, X', ⟨_, ⟨hv, ?_, ⟨by omega, fun y cy hy hn' => q10 y cy (by simpa using hn') hy, fun y cy hy => ?_⟩, q11, ⟨E', _, q1.1, by rw [q2.2.1]; exact e2, by rw [q2.2.1]; exact e3, by rw [q2.1]; exact obV, fun _ => by rw [hsz]; exact e5 i3⟩,
    ⟨E', cfV, kV, iV, fV, q1.1, gV, stV, by rw [q2.1]; exact knV, by rw [q2.1]; exact obV, by rw [q2.2.1]; exact asV, q3⟩, ⟨E', cfC, kC, iC, fC, q1.1, gC, stC, by rw [q2.1]; exact knV, by rw [q2.1]; exact obV, by rw [q2.2.1]; exact asC, q4⟩,
    ⟨V', ⟨q5.1, State.isArrayOf_alike al'.symm q5.2.1, q5.2.2.1⟩, q6, by rw [← al'.findClass]; exact q7, q8, fun j hj => by have := q9 j hj; rwa [Nat.zero_add] at this⟩, fun O n d w F n1 n2 => ?_⟩, hl, hc, hs⟩, st⟩
  · intro y hy
    simp only [List.mem_cons, List.not_mem_nil, or_false] at hy
    rcases hy with rfl | rfl <;> rfl
  · by_cases q : y = x
    · subst q
      cases hD.symm.trans hy
      exact ⟨E', q1.1, q2.2.1, q2.1, hsz⟩
    · exact ⟨cy, q10 y cy q hy, rfl, rfl, rfl⟩
  · obtain ⟨D3, cf, k, i, f, g1, g2, g3, g4, g5, g6, g7⟩ := F
    cases hD.symm.trans g1
    simp only [RoadKit.slotOf, g2, gV, gC, Option.map_some, Option.getD_some] at n1 n2
    exact ⟨E', cf, k, i, f, q1.1, g2, g3, by rw [q2.1]; exact g4, by rw [q2.1]; exact g5, by rw [q2.2.1]; exact g6, by rw [q2.2.2 f.slot (by simp [n1, n2])]; exact g7⟩
end StrChars.Road
namespace StrChars.Road
open Jvm Sem ClassFile Op Lib Jvm.Stand Jvm.Free Jvm.Free.XT
/-- WHAT COMES BACK, the byte[] as a list of values -/
def QA (Z : State) (x : Addr) (zn : Int32) (cs : List Int32) (h : Heap) (v : Option Value) (h' : Heap) (L : List Loc) : Prop := v = none ∧ (∀ y ∈ L, y.base = x) ∧ RoadKit.Keep h h' [x] ∧ h'.size = h.size + 1 ∧ RoadKit.Exa Z h' x ST ∧ RoadKit.Fld Z h' x ST "value" "[B" (.ref h.size) ∧ RoadKit.Fld Z h' x ST "coder" "B" (.int 0) ∧
  (∃ kb, Z.vm.findClass "[B" = some kb ∧ RoadKit.Arv Z h' h.size kb .byte zn (cs.map fun c => .int (lo8 c)) (.int 0)) ∧
  ∀ (O n d : String) (w : Value), RoadKit.Fld Z h x O n d w → RoadKit.slotOf Z O n d ≠ RoadKit.slotOf Z ST "value" "[B" → RoadKit.slotOf Z O n d ≠ RoadKit.slotOf Z ST "coder" "B" → RoadKit.Fld Z h' x O n d w
/-- **new String(chars) AT A CALL, THE ARRAYS AS LISTS**: the char[] at b holds cs, not empty, no char above 255 -/
theorem backArv {p : Program} {l : Launch} {e : Env} {R : Room} {s : State} {args : Array Value} {below : List Frame} {len W : Nat} {Z : State} {a0 : Array Value} {h : Heap} (hZ : Z.Warmed39 s.vm) (hw : ∀ d ∈ words, d.before a0 Z = true) {kI : Nat} (wi : (Jvm.Cond.instantiable ST kI).before a0 Z = true)
    {x b : Addr} {k : ClassId} {zn z : Int32} {cs : List Int32} {dv v0 c0 : Value} (E : RoadKit.Exa Z h x ST) (V : RoadKit.Fld Z h x ST "value" "[B" v0) (C : RoadKit.Fld Z h x ST "coder" "B" c0) (K : RoadKit.Arv Z h b k .char zn (cs.map Value.int) dv) (S : RoadKit.Sta Z h ST "COMPACT_STRINGS" "Z" (.int z)) (hz : ¬ z = 0)
    (hlen : zn.toNatClampNeg = cs.length) (h0 : 0 < cs.length) (hbig : cs.length ≤ 536870912) (hall : ∀ c ∈ cs, ¬ 255 < c) (hfr : 4 ≤ R.frames) (hlo : W + 65 ≤ R.locals) :
    Back l R p e below s args New1.yN len W (fun P a => a = #[.ref x, .ref b] ∧ P.U.heap = h ∧ P.cells + 1 ≤ R.cells ∧ P.slots + cs.length ≤ R.slots)
      (fun P _ v B => ∃ L, QA Z x zn cs h v B.U.heap L ∧ B.locs = P.locs ++ L ∧ B.cells = P.cells + 1 ∧ B.slots = P.slots + cs.length) := by
  obtain ⟨A, K1, K2, K3, K4, K5, K6⟩ := K
  have e : A.slots.size = cs.length := K3.trans hlen
  have hat : ∀ (i : Nat) (hi : i < cs.length), A.slots[i]? = some (.int cs[i]) := fun i hi => by rw [K5 i (by omega)]; simp [List.getD_eq_getElem?_getD, hi]
  have hcv : ∀ (i : Nat) (hi : i < cs.length), cv A i = cs[i] := fun i hi => by unfold cv; rw [hat i hi]
  have hty : Typed .char A := fun i v hv => by
    have hi : i < A.slots.size := (Array.getElem?_eq_some_iff.mp hv).1
    have q := K5 i hi
    rw [hv] at q
    rw [Option.some.inj q]
    exact K6 i hi
  refine Back.mono (back hZ hw wi E V C K1 hty S hz (by omega) (by omega) (fun i hi => by rw [hcv i (by omega)]; exact hall _ (List.getElem_mem _)) hfr hlo) (fun P a hp => ⟨hp.1, hp.2.1, hp.2.2.1, by rw [e]; exact hp.2.2.2⟩) (fun P a v B hp hq => ?_)
  obtain ⟨L, ⟨q1, q2, q3, q4, q5, q6, q7, ⟨V', v1, v2, v3, v4, v5⟩, q9⟩, hl, hc, hs⟩ := hq
  refine ⟨L, ⟨q1, q2, q3, q4, q5, q6, q7, ⟨V'.cls, v3, V', v1, rfl, by rw [v4, e, hlen], K4, fun i hi => ?_, fun i hi => ?_⟩, q9⟩, hl, hc, by rw [hs, e]⟩
  · have hi' : i < cs.length := by omega
    rw [v5 i (by omega), hcv i hi']; simp [List.getD_eq_getElem?_getD, hi']
  · have hi' : i < cs.length := by omega
    simp only [List.getD_eq_getElem?_getD, List.getElem?_map, List.getElem?_eq_getElem hi', Option.map_some, Option.getD_some]
    exact fits_lo8 _
end StrChars.Road
namespace StrChars.Road
open Jvm Sem ClassFile Op Lib Jvm.Stand Jvm.Free Jvm.Free.XT
/-- WHAT COMES BACK, in the writer's own shape -/
def QV (Z : State) (x : Addr) (N : Int32) (bs : List Int32) (h : Heap) (n0 : Nat) (v : Option Value) (h' : Heap) (L : List Loc) : Prop := v = none ∧ RoadKit.Fr n0 L ∧ RoadKit.Keep h h' [x] ∧ RoadKit.Exa Z h' x ST ∧ RoadKit.Fld Z h' x ST "coder" "B" (.int 0) ∧
  ∃ (t : Addr) (kb : ClassId), n0 ≤ t ∧ h.size ≤ t ∧ ¬ t = x ∧ RoadKit.Fld Z h' x ST "value" "[B" (.ref t) ∧ RoadKit.Arv Z h' t kb .byte N (bs.map Value.int) (.int 0)
/-- **new String(chars) AT A CALL, FOR THE WRITER**: a char[] of n known ints, each 0 to 255 -/
theorem backV {p : Program} {l : Launch} {e : Env} {R : Room} {s : State} {args : Array Value} {below : List Frame} {len W : Nat} {Z : State} {a0 : Array Value} {h : Heap} (hZ : Z.Warmed39 s.vm) (hw : ∀ d ∈ words, d.before a0 Z = true) {kI : Nat} (wi : (Jvm.Cond.instantiable ST kI).before a0 Z = true)
    {x b : Addr} {kC : ClassId} {cs bs : List Int32} {d v0 c0 : Value} {z N : Int32} {n n0 : Nat} (hx0 : n0 ≤ x) (hh0 : n0 ≤ h.size) (E : RoadKit.Exa Z h x ST) (V : RoadKit.Fld Z h x ST "value" "[B" v0) (C : RoadKit.Fld Z h x ST "coder" "B" c0) (K : RoadKit.Arv Z h b kC .char N (cs.map Value.int) d) (S : RoadKit.Sta Z h ST "COMPACT_STRINGS" "Z" (.int z)) (hz : ¬ z = 0)
    (hn : cs.length = n) (hN : N = Int32.ofNat n) (l0 : 0 < n) (l2 : n ≤ 4000) (hp : ∀ c ∈ cs, ¬ c < 0 ∧ ¬ (255 : Int32) < c) (hb : bs = cs.map (fun c => c.toInt8.toInt32)) (hfr : 4 ≤ R.frames) (hlo : W + 65 ≤ R.locals) :
    Back l R p e below s args (⟨"java/lang/String", "<init>", "([C)V"⟩ : MethodName) len W (fun P a => a = #[.ref x, .ref b] ∧ P.U.heap = h ∧ P.cells + 1 ≤ R.cells ∧ P.slots + n ≤ R.slots)
      (fun P _ v B => ∃ L, QV Z x N bs h n0 v B.U.heap L ∧ B.locs = P.locs ++ L ∧ B.cells = P.cells + 1 ∧ B.slots = P.slots + n) := by
  subst hn hN hb
  refine Back.mono (backArv hZ hw wi E V C K S hz (n32 (by omega)) l0 (by omega) (fun c hc => (hp c hc).2) hfr hlo) (fun P a hp => hp) (fun P a v B hp hq => ?_)
  obtain ⟨L, ⟨q1, q2, q3, q4, q5, q6, q7, ⟨kb, v1, v2⟩, q9⟩, hl, hc, hs⟩ := hq
  exact ⟨L, ⟨q1, fun y hy => by rw [q2 y hy]; exact hx0, q3, q5, q7, h.size, kb, hh0, Nat.le_refl _, Nat.ne_of_gt E.lt, q6, by rw [List.map_map]; exact v2⟩, hl, hc, hs⟩
end StrChars.Road
namespace StrChars
open Jvm Sem ClassFile Op Lib Jvm.Stand Jvm.Free.XT Jvm.Free.ALB Jvm.Free.JM Jvm.Free
open Jvm.Lib.Cold (StaticIs)
def hi8 (x : Int32) : Int32 := lo8 (x >>> ((8 : Int32) &&& 31))
/-- what StringUTF16.getChar makes of two bytes -/
def pairCh (u v : Int32) : Int32 := (((u &&& 255) <<< ((0 : Int32) &&& 31)) ||| ((v &&& 255) <<< ((8 : Int32) &&& 31))).toUInt32.toUInt16.toUInt32.toInt32
theorem shr0 (c : Int32) : c >>> ((0 : Int32) &&& 31) = c := by
  have e : ((0 : Int32) &&& 31) = 0 := by decide
  rw [e]
  apply Int32.toBitVec_inj.mp
  rw [Int32.toBitVec_shiftRight]
  have e1 : ((0 : Int32).toBitVec.smod 32) = 0#32 := by decide
  rw [e1, BitVec.sshiftRight_eq']
  exact BitVec.sshiftRight_zero
theorem lo8_and (x : Int32) : (lo8 x &&& 255).toBitVec.toNat = x.toBitVec.toNat % 256 := by
  have h : (lo8 x).toBitVec = (x.toBitVec.signExtend 8).signExtend 32 := by rw [lo8, Int8.toBitVec_toInt32, Int32.toBitVec_toInt8]
  rw [Int32.toBitVec_and, BitVec.toNat_and, h]
  have e : ((x.toBitVec.signExtend 8).signExtend 32).toNat % 256 = x.toBitVec.toNat % 256 := by
    rw [BitVec.toNat_signExtend]
    have hlt := x.toBitVec.isLt
    simp only [BitVec.toNat_setWidth, BitVec.toNat_signExtend]
    split <;> split <;> omega
  rw [← e]
  exact Nat.and_two_pow_sub_one_eq_mod _ 8
theorem pair_says {c : Int32} (h0 : ¬ c < 0) (h1 : ¬ 65535 < c) : pairCh (lo8 c) (hi8 c) = c := by
  rw [Int32.lt_iff_toInt_lt] at h0 h1
  have e0 : (0 : Int32).toInt = 0 := rfl
  have e1 : (65535 : Int32).toInt = 65535 := rfl
  have hc : c.toInt = c.toBitVec.toNat := by
    have := c.toBitVec.isLt
    have e : c.toInt = c.toBitVec.toInt := rfl
    rw [e] at h0 h1
    rw [e]
    rw [BitVec.toInt_eq_toNat_cond] at h0 h1 ⊢
    split at h0 <;> split <;> omega
  have hn : c.toBitVec.toNat < 65536 := by omega
  have a1 := lo8_and c
  have a2 : (hi8 c &&& 255).toBitVec.toNat = c.toBitVec.toNat / 256 := by
    rw [hi8, lo8_and]
    have e : ((8 : Int32) &&& 31) = 8 := by decide
    rw [e, Int32.toBitVec_shiftRight]
    have e2 : ((8 : Int32).toBitVec.smod 32) = 8#32 := by decide
    rw [e2, BitVec.sshiftRight_eq', BitVec.toNat_sshiftRight_of_msb_false (by rw [BitVec.msb_eq_false_iff_two_mul_lt]; omega)]
    show c.toBitVec.toNat >>> 8 % 256 = _
    rw [Nat.shiftRight_eq_div_pow]
    omega
  unfold pairCh
  apply Int32.toBitVec_inj.mp
  apply BitVec.eq_of_toNat_eq
  have f0 : ((0 : Int32) &&& 31) = 0 := by decide
  have f8 : ((8 : Int32) &&& 31) = 8 := by decide
  rw [f0, f8]
  have g : (((lo8 c &&& 255) <<< (0 : Int32)) ||| ((hi8 c &&& 255) <<< (8 : Int32))).toBitVec.toNat = c.toBitVec.toNat := by
    rw [Int32.toBitVec_or, Int32.toBitVec_shiftLeft, Int32.toBitVec_shiftLeft]
    have s0 : ((0 : Int32).toBitVec.smod 32) = 0#32 := by decide
    have s8 : ((8 : Int32).toBitVec.smod 32) = 8#32 := by decide
    rw [s0, s8, BitVec.toNat_or]
    simp only [BitVec.shiftLeft_eq', BitVec.toNat_shiftLeft, a1, a2]
    show (c.toBitVec.toNat % 256) <<< 0 % 2 ^ 32 ||| (c.toBitVec.toNat / 256) <<< 8 % 2 ^ 32 = _
    rw [Nat.shiftLeft_zero, Nat.mod_eq_of_lt (show c.toBitVec.toNat % 256 < 2 ^ 32 by omega), Nat.mod_eq_of_lt (show (c.toBitVec.toNat / 256) <<< 8 < 2 ^ 32 by rw [Nat.shiftLeft_eq]; omega), Nat.or_comm, ← Nat.shiftLeft_add_eq_or_of_lt (by omega), Nat.shiftLeft_eq]
    omega
  show BitVec.toNat (((((lo8 c &&& 255) <<< (0 : Int32)) ||| ((hi8 c &&& 255) <<< (8 : Int32))).toBitVec.setWidth 16).setWidth 32) = _
  rw [BitVec.toNat_setWidth, BitVec.toNat_setWidth, g]
  omega
end StrChars
namespace StrChars
open Jvm Sem ClassFile Op Lib Jvm.Stand Jvm.Free.XT Jvm.Free.ALB Jvm.Free.JM Jvm.Free
open Jvm.Lib.Cold (StaticIs)
theorem shr1 {n : Nat} (h : 2 * n < 2 ^ 31) : Int32.ofNat (2 * n) >>> ((1 : Int32) &&& 31) = Int32.ofNat n := by
  have e : ((1 : Int32) &&& 31) = 1 := by decide
  rw [e]
  apply Int32.toBitVec_inj.mp
  rw [Int32.toBitVec_shiftRight]
  have e1 : ((1 : Int32).toBitVec.smod 32) = 1#32 := by decide
  have hm : (BitVec.ofNat 32 (2 * n)).toNat = 2 * n := by rw [BitVec.toNat_ofNat, Nat.mod_eq_of_lt (by omega)]
  rw [e1, BitVec.sshiftRight_eq']
  apply BitVec.eq_of_toNat_eq
  show ((BitVec.ofNat 32 (2 * n)).sshiftRight 1).toNat = (BitVec.ofNat 32 n).toNat
  rw [BitVec.toNat_sshiftRight_of_msb_false (by rw [BitVec.msb_eq_false_iff_two_mul_lt, hm]; omega), hm, BitVec.toNat_ofNat, Nat.shiftRight_eq_div_pow]
  omega
/-- the array's cell V codes the n chars f 0 .. f (n - 1) by the coder cd, as the JDK does: coder 1 just where some char is above 255 -/
def Cod (cd : Int32) (n : Nat) (f : Nat → Int32) (V : Cell) : Prop := (cd = 0 ∧ V.slots.size = n ∧ ∀ j, j < n → V.slots[j]? = some (.int (lo8 (f j))) ∧ ¬ 255 < f j) ∨ (cd = 1 ∧ V.slots.size = 2 * n ∧ (∀ j, j < n → V.slots[2 * j]? = some (.int (lo8 (f j))) ∧ V.slots[2 * j + 1]? = some (.int (hi8 (f j)))) ∧ ∃ j, j < n ∧ 255 < f j)
theorem Cod.cd {cd : Int32} {n : Nat} {f : Nat → Int32} {V : Cell} (h : Cod cd n f V) : cd = 0 ∨ cd = 1 := h.imp (fun q => q.1) fun q => q.1
theorem Cod.len {cd : Int32} {n : Nat} {f : Nat → Int32} {V : Cell} (h : Cod cd n f V) (hs : V.slots.size < 2 ^ 31) : Int32.ofNat V.slots.size >>> (cd &&& 31) = Int32.ofNat n := by
  rcases h with ⟨rfl, h, -⟩ | ⟨rfl, h, -⟩
  · rw [shr0, h]
  · rw [h, shr1 (by omega)]
/-- **x is a String of the n chars f 0 .. f (n - 1)**, Latin-1 or UTF-16; its array at t has the cell V -/
def Txt (x t : Addr) (V : Cell) (cd : Int32) (n : Nat) (f : Nat → Int32) (U : State) : Prop := Exact "java/lang/String" x U ∧ Has x "java/lang/String" "value" "[B" (.ref t) U ∧ Has x "java/lang/String" "coder" "B" (.int cd) U ∧ XT.Arr .byte t V U ∧ Cod cd n f V ∧ ∀ j, j < n → ¬ f j < 0 ∧ ¬ 65535 < f j
theorem Txt.mv {x t : Addr} {V : Cell} {cd : Int32} {n : Nat} {f : Nat → Int32} {U U' : State} (h : Txt x t V cd n f U) (hal : U.vm.Alike U'.vm) (hh : U'.heap = U.heap) : Txt x t V cd n f U' := ⟨h.1.mv hal hh, h.2.1.mv hal hh, h.2.2.1.mv hal hh, h.2.2.2.1.mv hal hh, h.2.2.2.2⟩
namespace Cdr
def yN : MethodName := ⟨"java/lang/String", "coder", "()B"⟩
abbrev yB : ByteArray := jdk_42_method_152_code
theorem d0 : decode yB 0 = .ok (.getstatic 38, 3) := by decide +kernel
theorem d3 : decode yB 3 = .ok (.ifCond (.eq) 10, 3) := by decide +kernel
theorem d6 : decode yB 6 = .ok (.aload_n 0, 1) := by decide +kernel
theorem d7 : decode yB 7 = .ok (.getfield 15, 3) := by decide +kernel
theorem d10 : decode yB 10 = .ok (.goto 4, 3) := by decide +kernel
theorem d14 : decode yB 14 = .ok (.ireturn, 1) := by decide +kernel
def site : List Cond := [.fieldLink "java/lang/String" 38 "java/lang/String" "COMPACT_STRINGS" "Z", .fieldLink "java/lang/String" 15 "java/lang/String" "coder" "B"]
def tab : Cond := tabOf yN yB 1 (some .byte) site
def P (x : Addr) (cd z : Int32) (args : Array Value) (s : State) : Prop := args = #[.ref x] ∧ Has x "java/lang/String" "coder" "B" (.int cd) s ∧ (cd = 0 ∨ cd = 1) ∧ StaticIs s "java/lang/String" "COMPACT_STRINGS" "Z" (.int z) ∧ ¬ z = 0
def E (cd : Int32) (r : Option Value) (s u : State) : Prop := XT.PureE (some (.int cd)) r s u
theorem law (l : Launch) (x : Addr) (cd z : Int32) : Law l yN 1 0 0 0 yB 1 (some .byte) site (P x cd z) (E cd) [] 0 0 := by
  refine Law.of_walk (plainFor_of_name (by decide +kernel)) (by decide +kernel) (by decide +kernel) (by decide) (fun _ _ h => by rw [h.1]; rfl) (fun _ U U' hal hh h => ⟨h.1, h.2.1.mv hal hh, h.2.2.1, h.2.2.2.1.there hal hh, h.2.2.2.2⟩) (fun r U U' V V' h1 hal h2 h => XT.PureE.mv r U U' V V' h1 hal h2 h) ?_
  intro p e s m args below meth c s₁ X0 hexec hbytes hml hret hlk hnm hown hh0 W hP
  obtain ⟨rfl, hx, hc, s1, hz⟩ := hP
  have c1 : Steps p.tables e below (s₁.setTop (entryFrame m #[.ref x] 1)) (s₁.setTop (mkF m 0 #[.val (.ref x)] [])) := entry rfl
  obtain ⟨T2, X2, q2, st2⟩ := X0.sget hexec hown (wk W (.fieldLink "java/lang/String" 38 "java/lang/String" "COMPACT_STRINGS" "Z")) s1 (fun _ _ h => by rw [hh0]; exact h) (g := (mkF m 0 #[.val (.ref x)] [])) rfl (hb hbytes d0)
  have hh2 := q2.trans hh0
  have c3 : Steps p.tables e below (s₁.setTop (entryFrame m #[.ref x] 1)) (T2.setTop (mkF m 7 #[.val (.ref x)] [.ref x])) := (c1.trans (st2 _ (Steps.refl _))).trans (by
    refine XS.ifNo X2.here hexec rfl (hb hbytes d3) rfl (i0_eq_f hz) ?_
    refine XS.aloadN X2.here hexec rfl (hb hbytes d6) rfl rfl ?_
    exact Steps.refl _)
  obtain ⟨T4, X4, q4, st4⟩ := X2.hget hexec hown (wk W (.fieldLink "java/lang/String" 15 "java/lang/String" "coder" "B")) (hx.mv X2.warmed.alike hh2) (g := (mkF m 7 #[.val (.ref x)] [.ref x])) rfl (rest := []) rfl (hb hbytes d7)
  have c5 : Steps p.tables e below (s₁.setTop (entryFrame m #[.ref x] 1)) (T4.setTop (mkF m 14 #[.val (.ref x)] [.int cd])) := (c3.trans (st4 _ (Steps.refl _))).trans (by
    refine XS.goto X4.here hexec rfl (pc0 := 10) rfl (hb hbytes d10) (by decide) rfl ?_
    exact Steps.refl _)
  exact ⟨T4, some (.int cd), _, _, _, X4, rfl, rfl, rfl, (fun h => by cases h), ⟨rfl, q4.trans hh2⟩, fun fs hl => c5.trans (X4.ireturnOut hexec hret (by rcases hc with rfl | rfl <;> rfl) (Or.inr (Or.inr (Or.inl rfl))) (hb hbytes d14) hl)⟩
end Cdr
namespace Len
def yN : MethodName := ⟨"java/lang/String", "length", "()I"⟩
abbrev yB : ByteArray := jdk_42_method_54_code
theorem d0 : decode yB 0 = .ok (.aload_n 0, 1) := by decide +kernel
theorem d1 : decode yB 1 = .ok (.getfield 9, 3) := by decide +kernel
theorem d4 : decode yB 4 = .ok (.arraylength, 1) := by decide +kernel
theorem d5 : decode yB 5 = .ok (.aload_n 0, 1) := by decide +kernel
theorem d6 : decode yB 6 = .ok (.invokevirtual 335, 3) := by decide +kernel
theorem d9 : decode yB 9 = .ok (.ishr, 1) := by decide +kernel
theorem d10 : decode yB 10 = .ok (.ireturn, 1) := by decide +kernel
def site : List Cond := [.fieldLink "java/lang/String" 9 "java/lang/String" "value" "[B", Cdr.tab] ++ virtW "java/lang/String" 335 "java/lang/String" Cdr.yN Cdr.yN
def tab : Cond := tabOf yN yB 1 (some .int) site
def P (x t : Addr) (V : Cell) (cd : Int32) (n : Nat) (f : Nat → Int32) (z : Int32) (args : Array Value) (s : State) : Prop := args = #[.ref x] ∧ Txt x t V cd n f s ∧ StaticIs s "java/lang/String" "COMPACT_STRINGS" "Z" (.int z) ∧ ¬ z = 0
def E (n : Nat) (r : Option Value) (s u : State) : Prop := XT.PureE (some (.int (Int32.ofNat n))) r s u
/-- length() of a String of n chars, in either coding -/
theorem law (l : Launch) (x t : Addr) (V : Cell) (cd : Int32) (n : Nat) (f : Nat → Int32) (z : Int32) : Law l yN 1 0 1 13 yB 1 (some .int) site (P x t V cd n f z) (E n) [] 0 0 := by
  refine Law.of_walk (plainFor_of_name (by decide +kernel)) (by decide +kernel) (by decide +kernel) (by decide) (fun _ _ h => by rw [h.1]; rfl) (fun _ U U' hal hh h => ⟨h.1, h.2.1.mv hal hh, h.2.2.1.there hal hh, h.2.2.2⟩) (fun r U U' V V' h1 hal h2 h => XT.PureE.mv r U U' V V' h1 hal h2 h) ?_
  intro p e s m args below meth c s₁ X0 hexec hbytes hml hret hlk hnm hown hh0 W hP
  obtain ⟨rfl, hx, s1, hz⟩ := hP
  have v31 := hx.2.2.2.1.2.2.2
  have c1 : Steps p.tables e below (s₁.setTop (entryFrame m #[.ref x] 1)) (s₁.setTop (mkF m 1 #[.val (.ref x)] [.ref x])) := Steps.trans (entry rfl) (by
    show Steps p.tables e below (s₁.setTop (mkF m 0 #[.val (.ref x)] [])) _
    refine XS.aloadN X0.here hexec rfl (hb hbytes d0) rfl rfl ?_
    exact Steps.refl _)
  obtain ⟨T2, X2, q2, st2⟩ := X0.hget hexec hown (wk W (.fieldLink "java/lang/String" 9 "java/lang/String" "value" "[B")) (hx.mv X0.warmed.alike hh0).2.1 (g := (mkF m 1 #[.val (.ref x)] [.ref x])) rfl (rest := []) rfl (hb hbytes d1)
  have hh2 := q2.trans hh0
  have hx2 := hx.mv X2.warmed.alike hh2
  have c3 : Steps p.tables e below (s₁.setTop (entryFrame m #[.ref x] 1)) (T2.setTop (mkF m 6 #[.val (.ref x)] [.ref x, .int (Int32.ofNat V.slots.size)])) := (c1.trans (st2 _ (Steps.refl _))).trans (by
    refine X2.alen hexec hx2.2.2.2.1 rfl rfl (hb hbytes d4) ?_
    refine XS.aloadN X2.here hexec rfl (hb hbytes d5) rfl rfl ?_
    exact Steps.refl _)
  obtain ⟨v4, T4, X4, E4, g4⟩ := X2.callV hexec (Cdr.law l x cd z) hown (wks W (virtW "java/lang/String" 335 "java/lang/String" Cdr.yN Cdr.yN)) rfl (by decide) (wk W Cdr.tab) (W := 1) (Nat.le_of_ble_eq_true rfl) (Nat.le_of_ble_eq_true rfl) (Nat.le_refl _) (Nat.le_refl _) (hx2.1.fc X2.warmed.alike) hx2.1.is (g := (mkF m 6 #[.val (.ref x)] [.ref x, .int (Int32.ofNat V.slots.size)])) rfl (by rw [hml]; rfl) c3 (argsL := []) (rest := [.int (Int32.ofNat V.slots.size)]) rfl rfl (by show 2 * 0 + (1 + 0) ≤ _; decide) (hb hbytes d6) (⟨rfl, hx2.2.2.1, hx.2.2.2.2.1.cd, s1.there X2.warmed.alike hh2, hz⟩)
  obtain ⟨rfl, q4⟩ := E4
  have c5 : Steps p.tables e below (s₁.setTop (entryFrame m #[.ref x] 1)) (T4.setTop (mkF m 10 #[.val (.ref x)] [.int (Int32.ofNat V.slots.size >>> (cd &&& 31))])) := Steps.trans g4 (by
    refine ishr X4.here hexec rfl (hb hbytes d9) rfl ?_
    exact Steps.refl _)
  rw [hx.2.2.2.2.1.len v31] at c5
  exact ⟨T4, some (.int (Int32.ofNat n)), _, _, _, X4, rfl, rfl, rfl, (fun h => by cases h), ⟨rfl, q4.trans hh2⟩, fun fs hl => c5.trans (X4.ireturnOut hexec hret rfl (Or.inl rfl) (hb hbytes d10) hl)⟩
theorem pays {l : Launch} {R : Room} {p : Program} {e : Env} {below : List Frame} {s : State} {sargs : Array Value} {len W : Nat} (x t : Addr) (V : Cell) (cd : Int32) (n : Nat) (f : Nat → Int32) (z : Int32) (htab : tab.before sargs s = true) (hfr : 2 ≤ R.frames) (hlo : W + 25 ≤ R.locals) :
    Back l R p e below s sargs yN len W (fun A₁ a₁ => A₁.cells + 0 ≤ R.cells ∧ A₁.slots + 0 ≤ R.slots ∧ P x t V cd n f z a₁ A₁.U) (fun A₁ _ v₁ B₁ => E n v₁ A₁.U B₁.U ∧ B₁.locs = A₁.locs ++ [] ∧ B₁.cells = A₁.cells + 0 ∧ B₁.slots = A₁.slots + 0) :=
  (law l x t V cd n f z).pays htab hfr (by omega)
end Len
end StrChars
namespace StrChars.Road
open Jvm Sem ClassFile Op Lib Jvm.Stand Jvm.Free Jvm.Free.XT
open Jvm.Lib.Cold (StaticIs)
theorem consq {a : Array Value} {s : State} {c : Jvm.Cond} {L : List Jvm.Cond} (h0 : c.before a s = true) (h : ∀ w ∈ L, w.before a s = true) : ∀ w ∈ c :: L, w.before a s = true := fun w hw => (List.mem_cons.mp hw).elim (fun e => e ▸ h0) (h w)
/-- the words of String.length(), either coding -/
abbrev wordsLen : List Jvm.Cond := [.code Len.yN Len.yB 1 (some .int), .initialized ST, .fieldLink ST 9 ST "value" "[B", .fieldLink ST 38 ST "COMPACT_STRINGS" "Z", .fieldLink ST 15 ST "coder" "B", .code Cdr.yN Cdr.yB 1 (some .byte), .methodLink ST 335 Cdr.yN, .declares Cdr.yN, .selects ST Cdr.yN Cdr.yN, .instanceMethod Cdr.yN]
theorem tabLen_of {a : Array Value} {s : State} (h : ∀ w ∈ wordsLen, w.before a s = true) : Len.tab.before a s = true := by
  have hc : Cdr.tab.before a s = true := unparts (wk h (.code Cdr.yN Cdr.yB 1 (some .byte))) (wks h (.initialized Cdr.yN.cls :: Cdr.site))
  have q := consq hc h
  exact unparts (wk q (.code Len.yN Len.yB 1 (some .int))) (wks q (.initialized Len.yN.cls :: Len.site))
theorem movedLen {Z s : State} {a0 args : Array Value} (hZ : Z.Warmed39 s.vm) (hw : ∀ d ∈ wordsLen, d.before a0 Z = true) : ∀ d ∈ wordsLen, d.before args s = true := fun d hd => by
  have q := hw d hd
  have t : ∀ d ∈ wordsLen, d = .arrayClass .byte ∨ (d.onTables && d.keepsFace) = true := by decide +kernel
  rcases t d hd with rfl | t
  · exact RoadKit.mvA hZ q
  · exact RoadKit.mv hZ q t
/-- the bytes of the chars cs, low before high -/
def wideBytes : List Int32 → List Value
  | [] => []
  | c :: cs => .int (lo8 c) :: .int (hi8 c) :: wideBytes cs
theorem wide_lo (d : Value) : ∀ (cs : List Int32) (j : Nat), j < cs.length → (wideBytes cs).getD (2 * j) d = .int (lo8 (cs.getD j 0))
  | [], j, h => absurd h (Nat.not_lt_zero j)
  | c :: cs, 0, _ => rfl
  | c :: cs, j + 1, h => by
    have q := wide_lo d cs j (by simpa using h)
    rw [show 2 * (j + 1) = 2 * j + 1 + 1 from by omega]
    simpa [wideBytes] using q
theorem wide_hi (d : Value) : ∀ (cs : List Int32) (j : Nat), j < cs.length → (wideBytes cs).getD (2 * j + 1) d = .int (hi8 (cs.getD j 0))
  | [], j, h => absurd h (Nat.not_lt_zero j)
  | c :: cs, 0, _ => rfl
  | c :: cs, j + 1, h => by
    have q := wide_hi d cs j (by simpa using h)
    rw [show 2 * (j + 1) + 1 = 2 * j + 1 + 1 + 1 from by omega]
    simpa [wideBytes] using q
theorem low_at (d : Value) (cs : List Int32) (j : Nat) (h : j < cs.length) : (cs.map fun c => Value.int (lo8 c)).getD j d = .int (lo8 (cs.getD j 0)) := by
  simp [List.getD_eq_getElem?_getD, h]
/-- an array of N2 bytes vs codes the chars cs by the coder cd -/
def CodA (cs : List Int32) (cd N2 : Int32) (vs : List Value) : Prop := (cd = 0 ∧ N2 = Int32.ofNat cs.length ∧ vs = (cs.map fun c => Value.int (lo8 c)) ∧ ∀ c ∈ cs, ¬ 255 < c) ∨ (cd = 1 ∧ N2 = Int32.ofNat (2 * cs.length) ∧ vs = wideBytes cs ∧ ∃ c ∈ cs, 255 < c)
theorem CodA.cod {cs : List Int32} {cd N2 : Int32} {vs : List Value} {V : Cell} (h : CodA cs cd N2 vs) (hn : 2 * cs.length < 2 ^ 31) (hs : V.slots.size = N2.toNatClampNeg) (hv : RoadKit.Has V vs (.int 0)) : Cod cd cs.length (fun j => cs.getD j 0) V := by
  rcases h with ⟨rfl, rfl, rfl, h⟩ | ⟨rfl, rfl, rfl, c, hc, hw⟩
  · rw [n32 (by omega)] at hs
    exact Or.inl ⟨rfl, hs, fun j hj => ⟨by rw [hv j (by omega), low_at _ _ _ hj], by
      have e : cs.getD j 0 = cs[j] := by simp [List.getD_eq_getElem?_getD, hj]
      show ¬ 255 < cs.getD j 0
      rw [e]; exact h _ (List.getElem_mem _)⟩⟩
  · rw [n32 (by omega)] at hs
    obtain ⟨j, hj, rfl⟩ := List.getElem_of_mem hc
    exact Or.inr ⟨rfl, hs, fun j hj => ⟨by rw [hv _ (by omega), wide_lo _ _ _ hj], by rw [hv _ (by omega), wide_hi _ _ _ hj]⟩, j, hj, by
      have e : cs.getD j 0 = cs[j] := by simp [List.getD_eq_getElem?_getD, hj]
      show 255 < cs.getD j 0
      rw [e]; exact hw⟩
/-- an object of exactly java/lang/String, its two fields found: as the laws ask it -/
theorem strObj {Z U : State} {a0 : Array Value} {kI : Nat} (wi : (Jvm.Cond.instantiable ST kI).before a0 Z = true) (al : Z.vm.Alike U.vm) {x : Addr} {v0 c0 : Value} (E : RoadKit.Exa Z U.heap x ST) (V : RoadKit.Fld Z U.heap x ST "value" "[B" v0) (C : RoadKit.Fld Z U.heap x ST "coder" "B" c0) :
    ∃ (D : Cell) (fV fC : Field), Blank ST x D U ∧ Found ST "value" "[B" fV U ∧ Found ST "coder" "B" fC U ∧ D.slots[fV.slot]? = some v0 ∧ D.slots[fC.slot]? = some c0 ∧ RoadKit.slotOf Z ST "value" "[B" = fV.slot ∧ RoadKit.slotOf Z ST "coder" "B" = fC.slot := by
  obtain ⟨D, cfV, kV, iV, fV, hD, gV, stV, knV, obV, asV, slV⟩ := V
  obtain ⟨D', cfC, kC, iC, fC, hD', gC, stC, -, -, asC, slC⟩ := C
  cases hD.symm.trans hD'
  obtain ⟨D2, kD, e1, e2, e3, e4, e5⟩ := E
  cases hD.symm.trans e1
  obtain ⟨c2, k2, i1, i2, i3, -⟩ := Cond.instantiable_spec wi
  cases e2.symm.trans i1
  cases e3.symm.trans i2
  obtain ⟨kU, u1, u2⟩ := al.2.2 _ _ e3
  exact ⟨D, fV, fC, ⟨hD, ⟨knV, fun q hq => by rw [hq] at obV; cases obV⟩, by rw [al.findClass]; exact e2, kU, u1, by rw [u2]; exact i3, by rw [u2]; exact e5 i3⟩, ⟨SBG.found_only al ⟨cfV, kV, iV, gV⟩, stV⟩, ⟨SBG.found_only al ⟨cfC, kC, iC, gC⟩, stC⟩, slV, slC, by simp [RoadKit.slotOf, gV], by simp [RoadKit.slotOf, gC]⟩
theorem sta_is {Z U : State} (al : Z.vm.Alike U.vm) {C n d : String} {v : Value} (S : RoadKit.Sta Z U.heap C n d v) : StaticIs U C n d v := by
  obtain ⟨cfS, iS, kS, fS, st, cS, t1, t2, t3, t4, t5, t6, t7⟩ := S
  exact StaticIs.there (s := { Z with heap := U.heap }) ⟨cfS, iS, kS, fS, st, cS, t1, t2, t3, t4, t5, (fun q => by rw [q] at t6; cases t6), t7⟩ al rfl
/-- **length() OF SUCH A STRING** -/
theorem lenW {p : Program} {l : Launch} {e : Env} {R : Room} {s : State} {args : Array Value} {below : List Frame} {len W : Nat} {Z : State} {a0 : Array Value} {h : Heap} (hZ : Z.Warmed39 s.vm) (hw : ∀ d ∈ wordsLen, d.before a0 Z = true) {kI : Nat} (wi : (Jvm.Cond.instantiable ST kI).before a0 Z = true)
    {x t : Addr} {kb : ClassId} {cs : List Int32} {cd N2 z : Int32} {vs : List Value} (E : RoadKit.Exa Z h x ST) (V : RoadKit.Fld Z h x ST "value" "[B" (.ref t)) (C : RoadKit.Fld Z h x ST "coder" "B" (.int cd)) (K : RoadKit.Arv Z h t kb .byte N2 vs (.int 0)) (hc : CodA cs cd N2 vs) (hb : ∀ c ∈ cs, ¬ c < 0 ∧ ¬ (65535 : Int32) < c)
    (S : RoadKit.Sta Z h ST "COMPACT_STRINGS" "Z" (.int z)) (hz : ¬ z = 0) (l2 : cs.length ≤ 4000) (hfr : 2 ≤ R.frames) (hlo : W + 25 ≤ R.locals) :
    Back l R p e below s args (⟨"java/lang/String", "length", "()I"⟩ : MethodName) len W (fun P a => a = #[.ref x] ∧ P.U.heap = h ∧ P.cells + 0 ≤ R.cells ∧ P.slots + 0 ≤ R.slots)
      (fun P _ v B => ∃ L, (v = some (.int (Int32.ofNat cs.length)) ∧ L = [] ∧ B.U.heap = h) ∧ B.locs = P.locs ++ L ∧ B.cells = P.cells + 0 ∧ B.slots = P.slots + 0) := by
  obtain ⟨A, K1, K2, K3, K4, K5, K6⟩ := K
  have hcod := hc.cod (by omega) K3 K5
  intro m meth c P g ig mk a X hg hsize hdg hW hn hp'
  obtain ⟨rfl, rfl, r1, r2⟩ := hp'
  have al : Z.vm.Alike P.U.vm := hZ.alike.trans X.warmed.alike
  obtain ⟨D, fV, fC, hB, F1, F2, g1, g2, -, -⟩ := strObj wi al E V C
  have hx : Txt x t A cd cs.length (fun j => cs.getD j 0) P.U := ⟨⟨_, hB.2.2.1, D, hB.1, rfl, by cases q : D.vm <;> first | rfl | exact absurd q (hB.2.1.2 _)⟩, Has.of hB F1 g1, Has.of hB F2 g2, ⟨K1.1, State.isArrayOf_alike al K1.2.1, K1.2.2, by rcases hcod with ⟨-, q, -⟩ | ⟨-, q, -⟩ <;> omega⟩, hcod, fun j hj => by
    have e : cs.getD j 0 = cs[j] := by simp [List.getD_eq_getElem?_getD, hj]
    show ¬ cs.getD j 0 < 0 ∧ ¬ 65535 < cs.getD j 0
    rw [e]; exact hb _ (List.getElem_mem _)⟩
  obtain ⟨v, B, X', ⟨⟨hv, hh⟩, hl, hk, hs⟩, st⟩ := Len.pays x t A cd cs.length (fun j => cs.getD j 0) z (tabLen_of (movedLen hZ hw)) hfr hlo m meth c P g ig mk _ X hg hsize hdg hW hn ⟨r1, r2, rfl, hx, sta_is al S, hz⟩
  exact ⟨v, B, X', ⟨[], ⟨hv, rfl, hh⟩, hl, hk, hs⟩, st⟩
end StrChars.Road
namespace StrChars
open Jvm Sem ClassFile Op Lib Jvm.Stand Jvm.Free.XT Jvm.Free.ALB Jvm.Free.JM Jvm.Free
open Jvm.Lib.Cold (StaticIs)
/-- what place i of a byte[]'s cell holds -/
def yv (A : Cell) (i : Nat) : Int32 := match A.slots[i]? with | some (.int x) => x | _ => 0
theorem yv_get {a : Addr} {A : Cell} {U : State} (h : XT.Arr .byte a A U) (ht : Typed .byte A) {i : Nat} (hi : i < A.slots.size) : A.slots[i]? = some (.int (yv A i)) := by
  have e := Array.getElem?_eq_getElem hi
  have f := ht i _ e
  unfold yv; rw [e]
  generalize A.slots[i] = v at f
  cases v <;> simp [fits] at f ⊢
/-- the two arrays are equal, place for place -/
def EqC (A B : Cell) : Prop := A.slots.size = B.slots.size ∧ ∀ i, i < A.slots.size → yv A i = yv B i
/-- a boolean that says whether p -/
def Says01 (q : Prop) (r : Option Value) (s u : State) : Prop := ∃ v : Int32, r = some (.int v) ∧ u.heap = s.heap ∧ ((v = 1 ∧ q) ∨ (v = 0 ∧ ¬ q))
theorem Says01.mv {q : Prop} : ∀ r (U U' V V' : State), U'.heap = U.heap → V.vm.Alike V'.vm → V'.heap = V.heap → Says01 q r U V → Says01 q r U' V' :=
  fun r U U' V V' h1 _ h2 ⟨v, a, b, c⟩ => ⟨v, a, by rw [h1, h2]; exact b, c⟩
namespace LEq
def yN : MethodName := ⟨"java/lang/StringLatin1", "equals", "([B[B)Z"⟩
abbrev yB : ByteArray := jdk_43_method_13_code
theorem d0 : decode yB 0 = .ok (.aload_n 0, 1) := by decide +kernel
theorem d1 : decode yB 1 = .ok (.arraylength, 1) := by decide +kernel
theorem d2 : decode yB 2 = .ok (.aload_n 1, 1) := by decide +kernel
theorem d3 : decode yB 3 = .ok (.arraylength, 1) := by decide +kernel
theorem d4 : decode yB 4 = .ok (.if_icmp (.ne) 30, 3) := by decide +kernel
theorem d7 : decode yB 7 = .ok (.iconst 0, 1) := by decide +kernel
theorem d8 : decode yB 8 = .ok (.istore_n 2, 1) := by decide +kernel
theorem d9 : decode yB 9 = .ok (.iload_n 2, 1) := by decide +kernel
theorem d10 : decode yB 10 = .ok (.aload_n 0, 1) := by decide +kernel
theorem d11 : decode yB 11 = .ok (.arraylength, 1) := by decide +kernel
theorem d12 : decode yB 12 = .ok (.if_icmp (.ge) 20, 3) := by decide +kernel
theorem d15 : decode yB 15 = .ok (.aload_n 0, 1) := by decide +kernel
theorem d16 : decode yB 16 = .ok (.iload_n 2, 1) := by decide +kernel
theorem d17 : decode yB 17 = .ok (.baload, 1) := by decide +kernel
theorem d18 : decode yB 18 = .ok (.aload_n 1, 1) := by decide +kernel
theorem d19 : decode yB 19 = .ok (.iload_n 2, 1) := by decide +kernel
theorem d20 : decode yB 20 = .ok (.baload, 1) := by decide +kernel
theorem d21 : decode yB 21 = .ok (.if_icmp (.eq) 5, 3) := by decide +kernel
theorem d24 : decode yB 24 = .ok (.iconst 0, 1) := by decide +kernel
theorem d25 : decode yB 25 = .ok (.ireturn, 1) := by decide +kernel
theorem d26 : decode yB 26 = .ok (.iinc 2 1, 3) := by decide +kernel
theorem d29 : decode yB 29 = .ok (.goto (-20), 3) := by decide +kernel
theorem d32 : decode yB 32 = .ok (.iconst 1, 1) := by decide +kernel
theorem d33 : decode yB 33 = .ok (.ireturn, 1) := by decide +kernel
theorem d34 : decode yB 34 = .ok (.iconst 0, 1) := by decide +kernel
theorem d35 : decode yB 35 = .ok (.ireturn, 1) := by decide +kernel
def site : List Cond := []
def tab : Cond := tabOf yN yB 3 (some .boolean) site
def P (a : Addr) (A : Cell) (b : Addr) (B : Cell) (args : Array Value) (s : State) : Prop := args = #[.ref a, .ref b] ∧ XT.Arr .byte a A s ∧ Typed .byte A ∧ XT.Arr .byte b B s ∧ Typed .byte B
/-- whether two byte[] are equal, place for place -/
theorem law (l : Launch) (a : Addr) (A : Cell) (b : Addr) (B : Cell) : Law l yN 2 2 0 0 yB 3 (some .boolean) site (P a A b B) (Says01 (EqC A B)) [] 0 0 := by
  refine Law.of_walk (plainFor_of_name (by decide +kernel)) (by decide +kernel) (by decide +kernel) (by decide) (fun _ _ h => by rw [h.1]; rfl) (fun _ U U' hal hh h => ⟨h.1, h.2.1.mv hal hh, h.2.2.1, h.2.2.2.1.mv hal hh, h.2.2.2.2⟩) (fun r U U' V V' h1 hal h2 h => Says01.mv r U U' V V' h1 hal h2 h) ?_
  intro p e s m args below meth c s₁ X0 hexec hbytes hml hret hlk hnm hown hh0 W hP
  obtain ⟨rfl, hA, tA, hB, tB⟩ := hP
  have a31 := hA.2.2.2
  have b31 := hB.2.2.2
  have hA0 := hA.mv X0.warmed.alike hh0
  have hB0 := hB.mv X0.warmed.alike hh0
  have c1 : Steps p.tables e below (s₁.setTop (entryFrame m #[.ref a, .ref b] 3)) (s₁.setTop (mkF m 0 #[.val (.ref a), .val (.ref b), .unset] [])) := entry rfl
  have c2 : Steps p.tables e below (s₁.setTop (entryFrame m #[.ref a, .ref b] 3)) (s₁.setTop (mkF m 4 #[.val (.ref a), .val (.ref b), .unset] [.int (Int32.ofNat B.slots.size), .int (Int32.ofNat A.slots.size)])) := c1.trans (by
    refine XS.aloadN X0.here hexec rfl (hb hbytes d0) rfl rfl ?_
    refine X0.alen hexec hA0 rfl rfl (hb hbytes d1) ?_
    refine XS.aloadN X0.here hexec rfl (hb hbytes d2) rfl rfl ?_
    refine X0.alen hexec hB0 rfl rfl (hb hbytes d3) ?_
    exact Steps.refl _)
  by_cases hs : A.slots.size = B.slots.size
  · have c3 : Steps p.tables e below (s₁.setTop (entryFrame m #[.ref a, .ref b] 3)) (s₁.setTop (mkF m 9 #[.val (.ref a), .val (.ref b), .val (.int 0)] [])) := c2.trans (by
      refine XS.icmpNo X0.here hexec rfl (hb hbytes d4) rfl (ii_ne_f (by rw [hs])) ?_
      refine iconstV X0.here hexec rfl 0 (hb hbytes d7) (by decide) ?_
      refine XS.istoreN X0.here hexec rfl (hb hbytes d8) rfl rfl ?_
      exact Steps.refl _)
    have loop : ∀ (r i : Nat), i + r = A.slots.size → (∀ j, j < i → yv A j = yv B j) → Steps p.tables e below (s₁.setTop (entryFrame m #[.ref a, .ref b] 3)) (s₁.setTop (mkF m 9 #[.val (.ref a), .val (.ref b), .val (.int (Int32.ofNat i))] [])) → ∃ (pc : Nat) (Ls : Array Slot) (v : Int32), (pc = 25 ∨ pc = 33) ∧ ((v = 1 ∧ EqC A B) ∨ (v = 0 ∧ ¬ EqC A B)) ∧ Steps p.tables e below (s₁.setTop (entryFrame m #[.ref a, .ref b] 3)) (s₁.setTop (mkF m pc Ls [.int v])) := by
      intro r
      induction r with
      | zero =>
        intro i hi he cl
        exact ⟨33, _, 1, Or.inr rfl, Or.inl ⟨rfl, hs, fun j hj => he j (by omega)⟩, cl.trans (by
          refine XS.iloadN X0.here hexec rfl (hb hbytes d9) rfl ?_
          refine XS.aloadN X0.here hexec rfl (hb hbytes d10) rfl rfl ?_
          refine X0.alen hexec hA0 rfl rfl (hb hbytes d11) ?_
          refine XS.icmpYes X0.here hexec rfl (pc0 := 12) rfl (hb hbytes d12) rfl (ii_ge_t (nlt32 (by omega) (by omega))) (by decide) rfl ?_
          refine iconstV X0.here hexec rfl 1 (hb hbytes d32) (by decide) ?_
          exact Steps.refl _)⟩
      | succ r ih =>
        intro i hi he cl
        have c4 : Steps p.tables e below (s₁.setTop (entryFrame m #[.ref a, .ref b] 3)) (s₁.setTop (mkF m 21 #[.val (.ref a), .val (.ref b), .val (.int (Int32.ofNat i))] [.int (yv B i), .int (yv A i)])) := cl.trans (by
          refine XS.iloadN X0.here hexec rfl (hb hbytes d9) rfl ?_
          refine XS.aloadN X0.here hexec rfl (hb hbytes d10) rfl rfl ?_
          refine X0.alen hexec hA0 rfl rfl (hb hbytes d11) ?_
          refine XS.icmpNo X0.here hexec rfl (hb hbytes d12) rfl (ii_ge_f (lt32 (by omega) (by omega))) ?_
          refine XS.aloadN X0.here hexec rfl (hb hbytes d15) rfl rfl ?_
          refine XS.iloadN X0.here hexec rfl (hb hbytes d16) rfl ?_
          refine X0.aget hexec hA0 rfl (yv_get hA tA (i := i) (by omega)) rfl rfl (hb hbytes d17) ?_
          refine XS.aloadN X0.here hexec rfl (hb hbytes d18) rfl rfl ?_
          refine XS.iloadN X0.here hexec rfl (hb hbytes d19) rfl ?_
          refine X0.aget hexec hB0 rfl (yv_get hB tB (i := i) (by omega)) rfl rfl (hb hbytes d20) ?_
          exact Steps.refl _)
        by_cases hv : yv A i = yv B i
        · have c5 : Steps p.tables e below (s₁.setTop (entryFrame m #[.ref a, .ref b] 3)) (s₁.setTop (mkF m 9 #[.val (.ref a), .val (.ref b), .val (.int (Int32.ofNat i + 1))] [])) := c4.trans (by
            refine XS.icmpYes X0.here hexec rfl (pc0 := 21) rfl (hb hbytes d21) rfl (ii_eq_t hv) (by decide) rfl ?_
            refine iincV X0.here hexec rfl 1 (hb hbytes d26) (by decide) rfl rfl ?_
            refine XS.goto X0.here hexec rfl (pc0 := 29) rfl (hb hbytes d29) (by decide) rfl ?_
            exact Steps.refl _)
          rw [succ32] at c5
          exact ih (i + 1) (by omega) (fun j hj => by
            by_cases e : j = i
            · rw [e]; exact hv
            · exact he j (by omega)) c5
        · exact ⟨25, _, 0, Or.inl rfl, Or.inr ⟨rfl, fun q => hv (q.2 i (by omega))⟩, c4.trans (by
            refine XS.icmpNo X0.here hexec rfl (hb hbytes d21) rfl (ii_eq_f hv) ?_
            refine iconstV X0.here hexec rfl 0 (hb hbytes d24) (by decide) ?_
            exact Steps.refl _)⟩
    obtain ⟨pc, Ls, v, hpc, hv, cz⟩ := loop A.slots.size 0 (by omega) (fun j hj => absurd hj (Nat.not_lt_zero j)) c3
    have nv : narrow .boolean (.int v) = .int v := by rcases hv with ⟨rfl, -⟩ | ⟨rfl, -⟩ <;> rfl
    rcases hpc with rfl | rfl
    · exact ⟨s₁, some (.int v), _, _, _, X0, rfl, rfl, rfl, (fun h => by cases h), ⟨v, rfl, hh0, hv⟩, fun fs hl => cz.trans (X0.ireturnOut hexec hret nv (Or.inr (Or.inl rfl)) (hb hbytes d25) hl)⟩
    · exact ⟨s₁, some (.int v), _, _, _, X0, rfl, rfl, rfl, (fun h => by cases h), ⟨v, rfl, hh0, hv⟩, fun fs hl => cz.trans (X0.ireturnOut hexec hret nv (Or.inr (Or.inl rfl)) (hb hbytes d33) hl)⟩
  · have c3 : Steps p.tables e below (s₁.setTop (entryFrame m #[.ref a, .ref b] 3)) (s₁.setTop (mkF m 35 #[.val (.ref a), .val (.ref b), .unset] [.int 0])) := c2.trans (by
      refine XS.icmpYes X0.here hexec rfl (pc0 := 4) rfl (hb hbytes d4) rfl (ii_ne_t (ne32 a31 b31 hs)) (by decide) rfl ?_
      refine iconstV X0.here hexec rfl 0 (hb hbytes d34) (by decide) ?_
      exact Steps.refl _)
    exact ⟨s₁, some (.int 0), _, _, _, X0, rfl, rfl, rfl, (fun h => by cases h), ⟨0, rfl, hh0, Or.inr ⟨rfl, fun q => hs q.1⟩⟩, fun fs hl => c3.trans (X0.ireturnOut hexec hret rfl (Or.inr (Or.inl rfl)) (hb hbytes d35) hl)⟩
end LEq
theorem Cod.ty {cd : Int32} {n : Nat} {f : Nat → Int32} {V : Cell} (h : Cod cd n f V) : Typed .byte V := fun i v hv => by
  have hi : i < V.slots.size := (Array.getElem?_eq_some_iff.mp hv).1
  rcases h with ⟨-, k1, k2⟩ | ⟨-, k1, k2, -⟩
  · rw [(k2 i (by omega)).1] at hv; cases hv; exact fits_lo8 _
  · rcases Nat.mod_two_eq_zero_or_one i with e | e
    · obtain ⟨j, rfl⟩ : ∃ j, i = 2 * j := ⟨i / 2, by omega⟩
      rw [(k2 j (by omega)).1] at hv; cases hv; exact fits_lo8 _
    · obtain ⟨j, rfl⟩ : ∃ j, i = 2 * j + 1 := ⟨i / 2, by omega⟩
      rw [(k2 j (by omega)).2] at hv; cases hv; exact fits_lo8 _
/-- the same text -/
def SameT (n : Nat) (f : Nat → Int32) (k : Nat) (g : Nat → Int32) : Prop := n = k ∧ ∀ j, j < n → f j = g j
theorem lo8_inj {x y : Int32} (h0 : ¬ x < 0) (h1 : ¬ 255 < x) (k0 : ¬ y < 0) (k1 : ¬ 255 < y) (h : lo8 x = lo8 y) : x = y := by
  rw [← lo8_mask h0 h1, ← lo8_mask k0 k1, h]
/-- arrays coded by one coder are equal just where the texts are -/
theorem Cod.eqv {cd : Int32} {n k : Nat} {f g : Nat → Int32} {V V' : Cell} (h : Cod cd n f V) (h' : Cod cd k g V') (hf : ∀ j, j < n → ¬ f j < 0 ∧ ¬ 65535 < f j) (hg : ∀ j, j < k → ¬ g j < 0 ∧ ¬ 65535 < g j) : EqC V V' ↔ SameT n f k g := by
  have yvv : ∀ {W : Cell} {i : Nat} {x : Int32}, W.slots[i]? = some (.int x) → yv W i = x := fun q => by unfold yv; rw [q]
  rcases h with ⟨rfl, k1, k2⟩ | ⟨rfl, k1, k2, -⟩
  · rcases h' with ⟨-, m1, m2⟩ | ⟨e, -⟩
    · constructor
      · rintro ⟨e1, e2⟩
        refine ⟨by omega, fun j hj => ?_⟩
        have q := e2 j (by omega)
        rw [yvv (k2 j hj).1, yvv (m2 j (by omega)).1] at q
        exact lo8_inj (hf j hj).1 (k2 j hj).2 (hg j (by omega)).1 (m2 j (by omega)).2 q
      · rintro ⟨rfl, e2⟩
        refine ⟨by omega, fun j hj => ?_⟩
        rw [yvv (k2 j (by omega)).1, yvv (m2 j (by omega)).1, e2 j (by omega)]
    · exact absurd e (by decide)
  · rcases h' with ⟨e, -⟩ | ⟨-, m1, m2, -⟩
    · exact absurd e (by decide)
    · constructor
      · rintro ⟨e1, e2⟩
        refine ⟨by omega, fun j hj => ?_⟩
        have q1 := e2 (2 * j) (by omega)
        have q2 := e2 (2 * j + 1) (by omega)
        rw [yvv (k2 j hj).1, yvv (m2 j (by omega)).1] at q1
        rw [yvv (k2 j hj).2, yvv (m2 j (by omega)).2] at q2
        rw [← pair_says (hf j hj).1 (hf j hj).2, ← pair_says (hg j (by omega)).1 (hg j (by omega)).2, q1, q2]
      · rintro ⟨rfl, e2⟩
        refine ⟨by omega, fun i hi => ?_⟩
        rcases Nat.mod_two_eq_zero_or_one i with e | e
        · obtain ⟨j, rfl⟩ : ∃ j, i = 2 * j := ⟨i / 2, by omega⟩
          rw [yvv (k2 j (by omega)).1, yvv (m2 j (by omega)).1, e2 j (by omega)]
        · obtain ⟨j, rfl⟩ : ∃ j, i = 2 * j + 1 := ⟨i / 2, by omega⟩
          rw [yvv (k2 j (by omega)).2, yvv (m2 j (by omega)).2, e2 j (by omega)]
/-- two codings differ: so do the texts -/
theorem Cod.dif {cd cd' : Int32} {n k : Nat} {f g : Nat → Int32} {V V' : Cell} (h : Cod cd n f V) (h' : Cod cd' k g V') (hne : ¬ cd = cd') : ¬ SameT n f k g := by
  rintro ⟨rfl, e⟩
  rcases h with ⟨rfl, -, k2⟩ | ⟨rfl, -, -, j, hj, hw⟩
  · rcases h' with ⟨rfl, -⟩ | ⟨-, -, -, j, hj, hw⟩
    · exact hne rfl
    · exact (k2 j hj).2 (by rw [e j hj]; exact hw)
  · rcases h' with ⟨-, -, m2⟩ | ⟨rfl, -⟩
    · exact (m2 j hj).2 (by rw [← e j hj]; exact hw)
    · exact hne rfl
/-- an object of exactly C is an instance of C -/
theorem cinst {p : Program} {l : Launch} {e : Env} {R : Room} {s : State} {m : MethodId} {args : Array Value} {below : List Frame} {meth : Method} {c : Code} {T : State} {locs : List Loc} {cells slots : Nat} (X : Stand p l e R s m args below meth c T locs cells slots) (hexec : p.tables.exec = Jvm.exec) {own C : String} {index : Nat} (hown : s.vm.findClass own = some m.cls) (hlink : (Cond.classLink own index C).before args s = true) {a : Addr} (hE : Exact C a T)
    {g : JFrame} (hg : g.method = m) {rest : List Value} (hstack : g.stack = .ref a :: rest) (hdg : decode c.code g.pc = .ok (.instanceof index, 3)) :
    ∃ T', Stand p l e R s m args below meth c T' locs cells slots ∧ T'.heap = T.heap ∧ ∀ target, Steps p.tables e below (T'.setTop { g with pc := g.pc + 3, stack := .int 1 :: rest }) target → Steps p.tables e below (T.setTop g) target := by
  obtain ⟨cB, h1, D, h2, h3, h4⟩ := hE
  have h1' : s.vm.findClass C = some cB := by rw [← X.warmed.alike.findClass]; exact h1
  obtain ⟨vm', X', st⟩ := X.instanceofYes hexec hown hlink h2 h4 h1' (by rw [h3]; exact Jvm.Free.SB.assignable_self _ _) hg hstack hdg
  exact ⟨_, X', rfl, st⟩
theorem cself {p : Program} {l : Launch} {e : Env} {R : Room} {s : State} {m : MethodId} {args : Array Value} {below : List Frame} {meth : Method} {c : Code} {T : State} {locs : List Loc} {cells slots : Nat} (X : Stand p l e R s m args below meth c T locs cells slots) (hexec : p.tables.exec = Jvm.exec) {own C : String} {index : Nat} (hown : s.vm.findClass own = some m.cls) (hlink : (Cond.classLink own index C).before args s = true) {a : Addr} (hE : Exact C a T)
    {g : JFrame} (hg : g.method = m) {rest : List Value} (hstack : g.stack = .ref a :: rest) (hdg : decode c.code g.pc = .ok (.checkcast index, 3)) :
    ∃ T', Stand p l e R s m args below meth c T' locs cells slots ∧ T'.heap = T.heap ∧ ∀ target, Steps p.tables e below (T'.setTop { g with pc := g.pc + 3, stack := .ref a :: rest }) target → Steps p.tables e below (T.setTop g) target := by
  obtain ⟨cB, h1, D, h2, h3, h4⟩ := hE
  have h1' : s.vm.findClass C = some cB := by rw [← X.warmed.alike.findClass]; exact h1
  obtain ⟨vm', X', st⟩ := X.checkcastYes hexec hown hlink h2 h4 h1' (by rw [h3]; exact Jvm.Free.SB.assignable_self _ _) hg hstack hdg
  exact ⟨_, X', rfl, fun t h => st t (by rw [← hstack] at h; exact h)⟩
namespace SEq
def yN : MethodName := ⟨"java/lang/String", "equals", "(Ljava/lang/Object;)Z"⟩
abbrev yB : ByteArray := jdk_42_method_66_code
theorem d0 : decode yB 0 = .ok (.aload_n 0, 1) := by decide +kernel
theorem d1 : decode yB 1 = .ok (.aload_n 1, 1) := by decide +kernel
theorem d2 : decode yB 2 = .ok (.if_acmp (.ne) 5, 3) := by decide +kernel
theorem d5 : decode yB 5 = .ok (.iconst 1, 1) := by decide +kernel
theorem d6 : decode yB 6 = .ok (.ireturn, 1) := by decide +kernel
theorem d7 : decode yB 7 = .ok (.aload_n 1, 1) := by decide +kernel
theorem d8 : decode yB 8 = .ok (.instanceof 10, 3) := by decide +kernel
theorem d11 : decode yB 11 = .ok (.ifCond (.eq) 43, 3) := by decide +kernel
theorem d14 : decode yB 14 = .ok (.aload_n 1, 1) := by decide +kernel
theorem d15 : decode yB 15 = .ok (.checkcast 10, 3) := by decide +kernel
theorem d18 : decode yB 18 = .ok (.astore_n 2, 1) := by decide +kernel
theorem d19 : decode yB 19 = .ok (.getstatic 38, 3) := by decide +kernel
theorem d22 : decode yB 22 = .ok (.ifCond (.eq) 14, 3) := by decide +kernel
theorem d25 : decode yB 25 = .ok (.aload_n 0, 1) := by decide +kernel
theorem d26 : decode yB 26 = .ok (.getfield 15, 3) := by decide +kernel
theorem d29 : decode yB 29 = .ok (.aload_n 2, 1) := by decide +kernel
theorem d30 : decode yB 30 = .ok (.getfield 15, 3) := by decide +kernel
theorem d33 : decode yB 33 = .ok (.if_icmp (.ne) 21, 3) := by decide +kernel
theorem d36 : decode yB 36 = .ok (.aload_n 0, 1) := by decide +kernel
theorem d37 : decode yB 37 = .ok (.getfield 9, 3) := by decide +kernel
theorem d40 : decode yB 40 = .ok (.aload_n 2, 1) := by decide +kernel
theorem d41 : decode yB 41 = .ok (.getfield 9, 3) := by decide +kernel
theorem d44 : decode yB 44 = .ok (.invokestatic 541, 3) := by decide +kernel
theorem d47 : decode yB 47 = .ok (.ifCond (.eq) 7, 3) := by decide +kernel
theorem d50 : decode yB 50 = .ok (.iconst 1, 1) := by decide +kernel
theorem d51 : decode yB 51 = .ok (.goto 4, 3) := by decide +kernel
theorem d54 : decode yB 54 = .ok (.iconst 0, 1) := by decide +kernel
theorem d55 : decode yB 55 = .ok (.ireturn, 1) := by decide +kernel
def site : List Cond := [.classLink "java/lang/String" 10 "java/lang/String", .fieldLink "java/lang/String" 38 "java/lang/String" "COMPACT_STRINGS" "Z", .fieldLink "java/lang/String" 15 "java/lang/String" "coder" "B", .fieldLink "java/lang/String" 9 "java/lang/String" "value" "[B", LEq.tab] ++ staticW "java/lang/String" 541 LEq.yN
def tab : Cond := tabOf yN yB 3 (some .boolean) site
def P (x t : Addr) (V : Cell) (cd : Int32) (n : Nat) (f : Nat → Int32) (y t' : Addr) (V' : Cell) (cd' : Int32) (k : Nat) (g : Nat → Int32) (z : Int32) (args : Array Value) (s : State) : Prop := args = #[.ref x, .ref y] ∧ Txt x t V cd n f s ∧ Txt y t' V' cd' k g s ∧ StaticIs s "java/lang/String" "COMPACT_STRINGS" "Z" (.int z) ∧ ¬ z = 0
/-- equals(Object) of two Strings: whether the texts are the same -/
theorem law (l : Launch) (x t : Addr) (V : Cell) (cd : Int32) (n : Nat) (f : Nat → Int32) (y t' : Addr) (V' : Cell) (cd' : Int32) (k : Nat) (g : Nat → Int32) (z : Int32) : Law l yN 2 1 1 14 yB 3 (some .boolean) site (P x t V cd n f y t' V' cd' k g z) (Says01 (SameT n f k g)) [] 0 0 := by
  refine Law.of_walk (plainFor_of_name (by decide +kernel)) (by decide +kernel) (by decide +kernel) (by decide) (fun _ _ h => by rw [h.1]; rfl) (fun _ U U' hal hh h => ⟨h.1, h.2.1.mv hal hh, h.2.2.1.mv hal hh, h.2.2.2.1.there hal hh, h.2.2.2.2⟩) (fun r U U' V V' h1 hal h2 h => Says01.mv r U U' V V' h1 hal h2 h) ?_
  intro p e s m args below meth c s₁ X0 hexec hbytes hml hret hlk hnm hown hh0 W hP
  obtain ⟨rfl, hx, hy, s1, hz⟩ := hP
  have c1 : Steps p.tables e below (s₁.setTop (entryFrame m #[.ref x, .ref y] 3)) (s₁.setTop (mkF m 2 #[.val (.ref x), .val (.ref y), .unset] [.ref y, .ref x])) := Steps.trans (entry rfl) (by
    show Steps p.tables e below (s₁.setTop (mkF m 0 #[.val (.ref x), .val (.ref y), .unset] [])) _
    refine XS.aloadN X0.here hexec rfl (hb hbytes d0) rfl rfl ?_
    refine XS.aloadN X0.here hexec rfl (hb hbytes d1) rfl rfl ?_
    exact Steps.refl _)
  by_cases hxy : x = y
  · have c2 : Steps p.tables e below (s₁.setTop (entryFrame m #[.ref x, .ref y] 3)) (s₁.setTop (mkF m 6 #[.val (.ref x), .val (.ref y), .unset] [.int 1])) := c1.trans (by
      refine acmpNo X0.here hexec rfl (hb hbytes d2) rfl rfl rfl (by simp [acmp, hxy]) ?_
      refine iconstV X0.here hexec rfl 1 (hb hbytes d5) (by decide) ?_
      exact Steps.refl _)
    subst hxy
    have ec : cd = cd' := by
      obtain ⟨D, fd, a1, a2, a3⟩ := hx.2.2.1
      obtain ⟨D', fd', b1, b2, b3⟩ := hy.2.2.1
      cases a1.symm.trans b1
      obtain ⟨q1, q2, q3, q4⟩ := a2.1
      obtain ⟨r1, r2, r3, r4⟩ := b2.1
      cases q4.symm.trans r4
      cases a3.symm.trans b3; rfl
    have et : t = t' := by
      obtain ⟨D, fd, a1, a2, a3⟩ := hx.2.1
      obtain ⟨D', fd', b1, b2, b3⟩ := hy.2.1
      cases a1.symm.trans b1
      obtain ⟨q1, q2, q3, q4⟩ := a2.1
      obtain ⟨r1, r2, r3, r4⟩ := b2.1
      cases q4.symm.trans r4
      cases a3.symm.trans b3; rfl
    subst ec et
    have ev : V = V' := by cases hx.2.2.2.1.1.symm.trans hy.2.2.2.1.1; rfl
    subst ev
    have hs : SameT n f k g := (Cod.eqv hx.2.2.2.2.1 hy.2.2.2.2.1 hx.2.2.2.2.2 hy.2.2.2.2.2).mp ⟨rfl, fun _ _ => rfl⟩
    exact ⟨s₁, some (.int 1), _, _, _, X0, rfl, rfl, rfl, (fun h => by cases h), ⟨1, rfl, hh0, Or.inl ⟨rfl, hs⟩⟩, fun fs hl => c2.trans (X0.ireturnOut hexec hret rfl (Or.inr (Or.inl rfl)) (hb hbytes d6) hl)⟩
  · have c2 : Steps p.tables e below (s₁.setTop (entryFrame m #[.ref x, .ref y] 3)) (s₁.setTop (mkF m 8 #[.val (.ref x), .val (.ref y), .unset] [.ref y])) := c1.trans (by
      refine acmpYes X0.here hexec rfl (pc0 := 2) rfl (hb hbytes d2) rfl rfl rfl (by simp [acmp, hxy]) (by decide) rfl ?_
      refine XS.aloadN X0.here hexec rfl (hb hbytes d7) rfl rfl ?_
      exact Steps.refl _)
    obtain ⟨T3, X3, q3, st3⟩ := cinst X0 hexec hown (wk W (.classLink "java/lang/String" 10 "java/lang/String")) (hy.mv X0.warmed.alike hh0).1 (g := (mkF m 8 #[.val (.ref x), .val (.ref y), .unset] [.ref y])) rfl (rest := []) rfl (hb hbytes d8)
    have hh3 := q3.trans hh0
    have c4 : Steps p.tables e below (s₁.setTop (entryFrame m #[.ref x, .ref y] 3)) (T3.setTop (mkF m 15 #[.val (.ref x), .val (.ref y), .unset] [.ref y])) := (c2.trans (st3 _ (Steps.refl _))).trans (by
      refine XS.ifNo X3.here hexec rfl (hb hbytes d11) rfl (i0_eq_f (by decide)) ?_
      refine XS.aloadN X3.here hexec rfl (hb hbytes d14) rfl rfl ?_
      exact Steps.refl _)
    obtain ⟨T5, X5, q5, st5⟩ := cself X3 hexec hown (wk W (.classLink "java/lang/String" 10 "java/lang/String")) (hy.mv X3.warmed.alike hh3).1 (g := (mkF m 15 #[.val (.ref x), .val (.ref y), .unset] [.ref y])) rfl (rest := []) rfl (hb hbytes d15)
    have hh5 := q5.trans hh3
    have c6 : Steps p.tables e below (s₁.setTop (entryFrame m #[.ref x, .ref y] 3)) (T5.setTop (mkF m 19 #[.val (.ref x), .val (.ref y), .val (.ref y)] [])) := (c4.trans (st5 _ (Steps.refl _))).trans (by
      refine XS.astoreN X5.here hexec rfl (hb hbytes d18) rfl rfl rfl ?_
      exact Steps.refl _)
    obtain ⟨T7, X7, q7, st7⟩ := X5.sget hexec hown (wk W (.fieldLink "java/lang/String" 38 "java/lang/String" "COMPACT_STRINGS" "Z")) s1 (fun _ _ h => by rw [hh5]; exact h) (g := (mkF m 19 #[.val (.ref x), .val (.ref y), .val (.ref y)] [])) rfl (hb hbytes d19)
    have hh7 := q7.trans hh5
    have c8 : Steps p.tables e below (s₁.setTop (entryFrame m #[.ref x, .ref y] 3)) (T7.setTop (mkF m 26 #[.val (.ref x), .val (.ref y), .val (.ref y)] [.ref x])) := (c6.trans (st7 _ (Steps.refl _))).trans (by
      refine XS.ifNo X7.here hexec rfl (hb hbytes d22) rfl (i0_eq_f hz) ?_
      refine XS.aloadN X7.here hexec rfl (hb hbytes d25) rfl rfl ?_
      exact Steps.refl _)
    obtain ⟨T9, X9, q9, st9⟩ := X7.hget hexec hown (wk W (.fieldLink "java/lang/String" 15 "java/lang/String" "coder" "B")) (hx.mv X7.warmed.alike hh7).2.2.1 (g := (mkF m 26 #[.val (.ref x), .val (.ref y), .val (.ref y)] [.ref x])) rfl (rest := []) rfl (hb hbytes d26)
    have hh9 := q9.trans hh7
    have c10 : Steps p.tables e below (s₁.setTop (entryFrame m #[.ref x, .ref y] 3)) (T9.setTop (mkF m 30 #[.val (.ref x), .val (.ref y), .val (.ref y)] [.ref y, .int cd])) := (c8.trans (st9 _ (Steps.refl _))).trans (by
      refine XS.aloadN X9.here hexec rfl (hb hbytes d29) rfl rfl ?_
      exact Steps.refl _)
    obtain ⟨T11, X11, q11, st11⟩ := X9.hget hexec hown (wk W (.fieldLink "java/lang/String" 15 "java/lang/String" "coder" "B")) (hy.mv X9.warmed.alike hh9).2.2.1 (g := (mkF m 30 #[.val (.ref x), .val (.ref y), .val (.ref y)] [.ref y, .int cd])) rfl (rest := [.int cd]) rfl (hb hbytes d30)
    have hh11 := q11.trans hh9
    have c12 : Steps p.tables e below (s₁.setTop (entryFrame m #[.ref x, .ref y] 3)) (T11.setTop (mkF m 33 #[.val (.ref x), .val (.ref y), .val (.ref y)] [.int cd', .int cd])) := c10.trans (st11 _ (Steps.refl _))
    by_cases hcd : cd = cd'
    · subst hcd
      have c13 : Steps p.tables e below (s₁.setTop (entryFrame m #[.ref x, .ref y] 3)) (T11.setTop (mkF m 37 #[.val (.ref x), .val (.ref y), .val (.ref y)] [.ref x])) := c12.trans (by
        refine XS.icmpNo X11.here hexec rfl (hb hbytes d33) rfl (ii_ne_f rfl) ?_
        refine XS.aloadN X11.here hexec rfl (hb hbytes d36) rfl rfl ?_
        exact Steps.refl _)
      obtain ⟨T14, X14, q14, st14⟩ := X11.hget hexec hown (wk W (.fieldLink "java/lang/String" 9 "java/lang/String" "value" "[B")) (hx.mv X11.warmed.alike hh11).2.1 (g := (mkF m 37 #[.val (.ref x), .val (.ref y), .val (.ref y)] [.ref x])) rfl (rest := []) rfl (hb hbytes d37)
      have hh14 := q14.trans hh11
      have c15 : Steps p.tables e below (s₁.setTop (entryFrame m #[.ref x, .ref y] 3)) (T14.setTop (mkF m 41 #[.val (.ref x), .val (.ref y), .val (.ref y)] [.ref y, .ref t])) := (c13.trans (st14 _ (Steps.refl _))).trans (by
        refine XS.aloadN X14.here hexec rfl (hb hbytes d40) rfl rfl ?_
        exact Steps.refl _)
      obtain ⟨T16, X16, q16, st16⟩ := X14.hget hexec hown (wk W (.fieldLink "java/lang/String" 9 "java/lang/String" "value" "[B")) (hy.mv X14.warmed.alike hh14).2.1 (g := (mkF m 41 #[.val (.ref x), .val (.ref y), .val (.ref y)] [.ref y, .ref t])) rfl (rest := [.ref t]) rfl (hb hbytes d41)
      have hh16 := q16.trans hh14
      have c17 : Steps p.tables e below (s₁.setTop (entryFrame m #[.ref x, .ref y] 3)) (T16.setTop (mkF m 44 #[.val (.ref x), .val (.ref y), .val (.ref y)] [.ref t', .ref t])) := c15.trans (st16 _ (Steps.refl _))
      obtain ⟨v18, T18, X18, E18, g18⟩ := X16.callS hexec (LEq.law l t V t' V') hown (wks W (staticW "java/lang/String" 541 LEq.yN)) (wk W LEq.tab) (W := 0) (Nat.le_of_ble_eq_true rfl) (Nat.le_of_ble_eq_true rfl) (Nat.le_refl _) (Nat.le_refl _) (g := (mkF m 44 #[.val (.ref x), .val (.ref y), .val (.ref y)] [.ref t', .ref t])) rfl (by rw [hml]; rfl) c17 (argsL := [.ref t, .ref t']) (rest := []) rfl rfl (by show 2 * 0 + 0 ≤ _; decide) (hb hbytes d44) (⟨rfl, hx.2.2.2.1.mv X16.warmed.alike hh16, hx.2.2.2.2.1.ty, hy.2.2.2.1.mv X16.warmed.alike hh16, hy.2.2.2.2.1.ty⟩)
      obtain ⟨v, rfl, q18, hv⟩ := E18
      have iff := Cod.eqv hx.2.2.2.2.1 hy.2.2.2.2.1 hx.2.2.2.2.2 hy.2.2.2.2.2
      rcases hv with ⟨rfl, he⟩ | ⟨rfl, he⟩
      · have c19 : Steps p.tables e below (s₁.setTop (entryFrame m #[.ref x, .ref y] 3)) (T18.setTop (mkF m 55 #[.val (.ref x), .val (.ref y), .val (.ref y)] [.int 1])) := Steps.trans g18 (by
          refine XS.ifNo X18.here hexec rfl (hb hbytes d47) rfl (i0_eq_f (by decide)) ?_
          refine iconstV X18.here hexec rfl 1 (hb hbytes d50) (by decide) ?_
          refine XS.goto X18.here hexec rfl (pc0 := 51) rfl (hb hbytes d51) (by decide) rfl ?_
          exact Steps.refl _)
        exact ⟨T18, some (.int 1), _, _, _, X18, rfl, rfl, rfl, (fun h => by cases h), ⟨1, rfl, q18.trans hh16, Or.inl ⟨rfl, iff.mp he⟩⟩, fun fs hl => c19.trans (X18.ireturnOut hexec hret rfl (Or.inr (Or.inl rfl)) (hb hbytes d55) hl)⟩
      · have c19 : Steps p.tables e below (s₁.setTop (entryFrame m #[.ref x, .ref y] 3)) (T18.setTop (mkF m 55 #[.val (.ref x), .val (.ref y), .val (.ref y)] [.int 0])) := Steps.trans g18 (by
          refine XS.ifYes X18.here hexec rfl (pc0 := 47) rfl (hb hbytes d47) rfl (i0_eq_t rfl) (by decide) rfl ?_
          refine iconstV X18.here hexec rfl 0 (hb hbytes d54) (by decide) ?_
          exact Steps.refl _)
        exact ⟨T18, some (.int 0), _, _, _, X18, rfl, rfl, rfl, (fun h => by cases h), ⟨0, rfl, q18.trans hh16, Or.inr ⟨rfl, fun q => he (iff.mpr q)⟩⟩, fun fs hl => c19.trans (X18.ireturnOut hexec hret rfl (Or.inr (Or.inl rfl)) (hb hbytes d55) hl)⟩
    · have c13 : Steps p.tables e below (s₁.setTop (entryFrame m #[.ref x, .ref y] 3)) (T11.setTop (mkF m 55 #[.val (.ref x), .val (.ref y), .val (.ref y)] [.int 0])) := c12.trans (by
        refine XS.icmpYes X11.here hexec rfl (pc0 := 33) rfl (hb hbytes d33) rfl (ii_ne_t hcd) (by decide) rfl ?_
        refine iconstV X11.here hexec rfl 0 (hb hbytes d54) (by decide) ?_
        exact Steps.refl _)
      exact ⟨T11, some (.int 0), _, _, _, X11, rfl, rfl, rfl, (fun h => by cases h), ⟨0, rfl, hh11, Or.inr ⟨rfl, Cod.dif hx.2.2.2.2.1 hy.2.2.2.2.1 hcd⟩⟩, fun fs hl => c13.trans (X11.ireturnOut hexec hret rfl (Or.inr (Or.inl rfl)) (hb hbytes d55) hl)⟩
theorem pays {l : Launch} {R : Room} {p : Program} {e : Env} {below : List Frame} {s : State} {sargs : Array Value} {len W : Nat} (x t : Addr) (V : Cell) (cd : Int32) (n : Nat) (f : Nat → Int32) (y t' : Addr) (V' : Cell) (cd' : Int32) (k : Nat) (g : Nat → Int32) (z : Int32) (htab : tab.before sargs s = true) (hfr : 2 ≤ R.frames) (hlo : W + 28 ≤ R.locals) :
    Back l R p e below s sargs yN len W (fun A₁ a₁ => A₁.cells + 0 ≤ R.cells ∧ A₁.slots + 0 ≤ R.slots ∧ P x t V cd n f y t' V' cd' k g z a₁ A₁.U) (fun A₁ _ v₁ B₁ => Says01 (SameT n f k g) v₁ A₁.U B₁.U ∧ B₁.locs = A₁.locs ++ [] ∧ B₁.cells = A₁.cells + 0 ∧ B₁.slots = A₁.slots + 0) :=
  (law l x t V cd n f y t' V' cd' k g z).pays htab hfr (by omega)
end SEq
end StrChars
namespace StrChars.Road
open Jvm Sem ClassFile Op Lib Jvm.Stand Jvm.Free Jvm.Free.XT
open Jvm.Lib.Cold (StaticIs)
/-- the words of String.equals(Object) -/
abbrev wordsEq : List Jvm.Cond := [.code SEq.yN SEq.yB 3 (some .boolean), .initialized ST, .classLink ST 10 ST, .fieldLink ST 38 ST "COMPACT_STRINGS" "Z", .fieldLink ST 15 ST "coder" "B", .fieldLink ST 9 ST "value" "[B", .methodLink ST 541 LEq.yN, .static LEq.yN, .code LEq.yN LEq.yB 3 (some .boolean), .initialized "java/lang/StringLatin1"]
theorem tabEq_of {a : Array Value} {s : State} (h : ∀ w ∈ wordsEq, w.before a s = true) : SEq.tab.before a s = true := by
  have hl : LEq.tab.before a s = true := unparts (wk h (.code LEq.yN LEq.yB 3 (some .boolean))) (wks h (.initialized LEq.yN.cls :: LEq.site))
  have q := consq hl h
  exact unparts (wk q (.code SEq.yN SEq.yB 3 (some .boolean))) (wks q (.initialized SEq.yN.cls :: SEq.site))
theorem movedEq {Z s : State} {a0 args : Array Value} (hZ : Z.Warmed39 s.vm) (hw : ∀ d ∈ wordsEq, d.before a0 Z = true) : ∀ d ∈ wordsEq, d.before args s = true := fun d hd => by
  have t : ∀ d ∈ wordsEq, (d.onTables && d.keepsFace) = true := by decide +kernel
  exact RoadKit.mv hZ (hw d hd) (t d hd)
/-- the road's facts of a String, as the laws ask it -/
theorem txt_of {Z U : State} {a0 : Array Value} {kI : Nat} (wi : (Jvm.Cond.instantiable ST kI).before a0 Z = true) (al : Z.vm.Alike U.vm) {x t : Addr} {kb : ClassId} {cs : List Int32} {cd N2 : Int32} {vs : List Value} (E : RoadKit.Exa Z U.heap x ST) (V : RoadKit.Fld Z U.heap x ST "value" "[B" (.ref t)) (C : RoadKit.Fld Z U.heap x ST "coder" "B" (.int cd)) (K : RoadKit.Arv Z U.heap t kb .byte N2 vs (.int 0)) (hc : CodA cs cd N2 vs) (hb : ∀ c ∈ cs, ¬ c < 0 ∧ ¬ (65535 : Int32) < c) (l2 : cs.length ≤ 4000) :
    ∃ A, Txt x t A cd cs.length (fun j => cs.getD j 0) U := by
  obtain ⟨A, K1, K2, K3, K4, K5, K6⟩ := K
  have hcod := hc.cod (by omega) K3 K5
  obtain ⟨D, fV, fC, hB, F1, F2, g1, g2, -, -⟩ := strObj wi al E V C
  exact ⟨A, ⟨_, hB.2.2.1, D, hB.1, rfl, by cases q : D.vm <;> first | rfl | exact absurd q (hB.2.1.2 _)⟩, Has.of hB F1 g1, Has.of hB F2 g2, ⟨K1.1, State.isArrayOf_alike al K1.2.1, K1.2.2, by rcases hcod with ⟨-, q, -⟩ | ⟨-, q, -⟩ <;> omega⟩, hcod, fun j hj => by
    have e : cs.getD j 0 = cs[j] := by simp [List.getD_eq_getElem?_getD, hj]
    show ¬ cs.getD j 0 < 0 ∧ ¬ 65535 < cs.getD j 0
    rw [e]; exact hb _ (List.getElem_mem _)⟩
theorem same_list (cs ds : List Int32) : SameT cs.length (fun j => cs.getD j 0) ds.length (fun j => ds.getD j 0) ↔ cs = ds := by
  constructor
  · rintro ⟨e, q⟩
    refine List.ext_getElem e fun j h1 h2 => ?_
    have := q j h1
    simpa [List.getD_eq_getElem?_getD, h1, h2] using this
  · rintro rfl
    exact ⟨rfl, fun _ _ => rfl⟩
/-- **equals(Object) OF TWO SUCH STRINGS**: 1 just where the chars are the same -/
theorem eqW {p : Program} {l : Launch} {e : Env} {R : Room} {s : State} {args : Array Value} {below : List Frame} {len W : Nat} {Z : State} {a0 : Array Value} {h : Heap} (hZ : Z.Warmed39 s.vm) (hw : ∀ d ∈ wordsEq, d.before a0 Z = true) {kI : Nat} (wi : (Jvm.Cond.instantiable ST kI).before a0 Z = true)
    {x t : Addr} {kb : ClassId} {cs : List Int32} {cd N2 : Int32} {vs : List Value} (E : RoadKit.Exa Z h x ST) (V : RoadKit.Fld Z h x ST "value" "[B" (.ref t)) (C : RoadKit.Fld Z h x ST "coder" "B" (.int cd)) (K : RoadKit.Arv Z h t kb .byte N2 vs (.int 0)) (hc : CodA cs cd N2 vs) (hb : ∀ c ∈ cs, ¬ c < 0 ∧ ¬ (65535 : Int32) < c) (l2 : cs.length ≤ 4000)
    {y t' : Addr} {kb' : ClassId} {ds : List Int32} {cd' N2' : Int32} {vs' : List Value} (E' : RoadKit.Exa Z h y ST) (V' : RoadKit.Fld Z h y ST "value" "[B" (.ref t')) (C' : RoadKit.Fld Z h y ST "coder" "B" (.int cd')) (K' : RoadKit.Arv Z h t' kb' .byte N2' vs' (.int 0)) (hc' : CodA ds cd' N2' vs') (hb' : ∀ c ∈ ds, ¬ c < 0 ∧ ¬ (65535 : Int32) < c) (l2' : ds.length ≤ 4000)
    {z : Int32} (S : RoadKit.Sta Z h ST "COMPACT_STRINGS" "Z" (.int z)) (hz : ¬ z = 0) (hfr : 2 ≤ R.frames) (hlo : W + 28 ≤ R.locals) :
    Back l R p e below s args (⟨"java/lang/String", "equals", "(Ljava/lang/Object;)Z"⟩ : MethodName) len W (fun P a => a = #[.ref x, .ref y] ∧ P.U.heap = h ∧ P.cells + 0 ≤ R.cells ∧ P.slots + 0 ≤ R.slots)
      (fun P _ v B => ∃ L, (((v = some (.int 1) ∧ cs = ds) ∨ (v = some (.int 0) ∧ ¬ cs = ds)) ∧ L = [] ∧ B.U.heap = h) ∧ B.locs = P.locs ++ L ∧ B.cells = P.cells + 0 ∧ B.slots = P.slots + 0) := by
  intro m meth c P g ig mk a X hg hsize hdg hW hn hp'
  obtain ⟨rfl, rfl, r1, r2⟩ := hp'
  have al : Z.vm.Alike P.U.vm := hZ.alike.trans X.warmed.alike
  obtain ⟨A, hx⟩ := txt_of wi al E V C K hc hb l2
  obtain ⟨A', hy⟩ := txt_of wi al E' V' C' K' hc' hb' l2'
  obtain ⟨v, B, X', ⟨⟨w, hv, hh, hq⟩, hl, hk, hs⟩, st⟩ := SEq.pays x t A cd cs.length (fun j => cs.getD j 0) y t' A' cd' ds.length (fun j => ds.getD j 0) z (tabEq_of (movedEq hZ hw)) hfr hlo m meth c P g ig mk _ X hg hsize hdg hW hn ⟨r1, r2, rfl, hx, hy, sta_is al S, hz⟩
  refine ⟨v, B, X', ⟨[], ⟨?_, rfl, hh⟩, hl, hk, hs⟩, st⟩
  rcases hq with ⟨rfl, q⟩ | ⟨rfl, q⟩
  · exact Or.inl ⟨hv, (same_list cs ds).mp q⟩
  · exact Or.inr ⟨hv, fun e => q ((same_list cs ds).mpr e)⟩
end StrChars.Road
namespace StrChars.Road
open Jvm Sem ClassFile Op Lib Jvm.Stand Jvm.Free Jvm.Free.XT
open Jvm.Lib.Cold (StaticIs)
/-- what backV says of its String, as the contracts of this text ask it: cs's low bytes, coder 0 -/
theorem codOf {cs : List Int32} {n : Nat} (hn : cs.length = n) (hb : ∀ c ∈ cs, ¬ 255 < c) : CodA cs 0 (Int32.ofNat n) ((cs.map lo8).map Value.int) := Or.inl ⟨rfl, by rw [hn], by simp [List.map_map, Function.comp_def], hb⟩
end StrChars.Road
end Jvm.Pilot.@@N@@
namespace Jvm.Pilot.@@N@@
open Jvm Jvm.ClassFile Sem Op Lib Jvm.Free Jvm.Stand Jvm.LawKit Jvm.RoadKit Bundle Jvm.Own Jvm.Pilot.@@N@@.Jvm.D
theorem own_EL {Z : State} {a0 : Array Value} (hw : ∀ d ∈ tables_1, d.before a0 Z = true) : EW Z a0 consts_1 := (EW.cons (hw _ (List.mem_of_getElem? (i := 67) rfl)) (by decide) (EW.cons (hw _ (List.mem_of_getElem? (i := 20) rfl)) (by decide) EW.nil))
theorem own_wS {Z : State} {a0 : Array Value} (hw : ∀ d ∈ tables_1, d.before a0 Z = true) : ∀ d ∈ Bundle.stringAtoms, d.before a0 Z = true := fun d hd => hw d ((by decide +kernel : ∀ d ∈ Bundle.stringAtoms, d ∈ tables_1) d hd)
theorem own_hLen {Z : State} {a0 : Array Value} (hw : ∀ d ∈ tables_1, d.before a0 Z = true) : ∀ d ∈ StrChars.Road.wordsLen, d.before a0 Z = true := fun d hd => hw d ((by decide +kernel : ∀ d ∈ StrChars.Road.wordsLen, d ∈ tables_1) d hd)
theorem own_hEq {Z : State} {a0 : Array Value} (hw : ∀ d ∈ tables_1, d.before a0 Z = true) : ∀ d ∈ StrChars.Road.wordsEq, d.before a0 Z = true := fun d hd => hw d ((by decide +kernel : ∀ d ∈ StrChars.Road.wordsEq, d ∈ tables_1) d hd)
/-- the first place of c in a list, counted from i; -1 where there is none -/
def fix (c : Int32) : List Int32 → Nat → Int32
  | [], _ => -1
  | d :: ds, i => if d = c then Int32.ofNat i else fix c ds (i + 1)
theorem drop_at {cs : List Int32} {i : Nat} (h : i < cs.length) : cs.drop i = cs.getD i 0 :: cs.drop (i + 1) := by
  rw [List.drop_eq_getElem_cons h]; simp [List.getD_eq_getElem?_getD, h]
theorem fix_here {cs : List Int32} {c : Int32} {i : Nat} (h : i < cs.length) (e : cs.getD i 0 = c) : fix c (cs.drop i) i = Int32.ofNat i := by rw [drop_at h, fix, if_pos e]
theorem fix_next {cs : List Int32} {c : Int32} {i : Nat} (h : i < cs.length) (e : ¬ cs.getD i 0 = c) : fix c (cs.drop i) i = fix c (cs.drop (i + 1)) (i + 1) := by rw [drop_at h, fix, if_neg e]
theorem fix_end {cs : List Int32} {c : Int32} {i : Nat} (h : i + 0 = cs.length) : fix c (cs.drop i) i = -1 := by rw [List.drop_of_length_le (by omega)]; rfl
/-- the last place of c among the first n -/
def lix (c : Int32) (cs : List Int32) : Nat → Int32
  | 0 => -1
  | n + 1 => if cs.getD n 0 = c then Int32.ofNat n else lix c cs n
theorem lat_at {cs : List Int32} {i : Nat} (h : i < cs.length) : ((cs.map fun c => c.toInt8.toInt32).map Value.int)[i]? = some (.int (cs.getD i 0).toInt8.toInt32) := by
  simp [List.getD_eq_getElem?_getD, h]
theorem lat_all {cs : List Int32} (hl : ∀ c ∈ cs, Lt8 c) {i : Nat} (h : i < cs.length) : Lt8 (cs.getD i 0) := by
  have e : cs.getD i 0 = cs[i] := by simp [List.getD_eq_getElem?_getD, h]
  rw [e]; exact hl _ (List.getElem_mem h)
theorem lo8_inj {x y : Int32} (hx : Lt8 x) (hy : Lt8 y) (h : x.toInt8.toInt32 = y.toInt8.toInt32) : x = y := by
  have a := StrChars.lo8_mask hx.1 hx.2
  have b := StrChars.lo8_mask hy.1 hy.2
  have e : StrChars.lo8 x = StrChars.lo8 y := h
  rw [e] at a; exact a.symm.trans b
theorem lt_ofNat {i n : Nat} (h : i < n) (hn : n ≤ 4000) : Int32.ofNat i < Int32.ofNat n := by
  have e1 : (Int32.ofNat i).toInt = i := Int32.toInt_ofNat_of_lt (by omega)
  have e2 : (Int32.ofNat n).toInt = n := Int32.toInt_ofNat_of_lt (by omega)
  rw [Int32.lt_iff_toInt_lt, e1, e2]; omega
theorem not_lt_ofNat {i n : Nat} (h : n ≤ i) (hn : i ≤ 4000) : ¬ Int32.ofNat i < Int32.ofNat n := by
  have e1 : (Int32.ofNat i).toInt = i := Int32.toInt_ofNat_of_lt (by omega)
  have e2 : (Int32.ofNat n).toInt = n := Int32.toInt_ofNat_of_lt (by omega)
  rw [Int32.lt_iff_toInt_lt, e1, e2]; omega
theorem ofNat_succ (i : Nat) : Int32.ofNat i + 1 = Int32.ofNat (i + 1) := by rw [Int32.ofNat_add]; rfl
theorem ofNat_pred (i : Nat) : Int32.ofNat (i + 1) - 1 = Int32.ofNat i := by rw [← ofNat_succ, Int32.add_sub_cancel]
theorem ofNat_dec (i : Nat) : Int32.ofNat i + (-1) = Int32.ofNat i - 1 := by rw [Int32.sub_eq_add_neg]
theorem fix_none {c : Int32} {cs : List Int32} (h : ¬ (0 : Int32) < Int32.ofNat cs.length) (hn : cs.length ≤ 4000) : fix c cs 0 = -1 := by
  cases cs with
  | nil => rfl
  | cons d ds => exact absurd (lt_ofNat (i := 0) (n := (d :: ds).length) (by simp) hn) h

theorem e0_0 : decode jdk_42_method_149_code 0 = .ok (.aload_n 0, 1) := by decide +kernel
theorem e0_1 : decode jdk_42_method_149_code 1 = .ok (.invokespecial 1, 3) := by decide +kernel
theorem e0_4 : decode jdk_42_method_149_code 4 = .ok (.iload_n 3, 1) := by decide +kernel
theorem e0_5 : decode jdk_42_method_149_code 5 = .ok (.ifCond .ne 22, 3) := by decide +kernel
theorem e0_8 : decode jdk_42_method_149_code 8 = .ok (.aload_n 0, 1) := by decide +kernel
theorem e0_9 : decode jdk_42_method_149_code 9 = .ok (.ldc 7, 2) := by decide +kernel
theorem e0_11 : decode jdk_42_method_149_code 11 = .ok (.getfield 9, 3) := by decide +kernel
theorem e0_14 : decode jdk_42_method_149_code 14 = .ok (.putfield 9, 3) := by decide +kernel
theorem e0_17 : decode jdk_42_method_149_code 17 = .ok (.aload_n 0, 1) := by decide +kernel
theorem e0_18 : decode jdk_42_method_149_code 18 = .ok (.ldc 7, 2) := by decide +kernel
theorem e0_20 : decode jdk_42_method_149_code 20 = .ok (.getfield 15, 3) := by decide +kernel
theorem e0_23 : decode jdk_42_method_149_code 23 = .ok (.putfield 15, 3) := by decide +kernel
theorem e0_26 : decode jdk_42_method_149_code 26 = .ok (.return_, 1) := by decide +kernel
theorem e0_27 : decode jdk_42_method_149_code 27 = .ok (.getstatic 38, 3) := by decide +kernel
theorem e0_30 : decode jdk_42_method_149_code 30 = .ok (.ifCond .eq 28, 3) := by decide +kernel
theorem e0_33 : decode jdk_42_method_149_code 33 = .ok (.aload_n 1, 1) := by decide +kernel
theorem e0_34 : decode jdk_42_method_149_code 34 = .ok (.iload_n 2, 1) := by decide +kernel
theorem e0_35 : decode jdk_42_method_149_code 35 = .ok (.iload_n 3, 1) := by decide +kernel
theorem e0_36 : decode jdk_42_method_149_code 36 = .ok (.invokestatic 177, 3) := by decide +kernel
theorem e0_39 : decode jdk_42_method_149_code 39 = .ok (.astore 5, 2) := by decide +kernel
theorem e0_41 : decode jdk_42_method_149_code 41 = .ok (.aload_n 0, 1) := by decide +kernel
theorem e0_42 : decode jdk_42_method_149_code 42 = .ok (.aload 5, 2) := by decide +kernel
theorem e0_44 : decode jdk_42_method_149_code 44 = .ok (.iload_n 3, 1) := by decide +kernel
theorem e0_45 : decode jdk_42_method_149_code 45 = .ok (.invokestatic 47, 3) := by decide +kernel
theorem e0_48 : decode jdk_42_method_149_code 48 = .ok (.putfield 15, 3) := by decide +kernel
theorem e0_51 : decode jdk_42_method_149_code 51 = .ok (.aload_n 0, 1) := by decide +kernel
theorem e0_52 : decode jdk_42_method_149_code 52 = .ok (.aload 5, 2) := by decide +kernel
theorem e0_54 : decode jdk_42_method_149_code 54 = .ok (.putfield 9, 3) := by decide +kernel
theorem e0_57 : decode jdk_42_method_149_code 57 = .ok (.return_, 1) := by decide +kernel
theorem e0_58 : decode jdk_42_method_149_code 58 = .ok (.aload_n 0, 1) := by decide +kernel
theorem e0_59 : decode jdk_42_method_149_code 59 = .ok (.iconst 1, 1) := by decide +kernel
theorem e0_60 : decode jdk_42_method_149_code 60 = .ok (.putfield 15, 3) := by decide +kernel
theorem e0_63 : decode jdk_42_method_149_code 63 = .ok (.aload_n 0, 1) := by decide +kernel
theorem e0_64 : decode jdk_42_method_149_code 64 = .ok (.aload_n 1, 1) := by decide +kernel
theorem e0_65 : decode jdk_42_method_149_code 65 = .ok (.iload_n 2, 1) := by decide +kernel
theorem e0_66 : decode jdk_42_method_149_code 66 = .ok (.iload_n 3, 1) := by decide +kernel
theorem e0_67 : decode jdk_42_method_149_code 67 = .ok (.invokestatic 180, 3) := by decide +kernel
theorem e0_70 : decode jdk_42_method_149_code 70 = .ok (.putfield 9, 3) := by decide +kernel
theorem e0_73 : decode jdk_42_method_149_code 73 = .ok (.return_, 1) := by decide +kernel
theorem pn0 : plainName "java/lang/String" = true := by first | (simp [plainName, overriddenIn]; done) | decide +kernel
set_option maxRecDepth 65536 in
set_option maxHeartbeats 40000000 in
theorem con_new4E (l : Launch) (Z : State) (a0 : Array Value) (hw : ∀ d ∈ tables_1, d.before a0 Z = true) (x b : Addr) (h0 : Heap) (O0 : Ext Z.heap h0) (X_x : Exa Z h0 x "java/lang/String") (F_value_x : Fld Z h0 x "java/lang/String" "value" "[B" .null) (F_coder_x : Fld Z h0 x "java/lang/String" "coder" "B" (.int (0 : Int32))) (n_x : Z.heap.size ≤ x) :
    Con l Z consts_1 false (⟨"java/lang/String", "<init>", "([CIILjava/lang/Void;)V"⟩ : MethodName) jdk_42_method_149_code 6 none [] ({ frames := 1, cells := 4, slots := 8, locals := 12 } : Room) #[(.ref x), (.ref b), (.int (0 : Int32)), (.int (0 : Int32)), .null] [] h0 (fun v h => v = none ∧ Keep h0 h [x] ∧ Sg Z h x []) := by
  refine Con.intro (Ls := #[.val (.ref x), .val (.ref b), .val (.int (0 : Int32)), .val (.int (0 : Int32)), .val .null, .unset]) (plainFor_of_name pn0) (own_EL hw) O0 (fun m => by first | (simp [entryFrame, mkF, argsToLocals, Value.category]; done) | rfl) (fun p e s m below meth cc_ T w sf_ => ?_)
  have K0 := Keep.refl h0 [x]
  have s_x := safe_null (EL := consts_1) (vm := s.vm) w.wz.alike (hw _ (List.mem_of_getElem? (i := 7) rfl)) X_x F_value_x
  refine g_aloadN w e0_0 (q := 1) rfl rfl rfl ?_
  refine g_initO w e0_1 (q := 4) rfl rfl (hw _ (List.mem_of_getElem? (i := 17) rfl)) (hw _ (List.mem_of_getElem? (i := 18) rfl)) (hw _ (List.mem_of_getElem? (i := 19) rfl)) (W := 0) (Nat.le_of_eq rfl) (by decide) (by decide) (fun T w => ?_)
  refine g_iloadN w e0_4 (q := 5) rfl rfl ?_
  refine g_ifN w e0_5 (q := 8) rfl (by decide) ?_
  refine g_aloadN w e0_8 (q := 9) rfl rfl rfl ?_
  refine g_ldcS w e0_9 (q := 11) rfl rfl (hw _ (List.mem_of_getElem? (i := 20) rfl)) (own_wS hw) (by decide) (vs := []) (z := 0) ⟨by decide, by decide⟩ (by decide) (by decide) (nn := 0) (by decide) (by decide) (by decide) (by decide) (fun T vm h t2 b_t2 kb_t2 w E X_t2 Fc_t2 Fv_t2 Ab_t2 C Sf => ?_)
  replace s_x := C.safe X_x.lt s_x
  have nb_x_t2 := (Sf _ s_x).2
  have ne_x_t2 := (Sf _ s_x).1
  have ne_x_b_t2 := nb_x_t2
  replace K0 := K0.ext E
  replace X_x := X_x.ext E
  replace F_value_x := F_value_x.ext E
  replace F_coder_x := F_coder_x.ext E
  refine g_getF w e0_11 (q := 14) rfl (host := "") (Or.inl (hw _ (List.mem_of_getElem? (i := 26) rfl))) Via.refl Fv_t2 (fun T w => ?_)
  have g_ := w.chv
  refine g_putF w e0_14 (q := 17) rfl (hw _ (List.mem_of_getElem? (i := 26) rfl)) Via.refl F_value_x X_x (Or.inr ⟨(hw _ (List.mem_of_getElem? (i := 22) rfl)), rfl, rfl⟩) (hw _ (List.mem_of_getElem? (i := 7) rfl)) (ty := (.array .byte)) (by decide) (v' := (.ref b_t2)) rfl rfl n_x s_x (fun T h w W => ?_)
  replace K0 := K0.wr W (Or.inl (List.mem_singleton.mpr rfl))
  replace s_x := Safe.wr W s_x g_ s_x
  replace X_x := X_x.wr W
  replace F_value_x := F_value_x.same W
  replace F_coder_x := F_coder_x.other W (Or.inr (slot_ne (Or.inr (hw _ (List.mem_of_getElem? (i := 23) rfl))) (Or.inr (hw _ (List.mem_of_getElem? (i := 22) rfl))) (by decide) (t := .byte) (t' := (.array .byte)) (by decide) (by decide)))
  replace X_t2 := X_t2.wr W
  replace Fc_t2 := Fc_t2.other W (Or.inl ne_x_t2.symm)
  replace Fv_t2 := Fv_t2.other W (Or.inl ne_x_t2.symm)
  replace Ab_t2 := Ab_t2.other W ne_x_b_t2.symm
  refine g_aloadN w e0_17 (q := 18) rfl rfl rfl ?_
  refine g_ldcS w e0_18 (q := 20) rfl rfl (hw _ (List.mem_of_getElem? (i := 20) rfl)) (own_wS hw) (by decide) (vs := []) (z := 0) ⟨by decide, by decide⟩ (by decide) (by decide) (nn := 0) (by decide) (by decide) (by decide) (by decide) (fun T vm h t3 b_t3 kb_t3 w E X_t3 Fc_t3 Fv_t3 Ab_t3 C Sf => ?_)
  replace s_x := C.safe X_x.lt s_x
  have nb_x_t3 := (Sf _ s_x).2
  have ne_x_t3 := (Sf _ s_x).1
  have ne_x_b_t3 := nb_x_t3
  replace K0 := K0.ext E
  replace X_x := X_x.ext E
  replace F_value_x := F_value_x.ext E
  replace F_coder_x := F_coder_x.ext E
  replace X_t2 := X_t2.ext E
  replace Fc_t2 := Fc_t2.ext E
  replace Fv_t2 := Fv_t2.ext E
  replace Ab_t2 := Ab_t2.ext E
  refine g_getF w e0_20 (q := 23) rfl (host := "") (Or.inl (hw _ (List.mem_of_getElem? (i := 27) rfl))) Via.refl Fc_t3 (fun T w => ?_)
  have g_ := w.chv
  refine g_putF w e0_23 (q := 26) rfl (hw _ (List.mem_of_getElem? (i := 27) rfl)) Via.refl F_coder_x X_x (Or.inr ⟨(hw _ (List.mem_of_getElem? (i := 23) rfl)), rfl, rfl⟩) (hw _ (List.mem_of_getElem? (i := 7) rfl)) (ty := .byte) (by decide) (v' := (.int (0 : Int32))) rfl rfl n_x s_x (fun T h w W => ?_)
  replace K0 := K0.wr W (Or.inl (List.mem_singleton.mpr rfl))
  replace s_x := Safe.wr W s_x g_ s_x
  replace X_x := X_x.wr W
  replace F_value_x := F_value_x.other W (Or.inr (slot_ne (Or.inr (hw _ (List.mem_of_getElem? (i := 22) rfl))) (Or.inr (hw _ (List.mem_of_getElem? (i := 23) rfl))) (by decide) (t := (.array .byte)) (t' := .byte) (by decide) (by decide)))
  replace F_coder_x := F_coder_x.same W
  replace X_t2 := X_t2.wr W
  replace Fc_t2 := Fc_t2.other W (Or.inl ne_x_t2.symm)
  replace Fv_t2 := Fv_t2.other W (Or.inl ne_x_t2.symm)
  replace Ab_t2 := Ab_t2.other W ne_x_b_t2.symm
  replace X_t3 := X_t3.wr W
  replace Fc_t3 := Fc_t3.other W (Or.inl ne_x_t3.symm)
  replace Fv_t3 := Fv_t3.other W (Or.inl ne_x_t3.symm)
  replace Ab_t3 := Ab_t3.other W ne_x_b_t3.symm
  exact g_return w e0_26 rfl (by decide) (by decide) ⟨rfl, K0, ⟨Nat.le_of_ble_eq_true rfl, cs0, X_x, b_t2, kb_t2, F_value_x, F_coder_x, Ab_t2⟩⟩
theorem e1_0 : decode jdk_42_method_3_code 0 = .ok (.aload_n 0, 1) := by decide +kernel
theorem e1_1 : decode jdk_42_method_3_code 1 = .ok (.aload_n 1, 1) := by decide +kernel
theorem e1_2 : decode jdk_42_method_3_code 2 = .ok (.iconst 0, 1) := by decide +kernel
theorem e1_3 : decode jdk_42_method_3_code 3 = .ok (.aload_n 1, 1) := by decide +kernel
theorem e1_4 : decode jdk_42_method_3_code 4 = .ok (.arraylength, 1) := by decide +kernel
theorem e1_5 : decode jdk_42_method_3_code 5 = .ok (.aconst_null, 1) := by decide +kernel
theorem e1_6 : decode jdk_42_method_3_code 6 = .ok (.invokespecial 27, 3) := by decide +kernel
theorem e1_9 : decode jdk_42_method_3_code 9 = .ok (.return_, 1) := by decide +kernel
theorem pd0 : parseMethodDescriptor "([CIILjava/lang/Void;)V" = some ⟨[(.array .char), .int, .int, (.object "java/lang/Void")], none⟩ := by decide +kernel
set_option maxRecDepth 65536 in
set_option maxHeartbeats 40000000 in
theorem con_new1E (l : Launch) (Z : State) (a0 : Array Value) (hw : ∀ d ∈ tables_1, d.before a0 Z = true) (x b : Addr) (h0 : Heap) (O0 : Ext Z.heap h0) (X_x : Exa Z h0 x "java/lang/String") (F_value_x : Fld Z h0 x "java/lang/String" "value" "[B" .null) (F_coder_x : Fld Z h0 x "java/lang/String" "coder" "B" (.int (0 : Int32))) (n_x : Z.heap.size ≤ x) (A_b : Ar Z h0 b .char []) (ne_b_x : b ≠ x) :
    Con l Z consts_1 false (⟨"java/lang/String", "<init>", "([C)V"⟩ : MethodName) jdk_42_method_3_code 2 none [] ({ frames := 2, cells := 4, slots := 8, locals := 29 } : Room) #[(.ref x), (.ref b)] [] h0 (fun v h => v = none ∧ Keep h0 h [x] ∧ Sg Z h x []) := by
  refine Con.intro (Ls := #[.val (.ref x), .val (.ref b)]) (plainFor_of_name pn0) (own_EL hw) O0 (fun m => by first | (simp [entryFrame, mkF, argsToLocals, Value.category]; done) | rfl) (fun p e s m below meth cc_ T w sf_ => ?_)
  have K0 := Keep.refl h0 [x]
  refine g_aloadN w e1_0 (q := 1) rfl rfl rfl ?_
  refine g_aloadN w e1_1 (q := 2) rfl rfl rfl ?_
  refine g_iconst w e1_2 (q := 3) rfl (v := (0 : Int32)) (by decide) ?_
  refine g_aloadN w e1_3 (q := 4) rfl rfl rfl ?_
  refine g_alen w e1_4 (q := 5) rfl A_b ?_
  show Go p e below _ (State.setTop T (mkF m 5 #[.val (.ref x), .val (.ref b)] [(.int (0 : Int32)), (.int (0 : Int32)), (.ref b), (.ref x)]))
  refine g_anull w e1_5 (q := 6) rfl ?_
  refine g_special w (con_new4E l Z a0 hw x b _ w.old X_x F_value_x F_coder_x n_x) no0 e1_6 (q := 9) rfl rfl rfl (hw _ (List.mem_of_getElem? (i := 13) rfl)) (hw _ (List.mem_of_getElem? (i := 14) rfl)) (hw _ (List.mem_of_getElem? (i := 8) rfl)) (hw _ (List.mem_of_getElem? (i := 16) rfl)) (by decide) pd0 rfl rfl (W := 0) (Nat.le_of_eq rfl) (by decide) (by decide) (by decide) (by decide) (fun T h v w gs C q => ?_)
  obtain ⟨rfl, K, S_x⟩ := q
  replace K0 := keep_same K0 K
  have X0 := X_x
  replace X_x := X_x.keep K
  replace A_b := A_b.keep K (not1 ne_b_x)
  show Go p e below _ (State.setTop T (mkF m 9 #[.val (.ref x), .val (.ref b)] []))
  exact g_return w e1_9 rfl (by decide) (by decide) ⟨rfl, K0, S_x⟩
theorem shl1 : ∀ i < 64, Int32.ofNat i <<< ((1 : Int32) &&& 31) = Int32.ofNat (2 * i) := by decide +kernel
theorem nbl_lt : ∀ i < 64, Int32.ofNat i < 1073741823 := by decide +kernel
theorem cod0 : ∀ i < 64, (Jvm.Free.XT.ushr (Int32.ofNat i - Int32.ofNat i) 31).toInt8.toInt32 = 0 := by decide +kernel
theorem cod1 : ∀ i < 64, 0 < i → (Jvm.Free.XT.ushr (Int32.ofNat i - Int32.ofNat (2 * i)) 31).toInt8.toInt32 = 1 := by decide +kernel
theorem nar_b (x : Int32) : nar .byte x.toInt8.toInt32 = x.toInt8.toInt32 := by simp [nar]
theorem getch {c : Int32} (h : Lt16 c) : (((StrChars.lo8 c &&& 255) <<< ((0 : Int32) &&& 31)) ||| ((StrChars.hi8 c &&& 255) <<< ((8 : Int32) &&& 31))).toUInt32.toUInt16.toUInt32.toInt32 = c := StrChars.pair_says h.1 h.2
theorem ofNat_ne {i n : Nat} (h : i < n) (hn : n ≤ 4000) : ¬ Int32.ofNat i = Int32.ofNat n := fun q => by
  have e1 : (Int32.ofNat i).toInt = i := Int32.toInt_ofNat_of_lt (by omega)
  have e2 : (Int32.ofNat n).toInt = n := Int32.toInt_ofNat_of_lt (by omega)
  rw [q, e2] at e1; omega
/-- the bytes while compress runs: the first i chars' low bytes, then noughts -/
def midL : List Int32 → Nat → List Value
  | [], _ => []
  | _ :: cs, 0 => .int 0 :: midL cs 0
  | c :: cs, i + 1 => .int c.toInt8.toInt32 :: midL cs i
theorem midL_len : ∀ (cs : List Int32) (i : Nat), (midL cs i).length = cs.length
  | [], _ => rfl
  | _ :: cs, 0 => congrArg (· + 1) (midL_len cs 0)
  | _ :: cs, i + 1 => congrArg (· + 1) (midL_len cs i)
theorem midL_set : ∀ (cs : List Int32) (i : Nat), i < cs.length → (midL cs i).set i (.int (cs.getD i 0).toInt8.toInt32) = midL cs (i + 1)
  | [], _, h => absurd h (Nat.not_lt_zero _)
  | _ :: _, 0, _ => rfl
  | c :: cs, i + 1, h => congrArg (Value.int c.toInt8.toInt32 :: ·) (midL_set cs i (Nat.lt_of_succ_lt_succ h))
theorem midL_zero : ∀ (cs : List Int32), midL cs 0 = List.replicate cs.length (.int 0)
  | [] => rfl
  | _ :: cs => congrArg (Value.int 0 :: ·) (midL_zero cs)
theorem midL_full : ∀ (cs : List Int32), midL cs cs.length = (cs.map fun c => c.toInt8.toInt32).map Value.int
  | [] => rfl
  | c :: cs => congrArg (Value.int c.toInt8.toInt32 :: ·) (midL_full cs)
def midW : List Int32 → Nat → List Value
  | [], _ => []
  | _ :: cs, 0 => .int 0 :: .int 0 :: midW cs 0
  | c :: cs, i + 1 => .int (StrChars.lo8 c) :: .int (StrChars.hi8 c) :: midW cs i
theorem midW_len : ∀ (cs : List Int32) (i : Nat), (midW cs i).length = 2 * cs.length
  | [], _ => rfl
  | _ :: cs, 0 => by have := midW_len cs 0; simp only [midW, List.length_cons]; omega
  | _ :: cs, i + 1 => by have := midW_len cs i; simp only [midW, List.length_cons]; omega
theorem midW_set : ∀ (cs : List Int32) (i : Nat), i < cs.length → ((midW cs i).set (2 * i) (.int (StrChars.lo8 (cs.getD i 0)))).set (2 * i + 1) (.int (StrChars.hi8 (cs.getD i 0))) = midW cs (i + 1)
  | [], _, h => absurd h (Nat.not_lt_zero _)
  | _ :: _, 0, _ => rfl
  | c :: cs, i + 1, h => congrArg (fun t => Value.int (StrChars.lo8 c) :: Value.int (StrChars.hi8 c) :: t) (midW_set cs i (Nat.lt_of_succ_lt_succ h))
theorem midW_zero : ∀ (cs : List Int32), midW cs 0 = List.replicate (2 * cs.length) (.int 0)
  | [] => rfl
  | _ :: cs => congrArg (fun t => Value.int 0 :: Value.int 0 :: t) (midW_zero cs)
theorem midW_full : ∀ (cs : List Int32), midW cs cs.length = StrChars.Road.wideBytes cs
  | [] => rfl
  | c :: cs => congrArg (fun t => Value.int (StrChars.lo8 c) :: Value.int (StrChars.hi8 c) :: t) (midW_full cs)
theorem wide_len (cs : List Int32) : (StrChars.Road.wideBytes cs).length = 2 * cs.length := by rw [← midW_full, midW_len]
theorem wide_at : ∀ (cs : List Int32) (i : Nat), i < cs.length → (StrChars.Road.wideBytes cs)[2 * i]? = some (.int (StrChars.lo8 (cs.getD i 0))) ∧ (StrChars.Road.wideBytes cs)[2 * i + 1]? = some (.int (StrChars.hi8 (cs.getD i 0)))
  | [], _, h => absurd h (Nat.not_lt_zero _)
  | _ :: _, 0, _ => ⟨rfl, rfl⟩
  | _ :: cs, i + 1, h => wide_at cs i (Nat.lt_of_succ_lt_succ h)
theorem chr_at {cs : List Int32} {i : Nat} (h : i < cs.length) : (cs.map Value.int)[i]? = some (.int (cs.getD i 0)) := by simp [List.getD_eq_getElem?_getD, h]
theorem chr_all {cs : List Int32} (hl : ∀ c ∈ cs, Lt16 c) {i : Nat} (h : i < cs.length) : Lt16 (cs.getD i 0) := by
  have e : cs.getD i 0 = cs[i] := by simp [List.getD_eq_getElem?_getD, h]
  rw [e]; exact hl _ (List.getElem_mem h)
theorem lat_of {cs : List Int32} {i : Nat} (hi : i + 0 = cs.length) (hb : ∀ j, j < i → Lt8 (cs.getD j 0)) : ∀ c ∈ cs, Lt8 c := fun c hc => by
  obtain ⟨j, hj, rfl⟩ := List.getElem_of_mem hc
  have e : cs.getD j 0 = cs[j] := by simp [List.getD_eq_getElem?_getD, hj]
  rw [← e]; exact hb j (by omega)
theorem big_mem {cs : List Int32} {k : Nat} (hk : k < cs.length) (h : 255 < cs.getD k 0) : ∃ c ∈ cs, 255 < c := ⟨cs[k], List.getElem_mem hk, by have e : cs.getD k 0 = cs[k] := by simp [List.getD_eq_getElem?_getD, hk]
                                                                                                                                                rwa [e] at h⟩
/-- x is a String of these chars -/
def Su (Z : State) (h : Heap) (x : Addr) (cs : List Int32) : Prop := cs.length ≤ 4000 ∧ (∀ c ∈ cs, Lt16 c) ∧ Exa Z h x "java/lang/String" ∧ ∃ (t : Addr) (kb : ClassId) (cd N2 : Int32) (vs : List Value), Fld Z h x "java/lang/String" "value" "[B" (.ref t) ∧ Fld Z h x "java/lang/String" "coder" "B" (.int cd) ∧ Arv Z h t kb .byte N2 vs (.int 0) ∧ StrChars.Road.CodA cs cd N2 vs
theorem Su.ext {Z : State} {h h' : Heap} {x : Addr} {cs : List Int32} (F : Su Z h x cs) (E : Ext h h') : Su Z h' x cs := by obtain ⟨a, b, c, t, kb, cd, N2, vs, d, e, f, g⟩ := F; exact ⟨a, b, c.ext E, t, kb, cd, N2, vs, d.ext E, e.ext E, f.ext E, g⟩
theorem Su.lt {Z : State} {h : Heap} {x : Addr} {cs : List Int32} (F : Su Z h x cs) : x < h.size := F.2.2.1.lt
theorem Su.exa {Z : State} {h : Heap} {x : Addr} {cs : List Int32} (F : Su Z h x cs) : Exa Z h x "java/lang/String" := F.2.2.1
theorem Su.keepO {Z : State} {a0 : Array Value} {h h' : Heap} {x a : Addr} {cs : List Int32} {C : String} {kk : Nat} (F : Su Z h x cs) (K : Keep h h' [a]) (q : x ≠ a) (E : Exa Z h a C) (wi : (Cond.instantiable C kk).before a0 Z = true) : Su Z h' x cs := by
  obtain ⟨a, b, c, t, kb, cd, N2, vs, d, e, f, g⟩ := F
  exact ⟨a, b, c.keep K, t, kb, cd, N2, vs, d.keep K (not1 q), e.keep K (not1 q), f.keep K (not1 (Exa.neArv E f wi).symm), g⟩
theorem Sg.su {Z : State} {h : Heap} {x : Addr} {cs : List Int32} (F : Sg Z h x cs) : Su Z h x cs := by
  obtain ⟨a, b, c, t, kb, d, e, f⟩ := F
  exact ⟨a, fun c hc => (b c hc).chr, c, t, kb, 0, _, _, d, e, f, StrChars.Road.codOf rfl fun c hc => (b c hc).2⟩
theorem su_of {Z : State} {h : Heap} {x t : Addr} {cs : List Int32} (hn : cs.length ≤ 2000) (hl : ∀ c ∈ cs, Lt16 c) (X : Exa Z h x "java/lang/String") (V : Fld Z h x "java/lang/String" "value" "[B" (.ref t)) (C : Fld Z h x "java/lang/String" "coder" "B" (.int 1)) (A : Ar Z h t .byte (StrChars.Road.wideBytes cs)) (hb : ∃ c ∈ cs, 255 < c) : Su Z h x cs := by
  obtain ⟨kC, A⟩ := A.arv (.int 0)
  rw [wide_len] at A
  exact ⟨by omega, hl, X, t, kC, 1, _, _, V, C, A, Or.inr ⟨rfl, rfl, rfl, hb⟩⟩
theorem sg_of {Z : State} {h : Heap} {x t : Addr} {cs : List Int32} (hn : cs.length ≤ 2000) (hl : ∀ c ∈ cs, Lt8 c) (X : Exa Z h x "java/lang/String") (V : Fld Z h x "java/lang/String" "value" "[B" (.ref t)) (C : Fld Z h x "java/lang/String" "coder" "B" (.int 0)) (A : Ar Z h t .byte ((cs.map fun c => c.toInt8.toInt32).map Value.int)) : Sg Z h x cs := by
  obtain ⟨kC, A⟩ := A.arv (.int 0)
  rw [List.length_map, List.length_map] at A
  exact ⟨by omega, hl, X, t, kC, V, C, A⟩
theorem sta_eq {args : Array Value} {first s : State} {o : Option Outcome} {idx : List Nat} {t : Term} {k : Int32} (h : (Cond.eq t (Term.int k)).value args first o s idx = some true) : t.eval args first o idx s = some (.int k) := by
  obtain ⟨x, y, ex, ey, hk, -⟩ := cmp_v (Or.inl h)
  have e2 : y = .int k := Option.some.inj (ey.symm.trans (Term.int_eval k))
  subst e2
  cases x with
  | int z =>
    have q : (Cond.eq t (Term.int k)).value args first o s idx = some (decide (z = k)) := by simp [Cond.value, ex, ey]
    rw [ex, gotT q h]
  | _ => simp [Kin, Value.isRef] at hk
theorem e2_0 : decode jdk_52_method_21_code 0 = .ok (.iconst 0, 1) := by decide +kernel
theorem e2_1 : decode jdk_52_method_21_code 1 = .ok (.istore 5, 2) := by decide +kernel
theorem e2_3 : decode jdk_52_method_21_code 3 = .ok (.iload 5, 2) := by decide +kernel
theorem e2_5 : decode jdk_52_method_21_code 5 = .ok (.iload 4, 2) := by decide +kernel
theorem e2_7 : decode jdk_52_method_21_code 7 = .ok (.if_icmp .ge 37, 3) := by decide +kernel
theorem e2_10 : decode jdk_52_method_21_code 10 = .ok (.aload_n 0, 1) := by decide +kernel
theorem e2_11 : decode jdk_52_method_21_code 11 = .ok (.iload_n 1, 1) := by decide +kernel
theorem e2_12 : decode jdk_52_method_21_code 12 = .ok (.caload, 1) := by decide +kernel
theorem e2_13 : decode jdk_52_method_21_code 13 = .ok (.istore 6, 2) := by decide +kernel
theorem e2_15 : decode jdk_52_method_21_code 15 = .ok (.iload 6, 2) := by decide +kernel
theorem e2_17 : decode jdk_52_method_21_code 17 = .ok (.sipush 255, 3) := by decide +kernel
theorem e2_20 : decode jdk_52_method_21_code 20 = .ok (.if_icmp .le 6, 3) := by decide +kernel
theorem e2_23 : decode jdk_52_method_21_code 23 = .ok (.iload 5, 2) := by decide +kernel
theorem e2_25 : decode jdk_52_method_21_code 25 = .ok (.ireturn, 1) := by decide +kernel
theorem e2_26 : decode jdk_52_method_21_code 26 = .ok (.aload_n 2, 1) := by decide +kernel
theorem e2_27 : decode jdk_52_method_21_code 27 = .ok (.iload_n 3, 1) := by decide +kernel
theorem e2_28 : decode jdk_52_method_21_code 28 = .ok (.iload 6, 2) := by decide +kernel
theorem e2_30 : decode jdk_52_method_21_code 30 = .ok (.i2b, 1) := by decide +kernel
theorem e2_31 : decode jdk_52_method_21_code 31 = .ok (.bastore, 1) := by decide +kernel
theorem e2_32 : decode jdk_52_method_21_code 32 = .ok (.iinc 1 1, 3) := by decide +kernel
theorem e2_35 : decode jdk_52_method_21_code 35 = .ok (.iinc 3 1, 3) := by decide +kernel
theorem e2_38 : decode jdk_52_method_21_code 38 = .ok (.iinc 5 1, 3) := by decide +kernel
theorem e2_41 : decode jdk_52_method_21_code 41 = .ok (.goto (-38), 3) := by decide +kernel
theorem e2_44 : decode jdk_52_method_21_code 44 = .ok (.iload 4, 2) := by decide +kernel
theorem e2_46 : decode jdk_52_method_21_code 46 = .ok (.ireturn, 1) := by decide +kernel
theorem pn1 : plainName "java/lang/StringUTF16" = true := by first | (simp [plainName, overriddenIn]; done) | decide +kernel
set_option maxRecDepth 65536 in
set_option maxHeartbeats 40000000 in
theorem con_cmpI (l : Launch) (Z : State) (a0 : Array Value) (hw : ∀ d ∈ tables_1, d.before a0 Z = true) (a t : Addr) (cs : List Int32) (h0 : Heap) (O0 : Ext Z.heap h0) (A_a : Ar Z h0 a .char (cs.map Value.int)) (A_t : Ar Z h0 t .byte (List.replicate cs.length (.int 0))) (n_t : Z.heap.size ≤ t) (ne_a_t : a ≠ t) (hl : ∀ c ∈ cs, Lt16 c) (hn : cs.length ≤ 16) :
    Con l Z consts_1 false (⟨"java/lang/StringUTF16", "compress", "([CI[BII)I"⟩ : MethodName) jdk_52_method_21_code 7 (some .int) [] ({ frames := 0, cells := 0, slots := 0, locals := 0 } : Room) #[(.ref a), (.int (0 : Int32)), (.ref t), (.int (0 : Int32)), (.int (Int32.ofNat cs.length))] [t] h0 (fun v h => (v = some (.int (Int32.ofNat cs.length)) ∧ (∀ c ∈ cs, Lt8 c) ∧ Keep h0 h [t] ∧ Ar Z h t .byte ((cs.map fun c => c.toInt8.toInt32).map Value.int)) ∨ (∃ k, k < cs.length ∧ v = some (.int (Int32.ofNat k)) ∧ 255 < cs.getD k 0 ∧ Keep h0 h [t])) := by
  refine Con.intro (Ls := #[.val (.ref a), .val (.int (0 : Int32)), .val (.ref t), .val (.int (0 : Int32)), .val (.int (Int32.ofNat cs.length)), .unset, .unset]) (plainFor_of_name pn1) (own_EL hw) O0 (fun m => by first | (simp [entryFrame, mkF, argsToLocals, Value.category]; done) | rfl) (fun p e s m below meth cc_ T w sf_ => ?_)
  have K0 := Keep.refl h0 [t]
  have s_t := sf_ t (List.mem_singleton.mpr rfl)
  rw [← midL_zero] at A_t
  refine g_iconst w e2_0 (q := 1) rfl (v := (0 : Int32)) (by decide) ?_
  refine g_istore w e2_1 (q := 3) rfl (Ls' := #[.val (.ref a), .val (.int (0 : Int32)), .val (.ref t), .val (.int (0 : Int32)), .val (.int (Int32.ofNat cs.length)), .val (.int (0 : Int32)), .unset]) rfl ?_
  have LP : ∀ (r : Nat) (i : Nat) (l6 : Slot) (T : State) (vm : Vm) (h : Heap), (i + r = cs.length) → (l6 = .unset ∨ ∃ w, l6 = .val w ∧ w.category = 1) → (Keep h0 h [t]) → (Ar Z h a .char (cs.map Value.int)) → (Ar Z h t .byte (midL cs i)) → (Safe Z consts_1 vm h t) → (∀ j, j < i → Lt8 (cs.getD j 0)) → Wk p l e ({ frames := 0, cells := 0, slots := 0, locals := 0 } : Room) s m #[(.ref a), (.int (0 : Int32)), (.ref t), (.int (0 : Int32)), (.int (Int32.ofNat cs.length))] below meth cc_ Z a0 consts_1 false (⟨"java/lang/StringUTF16", "compress", "([CI[BII)I"⟩ : MethodName) jdk_52_method_21_code 7 (some .int) T vm h 0 0 → Go p e below (Fini Z consts_1 false ({ frames := 0, cells := 0, slots := 0, locals := 0 } : Room).cells ({ frames := 0, cells := 0, slots := 0, locals := 0 } : Room).slots (fun v h => (v = some (.int (Int32.ofNat cs.length)) ∧ (∀ c ∈ cs, Lt8 c) ∧ Keep h0 h [t] ∧ Ar Z h t .byte ((cs.map fun c => c.toInt8.toInt32).map Value.int)) ∨ (∃ k, k < cs.length ∧ v = some (.int (Int32.ofNat k)) ∧ 255 < cs.getD k 0 ∧ Keep h0 h [t])) s) (State.setTop T (mkF m 3 #[.val (.ref a), .val (.int (Int32.ofNat i)), .val (.ref t), .val (.int (Int32.ofNat i)), .val (.int (Int32.ofNat cs.length)), .val (.int (Int32.ofNat i)), l6] [])) := by
    intro r
    induction r with
    | zero =>
      intro i l6 T vm h hi hl6 K0 A_a A_t s_t hb  w
      refine g_iload w e2_3 (q := 5) rfl rfl ?_
      refine g_iload w e2_5 (q := 7) rfl rfl ?_
      refine g_icY w e2_7 (by decide) (q := 44) (by decide) (Jvm.Free.XT.ii_ge_t (not_lt_ofNat (by omega) (by omega))) ?_
      refine g_iload w e2_44 (q := 46) rfl rfl ?_
      exact g_reti w e2_46 rfl (by decide) (by decide) (Or.inl ⟨rfl, lat_of hi hb, K0, by rw [show i = cs.length from hi, midL_full] at A_t; exact A_t⟩)
    | succ r ih =>
      intro i l6 T vm h hi hl6 K0 A_a A_t s_t hb  w
      refine g_iload w e2_3 (q := 5) rfl rfl ?_
      refine g_iload w e2_5 (q := 7) rfl rfl ?_
      refine g_icN w e2_7 (q := 10) rfl (Jvm.Free.XT.ii_ge_f (lt_ofNat (by omega) (by omega))) ?_
      refine g_aloadN w e2_10 (q := 11) rfl rfl rfl ?_
      refine g_iloadN w e2_11 (q := 12) rfl rfl ?_
      refine g_caload w e2_12 (q := 13) rfl A_a (i := i) rfl (by simp; omega) (chr_at (by omega)) ?_
      refine g_istore w e2_13 (q := 15) rfl (Ls' := #[.val (.ref a), .val (.int (Int32.ofNat i)), .val (.ref t), .val (.int (Int32.ofNat i)), .val (.int (Int32.ofNat cs.length)), .val (.int (Int32.ofNat i)), .val (.int (cs.getD i 0))]) ((Jvm.Free.XS.store1 rfl hl6 rfl).trans rfl) ?_
      refine g_iload w e2_15 (q := 17) rfl rfl ?_
      refine g_sipush w e2_17 (q := 20) rfl (v := (255 : Int32)) (by decide) ?_
      refine g_ic_le w e2_20 (by decide) (q := 26) (by decide) (q' := 23) rfl (fun cd1 => ?_) (fun cd1 => ?_)
      · refine g_aloadN w e2_26 (q := 27) rfl rfl rfl ?_
        refine g_iloadN w e2_27 (q := 28) rfl rfl ?_
        refine g_iload w e2_28 (q := 30) rfl rfl ?_
        refine g_i2b w e2_30 (q := 31) rfl ?_
        have g_ := w.chv
        refine g_bastore w e2_31 (q := 32) rfl A_t (i := i) rfl (by rw [midL_len]; omega) (x' := (cs.getD i 0).toInt8.toInt32) (nar_b _) n_t s_t (fun T h w W V => ?_)
        replace K0 := K0.wr W (Or.inl (List.mem_singleton.mpr rfl))
        replace A_a := A_a.other W ne_a_t
        replace s_t := Safe.wr W s_t g_ s_t
        rw [midL_set _ _ (by omega)] at V
        replace A_t := V
        refine g_iinc w e2_32 (q := 35) rfl (v := (1 : Int32)) (by decide) rfl rfl ?_
        rw [ofNat_succ]
        show Go p e below _ (State.setTop T (mkF m 35 #[.val (.ref a), .val (.int (Int32.ofNat (i + 1))), .val (.ref t), .val (.int (Int32.ofNat i)), .val (.int (Int32.ofNat cs.length)), .val (.int (Int32.ofNat i)), .val (.int (cs.getD i 0))] []))
        refine g_iinc w e2_35 (q := 38) rfl (v := (1 : Int32)) (by decide) rfl rfl ?_
        rw [ofNat_succ]
        show Go p e below _ (State.setTop T (mkF m 38 #[.val (.ref a), .val (.int (Int32.ofNat (i + 1))), .val (.ref t), .val (.int (Int32.ofNat (i + 1))), .val (.int (Int32.ofNat cs.length)), .val (.int (Int32.ofNat i)), .val (.int (cs.getD i 0))] []))
        refine g_iinc w e2_38 (q := 41) rfl (v := (1 : Int32)) (by decide) rfl rfl ?_
        rw [ofNat_succ]
        show Go p e below _ (State.setTop T (mkF m 41 #[.val (.ref a), .val (.int (Int32.ofNat (i + 1))), .val (.ref t), .val (.int (Int32.ofNat (i + 1))), .val (.int (Int32.ofNat cs.length)), .val (.int (Int32.ofNat (i + 1))), .val (.int (cs.getD i 0))] []))
        refine g_goto w e2_41 (by decide) (q := 3) (by decide) ?_
        exact ih (i + 1) _ T _ _ (by omega) (Or.inr ⟨_, rfl, rfl⟩) K0 A_a A_t s_t (fun j q => by
            rcases Nat.lt_or_eq_of_le (Nat.le_of_lt_succ q) with q | q
            · exact hb j q
            · subst q; exact ⟨(chr_all hl (by omega)).1, cd1⟩) w
      · refine g_iload w e2_23 (q := 25) rfl rfl ?_
        exact g_reti w e2_25 rfl (by decide) (by decide) (Or.inr ⟨i, by omega, rfl, cd1, K0⟩)
  exact LP cs.length 0 _ T _ _ (by omega) (Or.inl rfl) K0 A_a A_t s_t (fun j q => absurd q (Nat.not_lt_zero j)) w
theorem e3_0 : decode jdk_52_method_3_code 0 = .ok (.iload_n 0, 1) := by decide +kernel
theorem e3_1 : decode jdk_52_method_3_code 1 = .ok (.ifCond .ge 11, 3) := by decide +kernel
theorem e3_4 : decode jdk_52_method_3_code 4 = .ok (.new 17, 3) := by decide +kernel
theorem e3_7 : decode jdk_52_method_3_code 7 = .ok (.dup, 1) := by decide +kernel
theorem e3_8 : decode jdk_52_method_3_code 8 = .ok (.invokespecial 19, 3) := by decide +kernel
theorem e3_11 : decode jdk_52_method_3_code 11 = .ok (.athrow, 1) := by decide +kernel
theorem e3_12 : decode jdk_52_method_3_code 12 = .ok (.iload_n 0, 1) := by decide +kernel
theorem e3_13 : decode jdk_52_method_3_code 13 = .ok (.ldc 20, 2) := by decide +kernel
theorem e3_15 : decode jdk_52_method_3_code 15 = .ok (.if_icmp .lt 40, 3) := by decide +kernel
theorem e3_18 : decode jdk_52_method_3_code 18 = .ok (.new 21, 3) := by decide +kernel
theorem e3_21 : decode jdk_52_method_3_code 21 = .ok (.dup, 1) := by decide +kernel
theorem e3_22 : decode jdk_52_method_3_code 22 = .ok (.new 23, 3) := by decide +kernel
theorem e3_25 : decode jdk_52_method_3_code 25 = .ok (.dup, 1) := by decide +kernel
theorem e3_26 : decode jdk_52_method_3_code 26 = .ok (.invokespecial 25, 3) := by decide +kernel
theorem e3_29 : decode jdk_52_method_3_code 29 = .ok (.ldc 26, 2) := by decide +kernel
theorem e3_31 : decode jdk_52_method_3_code 31 = .ok (.invokevirtual 28, 3) := by decide +kernel
theorem e3_34 : decode jdk_52_method_3_code 34 = .ok (.iload_n 0, 1) := by decide +kernel
theorem e3_35 : decode jdk_52_method_3_code 35 = .ok (.invokevirtual 32, 3) := by decide +kernel
theorem e3_38 : decode jdk_52_method_3_code 38 = .ok (.ldc 35, 2) := by decide +kernel
theorem e3_40 : decode jdk_52_method_3_code 40 = .ok (.invokevirtual 28, 3) := by decide +kernel
theorem e3_43 : decode jdk_52_method_3_code 43 = .ok (.ldc 20, 2) := by decide +kernel
theorem e3_45 : decode jdk_52_method_3_code 45 = .ok (.invokevirtual 32, 3) := by decide +kernel
theorem e3_48 : decode jdk_52_method_3_code 48 = .ok (.invokevirtual 37, 3) := by decide +kernel
theorem e3_51 : decode jdk_52_method_3_code 51 = .ok (.invokespecial 41, 3) := by decide +kernel
theorem e3_54 : decode jdk_52_method_3_code 54 = .ok (.athrow, 1) := by decide +kernel
theorem e3_55 : decode jdk_52_method_3_code 55 = .ok (.iload_n 0, 1) := by decide +kernel
theorem e3_56 : decode jdk_52_method_3_code 56 = .ok (.iconst 1, 1) := by decide +kernel
theorem e3_57 : decode jdk_52_method_3_code 57 = .ok (.ishl, 1) := by decide +kernel
theorem e3_58 : decode jdk_52_method_3_code 58 = .ok (.ireturn, 1) := by decide +kernel
set_option maxRecDepth 65536 in
set_option maxHeartbeats 40000000 in
theorem con_nbl (l : Launch) (Z : State) (a0 : Array Value) (hw : ∀ d ∈ tables_1, d.before a0 Z = true) (n_ : Nat) (h0 : Heap) (O0 : Ext Z.heap h0) (hn : n_ ≤ 16) :
    Con l Z consts_1 false (⟨"java/lang/StringUTF16", "newBytesLength", "(I)I"⟩ : MethodName) jdk_52_method_3_code 1 (some .int) [] ({ frames := 0, cells := 0, slots := 0, locals := 0 } : Room) #[(.int (Int32.ofNat n_))] [] h0 (fun v h => v = some (.int (Int32.ofNat (2 * n_))) ∧ h = h0) := by
  refine Con.intro (Ls := #[.val (.int (Int32.ofNat n_))]) (plainFor_of_name pn1) (own_EL hw) O0 (fun m => by first | (simp [entryFrame, mkF, argsToLocals, Value.category]; done) | rfl) (fun p e s m below meth cc_ T w sf_ => ?_)
  have E0 := ext_refl h0
  refine g_iloadN w e3_0 (q := 1) rfl rfl ?_
  refine g_ifY w e3_1 (by decide) (q := 12) (by decide) (Jvm.Free.XT.i0_ge_t (ofNat_nonneg (by omega))) ?_
  refine g_iloadN w e3_12 (q := 13) rfl rfl ?_
  refine g_ldcI w e3_13 (q := 15) rfl (v := (1073741823 : Int32)) (hw _ (List.mem_of_getElem? (i := 190) rfl)) ?_
  refine g_icY w e3_15 (by decide) (q := 55) (by decide) (Jvm.Free.XT.ii_lt_t (nbl_lt _ (by omega))) ?_
  refine g_iloadN w e3_55 (q := 56) rfl rfl ?_
  refine g_iconst w e3_56 (q := 57) rfl (v := (1 : Int32)) (by decide) ?_
  refine g_ishl w e3_57 (q := 58) rfl ?_
  rw [shl1 _ (by omega)]
  show Go p e below _ (State.setTop T (mkF m 58 #[.val (.int (Int32.ofNat n_))] [(.int (Int32.ofNat (2 * n_)))]))
  exact g_reti w e3_58 rfl (by decide) (by decide) ⟨rfl, rfl⟩
theorem e4_0 : decode jdk_52_method_2_code 0 = .ok (.iload_n 0, 1) := by decide +kernel
theorem e4_1 : decode jdk_52_method_2_code 1 = .ok (.invokestatic 11, 3) := by decide +kernel
theorem e4_4 : decode jdk_52_method_2_code 4 = .ok (.newarray .byte, 2) := by decide +kernel
theorem e4_6 : decode jdk_52_method_2_code 6 = .ok (.areturn, 1) := by decide +kernel
theorem pd1 : parseMethodDescriptor "(I)I" = some ⟨[.int], some .int⟩ := by decide +kernel
set_option maxRecDepth 65536 in
set_option maxHeartbeats 40000000 in
theorem con_nbf (l : Launch) (Z : State) (a0 : Array Value) (hw : ∀ d ∈ tables_1, d.before a0 Z = true) (n_ : Nat) (h0 : Heap) (O0 : Ext Z.heap h0) (hn : n_ ≤ 16) :
    ConS l Z consts_1 false (⟨"java/lang/StringUTF16", "newBytesFor", "(I)[B"⟩ : MethodName) jdk_52_method_2_code 1 (some (.array .byte)) [] ({ frames := 1, cells := 1, slots := 32, locals := 12 } : Room) #[(.int (Int32.ofNat n_))] [] h0 (fun v h => ∃ t, v = some (.ref t) ∧ Ext h0 h ∧ h0.size ≤ t ∧ Ar Z h t .byte (List.replicate (2 * n_) (.int 0))) := by
  refine ConS.intro (Ls := #[.val (.int (Int32.ofNat n_))]) (plainFor_of_name pn1) (own_EL hw) O0 (fun m => by first | (simp [entryFrame, mkF, argsToLocals, Value.category]; done) | rfl) (fun p e s m below meth cc_ T w sf_ => ?_)
  have E0 := ext_refl h0
  refine g_iloadN w e4_0 (q := 1) rfl rfl ?_
  refine g_staticP w (con_nbl l Z a0 hw n_ _ w.old hn) no0 e4_1 (q := 4) rfl rfl (hw _ (List.mem_of_getElem? (i := 187) rfl)) (hw _ (List.mem_of_getElem? (i := 188) rfl)) (hw _ (List.mem_of_getElem? (i := 163) rfl)) (hw _ (List.mem_of_getElem? (i := 189) rfl)) (by decide) pd1 rfl rfl (W := 0) (Nat.le_of_eq rfl) (by decide) (by decide) (by decide) (by decide) (fun T v w C q => ?_)
  obtain rfl := q
  show Go p e below _ (State.setTop T (mkF m 4 #[.val (.int (Int32.ofNat n_))] [(.int (Int32.ofNat (2 * n_)))]))
  refine g_newarr w e4_4 (q := 6) rfl (hw _ (List.mem_of_getElem? (i := 21) rfl)) (len := 2 * n_) (cap := 32) rfl (by omega) (by decide) (by decide) (by decide) (fun T h t w E g_t n_t A_t s_t => ?_)
  replace E0 := ext_trans E0 E
  exact g_retaS w e4_6 rfl rfl (by decide) (by decide) A_t.lt s_t ⟨t, rfl, E0, g_t, A_t⟩
theorem e5_0 : decode jdk_52_method_4_code 0 = .ok (.getstatic 44, 3) := by decide +kernel
theorem e5_3 : decode jdk_52_method_4_code 3 = .ok (.ifCond .ne 25, 3) := by decide +kernel
theorem e5_6 : decode jdk_52_method_4_code 6 = .ok (.iload_n 1, 1) := by decide +kernel
theorem e5_7 : decode jdk_52_method_4_code 7 = .ok (.ifCond .lt 11, 3) := by decide +kernel
theorem e5_10 : decode jdk_52_method_4_code 10 = .ok (.iload_n 1, 1) := by decide +kernel
theorem e5_11 : decode jdk_52_method_4_code 11 = .ok (.aload_n 0, 1) := by decide +kernel
theorem e5_12 : decode jdk_52_method_4_code 12 = .ok (.invokestatic 48, 3) := by decide +kernel
theorem e5_15 : decode jdk_52_method_4_code 15 = .ok (.if_icmp .lt 13, 3) := by decide +kernel
theorem e5_18 : decode jdk_52_method_4_code 18 = .ok (.new 52, 3) := by decide +kernel
theorem e5_21 : decode jdk_52_method_4_code 21 = .ok (.dup, 1) := by decide +kernel
theorem e5_22 : decode jdk_52_method_4_code 22 = .ok (.ldc 54, 2) := by decide +kernel
theorem e5_24 : decode jdk_52_method_4_code 24 = .ok (.invokespecial 56, 3) := by decide +kernel
theorem e5_27 : decode jdk_52_method_4_code 27 = .ok (.athrow, 1) := by decide +kernel
theorem e5_28 : decode jdk_52_method_4_code 28 = .ok (.iload_n 1, 1) := by decide +kernel
theorem e5_29 : decode jdk_52_method_4_code 29 = .ok (.iconst 1, 1) := by decide +kernel
theorem e5_30 : decode jdk_52_method_4_code 30 = .ok (.ishl, 1) := by decide +kernel
theorem e5_31 : decode jdk_52_method_4_code 31 = .ok (.istore_n 1, 1) := by decide +kernel
theorem e5_32 : decode jdk_52_method_4_code 32 = .ok (.aload_n 0, 1) := by decide +kernel
theorem e5_33 : decode jdk_52_method_4_code 33 = .ok (.iload_n 1, 1) := by decide +kernel
theorem e5_34 : decode jdk_52_method_4_code 34 = .ok (.iinc 1 1, 3) := by decide +kernel
theorem e5_37 : decode jdk_52_method_4_code 37 = .ok (.iload_n 2, 1) := by decide +kernel
theorem e5_38 : decode jdk_52_method_4_code 38 = .ok (.getstatic 59, 3) := by decide +kernel
theorem e5_41 : decode jdk_52_method_4_code 41 = .ok (.ishr, 1) := by decide +kernel
theorem e5_42 : decode jdk_52_method_4_code 42 = .ok (.i2b, 1) := by decide +kernel
theorem e5_43 : decode jdk_52_method_4_code 43 = .ok (.bastore, 1) := by decide +kernel
theorem e5_44 : decode jdk_52_method_4_code 44 = .ok (.aload_n 0, 1) := by decide +kernel
theorem e5_45 : decode jdk_52_method_4_code 45 = .ok (.iload_n 1, 1) := by decide +kernel
theorem e5_46 : decode jdk_52_method_4_code 46 = .ok (.iload_n 2, 1) := by decide +kernel
theorem e5_47 : decode jdk_52_method_4_code 47 = .ok (.getstatic 63, 3) := by decide +kernel
theorem e5_50 : decode jdk_52_method_4_code 50 = .ok (.ishr, 1) := by decide +kernel
theorem e5_51 : decode jdk_52_method_4_code 51 = .ok (.i2b, 1) := by decide +kernel
theorem e5_52 : decode jdk_52_method_4_code 52 = .ok (.bastore, 1) := by decide +kernel
theorem e5_53 : decode jdk_52_method_4_code 53 = .ok (.return_, 1) := by decide +kernel
set_option maxRecDepth 65536 in
set_option maxHeartbeats 40000000 in
theorem con_put (l : Launch) (Z : State) (a0 : Array Value) (hw : ∀ d ∈ tables_1, d.before a0 Z = true) (t : Addr) (i_ : Nat) (c : Int32) (vs : List Value) (h0 : Heap) (O0 : Ext Z.heap h0) (A_t : Ar Z h0 t .byte vs) (hi : 2 * i_ + 1 < vs.length) (hn : i_ < 16) (n_t : Z.heap.size ≤ t) (SA_ : Sta Z Z.heap "java/lang/StringUTF16" "$assertionsDisabled" "Z" (.int 1)) (SH_ : Sta Z Z.heap "java/lang/StringUTF16" "HI_BYTE_SHIFT" "I" (.int 0)) (SL_ : Sta Z Z.heap "java/lang/StringUTF16" "LO_BYTE_SHIFT" "I" (.int 8)) :
    Con l Z consts_1 false (⟨"java/lang/StringUTF16", "putChar", "([BII)V"⟩ : MethodName) jdk_52_method_4_code 3 none [] ({ frames := 0, cells := 0, slots := 0, locals := 0 } : Room) #[(.ref t), (.int (Int32.ofNat i_)), (.int c)] [t] h0 (fun v h => v = none ∧ Keep h0 h [t] ∧ Ar Z h t .byte ((vs.set (2 * i_) (.int (StrChars.lo8 c))).set (2 * i_ + 1) (.int (StrChars.hi8 c)))) := by
  refine Con.intro (Ls := #[.val (.ref t), .val (.int (Int32.ofNat i_)), .val (.int c)]) (plainFor_of_name pn1) (own_EL hw) O0 (fun m => by first | (simp [entryFrame, mkF, argsToLocals, Value.category]; done) | rfl) (fun p e s m below meth cc_ T w sf_ => ?_)
  have K0 := Keep.refl h0 [t]
  have s_t := sf_ t (List.mem_singleton.mpr rfl)
  refine g_getS w e5_0 (q := 3) rfl (hw _ (List.mem_of_getElem? (i := 194) rfl)) Via.refl SA_ (fun T w => ?_)
  refine g_ifY w e5_3 (by decide) (q := 28) (by decide) (by decide) ?_
  refine g_iloadN w e5_28 (q := 29) rfl rfl ?_
  refine g_iconst w e5_29 (q := 30) rfl (v := (1 : Int32)) (by decide) ?_
  refine g_ishl w e5_30 (q := 31) rfl ?_
  rw [shl1 _ (by omega)]
  show Go p e below _ (State.setTop T (mkF m 31 #[.val (.ref t), .val (.int (Int32.ofNat i_)), .val (.int c)] [(.int (Int32.ofNat (2 * i_)))]))
  refine g_istoreN w e5_31 (q := 32) rfl (Ls' := #[.val (.ref t), .val (.int (Int32.ofNat (2 * i_))), .val (.int c)]) rfl ?_
  refine g_aloadN w e5_32 (q := 33) rfl rfl rfl ?_
  refine g_iloadN w e5_33 (q := 34) rfl rfl ?_
  refine g_iinc w e5_34 (q := 37) rfl (v := (1 : Int32)) (by decide) rfl rfl ?_
  rw [ofNat_succ]
  show Go p e below _ (State.setTop T (mkF m 37 #[.val (.ref t), .val (.int (Int32.ofNat ((2 * i_) + 1))), .val (.int c)] [(.int (Int32.ofNat (2 * i_))), (.ref t)]))
  refine g_iloadN w e5_37 (q := 38) rfl rfl ?_
  refine g_getS w e5_38 (q := 41) rfl (hw _ (List.mem_of_getElem? (i := 195) rfl)) Via.refl SH_ (fun T w => ?_)
  refine g_ishr w e5_41 (q := 42) rfl ?_
  refine g_i2b w e5_42 (q := 43) rfl ?_
  have g_ := w.chv
  refine g_bastore w e5_43 (q := 44) rfl A_t (i := 2 * i_) rfl (by omega) (x' := (c >>> ((0 : Int32) &&& 31)).toInt8.toInt32) (nar_b _) n_t s_t (fun T h w W V => ?_)
  replace K0 := K0.wr W (Or.inl (List.mem_singleton.mpr rfl))
  replace s_t := Safe.wr W s_t g_ s_t
  rw [StrChars.shr0] at V
  replace A_t := V
  refine g_aloadN w e5_44 (q := 45) rfl rfl rfl ?_
  refine g_iloadN w e5_45 (q := 46) rfl rfl ?_
  refine g_iloadN w e5_46 (q := 47) rfl rfl ?_
  refine g_getS w e5_47 (q := 50) rfl (hw _ (List.mem_of_getElem? (i := 196) rfl)) Via.refl SL_ (fun T w => ?_)
  refine g_ishr w e5_50 (q := 51) rfl ?_
  refine g_i2b w e5_51 (q := 52) rfl ?_
  have g_ := w.chv
  refine g_bastore w e5_52 (q := 53) rfl A_t (i := 2 * i_ + 1) rfl (by rw [List.length_set]; omega) (x' := (c >>> ((8 : Int32) &&& 31)).toInt8.toInt32) (nar_b _) n_t s_t (fun T h w W V => ?_)
  replace K0 := K0.wr W (Or.inl (List.mem_singleton.mpr rfl))
  replace s_t := Safe.wr W s_t g_ s_t
  replace A_t := V
  exact g_return w e5_53 rfl (by decide) (by decide) ⟨rfl, K0, A_t⟩
theorem e6_0 : decode jdk_52_method_5_code 0 = .ok (.getstatic 44, 3) := by decide +kernel
theorem e6_3 : decode jdk_52_method_5_code 3 = .ok (.ifCond .ne 25, 3) := by decide +kernel
theorem e6_6 : decode jdk_52_method_5_code 6 = .ok (.iload_n 1, 1) := by decide +kernel
theorem e6_7 : decode jdk_52_method_5_code 7 = .ok (.ifCond .lt 11, 3) := by decide +kernel
theorem e6_10 : decode jdk_52_method_5_code 10 = .ok (.iload_n 1, 1) := by decide +kernel
theorem e6_11 : decode jdk_52_method_5_code 11 = .ok (.aload_n 0, 1) := by decide +kernel
theorem e6_12 : decode jdk_52_method_5_code 12 = .ok (.invokestatic 48, 3) := by decide +kernel
theorem e6_15 : decode jdk_52_method_5_code 15 = .ok (.if_icmp .lt 13, 3) := by decide +kernel
theorem e6_18 : decode jdk_52_method_5_code 18 = .ok (.new 52, 3) := by decide +kernel
theorem e6_21 : decode jdk_52_method_5_code 21 = .ok (.dup, 1) := by decide +kernel
theorem e6_22 : decode jdk_52_method_5_code 22 = .ok (.ldc 54, 2) := by decide +kernel
theorem e6_24 : decode jdk_52_method_5_code 24 = .ok (.invokespecial 56, 3) := by decide +kernel
theorem e6_27 : decode jdk_52_method_5_code 27 = .ok (.athrow, 1) := by decide +kernel
theorem e6_28 : decode jdk_52_method_5_code 28 = .ok (.iload_n 1, 1) := by decide +kernel
theorem e6_29 : decode jdk_52_method_5_code 29 = .ok (.iconst 1, 1) := by decide +kernel
theorem e6_30 : decode jdk_52_method_5_code 30 = .ok (.ishl, 1) := by decide +kernel
theorem e6_31 : decode jdk_52_method_5_code 31 = .ok (.istore_n 1, 1) := by decide +kernel
theorem e6_32 : decode jdk_52_method_5_code 32 = .ok (.aload_n 0, 1) := by decide +kernel
theorem e6_33 : decode jdk_52_method_5_code 33 = .ok (.iload_n 1, 1) := by decide +kernel
theorem e6_34 : decode jdk_52_method_5_code 34 = .ok (.iinc 1 1, 3) := by decide +kernel
theorem e6_37 : decode jdk_52_method_5_code 37 = .ok (.baload, 1) := by decide +kernel
theorem e6_38 : decode jdk_52_method_5_code 38 = .ok (.sipush 255, 3) := by decide +kernel
theorem e6_41 : decode jdk_52_method_5_code 41 = .ok (.iand, 1) := by decide +kernel
theorem e6_42 : decode jdk_52_method_5_code 42 = .ok (.getstatic 59, 3) := by decide +kernel
theorem e6_45 : decode jdk_52_method_5_code 45 = .ok (.ishl, 1) := by decide +kernel
theorem e6_46 : decode jdk_52_method_5_code 46 = .ok (.aload_n 0, 1) := by decide +kernel
theorem e6_47 : decode jdk_52_method_5_code 47 = .ok (.iload_n 1, 1) := by decide +kernel
theorem e6_48 : decode jdk_52_method_5_code 48 = .ok (.baload, 1) := by decide +kernel
theorem e6_49 : decode jdk_52_method_5_code 49 = .ok (.sipush 255, 3) := by decide +kernel
theorem e6_52 : decode jdk_52_method_5_code 52 = .ok (.iand, 1) := by decide +kernel
theorem e6_53 : decode jdk_52_method_5_code 53 = .ok (.getstatic 63, 3) := by decide +kernel
theorem e6_56 : decode jdk_52_method_5_code 56 = .ok (.ishl, 1) := by decide +kernel
theorem e6_57 : decode jdk_52_method_5_code 57 = .ok (.ior, 1) := by decide +kernel
theorem e6_58 : decode jdk_52_method_5_code 58 = .ok (.i2c, 1) := by decide +kernel
theorem e6_59 : decode jdk_52_method_5_code 59 = .ok (.ireturn, 1) := by decide +kernel
set_option maxRecDepth 65536 in
set_option maxHeartbeats 40000000 in
theorem con_get (l : Launch) (Z : State) (a0 : Array Value) (hw : ∀ d ∈ tables_1, d.before a0 Z = true) (t : Addr) (i_ : Nat) (cs : List Int32) (h0 : Heap) (O0 : Ext Z.heap h0) (A_t : Ar Z h0 t .byte (StrChars.Road.wideBytes cs)) (hi : i_ < cs.length) (hn : cs.length ≤ 16) (hl : ∀ c ∈ cs, Lt16 c) (SA_ : Sta Z Z.heap "java/lang/StringUTF16" "$assertionsDisabled" "Z" (.int 1)) (SH_ : Sta Z Z.heap "java/lang/StringUTF16" "HI_BYTE_SHIFT" "I" (.int 0)) (SL_ : Sta Z Z.heap "java/lang/StringUTF16" "LO_BYTE_SHIFT" "I" (.int 8)) :
    Con l Z consts_1 false (⟨"java/lang/StringUTF16", "getChar", "([BI)C"⟩ : MethodName) jdk_52_method_5_code 2 (some .char) [] ({ frames := 0, cells := 0, slots := 0, locals := 0 } : Room) #[(.ref t), (.int (Int32.ofNat i_))] [] h0 (fun v h => v = some (.int (cs.getD i_ 0)) ∧ h = h0) := by
  refine Con.intro (Ls := #[.val (.ref t), .val (.int (Int32.ofNat i_))]) (plainFor_of_name pn1) (own_EL hw) O0 (fun m => by first | (simp [entryFrame, mkF, argsToLocals, Value.category]; done) | rfl) (fun p e s m below meth cc_ T w sf_ => ?_)
  have E0 := ext_refl h0
  refine g_getS w e6_0 (q := 3) rfl (hw _ (List.mem_of_getElem? (i := 194) rfl)) Via.refl SA_ (fun T w => ?_)
  refine g_ifY w e6_3 (by decide) (q := 28) (by decide) (by decide) ?_
  refine g_iloadN w e6_28 (q := 29) rfl rfl ?_
  refine g_iconst w e6_29 (q := 30) rfl (v := (1 : Int32)) (by decide) ?_
  refine g_ishl w e6_30 (q := 31) rfl ?_
  rw [shl1 _ (by omega)]
  show Go p e below _ (State.setTop T (mkF m 31 #[.val (.ref t), .val (.int (Int32.ofNat i_))] [(.int (Int32.ofNat (2 * i_)))]))
  refine g_istoreN w e6_31 (q := 32) rfl (Ls' := #[.val (.ref t), .val (.int (Int32.ofNat (2 * i_)))]) rfl ?_
  refine g_aloadN w e6_32 (q := 33) rfl rfl rfl ?_
  refine g_iloadN w e6_33 (q := 34) rfl rfl ?_
  refine g_iinc w e6_34 (q := 37) rfl (v := (1 : Int32)) (by decide) rfl rfl ?_
  rw [ofNat_succ]
  show Go p e below _ (State.setTop T (mkF m 37 #[.val (.ref t), .val (.int (Int32.ofNat ((2 * i_) + 1)))] [(.int (Int32.ofNat (2 * i_))), (.ref t)]))
  refine g_baload w e6_37 (q := 38) rfl A_t (i := 2 * i_) rfl (by rw [wide_len]; omega) (wide_at _ _ hi).1 ?_
  refine g_sipush w e6_38 (q := 41) rfl (v := (255 : Int32)) (by decide) ?_
  refine g_iand w e6_41 (q := 42) rfl ?_
  refine g_getS w e6_42 (q := 45) rfl (hw _ (List.mem_of_getElem? (i := 195) rfl)) Via.refl SH_ (fun T w => ?_)
  refine g_ishl w e6_45 (q := 46) rfl ?_
  refine g_aloadN w e6_46 (q := 47) rfl rfl rfl ?_
  refine g_iloadN w e6_47 (q := 48) rfl rfl ?_
  refine g_baload w e6_48 (q := 49) rfl A_t (i := 2 * i_ + 1) rfl (by rw [wide_len]; omega) (wide_at _ _ hi).2 ?_
  refine g_sipush w e6_49 (q := 52) rfl (v := (255 : Int32)) (by decide) ?_
  refine g_iand w e6_52 (q := 53) rfl ?_
  refine g_getS w e6_53 (q := 56) rfl (hw _ (List.mem_of_getElem? (i := 196) rfl)) Via.refl SL_ (fun T w => ?_)
  refine g_ishl w e6_56 (q := 57) rfl ?_
  refine g_ior w e6_57 (q := 58) rfl ?_
  refine g_i2c w e6_58 (q := 59) rfl ?_
  rw [getch (chr_all hl hi)]
  show Go p e below _ (State.setTop T (mkF m 59 #[.val (.ref t), .val (.int (Int32.ofNat ((2 * i_) + 1)))] [(.int (cs.getD i_ 0))]))
  exact g_retn w e6_59 rfl (by simp) (nar_chr (chr_all hl hi)) (by decide) (by decide) ⟨rfl, rfl⟩
theorem e7_0 : decode jdk_52_method_14_code 0 = .ok (.iload_n 2, 1) := by decide +kernel
theorem e7_1 : decode jdk_52_method_14_code 1 = .ok (.invokestatic 107, 3) := by decide +kernel
theorem e7_4 : decode jdk_52_method_14_code 4 = .ok (.astore_n 3, 1) := by decide +kernel
theorem e7_5 : decode jdk_52_method_14_code 5 = .ok (.iconst 0, 1) := by decide +kernel
theorem e7_6 : decode jdk_52_method_14_code 6 = .ok (.istore 4, 2) := by decide +kernel
theorem e7_8 : decode jdk_52_method_14_code 8 = .ok (.iload 4, 2) := by decide +kernel
theorem e7_10 : decode jdk_52_method_14_code 10 = .ok (.iload_n 2, 1) := by decide +kernel
theorem e7_11 : decode jdk_52_method_14_code 11 = .ok (.if_icmp .ge 21, 3) := by decide +kernel
theorem e7_14 : decode jdk_52_method_14_code 14 = .ok (.aload_n 3, 1) := by decide +kernel
theorem e7_15 : decode jdk_52_method_14_code 15 = .ok (.iload 4, 2) := by decide +kernel
theorem e7_17 : decode jdk_52_method_14_code 17 = .ok (.aload_n 0, 1) := by decide +kernel
theorem e7_18 : decode jdk_52_method_14_code 18 = .ok (.iload_n 1, 1) := by decide +kernel
theorem e7_19 : decode jdk_52_method_14_code 19 = .ok (.caload, 1) := by decide +kernel
theorem e7_20 : decode jdk_52_method_14_code 20 = .ok (.invokestatic 111, 3) := by decide +kernel
theorem e7_23 : decode jdk_52_method_14_code 23 = .ok (.iinc 1 1, 3) := by decide +kernel
theorem e7_26 : decode jdk_52_method_14_code 26 = .ok (.iinc 4 1, 3) := by decide +kernel
theorem e7_29 : decode jdk_52_method_14_code 29 = .ok (.goto (-21), 3) := by decide +kernel
theorem e7_32 : decode jdk_52_method_14_code 32 = .ok (.aload_n 3, 1) := by decide +kernel
theorem e7_33 : decode jdk_52_method_14_code 33 = .ok (.areturn, 1) := by decide +kernel
theorem pd2 : parseMethodDescriptor "(I)[B" = some ⟨[.int], some (.array .byte)⟩ := by decide +kernel
theorem pd3 : parseMethodDescriptor "([BII)V" = some ⟨[(.array .byte), .int, .int], none⟩ := by decide +kernel
set_option maxRecDepth 65536 in
set_option maxHeartbeats 40000000 in
theorem con_tbs (l : Launch) (Z : State) (a0 : Array Value) (hw : ∀ d ∈ tables_1, d.before a0 Z = true) (a : Addr) (cs : List Int32) (h0 : Heap) (O0 : Ext Z.heap h0) (A_a : Ar Z h0 a .char (cs.map Value.int)) (hn : cs.length ≤ 16) (hl : ∀ c ∈ cs, Lt16 c) (SA_ : Sta Z Z.heap "java/lang/StringUTF16" "$assertionsDisabled" "Z" (.int 1)) (SH_ : Sta Z Z.heap "java/lang/StringUTF16" "HI_BYTE_SHIFT" "I" (.int 0)) (SL_ : Sta Z Z.heap "java/lang/StringUTF16" "LO_BYTE_SHIFT" "I" (.int 8)) :
    Con l Z consts_1 false (⟨"java/lang/StringUTF16", "toBytes", "([CII)[B"⟩ : MethodName) jdk_52_method_14_code 5 (some (.array .byte)) [] ({ frames := 2, cells := 1, slots := 32, locals := 24 } : Room) #[(.ref a), (.int (0 : Int32)), (.int (Int32.ofNat cs.length))] [] h0 (fun v h => ∃ t, v = some (.ref t) ∧ Ext h0 h ∧ h0.size ≤ t ∧ Ar Z h t .byte (StrChars.Road.wideBytes cs)) := by
  refine Con.intro (Ls := #[.val (.ref a), .val (.int (0 : Int32)), .val (.int (Int32.ofNat cs.length)), .unset, .unset]) (plainFor_of_name pn1) (own_EL hw) O0 (fun m => by first | (simp [entryFrame, mkF, argsToLocals, Value.category]; done) | rfl) (fun p e s m below meth cc_ T w sf_ => ?_)
  have E0 := ext_refl h0
  refine g_iloadN w e7_0 (q := 1) rfl rfl ?_
  refine g_staticS w (con_nbf l Z a0 hw cs.length _ w.old hn) no0 e7_1 (q := 4) rfl rfl (hw _ (List.mem_of_getElem? (i := 184) rfl)) (hw _ (List.mem_of_getElem? (i := 185) rfl)) (hw _ (List.mem_of_getElem? (i := 163) rfl)) (hw _ (List.mem_of_getElem? (i := 186) rfl)) (by decide) pd2 rfl rfl (W := 0) (Nat.le_of_eq rfl) (by decide) (by decide) (by decide) (by decide) (fun T h v w gs C q sq => ?_)
  obtain ⟨t, hv, E, g_t, A_t⟩ := q
  subst hv
  have s_t := sq _ rfl
  have z_t := Nat.le_trans E0.1 g_t
  have ne_a_t : a ≠ t := Nat.ne_of_lt (Nat.lt_of_lt_of_le A_a.lt g_t)
  replace E0 := ext_trans E0 E
  replace A_a := A_a.ext E
  show Go p e below _ (State.setTop T (mkF m 4 #[.val (.ref a), .val (.int (0 : Int32)), .val (.int (Int32.ofNat cs.length)), .unset, .unset] [(.ref t)]))
  have n_t : Z.heap.size ≤ t := Nat.le_trans O0.1 z_t
  rw [← midW_zero] at A_t
  refine g_astoreN w e7_4 (q := 5) rfl rfl (Ls' := #[.val (.ref a), .val (.int (0 : Int32)), .val (.int (Int32.ofNat cs.length)), .val (.ref t), .unset]) rfl ?_
  refine g_iconst w e7_5 (q := 6) rfl (v := (0 : Int32)) (by decide) ?_
  refine g_istore w e7_6 (q := 8) rfl (Ls' := #[.val (.ref a), .val (.int (0 : Int32)), .val (.int (Int32.ofNat cs.length)), .val (.ref t), .val (.int (0 : Int32))]) rfl ?_
  have LP : ∀ (r : Nat) (i : Nat) (T : State) (vm : Vm) (h : Heap), (i + r = cs.length) → (Ext h0 h) → (Ar Z h a .char (cs.map Value.int)) → (Ar Z h t .byte (midW cs i)) → (Safe Z consts_1 vm h t) → Wk p l e ({ frames := 2, cells := 1, slots := 32, locals := 24 } : Room) s m #[(.ref a), (.int (0 : Int32)), (.int (Int32.ofNat cs.length))] below meth cc_ Z a0 consts_1 false (⟨"java/lang/StringUTF16", "toBytes", "([CII)[B"⟩ : MethodName) jdk_52_method_14_code 5 (some (.array .byte)) T vm h 1 32 → Go p e below (Fini Z consts_1 false ({ frames := 2, cells := 1, slots := 32, locals := 24 } : Room).cells ({ frames := 2, cells := 1, slots := 32, locals := 24 } : Room).slots (fun v h => ∃ t, v = some (.ref t) ∧ Ext h0 h ∧ h0.size ≤ t ∧ Ar Z h t .byte (StrChars.Road.wideBytes cs)) s) (State.setTop T (mkF m 8 #[.val (.ref a), .val (.int (Int32.ofNat i)), .val (.int (Int32.ofNat cs.length)), .val (.ref t), .val (.int (Int32.ofNat i))] [])) := by
    intro r
    induction r with
    | zero =>
      intro i T vm h hi E0 A_a A_t s_t  w
      refine g_iload w e7_8 (q := 10) rfl rfl ?_
      refine g_iloadN w e7_10 (q := 11) rfl rfl ?_
      refine g_icY w e7_11 (by decide) (q := 32) (by decide) (Jvm.Free.XT.ii_ge_t (not_lt_ofNat (by omega) (by omega))) ?_
      refine g_aloadN w e7_32 (q := 33) rfl rfl rfl ?_
      exact g_reta w e7_33 rfl rfl rfl (by decide) (by decide) ⟨t, rfl, E0, z_t, by rw [show i = cs.length from hi, midW_full] at A_t; exact A_t⟩
    | succ r ih =>
      intro i T vm h hi E0 A_a A_t s_t  w
      refine g_iload w e7_8 (q := 10) rfl rfl ?_
      refine g_iloadN w e7_10 (q := 11) rfl rfl ?_
      refine g_icN w e7_11 (q := 14) rfl (Jvm.Free.XT.ii_ge_f (lt_ofNat (by omega) (by omega))) ?_
      refine g_aloadN w e7_14 (q := 15) rfl rfl rfl ?_
      refine g_iload w e7_15 (q := 17) rfl rfl ?_
      refine g_aloadN w e7_17 (q := 18) rfl rfl rfl ?_
      refine g_iloadN w e7_18 (q := 19) rfl rfl ?_
      refine g_caload w e7_19 (q := 20) rfl A_a (i := i) rfl (by simp; omega) (chr_at (by omega)) ?_
      refine g_static w (con_put l Z a0 hw t i (cs.getD i 0) _ _ w.old A_t (by rw [midW_len]; omega) (by omega) n_t SA_ SH_ SL_) (in1 ⟨A_t.lt, s_t⟩) e7_20 (q := 23) rfl rfl (hw _ (List.mem_of_getElem? (i := 191) rfl)) (hw _ (List.mem_of_getElem? (i := 192) rfl)) (hw _ (List.mem_of_getElem? (i := 163) rfl)) (hw _ (List.mem_of_getElem? (i := 193) rfl)) (by decide) pd3 rfl rfl (W := 0) (Nat.le_of_eq rfl) (by decide) (by decide) (by decide) (by decide) (fun T h v w gs C q => ?_)
      replace s_t := C.safe A_t.lt s_t
      obtain ⟨rfl, K, V⟩ := q
      replace E0 := ext_keep E0 K z_t
      replace A_a := A_a.keep K (not1 ne_a_t)
      rw [midW_set _ _ (by omega)] at V
      replace A_t := V
      show Go p e below _ (State.setTop T (mkF m 23 #[.val (.ref a), .val (.int (Int32.ofNat i)), .val (.int (Int32.ofNat cs.length)), .val (.ref t), .val (.int (Int32.ofNat i))] []))
      refine g_iinc w e7_23 (q := 26) rfl (v := (1 : Int32)) (by decide) rfl rfl ?_
      rw [ofNat_succ]
      show Go p e below _ (State.setTop T (mkF m 26 #[.val (.ref a), .val (.int (Int32.ofNat (i + 1))), .val (.int (Int32.ofNat cs.length)), .val (.ref t), .val (.int (Int32.ofNat i))] []))
      refine g_iinc w e7_26 (q := 29) rfl (v := (1 : Int32)) (by decide) rfl rfl ?_
      rw [ofNat_succ]
      show Go p e below _ (State.setTop T (mkF m 29 #[.val (.ref a), .val (.int (Int32.ofNat (i + 1))), .val (.int (Int32.ofNat cs.length)), .val (.ref t), .val (.int (Int32.ofNat (i + 1)))] []))
      refine g_goto w e7_29 (by decide) (q := 8) (by decide) ?_
      exact ih (i + 1) T _ _ (by omega) E0 A_a A_t s_t w
  exact LP cs.length 0 T _ _ (by omega) E0 A_a A_t s_t w
theorem e8_0 : decode jdk_52_method_16_code 0 = .ok (.iload_n 2, 1) := by decide +kernel
theorem e8_1 : decode jdk_52_method_16_code 1 = .ok (.newarray .byte, 2) := by decide +kernel
theorem e8_3 : decode jdk_52_method_16_code 3 = .ok (.astore_n 3, 1) := by decide +kernel
theorem e8_4 : decode jdk_52_method_16_code 4 = .ok (.aload_n 0, 1) := by decide +kernel
theorem e8_5 : decode jdk_52_method_16_code 5 = .ok (.iload_n 1, 1) := by decide +kernel
theorem e8_6 : decode jdk_52_method_16_code 6 = .ok (.aload_n 3, 1) := by decide +kernel
theorem e8_7 : decode jdk_52_method_16_code 7 = .ok (.iconst 0, 1) := by decide +kernel
theorem e8_8 : decode jdk_52_method_16_code 8 = .ok (.iload_n 2, 1) := by decide +kernel
theorem e8_9 : decode jdk_52_method_16_code 9 = .ok (.invokestatic 115, 3) := by decide +kernel
theorem e8_12 : decode jdk_52_method_16_code 12 = .ok (.istore 4, 2) := by decide +kernel
theorem e8_14 : decode jdk_52_method_16_code 14 = .ok (.iload 4, 2) := by decide +kernel
theorem e8_16 : decode jdk_52_method_16_code 16 = .ok (.iload_n 2, 1) := by decide +kernel
theorem e8_17 : decode jdk_52_method_16_code 17 = .ok (.if_icmp .eq 40, 3) := by decide +kernel
theorem e8_20 : decode jdk_52_method_16_code 20 = .ok (.aload_n 0, 1) := by decide +kernel
theorem e8_21 : decode jdk_52_method_16_code 21 = .ok (.iload_n 1, 1) := by decide +kernel
theorem e8_22 : decode jdk_52_method_16_code 22 = .ok (.iload_n 2, 1) := by decide +kernel
theorem e8_23 : decode jdk_52_method_16_code 23 = .ok (.invokestatic 119, 3) := by decide +kernel
theorem e8_26 : decode jdk_52_method_16_code 26 = .ok (.astore 5, 2) := by decide +kernel
theorem e8_28 : decode jdk_52_method_16_code 28 = .ok (.aload 5, 2) := by decide +kernel
theorem e8_30 : decode jdk_52_method_16_code 30 = .ok (.iload 4, 2) := by decide +kernel
theorem e8_32 : decode jdk_52_method_16_code 32 = .ok (.invokestatic 71, 3) := by decide +kernel
theorem e8_35 : decode jdk_52_method_16_code 35 = .ok (.sipush 255, 3) := by decide +kernel
theorem e8_38 : decode jdk_52_method_16_code 38 = .ok (.if_icmp .gt 16, 3) := by decide +kernel
theorem e8_41 : decode jdk_52_method_16_code 41 = .ok (.aload 5, 2) := by decide +kernel
theorem e8_43 : decode jdk_52_method_16_code 43 = .ok (.iconst 0, 1) := by decide +kernel
theorem e8_44 : decode jdk_52_method_16_code 44 = .ok (.aload_n 3, 1) := by decide +kernel
theorem e8_45 : decode jdk_52_method_16_code 45 = .ok (.iconst 0, 1) := by decide +kernel
theorem e8_46 : decode jdk_52_method_16_code 46 = .ok (.iload_n 2, 1) := by decide +kernel
theorem e8_47 : decode jdk_52_method_16_code 47 = .ok (.invokestatic 123, 3) := by decide +kernel
theorem e8_50 : decode jdk_52_method_16_code 50 = .ok (.iload_n 2, 1) := by decide +kernel
theorem e8_51 : decode jdk_52_method_16_code 51 = .ok (.if_icmp .eq 6, 3) := by decide +kernel
theorem e8_54 : decode jdk_52_method_16_code 54 = .ok (.aload 5, 2) := by decide +kernel
theorem e8_56 : decode jdk_52_method_16_code 56 = .ok (.areturn, 1) := by decide +kernel
theorem e8_57 : decode jdk_52_method_16_code 57 = .ok (.aload_n 3, 1) := by decide +kernel
theorem e8_58 : decode jdk_52_method_16_code 58 = .ok (.areturn, 1) := by decide +kernel
theorem pd4 : parseMethodDescriptor "([CI[BII)I" = some ⟨[(.array .char), .int, (.array .byte), .int, .int], some .int⟩ := by decide +kernel
theorem pd5 : parseMethodDescriptor "([CII)[B" = some ⟨[(.array .char), .int, .int], some (.array .byte)⟩ := by decide +kernel
theorem pd6 : parseMethodDescriptor "([BI)C" = some ⟨[(.array .byte), .int], some .char⟩ := by decide +kernel
set_option maxRecDepth 65536 in
set_option maxHeartbeats 40000000 in
theorem con_cmp (l : Launch) (Z : State) (a0 : Array Value) (hw : ∀ d ∈ tables_1, d.before a0 Z = true) (a : Addr) (cs : List Int32) (h0 : Heap) (O0 : Ext Z.heap h0) (A_a : Ar Z h0 a .char (cs.map Value.int)) (hn : cs.length ≤ 16) (hl : ∀ c ∈ cs, Lt16 c) (SA_ : Sta Z Z.heap "java/lang/StringUTF16" "$assertionsDisabled" "Z" (.int 1)) (SH_ : Sta Z Z.heap "java/lang/StringUTF16" "HI_BYTE_SHIFT" "I" (.int 0)) (SL_ : Sta Z Z.heap "java/lang/StringUTF16" "LO_BYTE_SHIFT" "I" (.int 8)) :
    Con l Z consts_1 false (⟨"java/lang/StringUTF16", "compress", "([CII)[B"⟩ : MethodName) jdk_52_method_16_code 6 (some (.array .byte)) [] ({ frames := 3, cells := 2, slots := 48, locals := 40 } : Room) #[(.ref a), (.int (0 : Int32)), (.int (Int32.ofNat cs.length))] [] h0 (fun v h => ∃ t, v = some (.ref t) ∧ Ext h0 h ∧ h0.size ≤ t ∧ (((∀ c ∈ cs, Lt8 c) ∧ Ar Z h t .byte ((cs.map fun c => c.toInt8.toInt32).map Value.int)) ∨ ((∃ c ∈ cs, 255 < c) ∧ Ar Z h t .byte (StrChars.Road.wideBytes cs)))) := by
  refine Con.intro (Ls := #[.val (.ref a), .val (.int (0 : Int32)), .val (.int (Int32.ofNat cs.length)), .unset, .unset, .unset]) (plainFor_of_name pn1) (own_EL hw) O0 (fun m => by first | (simp [entryFrame, mkF, argsToLocals, Value.category]; done) | rfl) (fun p e s m below meth cc_ T w sf_ => ?_)
  have E0 := ext_refl h0
  refine g_iloadN w e8_0 (q := 1) rfl rfl ?_
  refine g_newarr w e8_1 (q := 3) rfl (hw _ (List.mem_of_getElem? (i := 21) rfl)) (len := cs.length) (cap := 16) rfl (by omega) (by decide) (by decide) (by decide) (fun T h t w E g_t n_t A_t s_t => ?_)
  have z_t := Nat.le_trans E0.1 g_t
  have ne_a_t : a ≠ t := Nat.ne_of_lt (Nat.lt_of_lt_of_le A_a.lt g_t)
  replace E0 := ext_trans E0 E
  replace A_a := A_a.ext E
  replace A_t : Ar Z h t .byte (List.replicate cs.length (.int 0)) := A_t
  refine g_astoreN w e8_3 (q := 4) rfl rfl (Ls' := #[.val (.ref a), .val (.int (0 : Int32)), .val (.int (Int32.ofNat cs.length)), .val (.ref t), .unset, .unset]) rfl ?_
  refine g_aloadN w e8_4 (q := 5) rfl rfl rfl ?_
  refine g_iloadN w e8_5 (q := 6) rfl rfl ?_
  refine g_aloadN w e8_6 (q := 7) rfl rfl rfl ?_
  refine g_iconst w e8_7 (q := 8) rfl (v := (0 : Int32)) (by decide) ?_
  refine g_iloadN w e8_8 (q := 9) rfl rfl ?_
  refine g_static w (con_cmpI l Z a0 hw a t cs _ w.old A_a A_t n_t ne_a_t hl hn) (in1 ⟨A_t.lt, s_t⟩) e8_9 (q := 12) rfl rfl (hw _ (List.mem_of_getElem? (i := 165) rfl)) (hw _ (List.mem_of_getElem? (i := 166) rfl)) (hw _ (List.mem_of_getElem? (i := 163) rfl)) (hw _ (List.mem_of_getElem? (i := 167) rfl)) (by decide) pd4 rfl rfl (W := 0) (Nat.le_of_eq rfl) (by decide) (by decide) (by decide) (by decide) (fun T h v w gs C q => ?_)
  rcases q with ⟨rfl, hb, K, V⟩ | ⟨k_, hk, rfl, hk2, K⟩
  · replace E0 := ext_keep E0 K z_t
    replace A_a := A_a.keep K (not1 ne_a_t)
    replace A_t := V
    show Go p e below _ (State.setTop T (mkF m 12 #[.val (.ref a), .val (.int (0 : Int32)), .val (.int (Int32.ofNat cs.length)), .val (.ref t), .unset, .unset] [(.int (Int32.ofNat cs.length))]))
    refine g_istore w e8_12 (q := 14) rfl (Ls' := #[.val (.ref a), .val (.int (0 : Int32)), .val (.int (Int32.ofNat cs.length)), .val (.ref t), .val (.int (Int32.ofNat cs.length)), .unset]) rfl ?_
    refine g_iload w e8_14 (q := 16) rfl rfl ?_
    refine g_iloadN w e8_16 (q := 17) rfl rfl ?_
    refine g_icY w e8_17 (by decide) (q := 57) (by decide) (Jvm.Free.XT.ii_eq_t rfl) ?_
    refine g_aloadN w e8_57 (q := 58) rfl rfl rfl ?_
    exact g_reta w e8_58 rfl rfl rfl (by decide) (by decide) ⟨t, rfl, E0, z_t, Or.inl ⟨hb, A_t⟩⟩
  · replace E0 := ext_keep E0 K z_t
    replace A_a := A_a.keep K (not1 ne_a_t)
    show Go p e below _ (State.setTop T (mkF m 12 #[.val (.ref a), .val (.int (0 : Int32)), .val (.int (Int32.ofNat cs.length)), .val (.ref t), .unset, .unset] [(.int (Int32.ofNat k_))]))
    refine g_istore w e8_12 (q := 14) rfl (Ls' := #[.val (.ref a), .val (.int (0 : Int32)), .val (.int (Int32.ofNat cs.length)), .val (.ref t), .val (.int (Int32.ofNat k_)), .unset]) rfl ?_
    refine g_iload w e8_14 (q := 16) rfl rfl ?_
    refine g_iloadN w e8_16 (q := 17) rfl rfl ?_
    refine g_icN w e8_17 (q := 20) rfl (Jvm.Free.XT.ii_eq_f (ofNat_ne hk (by omega))) ?_
    refine g_aloadN w e8_20 (q := 21) rfl rfl rfl ?_
    refine g_iloadN w e8_21 (q := 22) rfl rfl ?_
    refine g_iloadN w e8_22 (q := 23) rfl rfl ?_
    refine g_static w (con_tbs l Z a0 hw a cs _ w.old A_a hn hl SA_ SH_ SL_) no0 e8_23 (q := 26) rfl rfl (hw _ (List.mem_of_getElem? (i := 181) rfl)) (hw _ (List.mem_of_getElem? (i := 182) rfl)) (hw _ (List.mem_of_getElem? (i := 163) rfl)) (hw _ (List.mem_of_getElem? (i := 183) rfl)) (by decide) pd5 rfl rfl (W := 0) (Nat.le_of_eq rfl) (by decide) (by decide) (by decide) (by decide) (fun T h v w gs C q => ?_)
    obtain ⟨u, rfl, E, g_u, A_u⟩ := q
    have z_u := Nat.le_trans E0.1 g_u
    have ne_a_u : a ≠ u := Nat.ne_of_lt (Nat.lt_of_lt_of_le A_a.lt g_u)
    replace E0 := ext_trans E0 E
    replace A_a := A_a.ext E
    show Go p e below _ (State.setTop T (mkF m 26 #[.val (.ref a), .val (.int (0 : Int32)), .val (.int (Int32.ofNat cs.length)), .val (.ref t), .val (.int (Int32.ofNat k_)), .unset] [(.ref u)]))
    refine g_astore w e8_26 (q := 28) rfl rfl (Ls' := #[.val (.ref a), .val (.int (0 : Int32)), .val (.int (Int32.ofNat cs.length)), .val (.ref t), .val (.int (Int32.ofNat k_)), .val (.ref u)]) rfl ?_
    refine g_aload w e8_28 (q := 30) rfl rfl rfl ?_
    refine g_iload w e8_30 (q := 32) rfl rfl ?_
    refine g_staticP w (con_get l Z a0 hw u k_ cs _ w.old A_u hk hn hl SA_ SH_ SL_) no0 e8_32 (q := 35) rfl rfl (hw _ (List.mem_of_getElem? (i := 197) rfl)) (hw _ (List.mem_of_getElem? (i := 198) rfl)) (hw _ (List.mem_of_getElem? (i := 163) rfl)) (hw _ (List.mem_of_getElem? (i := 199) rfl)) (by decide) pd6 rfl rfl (W := 0) (Nat.le_of_eq rfl) (by decide) (by decide) (by decide) (by decide) (fun T v w C q => ?_)
    obtain rfl := q
    show Go p e below _ (State.setTop T (mkF m 35 #[.val (.ref a), .val (.int (0 : Int32)), .val (.int (Int32.ofNat cs.length)), .val (.ref t), .val (.int (Int32.ofNat k_)), .val (.ref u)] [(.int (cs.getD k_ 0))]))
    refine g_sipush w e8_35 (q := 38) rfl (v := (255 : Int32)) (by decide) ?_
    refine g_icY w e8_38 (by decide) (q := 54) (by decide) (Jvm.Free.XT.ii_gt_t hk2) ?_
    refine g_aload w e8_54 (q := 56) rfl rfl rfl ?_
    exact g_reta w e8_56 rfl rfl rfl (by decide) (by decide) ⟨u, rfl, E0, z_u, Or.inr ⟨big_mem hk hk2, A_u⟩⟩
theorem e9_0 : decode jdk_52_method_15_code 0 = .ok (.iload_n 1, 1) := by decide +kernel
theorem e9_1 : decode jdk_52_method_15_code 1 = .ok (.aload_n 0, 1) := by decide +kernel
theorem e9_2 : decode jdk_52_method_15_code 2 = .ok (.arraylength, 1) := by decide +kernel
theorem e9_3 : decode jdk_52_method_15_code 3 = .ok (.isub, 1) := by decide +kernel
theorem e9_4 : decode jdk_52_method_15_code 4 = .ok (.bipush 31, 2) := by decide +kernel
theorem e9_6 : decode jdk_52_method_15_code 6 = .ok (.iushr, 1) := by decide +kernel
theorem e9_7 : decode jdk_52_method_15_code 7 = .ok (.i2b, 1) := by decide +kernel
theorem e9_8 : decode jdk_52_method_15_code 8 = .ok (.ireturn, 1) := by decide +kernel
set_option maxRecDepth 65536 in
set_option maxHeartbeats 40000000 in
theorem con_cfl (l : Launch) (Z : State) (a0 : Array Value) (hw : ∀ d ∈ tables_1, d.before a0 Z = true) (t : Addr) (n_ : Nat) (vs : List Value) (h0 : Heap) (O0 : Ext Z.heap h0) (A_t : Ar Z h0 t .byte vs) :
    Con l Z consts_1 false (⟨"java/lang/StringUTF16", "coderFromArrayLen", "([BI)B"⟩ : MethodName) jdk_52_method_15_code 2 (some .byte) [] ({ frames := 0, cells := 0, slots := 0, locals := 0 } : Room) #[(.ref t), (.int (Int32.ofNat n_))] [] h0 (fun v h => v = some (.int (Jvm.Free.XT.ushr (Int32.ofNat n_ - Int32.ofNat vs.length) 31).toInt8.toInt32) ∧ h = h0) := by
  refine Con.intro (Ls := #[.val (.ref t), .val (.int (Int32.ofNat n_))]) (plainFor_of_name pn1) (own_EL hw) O0 (fun m => by first | (simp [entryFrame, mkF, argsToLocals, Value.category]; done) | rfl) (fun p e s m below meth cc_ T w sf_ => ?_)
  have E0 := ext_refl h0
  refine g_iloadN w e9_0 (q := 1) rfl rfl ?_
  refine g_aloadN w e9_1 (q := 2) rfl rfl rfl ?_
  refine g_alen w e9_2 (q := 3) rfl A_t ?_
  refine g_isub w e9_3 (q := 4) rfl ?_
  refine g_bipush w e9_4 (q := 6) rfl (v := (31 : Int32)) (by decide) ?_
  refine g_iushr w e9_6 (q := 7) rfl ?_
  refine g_i2b w e9_7 (q := 8) rfl ?_
  exact g_retn w e9_8 rfl (by simp) (nar_b _) (by decide) (by decide) ⟨rfl, rfl⟩
theorem pd7 : parseMethodDescriptor "([BI)B" = some ⟨[(.array .byte), .int], some .byte⟩ := by decide +kernel
set_option maxRecDepth 65536 in
set_option maxHeartbeats 40000000 in
theorem con_new4U (l : Launch) (Z : State) (a0 : Array Value) (hw : ∀ d ∈ tables_1, d.before a0 Z = true) (x b : Addr) (cs : List Int32) (h0 : Heap) (O0 : Ext Z.heap h0) (X_x : Exa Z h0 x "java/lang/String") (F_value_x : Fld Z h0 x "java/lang/String" "value" "[B" .null) (F_coder_x : Fld Z h0 x "java/lang/String" "coder" "B" (.int (0 : Int32))) (n_x : Z.heap.size ≤ x) (A_b : Ar Z h0 b .char (cs.map Value.int)) (ne_b_x : b ≠ x) (hn : cs.length ≤ 16) (hl : ∀ c ∈ cs, Lt16 c) (hpos : 0 < cs.length) (hcm : Cpt Z) (SA_ : Sta Z Z.heap "java/lang/StringUTF16" "$assertionsDisabled" "Z" (.int 1)) (SH_ : Sta Z Z.heap "java/lang/StringUTF16" "HI_BYTE_SHIFT" "I" (.int 0)) (SL_ : Sta Z Z.heap "java/lang/StringUTF16" "LO_BYTE_SHIFT" "I" (.int 8)) :
    Con l Z consts_1 false (⟨"java/lang/String", "<init>", "([CIILjava/lang/Void;)V"⟩ : MethodName) jdk_42_method_149_code 6 none [] ({ frames := 4, cells := 2, slots := 48, locals := 57 } : Room) #[(.ref x), (.ref b), (.int (0 : Int32)), (.int (Int32.ofNat cs.length)), .null] [] h0 (fun v h => v = none ∧ Keep h0 h [x] ∧ Su Z h x cs) := by
  refine Con.intro (Ls := #[.val (.ref x), .val (.ref b), .val (.int (0 : Int32)), .val (.int (Int32.ofNat cs.length)), .val .null, .unset]) (plainFor_of_name pn0) (own_EL hw) O0 (fun m => by first | (simp [entryFrame, mkF, argsToLocals, Value.category]; done) | rfl) (fun p e s m below meth cc_ T w sf_ => ?_)
  have K0 := Keep.refl h0 [x]
  obtain ⟨z_, hz_, SC_⟩ := id hcm
  have s_x := safe_null (EL := consts_1) (vm := s.vm) w.wz.alike (hw _ (List.mem_of_getElem? (i := 7) rfl)) X_x F_value_x
  refine g_aloadN w e0_0 (q := 1) rfl rfl rfl ?_
  refine g_initO w e0_1 (q := 4) rfl rfl (hw _ (List.mem_of_getElem? (i := 17) rfl)) (hw _ (List.mem_of_getElem? (i := 18) rfl)) (hw _ (List.mem_of_getElem? (i := 19) rfl)) (W := 0) (Nat.le_of_eq rfl) (by decide) (by decide) (fun T w => ?_)
  refine g_iloadN w e0_4 (q := 5) rfl rfl ?_
  refine g_ifY w e0_5 (by decide) (q := 27) (by decide) (Jvm.Free.XT.i0_ne_t (fun q => ofNat_ne hpos (by omega) q.symm)) ?_
  refine g_getS w e0_27 (q := 30) rfl (hw _ (List.mem_of_getElem? (i := 88) rfl)) Via.refl SC_ (fun T w => ?_)
  refine g_ifN w e0_30 (q := 33) rfl (Jvm.Free.XT.i0_eq_f hz_) ?_
  refine g_aloadN w e0_33 (q := 34) rfl rfl rfl ?_
  refine g_iloadN w e0_34 (q := 35) rfl rfl ?_
  refine g_iloadN w e0_35 (q := 36) rfl rfl ?_
  refine g_static w (con_cmp l Z a0 hw b cs _ w.old A_b hn hl SA_ SH_ SL_) no0 e0_36 (q := 39) rfl rfl (hw _ (List.mem_of_getElem? (i := 161) rfl)) (hw _ (List.mem_of_getElem? (i := 162) rfl)) (hw _ (List.mem_of_getElem? (i := 163) rfl)) (hw _ (List.mem_of_getElem? (i := 164) rfl)) (by decide) pd5 rfl rfl (W := 0) (Nat.le_of_eq rfl) (by decide) (by decide) (by decide) (by decide) (fun T h v w gs C q => ?_)
  replace s_x := C.safe X_x.lt s_x
  obtain ⟨t, rfl, E, g_t, hq⟩ := q
  have z_t := Nat.le_trans K0.1 g_t
  have ne_b_t : b ≠ t := Nat.ne_of_lt (Nat.lt_of_lt_of_le A_b.lt g_t)
  have ne_x_t : x ≠ t := Nat.ne_of_lt (Nat.lt_of_lt_of_le X_x.lt g_t)
  replace K0 := K0.ext E
  replace X_x := X_x.ext E
  replace F_value_x := F_value_x.ext E
  replace F_coder_x := F_coder_x.ext E
  replace A_b := A_b.ext E
  rcases hq with ⟨hb, A_t⟩ | ⟨hb, A_t⟩
  · show Go p e below _ (State.setTop T (mkF m 39 #[.val (.ref x), .val (.ref b), .val (.int (0 : Int32)), .val (.int (Int32.ofNat cs.length)), .val .null, .unset] [(.ref t)]))
    refine g_astore w e0_39 (q := 41) rfl rfl (Ls' := #[.val (.ref x), .val (.ref b), .val (.int (0 : Int32)), .val (.int (Int32.ofNat cs.length)), .val .null, .val (.ref t)]) rfl ?_
    refine g_aloadN w e0_41 (q := 42) rfl rfl rfl ?_
    refine g_aload w e0_42 (q := 44) rfl rfl rfl ?_
    refine g_iloadN w e0_44 (q := 45) rfl rfl ?_
    refine g_staticP w (con_cfl l Z a0 hw t cs.length _ _ w.old A_t) no0 e0_45 (q := 48) rfl rfl (hw _ (List.mem_of_getElem? (i := 168) rfl)) (hw _ (List.mem_of_getElem? (i := 169) rfl)) (hw _ (List.mem_of_getElem? (i := 163) rfl)) (hw _ (List.mem_of_getElem? (i := 170) rfl)) (by decide) pd7 rfl rfl (W := 1) (Nat.le_of_eq rfl) (by decide) (by decide) (by decide) (by decide) (fun T v w C q => ?_)
    replace s_x := C.safe X_x.lt s_x
    rw [List.length_map, List.length_map, cod0 _ (by omega)] at q
    obtain rfl := q
    show Go p e below _ (State.setTop T (mkF m 48 #[.val (.ref x), .val (.ref b), .val (.int (0 : Int32)), .val (.int (Int32.ofNat cs.length)), .val .null, .val (.ref t)] [(.int (0 : Int32)), (.ref x)]))
    have g_ := w.chv
    refine g_putF w e0_48 (q := 51) rfl (hw _ (List.mem_of_getElem? (i := 27) rfl)) Via.refl F_coder_x X_x (Or.inr ⟨(hw _ (List.mem_of_getElem? (i := 23) rfl)), rfl, rfl⟩) (hw _ (List.mem_of_getElem? (i := 7) rfl)) (ty := .byte) (by decide) (v' := (.int (0 : Int32))) rfl rfl n_x s_x (fun T h w W => ?_)
    replace K0 := K0.wr W (Or.inl (List.mem_singleton.mpr rfl))
    replace s_x := Safe.wr W s_x g_ s_x
    replace X_x := X_x.wr W
    replace F_value_x := F_value_x.other W (Or.inr (slot_ne (Or.inr (hw _ (List.mem_of_getElem? (i := 22) rfl))) (Or.inr (hw _ (List.mem_of_getElem? (i := 23) rfl))) (by decide) (t := (.array .byte)) (t' := .byte) (by decide) (by decide)))
    replace F_coder_x := F_coder_x.same W
    replace A_b := A_b.other W ne_b_x
    replace A_t := A_t.other W ne_x_t.symm
    refine g_aloadN w e0_51 (q := 52) rfl rfl rfl ?_
    refine g_aload w e0_52 (q := 54) rfl rfl rfl ?_
    have g_ := w.chv
    refine g_putF w e0_54 (q := 57) rfl (hw _ (List.mem_of_getElem? (i := 26) rfl)) Via.refl F_value_x X_x (Or.inr ⟨(hw _ (List.mem_of_getElem? (i := 22) rfl)), rfl, rfl⟩) (hw _ (List.mem_of_getElem? (i := 7) rfl)) (ty := (.array .byte)) (by decide) (v' := (.ref t)) rfl rfl n_x s_x (fun T h w W => ?_)
    replace K0 := K0.wr W (Or.inl (List.mem_singleton.mpr rfl))
    replace s_x := Safe.wr W s_x g_ s_x
    replace X_x := X_x.wr W
    replace F_value_x := F_value_x.same W
    replace F_coder_x := F_coder_x.other W (Or.inr (slot_ne (Or.inr (hw _ (List.mem_of_getElem? (i := 23) rfl))) (Or.inr (hw _ (List.mem_of_getElem? (i := 22) rfl))) (by decide) (t := .byte) (t' := (.array .byte)) (by decide) (by decide)))
    replace A_b := A_b.other W ne_b_x
    replace A_t := A_t.other W ne_x_t.symm
    exact g_return w e0_57 rfl (by decide) (by decide) ⟨rfl, K0, Sg.su (sg_of (by omega) hb X_x F_value_x F_coder_x A_t)⟩
  · show Go p e below _ (State.setTop T (mkF m 39 #[.val (.ref x), .val (.ref b), .val (.int (0 : Int32)), .val (.int (Int32.ofNat cs.length)), .val .null, .unset] [(.ref t)]))
    refine g_astore w e0_39 (q := 41) rfl rfl (Ls' := #[.val (.ref x), .val (.ref b), .val (.int (0 : Int32)), .val (.int (Int32.ofNat cs.length)), .val .null, .val (.ref t)]) rfl ?_
    refine g_aloadN w e0_41 (q := 42) rfl rfl rfl ?_
    refine g_aload w e0_42 (q := 44) rfl rfl rfl ?_
    refine g_iloadN w e0_44 (q := 45) rfl rfl ?_
    refine g_staticP w (con_cfl l Z a0 hw t cs.length _ _ w.old A_t) no0 e0_45 (q := 48) rfl rfl (hw _ (List.mem_of_getElem? (i := 168) rfl)) (hw _ (List.mem_of_getElem? (i := 169) rfl)) (hw _ (List.mem_of_getElem? (i := 163) rfl)) (hw _ (List.mem_of_getElem? (i := 170) rfl)) (by decide) pd7 rfl rfl (W := 1) (Nat.le_of_eq rfl) (by decide) (by decide) (by decide) (by decide) (fun T v w C q => ?_)
    replace s_x := C.safe X_x.lt s_x
    rw [wide_len, cod1 _ (by omega) hpos] at q
    obtain rfl := q
    show Go p e below _ (State.setTop T (mkF m 48 #[.val (.ref x), .val (.ref b), .val (.int (0 : Int32)), .val (.int (Int32.ofNat cs.length)), .val .null, .val (.ref t)] [(.int (1 : Int32)), (.ref x)]))
    have g_ := w.chv
    refine g_putF w e0_48 (q := 51) rfl (hw _ (List.mem_of_getElem? (i := 27) rfl)) Via.refl F_coder_x X_x (Or.inr ⟨(hw _ (List.mem_of_getElem? (i := 23) rfl)), rfl, rfl⟩) (hw _ (List.mem_of_getElem? (i := 7) rfl)) (ty := .byte) (by decide) (v' := (.int (1 : Int32))) rfl rfl n_x s_x (fun T h w W => ?_)
    replace K0 := K0.wr W (Or.inl (List.mem_singleton.mpr rfl))
    replace s_x := Safe.wr W s_x g_ s_x
    replace X_x := X_x.wr W
    replace F_value_x := F_value_x.other W (Or.inr (slot_ne (Or.inr (hw _ (List.mem_of_getElem? (i := 22) rfl))) (Or.inr (hw _ (List.mem_of_getElem? (i := 23) rfl))) (by decide) (t := (.array .byte)) (t' := .byte) (by decide) (by decide)))
    replace F_coder_x := F_coder_x.same W
    replace A_b := A_b.other W ne_b_x
    replace A_t := A_t.other W ne_x_t.symm
    refine g_aloadN w e0_51 (q := 52) rfl rfl rfl ?_
    refine g_aload w e0_52 (q := 54) rfl rfl rfl ?_
    have g_ := w.chv
    refine g_putF w e0_54 (q := 57) rfl (hw _ (List.mem_of_getElem? (i := 26) rfl)) Via.refl F_value_x X_x (Or.inr ⟨(hw _ (List.mem_of_getElem? (i := 22) rfl)), rfl, rfl⟩) (hw _ (List.mem_of_getElem? (i := 7) rfl)) (ty := (.array .byte)) (by decide) (v' := (.ref t)) rfl rfl n_x s_x (fun T h w W => ?_)
    replace K0 := K0.wr W (Or.inl (List.mem_singleton.mpr rfl))
    replace s_x := Safe.wr W s_x g_ s_x
    replace X_x := X_x.wr W
    replace F_value_x := F_value_x.same W
    replace F_coder_x := F_coder_x.other W (Or.inr (slot_ne (Or.inr (hw _ (List.mem_of_getElem? (i := 23) rfl))) (Or.inr (hw _ (List.mem_of_getElem? (i := 22) rfl))) (by decide) (t := .byte) (t' := (.array .byte)) (by decide) (by decide)))
    replace A_b := A_b.other W ne_b_x
    replace A_t := A_t.other W ne_x_t.symm
    exact g_return w e0_57 rfl (by decide) (by decide) ⟨rfl, K0, su_of (by omega) hl X_x F_value_x F_coder_x A_t hb⟩
set_option maxRecDepth 65536 in
set_option maxHeartbeats 40000000 in
theorem con_new1U (l : Launch) (Z : State) (a0 : Array Value) (hw : ∀ d ∈ tables_1, d.before a0 Z = true) (x b : Addr) (cs : List Int32) (h0 : Heap) (O0 : Ext Z.heap h0) (X_x : Exa Z h0 x "java/lang/String") (F_value_x : Fld Z h0 x "java/lang/String" "value" "[B" .null) (F_coder_x : Fld Z h0 x "java/lang/String" "coder" "B" (.int (0 : Int32))) (n_x : Z.heap.size ≤ x) (A_b : Ar Z h0 b .char (cs.map Value.int)) (ne_b_x : b ≠ x) (hn : cs.length ≤ 16) (hl : ∀ c ∈ cs, Lt16 c) (hpos : 0 < cs.length) (hcm : Cpt Z) (SA_ : Sta Z Z.heap "java/lang/StringUTF16" "$assertionsDisabled" "Z" (.int 1)) (SH_ : Sta Z Z.heap "java/lang/StringUTF16" "HI_BYTE_SHIFT" "I" (.int 0)) (SL_ : Sta Z Z.heap "java/lang/StringUTF16" "LO_BYTE_SHIFT" "I" (.int 8)) :
    Con l Z consts_1 false (⟨"java/lang/String", "<init>", "([C)V"⟩ : MethodName) jdk_42_method_3_code 2 none [] ({ frames := 5, cells := 2, slots := 48, locals := 74 } : Room) #[(.ref x), (.ref b)] [] h0 (fun v h => v = none ∧ Keep h0 h [x] ∧ Su Z h x cs) := by
  refine Con.intro (Ls := #[.val (.ref x), .val (.ref b)]) (plainFor_of_name pn0) (own_EL hw) O0 (fun m => by first | (simp [entryFrame, mkF, argsToLocals, Value.category]; done) | rfl) (fun p e s m below meth cc_ T w sf_ => ?_)
  have K0 := Keep.refl h0 [x]
  refine g_aloadN w e1_0 (q := 1) rfl rfl rfl ?_
  refine g_aloadN w e1_1 (q := 2) rfl rfl rfl ?_
  refine g_iconst w e1_2 (q := 3) rfl (v := (0 : Int32)) (by decide) ?_
  refine g_aloadN w e1_3 (q := 4) rfl rfl rfl ?_
  refine g_alen w e1_4 (q := 5) rfl A_b ?_
  rw [List.length_map]
  show Go p e below _ (State.setTop T (mkF m 5 #[.val (.ref x), .val (.ref b)] [(.int (Int32.ofNat cs.length)), (.int (0 : Int32)), (.ref b), (.ref x)]))
  refine g_anull w e1_5 (q := 6) rfl ?_
  refine g_special w (con_new4U l Z a0 hw x b cs _ w.old X_x F_value_x F_coder_x n_x A_b ne_b_x hn hl hpos hcm SA_ SH_ SL_) no0 e1_6 (q := 9) rfl rfl rfl (hw _ (List.mem_of_getElem? (i := 13) rfl)) (hw _ (List.mem_of_getElem? (i := 14) rfl)) (hw _ (List.mem_of_getElem? (i := 8) rfl)) (hw _ (List.mem_of_getElem? (i := 16) rfl)) (by decide) pd0 rfl rfl (W := 0) (Nat.le_of_eq rfl) (by decide) (by decide) (by decide) (by decide) (fun T h v w gs C q => ?_)
  obtain ⟨rfl, K, S_x⟩ := q
  replace K0 := keep_same K0 K
  have X0 := X_x
  replace X_x := X_x.keep K
  replace A_b := A_b.keep K (not1 ne_b_x)
  show Go p e below _ (State.setTop T (mkF m 9 #[.val (.ref x), .val (.ref b)] []))
  exact g_return w e1_9 rfl (by decide) (by decide) ⟨rfl, K0, S_x⟩
theorem e10_0 : decode jdk_30_method_1_code 0 = .ok (.aload_n 0, 1) := by decide +kernel
theorem e10_1 : decode jdk_30_method_1_code 1 = .ok (.invokespecial 1, 3) := by decide +kernel
theorem e10_4 : decode jdk_30_method_1_code 4 = .ok (.return_, 1) := by decide +kernel
theorem pn2 : plainName "java/lang/Record" = true := by first | (simp [plainName, overriddenIn]; done) | decide +kernel
set_option maxRecDepth 65536 in
set_option maxHeartbeats 40000000 in
theorem con_rec (l : Launch) (Z : State) (a0 : Array Value) (hw : ∀ d ∈ tables_1, d.before a0 Z = true) (x : Addr) (h0 : Heap) (O0 : Ext Z.heap h0) :
    Con l Z consts_1 false (⟨"java/lang/Record", "<init>", "()V"⟩ : MethodName) jdk_30_method_1_code 1 none [] ({ frames := 1, cells := 0, slots := 0, locals := 12 } : Room) #[(.ref x)] [] h0 (fun v h => v = none ∧ h = h0) := by
  refine Con.intro (Ls := #[.val (.ref x)]) (plainFor_of_name pn2) (own_EL hw) O0 (fun m => by first | (simp [entryFrame, mkF, argsToLocals, Value.category]; done) | rfl) (fun p e s m below meth cc_ T w sf_ => ?_)
  have E0 := ext_refl h0
  refine g_aloadN w e10_0 (q := 1) rfl rfl rfl ?_
  refine g_initO w e10_1 (q := 4) rfl rfl (hw _ (List.mem_of_getElem? (i := 39) rfl)) (hw _ (List.mem_of_getElem? (i := 18) rfl)) (hw _ (List.mem_of_getElem? (i := 19) rfl)) (W := 0) (Nat.le_of_eq rfl) (by decide) (by decide) (fun T w => ?_)
  exact g_return w e10_4 rfl (by decide) (by decide) ⟨rfl, rfl⟩
theorem own_lenU {p : Program} {l : Launch} {e : Env} {R : Room} {args : Array Value} {below : List Frame} {W : Nat} {Z : State} {a0 : Array Value} {h : Heap} (hw : ∀ d ∈ tables_1, d.before a0 Z = true) {x : Addr} {cs : List Int32} {z : Int32} (S1 : Su Z h x cs) (S : Sta Z h "java/lang/String" "COMPACT_STRINGS" "Z" (.int z)) (hz : ¬ z = 0) (hfr : 2 ≤ R.frames) (hlo : W + 25 ≤ R.locals) (s' : State) (hZ' : Z.Warmed39 s'.vm) :
    Back l R p e below s' args (⟨"java/lang/String", "length", "()I"⟩ : MethodName) 3 W (fun P a' => a' = #[.ref x] ∧ P.U.heap = h ∧ P.cells + 0 ≤ R.cells ∧ P.slots + 0 ≤ R.slots) (fun P _ v B => ∃ L, (v = some (.int (Int32.ofNat cs.length)) ∧ L = [] ∧ B.U.heap = h) ∧ B.locs = P.locs ++ L ∧ B.cells = P.cells + 0 ∧ B.slots = P.slots + 0) := by
  obtain ⟨l1, b1, E1, t1, k1, cd, N2, vs, V1, C1, A1, hc⟩ := S1
  exact StrChars.Road.lenW hZ' (own_hLen hw) (kI := 4) (hw _ (List.mem_of_getElem? (i := 7) rfl)) E1 V1 C1 A1 hc b1 S hz l1 hfr hlo
theorem own_WL {Z : State} {a0 : Array Value} (hw : ∀ d ∈ tables_1, d.before a0 Z = true) : EWL Z a0 consts_1 12 := (EWL.cons (hw _ (List.mem_of_getElem? (i := 67) rfl)) (by decide) (by decide) (EWL.cons (hw _ (List.mem_of_getElem? (i := 20) rfl)) (by decide) (by decide) EWL.nil))
theorem shr1 : ∀ i < 64, Int32.ofNat (2 * i) >>> ((1 : Int32) &&& 31) = Int32.ofNat i := by decide +kernel
theorem lo8_back {c : Int32} (h : Lt8 c) : c.toInt8.toInt32 &&& (255 : Int32) = c := StrChars.lo8_mask h.1 h.2
/-- a builder's array: Latin-1 in 16 bytes, or wide in 32 -/
def CodB (cd : Int32) (vs : List Value) (cs : List Int32) : Prop := (cd = 0 ∧ (∀ c ∈ cs, Lt8 c) ∧ vs.length = 16 ∧ ∃ us, vs = bys cs ++ us) ∨ (cd = 1 ∧ (∃ c ∈ cs, 255 < c) ∧ vs.length = 32 ∧ ∃ us, vs = StrChars.Road.wideBytes cs ++ us)
def Bc (Z : State) (h : Heap) (x b : Addr) (ct : Int32) (cs : List Int32) : Prop := Exa Z h x "java/lang/StringBuilder" ∧ Fld Z h x "java/lang/AbstractStringBuilder" "value" "[B" (.ref b) ∧ Fld Z h x "java/lang/AbstractStringBuilder" "count" "I" (.int ct) ∧ Fld Z h x "java/lang/AbstractStringBuilder" "maybeLatin1" "Z" (.int 0) ∧ Exa Z h b "[B" ∧ ∃ cd vs, Fld Z h x "java/lang/AbstractStringBuilder" "coder" "B" (.int cd) ∧ Ar Z h b .byte vs ∧ CodB cd vs cs
theorem Bc.ext {Z : State} {h h' : Heap} {x b : Addr} {ct : Int32} {cs : List Int32} (F : Bc Z h x b ct cs) (E : Ext h h') : Bc Z h' x b ct cs := by obtain ⟨a1, a2, a3, a4, a5, cd, vs, a6, a7, a8⟩ := F; exact ⟨a1.ext E, a2.ext E, a3.ext E, a4.ext E, a5.ext E, cd, vs, a6.ext E, a7.ext E, a8⟩
theorem Bc.keep {Z : State} {h h' : Heap} {x b : Addr} {ct : Int32} {cs : List Int32} {ws : List Addr} (F : Bc Z h x b ct cs) (K : Keep h h' ws) (q1 : x ∉ ws) (q2 : b ∉ ws) : Bc Z h' x b ct cs := by obtain ⟨a1, a2, a3, a4, a5, cd, vs, a6, a7, a8⟩ := F; exact ⟨a1.keep K, a2.keep K q1, a3.keep K q1, a4.keep K q1, a5.keep K, cd, vs, a6.keep K q1, a7.keep K q2, a8⟩
theorem Bc.exa {Z : State} {h : Heap} {x b : Addr} {ct : Int32} {cs : List Int32} (F : Bc Z h x b ct cs) : Exa Z h x "java/lang/StringBuilder" := F.1
theorem Bc.lt {Z : State} {h : Heap} {x b : Addr} {ct : Int32} {cs : List Int32} (F : Bc Z h x b ct cs) : x < h.size := F.1.lt
theorem Bc.ltb {Z : State} {h : Heap} {x b : Addr} {ct : Int32} {cs : List Int32} (F : Bc Z h x b ct cs) : b < h.size := F.2.2.2.2.1.lt
theorem CodB.cd01 {cd : Int32} {vs : List Value} {cs : List Int32} (H : CodB cd vs cs) : cd = 0 ∨ cd = 1 := H.imp (·.1) (·.1)
theorem CodB.len {cd : Int32} {vs : List Value} {cs : List Int32} (H : CodB cd vs cs) : 16 ≤ vs.length := by rcases H with ⟨-, -, e, -⟩ | ⟨-, -, e, -⟩ <;> omega
theorem nar01 {cd : Int32} (h : cd = 0 ∨ cd = 1) : nar .byte cd = cd := by rcases h with rfl | rfl <;> decide
theorem wide_app : ∀ (as bs : List Int32), StrChars.Road.wideBytes (as ++ bs) = StrChars.Road.wideBytes as ++ StrChars.Road.wideBytes bs
  | [], _ => rfl
  | a :: as, bs => congrArg (fun t => Value.int (StrChars.lo8 a) :: Value.int (StrChars.hi8 a) :: t) (wide_app as bs)
theorem put_snoc {vs ys : List Value} {p : Nat} {v : Value} (h : p + ys.length < vs.length) : (put vs p ys).set (p + ys.length) v = put vs p (ys ++ [v]) := by
  unfold put
  have hl : (vs.take p ++ ys).length = p + ys.length := by rw [List.length_append, List.length_take]; omega
  rw [List.set_append_right _ _ (by omega), hl, Nat.sub_self, List.drop_eq_getElem_cons h]
  simp [Nat.add_assoc]
/-- wide chars written from the k-th on -/
abbrev pw (vs : List Value) (k : Nat) (xs : List Int32) : List Value := put vs (2 * k) (StrChars.Road.wideBytes xs)
theorem pw_len {vs : List Value} {k : Nat} {xs : List Int32} (h : 2 * (k + xs.length) ≤ vs.length) : (pw vs k xs).length = vs.length := put_length (by rw [wide_len]; omega)
theorem pw_step {vs : List Value} {k i : Nat} {ds : List Int32} (hi : i < ds.length) (h : 2 * (k + ds.length) ≤ vs.length) :
    ((pw vs k (ds.take i)).set (2 * (k + i)) (.int (StrChars.lo8 (ds.getD i 0)))).set (2 * (k + i) + 1) (.int (StrChars.hi8 (ds.getD i 0))) = pw vs k (ds.take (i + 1)) := by
  have ht : (ds.take i).length = i := by rw [List.length_take]; omega
  have hw : (StrChars.Road.wideBytes (ds.take i)).length = 2 * i := by rw [wide_len, ht]
  have e1 := put_snoc (vs := vs) (ys := StrChars.Road.wideBytes (ds.take i)) (p := 2 * k) (v := .int (StrChars.lo8 (ds.getD i 0))) (by rw [hw]; omega)
  have e2 := put_snoc (vs := vs) (ys := StrChars.Road.wideBytes (ds.take i) ++ [.int (StrChars.lo8 (ds.getD i 0))]) (p := 2 * k) (v := .int (StrChars.hi8 (ds.getD i 0))) (by rw [List.length_append, hw]; simp; omega)
  rw [hw] at e1
  rw [List.length_append, hw, List.length_singleton] at e2
  have et : ds.take (i + 1) = ds.take i ++ [ds.getD i 0] := by rw [List.take_add_one]; simp [List.getD_eq_getElem?_getD, hi]
  unfold pw
  rw [show 2 * (k + i) = 2 * k + 2 * i from by omega, e1, show 2 * k + 2 * i + 1 = 2 * k + (2 * i + 1) from by omega, e2, et, wide_app, List.append_assoc]; rfl
theorem pw_zero (vs : List Value) (k : Nat) (ds : List Int32) : pw vs k (ds.take 0) = vs := by unfold pw; rw [List.take_zero]; exact put_nil vs _
theorem shr32 : (32 : Int32) >>> ((1 : Int32) &&& 31) = 16 := by decide
theorem cfs : ∀ k : Fin 17, ∀ n : Fin 17, ¬ ((16 : Int32) ||| Int32.ofNat k.1 ||| Int32.ofNat n.1) < 0 := by decide +kernel
theorem cfs' {k n : Nat} (h : k + n ≤ 16) : ¬ ((16 : Int32) ||| Int32.ofNat k ||| Int32.ofNat n) < 0 := cfs ⟨k, by omega⟩ ⟨n, by omega⟩
theorem cfs2 {k n : Nat} (h : k + n ≤ 16) : ¬ (16 : Int32) - Int32.ofNat k < Int32.ofNat n := by
  rw [show (16 : Int32) = Int32.ofNat 16 from rfl, oN_sub (by omega), oN_lt (by omega) (by omega)]; omega
theorem srcB {ds : List Int32} {us : List Value} {i : Nat} (h : i < ds.length) : (bys ds ++ us)[i]? = some (.int (ds.getD i 0).toInt8.toInt32) := by
  rw [List.getElem?_append_left (by rw [bys_len]; exact h)]; exact lat_at h
theorem big_l {as bs : List Int32} (h : ∃ c ∈ as, 255 < c) : ∃ c ∈ as ++ bs, 255 < c := by obtain ⟨c, q, r⟩ := h; exact ⟨c, List.mem_append_left _ q, r⟩
theorem big_r {as bs : List Int32} (h : ∃ c ∈ bs, 255 < c) : ∃ c ∈ as ++ bs, 255 < c := by obtain ⟨c, q, r⟩ := h; exact ⟨c, List.mem_append_right _ q, r⟩
theorem app_lat {as bs : List Int32} (h1 : ∀ c ∈ as, Lt8 c) (h2 : ∀ c ∈ bs, Lt8 c) : ∀ c ∈ as ++ bs, Lt8 c := fun c hc => (List.mem_append.mp hc).elim (h1 c) (h2 c)
theorem app_chr {as bs : List Int32} (h1 : ∀ c ∈ as, Lt16 c) (h2 : ∀ c ∈ bs, Lt16 c) : ∀ c ∈ as ++ bs, Lt16 c := fun c hc => (List.mem_append.mp hc).elim (h1 c) (h2 c)
/-- the four roads of an append -/
theorem cod_ll {vs us : List Value} {cs ds : List Int32} (hc : ∀ c ∈ cs, Lt8 c) (hd : ∀ c ∈ ds, Lt8 c) (hL : vs.length = 16) (hv : vs = bys cs ++ us) (hk : cs.length + ds.length ≤ 16) : CodB 0 (vs.take cs.length ++ bys ds ++ vs.drop (cs.length + (bys ds).length)) (cs ++ ds) :=
  Or.inl ⟨rfl, app_lat hc hd, by rw [put_len rfl (by rw [bys_len]; omega), hL], pre_put hv ds _⟩
theorem wide_take {vs us : List Value} {cs : List Int32} (hv : vs = StrChars.Road.wideBytes cs ++ us) : vs.take (2 * cs.length) = StrChars.Road.wideBytes cs := by rw [hv, List.take_left' (wide_len cs)]
theorem cod_ww {vs us : List Value} {cs ds : List Int32} (hc : ∃ c ∈ cs ++ ds, 255 < c) (hL : vs.length = 32) (hv : vs = StrChars.Road.wideBytes cs ++ us) (hk : cs.length + ds.length ≤ 16) : CodB 1 (vs.take (2 * cs.length) ++ StrChars.Road.wideBytes ds ++ vs.drop (2 * cs.length + (StrChars.Road.wideBytes ds).length)) (cs ++ ds) :=
  Or.inr ⟨rfl, hc, by rw [put_len rfl (by rw [wide_len]; omega), hL], _, by rw [wide_take hv, wide_app]⟩

theorem e11_0 : decode jdk_29_method_69_code 0 = .ok (.iload_n 0, 1) := by decide +kernel
theorem e11_1 : decode jdk_29_method_69_code 1 = .ok (.iload_n 1, 1) := by decide +kernel
theorem e11_2 : decode jdk_29_method_69_code 2 = .ok (.if_icmp .gt 7, 3) := by decide +kernel
theorem e11_5 : decode jdk_29_method_69_code 5 = .ok (.iload_n 0, 1) := by decide +kernel
theorem e11_6 : decode jdk_29_method_69_code 6 = .ok (.goto 4, 3) := by decide +kernel
theorem e11_9 : decode jdk_29_method_69_code 9 = .ok (.iload_n 1, 1) := by decide +kernel
theorem e11_10 : decode jdk_29_method_69_code 10 = .ok (.ireturn, 1) := by decide +kernel
set_option maxRecDepth 65536 in
set_option maxHeartbeats 40000000 in
theorem con_min (l : Launch) (Z : State) (a0 : Array Value) (hw : ∀ d ∈ tables_1, d.before a0 Z = true) (a b : Int32) (h0 : Heap) (O0 : Ext Z.heap h0) :
    Con l Z consts_1 false (⟨"java/lang/Math", "min", "(II)I"⟩ : MethodName) jdk_29_method_69_code 2 (some .int) [] ({ frames := 0, cells := 0, slots := 0, locals := 0 } : Room) #[(.int a), (.int b)] [] h0 (fun v h => v = some (.int (if b < a then b else a)) ∧ h = h0) := by
  refine Con.intro (Ls := #[.val (.int a), .val (.int b)]) (Jvm.Free.JP.mathPlain rfl (by decide +kernel)) (own_EL hw) O0 (fun m => by first | (simp [entryFrame, mkF, argsToLocals, Value.category]; done) | rfl) (fun p e s m below meth cc_ T w sf_ => ?_)
  have E0 := ext_refl h0
  refine g_iloadN w e11_0 (q := 1) rfl rfl ?_
  refine g_iloadN w e11_1 (q := 2) rfl rfl ?_
  refine g_ic_gt w e11_2 (by decide) (q := 9) (by decide) (q' := 5) rfl (fun cd1 => ?_) (fun cd1 => ?_)
  · refine g_iloadN w e11_9 (q := 10) rfl rfl ?_
    exact g_reti w e11_10 rfl (by decide) (by decide) ⟨by rw [if_pos cd1], rfl⟩
  · refine g_iloadN w e11_5 (q := 6) rfl rfl ?_
    refine g_goto w e11_6 (by decide) (q := 10) (by decide) ?_
    exact g_reti w e11_10 rfl (by decide) (by decide) ⟨by rw [if_neg cd1], rfl⟩
theorem e12_0 : decode jdk_68_method_2_code 0 = .ok (.aload_n 0, 1) := by decide +kernel
theorem e12_1 : decode jdk_68_method_2_code 1 = .ok (.invokespecial 3, 3) := by decide +kernel
theorem e12_4 : decode jdk_68_method_2_code 4 = .ok (.getstatic 18, 3) := by decide +kernel
theorem e12_7 : decode jdk_68_method_2_code 7 = .ok (.ifCond .eq 18, 3) := by decide +kernel
theorem e12_10 : decode jdk_68_method_2_code 10 = .ok (.aload_n 0, 1) := by decide +kernel
theorem e12_11 : decode jdk_68_method_2_code 11 = .ok (.iload_n 1, 1) := by decide +kernel
theorem e12_12 : decode jdk_68_method_2_code 12 = .ok (.newarray .byte, 2) := by decide +kernel
theorem e12_14 : decode jdk_68_method_2_code 14 = .ok (.putfield 15, 3) := by decide +kernel
theorem e12_17 : decode jdk_68_method_2_code 17 = .ok (.aload_n 0, 1) := by decide +kernel
theorem e12_18 : decode jdk_68_method_2_code 18 = .ok (.iconst 0, 1) := by decide +kernel
theorem e12_19 : decode jdk_68_method_2_code 19 = .ok (.putfield 22, 3) := by decide +kernel
theorem e12_22 : decode jdk_68_method_2_code 22 = .ok (.goto 16, 3) := by decide +kernel
theorem e12_25 : decode jdk_68_method_2_code 25 = .ok (.aload_n 0, 1) := by decide +kernel
theorem e12_26 : decode jdk_68_method_2_code 26 = .ok (.iload_n 1, 1) := by decide +kernel
theorem e12_27 : decode jdk_68_method_2_code 27 = .ok (.invokestatic 26, 3) := by decide +kernel
theorem e12_30 : decode jdk_68_method_2_code 30 = .ok (.putfield 15, 3) := by decide +kernel
theorem e12_33 : decode jdk_68_method_2_code 33 = .ok (.aload_n 0, 1) := by decide +kernel
theorem e12_34 : decode jdk_68_method_2_code 34 = .ok (.iconst 1, 1) := by decide +kernel
theorem e12_35 : decode jdk_68_method_2_code 35 = .ok (.putfield 22, 3) := by decide +kernel
theorem e12_38 : decode jdk_68_method_2_code 38 = .ok (.return_, 1) := by decide +kernel
theorem pn3 : plainName "java/lang/AbstractStringBuilder" = true := by first | (simp [plainName, overriddenIn]; done) | decide +kernel
set_option maxRecDepth 65536 in
set_option maxHeartbeats 40000000 in
theorem con_asbi (l : Launch) (Z : State) (a0 : Array Value) (hw : ∀ d ∈ tables_1, d.before a0 Z = true) (x : Addr) (h0 : Heap) (O0 : Ext Z.heap h0) (X_x : Exa Z h0 x "java/lang/StringBuilder") (F_value_x : Fld Z h0 x "java/lang/AbstractStringBuilder" "value" "[B" .null) (F_coder_x : Fld Z h0 x "java/lang/AbstractStringBuilder" "coder" "B" (.int 0)) (F_count_x : Fld Z h0 x "java/lang/AbstractStringBuilder" "count" "I" (.int 0)) (F_maybeLatin1_x : Fld Z h0 x "java/lang/AbstractStringBuilder" "maybeLatin1" "Z" (.int 0)) (n_x : Z.heap.size ≤ x) (hcm : Cpt Z) :
    Con l Z consts_1 false (⟨"java/lang/AbstractStringBuilder", "<init>", "(I)V"⟩ : MethodName) jdk_68_method_2_code 2 none [] ({ frames := 1, cells := 1, slots := 16, locals := 12 } : Room) #[(.ref x), (.int (16 : Int32))] [] h0 (fun v h => v = none ∧ Keep h0 h [x] ∧ ∃ b, h0.size ≤ b ∧ Bc Z h x b 0 []) := by
  refine Con.intro (Ls := #[.val (.ref x), .val (.int (16 : Int32))]) (plainFor_of_name pn3) (own_EL hw) O0 (fun m => by first | (simp [entryFrame, mkF, argsToLocals, Value.category]; done) | rfl) (fun p e s m below meth cc_ T w sf_ => ?_)
  have K0 := Keep.refl h0 [x]
  obtain ⟨z_, hz_, SC_⟩ := id hcm
  refine g_aloadN w e12_0 (q := 1) rfl rfl rfl ?_
  refine g_initO w e12_1 (q := 4) rfl rfl (hw _ (List.mem_of_getElem? (i := 61) rfl)) (hw _ (List.mem_of_getElem? (i := 18) rfl)) (hw _ (List.mem_of_getElem? (i := 19) rfl)) (W := 0) (Nat.le_of_eq rfl) (by decide) (by decide) (fun T w => ?_)
  refine g_getS w e12_4 (q := 7) rfl (hw _ (List.mem_of_getElem? (i := 62) rfl)) Via.refl SC_ (fun T w => ?_)
  refine g_ifN w e12_7 (q := 10) rfl (Jvm.Free.XT.i0_eq_f hz_) ?_
  refine g_aloadN w e12_10 (q := 11) rfl rfl rfl ?_
  refine g_iloadN w e12_11 (q := 12) rfl rfl ?_
  refine g_newarrE w e12_12 (q := 14) rfl (hw _ (List.mem_of_getElem? (i := 21) rfl)) (ad := "[B") (by decide) (len := 16) (cap := 16) (by decide) (by decide) (by decide) (by decide) (by decide) (fun T h b w E g_b n_b A_b X_b s_b => ?_)
  have z_b := Nat.le_trans K0.1 g_b
  have ne_x_b : x ≠ b := Nat.ne_of_lt (Nat.lt_of_lt_of_le X_x.lt g_b)
  replace K0 := K0.ext E
  replace X_x := X_x.ext E
  replace F_value_x := F_value_x.ext E
  replace F_coder_x := F_coder_x.ext E
  replace F_count_x := F_count_x.ext E
  replace F_maybeLatin1_x := F_maybeLatin1_x.ext E
  replace A_b : Ar Z h b .byte (List.replicate 16 (.int 0)) := A_b
  have g_ := w.chv
  refine g_putF w e12_14 (q := 17) rfl (hw _ (List.mem_of_getElem? (i := 63) rfl)) Via.refl F_value_x X_x (Or.inl (hw _ (List.mem_of_getElem? (i := 64) rfl))) (hw _ (List.mem_of_getElem? (i := 50) rfl)) (ty := (.array .byte)) (by decide) (v' := (.ref b)) rfl rfl n_x (w.safe X_x (by decide) (by decide)) (fun T h w W => ?_)
  replace K0 := K0.wr W (Or.inl (List.mem_singleton.mpr rfl))
  replace X_x := X_x.wr W
  replace F_value_x := F_value_x.same W
  replace F_coder_x := F_coder_x.other W (Or.inr (slot_ne (Or.inl (hw _ (List.mem_of_getElem? (i := 66) rfl))) (Or.inl (hw _ (List.mem_of_getElem? (i := 64) rfl))) (by decide) (t := .byte) (t' := (.array .byte)) (by decide) (by decide)))
  replace F_count_x := F_count_x.other W (Or.inr (slot_ne (Or.inl (hw _ (List.mem_of_getElem? (i := 90) rfl))) (Or.inl (hw _ (List.mem_of_getElem? (i := 64) rfl))) (by decide) (t := .int) (t' := (.array .byte)) (by decide) (by decide)))
  replace F_maybeLatin1_x := F_maybeLatin1_x.other W (Or.inr (slot_ne (Or.inl (hw _ (List.mem_of_getElem? (i := 228) rfl))) (Or.inl (hw _ (List.mem_of_getElem? (i := 64) rfl))) (by decide) (t := .boolean) (t' := (.array .byte)) (by decide) (by decide)))
  replace A_b := A_b.other W ne_x_b.symm
  replace X_b := X_b.wr W
  refine g_aloadN w e12_17 (q := 18) rfl rfl rfl ?_
  refine g_iconst w e12_18 (q := 19) rfl (v := (0 : Int32)) (by decide) ?_
  have g_ := w.chv
  refine g_putF w e12_19 (q := 22) rfl (hw _ (List.mem_of_getElem? (i := 65) rfl)) Via.refl F_coder_x X_x (Or.inl (hw _ (List.mem_of_getElem? (i := 66) rfl))) (hw _ (List.mem_of_getElem? (i := 50) rfl)) (ty := .byte) (by decide) (v' := (.int (0 : Int32))) rfl rfl n_x (w.safe X_x (by decide) (by decide)) (fun T h w W => ?_)
  replace K0 := K0.wr W (Or.inl (List.mem_singleton.mpr rfl))
  replace X_x := X_x.wr W
  replace F_value_x := F_value_x.other W (Or.inr (slot_ne (Or.inl (hw _ (List.mem_of_getElem? (i := 64) rfl))) (Or.inl (hw _ (List.mem_of_getElem? (i := 66) rfl))) (by decide) (t := (.array .byte)) (t' := .byte) (by decide) (by decide)))
  replace F_coder_x := F_coder_x.same W
  replace F_count_x := F_count_x.other W (Or.inr (slot_ne (Or.inl (hw _ (List.mem_of_getElem? (i := 90) rfl))) (Or.inl (hw _ (List.mem_of_getElem? (i := 66) rfl))) (by decide) (t := .int) (t' := .byte) (by decide) (by decide)))
  replace F_maybeLatin1_x := F_maybeLatin1_x.other W (Or.inr (slot_ne (Or.inl (hw _ (List.mem_of_getElem? (i := 228) rfl))) (Or.inl (hw _ (List.mem_of_getElem? (i := 66) rfl))) (by decide) (t := .boolean) (t' := .byte) (by decide) (by decide)))
  replace A_b := A_b.other W ne_x_b.symm
  replace X_b := X_b.wr W
  refine g_goto w e12_22 (by decide) (q := 38) (by decide) ?_
  exact g_return w e12_38 rfl (by decide) (by decide) ⟨rfl, K0, b, z_b, X_x, F_value_x, F_count_x, F_maybeLatin1_x, X_b, 0, _, F_coder_x, A_b, Or.inl ⟨rfl, cs0, rfl, _, rfl⟩⟩
theorem e13_0 : decode jdk_67_method_1_code 0 = .ok (.aload_n 0, 1) := by decide +kernel
theorem e13_1 : decode jdk_67_method_1_code 1 = .ok (.bipush 16, 2) := by decide +kernel
theorem e13_3 : decode jdk_67_method_1_code 3 = .ok (.invokespecial 1, 3) := by decide +kernel
theorem e13_6 : decode jdk_67_method_1_code 6 = .ok (.return_, 1) := by decide +kernel
theorem pd8 : parseMethodDescriptor "(I)V" = some ⟨[.int], none⟩ := by decide +kernel
theorem pn4 : plainName "java/lang/StringBuilder" = true := by first | (simp [plainName, overriddenIn]; done) | decide +kernel
set_option maxRecDepth 65536 in
set_option maxHeartbeats 40000000 in
theorem con_sbi (l : Launch) (Z : State) (a0 : Array Value) (hw : ∀ d ∈ tables_1, d.before a0 Z = true) (x : Addr) (h0 : Heap) (O0 : Ext Z.heap h0) (X_x : Exa Z h0 x "java/lang/StringBuilder") (F_value_x : Fld Z h0 x "java/lang/AbstractStringBuilder" "value" "[B" .null) (F_coder_x : Fld Z h0 x "java/lang/AbstractStringBuilder" "coder" "B" (.int 0)) (F_count_x : Fld Z h0 x "java/lang/AbstractStringBuilder" "count" "I" (.int 0)) (F_maybeLatin1_x : Fld Z h0 x "java/lang/AbstractStringBuilder" "maybeLatin1" "Z" (.int 0)) (n_x : Z.heap.size ≤ x) (hcm : Cpt Z) :
    Con l Z consts_1 false (⟨"java/lang/StringBuilder", "<init>", "()V"⟩ : MethodName) jdk_67_method_1_code 1 none [] ({ frames := 2, cells := 1, slots := 16, locals := 25 } : Room) #[(.ref x)] [] h0 (fun v h => v = none ∧ Keep h0 h [x] ∧ ∃ b, h0.size ≤ b ∧ Bc Z h x b 0 []) := by
  refine Con.intro (Ls := #[.val (.ref x)]) (plainFor_of_name pn4) (own_EL hw) O0 (fun m => by first | (simp [entryFrame, mkF, argsToLocals, Value.category]; done) | rfl) (fun p e s m below meth cc_ T w sf_ => ?_)
  have K0 := Keep.refl h0 [x]
  refine g_aloadN w e13_0 (q := 1) rfl rfl rfl ?_
  refine g_bipush w e13_1 (q := 3) rfl (v := (16 : Int32)) (by decide) ?_
  refine g_special w (con_asbi l Z a0 hw x _ w.old X_x F_value_x F_coder_x F_count_x F_maybeLatin1_x n_x hcm) no0 e13_3 (q := 6) rfl rfl rfl (hw _ (List.mem_of_getElem? (i := 55) rfl)) (hw _ (List.mem_of_getElem? (i := 56) rfl)) (hw _ (List.mem_of_getElem? (i := 59) rfl)) (hw _ (List.mem_of_getElem? (i := 60) rfl)) (by decide) pd8 rfl rfl (W := 0) (Nat.le_of_eq rfl) (by decide) (by decide) (by decide) (by decide) (fun T h v w gs C q => ?_)
  obtain ⟨rfl, K, b_x, g_b_x, B_x⟩ := q
  have z_b_x := Nat.le_trans K0.1 g_b_x
  have ne_x_b_x : x ≠ b_x := Nat.ne_of_lt (Nat.lt_of_lt_of_le X_x.lt g_b_x)
  replace K0 := keep_same K0 K
  have X0 := X_x
  replace X_x := X_x.keep K
  have n_b_x := Nat.le_trans O0.1 z_b_x
  show Go p e below _ (State.setTop T (mkF m 6 #[.val (.ref x)] []))
  exact g_return w e13_6 rfl (by decide) (by decide) ⟨rfl, K0, b_x, z_b_x, B_x⟩
theorem e14_0 : decode jdk_42_method_152_code 0 = .ok (.getstatic 38, 3) := by decide +kernel
theorem e14_3 : decode jdk_42_method_152_code 3 = .ok (.ifCond .eq 10, 3) := by decide +kernel
theorem e14_6 : decode jdk_42_method_152_code 6 = .ok (.aload_n 0, 1) := by decide +kernel
theorem e14_7 : decode jdk_42_method_152_code 7 = .ok (.getfield 15, 3) := by decide +kernel
theorem e14_10 : decode jdk_42_method_152_code 10 = .ok (.goto 4, 3) := by decide +kernel
theorem e14_13 : decode jdk_42_method_152_code 13 = .ok (.iconst 1, 1) := by decide +kernel
theorem e14_14 : decode jdk_42_method_152_code 14 = .ok (.ireturn, 1) := by decide +kernel
set_option maxRecDepth 65536 in
set_option maxHeartbeats 40000000 in
theorem con_coder (l : Launch) (Z : State) (a0 : Array Value) (hw : ∀ d ∈ tables_1, d.before a0 Z = true) (x : Addr) (cd : Int32) (h0 : Heap) (O0 : Ext Z.heap h0) (F_c : Fld Z h0 x "java/lang/String" "coder" "B" (.int cd)) (hcd : cd = 0 ∨ cd = 1) (hcm : Cpt Z) :
    Con l Z consts_1 false (⟨"java/lang/String", "coder", "()B"⟩ : MethodName) jdk_42_method_152_code 1 (some .byte) [] ({ frames := 0, cells := 0, slots := 0, locals := 0 } : Room) #[(.ref x)] [] h0 (fun v h => v = some (.int cd) ∧ h = h0) := by
  refine Con.intro (Ls := #[.val (.ref x)]) (plainFor_of_name pn0) (own_EL hw) O0 (fun m => by first | (simp [entryFrame, mkF, argsToLocals, Value.category]; done) | rfl) (fun p e s m below meth cc_ T w sf_ => ?_)
  have E0 := ext_refl h0
  obtain ⟨z_, hz_, SC_⟩ := id hcm
  refine g_getS w e14_0 (q := 3) rfl (hw _ (List.mem_of_getElem? (i := 88) rfl)) Via.refl SC_ (fun T w => ?_)
  refine g_ifN w e14_3 (q := 6) rfl (Jvm.Free.XT.i0_eq_f hz_) ?_
  refine g_aloadN w e14_6 (q := 7) rfl rfl rfl ?_
  refine g_getF w e14_7 (q := 10) rfl (host := "") (Or.inl (hw _ (List.mem_of_getElem? (i := 27) rfl))) Via.refl F_c (fun T w => ?_)
  refine g_goto w e14_10 (by decide) (q := 14) (by decide) ?_
  exact g_retn w e14_14 rfl (by simp) (nar01 hcd) (by decide) (by decide) ⟨rfl, rfl⟩
theorem e15_0 : decode jdk_68_method_68_code 0 = .ok (.getstatic 18, 3) := by decide +kernel
theorem e15_3 : decode jdk_68_method_68_code 3 = .ok (.ifCond .eq 14, 3) := by decide +kernel
theorem e15_6 : decode jdk_68_method_68_code 6 = .ok (.aload_n 0, 1) := by decide +kernel
theorem e15_7 : decode jdk_68_method_68_code 7 = .ok (.getfield 22, 3) := by decide +kernel
theorem e15_10 : decode jdk_68_method_68_code 10 = .ok (.ifCond .ne 7, 3) := by decide +kernel
theorem e15_13 : decode jdk_68_method_68_code 13 = .ok (.iconst 1, 1) := by decide +kernel
theorem e15_14 : decode jdk_68_method_68_code 14 = .ok (.goto 4, 3) := by decide +kernel
theorem e15_17 : decode jdk_68_method_68_code 17 = .ok (.iconst 0, 1) := by decide +kernel
theorem e15_18 : decode jdk_68_method_68_code 18 = .ok (.ireturn, 1) := by decide +kernel
set_option maxRecDepth 65536 in
set_option maxHeartbeats 40000000 in
theorem con_aisl0 (l : Launch) (Z : State) (a0 : Array Value) (hw : ∀ d ∈ tables_1, d.before a0 Z = true) (x : Addr) (h0 : Heap) (O0 : Ext Z.heap h0) (F_coder_x : Fld Z h0 x "java/lang/AbstractStringBuilder" "coder" "B" (.int 0)) (hcm : Cpt Z) :
    Con l Z consts_1 false (⟨"java/lang/AbstractStringBuilder", "isLatin1", "()Z"⟩ : MethodName) jdk_68_method_68_code 1 (some .boolean) [] ({ frames := 0, cells := 0, slots := 0, locals := 0 } : Room) #[(.ref x)] [] h0 (fun v h => v = some (.int 1) ∧ h = h0) := by
  refine Con.intro (Ls := #[.val (.ref x)]) (plainFor_of_name pn3) (own_EL hw) O0 (fun m => by first | (simp [entryFrame, mkF, argsToLocals, Value.category]; done) | rfl) (fun p e s m below meth cc_ T w sf_ => ?_)
  have E0 := ext_refl h0
  obtain ⟨z_, hz_, SC_⟩ := id hcm
  refine g_getS w e15_0 (q := 3) rfl (hw _ (List.mem_of_getElem? (i := 62) rfl)) Via.refl SC_ (fun T w => ?_)
  refine g_ifN w e15_3 (q := 6) rfl (Jvm.Free.XT.i0_eq_f hz_) ?_
  refine g_aloadN w e15_6 (q := 7) rfl rfl rfl ?_
  refine g_getF w e15_7 (q := 10) rfl (host := "") (Or.inl (hw _ (List.mem_of_getElem? (i := 65) rfl))) Via.refl F_coder_x (fun T w => ?_)
  refine g_ifN w e15_10 (q := 13) rfl (by decide) ?_
  refine g_iconst w e15_13 (q := 14) rfl (v := (1 : Int32)) (by decide) ?_
  refine g_goto w e15_14 (by decide) (q := 18) (by decide) ?_
  exact g_retn w e15_18 rfl (by simp) rfl (by decide) (by decide) ⟨rfl, rfl⟩
set_option maxRecDepth 65536 in
set_option maxHeartbeats 40000000 in
theorem con_aisl1 (l : Launch) (Z : State) (a0 : Array Value) (hw : ∀ d ∈ tables_1, d.before a0 Z = true) (x : Addr) (h0 : Heap) (O0 : Ext Z.heap h0) (F_coder_x : Fld Z h0 x "java/lang/AbstractStringBuilder" "coder" "B" (.int 1)) (hcm : Cpt Z) :
    Con l Z consts_1 false (⟨"java/lang/AbstractStringBuilder", "isLatin1", "()Z"⟩ : MethodName) jdk_68_method_68_code 1 (some .boolean) [] ({ frames := 0, cells := 0, slots := 0, locals := 0 } : Room) #[(.ref x)] [] h0 (fun v h => v = some (.int 0) ∧ h = h0) := by
  refine Con.intro (Ls := #[.val (.ref x)]) (plainFor_of_name pn3) (own_EL hw) O0 (fun m => by first | (simp [entryFrame, mkF, argsToLocals, Value.category]; done) | rfl) (fun p e s m below meth cc_ T w sf_ => ?_)
  have E0 := ext_refl h0
  obtain ⟨z_, hz_, SC_⟩ := id hcm
  refine g_getS w e15_0 (q := 3) rfl (hw _ (List.mem_of_getElem? (i := 62) rfl)) Via.refl SC_ (fun T w => ?_)
  refine g_ifN w e15_3 (q := 6) rfl (Jvm.Free.XT.i0_eq_f hz_) ?_
  refine g_aloadN w e15_6 (q := 7) rfl rfl rfl ?_
  refine g_getF w e15_7 (q := 10) rfl (host := "") (Or.inl (hw _ (List.mem_of_getElem? (i := 65) rfl))) Via.refl F_coder_x (fun T w => ?_)
  refine g_ifY w e15_10 (by decide) (q := 17) (by decide) (by decide) ?_
  refine g_iconst w e15_17 (q := 18) rfl (v := (0 : Int32)) (by decide) ?_
  exact g_retn w e15_18 rfl (by simp) rfl (by decide) (by decide) ⟨rfl, rfl⟩
theorem e16_0 : decode jdk_52_method_6_code 0 = .ok (.aload_n 0, 1) := by decide +kernel
theorem e16_1 : decode jdk_52_method_6_code 1 = .ok (.arraylength, 1) := by decide +kernel
theorem e16_2 : decode jdk_52_method_6_code 2 = .ok (.iconst 1, 1) := by decide +kernel
theorem e16_3 : decode jdk_52_method_6_code 3 = .ok (.ishr, 1) := by decide +kernel
theorem e16_4 : decode jdk_52_method_6_code 4 = .ok (.ireturn, 1) := by decide +kernel
set_option maxRecDepth 65536 in
set_option maxHeartbeats 40000000 in
theorem con_uln (l : Launch) (Z : State) (a0 : Array Value) (hw : ∀ d ∈ tables_1, d.before a0 Z = true) (t : Addr) (vs : List Value) (h0 : Heap) (O0 : Ext Z.heap h0) (A_t : Ar Z h0 t .byte vs) (hv : vs.length = 32) :
    Con l Z consts_1 false (⟨"java/lang/StringUTF16", "length", "([B)I"⟩ : MethodName) jdk_52_method_6_code 1 (some .int) [] ({ frames := 0, cells := 0, slots := 0, locals := 0 } : Room) #[(.ref t)] [] h0 (fun v h => v = some (.int 16) ∧ h = h0) := by
  refine Con.intro (Ls := #[.val (.ref t)]) (plainFor_of_name pn1) (own_EL hw) O0 (fun m => by first | (simp [entryFrame, mkF, argsToLocals, Value.category]; done) | rfl) (fun p e s m below meth cc_ T w sf_ => ?_)
  have E0 := ext_refl h0
  refine g_aloadN w e16_0 (q := 1) rfl rfl rfl ?_
  refine g_alen w e16_1 (q := 2) rfl A_t ?_
  rw [hv]
  show Go p e below _ (State.setTop T (mkF m 2 #[.val (.ref t)] [(.int (32 : Int32))]))
  refine g_iconst w e16_2 (q := 3) rfl (v := (1 : Int32)) (by decide) ?_
  refine g_ishr w e16_3 (q := 4) rfl ?_
  rw [shr32]
  show Go p e below _ (State.setTop T (mkF m 4 #[.val (.ref t)] [(.int (16 : Int32))]))
  exact g_reti w e16_4 rfl (by decide) (by decide) ⟨rfl, rfl⟩
theorem e17_0 : decode jdk_41_method_13_code 0 = .ok (.iload_n 2, 1) := by decide +kernel
theorem e17_1 : decode jdk_41_method_13_code 1 = .ok (.iload_n 0, 1) := by decide +kernel
theorem e17_2 : decode jdk_41_method_13_code 2 = .ok (.ior, 1) := by decide +kernel
theorem e17_3 : decode jdk_41_method_13_code 3 = .ok (.iload_n 1, 1) := by decide +kernel
theorem e17_4 : decode jdk_41_method_13_code 4 = .ok (.ior, 1) := by decide +kernel
theorem e17_5 : decode jdk_41_method_13_code 5 = .ok (.ifCond .lt 10, 3) := by decide +kernel
theorem e17_8 : decode jdk_41_method_13_code 8 = .ok (.iload_n 1, 1) := by decide +kernel
theorem e17_9 : decode jdk_41_method_13_code 9 = .ok (.iload_n 2, 1) := by decide +kernel
theorem e17_10 : decode jdk_41_method_13_code 10 = .ok (.iload_n 0, 1) := by decide +kernel
theorem e17_11 : decode jdk_41_method_13_code 11 = .ok (.isub, 1) := by decide +kernel
theorem e17_12 : decode jdk_41_method_13_code 12 = .ok (.if_icmp .le 11, 3) := by decide +kernel
theorem e17_15 : decode jdk_41_method_13_code 15 = .ok (.aload_n 3, 1) := by decide +kernel
theorem e17_16 : decode jdk_41_method_13_code 16 = .ok (.iload_n 0, 1) := by decide +kernel
theorem e17_17 : decode jdk_41_method_13_code 17 = .ok (.iload_n 1, 1) := by decide +kernel
theorem e17_18 : decode jdk_41_method_13_code 18 = .ok (.iload_n 2, 1) := by decide +kernel
theorem e17_19 : decode jdk_41_method_13_code 19 = .ok (.invokestatic 103, 3) := by decide +kernel
theorem e17_22 : decode jdk_41_method_13_code 22 = .ok (.athrow, 1) := by decide +kernel
theorem e17_23 : decode jdk_41_method_13_code 23 = .ok (.iload_n 0, 1) := by decide +kernel
theorem e17_24 : decode jdk_41_method_13_code 24 = .ok (.ireturn, 1) := by decide +kernel
theorem pn5 : plainName "jdk/internal/util/Preconditions" = true := by first | (simp [plainName, overriddenIn]; done) | decide +kernel
set_option maxRecDepth 65536 in
set_option maxHeartbeats 40000000 in
theorem con_pcf (l : Launch) (Z : State) (a0 : Array Value) (hw : ∀ d ∈ tables_1, d.before a0 Z = true) (fm : Value) (k_ n_ : Nat) (h0 : Heap) (O0 : Ext Z.heap h0) (hk : k_ + n_ ≤ 16) (rfm : fm.isRef = true) :
    Con l Z consts_1 false (⟨"jdk/internal/util/Preconditions", "checkFromIndexSize", "(IIILjava/util/function/BiFunction;)I"⟩ : MethodName) jdk_41_method_13_code 4 (some .int) [] ({ frames := 0, cells := 0, slots := 0, locals := 0 } : Room) #[(.int (Int32.ofNat k_)), (.int (Int32.ofNat n_)), (.int (16 : Int32)), fm] [] h0 (fun v h => v = some (.int (Int32.ofNat k_)) ∧ h = h0) := by
  refine Con.intro (Ls := #[.val (.int (Int32.ofNat k_)), .val (.int (Int32.ofNat n_)), .val (.int (16 : Int32)), .val fm]) (plainFor_of_name pn5) (own_EL hw) O0 (fun m => by rcases ref_cases rfm with rfl | ⟨q, rfl⟩ <;> rfl) (fun p e s m below meth cc_ T w sf_ => ?_)
  have E0 := ext_refl h0
  refine g_iloadN w e17_0 (q := 1) rfl rfl ?_
  refine g_iloadN w e17_1 (q := 2) rfl rfl ?_
  refine g_ior w e17_2 (q := 3) rfl ?_
  refine g_iloadN w e17_3 (q := 4) rfl rfl ?_
  refine g_ior w e17_4 (q := 5) rfl ?_
  refine g_ifN w e17_5 (q := 8) rfl (Jvm.Free.XT.i0_lt_f (cfs' hk)) ?_
  refine g_iloadN w e17_8 (q := 9) rfl rfl ?_
  refine g_iloadN w e17_9 (q := 10) rfl rfl ?_
  refine g_iloadN w e17_10 (q := 11) rfl rfl ?_
  refine g_isub w e17_11 (q := 12) rfl ?_
  refine g_icY w e17_12 (by decide) (q := 23) (by decide) (Jvm.Free.XT.ii_le_t (cfs2 hk)) ?_
  refine g_iloadN w e17_23 (q := 24) rfl rfl ?_
  exact g_reti w e17_24 rfl (by decide) (by decide) ⟨rfl, rfl⟩
theorem e18_0 : decode jdk_42_method_157_code 0 = .ok (.iload_n 0, 1) := by decide +kernel
theorem e18_1 : decode jdk_42_method_157_code 1 = .ok (.iload_n 1, 1) := by decide +kernel
theorem e18_2 : decode jdk_42_method_157_code 2 = .ok (.iload_n 2, 1) := by decide +kernel
theorem e18_3 : decode jdk_42_method_157_code 3 = .ok (.getstatic 1053, 3) := by decide +kernel
theorem e18_6 : decode jdk_42_method_157_code 6 = .ok (.invokestatic 1065, 3) := by decide +kernel
theorem e18_9 : decode jdk_42_method_157_code 9 = .ok (.ireturn, 1) := by decide +kernel
theorem pd9 : parseMethodDescriptor "(IIILjava/util/function/BiFunction;)I" = some ⟨[.int, .int, .int, (.object "java/util/function/BiFunction")], some .int⟩ := by decide +kernel
set_option maxRecDepth 65536 in
set_option maxHeartbeats 40000000 in
theorem con_scb (l : Launch) (Z : State) (a0 : Array Value) (hw : ∀ d ∈ tables_1, d.before a0 Z = true) (fm : Value) (k_ n_ : Nat) (h0 : Heap) (O0 : Ext Z.heap h0) (hk : k_ + n_ ≤ 16) (SFm : Sta Z Z.heap "jdk/internal/util/Preconditions" "SIOOBE_FORMATTER" "Ljava/util/function/BiFunction;" fm) (rfm : fm.isRef = true) :
    Con l Z consts_1 false (⟨"java/lang/String", "checkBoundsOffCount", "(III)I"⟩ : MethodName) jdk_42_method_157_code 3 (some .int) [] ({ frames := 1, cells := 0, slots := 0, locals := 15 } : Room) #[(.int (Int32.ofNat k_)), (.int (Int32.ofNat n_)), (.int (16 : Int32))] [] h0 (fun v h => v = some (.int (Int32.ofNat k_)) ∧ h = h0) := by
  refine Con.intro (Ls := #[.val (.int (Int32.ofNat k_)), .val (.int (Int32.ofNat n_)), .val (.int (16 : Int32))]) (plainFor_of_name pn0) (own_EL hw) O0 (fun m => by first | (simp [entryFrame, mkF, argsToLocals, Value.category]; done) | rfl) (fun p e s m below meth cc_ T w sf_ => ?_)
  have E0 := ext_refl h0
  refine g_iloadN w e18_0 (q := 1) rfl rfl ?_
  refine g_iloadN w e18_1 (q := 2) rfl rfl ?_
  refine g_iloadN w e18_2 (q := 3) rfl rfl ?_
  refine g_getS w e18_3 (q := 6) rfl (hw _ (List.mem_of_getElem? (i := 222) rfl)) Via.refl SFm (fun T w => ?_)
  refine g_staticP w (con_pcf l Z a0 hw fm k_ n_ _ w.old hk rfm) no0 e18_6 (q := 9) rfl rfl (hw _ (List.mem_of_getElem? (i := 224) rfl)) (hw _ (List.mem_of_getElem? (i := 225) rfl)) (hw _ (List.mem_of_getElem? (i := 223) rfl)) (hw _ (List.mem_of_getElem? (i := 226) rfl)) (by decide) pd9 rfl rfl (W := 0) (Nat.le_of_eq rfl) (by decide) (by decide) (by decide) (by decide) (fun T v w C q => ?_)
  obtain rfl := q
  show Go p e below _ (State.setTop T (mkF m 9 #[.val (.int (Int32.ofNat k_)), .val (.int (Int32.ofNat n_)), .val (.int (16 : Int32))] [(.int (Int32.ofNat k_))]))
  exact g_reti w e18_9 rfl (by decide) (by decide) ⟨rfl, rfl⟩
theorem e19_0 : decode jdk_52_method_94_code 0 = .ok (.iload_n 0, 1) := by decide +kernel
theorem e19_1 : decode jdk_52_method_94_code 1 = .ok (.iload_n 1, 1) := by decide +kernel
theorem e19_2 : decode jdk_52_method_94_code 2 = .ok (.aload_n 2, 1) := by decide +kernel
theorem e19_3 : decode jdk_52_method_94_code 3 = .ok (.invokestatic 48, 3) := by decide +kernel
theorem e19_6 : decode jdk_52_method_94_code 6 = .ok (.invokestatic 419, 3) := by decide +kernel
theorem e19_9 : decode jdk_52_method_94_code 9 = .ok (.pop, 1) := by decide +kernel
theorem e19_10 : decode jdk_52_method_94_code 10 = .ok (.return_, 1) := by decide +kernel
theorem pd10 : parseMethodDescriptor "([B)I" = some ⟨[(.array .byte)], some .int⟩ := by decide +kernel
theorem pd11 : parseMethodDescriptor "(III)I" = some ⟨[.int, .int, .int], some .int⟩ := by decide +kernel
set_option maxRecDepth 65536 in
set_option maxHeartbeats 40000000 in
theorem con_ucb (l : Launch) (Z : State) (a0 : Array Value) (hw : ∀ d ∈ tables_1, d.before a0 Z = true) (fm : Value) (t : Addr) (k_ n_ : Nat) (vs : List Value) (h0 : Heap) (O0 : Ext Z.heap h0) (A_t : Ar Z h0 t .byte vs) (hv : vs.length = 32) (hk : k_ + n_ ≤ 16) (SFm : Sta Z Z.heap "jdk/internal/util/Preconditions" "SIOOBE_FORMATTER" "Ljava/util/function/BiFunction;" fm) (rfm : fm.isRef = true) :
    Con l Z consts_1 false (⟨"java/lang/StringUTF16", "checkBoundsOffCount", "(II[B)V"⟩ : MethodName) jdk_52_method_94_code 3 none [] ({ frames := 2, cells := 0, slots := 0, locals := 29 } : Room) #[(.int (Int32.ofNat k_)), (.int (Int32.ofNat n_)), (.ref t)] [] h0 (fun v h => v = none ∧ h = h0) := by
  refine Con.intro (Ls := #[.val (.int (Int32.ofNat k_)), .val (.int (Int32.ofNat n_)), .val (.ref t)]) (plainFor_of_name pn1) (own_EL hw) O0 (fun m => by first | (simp [entryFrame, mkF, argsToLocals, Value.category]; done) | rfl) (fun p e s m below meth cc_ T w sf_ => ?_)
  have E0 := ext_refl h0
  refine g_iloadN w e19_0 (q := 1) rfl rfl ?_
  refine g_iloadN w e19_1 (q := 2) rfl rfl ?_
  refine g_aloadN w e19_2 (q := 3) rfl rfl rfl ?_
  refine g_staticP w (con_uln l Z a0 hw t _ _ w.old A_t hv) no0 e19_3 (q := 6) rfl rfl (hw _ (List.mem_of_getElem? (i := 216) rfl)) (hw _ (List.mem_of_getElem? (i := 217) rfl)) (hw _ (List.mem_of_getElem? (i := 163) rfl)) (hw _ (List.mem_of_getElem? (i := 218) rfl)) (by decide) pd10 rfl rfl (W := 2) (Nat.le_of_eq rfl) (by decide) (by decide) (by decide) (by decide) (fun T v w C q => ?_)
  obtain rfl := q
  show Go p e below _ (State.setTop T (mkF m 6 #[.val (.int (Int32.ofNat k_)), .val (.int (Int32.ofNat n_)), .val (.ref t)] [(.int (16 : Int32)), (.int (Int32.ofNat n_)), (.int (Int32.ofNat k_))]))
  refine g_staticP w (con_scb l Z a0 hw fm k_ n_ _ w.old hk SFm rfm) no0 e19_6 (q := 9) rfl rfl (hw _ (List.mem_of_getElem? (i := 219) rfl)) (hw _ (List.mem_of_getElem? (i := 220) rfl)) (hw _ (List.mem_of_getElem? (i := 8) rfl)) (hw _ (List.mem_of_getElem? (i := 221) rfl)) (by decide) pd11 rfl rfl (W := 0) (Nat.le_of_eq rfl) (by decide) (by decide) (by decide) (by decide) (fun T v w C q => ?_)
  obtain rfl := q
  show Go p e below _ (State.setTop T (mkF m 9 #[.val (.int (Int32.ofNat k_)), .val (.int (Int32.ofNat n_)), .val (.ref t)] [(.int (Int32.ofNat k_))]))
  refine g_pop w e19_9 (q := 10) rfl rfl ?_
  exact g_return w e19_10 rfl (by decide) (by decide) ⟨rfl, rfl⟩
theorem e20_0 : decode jdk_52_method_86_code 0 = .ok (.iload_n 3, 1) := by decide +kernel
theorem e20_1 : decode jdk_52_method_86_code 1 = .ok (.iload 4, 2) := by decide +kernel
theorem e20_3 : decode jdk_52_method_86_code 3 = .ok (.aload_n 2, 1) := by decide +kernel
theorem e20_4 : decode jdk_52_method_86_code 4 = .ok (.invokestatic 173, 3) := by decide +kernel
theorem e20_7 : decode jdk_52_method_86_code 7 = .ok (.iconst 0, 1) := by decide +kernel
theorem e20_8 : decode jdk_52_method_86_code 8 = .ok (.istore 5, 2) := by decide +kernel
theorem e20_10 : decode jdk_52_method_86_code 10 = .ok (.iload 5, 2) := by decide +kernel
theorem e20_12 : decode jdk_52_method_86_code 12 = .ok (.iload 4, 2) := by decide +kernel
theorem e20_14 : decode jdk_52_method_86_code 14 = .ok (.if_icmp .ge 27, 3) := by decide +kernel
theorem e20_17 : decode jdk_52_method_86_code 17 = .ok (.aload_n 2, 1) := by decide +kernel
theorem e20_18 : decode jdk_52_method_86_code 18 = .ok (.iload_n 3, 1) := by decide +kernel
theorem e20_19 : decode jdk_52_method_86_code 19 = .ok (.iinc 3 1, 3) := by decide +kernel
theorem e20_22 : decode jdk_52_method_86_code 22 = .ok (.aload_n 0, 1) := by decide +kernel
theorem e20_23 : decode jdk_52_method_86_code 23 = .ok (.iload_n 1, 1) := by decide +kernel
theorem e20_24 : decode jdk_52_method_86_code 24 = .ok (.iinc 1 1, 3) := by decide +kernel
theorem e20_27 : decode jdk_52_method_86_code 27 = .ok (.baload, 1) := by decide +kernel
theorem e20_28 : decode jdk_52_method_86_code 28 = .ok (.sipush 255, 3) := by decide +kernel
theorem e20_31 : decode jdk_52_method_86_code 31 = .ok (.iand, 1) := by decide +kernel
theorem e20_32 : decode jdk_52_method_86_code 32 = .ok (.invokestatic 111, 3) := by decide +kernel
theorem e20_35 : decode jdk_52_method_86_code 35 = .ok (.iinc 5 1, 3) := by decide +kernel
theorem e20_38 : decode jdk_52_method_86_code 38 = .ok (.goto (-28), 3) := by decide +kernel
theorem e20_41 : decode jdk_52_method_86_code 41 = .ok (.return_, 1) := by decide +kernel
theorem pd12 : parseMethodDescriptor "(II[B)V" = some ⟨[.int, .int, (.array .byte)], none⟩ := by decide +kernel
set_option maxRecDepth 65536 in
set_option maxHeartbeats 40000000 in
theorem con_uin (l : Launch) (Z : State) (a0 : Array Value) (hw : ∀ d ∈ tables_1, d.before a0 Z = true) (fm : Value) (a t : Addr) (k_ : Nat) (ds : List Int32) (ws vs : List Value) (h0 : Heap) (O0 : Ext Z.heap h0) (A_a : Ar Z h0 a .byte ws) (hsrc : ∀ i, i < ds.length → ws[i]? = some (.int (ds.getD i 0).toInt8.toInt32)) (hl : ∀ c ∈ ds, Lt8 c) (A_t : Ar Z h0 t .byte vs) (hv : vs.length = 32) (hk : k_ + ds.length ≤ 16) (hwl : ds.length ≤ ws.length) (n_t : Z.heap.size ≤ t) (ne_a_t : a ≠ t) (SFm : Sta Z Z.heap "jdk/internal/util/Preconditions" "SIOOBE_FORMATTER" "Ljava/util/function/BiFunction;" fm) (rfm : fm.isRef = true) (SA_ : Sta Z Z.heap "java/lang/StringUTF16" "$assertionsDisabled" "Z" (.int 1)) (SH_ : Sta Z Z.heap "java/lang/StringUTF16" "HI_BYTE_SHIFT" "I" (.int 0)) (SL_ : Sta Z Z.heap "java/lang/StringUTF16" "LO_BYTE_SHIFT" "I" (.int 8)) :
    Con l Z consts_1 false (⟨"java/lang/StringUTF16", "inflate", "([BI[BII)V"⟩ : MethodName) jdk_52_method_86_code 6 none [] ({ frames := 3, cells := 0, slots := 0, locals := 43 } : Room) #[(.ref a), (.int (0 : Int32)), (.ref t), (.int (Int32.ofNat k_)), (.int (Int32.ofNat ds.length))] [] h0 (fun v h => v = none ∧ Keep h0 h [t] ∧ Ar Z h t .byte (pw vs k_ ds)) := by
  refine Con.intro (Ls := #[.val (.ref a), .val (.int (0 : Int32)), .val (.ref t), .val (.int (Int32.ofNat k_)), .val (.int (Int32.ofNat ds.length)), .unset]) (plainFor_of_name pn1) (own_EL hw) O0 (fun m => by first | (simp [entryFrame, mkF, argsToLocals, Value.category]; done) | rfl) (fun p e s m below meth cc_ T w sf_ => ?_)
  have K0 := Keep.refl h0 [t]
  refine g_iloadN w e20_0 (q := 1) rfl rfl ?_
  refine g_iload w e20_1 (q := 3) rfl rfl ?_
  refine g_aloadN w e20_3 (q := 4) rfl rfl rfl ?_
  refine g_staticP w (con_ucb l Z a0 hw fm t k_ ds.length vs _ w.old A_t hv hk SFm rfm) no0 e20_4 (q := 7) rfl rfl (hw _ (List.mem_of_getElem? (i := 213) rfl)) (hw _ (List.mem_of_getElem? (i := 214) rfl)) (hw _ (List.mem_of_getElem? (i := 163) rfl)) (hw _ (List.mem_of_getElem? (i := 215) rfl)) (by decide) pd12 rfl rfl (W := 0) (Nat.le_of_eq rfl) (by decide) (by decide) (by decide) (by decide) (fun T v w C q => ?_)
  obtain rfl := q
  show Go p e below _ (State.setTop T (mkF m 7 #[.val (.ref a), .val (.int (0 : Int32)), .val (.ref t), .val (.int (Int32.ofNat k_)), .val (.int (Int32.ofNat ds.length)), .unset] []))
  refine g_iconst w e20_7 (q := 8) rfl (v := (0 : Int32)) (by decide) ?_
  refine g_istore w e20_8 (q := 10) rfl (Ls' := #[.val (.ref a), .val (.int (0 : Int32)), .val (.ref t), .val (.int (Int32.ofNat k_)), .val (.int (Int32.ofNat ds.length)), .val (.int (0 : Int32))]) rfl ?_
  have LP : ∀ (r : Nat) (i : Nat) (T : State) (vm : Vm) (h : Heap), (i + r = ds.length) → (Keep h0 h [t]) → (Ar Z h a .byte ws) → (Ar Z h t .byte (pw vs k_ (ds.take i))) → Wk p l e ({ frames := 3, cells := 0, slots := 0, locals := 43 } : Room) s m #[(.ref a), (.int (0 : Int32)), (.ref t), (.int (Int32.ofNat k_)), (.int (Int32.ofNat ds.length))] below meth cc_ Z a0 consts_1 false (⟨"java/lang/StringUTF16", "inflate", "([BI[BII)V"⟩ : MethodName) jdk_52_method_86_code 6 none T vm h 0 0 → Go p e below (Fini Z consts_1 false ({ frames := 3, cells := 0, slots := 0, locals := 43 } : Room).cells ({ frames := 3, cells := 0, slots := 0, locals := 43 } : Room).slots (fun v h => v = none ∧ Keep h0 h [t] ∧ Ar Z h t .byte (pw vs k_ ds)) s) (State.setTop T (mkF m 10 #[.val (.ref a), .val (.int (Int32.ofNat i)), .val (.ref t), .val (.int (Int32.ofNat (k_ + i))), .val (.int (Int32.ofNat ds.length)), .val (.int (Int32.ofNat i))] [])) := by
    intro r
    induction r with
    | zero =>
      intro i T vm h hi K0 A_a A_t  w
      refine g_iload w e20_10 (q := 12) rfl rfl ?_
      refine g_iload w e20_12 (q := 14) rfl rfl ?_
      refine g_icY w e20_14 (by decide) (q := 41) (by decide) (Jvm.Free.XT.ii_ge_t (not_lt_ofNat (by omega) (by omega))) ?_
      exact g_return w e20_41 rfl (by decide) (by decide) ⟨rfl, K0, by rw [show i = ds.length from hi, List.take_length] at A_t; exact A_t⟩
    | succ r ih =>
      intro i T vm h hi K0 A_a A_t  w
      refine g_iload w e20_10 (q := 12) rfl rfl ?_
      refine g_iload w e20_12 (q := 14) rfl rfl ?_
      refine g_icN w e20_14 (q := 17) rfl (Jvm.Free.XT.ii_ge_f (lt_ofNat (by omega) (by omega))) ?_
      refine g_aloadN w e20_17 (q := 18) rfl rfl rfl ?_
      refine g_iloadN w e20_18 (q := 19) rfl rfl ?_
      refine g_iinc w e20_19 (q := 22) rfl (v := (1 : Int32)) (by decide) rfl rfl ?_
      rw [ofNat_succ]
      show Go p e below _ (State.setTop T (mkF m 22 #[.val (.ref a), .val (.int (Int32.ofNat i)), .val (.ref t), .val (.int (Int32.ofNat ((k_ + i) + 1))), .val (.int (Int32.ofNat ds.length)), .val (.int (Int32.ofNat i))] [(.int (Int32.ofNat (k_ + i))), (.ref t)]))
      refine g_aloadN w e20_22 (q := 23) rfl rfl rfl ?_
      refine g_iloadN w e20_23 (q := 24) rfl rfl ?_
      refine g_iinc w e20_24 (q := 27) rfl (v := (1 : Int32)) (by decide) rfl rfl ?_
      rw [ofNat_succ]
      show Go p e below _ (State.setTop T (mkF m 27 #[.val (.ref a), .val (.int (Int32.ofNat (i + 1))), .val (.ref t), .val (.int (Int32.ofNat ((k_ + i) + 1))), .val (.int (Int32.ofNat ds.length)), .val (.int (Int32.ofNat i))] [(.int (Int32.ofNat i)), (.ref a), (.int (Int32.ofNat (k_ + i))), (.ref t)]))
      refine g_baload w e20_27 (q := 28) rfl A_a (i := i) rfl (by omega) (hsrc i (by omega)) ?_
      refine g_sipush w e20_28 (q := 31) rfl (v := (255 : Int32)) (by decide) ?_
      refine g_iand w e20_31 (q := 32) rfl ?_
      rw [lo8_back (lat_all hl (by omega))]
      show Go p e below _ (State.setTop T (mkF m 32 #[.val (.ref a), .val (.int (Int32.ofNat (i + 1))), .val (.ref t), .val (.int (Int32.ofNat ((k_ + i) + 1))), .val (.int (Int32.ofNat ds.length)), .val (.int (Int32.ofNat i))] [(.int (ds.getD i 0)), (.int (Int32.ofNat (k_ + i))), (.ref t)]))
      refine g_static w (con_put l Z a0 hw t (k_ + i) (ds.getD i 0) _ _ w.old A_t (by rw [pw_len (by rw [List.length_take]; omega)]; omega) (by omega) n_t SA_ SH_ SL_) (in1 ⟨A_t.lt, w.safeL (own_WL hw) A_t (by rw [pw_len (by rw [List.length_take]; omega)]; omega)⟩) e20_32 (q := 35) rfl rfl (hw _ (List.mem_of_getElem? (i := 191) rfl)) (hw _ (List.mem_of_getElem? (i := 192) rfl)) (hw _ (List.mem_of_getElem? (i := 163) rfl)) (hw _ (List.mem_of_getElem? (i := 193) rfl)) (by decide) pd3 rfl rfl (W := 0) (Nat.le_of_eq rfl) (by decide) (by decide) (by decide) (by decide) (fun T h v w gs C q => ?_)
      obtain ⟨rfl, K, V⟩ := q
      replace K0 := keep_same K0 K
      replace A_a := A_a.keep K (not1 ne_a_t)
      rw [pw_step (by omega) (by omega)] at V
      replace A_t := V
      show Go p e below _ (State.setTop T (mkF m 35 #[.val (.ref a), .val (.int (Int32.ofNat (i + 1))), .val (.ref t), .val (.int (Int32.ofNat ((k_ + i) + 1))), .val (.int (Int32.ofNat ds.length)), .val (.int (Int32.ofNat i))] []))
      refine g_iinc w e20_35 (q := 38) rfl (v := (1 : Int32)) (by decide) rfl rfl ?_
      rw [ofNat_succ]
      show Go p e below _ (State.setTop T (mkF m 38 #[.val (.ref a), .val (.int (Int32.ofNat (i + 1))), .val (.ref t), .val (.int (Int32.ofNat ((k_ + i) + 1))), .val (.int (Int32.ofNat ds.length)), .val (.int (Int32.ofNat (i + 1)))] []))
      refine g_goto w e20_38 (by decide) (q := 10) (by decide) ?_
      exact ih (i + 1) T _ _ (by omega) K0 A_a A_t w
  exact LP ds.length 0 T _ _ (by omega) K0 A_a (by rw [pw_zero]; exact A_t) w
theorem e21_0 : decode jdk_43_method_50_code 0 = .ok (.aload_n 0, 1) := by decide +kernel
theorem e21_1 : decode jdk_43_method_50_code 1 = .ok (.iload_n 1, 1) := by decide +kernel
theorem e21_2 : decode jdk_43_method_50_code 2 = .ok (.aload_n 2, 1) := by decide +kernel
theorem e21_3 : decode jdk_43_method_50_code 3 = .ok (.iload_n 3, 1) := by decide +kernel
theorem e21_4 : decode jdk_43_method_50_code 4 = .ok (.iload 4, 2) := by decide +kernel
theorem e21_6 : decode jdk_43_method_50_code 6 = .ok (.invokestatic 240, 3) := by decide +kernel
theorem e21_9 : decode jdk_43_method_50_code 9 = .ok (.return_, 1) := by decide +kernel
theorem pd13 : parseMethodDescriptor "([BI[BII)V" = some ⟨[(.array .byte), .int, (.array .byte), .int, .int], none⟩ := by decide +kernel
theorem pn6 : plainName "java/lang/StringLatin1" = true := by first | (simp [plainName, overriddenIn]; done) | decide +kernel
set_option maxRecDepth 65536 in
set_option maxHeartbeats 40000000 in
theorem con_lin (l : Launch) (Z : State) (a0 : Array Value) (hw : ∀ d ∈ tables_1, d.before a0 Z = true) (fm : Value) (a t : Addr) (k_ : Nat) (ds : List Int32) (ws vs : List Value) (h0 : Heap) (O0 : Ext Z.heap h0) (A_a : Ar Z h0 a .byte ws) (hsrc : ∀ i, i < ds.length → ws[i]? = some (.int (ds.getD i 0).toInt8.toInt32)) (hl : ∀ c ∈ ds, Lt8 c) (A_t : Ar Z h0 t .byte vs) (hv : vs.length = 32) (hk : k_ + ds.length ≤ 16) (hwl : ds.length ≤ ws.length) (n_t : Z.heap.size ≤ t) (ne_a_t : a ≠ t) (SFm : Sta Z Z.heap "jdk/internal/util/Preconditions" "SIOOBE_FORMATTER" "Ljava/util/function/BiFunction;" fm) (rfm : fm.isRef = true) (SA_ : Sta Z Z.heap "java/lang/StringUTF16" "$assertionsDisabled" "Z" (.int 1)) (SH_ : Sta Z Z.heap "java/lang/StringUTF16" "HI_BYTE_SHIFT" "I" (.int 0)) (SL_ : Sta Z Z.heap "java/lang/StringUTF16" "LO_BYTE_SHIFT" "I" (.int 8)) :
    Con l Z consts_1 false (⟨"java/lang/StringLatin1", "inflate", "([BI[BII)V"⟩ : MethodName) jdk_43_method_50_code 5 none [] ({ frames := 4, cells := 0, slots := 0, locals := 60 } : Room) #[(.ref a), (.int (0 : Int32)), (.ref t), (.int (Int32.ofNat k_)), (.int (Int32.ofNat ds.length))] [] h0 (fun v h => v = none ∧ Keep h0 h [t] ∧ Ar Z h t .byte (pw vs k_ ds)) := by
  refine Con.intro (Ls := #[.val (.ref a), .val (.int (0 : Int32)), .val (.ref t), .val (.int (Int32.ofNat k_)), .val (.int (Int32.ofNat ds.length))]) (plainFor_of_name pn6) (own_EL hw) O0 (fun m => by first | (simp [entryFrame, mkF, argsToLocals, Value.category]; done) | rfl) (fun p e s m below meth cc_ T w sf_ => ?_)
  have K0 := Keep.refl h0 [t]
  refine g_aloadN w e21_0 (q := 1) rfl rfl rfl ?_
  refine g_iloadN w e21_1 (q := 2) rfl rfl ?_
  refine g_aloadN w e21_2 (q := 3) rfl rfl rfl ?_
  refine g_iloadN w e21_3 (q := 4) rfl rfl ?_
  refine g_iload w e21_4 (q := 6) rfl rfl ?_
  refine g_static w (con_uin l Z a0 hw fm a t k_ ds ws vs _ w.old A_a hsrc hl A_t hv hk hwl n_t ne_a_t SFm rfm SA_ SH_ SL_) no0 e21_6 (q := 9) rfl rfl (hw _ (List.mem_of_getElem? (i := 210) rfl)) (hw _ (List.mem_of_getElem? (i := 211) rfl)) (hw _ (List.mem_of_getElem? (i := 163) rfl)) (hw _ (List.mem_of_getElem? (i := 212) rfl)) (by decide) pd13 rfl rfl (W := 0) (Nat.le_of_eq rfl) (by decide) (by decide) (by decide) (by decide) (fun T h v w gs C q => ?_)
  obtain ⟨rfl, K, V⟩ := q
  replace K0 := keep_same K0 K
  show Go p e below _ (State.setTop T (mkF m 9 #[.val (.ref a), .val (.int (0 : Int32)), .val (.ref t), .val (.int (Int32.ofNat k_)), .val (.int (Int32.ofNat ds.length))] []))
  exact g_return w e21_9 rfl (by decide) (by decide) ⟨rfl, K0, V⟩
set_option maxRecDepth 65536 in
set_option maxHeartbeats 40000000 in
theorem con_nbe (l : Launch) (Z : State) (a0 : Array Value) (hw : ∀ d ∈ tables_1, d.before a0 Z = true) (n_ : Nat) (h0 : Heap) (O0 : Ext Z.heap h0) (hn : n_ ≤ 16) :
    Con l Z consts_1 false (⟨"java/lang/StringUTF16", "newBytesFor", "(I)[B"⟩ : MethodName) jdk_52_method_2_code 1 (some (.array .byte)) [] ({ frames := 1, cells := 1, slots := 32, locals := 12 } : Room) #[(.int (Int32.ofNat n_))] [] h0 (fun v h => ∃ t, v = some (.ref t) ∧ Ext h0 h ∧ h0.size ≤ t ∧ Ar Z h t .byte (List.replicate (2 * n_) (.int 0)) ∧ Exa Z h t "[B") := by
  refine Con.intro (Ls := #[.val (.int (Int32.ofNat n_))]) (plainFor_of_name pn1) (own_EL hw) O0 (fun m => by first | (simp [entryFrame, mkF, argsToLocals, Value.category]; done) | rfl) (fun p e s m below meth cc_ T w sf_ => ?_)
  have E0 := ext_refl h0
  refine g_iloadN w e4_0 (q := 1) rfl rfl ?_
  refine g_staticP w (con_nbl l Z a0 hw n_ _ w.old hn) no0 e4_1 (q := 4) rfl rfl (hw _ (List.mem_of_getElem? (i := 187) rfl)) (hw _ (List.mem_of_getElem? (i := 188) rfl)) (hw _ (List.mem_of_getElem? (i := 163) rfl)) (hw _ (List.mem_of_getElem? (i := 189) rfl)) (by decide) pd1 rfl rfl (W := 0) (Nat.le_of_eq rfl) (by decide) (by decide) (by decide) (by decide) (fun T v w C q => ?_)
  obtain rfl := q
  show Go p e below _ (State.setTop T (mkF m 4 #[.val (.int (Int32.ofNat n_))] [(.int (Int32.ofNat (2 * n_)))]))
  refine g_newarrE w e4_4 (q := 6) rfl (hw _ (List.mem_of_getElem? (i := 21) rfl)) (ad := "[B") (by decide) (len := 2 * n_) (cap := 32) rfl (by omega) (by decide) (by decide) (by decide) (fun T h t w E g_t n_t A_t X_t s_t => ?_)
  replace E0 := ext_trans E0 E
  replace A_t : Ar Z h t .byte (List.replicate (2 * n_) (.int 0)) := A_t
  exact g_reta w e4_6 rfl rfl rfl (by decide) (by decide) ⟨t, rfl, E0, g_t, A_t, X_t⟩
theorem e22_0 : decode jdk_68_method_11_code 0 = .ok (.aload_n 0, 1) := by decide +kernel
theorem e22_1 : decode jdk_68_method_11_code 1 = .ok (.invokevirtual 83, 3) := by decide +kernel
theorem e22_4 : decode jdk_68_method_11_code 4 = .ok (.ifCond .ne 4, 3) := by decide +kernel
theorem e22_7 : decode jdk_68_method_11_code 7 = .ok (.return_, 1) := by decide +kernel
theorem e22_8 : decode jdk_68_method_11_code 8 = .ok (.aload_n 0, 1) := by decide +kernel
theorem e22_9 : decode jdk_68_method_11_code 9 = .ok (.getfield 15, 3) := by decide +kernel
theorem e22_12 : decode jdk_68_method_11_code 12 = .ok (.arraylength, 1) := by decide +kernel
theorem e22_13 : decode jdk_68_method_11_code 13 = .ok (.invokestatic 26, 3) := by decide +kernel
theorem e22_16 : decode jdk_68_method_11_code 16 = .ok (.astore_n 1, 1) := by decide +kernel
theorem e22_17 : decode jdk_68_method_11_code 17 = .ok (.aload_n 0, 1) := by decide +kernel
theorem e22_18 : decode jdk_68_method_11_code 18 = .ok (.getfield 15, 3) := by decide +kernel
theorem e22_21 : decode jdk_68_method_11_code 21 = .ok (.iconst 0, 1) := by decide +kernel
theorem e22_22 : decode jdk_68_method_11_code 22 = .ok (.aload_n 1, 1) := by decide +kernel
theorem e22_23 : decode jdk_68_method_11_code 23 = .ok (.iconst 0, 1) := by decide +kernel
theorem e22_24 : decode jdk_68_method_11_code 24 = .ok (.aload_n 0, 1) := by decide +kernel
theorem e22_25 : decode jdk_68_method_11_code 25 = .ok (.getfield 79, 3) := by decide +kernel
theorem e22_28 : decode jdk_68_method_11_code 28 = .ok (.invokestatic 125, 3) := by decide +kernel
theorem e22_31 : decode jdk_68_method_11_code 31 = .ok (.aload_n 0, 1) := by decide +kernel
theorem e22_32 : decode jdk_68_method_11_code 32 = .ok (.aload_n 1, 1) := by decide +kernel
theorem e22_33 : decode jdk_68_method_11_code 33 = .ok (.putfield 15, 3) := by decide +kernel
theorem e22_36 : decode jdk_68_method_11_code 36 = .ok (.aload_n 0, 1) := by decide +kernel
theorem e22_37 : decode jdk_68_method_11_code 37 = .ok (.iconst 1, 1) := by decide +kernel
theorem e22_38 : decode jdk_68_method_11_code 38 = .ok (.putfield 22, 3) := by decide +kernel
theorem e22_41 : decode jdk_68_method_11_code 41 = .ok (.return_, 1) := by decide +kernel
theorem pd14 : parseMethodDescriptor "()Z" = some ⟨[], some .boolean⟩ := by decide +kernel
set_option maxRecDepth 65536 in
set_option maxHeartbeats 40000000 in
theorem con_if0 (l : Launch) (Z : State) (a0 : Array Value) (hw : ∀ d ∈ tables_1, d.before a0 Z = true) (fm : Value) (x b : Addr) (cs : List Int32) (vs us_ : List Value) (h0 : Heap) (O0 : Ext Z.heap h0) (X_x : Exa Z h0 x "java/lang/StringBuilder") (F_value_x : Fld Z h0 x "java/lang/AbstractStringBuilder" "value" "[B" (.ref b)) (F_coder_x : Fld Z h0 x "java/lang/AbstractStringBuilder" "coder" "B" (.int 0)) (F_count_x : Fld Z h0 x "java/lang/AbstractStringBuilder" "count" "I" (.int (Int32.ofNat cs.length))) (F_maybeLatin1_x : Fld Z h0 x "java/lang/AbstractStringBuilder" "maybeLatin1" "Z" (.int 0)) (A_b : Ar Z h0 b .byte vs) (hL : vs.length = 16) (hvs : vs = bys cs ++ us_) (hl : ∀ c ∈ cs, Lt8 c) (hc16 : cs.length ≤ 16) (n_x : Z.heap.size ≤ x) (hcm : Cpt Z) (SFm : Sta Z Z.heap "jdk/internal/util/Preconditions" "SIOOBE_FORMATTER" "Ljava/util/function/BiFunction;" fm) (rfm : fm.isRef = true) (SA_ : Sta Z Z.heap "java/lang/StringUTF16" "$assertionsDisabled" "Z" (.int 1)) (SH_ : Sta Z Z.heap "java/lang/StringUTF16" "HI_BYTE_SHIFT" "I" (.int 0)) (SL_ : Sta Z Z.heap "java/lang/StringUTF16" "LO_BYTE_SHIFT" "I" (.int 8)) :
    Con l Z consts_1 false (⟨"java/lang/AbstractStringBuilder", "inflate", "()V"⟩ : MethodName) jdk_68_method_11_code 2 none [] ({ frames := 5, cells := 1, slots := 32, locals := 76 } : Room) #[(.ref x)] [] h0 (fun v h => v = none ∧ Keep h0 h [x] ∧ ∃ t, h0.size ≤ t ∧ Exa Z h x "java/lang/StringBuilder" ∧ Fld Z h x "java/lang/AbstractStringBuilder" "value" "[B" (.ref t) ∧ Fld Z h x "java/lang/AbstractStringBuilder" "coder" "B" (.int 1) ∧ Fld Z h x "java/lang/AbstractStringBuilder" "count" "I" (.int (Int32.ofNat cs.length)) ∧ Fld Z h x "java/lang/AbstractStringBuilder" "maybeLatin1" "Z" (.int 0) ∧ Exa Z h t "[B" ∧ (pw (List.replicate (2 * 16) (.int 0)) 0 cs).length = (List.replicate (2 * 16) (Value.int 0)).length ∧ Ar Z h t .byte (pw (List.replicate (2 * 16) (.int 0)) 0 cs)) := by
  refine Con.intro (Ls := #[.val (.ref x), .unset]) (plainFor_of_name pn3) (own_EL hw) O0 (fun m => by first | (simp [entryFrame, mkF, argsToLocals, Value.category]; done) | rfl) (fun p e s m below meth cc_ T w sf_ => ?_)
  have K0 := Keep.refl h0 [x]
  have ne_b_x := (ne_xar X_x A_b (hw _ (List.mem_of_getElem? (i := 50) rfl))).symm
  refine g_aloadN w e22_0 (q := 1) rfl rfl rfl ?_
  refine g_virtualP w (con_aisl0 l Z a0 hw x _ w.old F_coder_x hcm) no0 X_x e22_1 (q := 4) rfl rfl (hw _ (List.mem_of_getElem? (i := 205) rfl)) (hw _ (List.mem_of_getElem? (i := 142) rfl)) (hw _ (List.mem_of_getElem? (i := 144) rfl)) (hw _ (List.mem_of_getElem? (i := 143) rfl)) (hw _ (List.mem_of_getElem? (i := 59) rfl)) (hw _ (List.mem_of_getElem? (i := 145) rfl)) (by decide) (nf (hw _ (List.mem_of_getElem? (i := 144) rfl))) pd14 rfl rfl (W := 0) (Nat.le_of_eq rfl) (by decide) (by decide) (by decide) (by decide) (fun T v w C q => ?_)
  obtain rfl := q
  show Go p e below _ (State.setTop T (mkF m 4 #[.val (.ref x), .unset] [(.int (1 : Int32))]))
  refine g_ifY w e22_4 (by decide) (q := 8) (by decide) (by decide) ?_
  refine g_aloadN w e22_8 (q := 9) rfl rfl rfl ?_
  refine g_getF w e22_9 (q := 12) rfl (host := "") (Or.inl (hw _ (List.mem_of_getElem? (i := 63) rfl))) Via.refl F_value_x (fun T w => ?_)
  refine g_alen w e22_12 (q := 13) rfl A_b ?_
  rw [hL]
  show Go p e below _ (State.setTop T (mkF m 13 #[.val (.ref x), .unset] [(.int (16 : Int32))]))
  refine g_static w (con_nbe l Z a0 hw 16 _ w.old (by decide)) no0 e22_13 (q := 16) rfl rfl (hw _ (List.mem_of_getElem? (i := 206) rfl)) (hw _ (List.mem_of_getElem? (i := 185) rfl)) (hw _ (List.mem_of_getElem? (i := 163) rfl)) (hw _ (List.mem_of_getElem? (i := 186) rfl)) (by decide) pd2 rfl rfl (W := 0) (Nat.le_of_eq rfl) (by decide) (by decide) (by decide) (by decide) (fun T h v w gs C q => ?_)
  obtain ⟨t, rfl, E, g_t, A_t, X_t⟩ := q
  have z_t := Nat.le_trans K0.1 g_t
  have ne_b_t : b ≠ t := Nat.ne_of_lt (Nat.lt_of_lt_of_le A_b.lt g_t)
  have ne_x_t : x ≠ t := Nat.ne_of_lt (Nat.lt_of_lt_of_le X_x.lt g_t)
  replace K0 := K0.ext E
  replace X_x := X_x.ext E
  replace F_value_x := F_value_x.ext E
  replace F_coder_x := F_coder_x.ext E
  replace F_count_x := F_count_x.ext E
  replace F_maybeLatin1_x := F_maybeLatin1_x.ext E
  replace A_b := A_b.ext E
  show Go p e below _ (State.setTop T (mkF m 16 #[.val (.ref x), .unset] [(.ref t)]))
  have n_t : Z.heap.size ≤ t := Nat.le_trans O0.1 z_t
  refine g_astoreN w e22_16 (q := 17) rfl rfl (Ls' := #[.val (.ref x), .val (.ref t)]) rfl ?_
  refine g_aloadN w e22_17 (q := 18) rfl rfl rfl ?_
  refine g_getF w e22_18 (q := 21) rfl (host := "") (Or.inl (hw _ (List.mem_of_getElem? (i := 63) rfl))) Via.refl F_value_x (fun T w => ?_)
  refine g_iconst w e22_21 (q := 22) rfl (v := (0 : Int32)) (by decide) ?_
  refine g_aloadN w e22_22 (q := 23) rfl rfl rfl ?_
  refine g_iconst w e22_23 (q := 24) rfl (v := (0 : Int32)) (by decide) ?_
  refine g_aloadN w e22_24 (q := 25) rfl rfl rfl ?_
  refine g_getF w e22_25 (q := 28) rfl (host := "") (Or.inl (hw _ (List.mem_of_getElem? (i := 89) rfl))) Via.refl F_count_x (fun T w => ?_)
  refine g_static w (con_lin l Z a0 hw fm b t 0 cs vs _ _ w.old A_b (fun i hi => by rw [hvs]; exact srcB hi) hl A_t (by simp) (by omega) (by rw [hvs, List.length_append, bys_len]; omega) n_t ne_b_t SFm rfm SA_ SH_ SL_) no0 e22_28 (q := 31) rfl rfl (hw _ (List.mem_of_getElem? (i := 207) rfl)) (hw _ (List.mem_of_getElem? (i := 208) rfl)) (hw _ (List.mem_of_getElem? (i := 179) rfl)) (hw _ (List.mem_of_getElem? (i := 209) rfl)) (by decide) pd13 rfl rfl (W := 0) (Nat.le_of_eq rfl) (by decide) (by decide) (by decide) (by decide) (fun T h v w gs C q => ?_)
  obtain ⟨rfl, K, V⟩ := q
  replace K0 := keep_new K0 K z_t
  have X0 := X_t
  replace X_x := X_x.keep K
  replace F_value_x := F_value_x.keep K (not1 ne_x_t)
  replace F_coder_x := F_coder_x.keep K (not1 ne_x_t)
  replace F_count_x := F_count_x.keep K (not1 ne_x_t)
  replace F_maybeLatin1_x := F_maybeLatin1_x.keep K (not1 ne_x_t)
  replace A_b := A_b.keep K (not1 ne_b_t)
  replace X_t := X_t.keep K
  replace A_t := V
  show Go p e below _ (State.setTop T (mkF m 31 #[.val (.ref x), .val (.ref t)] []))
  refine g_aloadN w e22_31 (q := 32) rfl rfl rfl ?_
  refine g_aloadN w e22_32 (q := 33) rfl rfl rfl ?_
  have g_ := w.chv
  refine g_putF w e22_33 (q := 36) rfl (hw _ (List.mem_of_getElem? (i := 63) rfl)) Via.refl F_value_x X_x (Or.inl (hw _ (List.mem_of_getElem? (i := 64) rfl))) (hw _ (List.mem_of_getElem? (i := 50) rfl)) (ty := (.array .byte)) (by decide) (v' := (.ref t)) rfl rfl n_x (w.safe X_x (by decide) (by decide)) (fun T h w W => ?_)
  replace K0 := K0.wr W (Or.inl (List.mem_singleton.mpr rfl))
  replace X_x := X_x.wr W
  replace F_value_x := F_value_x.same W
  replace F_coder_x := F_coder_x.other W (Or.inr (slot_ne (Or.inl (hw _ (List.mem_of_getElem? (i := 66) rfl))) (Or.inl (hw _ (List.mem_of_getElem? (i := 64) rfl))) (by decide) (t := .byte) (t' := (.array .byte)) (by decide) (by decide)))
  replace F_count_x := F_count_x.other W (Or.inr (slot_ne (Or.inl (hw _ (List.mem_of_getElem? (i := 90) rfl))) (Or.inl (hw _ (List.mem_of_getElem? (i := 64) rfl))) (by decide) (t := .int) (t' := (.array .byte)) (by decide) (by decide)))
  replace F_maybeLatin1_x := F_maybeLatin1_x.other W (Or.inr (slot_ne (Or.inl (hw _ (List.mem_of_getElem? (i := 228) rfl))) (Or.inl (hw _ (List.mem_of_getElem? (i := 64) rfl))) (by decide) (t := .boolean) (t' := (.array .byte)) (by decide) (by decide)))
  replace A_b := A_b.other W ne_b_x
  replace X_t := X_t.wr W
  replace A_t := A_t.other W ne_x_t.symm
  refine g_aloadN w e22_36 (q := 37) rfl rfl rfl ?_
  refine g_iconst w e22_37 (q := 38) rfl (v := (1 : Int32)) (by decide) ?_
  have g_ := w.chv
  refine g_putF w e22_38 (q := 41) rfl (hw _ (List.mem_of_getElem? (i := 65) rfl)) Via.refl F_coder_x X_x (Or.inl (hw _ (List.mem_of_getElem? (i := 66) rfl))) (hw _ (List.mem_of_getElem? (i := 50) rfl)) (ty := .byte) (by decide) (v' := (.int (1 : Int32))) rfl rfl n_x (w.safe X_x (by decide) (by decide)) (fun T h w W => ?_)
  replace K0 := K0.wr W (Or.inl (List.mem_singleton.mpr rfl))
  replace X_x := X_x.wr W
  replace F_value_x := F_value_x.other W (Or.inr (slot_ne (Or.inl (hw _ (List.mem_of_getElem? (i := 64) rfl))) (Or.inl (hw _ (List.mem_of_getElem? (i := 66) rfl))) (by decide) (t := (.array .byte)) (t' := .byte) (by decide) (by decide)))
  replace F_coder_x := F_coder_x.same W
  replace F_count_x := F_count_x.other W (Or.inr (slot_ne (Or.inl (hw _ (List.mem_of_getElem? (i := 90) rfl))) (Or.inl (hw _ (List.mem_of_getElem? (i := 66) rfl))) (by decide) (t := .int) (t' := .byte) (by decide) (by decide)))
  replace F_maybeLatin1_x := F_maybeLatin1_x.other W (Or.inr (slot_ne (Or.inl (hw _ (List.mem_of_getElem? (i := 228) rfl))) (Or.inl (hw _ (List.mem_of_getElem? (i := 66) rfl))) (by decide) (t := .boolean) (t' := .byte) (by decide) (by decide)))
  replace A_b := A_b.other W ne_b_x
  replace X_t := X_t.wr W
  replace A_t := A_t.other W ne_x_t.symm
  exact g_return w e22_41 rfl (by decide) (by decide) ⟨rfl, K0, t, z_t, X_x, F_value_x, F_coder_x, F_count_x, F_maybeLatin1_x, X_t, pw_len (k := 0) (by rw [List.length_replicate]; omega), A_t⟩
set_option maxRecDepth 65536 in
set_option maxHeartbeats 40000000 in
theorem con_if1 (l : Launch) (Z : State) (a0 : Array Value) (hw : ∀ d ∈ tables_1, d.before a0 Z = true) (x : Addr) (h0 : Heap) (O0 : Ext Z.heap h0) (F_coder_x : Fld Z h0 x "java/lang/AbstractStringBuilder" "coder" "B" (.int 1)) (X_x : Exa Z h0 x "java/lang/StringBuilder") (hcm : Cpt Z) :
    Con l Z consts_1 false (⟨"java/lang/AbstractStringBuilder", "inflate", "()V"⟩ : MethodName) jdk_68_method_11_code 2 none [] ({ frames := 1, cells := 0, slots := 0, locals := 12 } : Room) #[(.ref x)] [] h0 (fun v h => v = none ∧ h = h0) := by
  refine Con.intro (Ls := #[.val (.ref x), .unset]) (plainFor_of_name pn3) (own_EL hw) O0 (fun m => by first | (simp [entryFrame, mkF, argsToLocals, Value.category]; done) | rfl) (fun p e s m below meth cc_ T w sf_ => ?_)
  have E0 := ext_refl h0
  refine g_aloadN w e22_0 (q := 1) rfl rfl rfl ?_
  refine g_virtualP w (con_aisl1 l Z a0 hw x _ w.old F_coder_x hcm) no0 X_x e22_1 (q := 4) rfl rfl (hw _ (List.mem_of_getElem? (i := 205) rfl)) (hw _ (List.mem_of_getElem? (i := 142) rfl)) (hw _ (List.mem_of_getElem? (i := 144) rfl)) (hw _ (List.mem_of_getElem? (i := 143) rfl)) (hw _ (List.mem_of_getElem? (i := 59) rfl)) (hw _ (List.mem_of_getElem? (i := 145) rfl)) (by decide) (nf (hw _ (List.mem_of_getElem? (i := 144) rfl))) pd14 rfl rfl (W := 0) (Nat.le_of_eq rfl) (by decide) (by decide) (by decide) (by decide) (fun T v w C q => ?_)
  obtain rfl := q
  show Go p e below _ (State.setTop T (mkF m 4 #[.val (.ref x), .unset] [(.int (0 : Int32))]))
  refine g_ifN w e22_4 (q := 7) rfl (by decide) ?_
  exact g_return w e22_7 rfl (by decide) (by decide) ⟨rfl, rfl⟩
theorem e23_0 : decode jdk_68_method_71_code 0 = .ok (.getstatic 18, 3) := by decide +kernel
theorem e23_3 : decode jdk_68_method_71_code 3 = .ok (.ifCond .eq 18, 3) := by decide +kernel
theorem e23_6 : decode jdk_68_method_71_code 6 = .ok (.aload_n 0, 1) := by decide +kernel
theorem e23_7 : decode jdk_68_method_71_code 7 = .ok (.getfield 22, 3) := by decide +kernel
theorem e23_10 : decode jdk_68_method_71_code 10 = .ok (.aload_n 1, 1) := by decide +kernel
theorem e23_11 : decode jdk_68_method_71_code 11 = .ok (.invokevirtual 40, 3) := by decide +kernel
theorem e23_14 : decode jdk_68_method_71_code 14 = .ok (.if_icmp .eq 7, 3) := by decide +kernel
theorem e23_17 : decode jdk_68_method_71_code 17 = .ok (.aload_n 0, 1) := by decide +kernel
theorem e23_18 : decode jdk_68_method_71_code 18 = .ok (.invokevirtual 195, 3) := by decide +kernel
theorem e23_21 : decode jdk_68_method_71_code 21 = .ok (.return_, 1) := by decide +kernel
theorem pd15 : parseMethodDescriptor "()B" = some ⟨[], some .byte⟩ := by decide +kernel
set_option maxRecDepth 65536 in
set_option maxHeartbeats 40000000 in
theorem con_inS (l : Launch) (Z : State) (a0 : Array Value) (hw : ∀ d ∈ tables_1, d.before a0 Z = true) (x u : Addr) (cd : Int32) (h0 : Heap) (O0 : Ext Z.heap h0) (F_coder_x : Fld Z h0 x "java/lang/AbstractStringBuilder" "coder" "B" (.int cd)) (X_u : Exa Z h0 u "java/lang/String") (F_c : Fld Z h0 u "java/lang/String" "coder" "B" (.int cd)) (hcd : cd = 0 ∨ cd = 1) (hcm : Cpt Z) :
    Con l Z consts_1 false (⟨"java/lang/AbstractStringBuilder", "inflateIfNeededFor", "(Ljava/lang/String;)V"⟩ : MethodName) jdk_68_method_71_code 2 none [] ({ frames := 1, cells := 0, slots := 0, locals := 13 } : Room) #[(.ref x), (.ref u)] [] h0 (fun v h => v = none ∧ h = h0) := by
  refine Con.intro (Ls := #[.val (.ref x), .val (.ref u)]) (plainFor_of_name pn3) (own_EL hw) O0 (fun m => by first | (simp [entryFrame, mkF, argsToLocals, Value.category]; done) | rfl) (fun p e s m below meth cc_ T w sf_ => ?_)
  have E0 := ext_refl h0
  obtain ⟨z_, hz_, SC_⟩ := id hcm
  refine g_getS w e23_0 (q := 3) rfl (hw _ (List.mem_of_getElem? (i := 62) rfl)) Via.refl SC_ (fun T w => ?_)
  refine g_ifN w e23_3 (q := 6) rfl (Jvm.Free.XT.i0_eq_f hz_) ?_
  refine g_aloadN w e23_6 (q := 7) rfl rfl rfl ?_
  refine g_getF w e23_7 (q := 10) rfl (host := "") (Or.inl (hw _ (List.mem_of_getElem? (i := 65) rfl))) Via.refl F_coder_x (fun T w => ?_)
  refine g_aloadN w e23_10 (q := 11) rfl rfl rfl ?_
  refine g_virtualP w (con_coder l Z a0 hw u cd _ w.old F_c hcd hcm) no0 X_u e23_11 (q := 14) rfl rfl (hw _ (List.mem_of_getElem? (i := 106) rfl)) (hw _ (List.mem_of_getElem? (i := 84) rfl)) (hw _ (List.mem_of_getElem? (i := 86) rfl)) (hw _ (List.mem_of_getElem? (i := 85) rfl)) (hw _ (List.mem_of_getElem? (i := 8) rfl)) (hw _ (List.mem_of_getElem? (i := 87) rfl)) (by decide) (nf (hw _ (List.mem_of_getElem? (i := 86) rfl))) pd15 rfl rfl (W := 1) (Nat.le_of_eq rfl) (by decide) (by decide) (by decide) (by decide) (fun T v w C q => ?_)
  obtain rfl := q
  show Go p e below _ (State.setTop T (mkF m 14 #[.val (.ref x), .val (.ref u)] [(.int cd), (.int cd)]))
  refine g_icY w e23_14 (by decide) (q := 21) (by decide) (Jvm.Free.XT.ii_eq_t rfl) ?_
  exact g_return w e23_21 rfl (by decide) (by decide) ⟨rfl, rfl⟩
theorem pd16 : parseMethodDescriptor "()V" = some ⟨[], none⟩ := by decide +kernel
set_option maxRecDepth 65536 in
set_option maxHeartbeats 40000000 in
theorem con_inWL (l : Launch) (Z : State) (a0 : Array Value) (hw : ∀ d ∈ tables_1, d.before a0 Z = true) (x u : Addr) (h0 : Heap) (O0 : Ext Z.heap h0) (F_coder_x : Fld Z h0 x "java/lang/AbstractStringBuilder" "coder" "B" (.int 1)) (X_x : Exa Z h0 x "java/lang/StringBuilder") (X_u : Exa Z h0 u "java/lang/String") (F_c : Fld Z h0 u "java/lang/String" "coder" "B" (.int 0)) (hcm : Cpt Z) :
    Con l Z consts_1 false (⟨"java/lang/AbstractStringBuilder", "inflateIfNeededFor", "(Ljava/lang/String;)V"⟩ : MethodName) jdk_68_method_71_code 2 none [] ({ frames := 2, cells := 0, slots := 0, locals := 25 } : Room) #[(.ref x), (.ref u)] [] h0 (fun v h => v = none ∧ h = h0) := by
  refine Con.intro (Ls := #[.val (.ref x), .val (.ref u)]) (plainFor_of_name pn3) (own_EL hw) O0 (fun m => by first | (simp [entryFrame, mkF, argsToLocals, Value.category]; done) | rfl) (fun p e s m below meth cc_ T w sf_ => ?_)
  have E0 := ext_refl h0
  obtain ⟨z_, hz_, SC_⟩ := id hcm
  refine g_getS w e23_0 (q := 3) rfl (hw _ (List.mem_of_getElem? (i := 62) rfl)) Via.refl SC_ (fun T w => ?_)
  refine g_ifN w e23_3 (q := 6) rfl (Jvm.Free.XT.i0_eq_f hz_) ?_
  refine g_aloadN w e23_6 (q := 7) rfl rfl rfl ?_
  refine g_getF w e23_7 (q := 10) rfl (host := "") (Or.inl (hw _ (List.mem_of_getElem? (i := 65) rfl))) Via.refl F_coder_x (fun T w => ?_)
  refine g_aloadN w e23_10 (q := 11) rfl rfl rfl ?_
  refine g_virtualP w (con_coder l Z a0 hw u (0 : Int32) _ w.old F_c (by decide) hcm) no0 X_u e23_11 (q := 14) rfl rfl (hw _ (List.mem_of_getElem? (i := 106) rfl)) (hw _ (List.mem_of_getElem? (i := 84) rfl)) (hw _ (List.mem_of_getElem? (i := 86) rfl)) (hw _ (List.mem_of_getElem? (i := 85) rfl)) (hw _ (List.mem_of_getElem? (i := 8) rfl)) (hw _ (List.mem_of_getElem? (i := 87) rfl)) (by decide) (nf (hw _ (List.mem_of_getElem? (i := 86) rfl))) pd15 rfl rfl (W := 1) (Nat.le_of_eq rfl) (by decide) (by decide) (by decide) (by decide) (fun T v w C q => ?_)
  obtain rfl := q
  show Go p e below _ (State.setTop T (mkF m 14 #[.val (.ref x), .val (.ref u)] [(.int (0 : Int32)), (.int (1 : Int32))]))
  refine g_icN w e23_14 (q := 17) rfl (by decide) ?_
  refine g_aloadN w e23_17 (q := 18) rfl rfl rfl ?_
  refine g_privP w (con_if1 l Z a0 hw x _ w.old F_coder_x X_x hcm) no0 X_x e23_18 (q := 21) rfl rfl (hw _ (List.mem_of_getElem? (i := 200) rfl)) (hw _ (List.mem_of_getElem? (i := 202) rfl)) (selOwn (hw _ (List.mem_of_getElem? (i := 201) rfl)) (hw _ (List.mem_of_getElem? (i := 203) rfl)) (hw _ (List.mem_of_getElem? (i := 202) rfl)) (by decide)) (hw _ (List.mem_of_getElem? (i := 201) rfl)) (hw _ (List.mem_of_getElem? (i := 59) rfl)) (hw _ (List.mem_of_getElem? (i := 204) rfl)) (by decide) pd16 rfl rfl (W := 0) (Nat.le_of_eq rfl) (by decide) (by decide) (by decide) (by decide) (fun T v w C q => ?_)
  obtain rfl := q
  show Go p e below _ (State.setTop T (mkF m 21 #[.val (.ref x), .val (.ref u)] []))
  exact g_return w e23_21 rfl (by decide) (by decide) ⟨rfl, rfl⟩
set_option maxRecDepth 65536 in
set_option maxHeartbeats 40000000 in
theorem con_inLW (l : Launch) (Z : State) (a0 : Array Value) (hw : ∀ d ∈ tables_1, d.before a0 Z = true) (fm : Value) (x u b : Addr) (cs : List Int32) (vs us_ : List Value) (h0 : Heap) (O0 : Ext Z.heap h0) (X_x : Exa Z h0 x "java/lang/StringBuilder") (F_value_x : Fld Z h0 x "java/lang/AbstractStringBuilder" "value" "[B" (.ref b)) (F_coder_x : Fld Z h0 x "java/lang/AbstractStringBuilder" "coder" "B" (.int 0)) (F_count_x : Fld Z h0 x "java/lang/AbstractStringBuilder" "count" "I" (.int (Int32.ofNat cs.length))) (F_maybeLatin1_x : Fld Z h0 x "java/lang/AbstractStringBuilder" "maybeLatin1" "Z" (.int 0)) (X_u : Exa Z h0 u "java/lang/String") (F_c : Fld Z h0 u "java/lang/String" "coder" "B" (.int 1)) (A_b : Ar Z h0 b .byte vs) (hL : vs.length = 16) (hvs : vs = bys cs ++ us_) (hl : ∀ c ∈ cs, Lt8 c) (hc16 : cs.length ≤ 16) (n_x : Z.heap.size ≤ x) (hcm : Cpt Z) (SFm : Sta Z Z.heap "jdk/internal/util/Preconditions" "SIOOBE_FORMATTER" "Ljava/util/function/BiFunction;" fm) (rfm : fm.isRef = true) (SA_ : Sta Z Z.heap "java/lang/StringUTF16" "$assertionsDisabled" "Z" (.int 1)) (SH_ : Sta Z Z.heap "java/lang/StringUTF16" "HI_BYTE_SHIFT" "I" (.int 0)) (SL_ : Sta Z Z.heap "java/lang/StringUTF16" "LO_BYTE_SHIFT" "I" (.int 8)) :
    Con l Z consts_1 false (⟨"java/lang/AbstractStringBuilder", "inflateIfNeededFor", "(Ljava/lang/String;)V"⟩ : MethodName) jdk_68_method_71_code 2 none [] ({ frames := 6, cells := 1, slots := 32, locals := 89 } : Room) #[(.ref x), (.ref u)] [] h0 (fun v h => v = none ∧ Keep h0 h [x] ∧ ∃ t, h0.size ≤ t ∧ Exa Z h x "java/lang/StringBuilder" ∧ Fld Z h x "java/lang/AbstractStringBuilder" "value" "[B" (.ref t) ∧ Fld Z h x "java/lang/AbstractStringBuilder" "coder" "B" (.int 1) ∧ Fld Z h x "java/lang/AbstractStringBuilder" "count" "I" (.int (Int32.ofNat cs.length)) ∧ Fld Z h x "java/lang/AbstractStringBuilder" "maybeLatin1" "Z" (.int 0) ∧ Exa Z h t "[B" ∧ (pw (List.replicate (2 * 16) (.int 0)) 0 cs).length = (List.replicate (2 * 16) (Value.int 0)).length ∧ Ar Z h t .byte (pw (List.replicate (2 * 16) (.int 0)) 0 cs)) := by
  refine Con.intro (Ls := #[.val (.ref x), .val (.ref u)]) (plainFor_of_name pn3) (own_EL hw) O0 (fun m => by first | (simp [entryFrame, mkF, argsToLocals, Value.category]; done) | rfl) (fun p e s m below meth cc_ T w sf_ => ?_)
  have K0 := Keep.refl h0 [x]
  obtain ⟨z_, hz_, SC_⟩ := id hcm
  refine g_getS w e23_0 (q := 3) rfl (hw _ (List.mem_of_getElem? (i := 62) rfl)) Via.refl SC_ (fun T w => ?_)
  refine g_ifN w e23_3 (q := 6) rfl (Jvm.Free.XT.i0_eq_f hz_) ?_
  refine g_aloadN w e23_6 (q := 7) rfl rfl rfl ?_
  refine g_getF w e23_7 (q := 10) rfl (host := "") (Or.inl (hw _ (List.mem_of_getElem? (i := 65) rfl))) Via.refl F_coder_x (fun T w => ?_)
  refine g_aloadN w e23_10 (q := 11) rfl rfl rfl ?_
  refine g_virtualP w (con_coder l Z a0 hw u (1 : Int32) _ w.old F_c (by decide) hcm) no0 X_u e23_11 (q := 14) rfl rfl (hw _ (List.mem_of_getElem? (i := 106) rfl)) (hw _ (List.mem_of_getElem? (i := 84) rfl)) (hw _ (List.mem_of_getElem? (i := 86) rfl)) (hw _ (List.mem_of_getElem? (i := 85) rfl)) (hw _ (List.mem_of_getElem? (i := 8) rfl)) (hw _ (List.mem_of_getElem? (i := 87) rfl)) (by decide) (nf (hw _ (List.mem_of_getElem? (i := 86) rfl))) pd15 rfl rfl (W := 1) (Nat.le_of_eq rfl) (by decide) (by decide) (by decide) (by decide) (fun T v w C q => ?_)
  obtain rfl := q
  show Go p e below _ (State.setTop T (mkF m 14 #[.val (.ref x), .val (.ref u)] [(.int (1 : Int32)), (.int (0 : Int32))]))
  refine g_icN w e23_14 (q := 17) rfl (by decide) ?_
  refine g_aloadN w e23_17 (q := 18) rfl rfl rfl ?_
  refine g_priv w (con_if0 l Z a0 hw fm x b cs vs us_ _ w.old X_x F_value_x F_coder_x F_count_x F_maybeLatin1_x A_b hL hvs hl hc16 n_x hcm SFm rfm SA_ SH_ SL_) no0 X_x e23_18 (q := 21) rfl rfl (hw _ (List.mem_of_getElem? (i := 200) rfl)) (hw _ (List.mem_of_getElem? (i := 202) rfl)) (selOwn (hw _ (List.mem_of_getElem? (i := 201) rfl)) (hw _ (List.mem_of_getElem? (i := 203) rfl)) (hw _ (List.mem_of_getElem? (i := 202) rfl)) (by decide)) (hw _ (List.mem_of_getElem? (i := 201) rfl)) (hw _ (List.mem_of_getElem? (i := 59) rfl)) (hw _ (List.mem_of_getElem? (i := 204) rfl)) (by decide) pd16 rfl rfl (W := 0) (Nat.le_of_eq rfl) (by decide) (by decide) (by decide) (by decide) (fun T h v w gs C q => ?_)
  obtain ⟨rfl, K, t, g_t, G1, G2, G3, G4, G5, X_t, hL32, A_t⟩ := q
  have z_t := Nat.le_trans K0.1 g_t
  replace K0 := keep_same K0 K
  show Go p e below _ (State.setTop T (mkF m 21 #[.val (.ref x), .val (.ref u)] []))
  exact g_return w e23_21 rfl (by decide) (by decide) ⟨rfl, K0, t, z_t, G1, G2, G3, G4, G5, X_t, hL32, A_t⟩
theorem e24_0 : decode jdk_42_method_147_code 0 = .ok (.aload_n 0, 1) := by decide +kernel
theorem e24_1 : decode jdk_42_method_147_code 1 = .ok (.invokevirtual 335, 3) := by decide +kernel
theorem e24_4 : decode jdk_42_method_147_code 4 = .ok (.iload_n 3, 1) := by decide +kernel
theorem e24_5 : decode jdk_42_method_147_code 5 = .ok (.if_icmp .ne 23, 3) := by decide +kernel
theorem e24_8 : decode jdk_42_method_147_code 8 = .ok (.aload_n 0, 1) := by decide +kernel
theorem e24_9 : decode jdk_42_method_147_code 9 = .ok (.getfield 9, 3) := by decide +kernel
theorem e24_12 : decode jdk_42_method_147_code 12 = .ok (.iconst 0, 1) := by decide +kernel
theorem e24_13 : decode jdk_42_method_147_code 13 = .ok (.aload_n 1, 1) := by decide +kernel
theorem e24_14 : decode jdk_42_method_147_code 14 = .ok (.iload_n 2, 1) := by decide +kernel
theorem e24_15 : decode jdk_42_method_147_code 15 = .ok (.iload_n 3, 1) := by decide +kernel
theorem e24_16 : decode jdk_42_method_147_code 16 = .ok (.ishl, 1) := by decide +kernel
theorem e24_17 : decode jdk_42_method_147_code 17 = .ok (.aload_n 0, 1) := by decide +kernel
theorem e24_18 : decode jdk_42_method_147_code 18 = .ok (.getfield 9, 3) := by decide +kernel
theorem e24_21 : decode jdk_42_method_147_code 21 = .ok (.arraylength, 1) := by decide +kernel
theorem e24_22 : decode jdk_42_method_147_code 22 = .ok (.invokestatic 212, 3) := by decide +kernel
theorem e24_25 : decode jdk_42_method_147_code 25 = .ok (.goto 18, 3) := by decide +kernel
theorem e24_28 : decode jdk_42_method_147_code 28 = .ok (.aload_n 0, 1) := by decide +kernel
theorem e24_29 : decode jdk_42_method_147_code 29 = .ok (.getfield 9, 3) := by decide +kernel
theorem e24_32 : decode jdk_42_method_147_code 32 = .ok (.iconst 0, 1) := by decide +kernel
theorem e24_33 : decode jdk_42_method_147_code 33 = .ok (.aload_n 1, 1) := by decide +kernel
theorem e24_34 : decode jdk_42_method_147_code 34 = .ok (.iload_n 2, 1) := by decide +kernel
theorem e24_35 : decode jdk_42_method_147_code 35 = .ok (.aload_n 0, 1) := by decide +kernel
theorem e24_36 : decode jdk_42_method_147_code 36 = .ok (.getfield 9, 3) := by decide +kernel
theorem e24_39 : decode jdk_42_method_147_code 39 = .ok (.arraylength, 1) := by decide +kernel
theorem e24_40 : decode jdk_42_method_147_code 40 = .ok (.invokestatic 106, 3) := by decide +kernel
theorem e24_43 : decode jdk_42_method_147_code 43 = .ok (.return_, 1) := by decide +kernel
set_option maxRecDepth 65536 in
set_option maxHeartbeats 40000000 in
theorem con_gb0 (l : Launch) (Z : State) (a0 : Array Value) (hw : ∀ d ∈ tables_1, d.before a0 Z = true) (u t_ b : Addr) (k_ : Nat) (ws vs : List Value) (h0 : Heap) (O0 : Ext Z.heap h0) (X_u : Exa Z h0 u "java/lang/String") (F_c : Fld Z h0 u "java/lang/String" "coder" "B" (.int 0)) (F_v : Fld Z h0 u "java/lang/String" "value" "[B" (.ref t_)) (A_t : Ar Z h0 t_ .byte ws) (A_b : Ar Z h0 b .byte vs) (n_b : Z.heap.size ≤ b) (hs12 : 12 < vs.length) (hcm : Cpt Z) (hk : k_ + ws.length ≤ vs.length) (hk6 : k_ < 64) :
    Con l Z consts_1 false (⟨"java/lang/String", "getBytes", "([BIB)V"⟩ : MethodName) jdk_42_method_147_code 4 none [] ({ frames := 1, cells := 0, slots := 0, locals := 18 } : Room) #[(.ref u), (.ref b), (.int (Int32.ofNat k_)), (.int (0 : Int32))] [] h0 (fun v h => v = none ∧ Keep h0 h [b] ∧ Ar Z h b .byte (vs.take (k_) ++ ws ++ vs.drop (k_ + ws.length))) := by
  refine Con.intro (Ls := #[.val (.ref u), .val (.ref b), .val (.int (Int32.ofNat k_)), .val (.int (0 : Int32))]) (plainFor_of_name pn0) (own_EL hw) O0 (fun m => by first | (simp [entryFrame, mkF, argsToLocals, Value.category]; done) | rfl) (fun p e s m below meth cc_ T w sf_ => ?_)
  have K0 := Keep.refl h0 [b]
  obtain ⟨z_, hz_, SC_⟩ := id hcm
  refine g_aloadN w e24_0 (q := 1) rfl rfl rfl ?_
  refine g_virtualP w (con_coder l Z a0 hw u (0 : Int32) _ w.old F_c (by decide) hcm) no0 X_u e24_1 (q := 4) rfl rfl (hw _ (List.mem_of_getElem? (i := 83) rfl)) (hw _ (List.mem_of_getElem? (i := 84) rfl)) (hw _ (List.mem_of_getElem? (i := 86) rfl)) (hw _ (List.mem_of_getElem? (i := 85) rfl)) (hw _ (List.mem_of_getElem? (i := 8) rfl)) (hw _ (List.mem_of_getElem? (i := 87) rfl)) (by decide) (nf (hw _ (List.mem_of_getElem? (i := 86) rfl))) pd15 rfl rfl (W := 0) (Nat.le_of_eq rfl) (by decide) (by decide) (by decide) (by decide) (fun T v w C q => ?_)
  obtain rfl := q
  show Go p e below _ (State.setTop T (mkF m 4 #[.val (.ref u), .val (.ref b), .val (.int (Int32.ofNat k_)), .val (.int (0 : Int32))] [(.int (0 : Int32))]))
  refine g_iloadN w e24_4 (q := 5) rfl rfl ?_
  refine g_icN w e24_5 (q := 8) rfl (Jvm.Free.XT.ii_ne_f rfl) ?_
  refine g_aloadN w e24_8 (q := 9) rfl rfl rfl ?_
  refine g_getF w e24_9 (q := 12) rfl (host := "") (Or.inl (hw _ (List.mem_of_getElem? (i := 26) rfl))) Via.refl F_v (fun T w => ?_)
  refine g_iconst w e24_12 (q := 13) rfl (v := (0 : Int32)) (by decide) ?_
  refine g_aloadN w e24_13 (q := 14) rfl rfl rfl ?_
  refine g_iloadN w e24_14 (q := 15) rfl rfl ?_
  refine g_iloadN w e24_15 (q := 16) rfl rfl ?_
  refine g_ishl w e24_16 (q := 17) rfl ?_
  rw [shl0]
  show Go p e below _ (State.setTop T (mkF m 17 #[.val (.ref u), .val (.ref b), .val (.int (Int32.ofNat k_)), .val (.int (0 : Int32))] [(.int (Int32.ofNat k_)), (.ref b), (.int (0 : Int32)), (.ref t_)]))
  refine g_aloadN w e24_17 (q := 18) rfl rfl rfl ?_
  refine g_getF w e24_18 (q := 21) rfl (host := "") (Or.inl (hw _ (List.mem_of_getElem? (i := 26) rfl))) Via.refl F_v (fun T w => ?_)
  refine g_alen w e24_21 (q := 22) rfl A_t ?_
  show Go p e below _ (State.setTop T (mkF m 22 #[.val (.ref u), .val (.ref b), .val (.int (Int32.ofNat k_)), .val (.int (0 : Int32))] [(.int (Int32.ofNat ws.length)), (.int (Int32.ofNat k_)), (.ref b), (.int (0 : Int32)), (.ref t_)]))
  refine g_acopyB w (sp := 0) (dp := k_) (nn := ws.length) A_t A_b (by omega) (by omega) n_b (w.safeL (own_WL hw) A_b (by omega)) e24_22 (q := 25) rfl rfl (hw _ (List.mem_of_getElem? (i := 112) rfl)) (hw _ (List.mem_of_getElem? (i := 115) rfl)) (hw _ (List.mem_of_getElem? (i := 113) rfl)) (hw _ (List.mem_of_getElem? (i := 114) rfl)) (Wd := 0) (Nat.le_of_eq rfl) (by decide) (by decide) (fun T h w K V => ?_)
  rw [cp_in rfl] at V
  replace K0 := keep_same K0 K
  replace A_b := V
  show Go p e below _ (State.setTop T (mkF m 25 #[.val (.ref u), .val (.ref b), .val (.int (Int32.ofNat k_)), .val (.int (0 : Int32))] []))
  refine g_goto w e24_25 (by decide) (q := 43) (by decide) ?_
  exact g_return w e24_43 rfl (by decide) (by decide) ⟨rfl, K0, A_b⟩
set_option maxRecDepth 65536 in
set_option maxHeartbeats 40000000 in
theorem con_gb1 (l : Launch) (Z : State) (a0 : Array Value) (hw : ∀ d ∈ tables_1, d.before a0 Z = true) (u t_ b : Addr) (k_ : Nat) (ws vs : List Value) (h0 : Heap) (O0 : Ext Z.heap h0) (X_u : Exa Z h0 u "java/lang/String") (F_c : Fld Z h0 u "java/lang/String" "coder" "B" (.int 1)) (F_v : Fld Z h0 u "java/lang/String" "value" "[B" (.ref t_)) (A_t : Ar Z h0 t_ .byte ws) (A_b : Ar Z h0 b .byte vs) (n_b : Z.heap.size ≤ b) (hs12 : 12 < vs.length) (hcm : Cpt Z) (hk : 2 * k_ + ws.length ≤ vs.length) (hk6 : k_ < 64) :
    Con l Z consts_1 false (⟨"java/lang/String", "getBytes", "([BIB)V"⟩ : MethodName) jdk_42_method_147_code 4 none [] ({ frames := 1, cells := 0, slots := 0, locals := 18 } : Room) #[(.ref u), (.ref b), (.int (Int32.ofNat k_)), (.int (1 : Int32))] [] h0 (fun v h => v = none ∧ Keep h0 h [b] ∧ Ar Z h b .byte (vs.take (2 * k_) ++ ws ++ vs.drop (2 * k_ + ws.length))) := by
  refine Con.intro (Ls := #[.val (.ref u), .val (.ref b), .val (.int (Int32.ofNat k_)), .val (.int (1 : Int32))]) (plainFor_of_name pn0) (own_EL hw) O0 (fun m => by first | (simp [entryFrame, mkF, argsToLocals, Value.category]; done) | rfl) (fun p e s m below meth cc_ T w sf_ => ?_)
  have K0 := Keep.refl h0 [b]
  obtain ⟨z_, hz_, SC_⟩ := id hcm
  refine g_aloadN w e24_0 (q := 1) rfl rfl rfl ?_
  refine g_virtualP w (con_coder l Z a0 hw u (1 : Int32) _ w.old F_c (by decide) hcm) no0 X_u e24_1 (q := 4) rfl rfl (hw _ (List.mem_of_getElem? (i := 83) rfl)) (hw _ (List.mem_of_getElem? (i := 84) rfl)) (hw _ (List.mem_of_getElem? (i := 86) rfl)) (hw _ (List.mem_of_getElem? (i := 85) rfl)) (hw _ (List.mem_of_getElem? (i := 8) rfl)) (hw _ (List.mem_of_getElem? (i := 87) rfl)) (by decide) (nf (hw _ (List.mem_of_getElem? (i := 86) rfl))) pd15 rfl rfl (W := 0) (Nat.le_of_eq rfl) (by decide) (by decide) (by decide) (by decide) (fun T v w C q => ?_)
  obtain rfl := q
  show Go p e below _ (State.setTop T (mkF m 4 #[.val (.ref u), .val (.ref b), .val (.int (Int32.ofNat k_)), .val (.int (1 : Int32))] [(.int (1 : Int32))]))
  refine g_iloadN w e24_4 (q := 5) rfl rfl ?_
  refine g_icN w e24_5 (q := 8) rfl (Jvm.Free.XT.ii_ne_f rfl) ?_
  refine g_aloadN w e24_8 (q := 9) rfl rfl rfl ?_
  refine g_getF w e24_9 (q := 12) rfl (host := "") (Or.inl (hw _ (List.mem_of_getElem? (i := 26) rfl))) Via.refl F_v (fun T w => ?_)
  refine g_iconst w e24_12 (q := 13) rfl (v := (0 : Int32)) (by decide) ?_
  refine g_aloadN w e24_13 (q := 14) rfl rfl rfl ?_
  refine g_iloadN w e24_14 (q := 15) rfl rfl ?_
  refine g_iloadN w e24_15 (q := 16) rfl rfl ?_
  refine g_ishl w e24_16 (q := 17) rfl ?_
  rw [shl1 _ (by omega)]
  show Go p e below _ (State.setTop T (mkF m 17 #[.val (.ref u), .val (.ref b), .val (.int (Int32.ofNat k_)), .val (.int (1 : Int32))] [(.int (Int32.ofNat (2 * k_))), (.ref b), (.int (0 : Int32)), (.ref t_)]))
  refine g_aloadN w e24_17 (q := 18) rfl rfl rfl ?_
  refine g_getF w e24_18 (q := 21) rfl (host := "") (Or.inl (hw _ (List.mem_of_getElem? (i := 26) rfl))) Via.refl F_v (fun T w => ?_)
  refine g_alen w e24_21 (q := 22) rfl A_t ?_
  show Go p e below _ (State.setTop T (mkF m 22 #[.val (.ref u), .val (.ref b), .val (.int (Int32.ofNat k_)), .val (.int (1 : Int32))] [(.int (Int32.ofNat ws.length)), (.int (Int32.ofNat (2 * k_))), (.ref b), (.int (0 : Int32)), (.ref t_)]))
  refine g_acopyB w (sp := 0) (dp := 2 * k_) (nn := ws.length) A_t A_b (by omega) (by omega) n_b (w.safeL (own_WL hw) A_b (by omega)) e24_22 (q := 25) rfl rfl (hw _ (List.mem_of_getElem? (i := 112) rfl)) (hw _ (List.mem_of_getElem? (i := 115) rfl)) (hw _ (List.mem_of_getElem? (i := 113) rfl)) (hw _ (List.mem_of_getElem? (i := 114) rfl)) (Wd := 0) (Nat.le_of_eq rfl) (by decide) (by decide) (fun T h w K V => ?_)
  rw [cp_in rfl] at V
  replace K0 := keep_same K0 K
  replace A_b := V
  show Go p e below _ (State.setTop T (mkF m 25 #[.val (.ref u), .val (.ref b), .val (.int (Int32.ofNat k_)), .val (.int (1 : Int32))] []))
  refine g_goto w e24_25 (by decide) (q := 43) (by decide) ?_
  exact g_return w e24_43 rfl (by decide) (by decide) ⟨rfl, K0, A_b⟩
set_option maxRecDepth 65536 in
set_option maxHeartbeats 40000000 in
theorem con_gbX (l : Launch) (Z : State) (a0 : Array Value) (hw : ∀ d ∈ tables_1, d.before a0 Z = true) (fm : Value) (u t_ b : Addr) (k_ : Nat) (ds : List Int32) (vs : List Value) (h0 : Heap) (O0 : Ext Z.heap h0) (X_u : Exa Z h0 u "java/lang/String") (F_c : Fld Z h0 u "java/lang/String" "coder" "B" (.int 0)) (F_v : Fld Z h0 u "java/lang/String" "value" "[B" (.ref t_)) (A_t : Ar Z h0 t_ .byte (bys ds)) (hl : ∀ c ∈ ds, Lt8 c) (A_b : Ar Z h0 b .byte vs) (hv : vs.length = 32) (n_b : Z.heap.size ≤ b) (hk : k_ + ds.length ≤ 16) (ne_t_b : t_ ≠ b) (hcm : Cpt Z) (SFm : Sta Z Z.heap "jdk/internal/util/Preconditions" "SIOOBE_FORMATTER" "Ljava/util/function/BiFunction;" fm) (rfm : fm.isRef = true) (SA_ : Sta Z Z.heap "java/lang/StringUTF16" "$assertionsDisabled" "Z" (.int 1)) (SH_ : Sta Z Z.heap "java/lang/StringUTF16" "HI_BYTE_SHIFT" "I" (.int 0)) (SL_ : Sta Z Z.heap "java/lang/StringUTF16" "LO_BYTE_SHIFT" "I" (.int 8)) :
    Con l Z consts_1 false (⟨"java/lang/String", "getBytes", "([BIB)V"⟩ : MethodName) jdk_42_method_147_code 4 none [] ({ frames := 5, cells := 0, slots := 0, locals := 76 } : Room) #[(.ref u), (.ref b), (.int (Int32.ofNat k_)), (.int (1 : Int32))] [] h0 (fun v h => v = none ∧ Keep h0 h [b] ∧ Ar Z h b .byte (pw vs k_ ds)) := by
  refine Con.intro (Ls := #[.val (.ref u), .val (.ref b), .val (.int (Int32.ofNat k_)), .val (.int (1 : Int32))]) (plainFor_of_name pn0) (own_EL hw) O0 (fun m => by first | (simp [entryFrame, mkF, argsToLocals, Value.category]; done) | rfl) (fun p e s m below meth cc_ T w sf_ => ?_)
  have K0 := Keep.refl h0 [b]
  obtain ⟨z_, hz_, SC_⟩ := id hcm
  refine g_aloadN w e24_0 (q := 1) rfl rfl rfl ?_
  refine g_virtualP w (con_coder l Z a0 hw u (0 : Int32) _ w.old F_c (by decide) hcm) no0 X_u e24_1 (q := 4) rfl rfl (hw _ (List.mem_of_getElem? (i := 83) rfl)) (hw _ (List.mem_of_getElem? (i := 84) rfl)) (hw _ (List.mem_of_getElem? (i := 86) rfl)) (hw _ (List.mem_of_getElem? (i := 85) rfl)) (hw _ (List.mem_of_getElem? (i := 8) rfl)) (hw _ (List.mem_of_getElem? (i := 87) rfl)) (by decide) (nf (hw _ (List.mem_of_getElem? (i := 86) rfl))) pd15 rfl rfl (W := 0) (Nat.le_of_eq rfl) (by decide) (by decide) (by decide) (by decide) (fun T v w C q => ?_)
  obtain rfl := q
  show Go p e below _ (State.setTop T (mkF m 4 #[.val (.ref u), .val (.ref b), .val (.int (Int32.ofNat k_)), .val (.int (1 : Int32))] [(.int (0 : Int32))]))
  refine g_iloadN w e24_4 (q := 5) rfl rfl ?_
  refine g_icY w e24_5 (by decide) (q := 28) (by decide) (by decide) ?_
  refine g_aloadN w e24_28 (q := 29) rfl rfl rfl ?_
  refine g_getF w e24_29 (q := 32) rfl (host := "") (Or.inl (hw _ (List.mem_of_getElem? (i := 26) rfl))) Via.refl F_v (fun T w => ?_)
  refine g_iconst w e24_32 (q := 33) rfl (v := (0 : Int32)) (by decide) ?_
  refine g_aloadN w e24_33 (q := 34) rfl rfl rfl ?_
  refine g_iloadN w e24_34 (q := 35) rfl rfl ?_
  refine g_aloadN w e24_35 (q := 36) rfl rfl rfl ?_
  refine g_getF w e24_36 (q := 39) rfl (host := "") (Or.inl (hw _ (List.mem_of_getElem? (i := 26) rfl))) Via.refl F_v (fun T w => ?_)
  refine g_alen w e24_39 (q := 40) rfl A_t ?_
  rw [List.length_map, List.length_map]
  show Go p e below _ (State.setTop T (mkF m 40 #[.val (.ref u), .val (.ref b), .val (.int (Int32.ofNat k_)), .val (.int (1 : Int32))] [(.int (Int32.ofNat ds.length)), (.int (Int32.ofNat k_)), (.ref b), (.int (0 : Int32)), (.ref t_)]))
  refine g_static w (con_lin l Z a0 hw fm t_ b k_ ds _ vs _ w.old A_t (fun i hi => lat_at hi) hl A_b hv hk (by simp) n_b ne_t_b SFm rfm SA_ SH_ SL_) no0 e24_40 (q := 43) rfl rfl (hw _ (List.mem_of_getElem? (i := 229) rfl)) (hw _ (List.mem_of_getElem? (i := 208) rfl)) (hw _ (List.mem_of_getElem? (i := 179) rfl)) (hw _ (List.mem_of_getElem? (i := 209) rfl)) (by decide) pd13 rfl rfl (W := 0) (Nat.le_of_eq rfl) (by decide) (by decide) (by decide) (by decide) (fun T h v w gs C q => ?_)
  obtain ⟨rfl, K, V⟩ := q
  replace K0 := keep_same K0 K
  replace A_b := V
  show Go p e below _ (State.setTop T (mkF m 43 #[.val (.ref u), .val (.ref b), .val (.int (Int32.ofNat k_)), .val (.int (1 : Int32))] []))
  exact g_return w e24_43 rfl (by decide) (by decide) ⟨rfl, K0, A_b⟩
theorem e25_0 : decode jdk_68_method_73_code 0 = .ok (.aload_n 0, 1) := by decide +kernel
theorem e25_1 : decode jdk_68_method_73_code 1 = .ok (.aload_n 2, 1) := by decide +kernel
theorem e25_2 : decode jdk_68_method_73_code 2 = .ok (.invokevirtual 397, 3) := by decide +kernel
theorem e25_5 : decode jdk_68_method_73_code 5 = .ok (.aload_n 2, 1) := by decide +kernel
theorem e25_6 : decode jdk_68_method_73_code 6 = .ok (.aload_n 0, 1) := by decide +kernel
theorem e25_7 : decode jdk_68_method_73_code 7 = .ok (.getfield 15, 3) := by decide +kernel
theorem e25_10 : decode jdk_68_method_73_code 10 = .ok (.iload_n 1, 1) := by decide +kernel
theorem e25_11 : decode jdk_68_method_73_code 11 = .ok (.aload_n 0, 1) := by decide +kernel
theorem e25_12 : decode jdk_68_method_73_code 12 = .ok (.getfield 22, 3) := by decide +kernel
theorem e25_15 : decode jdk_68_method_73_code 15 = .ok (.invokevirtual 399, 3) := by decide +kernel
theorem e25_18 : decode jdk_68_method_73_code 18 = .ok (.return_, 1) := by decide +kernel
theorem pd17 : parseMethodDescriptor "(Ljava/lang/String;)V" = some ⟨[(.object "java/lang/String")], none⟩ := by decide +kernel
theorem pd18 : parseMethodDescriptor "([BIB)V" = some ⟨[(.array .byte), .int, .byte], none⟩ := by decide +kernel
set_option maxRecDepth 65536 in
set_option maxHeartbeats 40000000 in
theorem con_ps (l : Launch) (Z : State) (a0 : Array Value) (hw : ∀ d ∈ tables_1, d.before a0 Z = true) (fm : Value) (x u b : Addr) (cs ds : List Int32) (h0 : Heap) (O0 : Ext Z.heap h0) (B_x : Bc Z h0 x b (Int32.ofNat cs.length) cs) (S_u : Su Z h0 u ds) (n_x : Z.heap.size ≤ x) (n_b : Z.heap.size ≤ b) (hk : cs.length + ds.length ≤ 16) (hcm : Cpt Z) (SFm : Sta Z Z.heap "jdk/internal/util/Preconditions" "SIOOBE_FORMATTER" "Ljava/util/function/BiFunction;" fm) (rfm : fm.isRef = true) (SA_ : Sta Z Z.heap "java/lang/StringUTF16" "$assertionsDisabled" "Z" (.int 1)) (SH_ : Sta Z Z.heap "java/lang/StringUTF16" "HI_BYTE_SHIFT" "I" (.int 0)) (SL_ : Sta Z Z.heap "java/lang/StringUTF16" "LO_BYTE_SHIFT" "I" (.int 8)) :
    Con l Z consts_1 false (⟨"java/lang/AbstractStringBuilder", "putStringAt", "(ILjava/lang/String;)V"⟩ : MethodName) jdk_68_method_73_code 3 none [] ({ frames := 7, cells := 1, slots := 32, locals := 102 } : Room) #[(.ref x), (.int (Int32.ofNat cs.length)), (.ref u)] [] h0 (fun v h => v = none ∧ Keep h0 h [x, b] ∧ ∃ b1, (b1 = b ∨ h0.size ≤ b1) ∧ Bc Z h x b1 (Int32.ofNat cs.length) (cs ++ ds)) := by
  refine Con.intro (Ls := #[.val (.ref x), .val (.int (Int32.ofNat cs.length)), .val (.ref u)]) (plainFor_of_name pn3) (own_EL hw) O0 (fun m => by first | (simp [entryFrame, mkF, argsToLocals, Value.category]; done) | rfl) (fun p e s m below meth cc_ T w sf_ => ?_)
  have K0 := Keep.refl h0 [x, b]
  obtain ⟨X_x, F_value_x, F_count_x, F_maybeLatin1_x, X_b, cd, vs, F_coder_x, A_b, hcod⟩ := B_x
  obtain ⟨hu4, hlu, X_u, t_, kb, cu, N2, ws, F_v, F_c, K_t, hcu⟩ := id S_u
  have ne_u_x := Exa.ne X_u X_x (by decide)
  rcases hcod with ⟨ecd, hcs, hL, us_, hvs⟩ | ⟨ecd, hcs, hL, us_, hvs⟩ <;> rcases hcu with ⟨ecu, eN2, ews, hbu⟩ | ⟨ecu, eN2, ews, hbu⟩
  · subst ecd ecu
    subst eN2 ews
    have hdl : ∀ c ∈ ds, Lt8 c := fun c q => ⟨(hlu c q).1, hbu c q⟩
    have A_t : Ar Z h0 t_ .byte ((ds.map fun c => c.toInt8.toInt32).map Value.int) := ⟨by simp; omega, kb, .int 0, by simp only [List.length_map, List.map_map]; exact K_t⟩
    have ne_x_b := ne_xar X_x A_b (hw _ (List.mem_of_getElem? (i := 50) rfl))
    refine g_aloadN w e25_0 (q := 1) rfl rfl rfl ?_
    refine g_aloadN w e25_1 (q := 2) rfl rfl rfl ?_
    refine g_privP w (con_inS l Z a0 hw x u 0 _ w.old F_coder_x X_u F_c (by decide) hcm) no0 X_x e25_2 (q := 5) rfl rfl (hw _ (List.mem_of_getElem? (i := 101) rfl)) (hw _ (List.mem_of_getElem? (i := 103) rfl)) (selOwn (hw _ (List.mem_of_getElem? (i := 102) rfl)) (hw _ (List.mem_of_getElem? (i := 104) rfl)) (hw _ (List.mem_of_getElem? (i := 103) rfl)) (by decide)) (hw _ (List.mem_of_getElem? (i := 102) rfl)) (hw _ (List.mem_of_getElem? (i := 59) rfl)) (hw _ (List.mem_of_getElem? (i := 105) rfl)) (by decide) pd17 rfl rfl (W := 0) (Nat.le_of_eq rfl) (by decide) (by decide) (by decide) (by decide) (fun T v w C q => ?_)
    obtain rfl := q
    show Go p e below _ (State.setTop T (mkF m 5 #[.val (.ref x), .val (.int (Int32.ofNat cs.length)), .val (.ref u)] []))
    refine g_aloadN w e25_5 (q := 6) rfl rfl rfl ?_
    refine g_aloadN w e25_6 (q := 7) rfl rfl rfl ?_
    refine g_getF w e25_7 (q := 10) rfl (host := "") (Or.inl (hw _ (List.mem_of_getElem? (i := 63) rfl))) Via.refl F_value_x (fun T w => ?_)
    refine g_iloadN w e25_10 (q := 11) rfl rfl ?_
    refine g_aloadN w e25_11 (q := 12) rfl rfl rfl ?_
    refine g_getF w e25_12 (q := 15) rfl (host := "") (Or.inl (hw _ (List.mem_of_getElem? (i := 65) rfl))) Via.refl F_coder_x (fun T w => ?_)
    refine g_virtual w (con_gb0 l Z a0 hw u t_ b cs.length _ vs _ w.old X_u F_c F_v A_t A_b n_b (by omega) hcm (by rw [bys_len]; omega) (by omega)) no0 X_u e25_15 (q := 18) rfl rfl (hw _ (List.mem_of_getElem? (i := 107) rfl)) (hw _ (List.mem_of_getElem? (i := 108) rfl)) (hw _ (List.mem_of_getElem? (i := 110) rfl)) (hw _ (List.mem_of_getElem? (i := 109) rfl)) (hw _ (List.mem_of_getElem? (i := 8) rfl)) (hw _ (List.mem_of_getElem? (i := 111) rfl)) (by decide) (nf (hw _ (List.mem_of_getElem? (i := 110) rfl))) pd18 rfl rfl (W := 0) (Nat.le_of_eq rfl) (by decide) (by decide) (by decide) (by decide) (fun T h v w gs C q => ?_)
    obtain ⟨rfl, K, V⟩ := q
    replace K0 := K0.trans K (in1 (Or.inl m2))
    replace X_x := X_x.keep K
    replace X_b := X_b.keep K
    replace F_value_x := F_value_x.keep K (not1 ne_x_b)
    replace F_coder_x := F_coder_x.keep K (not1 ne_x_b)
    replace F_count_x := F_count_x.keep K (not1 ne_x_b)
    replace F_maybeLatin1_x := F_maybeLatin1_x.keep K (not1 ne_x_b)
    replace A_b := V
    show Go p e below _ (State.setTop T (mkF m 18 #[.val (.ref x), .val (.int (Int32.ofNat cs.length)), .val (.ref u)] []))
    exact g_return w e25_18 rfl (by decide) (by decide) ⟨rfl, K0, b, Or.inl rfl, X_x, F_value_x, F_count_x, F_maybeLatin1_x, X_b, 0, _, F_coder_x, A_b, cod_ll hcs hdl hL hvs hk⟩
  · subst ecd ecu
    subst eN2 ews
    have A_t : Ar Z h0 t_ .byte (StrChars.Road.wideBytes ds) := ⟨by rw [wide_len]; omega, kb, .int 0, by rw [wide_len]; exact K_t⟩
    have ne_t__x := (ne_xar X_x A_t (hw _ (List.mem_of_getElem? (i := 50) rfl))).symm
    have ne_x_b := ne_xar X_x A_b (hw _ (List.mem_of_getElem? (i := 50) rfl))
    have hl := hcs
    refine g_aloadN w e25_0 (q := 1) rfl rfl rfl ?_
    refine g_aloadN w e25_1 (q := 2) rfl rfl rfl ?_
    refine g_priv w (con_inLW l Z a0 hw fm x u b cs vs us_ _ w.old X_x F_value_x F_coder_x F_count_x F_maybeLatin1_x X_u F_c A_b hL hvs hl (by omega) n_x hcm SFm rfm SA_ SH_ SL_) no0 X_x e25_2 (q := 5) rfl rfl (hw _ (List.mem_of_getElem? (i := 101) rfl)) (hw _ (List.mem_of_getElem? (i := 103) rfl)) (selOwn (hw _ (List.mem_of_getElem? (i := 102) rfl)) (hw _ (List.mem_of_getElem? (i := 104) rfl)) (hw _ (List.mem_of_getElem? (i := 103) rfl)) (by decide)) (hw _ (List.mem_of_getElem? (i := 102) rfl)) (hw _ (List.mem_of_getElem? (i := 59) rfl)) (hw _ (List.mem_of_getElem? (i := 105) rfl)) (by decide) pd17 rfl rfl (W := 0) (Nat.le_of_eq rfl) (by decide) (by decide) (by decide) (by decide) (fun T h v w gs C q => ?_)
    obtain ⟨rfl, K, t, g_t, G1, G2, G3, G4, G5, X_w, hL32, A_w⟩ := q
    have z_t := Nat.le_trans K0.1 g_t
    replace K0 := K0.trans K (in1 (Or.inl m1))
    replace X_u := X_u.keep K
    replace F_c := F_c.keep K (not1 ne_u_x)
    replace F_v := F_v.keep K (not1 ne_u_x)
    replace A_t := A_t.keep K (not1 ne_t__x)
    replace X_x := G1
    replace F_value_x := G2
    replace F_coder_x := G3
    replace F_count_x := G4
    replace F_maybeLatin1_x := G5
    have ne_x_t := ne_xar X_x A_w (hw _ (List.mem_of_getElem? (i := 50) rfl))
    have n_t : Z.heap.size ≤ t := Nat.le_trans O0.1 z_t
    show Go p e below _ (State.setTop T (mkF m 5 #[.val (.ref x), .val (.int (Int32.ofNat cs.length)), .val (.ref u)] []))
    refine g_aloadN w e25_5 (q := 6) rfl rfl rfl ?_
    refine g_aloadN w e25_6 (q := 7) rfl rfl rfl ?_
    refine g_getF w e25_7 (q := 10) rfl (host := "") (Or.inl (hw _ (List.mem_of_getElem? (i := 63) rfl))) Via.refl F_value_x (fun T w => ?_)
    refine g_iloadN w e25_10 (q := 11) rfl rfl ?_
    refine g_aloadN w e25_11 (q := 12) rfl rfl rfl ?_
    refine g_getF w e25_12 (q := 15) rfl (host := "") (Or.inl (hw _ (List.mem_of_getElem? (i := 65) rfl))) Via.refl F_coder_x (fun T w => ?_)
    refine g_virtual w (con_gb1 l Z a0 hw u t_ t cs.length _ _ _ w.old X_u F_c F_v A_t A_w n_t (by rw [hL32]; decide) hcm (by rw [hL32, wide_len, List.length_replicate]; omega) (by omega)) no0 X_u e25_15 (q := 18) rfl rfl (hw _ (List.mem_of_getElem? (i := 107) rfl)) (hw _ (List.mem_of_getElem? (i := 108) rfl)) (hw _ (List.mem_of_getElem? (i := 110) rfl)) (hw _ (List.mem_of_getElem? (i := 109) rfl)) (hw _ (List.mem_of_getElem? (i := 8) rfl)) (hw _ (List.mem_of_getElem? (i := 111) rfl)) (by decide) (nf (hw _ (List.mem_of_getElem? (i := 110) rfl))) pd18 rfl rfl (W := 0) (Nat.le_of_eq rfl) (by decide) (by decide) (by decide) (by decide) (fun T h v w gs C q => ?_)
    obtain ⟨rfl, K, V⟩ := q
    replace K0 := K0.trans K (in1 (Or.inr z_t))
    replace X_x := X_x.keep K
    replace X_w := X_w.keep K
    replace F_value_x := F_value_x.keep K (not1 ne_x_t)
    replace F_coder_x := F_coder_x.keep K (not1 ne_x_t)
    replace F_count_x := F_count_x.keep K (not1 ne_x_t)
    replace F_maybeLatin1_x := F_maybeLatin1_x.keep K (not1 ne_x_t)
    replace A_w := V
    show Go p e below _ (State.setTop T (mkF m 18 #[.val (.ref x), .val (.int (Int32.ofNat cs.length)), .val (.ref u)] []))
    exact g_return w e25_18 rfl (by decide) (by decide) ⟨rfl, K0, t, Or.inr z_t, X_x, F_value_x, F_count_x, F_maybeLatin1_x, X_w, 1, _, F_coder_x, A_w, cod_ww (big_r hbu) (by rw [hL32]; rfl) (us := (List.replicate (2 * 16) (Value.int 0)).drop (2 * 0 + (StrChars.Road.wideBytes cs).length)) rfl hk⟩
  · subst ecd ecu
    subst eN2 ews
    have hdl : ∀ c ∈ ds, Lt8 c := fun c q => ⟨(hlu c q).1, hbu c q⟩
    have A_t : Ar Z h0 t_ .byte ((ds.map fun c => c.toInt8.toInt32).map Value.int) := ⟨by simp; omega, kb, .int 0, by simp only [List.length_map, List.map_map]; exact K_t⟩
    have ne_x_b := ne_xar X_x A_b (hw _ (List.mem_of_getElem? (i := 50) rfl))
    refine g_aloadN w e25_0 (q := 1) rfl rfl rfl ?_
    refine g_aloadN w e25_1 (q := 2) rfl rfl rfl ?_
    refine g_privP w (con_inWL l Z a0 hw x u _ w.old F_coder_x X_x X_u F_c hcm) no0 X_x e25_2 (q := 5) rfl rfl (hw _ (List.mem_of_getElem? (i := 101) rfl)) (hw _ (List.mem_of_getElem? (i := 103) rfl)) (selOwn (hw _ (List.mem_of_getElem? (i := 102) rfl)) (hw _ (List.mem_of_getElem? (i := 104) rfl)) (hw _ (List.mem_of_getElem? (i := 103) rfl)) (by decide)) (hw _ (List.mem_of_getElem? (i := 102) rfl)) (hw _ (List.mem_of_getElem? (i := 59) rfl)) (hw _ (List.mem_of_getElem? (i := 105) rfl)) (by decide) pd17 rfl rfl (W := 0) (Nat.le_of_eq rfl) (by decide) (by decide) (by decide) (by decide) (fun T v w C q => ?_)
    obtain rfl := q
    show Go p e below _ (State.setTop T (mkF m 5 #[.val (.ref x), .val (.int (Int32.ofNat cs.length)), .val (.ref u)] []))
    refine g_aloadN w e25_5 (q := 6) rfl rfl rfl ?_
    refine g_aloadN w e25_6 (q := 7) rfl rfl rfl ?_
    refine g_getF w e25_7 (q := 10) rfl (host := "") (Or.inl (hw _ (List.mem_of_getElem? (i := 63) rfl))) Via.refl F_value_x (fun T w => ?_)
    refine g_iloadN w e25_10 (q := 11) rfl rfl ?_
    refine g_aloadN w e25_11 (q := 12) rfl rfl rfl ?_
    refine g_getF w e25_12 (q := 15) rfl (host := "") (Or.inl (hw _ (List.mem_of_getElem? (i := 65) rfl))) Via.refl F_coder_x (fun T w => ?_)
    refine g_virtual w (con_gbX l Z a0 hw fm u t_ b cs.length ds vs _ w.old X_u F_c F_v A_t hdl A_b hL n_b hk (ne_len A_t A_b (by rw [bys_len]; omega)) hcm SFm rfm SA_ SH_ SL_) no0 X_u e25_15 (q := 18) rfl rfl (hw _ (List.mem_of_getElem? (i := 107) rfl)) (hw _ (List.mem_of_getElem? (i := 108) rfl)) (hw _ (List.mem_of_getElem? (i := 110) rfl)) (hw _ (List.mem_of_getElem? (i := 109) rfl)) (hw _ (List.mem_of_getElem? (i := 8) rfl)) (hw _ (List.mem_of_getElem? (i := 111) rfl)) (by decide) (nf (hw _ (List.mem_of_getElem? (i := 110) rfl))) pd18 rfl rfl (W := 0) (Nat.le_of_eq rfl) (by decide) (by decide) (by decide) (by decide) (fun T h v w gs C q => ?_)
    obtain ⟨rfl, K, V⟩ := q
    replace K0 := K0.trans K (in1 (Or.inl m2))
    replace X_x := X_x.keep K
    replace X_b := X_b.keep K
    replace F_value_x := F_value_x.keep K (not1 ne_x_b)
    replace F_coder_x := F_coder_x.keep K (not1 ne_x_b)
    replace F_count_x := F_count_x.keep K (not1 ne_x_b)
    replace F_maybeLatin1_x := F_maybeLatin1_x.keep K (not1 ne_x_b)
    replace A_b := V
    show Go p e below _ (State.setTop T (mkF m 18 #[.val (.ref x), .val (.int (Int32.ofNat cs.length)), .val (.ref u)] []))
    exact g_return w e25_18 rfl (by decide) (by decide) ⟨rfl, K0, b, Or.inl rfl, X_x, F_value_x, F_count_x, F_maybeLatin1_x, X_b, 1, _, F_coder_x, A_b, cod_ww (big_l hcs) hL hvs hk⟩
  · subst ecd ecu
    subst eN2 ews
    have A_t : Ar Z h0 t_ .byte (StrChars.Road.wideBytes ds) := ⟨by rw [wide_len]; omega, kb, .int 0, by rw [wide_len]; exact K_t⟩
    have ne_t__x := (ne_xar X_x A_t (hw _ (List.mem_of_getElem? (i := 50) rfl))).symm
    have ne_x_b := ne_xar X_x A_b (hw _ (List.mem_of_getElem? (i := 50) rfl))
    refine g_aloadN w e25_0 (q := 1) rfl rfl rfl ?_
    refine g_aloadN w e25_1 (q := 2) rfl rfl rfl ?_
    refine g_privP w (con_inS l Z a0 hw x u 1 _ w.old F_coder_x X_u F_c (by decide) hcm) no0 X_x e25_2 (q := 5) rfl rfl (hw _ (List.mem_of_getElem? (i := 101) rfl)) (hw _ (List.mem_of_getElem? (i := 103) rfl)) (selOwn (hw _ (List.mem_of_getElem? (i := 102) rfl)) (hw _ (List.mem_of_getElem? (i := 104) rfl)) (hw _ (List.mem_of_getElem? (i := 103) rfl)) (by decide)) (hw _ (List.mem_of_getElem? (i := 102) rfl)) (hw _ (List.mem_of_getElem? (i := 59) rfl)) (hw _ (List.mem_of_getElem? (i := 105) rfl)) (by decide) pd17 rfl rfl (W := 0) (Nat.le_of_eq rfl) (by decide) (by decide) (by decide) (by decide) (fun T v w C q => ?_)
    obtain rfl := q
    show Go p e below _ (State.setTop T (mkF m 5 #[.val (.ref x), .val (.int (Int32.ofNat cs.length)), .val (.ref u)] []))
    refine g_aloadN w e25_5 (q := 6) rfl rfl rfl ?_
    refine g_aloadN w e25_6 (q := 7) rfl rfl rfl ?_
    refine g_getF w e25_7 (q := 10) rfl (host := "") (Or.inl (hw _ (List.mem_of_getElem? (i := 63) rfl))) Via.refl F_value_x (fun T w => ?_)
    refine g_iloadN w e25_10 (q := 11) rfl rfl ?_
    refine g_aloadN w e25_11 (q := 12) rfl rfl rfl ?_
    refine g_getF w e25_12 (q := 15) rfl (host := "") (Or.inl (hw _ (List.mem_of_getElem? (i := 65) rfl))) Via.refl F_coder_x (fun T w => ?_)
    refine g_virtual w (con_gb1 l Z a0 hw u t_ b cs.length _ vs _ w.old X_u F_c F_v A_t A_b n_b (by omega) hcm (by rw [wide_len]; omega) (by omega)) no0 X_u e25_15 (q := 18) rfl rfl (hw _ (List.mem_of_getElem? (i := 107) rfl)) (hw _ (List.mem_of_getElem? (i := 108) rfl)) (hw _ (List.mem_of_getElem? (i := 110) rfl)) (hw _ (List.mem_of_getElem? (i := 109) rfl)) (hw _ (List.mem_of_getElem? (i := 8) rfl)) (hw _ (List.mem_of_getElem? (i := 111) rfl)) (by decide) (nf (hw _ (List.mem_of_getElem? (i := 110) rfl))) pd18 rfl rfl (W := 0) (Nat.le_of_eq rfl) (by decide) (by decide) (by decide) (by decide) (fun T h v w gs C q => ?_)
    obtain ⟨rfl, K, V⟩ := q
    replace K0 := K0.trans K (in1 (Or.inl m2))
    replace X_x := X_x.keep K
    replace X_b := X_b.keep K
    replace F_value_x := F_value_x.keep K (not1 ne_x_b)
    replace F_coder_x := F_coder_x.keep K (not1 ne_x_b)
    replace F_count_x := F_count_x.keep K (not1 ne_x_b)
    replace F_maybeLatin1_x := F_maybeLatin1_x.keep K (not1 ne_x_b)
    replace A_b := V
    show Go p e below _ (State.setTop T (mkF m 18 #[.val (.ref x), .val (.int (Int32.ofNat cs.length)), .val (.ref u)] []))
    exact g_return w e25_18 rfl (by decide) (by decide) ⟨rfl, K0, b, Or.inl rfl, X_x, F_value_x, F_count_x, F_maybeLatin1_x, X_b, 1, _, F_coder_x, A_b, cod_ww (big_l hcs) hL hvs hk⟩
theorem e26_0 : decode jdk_68_method_9_code 0 = .ok (.aload_n 0, 1) := by decide +kernel
theorem e26_1 : decode jdk_68_method_9_code 1 = .ok (.getfield 15, 3) := by decide +kernel
theorem e26_4 : decode jdk_68_method_9_code 4 = .ok (.arraylength, 1) := by decide +kernel
theorem e26_5 : decode jdk_68_method_9_code 5 = .ok (.aload_n 0, 1) := by decide +kernel
theorem e26_6 : decode jdk_68_method_9_code 6 = .ok (.getfield 22, 3) := by decide +kernel
theorem e26_9 : decode jdk_68_method_9_code 9 = .ok (.ishr, 1) := by decide +kernel
theorem e26_10 : decode jdk_68_method_9_code 10 = .ok (.istore_n 2, 1) := by decide +kernel
theorem e26_11 : decode jdk_68_method_9_code 11 = .ok (.iload_n 1, 1) := by decide +kernel
theorem e26_12 : decode jdk_68_method_9_code 12 = .ok (.iload_n 2, 1) := by decide +kernel
theorem e26_13 : decode jdk_68_method_9_code 13 = .ok (.isub, 1) := by decide +kernel
theorem e26_14 : decode jdk_68_method_9_code 14 = .ok (.ifCond .le 24, 3) := by decide +kernel
theorem e26_17 : decode jdk_68_method_9_code 17 = .ok (.aload_n 0, 1) := by decide +kernel
theorem e26_18 : decode jdk_68_method_9_code 18 = .ok (.aload_n 0, 1) := by decide +kernel
theorem e26_19 : decode jdk_68_method_9_code 19 = .ok (.getfield 15, 3) := by decide +kernel
theorem e26_22 : decode jdk_68_method_9_code 22 = .ok (.aload_n 0, 1) := by decide +kernel
theorem e26_23 : decode jdk_68_method_9_code 23 = .ok (.iload_n 1, 1) := by decide +kernel
theorem e26_24 : decode jdk_68_method_9_code 24 = .ok (.invokevirtual 104, 3) := by decide +kernel
theorem e26_27 : decode jdk_68_method_9_code 27 = .ok (.aload_n 0, 1) := by decide +kernel
theorem e26_28 : decode jdk_68_method_9_code 28 = .ok (.getfield 22, 3) := by decide +kernel
theorem e26_31 : decode jdk_68_method_9_code 31 = .ok (.ishl, 1) := by decide +kernel
theorem e26_32 : decode jdk_68_method_9_code 32 = .ok (.invokestatic 108, 3) := by decide +kernel
theorem e26_35 : decode jdk_68_method_9_code 35 = .ok (.putfield 15, 3) := by decide +kernel
theorem e26_38 : decode jdk_68_method_9_code 38 = .ok (.return_, 1) := by decide +kernel
set_option maxRecDepth 65536 in
set_option maxHeartbeats 40000000 in
theorem con_ec (l : Launch) (Z : State) (a0 : Array Value) (hw : ∀ d ∈ tables_1, d.before a0 Z = true) (x b : Addr) (m_ : Nat) (ct : Int32) (cs : List Int32) (h0 : Heap) (O0 : Ext Z.heap h0) (B_x : Bc Z h0 x b ct cs) (hm : m_ ≤ 16) :
    Con l Z consts_1 false (⟨"java/lang/AbstractStringBuilder", "ensureCapacityInternal", "(I)V"⟩ : MethodName) jdk_68_method_9_code 3 none [] ({ frames := 0, cells := 0, slots := 0, locals := 0 } : Room) #[(.ref x), (.int (Int32.ofNat m_))] [] h0 (fun v h => v = none ∧ h = h0) := by
  refine Con.intro (Ls := #[.val (.ref x), .val (.int (Int32.ofNat m_)), .unset]) (plainFor_of_name pn3) (own_EL hw) O0 (fun m => by first | (simp [entryFrame, mkF, argsToLocals, Value.category]; done) | rfl) (fun p e s m below meth cc_ T w sf_ => ?_)
  have E0 := ext_refl h0
  obtain ⟨X_x, F_value_x, F_count_x, F_maybeLatin1_x, X_b, cd, vs, F_coder_x, A_b, hcod⟩ := B_x
  rcases hcod with ⟨ecd, hcs, hL, us_, hvs⟩ | ⟨ecd, hcs, hL, us_, hvs⟩
  · subst ecd
    refine g_aloadN w e26_0 (q := 1) rfl rfl rfl ?_
    refine g_getF w e26_1 (q := 4) rfl (host := "") (Or.inl (hw _ (List.mem_of_getElem? (i := 63) rfl))) Via.refl F_value_x (fun T w => ?_)
    refine g_alen w e26_4 (q := 5) rfl A_b ?_
    rw [hL]
    show Go p e below _ (State.setTop T (mkF m 5 #[.val (.ref x), .val (.int (Int32.ofNat m_)), .unset] [(.int (16 : Int32))]))
    refine g_aloadN w e26_5 (q := 6) rfl rfl rfl ?_
    refine g_getF w e26_6 (q := 9) rfl (host := "") (Or.inl (hw _ (List.mem_of_getElem? (i := 65) rfl))) Via.refl F_coder_x (fun T w => ?_)
    refine g_ishr w e26_9 (q := 10) rfl ?_
    rw [shr0]
    show Go p e below _ (State.setTop T (mkF m 10 #[.val (.ref x), .val (.int (Int32.ofNat m_)), .unset] [(.int (16 : Int32))]))
    refine g_istoreN w e26_10 (q := 11) rfl (Ls' := #[.val (.ref x), .val (.int (Int32.ofNat m_)), .val (.int (16 : Int32))]) rfl ?_
    refine g_iloadN w e26_11 (q := 12) rfl rfl ?_
    refine g_iloadN w e26_12 (q := 13) rfl rfl ?_
    refine g_isub w e26_13 (q := 14) rfl ?_
    refine g_ifY w e26_14 (by decide) (q := 38) (by decide) (Jvm.Free.XT.i0_le_t (sub_npos (L := 16) hm (by decide))) ?_
    exact g_return w e26_38 rfl (by decide) (by decide) ⟨rfl, rfl⟩
  · subst ecd
    refine g_aloadN w e26_0 (q := 1) rfl rfl rfl ?_
    refine g_getF w e26_1 (q := 4) rfl (host := "") (Or.inl (hw _ (List.mem_of_getElem? (i := 63) rfl))) Via.refl F_value_x (fun T w => ?_)
    refine g_alen w e26_4 (q := 5) rfl A_b ?_
    rw [hL]
    show Go p e below _ (State.setTop T (mkF m 5 #[.val (.ref x), .val (.int (Int32.ofNat m_)), .unset] [(.int (32 : Int32))]))
    refine g_aloadN w e26_5 (q := 6) rfl rfl rfl ?_
    refine g_getF w e26_6 (q := 9) rfl (host := "") (Or.inl (hw _ (List.mem_of_getElem? (i := 65) rfl))) Via.refl F_coder_x (fun T w => ?_)
    refine g_ishr w e26_9 (q := 10) rfl ?_
    rw [shr32]
    show Go p e below _ (State.setTop T (mkF m 10 #[.val (.ref x), .val (.int (Int32.ofNat m_)), .unset] [(.int (16 : Int32))]))
    refine g_istoreN w e26_10 (q := 11) rfl (Ls' := #[.val (.ref x), .val (.int (Int32.ofNat m_)), .val (.int (16 : Int32))]) rfl ?_
    refine g_iloadN w e26_11 (q := 12) rfl rfl ?_
    refine g_iloadN w e26_12 (q := 13) rfl rfl ?_
    refine g_isub w e26_13 (q := 14) rfl ?_
    refine g_ifY w e26_14 (by decide) (q := 38) (by decide) (Jvm.Free.XT.i0_le_t (sub_npos (L := 16) hm (by decide))) ?_
    exact g_return w e26_38 rfl (by decide) (by decide) ⟨rfl, rfl⟩
theorem e27_0 : decode jdk_68_method_22_code 0 = .ok (.aload_n 1, 1) := by decide +kernel
theorem e27_1 : decode jdk_68_method_22_code 1 = .ok (.ifnonnull 8, 3) := by decide +kernel
theorem e27_4 : decode jdk_68_method_22_code 4 = .ok (.aload_n 0, 1) := by decide +kernel
theorem e27_5 : decode jdk_68_method_22_code 5 = .ok (.invokevirtual 204, 3) := by decide +kernel
theorem e27_8 : decode jdk_68_method_22_code 8 = .ok (.areturn, 1) := by decide +kernel
theorem e27_9 : decode jdk_68_method_22_code 9 = .ok (.aload_n 1, 1) := by decide +kernel
theorem e27_10 : decode jdk_68_method_22_code 10 = .ok (.invokevirtual 32, 3) := by decide +kernel
theorem e27_13 : decode jdk_68_method_22_code 13 = .ok (.istore_n 2, 1) := by decide +kernel
theorem e27_14 : decode jdk_68_method_22_code 14 = .ok (.aload_n 0, 1) := by decide +kernel
theorem e27_15 : decode jdk_68_method_22_code 15 = .ok (.aload_n 0, 1) := by decide +kernel
theorem e27_16 : decode jdk_68_method_22_code 16 = .ok (.getfield 79, 3) := by decide +kernel
theorem e27_19 : decode jdk_68_method_22_code 19 = .ok (.iload_n 2, 1) := by decide +kernel
theorem e27_20 : decode jdk_68_method_22_code 20 = .ok (.iadd, 1) := by decide +kernel
theorem e27_21 : decode jdk_68_method_22_code 21 = .ok (.invokevirtual 100, 3) := by decide +kernel
theorem e27_24 : decode jdk_68_method_22_code 24 = .ok (.aload_n 0, 1) := by decide +kernel
theorem e27_25 : decode jdk_68_method_22_code 25 = .ok (.aload_n 0, 1) := by decide +kernel
theorem e27_26 : decode jdk_68_method_22_code 26 = .ok (.getfield 79, 3) := by decide +kernel
theorem e27_29 : decode jdk_68_method_22_code 29 = .ok (.aload_n 1, 1) := by decide +kernel
theorem e27_30 : decode jdk_68_method_22_code 30 = .ok (.invokevirtual 208, 3) := by decide +kernel
theorem e27_33 : decode jdk_68_method_22_code 33 = .ok (.aload_n 0, 1) := by decide +kernel
theorem e27_34 : decode jdk_68_method_22_code 34 = .ok (.dup, 1) := by decide +kernel
theorem e27_35 : decode jdk_68_method_22_code 35 = .ok (.getfield 79, 3) := by decide +kernel
theorem e27_38 : decode jdk_68_method_22_code 38 = .ok (.iload_n 2, 1) := by decide +kernel
theorem e27_39 : decode jdk_68_method_22_code 39 = .ok (.iadd, 1) := by decide +kernel
theorem e27_40 : decode jdk_68_method_22_code 40 = .ok (.putfield 79, 3) := by decide +kernel
theorem e27_43 : decode jdk_68_method_22_code 43 = .ok (.aload_n 0, 1) := by decide +kernel
theorem e27_44 : decode jdk_68_method_22_code 44 = .ok (.areturn, 1) := by decide +kernel
theorem pd19 : parseMethodDescriptor "()I" = some ⟨[], some .int⟩ := by decide +kernel
theorem pd20 : parseMethodDescriptor "(ILjava/lang/String;)V" = some ⟨[.int, (.object "java/lang/String")], none⟩ := by decide +kernel
set_option maxRecDepth 65536 in
set_option maxHeartbeats 40000000 in
theorem con_as (l : Launch) (Z : State) (a0 : Array Value) (hw : ∀ d ∈ tables_1, d.before a0 Z = true) (fm : Value) (x u b : Addr) (cs ds : List Int32) (h0 : Heap) (O0 : Ext Z.heap h0) (B_x : Bc Z h0 x b (Int32.ofNat cs.length) cs) (S_u : Su Z h0 u ds) (n_x : Z.heap.size ≤ x) (n_b : Z.heap.size ≤ b) (hk : cs.length + ds.length ≤ 16) (hcm : Cpt Z) (SFm : Sta Z Z.heap "jdk/internal/util/Preconditions" "SIOOBE_FORMATTER" "Ljava/util/function/BiFunction;" fm) (rfm : fm.isRef = true) (SA_ : Sta Z Z.heap "java/lang/StringUTF16" "$assertionsDisabled" "Z" (.int 1)) (SH_ : Sta Z Z.heap "java/lang/StringUTF16" "HI_BYTE_SHIFT" "I" (.int 0)) (SL_ : Sta Z Z.heap "java/lang/StringUTF16" "LO_BYTE_SHIFT" "I" (.int 8)) :
    Con l Z consts_1 false (⟨"java/lang/AbstractStringBuilder", "append", "(Ljava/lang/String;)Ljava/lang/AbstractStringBuilder;"⟩ : MethodName) jdk_68_method_22_code 3 (some (.object "java/lang/AbstractStringBuilder")) [] ({ frames := 8, cells := 1, slots := 32, locals := 116 } : Room) #[(.ref x), (.ref u)] [] h0 (fun v h => v = some (.ref x) ∧ Keep h0 h [x, b] ∧ ∃ b1, (b1 = b ∨ h0.size ≤ b1) ∧ Bc Z h x b1 (Int32.ofNat (cs ++ ds).length) (cs ++ ds)) := by
  refine Con.intro (Ls := #[.val (.ref x), .val (.ref u), .unset]) (plainFor_of_name pn3) (own_EL hw) O0 (fun m => by first | (simp [entryFrame, mkF, argsToLocals, Value.category]; done) | rfl) (fun p e s m below meth cc_ T w sf_ => ?_)
  have K0 := Keep.refl h0 [x, b]
  obtain ⟨z_, hz_, SC_⟩ := id hcm
  refine g_aloadN w e27_0 (q := 1) rfl rfl rfl ?_
  refine g_nonnullY w e27_1 (by decide) (q := 9) (by decide) ?_
  refine g_aloadN w e27_9 (q := 10) rfl rfl rfl ?_
  refine g_virtualB w (a := u) (argsL := []) (own_lenU hw S_u (w.sta SC_) hz_ (by decide) (by decide)) S_u.exa e27_10 (q := 13) rfl rfl (hw _ (List.mem_of_getElem? (i := 78) rfl)) (hw _ (List.mem_of_getElem? (i := 79) rfl)) (hw _ (List.mem_of_getElem? (i := 81) rfl)) (hw _ (List.mem_of_getElem? (i := 80) rfl)) (by decide) (nf (hw _ (List.mem_of_getElem? (i := 81) rfl))) pd19 rfl rfl (W := 0) (Nat.le_of_eq rfl) (by decide) (by decide) (fun T v w hq => ?_)
  obtain rfl := hq
  show Go p e below _ (State.setTop T (mkF m 13 #[.val (.ref x), .val (.ref u), .unset] [(.int (Int32.ofNat ds.length))]))
  refine g_istoreN w e27_13 (q := 14) rfl (Ls' := #[.val (.ref x), .val (.ref u), .val (.int (Int32.ofNat ds.length))]) rfl ?_
  refine g_aloadN w e27_14 (q := 15) rfl rfl rfl ?_
  refine g_aloadN w e27_15 (q := 16) rfl rfl rfl ?_
  refine g_getF w e27_16 (q := 19) rfl (host := "") (Or.inl (hw _ (List.mem_of_getElem? (i := 89) rfl))) Via.refl B_x.2.2.1 (fun T w => ?_)
  refine g_iloadN w e27_19 (q := 20) rfl rfl ?_
  refine g_iadd w e27_20 (q := 21) rfl ?_
  rw [oN_add]
  show Go p e below _ (State.setTop T (mkF m 21 #[.val (.ref x), .val (.ref u), .val (.int (Int32.ofNat ds.length))] [(.int (Int32.ofNat (cs.length + ds.length))), (.ref x)]))
  refine g_privP w (con_ec l Z a0 hw x b _ _ cs _ w.old B_x hk) no0 B_x.exa e27_21 (q := 24) rfl rfl (hw _ (List.mem_of_getElem? (i := 91) rfl)) (hw _ (List.mem_of_getElem? (i := 93) rfl)) (selOwn (hw _ (List.mem_of_getElem? (i := 92) rfl)) (hw _ (List.mem_of_getElem? (i := 94) rfl)) (hw _ (List.mem_of_getElem? (i := 93) rfl)) (by decide)) (hw _ (List.mem_of_getElem? (i := 92) rfl)) (hw _ (List.mem_of_getElem? (i := 59) rfl)) (hw _ (List.mem_of_getElem? (i := 95) rfl)) (by decide) pd8 rfl rfl (W := 0) (Nat.le_of_eq rfl) (by decide) (by decide) (by decide) (by decide) (fun T v w C q => ?_)
  obtain rfl := q
  show Go p e below _ (State.setTop T (mkF m 24 #[.val (.ref x), .val (.ref u), .val (.int (Int32.ofNat ds.length))] []))
  refine g_aloadN w e27_24 (q := 25) rfl rfl rfl ?_
  refine g_aloadN w e27_25 (q := 26) rfl rfl rfl ?_
  refine g_getF w e27_26 (q := 29) rfl (host := "") (Or.inl (hw _ (List.mem_of_getElem? (i := 89) rfl))) Via.refl B_x.2.2.1 (fun T w => ?_)
  refine g_aloadN w e27_29 (q := 30) rfl rfl rfl ?_
  refine g_priv w (con_ps l Z a0 hw fm x u b cs ds _ w.old B_x S_u n_x n_b hk hcm SFm rfm SA_ SH_ SL_) no0 B_x.exa e27_30 (q := 33) rfl rfl (hw _ (List.mem_of_getElem? (i := 96) rfl)) (hw _ (List.mem_of_getElem? (i := 98) rfl)) (selOwn (hw _ (List.mem_of_getElem? (i := 97) rfl)) (hw _ (List.mem_of_getElem? (i := 99) rfl)) (hw _ (List.mem_of_getElem? (i := 98) rfl)) (by decide)) (hw _ (List.mem_of_getElem? (i := 97) rfl)) (hw _ (List.mem_of_getElem? (i := 59) rfl)) (hw _ (List.mem_of_getElem? (i := 100) rfl)) (by decide) pd20 rfl rfl (W := 0) (Nat.le_of_eq rfl) (by decide) (by decide) (by decide) (by decide) (fun T h v w gs C q => ?_)
  obtain ⟨rfl, K, b1, hb1, B1⟩ := q
  replace K0 := K0.trans K (in2 (Or.inl m1) (Or.inl m2))
  obtain ⟨X_x, F_value_x, F_count_x, F_maybeLatin1_x, X_b, cd, vs, F_coder_x, A_b, hcod⟩ := B1
  have ne_x_b1 := ne_xar X_x A_b (hw _ (List.mem_of_getElem? (i := 50) rfl))
  show Go p e below _ (State.setTop T (mkF m 33 #[.val (.ref x), .val (.ref u), .val (.int (Int32.ofNat ds.length))] []))
  refine g_aloadN w e27_33 (q := 34) rfl rfl rfl ?_
  refine g_dup w e27_34 (q := 35) rfl rfl ?_
  refine g_getF w e27_35 (q := 38) rfl (host := "") (Or.inl (hw _ (List.mem_of_getElem? (i := 89) rfl))) Via.refl F_count_x (fun T w => ?_)
  refine g_iloadN w e27_38 (q := 39) rfl rfl ?_
  refine g_iadd w e27_39 (q := 40) rfl ?_
  rw [oN_add]
  show Go p e below _ (State.setTop T (mkF m 40 #[.val (.ref x), .val (.ref u), .val (.int (Int32.ofNat ds.length))] [(.int (Int32.ofNat (cs.length + ds.length))), (.ref x)]))
  have g_ := w.chv
  refine g_putF w e27_40 (q := 43) rfl (hw _ (List.mem_of_getElem? (i := 89) rfl)) Via.refl F_count_x X_x (Or.inl (hw _ (List.mem_of_getElem? (i := 90) rfl))) (hw _ (List.mem_of_getElem? (i := 50) rfl)) (ty := .int) (by decide) (v' := (.int (Int32.ofNat (cs.length + ds.length)))) rfl rfl n_x (w.safe X_x (by decide) (by decide)) (fun T h w W => ?_)
  replace K0 := K0.wr W (Or.inl m1)
  replace X_x := X_x.wr W
  replace F_value_x := F_value_x.other W (Or.inr (slot_ne (Or.inl (hw _ (List.mem_of_getElem? (i := 64) rfl))) (Or.inl (hw _ (List.mem_of_getElem? (i := 90) rfl))) (by decide) (t := (.array .byte)) (t' := .int) (by decide) (by decide)))
  replace F_coder_x := F_coder_x.other W (Or.inr (slot_ne (Or.inl (hw _ (List.mem_of_getElem? (i := 66) rfl))) (Or.inl (hw _ (List.mem_of_getElem? (i := 90) rfl))) (by decide) (t := .byte) (t' := .int) (by decide) (by decide)))
  replace F_count_x := F_count_x.same W
  replace F_maybeLatin1_x := F_maybeLatin1_x.other W (Or.inr (slot_ne (Or.inl (hw _ (List.mem_of_getElem? (i := 228) rfl))) (Or.inl (hw _ (List.mem_of_getElem? (i := 90) rfl))) (by decide) (t := .boolean) (t' := .int) (by decide) (by decide)))
  replace A_b := A_b.other W ne_x_b1.symm
  replace X_b := X_b.wr W
  refine g_aloadN w e27_43 (q := 44) rfl rfl rfl ?_
  exact g_reta w e27_44 rfl rfl rfl (by decide) (by decide) ⟨rfl, K0, b1, hb1, X_x, F_value_x, by rw [List.length_append]; exact F_count_x, F_maybeLatin1_x, X_b, cd, vs, F_coder_x, A_b, hcod⟩
theorem e28_0 : decode jdk_67_method_7_code 0 = .ok (.aload_n 0, 1) := by decide +kernel
theorem e28_1 : decode jdk_67_method_7_code 1 = .ok (.aload_n 1, 1) := by decide +kernel
theorem e28_2 : decode jdk_67_method_7_code 2 = .ok (.invokespecial 29, 3) := by decide +kernel
theorem e28_5 : decode jdk_67_method_7_code 5 = .ok (.pop, 1) := by decide +kernel
theorem e28_6 : decode jdk_67_method_7_code 6 = .ok (.aload_n 0, 1) := by decide +kernel
theorem e28_7 : decode jdk_67_method_7_code 7 = .ok (.areturn, 1) := by decide +kernel
theorem pd21 : parseMethodDescriptor "(Ljava/lang/String;)Ljava/lang/AbstractStringBuilder;" = some ⟨[(.object "java/lang/String")], some (.object "java/lang/AbstractStringBuilder")⟩ := by decide +kernel
set_option maxRecDepth 65536 in
set_option maxHeartbeats 40000000 in
theorem con_sas (l : Launch) (Z : State) (a0 : Array Value) (hw : ∀ d ∈ tables_1, d.before a0 Z = true) (fm : Value) (x u b : Addr) (cs ds : List Int32) (h0 : Heap) (O0 : Ext Z.heap h0) (B_x : Bc Z h0 x b (Int32.ofNat cs.length) cs) (S_u : Su Z h0 u ds) (n_x : Z.heap.size ≤ x) (n_b : Z.heap.size ≤ b) (hk : cs.length + ds.length ≤ 16) (hcm : Cpt Z) (SFm : Sta Z Z.heap "jdk/internal/util/Preconditions" "SIOOBE_FORMATTER" "Ljava/util/function/BiFunction;" fm) (rfm : fm.isRef = true) (SA_ : Sta Z Z.heap "java/lang/StringUTF16" "$assertionsDisabled" "Z" (.int 1)) (SH_ : Sta Z Z.heap "java/lang/StringUTF16" "HI_BYTE_SHIFT" "I" (.int 0)) (SL_ : Sta Z Z.heap "java/lang/StringUTF16" "LO_BYTE_SHIFT" "I" (.int 8)) :
    Con l Z consts_1 false (⟨"java/lang/StringBuilder", "append", "(Ljava/lang/String;)Ljava/lang/StringBuilder;"⟩ : MethodName) jdk_67_method_7_code 2 (some (.object "java/lang/StringBuilder")) [] ({ frames := 9, cells := 1, slots := 32, locals := 130 } : Room) #[(.ref x), (.ref u)] [] h0 (fun v h => v = some (.ref x) ∧ Keep h0 h [x, b] ∧ ∃ b1, (b1 = b ∨ h0.size ≤ b1) ∧ Bc Z h x b1 (Int32.ofNat (cs ++ ds).length) (cs ++ ds)) := by
  refine Con.intro (Ls := #[.val (.ref x), .val (.ref u)]) (plainFor_of_name pn4) (own_EL hw) O0 (fun m => by first | (simp [entryFrame, mkF, argsToLocals, Value.category]; done) | rfl) (fun p e s m below meth cc_ T w sf_ => ?_)
  have K0 := Keep.refl h0 [x, b]
  refine g_aloadN w e28_0 (q := 1) rfl rfl rfl ?_
  refine g_aloadN w e28_1 (q := 2) rfl rfl rfl ?_
  refine g_super w (con_as l Z a0 hw fm x u b cs ds _ w.old B_x S_u n_x n_b hk hcm SFm rfm SA_ SH_ SL_) no0 e28_2 (q := 5) rfl rfl B_x.exa (by decide) (hw _ (List.mem_of_getElem? (i := 73) rfl)) (hw _ (List.mem_of_getElem? (i := 75) rfl)) (hw _ (List.mem_of_getElem? (i := 94) rfl)) rfl (hw _ (List.mem_of_getElem? (i := 74) rfl)) (hw _ (List.mem_of_getElem? (i := 59) rfl)) (hw _ (List.mem_of_getElem? (i := 77) rfl)) (by decide) pd21 rfl rfl (W := 0) (Nat.le_of_eq rfl) (by decide) (by decide) (by decide) (by decide) (fun T h v w gs C q => ?_)
  obtain ⟨rfl, K, b1, hb1, B1⟩ := q
  replace K0 := K0.trans K (in2 (Or.inl m1) (Or.inl m2))
  show Go p e below _ (State.setTop T (mkF m 5 #[.val (.ref x), .val (.ref u)] [(.ref x)]))
  refine g_pop w e28_5 (q := 6) rfl rfl ?_
  refine g_aloadN w e28_6 (q := 7) rfl rfl rfl ?_
  exact g_reta w e28_7 rfl rfl rfl (by decide) (by decide) ⟨rfl, K0, b1, hb1, B1⟩
theorem e29_0 : decode jdk_68_method_64_code 0 = .ok (.aload_n 0, 1) := by decide +kernel
theorem e29_1 : decode jdk_68_method_64_code 1 = .ok (.getfield 15, 3) := by decide +kernel
theorem e29_4 : decode jdk_68_method_64_code 4 = .ok (.areturn, 1) := by decide +kernel
set_option maxRecDepth 65536 in
set_option maxHeartbeats 40000000 in
theorem con_gv (l : Launch) (Z : State) (a0 : Array Value) (hw : ∀ d ∈ tables_1, d.before a0 Z = true) (x b : Addr) (h0 : Heap) (O0 : Ext Z.heap h0) (F_value_x : Fld Z h0 x "java/lang/AbstractStringBuilder" "value" "[B" (.ref b)) :
    Con l Z consts_1 false (⟨"java/lang/AbstractStringBuilder", "getValue", "()[B"⟩ : MethodName) jdk_68_method_64_code 1 (some (.array .byte)) [] ({ frames := 0, cells := 0, slots := 0, locals := 0 } : Room) #[(.ref x)] [] h0 (fun v h => v = some (.ref b) ∧ h = h0) := by
  refine Con.intro (Ls := #[.val (.ref x)]) (plainFor_of_name pn3) (own_EL hw) O0 (fun m => by first | (simp [entryFrame, mkF, argsToLocals, Value.category]; done) | rfl) (fun p e s m below meth cc_ T w sf_ => ?_)
  have E0 := ext_refl h0
  refine g_aloadN w e29_0 (q := 1) rfl rfl rfl ?_
  refine g_getF w e29_1 (q := 4) rfl (host := "") (Or.inl (hw _ (List.mem_of_getElem? (i := 63) rfl))) Via.refl F_value_x (fun T w => ?_)
  exact g_reta w e29_4 rfl rfl rfl (by decide) (by decide) ⟨rfl, rfl⟩
theorem e30_0 : decode jdk_68_method_6_code 0 = .ok (.aload_n 0, 1) := by decide +kernel
theorem e30_1 : decode jdk_68_method_6_code 1 = .ok (.getfield 79, 3) := by decide +kernel
theorem e30_4 : decode jdk_68_method_6_code 4 = .ok (.ireturn, 1) := by decide +kernel
set_option maxRecDepth 65536 in
set_option maxHeartbeats 40000000 in
theorem con_alen (l : Launch) (Z : State) (a0 : Array Value) (hw : ∀ d ∈ tables_1, d.before a0 Z = true) (x : Addr) (ct : Int32) (h0 : Heap) (O0 : Ext Z.heap h0) (F_count_x : Fld Z h0 x "java/lang/AbstractStringBuilder" "count" "I" (.int ct)) :
    Con l Z consts_1 false (⟨"java/lang/AbstractStringBuilder", "length", "()I"⟩ : MethodName) jdk_68_method_6_code 1 (some .int) [] ({ frames := 0, cells := 0, slots := 0, locals := 0 } : Room) #[(.ref x)] [] h0 (fun v h => v = some (.int ct) ∧ h = h0) := by
  refine Con.intro (Ls := #[.val (.ref x)]) (plainFor_of_name pn3) (own_EL hw) O0 (fun m => by first | (simp [entryFrame, mkF, argsToLocals, Value.category]; done) | rfl) (fun p e s m below meth cc_ T w sf_ => ?_)
  have E0 := ext_refl h0
  refine g_aloadN w e30_0 (q := 1) rfl rfl rfl ?_
  refine g_getF w e30_1 (q := 4) rfl (host := "") (Or.inl (hw _ (List.mem_of_getElem? (i := 89) rfl))) Via.refl F_count_x (fun T w => ?_)
  exact g_reti w e30_4 rfl (by decide) (by decide) ⟨rfl, rfl⟩
theorem e31_0 : decode jdk_67_method_93_code 0 = .ok (.aload_n 0, 1) := by decide +kernel
theorem e31_1 : decode jdk_67_method_93_code 1 = .ok (.invokespecial 343, 3) := by decide +kernel
theorem e31_4 : decode jdk_67_method_93_code 4 = .ok (.ireturn, 1) := by decide +kernel
set_option maxRecDepth 65536 in
set_option maxHeartbeats 40000000 in
theorem con_slen (l : Launch) (Z : State) (a0 : Array Value) (hw : ∀ d ∈ tables_1, d.before a0 Z = true) (x : Addr) (ct : Int32) (h0 : Heap) (O0 : Ext Z.heap h0) (X_x : Exa Z h0 x "java/lang/StringBuilder") (F_count_x : Fld Z h0 x "java/lang/AbstractStringBuilder" "count" "I" (.int ct)) :
    Con l Z consts_1 false (⟨"java/lang/StringBuilder", "length", "()I"⟩ : MethodName) jdk_67_method_93_code 1 (some .int) [] ({ frames := 1, cells := 0, slots := 0, locals := 12 } : Room) #[(.ref x)] [] h0 (fun v h => v = some (.int ct) ∧ h = h0) := by
  refine Con.intro (Ls := #[.val (.ref x)]) (plainFor_of_name pn4) (own_EL hw) O0 (fun m => by first | (simp [entryFrame, mkF, argsToLocals, Value.category]; done) | rfl) (fun p e s m below meth cc_ T w sf_ => ?_)
  have E0 := ext_refl h0
  refine g_aloadN w e31_0 (q := 1) rfl rfl rfl ?_
  refine g_superP w (con_alen l Z a0 hw x ct _ w.old F_count_x) no0 e31_1 (q := 4) rfl rfl X_x (by decide) (hw _ (List.mem_of_getElem? (i := 139) rfl)) (hw _ (List.mem_of_getElem? (i := 75) rfl)) (hw _ (List.mem_of_getElem? (i := 94) rfl)) rfl (hw _ (List.mem_of_getElem? (i := 135) rfl)) (hw _ (List.mem_of_getElem? (i := 59) rfl)) (hw _ (List.mem_of_getElem? (i := 140) rfl)) (by decide) pd19 rfl rfl (W := 0) (Nat.le_of_eq rfl) (by decide) (by decide) (by decide) (by decide) (fun T v w C q => ?_)
  obtain rfl := q
  show Go p e below _ (State.setTop T (mkF m 4 #[.val (.ref x)] [(.int ct)]))
  exact g_reti w e31_4 rfl (by decide) (by decide) ⟨rfl, rfl⟩
theorem e32_0 : decode jdk_65_method_131_code 0 = .ok (.iload_n 1, 1) := by decide +kernel
theorem e32_1 : decode jdk_65_method_131_code 1 = .ok (.iload_n 0, 1) := by decide +kernel
theorem e32_2 : decode jdk_65_method_131_code 2 = .ok (.if_icmp .ge 35, 3) := by decide +kernel
theorem e32_5 : decode jdk_65_method_131_code 5 = .ok (.new 43, 3) := by decide +kernel
theorem e32_8 : decode jdk_65_method_131_code 8 = .ok (.dup, 1) := by decide +kernel
theorem e32_9 : decode jdk_65_method_131_code 9 = .ok (.new 45, 3) := by decide +kernel
theorem e32_12 : decode jdk_65_method_131_code 12 = .ok (.dup, 1) := by decide +kernel
theorem e32_13 : decode jdk_65_method_131_code 13 = .ok (.invokespecial 47, 3) := by decide +kernel
theorem e32_16 : decode jdk_65_method_131_code 16 = .ok (.iload_n 0, 1) := by decide +kernel
theorem e32_17 : decode jdk_65_method_131_code 17 = .ok (.invokevirtual 54, 3) := by decide +kernel
theorem e32_20 : decode jdk_65_method_131_code 20 = .ok (.ldc_w 337, 3) := by decide +kernel
theorem e32_23 : decode jdk_65_method_131_code 23 = .ok (.invokevirtual 50, 3) := by decide +kernel
theorem e32_26 : decode jdk_65_method_131_code 26 = .ok (.iload_n 1, 1) := by decide +kernel
theorem e32_27 : decode jdk_65_method_131_code 27 = .ok (.invokevirtual 54, 3) := by decide +kernel
theorem e32_30 : decode jdk_65_method_131_code 30 = .ok (.invokevirtual 61, 3) := by decide +kernel
theorem e32_33 : decode jdk_65_method_131_code 33 = .ok (.invokespecial 65, 3) := by decide +kernel
theorem e32_36 : decode jdk_65_method_131_code 36 = .ok (.athrow, 1) := by decide +kernel
theorem e32_37 : decode jdk_65_method_131_code 37 = .ok (.return_, 1) := by decide +kernel
theorem pn7 : plainName "java/util/Arrays" = true := by first | (simp [plainName, overriddenIn]; done) | decide +kernel
set_option maxRecDepth 65536 in
set_option maxHeartbeats 40000000 in
theorem con_cl (l : Launch) (Z : State) (a0 : Array Value) (hw : ∀ d ∈ tables_1, d.before a0 Z = true) (n_ : Nat) (h0 : Heap) (O0 : Ext Z.heap h0) (hn : n_ ≤ 126) :
    Con l Z consts_1 false (⟨"java/util/Arrays", "checkLength", "(II)V"⟩ : MethodName) jdk_65_method_131_code 2 none [] ({ frames := 0, cells := 0, slots := 0, locals := 0 } : Room) #[(.int (0 : Int32)), (.int (Int32.ofNat n_))] [] h0 (fun v h => v = none ∧ h = h0) := by
  refine Con.intro (Ls := #[.val (.int (0 : Int32)), .val (.int (Int32.ofNat n_))]) (plainFor_of_name pn7) (own_EL hw) O0 (fun m => by first | (simp [entryFrame, mkF, argsToLocals, Value.category]; done) | rfl) (fun p e s m below meth cc_ T w sf_ => ?_)
  have E0 := ext_refl h0
  refine g_iloadN w e32_0 (q := 1) rfl rfl ?_
  refine g_iloadN w e32_1 (q := 2) rfl rfl ?_
  refine g_icY w e32_2 (by decide) (q := 37) (by decide) (Jvm.Free.XT.ii_ge_t (ofNat_nonneg (by omega))) ?_
  exact g_return w e32_37 rfl (by decide) (by decide) ⟨rfl, rfl⟩
theorem e33_0 : decode jdk_65_method_133_code 0 = .ok (.iload_n 1, 1) := by decide +kernel
theorem e33_1 : decode jdk_65_method_133_code 1 = .ok (.iload_n 2, 1) := by decide +kernel
theorem e33_2 : decode jdk_65_method_133_code 2 = .ok (.invokestatic 343, 3) := by decide +kernel
theorem e33_5 : decode jdk_65_method_133_code 5 = .ok (.iload_n 2, 1) := by decide +kernel
theorem e33_6 : decode jdk_65_method_133_code 6 = .ok (.iload_n 1, 1) := by decide +kernel
theorem e33_7 : decode jdk_65_method_133_code 7 = .ok (.isub, 1) := by decide +kernel
theorem e33_8 : decode jdk_65_method_133_code 8 = .ok (.istore_n 3, 1) := by decide +kernel
theorem e33_9 : decode jdk_65_method_133_code 9 = .ok (.iload_n 3, 1) := by decide +kernel
theorem e33_10 : decode jdk_65_method_133_code 10 = .ok (.newarray .byte, 2) := by decide +kernel
theorem e33_12 : decode jdk_65_method_133_code 12 = .ok (.astore 4, 2) := by decide +kernel
theorem e33_14 : decode jdk_65_method_133_code 14 = .ok (.aload_n 0, 1) := by decide +kernel
theorem e33_15 : decode jdk_65_method_133_code 15 = .ok (.iload_n 1, 1) := by decide +kernel
theorem e33_16 : decode jdk_65_method_133_code 16 = .ok (.aload 4, 2) := by decide +kernel
theorem e33_18 : decode jdk_65_method_133_code 18 = .ok (.iconst 0, 1) := by decide +kernel
theorem e33_19 : decode jdk_65_method_133_code 19 = .ok (.aload_n 0, 1) := by decide +kernel
theorem e33_20 : decode jdk_65_method_133_code 20 = .ok (.arraylength, 1) := by decide +kernel
theorem e33_21 : decode jdk_65_method_133_code 21 = .ok (.iload_n 1, 1) := by decide +kernel
theorem e33_22 : decode jdk_65_method_133_code 22 = .ok (.isub, 1) := by decide +kernel
theorem e33_23 : decode jdk_65_method_133_code 23 = .ok (.iload_n 3, 1) := by decide +kernel
theorem e33_24 : decode jdk_65_method_133_code 24 = .ok (.invokestatic 304, 3) := by decide +kernel
theorem e33_27 : decode jdk_65_method_133_code 27 = .ok (.invokestatic 150, 3) := by decide +kernel
theorem e33_30 : decode jdk_65_method_133_code 30 = .ok (.aload 4, 2) := by decide +kernel
theorem e33_32 : decode jdk_65_method_133_code 32 = .ok (.areturn, 1) := by decide +kernel
theorem pd22 : parseMethodDescriptor "(II)V" = some ⟨[.int, .int], none⟩ := by decide +kernel
theorem pd23 : parseMethodDescriptor "(II)I" = some ⟨[.int, .int], some .int⟩ := by decide +kernel
set_option maxRecDepth 65536 in
set_option maxHeartbeats 40000000 in
theorem con_crb (l : Launch) (Z : State) (a0 : Array Value) (hw : ∀ d ∈ tables_1, d.before a0 Z = true) (b : Addr) (n_ : Nat) (vs : List Value) (h0 : Heap) (O0 : Ext Z.heap h0) (A_b : Ar Z h0 b .byte vs) (hn : n_ ≤ vs.length) (h32 : vs.length ≤ 32) :
    Con l Z consts_1 false (⟨"java/util/Arrays", "copyOfRangeByte", "([BII)[B"⟩ : MethodName) jdk_65_method_133_code 5 (some (.array .byte)) [] ({ frames := 1, cells := 1, slots := 32, locals := 18 } : Room) #[(.ref b), (.int (0 : Int32)), (.int (Int32.ofNat n_))] [] h0 (fun v h => ∃ u, v = some (.ref u) ∧ Ext h0 h ∧ h0.size ≤ u ∧ Ar Z h u .byte (vs.take n_)) := by
  refine Con.intro (Ls := #[.val (.ref b), .val (.int (0 : Int32)), .val (.int (Int32.ofNat n_)), .unset, .unset]) (plainFor_of_name pn7) (own_EL hw) O0 (fun m => by first | (simp [entryFrame, mkF, argsToLocals, Value.category]; done) | rfl) (fun p e s m below meth cc_ T w sf_ => ?_)
  have E0 := ext_refl h0
  refine g_iloadN w e33_0 (q := 1) rfl rfl ?_
  refine g_iloadN w e33_1 (q := 2) rfl rfl ?_
  refine g_staticP w (con_cl l Z a0 hw n_ _ w.old (by omega)) no0 e33_2 (q := 5) rfl rfl (hw _ (List.mem_of_getElem? (i := 153) rfl)) (hw _ (List.mem_of_getElem? (i := 154) rfl)) (hw _ (List.mem_of_getElem? (i := 148) rfl)) (hw _ (List.mem_of_getElem? (i := 155) rfl)) (by decide) pd22 rfl rfl (W := 0) (Nat.le_of_eq rfl) (by decide) (by decide) (by decide) (by decide) (fun T v w C q => ?_)
  obtain rfl := q
  show Go p e below _ (State.setTop T (mkF m 5 #[.val (.ref b), .val (.int (0 : Int32)), .val (.int (Int32.ofNat n_)), .unset, .unset] []))
  refine g_iloadN w e33_5 (q := 6) rfl rfl ?_
  refine g_iloadN w e33_6 (q := 7) rfl rfl ?_
  refine g_isub w e33_7 (q := 8) rfl ?_
  rw [sub0]
  show Go p e below _ (State.setTop T (mkF m 8 #[.val (.ref b), .val (.int (0 : Int32)), .val (.int (Int32.ofNat n_)), .unset, .unset] [(.int (Int32.ofNat n_))]))
  refine g_istoreN w e33_8 (q := 9) rfl (Ls' := #[.val (.ref b), .val (.int (0 : Int32)), .val (.int (Int32.ofNat n_)), .val (.int (Int32.ofNat n_)), .unset]) rfl ?_
  refine g_iloadN w e33_9 (q := 10) rfl rfl ?_
  refine g_newarrE w e33_10 (q := 12) rfl (hw _ (List.mem_of_getElem? (i := 21) rfl)) (ad := "[B") (by decide) (len := n_) (cap := 32) rfl (by omega) (by decide) (by decide) (by decide) (fun T h u w E g_u n_u A_u X_u s_u => ?_)
  have z_u := Nat.le_trans E0.1 g_u
  have ne_b_u : b ≠ u := Nat.ne_of_lt (Nat.lt_of_lt_of_le A_b.lt g_u)
  replace E0 := ext_trans E0 E
  replace A_b := A_b.ext E
  replace A_u : Ar Z h u .byte (List.replicate n_ (.int 0)) := A_u
  refine g_astore w e33_12 (q := 14) rfl rfl (Ls' := #[.val (.ref b), .val (.int (0 : Int32)), .val (.int (Int32.ofNat n_)), .val (.int (Int32.ofNat n_)), .val (.ref u)]) rfl ?_
  refine g_aloadN w e33_14 (q := 15) rfl rfl rfl ?_
  refine g_iloadN w e33_15 (q := 16) rfl rfl ?_
  refine g_aload w e33_16 (q := 18) rfl rfl rfl ?_
  refine g_iconst w e33_18 (q := 19) rfl (v := (0 : Int32)) (by decide) ?_
  refine g_aloadN w e33_19 (q := 20) rfl rfl rfl ?_
  refine g_alen w e33_20 (q := 21) rfl A_b ?_
  show Go p e below _ (State.setTop T (mkF m 21 #[.val (.ref b), .val (.int (0 : Int32)), .val (.int (Int32.ofNat n_)), .val (.int (Int32.ofNat n_)), .val (.ref u)] [(.int (Int32.ofNat vs.length)), (.int (0 : Int32)), (.ref u), (.int (0 : Int32)), (.ref b)]))
  refine g_iloadN w e33_21 (q := 22) rfl rfl ?_
  refine g_isub w e33_22 (q := 23) rfl ?_
  rw [sub0]
  show Go p e below _ (State.setTop T (mkF m 23 #[.val (.ref b), .val (.int (0 : Int32)), .val (.int (Int32.ofNat n_)), .val (.int (Int32.ofNat n_)), .val (.ref u)] [(.int (Int32.ofNat vs.length)), (.int (0 : Int32)), (.ref u), (.int (0 : Int32)), (.ref b)]))
  refine g_iloadN w e33_23 (q := 24) rfl rfl ?_
  refine g_staticP w (con_min l Z a0 hw (Int32.ofNat vs.length) (Int32.ofNat n_) _ w.old) no0 e33_24 (q := 27) rfl rfl (hw _ (List.mem_of_getElem? (i := 156) rfl)) (hw _ (List.mem_of_getElem? (i := 157) rfl)) (hw _ (List.mem_of_getElem? (i := 158) rfl)) (hw _ (List.mem_of_getElem? (i := 159) rfl)) (by decide) pd23 rfl rfl (W := 4) (Nat.le_of_eq rfl) (by decide) (by decide) (by decide) (by decide) (fun T v w C q => ?_)
  replace s_u := C.safe X_u.lt s_u
  obtain rfl := q
  show Go p e below _ (State.setTop T (mkF m 27 #[.val (.ref b), .val (.int (0 : Int32)), .val (.int (Int32.ofNat n_)), .val (.int (Int32.ofNat n_)), .val (.ref u)] [(.int (if (Int32.ofNat n_) < (Int32.ofNat vs.length) then (Int32.ofNat n_) else (Int32.ofNat vs.length))), (.int (0 : Int32)), (.ref u), (.int (0 : Int32)), (.ref b)]))
  rw [mn_r (by omega) (by omega)]
  refine g_acopyB w (sp := 0) (dp := 0) (nn := n_) A_b A_u (by omega) (by simp) n_u s_u e33_27 (q := 30) rfl rfl (hw _ (List.mem_of_getElem? (i := 160) rfl)) (hw _ (List.mem_of_getElem? (i := 115) rfl)) (hw _ (List.mem_of_getElem? (i := 113) rfl)) (hw _ (List.mem_of_getElem? (i := 114) rfl)) (Wd := 0) (Nat.le_of_eq rfl) (by decide) (by decide) (fun T h w K V => ?_)
  rw [cp_pre (by omega)] at V
  replace E0 := ext_keep E0 K z_u
  replace X_u := X_u.keep K
  replace A_u := V
  show Go p e below _ (State.setTop T (mkF m 30 #[.val (.ref b), .val (.int (0 : Int32)), .val (.int (Int32.ofNat n_)), .val (.int (Int32.ofNat n_)), .val (.ref u)] []))
  refine g_aload w e33_30 (q := 32) rfl rfl rfl ?_
  exact g_reta w e33_32 rfl rfl rfl (by decide) (by decide) ⟨u, rfl, E0, z_u, A_u⟩
theorem e34_0 : decode jdk_65_method_132_code 0 = .ok (.iload_n 1, 1) := by decide +kernel
theorem e34_1 : decode jdk_65_method_132_code 1 = .ok (.ifCond .ne 9, 3) := by decide +kernel
theorem e34_4 : decode jdk_65_method_132_code 4 = .ok (.iload_n 2, 1) := by decide +kernel
theorem e34_5 : decode jdk_65_method_132_code 5 = .ok (.aload_n 0, 1) := by decide +kernel
theorem e34_6 : decode jdk_65_method_132_code 6 = .ok (.arraylength, 1) := by decide +kernel
theorem e34_7 : decode jdk_65_method_132_code 7 = .ok (.if_icmp .eq 10, 3) := by decide +kernel
theorem e34_10 : decode jdk_65_method_132_code 10 = .ok (.aload_n 0, 1) := by decide +kernel
theorem e34_11 : decode jdk_65_method_132_code 11 = .ok (.iload_n 1, 1) := by decide +kernel
theorem e34_12 : decode jdk_65_method_132_code 12 = .ok (.iload_n 2, 1) := by decide +kernel
theorem e34_13 : decode jdk_65_method_132_code 13 = .ok (.invokestatic 339, 3) := by decide +kernel
theorem e34_16 : decode jdk_65_method_132_code 16 = .ok (.areturn, 1) := by decide +kernel
theorem e34_17 : decode jdk_65_method_132_code 17 = .ok (.aload_n 0, 1) := by decide +kernel
theorem e34_18 : decode jdk_65_method_132_code 18 = .ok (.invokevirtual 310, 3) := by decide +kernel
theorem e34_21 : decode jdk_65_method_132_code 21 = .ok (.checkcast 311, 3) := by decide +kernel
theorem e34_24 : decode jdk_65_method_132_code 24 = .ok (.areturn, 1) := by decide +kernel
theorem pd24 : parseMethodDescriptor "([BII)[B" = some ⟨[(.array .byte), .int, .int], some (.array .byte)⟩ := by decide +kernel
set_option maxRecDepth 65536 in
set_option maxHeartbeats 40000000 in
theorem con_cr (l : Launch) (Z : State) (a0 : Array Value) (hw : ∀ d ∈ tables_1, d.before a0 Z = true) (b : Addr) (n_ : Nat) (vs : List Value) (h0 : Heap) (O0 : Ext Z.heap h0) (A_b : Ar Z h0 b .byte vs) (hn : n_ ≤ vs.length) (h32 : vs.length ≤ 32) (X_b : Exa Z h0 b "[B") :
    Con l Z consts_1 false (⟨"java/util/Arrays", "copyOfRange", "([BII)[B"⟩ : MethodName) jdk_65_method_132_code 3 (some (.array .byte)) [] ({ frames := 2, cells := 1, slots := 32, locals := 34 } : Room) #[(.ref b), (.int (0 : Int32)), (.int (Int32.ofNat n_))] [] h0 (fun v h => ∃ u, v = some (.ref u) ∧ Ext h0 h ∧ h0.size ≤ u ∧ Ar Z h u .byte (vs.take n_)) := by
  refine Con.intro (Ls := #[.val (.ref b), .val (.int (0 : Int32)), .val (.int (Int32.ofNat n_))]) (plainFor_of_name pn7) (own_EL hw) O0 (fun m => by first | (simp [entryFrame, mkF, argsToLocals, Value.category]; done) | rfl) (fun p e s m below meth cc_ T w sf_ => ?_)
  have E0 := ext_refl h0
  refine g_iloadN w e34_0 (q := 1) rfl rfl ?_
  refine g_ifN w e34_1 (q := 4) rfl (by decide) ?_
  refine g_iloadN w e34_4 (q := 5) rfl rfl ?_
  refine g_aloadN w e34_5 (q := 6) rfl rfl rfl ?_
  refine g_alen w e34_6 (q := 7) rfl A_b ?_
  show Go p e below _ (State.setTop T (mkF m 7 #[.val (.ref b), .val (.int (0 : Int32)), .val (.int (Int32.ofNat n_))] [(.int (Int32.ofNat vs.length)), (.int (Int32.ofNat n_))]))
  rcases Nat.decEq n_ vs.length with hq_ | hq_
  · refine g_icN w e34_7 (q := 10) rfl (Jvm.Free.XT.ii_eq_f (fun q => hq_ ((oN_inj (by omega) (by omega)).mp q))) ?_
    refine g_aloadN w e34_10 (q := 11) rfl rfl rfl ?_
    refine g_iloadN w e34_11 (q := 12) rfl rfl ?_
    refine g_iloadN w e34_12 (q := 13) rfl rfl ?_
    refine g_static w (con_crb l Z a0 hw b n_ vs _ w.old A_b hn h32) no0 e34_13 (q := 16) rfl rfl (hw _ (List.mem_of_getElem? (i := 150) rfl)) (hw _ (List.mem_of_getElem? (i := 151) rfl)) (hw _ (List.mem_of_getElem? (i := 148) rfl)) (hw _ (List.mem_of_getElem? (i := 152) rfl)) (by decide) pd24 rfl rfl (W := 0) (Nat.le_of_eq rfl) (by decide) (by decide) (by decide) (by decide) (fun T h v w gs C q => ?_)
    obtain ⟨u, rfl, E, g_u, A_u⟩ := q
    have z_u := Nat.le_trans E0.1 g_u
    have ne_b_u : b ≠ u := Nat.ne_of_lt (Nat.lt_of_lt_of_le A_b.lt g_u)
    replace E0 := ext_trans E0 E
    replace A_b := A_b.ext E
    replace X_b := X_b.ext E
    show Go p e below _ (State.setTop T (mkF m 16 #[.val (.ref b), .val (.int (0 : Int32)), .val (.int (Int32.ofNat n_))] [(.ref u)]))
    exact g_reta w e34_16 rfl rfl rfl (by decide) (by decide) ⟨u, rfl, E0, z_u, A_u⟩
  · refine g_icY w e34_7 (by decide) (q := 17) (by decide) (Jvm.Free.XT.ii_eq_t (by rw [hq_])) ?_
    refine g_aloadN w e34_17 (q := 18) rfl rfl rfl ?_
    refine g_clone w A_b X_b e34_18 (q := 21) rfl rfl (hw _ (List.mem_of_getElem? (i := 230) rfl)) (hw _ (List.mem_of_getElem? (i := 231) rfl)) (hw _ (List.mem_of_getElem? (i := 235) rfl)) (hw _ (List.mem_of_getElem? (i := 233) rfl)) (hw _ (List.mem_of_getElem? (i := 234) rfl)) (hw _ (List.mem_of_getElem? (i := 236) rfl)) (Wd := 0) (Nat.le_of_eq rfl) (by decide) (by decide) (cap := 32) h32 (by decide) (by decide) (fun T h u w E g_u n_u A_u X_u => ?_)
    have z_u := Nat.le_trans E0.1 g_u
    have ne_b_u : b ≠ u := Nat.ne_of_lt (Nat.lt_of_lt_of_le A_b.lt g_u)
    replace E0 := ext_trans E0 E
    replace A_b := A_b.ext E
    replace X_b := X_b.ext E
    refine g_cast w e34_21 (q := 24) rfl (hw _ (List.mem_of_getElem? (i := 237) rfl)) (Ins.self X_u) (fun T w => ?_)
    exact g_reta w e34_24 rfl rfl rfl (by decide) (by decide) ⟨u, rfl, E0, z_u, by rw [hq_, List.take_length]; exact A_u⟩
theorem e35_0 : decode jdk_42_method_150_code 0 = .ok (.aload_n 0, 1) := by decide +kernel
theorem e35_1 : decode jdk_42_method_150_code 1 = .ok (.invokespecial 1, 3) := by decide +kernel
theorem e35_4 : decode jdk_42_method_150_code 4 = .ok (.aload_n 1, 1) := by decide +kernel
theorem e35_5 : decode jdk_42_method_150_code 5 = .ok (.invokevirtual 552, 3) := by decide +kernel
theorem e35_8 : decode jdk_42_method_150_code 8 = .ok (.astore_n 3, 1) := by decide +kernel
theorem e35_9 : decode jdk_42_method_150_code 9 = .ok (.aload_n 1, 1) := by decide +kernel
theorem e35_10 : decode jdk_42_method_150_code 10 = .ok (.invokevirtual 549, 3) := by decide +kernel
theorem e35_13 : decode jdk_42_method_150_code 13 = .ok (.istore 4, 2) := by decide +kernel
theorem e35_15 : decode jdk_42_method_150_code 15 = .ok (.aload_n 1, 1) := by decide +kernel
theorem e35_16 : decode jdk_42_method_150_code 16 = .ok (.invokevirtual 1047, 3) := by decide +kernel
theorem e35_19 : decode jdk_42_method_150_code 19 = .ok (.ifCond .eq 22, 3) := by decide +kernel
theorem e35_22 : decode jdk_42_method_150_code 22 = .ok (.aload_n 0, 1) := by decide +kernel
theorem e35_23 : decode jdk_42_method_150_code 23 = .ok (.iconst 0, 1) := by decide +kernel
theorem e35_24 : decode jdk_42_method_150_code 24 = .ok (.putfield 15, 3) := by decide +kernel
theorem e35_27 : decode jdk_42_method_150_code 27 = .ok (.aload_n 0, 1) := by decide +kernel
theorem e35_28 : decode jdk_42_method_150_code 28 = .ok (.aload_n 3, 1) := by decide +kernel
theorem e35_29 : decode jdk_42_method_150_code 29 = .ok (.iconst 0, 1) := by decide +kernel
theorem e35_30 : decode jdk_42_method_150_code 30 = .ok (.iload 4, 2) := by decide +kernel
theorem e35_32 : decode jdk_42_method_150_code 32 = .ok (.invokestatic 54, 3) := by decide +kernel
theorem e35_35 : decode jdk_42_method_150_code 35 = .ok (.putfield 9, 3) := by decide +kernel
theorem e35_38 : decode jdk_42_method_150_code 38 = .ok (.goto 59, 3) := by decide +kernel
theorem e35_41 : decode jdk_42_method_150_code 41 = .ok (.getstatic 38, 3) := by decide +kernel
theorem e35_44 : decode jdk_42_method_150_code 44 = .ok (.ifCond .eq 35, 3) := by decide +kernel
theorem e35_47 : decode jdk_42_method_150_code 47 = .ok (.aload_n 1, 1) := by decide +kernel
theorem e35_48 : decode jdk_42_method_150_code 48 = .ok (.getfield 1048, 3) := by decide +kernel
theorem e35_51 : decode jdk_42_method_150_code 51 = .ok (.ifCond .eq 28, 3) := by decide +kernel
theorem e35_54 : decode jdk_42_method_150_code 54 = .ok (.aload_n 0, 1) := by decide +kernel
theorem e35_55 : decode jdk_42_method_150_code 55 = .ok (.aload_n 3, 1) := by decide +kernel
theorem e35_56 : decode jdk_42_method_150_code 56 = .ok (.iconst 0, 1) := by decide +kernel
theorem e35_57 : decode jdk_42_method_150_code 57 = .ok (.iload 4, 2) := by decide +kernel
theorem e35_59 : decode jdk_42_method_150_code 59 = .ok (.invokestatic 1051, 3) := by decide +kernel
theorem e35_62 : decode jdk_42_method_150_code 62 = .ok (.putfield 9, 3) := by decide +kernel
theorem e35_65 : decode jdk_42_method_150_code 65 = .ok (.aload_n 0, 1) := by decide +kernel
theorem e35_66 : decode jdk_42_method_150_code 66 = .ok (.aload_n 0, 1) := by decide +kernel
theorem e35_67 : decode jdk_42_method_150_code 67 = .ok (.getfield 9, 3) := by decide +kernel
theorem e35_70 : decode jdk_42_method_150_code 70 = .ok (.iload 4, 2) := by decide +kernel
theorem e35_72 : decode jdk_42_method_150_code 72 = .ok (.invokestatic 47, 3) := by decide +kernel
theorem e35_75 : decode jdk_42_method_150_code 75 = .ok (.putfield 15, 3) := by decide +kernel
theorem e35_78 : decode jdk_42_method_150_code 78 = .ok (.return_, 1) := by decide +kernel
theorem e35_79 : decode jdk_42_method_150_code 79 = .ok (.aload_n 0, 1) := by decide +kernel
theorem e35_80 : decode jdk_42_method_150_code 80 = .ok (.iconst 1, 1) := by decide +kernel
theorem e35_81 : decode jdk_42_method_150_code 81 = .ok (.putfield 15, 3) := by decide +kernel
theorem e35_84 : decode jdk_42_method_150_code 84 = .ok (.aload_n 0, 1) := by decide +kernel
theorem e35_85 : decode jdk_42_method_150_code 85 = .ok (.aload_n 3, 1) := by decide +kernel
theorem e35_86 : decode jdk_42_method_150_code 86 = .ok (.iconst 0, 1) := by decide +kernel
theorem e35_87 : decode jdk_42_method_150_code 87 = .ok (.iload 4, 2) := by decide +kernel
theorem e35_89 : decode jdk_42_method_150_code 89 = .ok (.iconst 1, 1) := by decide +kernel
theorem e35_90 : decode jdk_42_method_150_code 90 = .ok (.ishl, 1) := by decide +kernel
theorem e35_91 : decode jdk_42_method_150_code 91 = .ok (.invokestatic 54, 3) := by decide +kernel
theorem e35_94 : decode jdk_42_method_150_code 94 = .ok (.putfield 9, 3) := by decide +kernel
theorem e35_97 : decode jdk_42_method_150_code 97 = .ok (.return_, 1) := by decide +kernel
theorem pd25 : parseMethodDescriptor "()[B" = some ⟨[], some (.array .byte)⟩ := by decide +kernel
set_option maxRecDepth 65536 in
set_option maxHeartbeats 40000000 in
theorem con_isa (l : Launch) (Z : State) (a0 : Array Value) (hw : ∀ d ∈ tables_1, d.before a0 Z = true) (y x b : Addr) (cs : List Int32) (h0 : Heap) (O0 : Ext Z.heap h0) (X_y : Exa Z h0 y "java/lang/String") (F_value_y : Fld Z h0 y "java/lang/String" "value" "[B" .null) (F_coder_y : Fld Z h0 y "java/lang/String" "coder" "B" (.int (0 : Int32))) (n_y : Z.heap.size ≤ y) (ne_x_y : x ≠ y) (ne_b_y : b ≠ y) (B_x : Bc Z h0 x b (Int32.ofNat cs.length) cs) (hl : ∀ c ∈ cs, Lt16 c) (hn : cs.length ≤ 16) (hcm : Cpt Z) :
    Con l Z consts_1 false (⟨"java/lang/String", "<init>", "(Ljava/lang/AbstractStringBuilder;Ljava/lang/Void;)V"⟩ : MethodName) jdk_42_method_150_code 5 none [] ({ frames := 3, cells := 1, slots := 32, locals := 49 } : Room) #[(.ref y), (.ref x), .null] [] h0 (fun v h => v = none ∧ Keep h0 h [y] ∧ Su Z h y cs) := by
  refine Con.intro (Ls := #[.val (.ref y), .val (.ref x), .val .null, .unset, .unset]) (plainFor_of_name pn0) (own_EL hw) O0 (fun m => by first | (simp [entryFrame, mkF, argsToLocals, Value.category]; done) | rfl) (fun p e s m below meth cc_ T w sf_ => ?_)
  have K0 := Keep.refl h0 [y]
  obtain ⟨z_, hz_, SC_⟩ := id hcm
  have s_y := safe_null (EL := consts_1) (vm := s.vm) w.wz.alike (hw _ (List.mem_of_getElem? (i := 7) rfl)) X_y F_value_y
  obtain ⟨X_x, F_value_x, F_count_x, F_maybeLatin1_x, X_b, cd, vs, F_coder_x, A_b, hcod⟩ := B_x
  rcases hcod with ⟨ecd, hcs, hL, us_, hvs⟩ | ⟨ecd, hcs, hL, us_, hvs⟩
  · subst ecd
    refine g_aloadN w e35_0 (q := 1) rfl rfl rfl ?_
    refine g_initO w e35_1 (q := 4) rfl rfl (hw _ (List.mem_of_getElem? (i := 17) rfl)) (hw _ (List.mem_of_getElem? (i := 18) rfl)) (hw _ (List.mem_of_getElem? (i := 19) rfl)) (W := 0) (Nat.le_of_eq rfl) (by decide) (by decide) (fun T w => ?_)
    refine g_aloadN w e35_4 (q := 5) rfl rfl rfl ?_
    refine g_virtualP w (con_gv l Z a0 hw x b _ w.old F_value_x) no0 X_x e35_5 (q := 8) rfl rfl (hw _ (List.mem_of_getElem? (i := 128) rfl)) (hw _ (List.mem_of_getElem? (i := 129) rfl)) (hw _ (List.mem_of_getElem? (i := 131) rfl)) (hw _ (List.mem_of_getElem? (i := 130) rfl)) (hw _ (List.mem_of_getElem? (i := 59) rfl)) (hw _ (List.mem_of_getElem? (i := 132) rfl)) (by decide) (nf (hw _ (List.mem_of_getElem? (i := 131) rfl))) pd25 rfl rfl (W := 0) (Nat.le_of_eq rfl) (by decide) (by decide) (by decide) (by decide) (fun T v w C q => ?_)
    replace s_y := C.safe X_y.lt s_y
    obtain rfl := q
    show Go p e below _ (State.setTop T (mkF m 8 #[.val (.ref y), .val (.ref x), .val .null, .unset, .unset] [(.ref b)]))
    refine g_astoreN w e35_8 (q := 9) rfl rfl (Ls' := #[.val (.ref y), .val (.ref x), .val .null, .val (.ref b), .unset]) rfl ?_
    refine g_aloadN w e35_9 (q := 10) rfl rfl rfl ?_
    refine g_virtualP w (con_slen l Z a0 hw x (Int32.ofNat cs.length) _ w.old X_x F_count_x) no0 X_x e35_10 (q := 13) rfl rfl (hw _ (List.mem_of_getElem? (i := 133) rfl)) (hw _ (List.mem_of_getElem? (i := 134) rfl)) (hw _ (List.mem_of_getElem? (i := 136) rfl)) (hw _ (List.mem_of_getElem? (i := 137) rfl)) (hw _ (List.mem_of_getElem? (i := 51) rfl)) (hw _ (List.mem_of_getElem? (i := 138) rfl)) (by decide) (nfC (hw _ (List.mem_of_getElem? (i := 94) rfl)) rfl) pd19 rfl rfl (W := 0) (Nat.le_of_eq rfl) (by decide) (by decide) (by decide) (by decide) (fun T v w C q => ?_)
    replace s_y := C.safe X_y.lt s_y
    obtain rfl := q
    show Go p e below _ (State.setTop T (mkF m 13 #[.val (.ref y), .val (.ref x), .val .null, .val (.ref b), .unset] [(.int (Int32.ofNat cs.length))]))
    refine g_istore w e35_13 (q := 15) rfl (Ls' := #[.val (.ref y), .val (.ref x), .val .null, .val (.ref b), .val (.int (Int32.ofNat cs.length))]) rfl ?_
    refine g_aloadN w e35_15 (q := 16) rfl rfl rfl ?_
    refine g_virtualP w (con_aisl0 l Z a0 hw x _ w.old F_coder_x hcm) no0 X_x e35_16 (q := 19) rfl rfl (hw _ (List.mem_of_getElem? (i := 141) rfl)) (hw _ (List.mem_of_getElem? (i := 142) rfl)) (hw _ (List.mem_of_getElem? (i := 144) rfl)) (hw _ (List.mem_of_getElem? (i := 143) rfl)) (hw _ (List.mem_of_getElem? (i := 59) rfl)) (hw _ (List.mem_of_getElem? (i := 145) rfl)) (by decide) (nf (hw _ (List.mem_of_getElem? (i := 144) rfl))) pd14 rfl rfl (W := 0) (Nat.le_of_eq rfl) (by decide) (by decide) (by decide) (by decide) (fun T v w C q => ?_)
    replace s_y := C.safe X_y.lt s_y
    obtain rfl := q
    show Go p e below _ (State.setTop T (mkF m 19 #[.val (.ref y), .val (.ref x), .val .null, .val (.ref b), .val (.int (Int32.ofNat cs.length))] [(.int (1 : Int32))]))
    refine g_ifN w e35_19 (q := 22) rfl (by decide) ?_
    refine g_aloadN w e35_22 (q := 23) rfl rfl rfl ?_
    refine g_iconst w e35_23 (q := 24) rfl (v := (0 : Int32)) (by decide) ?_
    have g_ := w.chv
    refine g_putF w e35_24 (q := 27) rfl (hw _ (List.mem_of_getElem? (i := 27) rfl)) Via.refl F_coder_y X_y (Or.inr ⟨(hw _ (List.mem_of_getElem? (i := 23) rfl)), rfl, rfl⟩) (hw _ (List.mem_of_getElem? (i := 7) rfl)) (ty := .byte) (by decide) (v' := (.int (0 : Int32))) rfl rfl n_y s_y (fun T h w W => ?_)
    replace K0 := K0.wr W (Or.inl (List.mem_singleton.mpr rfl))
    replace s_y := Safe.wr W s_y g_ s_y
    replace X_y := X_y.wr W
    replace F_value_y := F_value_y.other W (Or.inr (slot_ne (Or.inr (hw _ (List.mem_of_getElem? (i := 22) rfl))) (Or.inr (hw _ (List.mem_of_getElem? (i := 23) rfl))) (by decide) (t := (.array .byte)) (t' := .byte) (by decide) (by decide)))
    replace F_coder_y := F_coder_y.same W
    replace X_x := X_x.wr W
    replace F_value_x := F_value_x.other W (Or.inl ne_x_y)
    replace F_coder_x := F_coder_x.other W (Or.inl ne_x_y)
    replace F_count_x := F_count_x.other W (Or.inl ne_x_y)
    replace F_maybeLatin1_x := F_maybeLatin1_x.other W (Or.inl ne_x_y)
    replace A_b := A_b.other W ne_b_y
    replace X_b := X_b.wr W
    refine g_aloadN w e35_27 (q := 28) rfl rfl rfl ?_
    refine g_aloadN w e35_28 (q := 29) rfl rfl rfl ?_
    refine g_iconst w e35_29 (q := 30) rfl (v := (0 : Int32)) (by decide) ?_
    refine g_iload w e35_30 (q := 32) rfl rfl ?_
    refine g_static w (con_cr l Z a0 hw b cs.length vs _ w.old A_b (by omega) (by omega) X_b) no0 e35_32 (q := 35) rfl rfl (hw _ (List.mem_of_getElem? (i := 146) rfl)) (hw _ (List.mem_of_getElem? (i := 147) rfl)) (hw _ (List.mem_of_getElem? (i := 148) rfl)) (hw _ (List.mem_of_getElem? (i := 149) rfl)) (by decide) pd24 rfl rfl (W := 1) (Nat.le_of_eq rfl) (by decide) (by decide) (by decide) (by decide) (fun T h v w gs C q => ?_)
    replace s_y := C.safe X_y.lt s_y
    obtain ⟨u, rfl, E, g_u, A_u⟩ := q
    have z_u := Nat.le_trans K0.1 g_u
    have ne_b_u : b ≠ u := Nat.ne_of_lt (Nat.lt_of_lt_of_le A_b.lt g_u)
    have ne_x_u : x ≠ u := Nat.ne_of_lt (Nat.lt_of_lt_of_le X_x.lt g_u)
    have ne_y_u : y ≠ u := Nat.ne_of_lt (Nat.lt_of_lt_of_le X_y.lt g_u)
    replace K0 := K0.ext E
    replace X_y := X_y.ext E
    replace F_value_y := F_value_y.ext E
    replace F_coder_y := F_coder_y.ext E
    replace X_x := X_x.ext E
    replace F_value_x := F_value_x.ext E
    replace F_coder_x := F_coder_x.ext E
    replace F_count_x := F_count_x.ext E
    replace F_maybeLatin1_x := F_maybeLatin1_x.ext E
    replace A_b := A_b.ext E
    replace X_b := X_b.ext E
    show Go p e below _ (State.setTop T (mkF m 35 #[.val (.ref y), .val (.ref x), .val .null, .val (.ref b), .val (.int (Int32.ofNat cs.length))] [(.ref u), (.ref y)]))
    have g_ := w.chv
    refine g_putF w e35_35 (q := 38) rfl (hw _ (List.mem_of_getElem? (i := 26) rfl)) Via.refl F_value_y X_y (Or.inr ⟨(hw _ (List.mem_of_getElem? (i := 22) rfl)), rfl, rfl⟩) (hw _ (List.mem_of_getElem? (i := 7) rfl)) (ty := (.array .byte)) (by decide) (v' := (.ref u)) rfl rfl n_y s_y (fun T h w W => ?_)
    replace K0 := K0.wr W (Or.inl (List.mem_singleton.mpr rfl))
    replace s_y := Safe.wr W s_y g_ s_y
    replace X_y := X_y.wr W
    replace F_value_y := F_value_y.same W
    replace F_coder_y := F_coder_y.other W (Or.inr (slot_ne (Or.inr (hw _ (List.mem_of_getElem? (i := 23) rfl))) (Or.inr (hw _ (List.mem_of_getElem? (i := 22) rfl))) (by decide) (t := .byte) (t' := (.array .byte)) (by decide) (by decide)))
    replace X_x := X_x.wr W
    replace F_value_x := F_value_x.other W (Or.inl ne_x_y)
    replace F_coder_x := F_coder_x.other W (Or.inl ne_x_y)
    replace F_count_x := F_count_x.other W (Or.inl ne_x_y)
    replace F_maybeLatin1_x := F_maybeLatin1_x.other W (Or.inl ne_x_y)
    replace A_b := A_b.other W ne_b_y
    replace X_b := X_b.wr W
    replace A_u := A_u.other W ne_y_u.symm
    refine g_goto w e35_38 (by decide) (q := 97) (by decide) ?_
    exact g_return w e35_97 rfl (by decide) (by decide) ⟨rfl, K0, Sg.su (sg_of (by omega) hcs X_y F_value_y F_coder_y (by rw [pre_take hvs] at A_u; exact A_u))⟩
  · subst ecd
    refine g_aloadN w e35_0 (q := 1) rfl rfl rfl ?_
    refine g_initO w e35_1 (q := 4) rfl rfl (hw _ (List.mem_of_getElem? (i := 17) rfl)) (hw _ (List.mem_of_getElem? (i := 18) rfl)) (hw _ (List.mem_of_getElem? (i := 19) rfl)) (W := 0) (Nat.le_of_eq rfl) (by decide) (by decide) (fun T w => ?_)
    refine g_aloadN w e35_4 (q := 5) rfl rfl rfl ?_
    refine g_virtualP w (con_gv l Z a0 hw x b _ w.old F_value_x) no0 X_x e35_5 (q := 8) rfl rfl (hw _ (List.mem_of_getElem? (i := 128) rfl)) (hw _ (List.mem_of_getElem? (i := 129) rfl)) (hw _ (List.mem_of_getElem? (i := 131) rfl)) (hw _ (List.mem_of_getElem? (i := 130) rfl)) (hw _ (List.mem_of_getElem? (i := 59) rfl)) (hw _ (List.mem_of_getElem? (i := 132) rfl)) (by decide) (nf (hw _ (List.mem_of_getElem? (i := 131) rfl))) pd25 rfl rfl (W := 0) (Nat.le_of_eq rfl) (by decide) (by decide) (by decide) (by decide) (fun T v w C q => ?_)
    replace s_y := C.safe X_y.lt s_y
    obtain rfl := q
    show Go p e below _ (State.setTop T (mkF m 8 #[.val (.ref y), .val (.ref x), .val .null, .unset, .unset] [(.ref b)]))
    refine g_astoreN w e35_8 (q := 9) rfl rfl (Ls' := #[.val (.ref y), .val (.ref x), .val .null, .val (.ref b), .unset]) rfl ?_
    refine g_aloadN w e35_9 (q := 10) rfl rfl rfl ?_
    refine g_virtualP w (con_slen l Z a0 hw x (Int32.ofNat cs.length) _ w.old X_x F_count_x) no0 X_x e35_10 (q := 13) rfl rfl (hw _ (List.mem_of_getElem? (i := 133) rfl)) (hw _ (List.mem_of_getElem? (i := 134) rfl)) (hw _ (List.mem_of_getElem? (i := 136) rfl)) (hw _ (List.mem_of_getElem? (i := 137) rfl)) (hw _ (List.mem_of_getElem? (i := 51) rfl)) (hw _ (List.mem_of_getElem? (i := 138) rfl)) (by decide) (nfC (hw _ (List.mem_of_getElem? (i := 94) rfl)) rfl) pd19 rfl rfl (W := 0) (Nat.le_of_eq rfl) (by decide) (by decide) (by decide) (by decide) (fun T v w C q => ?_)
    replace s_y := C.safe X_y.lt s_y
    obtain rfl := q
    show Go p e below _ (State.setTop T (mkF m 13 #[.val (.ref y), .val (.ref x), .val .null, .val (.ref b), .unset] [(.int (Int32.ofNat cs.length))]))
    refine g_istore w e35_13 (q := 15) rfl (Ls' := #[.val (.ref y), .val (.ref x), .val .null, .val (.ref b), .val (.int (Int32.ofNat cs.length))]) rfl ?_
    refine g_aloadN w e35_15 (q := 16) rfl rfl rfl ?_
    refine g_virtualP w (con_aisl1 l Z a0 hw x _ w.old F_coder_x hcm) no0 X_x e35_16 (q := 19) rfl rfl (hw _ (List.mem_of_getElem? (i := 141) rfl)) (hw _ (List.mem_of_getElem? (i := 142) rfl)) (hw _ (List.mem_of_getElem? (i := 144) rfl)) (hw _ (List.mem_of_getElem? (i := 143) rfl)) (hw _ (List.mem_of_getElem? (i := 59) rfl)) (hw _ (List.mem_of_getElem? (i := 145) rfl)) (by decide) (nf (hw _ (List.mem_of_getElem? (i := 144) rfl))) pd14 rfl rfl (W := 0) (Nat.le_of_eq rfl) (by decide) (by decide) (by decide) (by decide) (fun T v w C q => ?_)
    replace s_y := C.safe X_y.lt s_y
    obtain rfl := q
    show Go p e below _ (State.setTop T (mkF m 19 #[.val (.ref y), .val (.ref x), .val .null, .val (.ref b), .val (.int (Int32.ofNat cs.length))] [(.int (0 : Int32))]))
    refine g_ifY w e35_19 (by decide) (q := 41) (by decide) (by decide) ?_
    refine g_getS w e35_41 (q := 44) rfl (hw _ (List.mem_of_getElem? (i := 88) rfl)) Via.refl SC_ (fun T w => ?_)
    refine g_ifN w e35_44 (q := 47) rfl (Jvm.Free.XT.i0_eq_f hz_) ?_
    refine g_aloadN w e35_47 (q := 48) rfl rfl rfl ?_
    refine g_getF w e35_48 (q := 51) rfl (host := "") (Or.inl (hw _ (List.mem_of_getElem? (i := 227) rfl))) Via.refl F_maybeLatin1_x (fun T w => ?_)
    refine g_ifY w e35_51 (by decide) (q := 79) (by decide) (by decide) ?_
    refine g_aloadN w e35_79 (q := 80) rfl rfl rfl ?_
    refine g_iconst w e35_80 (q := 81) rfl (v := (1 : Int32)) (by decide) ?_
    have g_ := w.chv
    refine g_putF w e35_81 (q := 84) rfl (hw _ (List.mem_of_getElem? (i := 27) rfl)) Via.refl F_coder_y X_y (Or.inr ⟨(hw _ (List.mem_of_getElem? (i := 23) rfl)), rfl, rfl⟩) (hw _ (List.mem_of_getElem? (i := 7) rfl)) (ty := .byte) (by decide) (v' := (.int (1 : Int32))) rfl rfl n_y s_y (fun T h w W => ?_)
    replace K0 := K0.wr W (Or.inl (List.mem_singleton.mpr rfl))
    replace s_y := Safe.wr W s_y g_ s_y
    replace X_y := X_y.wr W
    replace F_value_y := F_value_y.other W (Or.inr (slot_ne (Or.inr (hw _ (List.mem_of_getElem? (i := 22) rfl))) (Or.inr (hw _ (List.mem_of_getElem? (i := 23) rfl))) (by decide) (t := (.array .byte)) (t' := .byte) (by decide) (by decide)))
    replace F_coder_y := F_coder_y.same W
    replace X_x := X_x.wr W
    replace F_value_x := F_value_x.other W (Or.inl ne_x_y)
    replace F_coder_x := F_coder_x.other W (Or.inl ne_x_y)
    replace F_count_x := F_count_x.other W (Or.inl ne_x_y)
    replace F_maybeLatin1_x := F_maybeLatin1_x.other W (Or.inl ne_x_y)
    replace A_b := A_b.other W ne_b_y
    replace X_b := X_b.wr W
    refine g_aloadN w e35_84 (q := 85) rfl rfl rfl ?_
    refine g_aloadN w e35_85 (q := 86) rfl rfl rfl ?_
    refine g_iconst w e35_86 (q := 87) rfl (v := (0 : Int32)) (by decide) ?_
    refine g_iload w e35_87 (q := 89) rfl rfl ?_
    refine g_iconst w e35_89 (q := 90) rfl (v := (1 : Int32)) (by decide) ?_
    refine g_ishl w e35_90 (q := 91) rfl ?_
    rw [shl1 _ (by omega)]
    show Go p e below _ (State.setTop T (mkF m 91 #[.val (.ref y), .val (.ref x), .val .null, .val (.ref b), .val (.int (Int32.ofNat cs.length))] [(.int (Int32.ofNat (2 * cs.length))), (.int (0 : Int32)), (.ref b), (.ref y)]))
    refine g_static w (con_cr l Z a0 hw b (2 * cs.length) vs _ w.old A_b (by omega) (by omega) X_b) no0 e35_91 (q := 94) rfl rfl (hw _ (List.mem_of_getElem? (i := 146) rfl)) (hw _ (List.mem_of_getElem? (i := 147) rfl)) (hw _ (List.mem_of_getElem? (i := 148) rfl)) (hw _ (List.mem_of_getElem? (i := 149) rfl)) (by decide) pd24 rfl rfl (W := 1) (Nat.le_of_eq rfl) (by decide) (by decide) (by decide) (by decide) (fun T h v w gs C q => ?_)
    replace s_y := C.safe X_y.lt s_y
    obtain ⟨u, rfl, E, g_u, A_u⟩ := q
    have z_u := Nat.le_trans K0.1 g_u
    have ne_b_u : b ≠ u := Nat.ne_of_lt (Nat.lt_of_lt_of_le A_b.lt g_u)
    have ne_x_u : x ≠ u := Nat.ne_of_lt (Nat.lt_of_lt_of_le X_x.lt g_u)
    have ne_y_u : y ≠ u := Nat.ne_of_lt (Nat.lt_of_lt_of_le X_y.lt g_u)
    replace K0 := K0.ext E
    replace X_y := X_y.ext E
    replace F_value_y := F_value_y.ext E
    replace F_coder_y := F_coder_y.ext E
    replace X_x := X_x.ext E
    replace F_value_x := F_value_x.ext E
    replace F_coder_x := F_coder_x.ext E
    replace F_count_x := F_count_x.ext E
    replace F_maybeLatin1_x := F_maybeLatin1_x.ext E
    replace A_b := A_b.ext E
    replace X_b := X_b.ext E
    show Go p e below _ (State.setTop T (mkF m 94 #[.val (.ref y), .val (.ref x), .val .null, .val (.ref b), .val (.int (Int32.ofNat cs.length))] [(.ref u), (.ref y)]))
    have g_ := w.chv
    refine g_putF w e35_94 (q := 97) rfl (hw _ (List.mem_of_getElem? (i := 26) rfl)) Via.refl F_value_y X_y (Or.inr ⟨(hw _ (List.mem_of_getElem? (i := 22) rfl)), rfl, rfl⟩) (hw _ (List.mem_of_getElem? (i := 7) rfl)) (ty := (.array .byte)) (by decide) (v' := (.ref u)) rfl rfl n_y s_y (fun T h w W => ?_)
    replace K0 := K0.wr W (Or.inl (List.mem_singleton.mpr rfl))
    replace s_y := Safe.wr W s_y g_ s_y
    replace X_y := X_y.wr W
    replace F_value_y := F_value_y.same W
    replace F_coder_y := F_coder_y.other W (Or.inr (slot_ne (Or.inr (hw _ (List.mem_of_getElem? (i := 23) rfl))) (Or.inr (hw _ (List.mem_of_getElem? (i := 22) rfl))) (by decide) (t := .byte) (t' := (.array .byte)) (by decide) (by decide)))
    replace X_x := X_x.wr W
    replace F_value_x := F_value_x.other W (Or.inl ne_x_y)
    replace F_coder_x := F_coder_x.other W (Or.inl ne_x_y)
    replace F_count_x := F_count_x.other W (Or.inl ne_x_y)
    replace F_maybeLatin1_x := F_maybeLatin1_x.other W (Or.inl ne_x_y)
    replace A_b := A_b.other W ne_b_y
    replace X_b := X_b.wr W
    replace A_u := A_u.other W ne_y_u.symm
    exact g_return w e35_97 rfl (by decide) (by decide) ⟨rfl, K0, su_of (by omega) hl X_y F_value_y F_coder_y (by rw [wide_take hvs] at A_u; exact A_u) hcs⟩
theorem e36_0 : decode jdk_42_method_53_code 0 = .ok (.aload_n 0, 1) := by decide +kernel
theorem e36_1 : decode jdk_42_method_53_code 1 = .ok (.aload_n 1, 1) := by decide +kernel
theorem e36_2 : decode jdk_42_method_53_code 2 = .ok (.aconst_null, 1) := by decide +kernel
theorem e36_3 : decode jdk_42_method_53_code 3 = .ok (.invokespecial 489, 3) := by decide +kernel
theorem e36_6 : decode jdk_42_method_53_code 6 = .ok (.return_, 1) := by decide +kernel
theorem pd26 : parseMethodDescriptor "(Ljava/lang/AbstractStringBuilder;Ljava/lang/Void;)V" = some ⟨[(.object "java/lang/AbstractStringBuilder"), (.object "java/lang/Void")], none⟩ := by decide +kernel
set_option maxRecDepth 65536 in
set_option maxHeartbeats 40000000 in
theorem con_iss (l : Launch) (Z : State) (a0 : Array Value) (hw : ∀ d ∈ tables_1, d.before a0 Z = true) (y x b : Addr) (cs : List Int32) (h0 : Heap) (O0 : Ext Z.heap h0) (X_y : Exa Z h0 y "java/lang/String") (F_value_y : Fld Z h0 y "java/lang/String" "value" "[B" .null) (F_coder_y : Fld Z h0 y "java/lang/String" "coder" "B" (.int (0 : Int32))) (n_y : Z.heap.size ≤ y) (ne_x_y : x ≠ y) (ne_b_y : b ≠ y) (B_x : Bc Z h0 x b (Int32.ofNat cs.length) cs) (hl : ∀ c ∈ cs, Lt16 c) (hn : cs.length ≤ 16) (hcm : Cpt Z) :
    Con l Z consts_1 false (⟨"java/lang/String", "<init>", "(Ljava/lang/StringBuilder;)V"⟩ : MethodName) jdk_42_method_53_code 2 none [] ({ frames := 4, cells := 1, slots := 32, locals := 65 } : Room) #[(.ref y), (.ref x)] [] h0 (fun v h => v = none ∧ Keep h0 h [y] ∧ Su Z h y cs) := by
  refine Con.intro (Ls := #[.val (.ref y), .val (.ref x)]) (plainFor_of_name pn0) (own_EL hw) O0 (fun m => by first | (simp [entryFrame, mkF, argsToLocals, Value.category]; done) | rfl) (fun p e s m below meth cc_ T w sf_ => ?_)
  have K0 := Keep.refl h0 [y]
  refine g_aloadN w e36_0 (q := 1) rfl rfl rfl ?_
  refine g_aloadN w e36_1 (q := 2) rfl rfl rfl ?_
  refine g_anull w e36_2 (q := 3) rfl ?_
  refine g_special w (con_isa l Z a0 hw y x b cs _ w.old X_y F_value_y F_coder_y n_y ne_x_y ne_b_y B_x hl hn hcm) no0 e36_3 (q := 6) rfl rfl rfl (hw _ (List.mem_of_getElem? (i := 125) rfl)) (hw _ (List.mem_of_getElem? (i := 126) rfl)) (hw _ (List.mem_of_getElem? (i := 8) rfl)) (hw _ (List.mem_of_getElem? (i := 127) rfl)) (by decide) pd26 rfl rfl (W := 0) (Nat.le_of_eq rfl) (by decide) (by decide) (by decide) (by decide) (fun T h v w gs C q => ?_)
  obtain ⟨rfl, K, U_y⟩ := q
  replace K0 := keep_same K0 K
  show Go p e below _ (State.setTop T (mkF m 6 #[.val (.ref y), .val (.ref x)] []))
  exact g_return w e36_6 rfl (by decide) (by decide) ⟨rfl, K0, U_y⟩
theorem e37_0 : decode jdk_67_method_42_code 0 = .ok (.new 18, 3) := by decide +kernel
theorem e37_3 : decode jdk_67_method_42_code 3 = .ok (.dup, 1) := by decide +kernel
theorem e37_4 : decode jdk_67_method_42_code 4 = .ok (.aload_n 0, 1) := by decide +kernel
theorem e37_5 : decode jdk_67_method_42_code 5 = .ok (.invokespecial 137, 3) := by decide +kernel
theorem e37_8 : decode jdk_67_method_42_code 8 = .ok (.areturn, 1) := by decide +kernel
theorem pd27 : parseMethodDescriptor "(Ljava/lang/StringBuilder;)V" = some ⟨[(.object "java/lang/StringBuilder")], none⟩ := by decide +kernel
set_option maxRecDepth 65536 in
set_option maxHeartbeats 40000000 in
theorem con_ts (l : Launch) (Z : State) (a0 : Array Value) (hw : ∀ d ∈ tables_1, d.before a0 Z = true) (x b : Addr) (cs : List Int32) (h0 : Heap) (O0 : Ext Z.heap h0) (B_x : Bc Z h0 x b (Int32.ofNat cs.length) cs) (hl : ∀ c ∈ cs, Lt16 c) (hn : cs.length ≤ 16) (hcm : Cpt Z) :
    Con l Z consts_1 false (⟨"java/lang/StringBuilder", "toString", "()Ljava/lang/String;"⟩ : MethodName) jdk_67_method_42_code 1 (some (.object "java/lang/String")) [] ({ frames := 5, cells := 2, slots := 36, locals := 79 } : Room) #[(.ref x)] [] h0 (fun v h => ∃ r, v = some (.ref r) ∧ Ext h0 h ∧ h0.size ≤ r ∧ Su Z h r cs) := by
  refine Con.intro (Ls := #[.val (.ref x)]) (plainFor_of_name pn4) (own_EL hw) O0 (fun m => by first | (simp [entryFrame, mkF, argsToLocals, Value.category]; done) | rfl) (fun p e s m below meth cc_ T w sf_ => ?_)
  have E0 := ext_refl h0
  refine g_new w e37_0 (q := 3) rfl (hw _ (List.mem_of_getElem? (i := 121) rfl)) (hw _ (List.mem_of_getElem? (i := 7) rfl)) (hw _ (List.mem_of_getElem? (i := 8) rfl)) (by decide) (by decide) (fun T h a1 w E g_a1 n_a1 X_a1 D_a1 s_a1 => ?_)
  have z_a1 := Nat.le_trans E0.1 g_a1
  have ne_x_a1 : x ≠ a1 := Nat.ne_of_lt (Nat.lt_of_lt_of_le B_x.lt g_a1)
  have ne_b_a1 : b ≠ a1 := Nat.ne_of_lt (Nat.lt_of_lt_of_le B_x.ltb g_a1)
  replace E0 := ext_trans E0 E
  replace B_x := B_x.ext E
  have F_value_a1 := D_a1 (Or.inr (hw _ (List.mem_of_getElem? (i := 22) rfl))) (ty := (.array .byte)) (by decide)
  replace F_value_a1 : Fld Z h a1 "java/lang/String" "value" "[B" .null := F_value_a1
  have F_coder_a1 := D_a1 (Or.inr (hw _ (List.mem_of_getElem? (i := 23) rfl))) (ty := .byte) (by decide)
  replace F_coder_a1 : Fld Z h a1 "java/lang/String" "coder" "B" (.int (0 : Int32)) := F_coder_a1
  refine g_dup w e37_3 (q := 4) rfl rfl ?_
  refine g_aloadN w e37_4 (q := 5) rfl rfl rfl ?_
  refine g_special w (con_iss l Z a0 hw a1 x b cs _ w.old X_a1 F_value_a1 F_coder_a1 n_a1 ne_x_a1 ne_b_a1 B_x hl hn hcm) no0 e37_5 (q := 8) rfl rfl rfl (hw _ (List.mem_of_getElem? (i := 122) rfl)) (hw _ (List.mem_of_getElem? (i := 123) rfl)) (hw _ (List.mem_of_getElem? (i := 8) rfl)) (hw _ (List.mem_of_getElem? (i := 124) rfl)) (by decide) pd27 rfl rfl (W := 1) (Nat.le_of_eq rfl) (by decide) (by decide) (by decide) (by decide) (fun T h v w gs C q => ?_)
  obtain ⟨rfl, K, U_a1⟩ := q
  replace E0 := ext_keep E0 K z_a1
  show Go p e below _ (State.setTop T (mkF m 8 #[.val (.ref x)] [(.ref a1)]))
  exact g_reta w e37_8 rfl rfl rfl (by decide) (by decide) ⟨_, rfl, E0, z_a1, U_a1⟩
theorem Su.wrC {Z : State} {h h' : Heap} {x a : Addr} {cs : List Int32} {ws : List Value} {sl : Nat} {v : Value} (F : Su Z h x cs) (W : Wr h h' a sl v) (A : Ar Z h a .char ws) (q : x ≠ a) : Su Z h' x cs := by
  obtain ⟨a1, a2, a3, t, kb, cd, N2, vs, d, e, f, g⟩ := F
  have ne : t ≠ a := fun e0 => by
    subst e0
    obtain ⟨c1, ⟨B1, ⟨-, k1, hk1, cm1, e1⟩, -⟩, -⟩ := f
    obtain ⟨-, _, _, c2, ⟨A1, ⟨-, k2, hk2, cm2, e2⟩, -⟩, -⟩ := A
    cases B1.symm.trans A1
    cases hk1.symm.trans hk2
    rw [e1] at e2; cases e2
  exact ⟨a1, a2, a3.wr W, t, kb, cd, N2, vs, d.other W (Or.inl q), e.other W (Or.inl q), f.other W ne, g⟩
theorem i2c_chr (x : Int32) : Lt16 x.toUInt32.toUInt16.toUInt32.toInt32 := by have := Jvm.RoadKit.c_i2c x; exact Lt16.of this.2.1 (by omega)
theorem own_eqU {p : Program} {l : Launch} {e : Env} {R : Room} {args : Array Value} {below : List Frame} {W : Nat} {Z : State} {a0 : Array Value} {h : Heap} (hw : ∀ d ∈ tables_1, d.before a0 Z = true) {x y : Addr} {cs ds : List Int32} {z : Int32} (S1 : Su Z h x cs) (S2 : Su Z h y ds) (S : Sta Z h "java/lang/String" "COMPACT_STRINGS" "Z" (.int z)) (hz : ¬ z = 0) (hfr : 2 ≤ R.frames) (hlo : W + 28 ≤ R.locals) (s' : State) (hZ' : Z.Warmed39 s'.vm) :
    Back l R p e below s' args (⟨"java/lang/String", "equals", "(Ljava/lang/Object;)Z"⟩ : MethodName) 3 W (fun P a' => a' = #[.ref x, .ref y] ∧ P.U.heap = h ∧ P.cells + 0 ≤ R.cells ∧ P.slots + 0 ≤ R.slots) (fun P _ v B => ∃ L, (((v = some (.int 1) ∧ cs = ds) ∨ (v = some (.int 0) ∧ ¬ cs = ds)) ∧ L = [] ∧ B.U.heap = h) ∧ B.locs = P.locs ++ L ∧ B.cells = P.cells + 0 ∧ B.slots = P.slots + 0) := by
  obtain ⟨l1, b1, E1, t1, k1, cd1, N1, vs1, V1, C1, A1, hc1⟩ := S1
  obtain ⟨l2, b2, E2, t2, k2, cd2, N2, vs2, V2, C2, A2, hc2⟩ := S2
  exact StrChars.Road.eqW hZ' (own_hEq hw) (kI := 4) (hw _ (List.mem_of_getElem? (i := 7) rfl)) E1 V1 C1 A1 hc1 b1 l1 E2 V2 C2 A2 hc2 b2 l2 S hz hfr hlo
theorem e38_0 : decode method_2_code 0 = .ok (.iload_n 0, 1) := by decide +kernel
theorem e38_1 : decode method_2_code 1 = .ok (.ifCond .ne 14, 3) := by decide +kernel
theorem e38_4 : decode method_2_code 4 = .ok (.new 7, 3) := by decide +kernel
theorem e38_7 : decode method_2_code 7 = .ok (.dup, 1) := by decide +kernel
theorem e38_8 : decode method_2_code 8 = .ok (.iconst 0, 1) := by decide +kernel
theorem e38_9 : decode method_2_code 9 = .ok (.newarray .char, 2) := by decide +kernel
theorem e38_11 : decode method_2_code 11 = .ok (.invokespecial 9, 3) := by decide +kernel
theorem e38_14 : decode method_2_code 14 = .ok (.areturn, 1) := by decide +kernel
theorem e38_15 : decode method_2_code 15 = .ok (.iload_n 0, 1) := by decide +kernel
theorem e38_16 : decode method_2_code 16 = .ok (.iconst 1, 1) := by decide +kernel
theorem e38_17 : decode method_2_code 17 = .ok (.if_icmp .ne 18, 3) := by decide +kernel
theorem e38_20 : decode method_2_code 20 = .ok (.new 7, 3) := by decide +kernel
theorem e38_23 : decode method_2_code 23 = .ok (.dup, 1) := by decide +kernel
theorem e38_24 : decode method_2_code 24 = .ok (.iconst 1, 1) := by decide +kernel
theorem e38_25 : decode method_2_code 25 = .ok (.newarray .char, 2) := by decide +kernel
theorem e38_27 : decode method_2_code 27 = .ok (.dup, 1) := by decide +kernel
theorem e38_28 : decode method_2_code 28 = .ok (.iconst 0, 1) := by decide +kernel
theorem e38_29 : decode method_2_code 29 = .ok (.iload_n 1, 1) := by decide +kernel
theorem e38_30 : decode method_2_code 30 = .ok (.castore, 1) := by decide +kernel
theorem e38_31 : decode method_2_code 31 = .ok (.invokespecial 9, 3) := by decide +kernel
theorem e38_34 : decode method_2_code 34 = .ok (.areturn, 1) := by decide +kernel
theorem e38_35 : decode method_2_code 35 = .ok (.new 7, 3) := by decide +kernel
theorem e38_38 : decode method_2_code 38 = .ok (.dup, 1) := by decide +kernel
theorem e38_39 : decode method_2_code 39 = .ok (.iconst 2, 1) := by decide +kernel
theorem e38_40 : decode method_2_code 40 = .ok (.newarray .char, 2) := by decide +kernel
theorem e38_42 : decode method_2_code 42 = .ok (.dup, 1) := by decide +kernel
theorem e38_43 : decode method_2_code 43 = .ok (.iconst 0, 1) := by decide +kernel
theorem e38_44 : decode method_2_code 44 = .ok (.iload_n 1, 1) := by decide +kernel
theorem e38_45 : decode method_2_code 45 = .ok (.castore, 1) := by decide +kernel
theorem e38_46 : decode method_2_code 46 = .ok (.dup, 1) := by decide +kernel
theorem e38_47 : decode method_2_code 47 = .ok (.iconst 1, 1) := by decide +kernel
theorem e38_48 : decode method_2_code 48 = .ok (.iload_n 2, 1) := by decide +kernel
theorem e38_49 : decode method_2_code 49 = .ok (.castore, 1) := by decide +kernel
theorem e38_50 : decode method_2_code 50 = .ok (.invokespecial 9, 3) := by decide +kernel
theorem e38_53 : decode method_2_code 53 = .ok (.areturn, 1) := by decide +kernel
theorem pd28 : parseMethodDescriptor "([C)V" = some ⟨[(.array .char)], none⟩ := by decide +kernel
theorem pn8 : plainName "com/example/devizes/devizes/zookeeper/ZooKeeperAddressToStringPinLaw" = true := by first | (simp [plainName, overriddenIn]; done) | decide +kernel
set_option maxRecDepth 65536 in
set_option maxHeartbeats 40000000 in
theorem con_mk (l : Launch) (Z : State) (a0 : Array Value) (hw : ∀ d ∈ tables_1, d.before a0 Z = true) (fm : Value) (n_ c0 c1 : Int32) (h0 : Heap) (O0 : Ext Z.heap h0) (l0 : Lt16 c0) (l1 : Lt16 c1) (hcm : Cpt Z) (SFm : Sta Z Z.heap "jdk/internal/util/Preconditions" "SIOOBE_FORMATTER" "Ljava/util/function/BiFunction;" fm) (rfm : fm.isRef = true) (SA_ : Sta Z Z.heap "java/lang/StringUTF16" "$assertionsDisabled" "Z" (.int 1)) (SH_ : Sta Z Z.heap "java/lang/StringUTF16" "HI_BYTE_SHIFT" "I" (.int 0)) (SL_ : Sta Z Z.heap "java/lang/StringUTF16" "LO_BYTE_SHIFT" "I" (.int 8)) :
    Con l Z consts_1 false (⟨"com/example/devizes/devizes/zookeeper/ZooKeeperAddressToStringPinLaw", "mk", "(ICC)Ljava/lang/String;"⟩ : MethodName) method_2_code 3 (some (.object "java/lang/String")) [] ({ frames := 6, cells := 6, slots := 54, locals := 88 } : Room) #[(.int n_), (.int c0), (.int c1)] [] h0 (fun v h => ∃ x, v = some (.ref x) ∧ Ext h0 h ∧ h0.size ≤ x ∧ Su Z h x (sg n_ c0 c1)) := by
  refine Con.intro (Ls := #[.val (.int n_), .val (.int c0), .val (.int c1)]) (plainFor_of_name pn8) (own_EL hw) O0 (fun m => by first | (simp [entryFrame, mkF, argsToLocals, Value.category]; done) | rfl) (fun p e s m below meth cc_ T w sf_ => ?_)
  have E0 := ext_refl h0
  obtain ⟨z_, hz_, SC_⟩ := id hcm
  refine g_iloadN w e38_0 (q := 1) rfl rfl ?_
  refine g_if_ne w e38_1 (by decide) (q := 15) (by decide) (q' := 4) rfl (fun cd1 => ?_) (fun cd1 => ?_)
  · refine g_iloadN w e38_15 (q := 16) rfl rfl ?_
    refine g_iconst w e38_16 (q := 17) rfl (v := (1 : Int32)) (by decide) ?_
    refine g_ic_ne w e38_17 (by decide) (q := 35) (by decide) (q' := 20) rfl (fun cd2 => ?_) (fun cd2 => ?_)
    · refine g_new w e38_35 (q := 38) rfl (hw _ (List.mem_of_getElem? (i := 6) rfl)) (hw _ (List.mem_of_getElem? (i := 7) rfl)) (hw _ (List.mem_of_getElem? (i := 8) rfl)) (by decide) (by decide) (fun T h a3 w E g_a3 n_a3 X_a3 D_a3 s_a3 => ?_)
      have z_a3 := Nat.le_trans E0.1 g_a3
      replace E0 := ext_trans E0 E
      have F_value_a3 := D_a3 (Or.inr (hw _ (List.mem_of_getElem? (i := 22) rfl))) (ty := (.array .byte)) (by decide)
      replace F_value_a3 : Fld Z h a3 "java/lang/String" "value" "[B" .null := F_value_a3
      have F_coder_a3 := D_a3 (Or.inr (hw _ (List.mem_of_getElem? (i := 23) rfl))) (ty := .byte) (by decide)
      replace F_coder_a3 : Fld Z h a3 "java/lang/String" "coder" "B" (.int (0 : Int32)) := F_coder_a3
      refine g_dup w e38_38 (q := 39) rfl rfl ?_
      refine g_iconst w e38_39 (q := 40) rfl (v := (2 : Int32)) (by decide) ?_
      refine g_newarr w e38_40 (q := 42) rfl (hw _ (List.mem_of_getElem? (i := 9) rfl)) (len := 2) (cap := 2) (by decide) (by decide) (by decide) (by decide) (by decide) (fun T h a4 w E g_a4 n_a4 A_a4 s_a4 => ?_)
      have z_a4 := Nat.le_trans E0.1 g_a4
      have ne_a3_a4 : a3 ≠ a4 := Nat.ne_of_lt (Nat.lt_of_lt_of_le X_a3.lt g_a4)
      replace E0 := ext_trans E0 E
      replace X_a3 := X_a3.ext E
      replace F_value_a3 := F_value_a3.ext E
      replace F_coder_a3 := F_coder_a3.ext E
      replace A_a4 : Ar Z h a4 .char [(.int (0 : Int32)), (.int (0 : Int32))] := A_a4
      refine g_dup w e38_42 (q := 43) rfl rfl ?_
      refine g_iconst w e38_43 (q := 44) rfl (v := (0 : Int32)) (by decide) ?_
      refine g_iloadN w e38_44 (q := 45) rfl rfl ?_
      refine g_castore w e38_45 (q := 46) rfl A_a4 (i := 0) (by decide) (Nat.le_of_ble_eq_true rfl) (x' := c0) (nar_chr l0) n_a4 (w.safeAr A_a4 (by decide)) (fun T h w W V => ?_)
      replace E0 := ext_wr E0 W z_a4
      replace X_a3 := X_a3.wr W
      replace F_value_a3 := F_value_a3.other W (Or.inl ne_a3_a4)
      replace F_coder_a3 := F_coder_a3.other W (Or.inl ne_a3_a4)
      replace A_a4 : Ar Z h a4 .char [(.int c0), (.int (0 : Int32))] := V
      refine g_dup w e38_46 (q := 47) rfl rfl ?_
      refine g_iconst w e38_47 (q := 48) rfl (v := (1 : Int32)) (by decide) ?_
      refine g_iloadN w e38_48 (q := 49) rfl rfl ?_
      refine g_castore w e38_49 (q := 50) rfl A_a4 (i := 1) (by decide) (Nat.le_of_ble_eq_true rfl) (x' := c1) (nar_chr l1) n_a4 (w.safeAr A_a4 (by decide)) (fun T h w W V => ?_)
      replace E0 := ext_wr E0 W z_a4
      replace X_a3 := X_a3.wr W
      replace F_value_a3 := F_value_a3.other W (Or.inl ne_a3_a4)
      replace F_coder_a3 := F_coder_a3.other W (Or.inl ne_a3_a4)
      replace A_a4 : Ar Z h a4 .char [(.int c0), (.int c1)] := V
      refine g_special w (con_new1U l Z a0 hw a3 a4 [c0, c1] _ w.old X_a3 F_value_a3 F_coder_a3 n_a3 A_a4 ne_a3_a4.symm (Nat.le_of_ble_eq_true rfl) (csS l0 (csS l1 cs0)) (Nat.le_of_ble_eq_true rfl) hcm SA_ SH_ SL_) no0 e38_50 (q := 53) rfl rfl rfl (hw _ (List.mem_of_getElem? (i := 10) rfl)) (hw _ (List.mem_of_getElem? (i := 11) rfl)) (hw _ (List.mem_of_getElem? (i := 8) rfl)) (hw _ (List.mem_of_getElem? (i := 12) rfl)) (by decide) pd28 rfl rfl (W := 1) (Nat.le_of_eq rfl) (by decide) (by decide) (by decide) (by decide) (fun T h v w gs C q => ?_)
      obtain ⟨rfl, K, U_a3⟩ := q
      replace E0 := ext_keep E0 K z_a3
      have X0 := X_a3
      replace X_a3 := X_a3.keep K
      replace A_a4 := A_a4.keep K (not1 ne_a3_a4.symm)
      show Go p e below _ (State.setTop T (mkF m 53 #[.val (.int n_), .val (.int c0), .val (.int c1)] [(.ref a3)]))
      exact g_reta w e38_53 rfl rfl rfl (by decide) (by decide) ⟨_, rfl, E0, z_a3, by rw [show sg n_ c0 c1 = [c0, c1] from by simp [sg, cd1, cd2]]; exact U_a3⟩
    · refine g_new w e38_20 (q := 23) rfl (hw _ (List.mem_of_getElem? (i := 6) rfl)) (hw _ (List.mem_of_getElem? (i := 7) rfl)) (hw _ (List.mem_of_getElem? (i := 8) rfl)) (by decide) (by decide) (fun T h a5 w E g_a5 n_a5 X_a5 D_a5 s_a5 => ?_)
      have z_a5 := Nat.le_trans E0.1 g_a5
      replace E0 := ext_trans E0 E
      have F_value_a5 := D_a5 (Or.inr (hw _ (List.mem_of_getElem? (i := 22) rfl))) (ty := (.array .byte)) (by decide)
      replace F_value_a5 : Fld Z h a5 "java/lang/String" "value" "[B" .null := F_value_a5
      have F_coder_a5 := D_a5 (Or.inr (hw _ (List.mem_of_getElem? (i := 23) rfl))) (ty := .byte) (by decide)
      replace F_coder_a5 : Fld Z h a5 "java/lang/String" "coder" "B" (.int (0 : Int32)) := F_coder_a5
      refine g_dup w e38_23 (q := 24) rfl rfl ?_
      refine g_iconst w e38_24 (q := 25) rfl (v := (1 : Int32)) (by decide) ?_
      refine g_newarr w e38_25 (q := 27) rfl (hw _ (List.mem_of_getElem? (i := 9) rfl)) (len := 1) (cap := 1) (by decide) (by decide) (by decide) (by decide) (by decide) (fun T h a6 w E g_a6 n_a6 A_a6 s_a6 => ?_)
      have z_a6 := Nat.le_trans E0.1 g_a6
      have ne_a5_a6 : a5 ≠ a6 := Nat.ne_of_lt (Nat.lt_of_lt_of_le X_a5.lt g_a6)
      replace E0 := ext_trans E0 E
      replace X_a5 := X_a5.ext E
      replace F_value_a5 := F_value_a5.ext E
      replace F_coder_a5 := F_coder_a5.ext E
      replace A_a6 : Ar Z h a6 .char [(.int (0 : Int32))] := A_a6
      refine g_dup w e38_27 (q := 28) rfl rfl ?_
      refine g_iconst w e38_28 (q := 29) rfl (v := (0 : Int32)) (by decide) ?_
      refine g_iloadN w e38_29 (q := 30) rfl rfl ?_
      refine g_castore w e38_30 (q := 31) rfl A_a6 (i := 0) (by decide) (Nat.le_of_ble_eq_true rfl) (x' := c0) (nar_chr l0) n_a6 (w.safeAr A_a6 (by decide)) (fun T h w W V => ?_)
      replace E0 := ext_wr E0 W z_a6
      replace X_a5 := X_a5.wr W
      replace F_value_a5 := F_value_a5.other W (Or.inl ne_a5_a6)
      replace F_coder_a5 := F_coder_a5.other W (Or.inl ne_a5_a6)
      replace A_a6 : Ar Z h a6 .char [(.int c0)] := V
      refine g_special w (con_new1U l Z a0 hw a5 a6 [c0] _ w.old X_a5 F_value_a5 F_coder_a5 n_a5 A_a6 ne_a5_a6.symm (Nat.le_of_ble_eq_true rfl) (csS l0 cs0) (Nat.le_of_ble_eq_true rfl) hcm SA_ SH_ SL_) no0 e38_31 (q := 34) rfl rfl rfl (hw _ (List.mem_of_getElem? (i := 10) rfl)) (hw _ (List.mem_of_getElem? (i := 11) rfl)) (hw _ (List.mem_of_getElem? (i := 8) rfl)) (hw _ (List.mem_of_getElem? (i := 12) rfl)) (by decide) pd28 rfl rfl (W := 1) (Nat.le_of_eq rfl) (by decide) (by decide) (by decide) (by decide) (fun T h v w gs C q => ?_)
      obtain ⟨rfl, K, U_a5⟩ := q
      replace E0 := ext_keep E0 K z_a5
      have X0 := X_a5
      replace X_a5 := X_a5.keep K
      replace A_a6 := A_a6.keep K (not1 ne_a5_a6.symm)
      show Go p e below _ (State.setTop T (mkF m 34 #[.val (.int n_), .val (.int c0), .val (.int c1)] [(.ref a5)]))
      exact g_reta w e38_34 rfl rfl rfl (by decide) (by decide) ⟨_, rfl, E0, z_a5, by rw [show sg n_ c0 c1 = [c0] from by simp [sg, cd1, cd2]]; exact U_a5⟩
  · refine g_new w e38_4 (q := 7) rfl (hw _ (List.mem_of_getElem? (i := 6) rfl)) (hw _ (List.mem_of_getElem? (i := 7) rfl)) (hw _ (List.mem_of_getElem? (i := 8) rfl)) (by decide) (by decide) (fun T h a7 w E g_a7 n_a7 X_a7 D_a7 s_a7 => ?_)
    have z_a7 := Nat.le_trans E0.1 g_a7
    replace E0 := ext_trans E0 E
    have F_value_a7 := D_a7 (Or.inr (hw _ (List.mem_of_getElem? (i := 22) rfl))) (ty := (.array .byte)) (by decide)
    replace F_value_a7 : Fld Z h a7 "java/lang/String" "value" "[B" .null := F_value_a7
    have F_coder_a7 := D_a7 (Or.inr (hw _ (List.mem_of_getElem? (i := 23) rfl))) (ty := .byte) (by decide)
    replace F_coder_a7 : Fld Z h a7 "java/lang/String" "coder" "B" (.int (0 : Int32)) := F_coder_a7
    refine g_dup w e38_7 (q := 8) rfl rfl ?_
    refine g_iconst w e38_8 (q := 9) rfl (v := (0 : Int32)) (by decide) ?_
    refine g_newarr w e38_9 (q := 11) rfl (hw _ (List.mem_of_getElem? (i := 9) rfl)) (len := 0) (cap := 0) (by decide) (by decide) (by decide) (by decide) (by decide) (fun T h a8 w E g_a8 n_a8 A_a8 s_a8 => ?_)
    have z_a8 := Nat.le_trans E0.1 g_a8
    have ne_a7_a8 : a7 ≠ a8 := Nat.ne_of_lt (Nat.lt_of_lt_of_le X_a7.lt g_a8)
    replace E0 := ext_trans E0 E
    replace X_a7 := X_a7.ext E
    replace F_value_a7 := F_value_a7.ext E
    replace F_coder_a7 := F_coder_a7.ext E
    replace A_a8 : Ar Z h a8 .char [] := A_a8
    refine g_special w (con_new1E l Z a0 hw a7 a8 _ w.old X_a7 F_value_a7 F_coder_a7 n_a7 A_a8 ne_a7_a8.symm) no0 e38_11 (q := 14) rfl rfl rfl (hw _ (List.mem_of_getElem? (i := 10) rfl)) (hw _ (List.mem_of_getElem? (i := 11) rfl)) (hw _ (List.mem_of_getElem? (i := 8) rfl)) (hw _ (List.mem_of_getElem? (i := 12) rfl)) (by decide) pd28 rfl rfl (W := 1) (Nat.le_of_eq rfl) (by decide) (by decide) (by decide) (by decide) (fun T h v w gs C q => ?_)
    obtain ⟨rfl, K, S_a7⟩ := q
    have U_a7 := Sg.su S_a7
    replace E0 := ext_keep E0 K z_a7
    have X0 := X_a7
    replace X_a7 := X_a7.keep K
    replace A_a8 := A_a8.keep K (not1 ne_a7_a8.symm)
    show Go p e below _ (State.setTop T (mkF m 14 #[.val (.int n_), .val (.int c0), .val (.int c1)] [(.ref a7)]))
    exact g_reta w e38_14 rfl rfl rfl (by decide) (by decide) ⟨_, rfl, E0, z_a7, by rw [show sg n_ c0 c1 = [] from by simp [sg, cd1]]; exact U_a7⟩
theorem e39_0 : decode prog_26_method_1_code 0 = .ok (.aload_n 0, 1) := by decide +kernel
theorem e39_1 : decode prog_26_method_1_code 1 = .ok (.invokespecial 1, 3) := by decide +kernel
theorem e39_4 : decode prog_26_method_1_code 4 = .ok (.aload_n 0, 1) := by decide +kernel
theorem e39_5 : decode prog_26_method_1_code 5 = .ok (.aload_n 1, 1) := by decide +kernel
theorem e39_6 : decode prog_26_method_1_code 6 = .ok (.putfield 7, 3) := by decide +kernel
theorem e39_9 : decode prog_26_method_1_code 9 = .ok (.aload_n 0, 1) := by decide +kernel
theorem e39_10 : decode prog_26_method_1_code 10 = .ok (.aload_n 2, 1) := by decide +kernel
theorem e39_11 : decode prog_26_method_1_code 11 = .ok (.putfield 13, 3) := by decide +kernel
theorem e39_14 : decode prog_26_method_1_code 14 = .ok (.return_, 1) := by decide +kernel
theorem pn9 : plainName "com/example/devizes/devizes/zookeeper/ZooKeeperAddress" = true := by first | (simp [plainName, overriddenIn]; done) | decide +kernel
set_option maxRecDepth 65536 in
set_option maxHeartbeats 40000000 in
theorem con_zai (l : Launch) (Z : State) (a0 : Array Value) (hw : ∀ d ∈ tables_1, d.before a0 Z = true) (x : Addr) (f1 : Addr) (f2 : Addr) (h0 : Heap) (O0 : Ext Z.heap h0) (X_x : Exa Z h0 x "com/example/devizes/devizes/zookeeper/ZooKeeperAddress") (F_servers_x : Fld Z h0 x "com/example/devizes/devizes/zookeeper/ZooKeeperAddress" "servers" "Ljava/lang/String;" .null) (F_root_x : Fld Z h0 x "com/example/devizes/devizes/zookeeper/ZooKeeperAddress" "root" "Ljava/lang/String;" .null) (n_x : Z.heap.size ≤ x) :
    Con l Z consts_1 false (⟨"com/example/devizes/devizes/zookeeper/ZooKeeperAddress", "<init>", "(Ljava/lang/String;Ljava/lang/String;)V"⟩ : MethodName) prog_26_method_1_code 3 none [] ({ frames := 2, cells := 0, slots := 0, locals := 24 } : Room) #[(.ref x), (.ref f1), (.ref f2)] [] h0 (fun v h => v = none ∧ Keep h0 h [x] ∧ Fld Z h x "com/example/devizes/devizes/zookeeper/ZooKeeperAddress" "servers" "Ljava/lang/String;" (.ref f1) ∧ Fld Z h x "com/example/devizes/devizes/zookeeper/ZooKeeperAddress" "root" "Ljava/lang/String;" (.ref f2)) := by
  refine Con.intro (Ls := #[.val (.ref x), .val (.ref f1), .val (.ref f2)]) (plainFor_of_name pn9) (own_EL hw) O0 (fun m => by first | (simp [entryFrame, mkF, argsToLocals, Value.category]; done) | rfl) (fun p e s m below meth cc_ T w sf_ => ?_)
  have K0 := Keep.refl h0 [x]
  refine g_aloadN w e39_0 (q := 1) rfl rfl rfl ?_
  refine g_specialP w (con_rec l Z a0 hw x _ w.old) no0 e39_1 (q := 4) rfl rfl rfl (hw _ (List.mem_of_getElem? (i := 34) rfl)) (hw _ (List.mem_of_getElem? (i := 35) rfl)) (hw _ (List.mem_of_getElem? (i := 37) rfl)) (hw _ (List.mem_of_getElem? (i := 38) rfl)) (by decide) pd16 rfl rfl (W := 0) (Nat.le_of_eq rfl) (by decide) (by decide) (by decide) (by decide) (fun T v w C q => ?_)
  obtain rfl := q
  show Go p e below _ (State.setTop T (mkF m 4 #[.val (.ref x), .val (.ref f1), .val (.ref f2)] []))
  refine g_aloadN w e39_4 (q := 5) rfl rfl rfl ?_
  refine g_aloadN w e39_5 (q := 6) rfl rfl rfl ?_
  have g_ := w.chv
  refine g_putF w e39_6 (q := 9) rfl (hw _ (List.mem_of_getElem? (i := 40) rfl)) Via.refl F_servers_x X_x (Or.inr ⟨(hw _ (List.mem_of_getElem? (i := 41) rfl)), rfl, rfl⟩) (hw _ (List.mem_of_getElem? (i := 29) rfl)) (ty := (.object "java/lang/String")) (by decide) (v' := (.ref f1)) rfl rfl n_x (w.safe X_x (by decide) (by decide)) (fun T h w W => ?_)
  replace K0 := K0.wr W (Or.inl (List.mem_singleton.mpr rfl))
  replace X_x := X_x.wr W
  replace F_servers_x := F_servers_x.same W
  replace F_root_x := F_root_x.other W (Or.inr (slot_ne (Or.inr (hw _ (List.mem_of_getElem? (i := 43) rfl))) (Or.inr (hw _ (List.mem_of_getElem? (i := 41) rfl))) (by decide) (t := (.object "java/lang/String")) (t' := (.object "java/lang/String")) (by decide) (by decide)))
  refine g_aloadN w e39_9 (q := 10) rfl rfl rfl ?_
  refine g_aloadN w e39_10 (q := 11) rfl rfl rfl ?_
  have g_ := w.chv
  refine g_putF w e39_11 (q := 14) rfl (hw _ (List.mem_of_getElem? (i := 42) rfl)) Via.refl F_root_x X_x (Or.inr ⟨(hw _ (List.mem_of_getElem? (i := 43) rfl)), rfl, rfl⟩) (hw _ (List.mem_of_getElem? (i := 29) rfl)) (ty := (.object "java/lang/String")) (by decide) (v' := (.ref f2)) rfl rfl n_x (w.safe X_x (by decide) (by decide)) (fun T h w W => ?_)
  replace K0 := K0.wr W (Or.inl (List.mem_singleton.mpr rfl))
  replace X_x := X_x.wr W
  replace F_servers_x := F_servers_x.other W (Or.inr (slot_ne (Or.inr (hw _ (List.mem_of_getElem? (i := 41) rfl))) (Or.inr (hw _ (List.mem_of_getElem? (i := 43) rfl))) (by decide) (t := (.object "java/lang/String")) (t' := (.object "java/lang/String")) (by decide) (by decide)))
  replace F_root_x := F_root_x.same W
  exact g_return w e39_14 rfl (by decide) (by decide) ⟨rfl, K0, F_servers_x, F_root_x⟩
theorem e40_0 : decode prog_26_method_5_code 0 = .ok (.new 36, 3) := by decide +kernel
theorem e40_3 : decode prog_26_method_5_code 3 = .ok (.dup, 1) := by decide +kernel
theorem e40_4 : decode prog_26_method_5_code 4 = .ok (.invokespecial 38, 3) := by decide +kernel
theorem e40_7 : decode prog_26_method_5_code 7 = .ok (.ldc 16, 2) := by decide +kernel
theorem e40_9 : decode prog_26_method_5_code 9 = .ok (.invokevirtual 41, 3) := by decide +kernel
theorem e40_12 : decode prog_26_method_5_code 12 = .ok (.aload_n 0, 1) := by decide +kernel
theorem e40_13 : decode prog_26_method_5_code 13 = .ok (.getfield 7, 3) := by decide +kernel
theorem e40_16 : decode prog_26_method_5_code 16 = .ok (.invokevirtual 41, 3) := by decide +kernel
theorem e40_19 : decode prog_26_method_5_code 19 = .ok (.aload_n 0, 1) := by decide +kernel
theorem e40_20 : decode prog_26_method_5_code 20 = .ok (.getfield 13, 3) := by decide +kernel
theorem e40_23 : decode prog_26_method_5_code 23 = .ok (.invokevirtual 41, 3) := by decide +kernel
theorem e40_26 : decode prog_26_method_5_code 26 = .ok (.invokevirtual 47, 3) := by decide +kernel
theorem e40_29 : decode prog_26_method_5_code 29 = .ok (.areturn, 1) := by decide +kernel
theorem pd29 : parseMethodDescriptor "(Ljava/lang/String;)Ljava/lang/StringBuilder;" = some ⟨[(.object "java/lang/String")], some (.object "java/lang/StringBuilder")⟩ := by decide +kernel
theorem pd30 : parseMethodDescriptor "()Ljava/lang/String;" = some ⟨[], some (.object "java/lang/String")⟩ := by decide +kernel
set_option maxRecDepth 65536 in
set_option maxHeartbeats 40000000 in
theorem con_zts (l : Launch) (Z : State) (a0 : Array Value) (hw : ∀ d ∈ tables_1, d.before a0 Z = true) (fm : Value) (x su ro : Addr) (s1 r1 : List Int32) (h0 : Heap) (O0 : Ext Z.heap h0) (F_s : Fld Z h0 x "com/example/devizes/devizes/zookeeper/ZooKeeperAddress" "servers" "Ljava/lang/String;" (.ref su)) (F_r : Fld Z h0 x "com/example/devizes/devizes/zookeeper/ZooKeeperAddress" "root" "Ljava/lang/String;" (.ref ro)) (S_su : Su Z h0 su s1) (S_ro : Su Z h0 ro r1) (hs1 : s1.length ≤ 2) (hr1 : r1.length ≤ 2) (hcm : Cpt Z) (SFm : Sta Z Z.heap "jdk/internal/util/Preconditions" "SIOOBE_FORMATTER" "Ljava/util/function/BiFunction;" fm) (rfm : fm.isRef = true) (SA_ : Sta Z Z.heap "java/lang/StringUTF16" "$assertionsDisabled" "Z" (.int 1)) (SH_ : Sta Z Z.heap "java/lang/StringUTF16" "HI_BYTE_SHIFT" "I" (.int 0)) (SL_ : Sta Z Z.heap "java/lang/StringUTF16" "LO_BYTE_SHIFT" "I" (.int 8)) :
    Con l Z consts_1 false (⟨"com/example/devizes/devizes/zookeeper/ZooKeeperAddress", "toString", "()Ljava/lang/String;"⟩ : MethodName) prog_26_method_5_code 1 (some (.object "java/lang/String")) [] ({ frames := 10, cells := 9, slots := 204, locals := 143 } : Room) #[(.ref x)] [] h0 (fun v h => ∃ r, v = some (.ref r) ∧ Ext h0 h ∧ h0.size ≤ r ∧ Su Z h r ([] ++ [(122 : Int32), (111 : Int32), (111 : Int32), (107 : Int32), (101 : Int32), (101 : Int32), (112 : Int32), (101 : Int32), (114 : Int32), (58 : Int32), (47 : Int32), (47 : Int32)] ++ s1 ++ r1)) := by
  refine Con.intro (Ls := #[.val (.ref x)]) (plainFor_of_name pn9) (own_EL hw) O0 (fun m => by first | (simp [entryFrame, mkF, argsToLocals, Value.category]; done) | rfl) (fun p e s m below meth cc_ T w sf_ => ?_)
  have E0 := ext_refl h0
  refine g_new w e40_0 (q := 3) rfl (hw _ (List.mem_of_getElem? (i := 49) rfl)) (hw _ (List.mem_of_getElem? (i := 50) rfl)) (hw _ (List.mem_of_getElem? (i := 51) rfl)) (by decide) (by decide) (fun T h a1 w E g_a1 n_a1 X_a1 D_a1 s_a1 => ?_)
  have z_a1 := Nat.le_trans E0.1 g_a1
  replace E0 := ext_trans E0 E
  have F_value_a1 := D_a1 (Or.inl (hw _ (List.mem_of_getElem? (i := 64) rfl))) (ty := (.array .byte)) (by decide)
  replace F_value_a1 : Fld Z h a1 "java/lang/AbstractStringBuilder" "value" "[B" .null := F_value_a1
  have F_coder_a1 := D_a1 (Or.inl (hw _ (List.mem_of_getElem? (i := 66) rfl))) (ty := .byte) (by decide)
  replace F_coder_a1 : Fld Z h a1 "java/lang/AbstractStringBuilder" "coder" "B" (.int (0 : Int32)) := F_coder_a1
  have F_count_a1 := D_a1 (Or.inl (hw _ (List.mem_of_getElem? (i := 90) rfl))) (ty := .int) (by decide)
  replace F_count_a1 : Fld Z h a1 "java/lang/AbstractStringBuilder" "count" "I" (.int (0 : Int32)) := F_count_a1
  have F_maybeLatin1_a1 := D_a1 (Or.inl (hw _ (List.mem_of_getElem? (i := 228) rfl))) (ty := .boolean) (by decide)
  replace F_maybeLatin1_a1 : Fld Z h a1 "java/lang/AbstractStringBuilder" "maybeLatin1" "Z" (.int (0 : Int32)) := F_maybeLatin1_a1
  refine g_dup w e40_3 (q := 4) rfl rfl ?_
  refine g_special w (con_sbi l Z a0 hw a1 _ w.old X_a1 F_value_a1 F_coder_a1 F_count_a1 F_maybeLatin1_a1 n_a1 hcm) no0 e40_4 (q := 7) rfl rfl rfl (hw _ (List.mem_of_getElem? (i := 52) rfl)) (hw _ (List.mem_of_getElem? (i := 53) rfl)) (hw _ (List.mem_of_getElem? (i := 51) rfl)) (hw _ (List.mem_of_getElem? (i := 54) rfl)) (by decide) pd16 rfl rfl (W := 1) (Nat.le_of_eq rfl) (by decide) (by decide) (by decide) (by decide) (fun T h v w gs C q => ?_)
  obtain ⟨rfl, K, b_a1, g_b_a1, B_a1⟩ := q
  have z_b_a1 := Nat.le_trans E0.1 g_b_a1
  have ne_a1_b_a1 : a1 ≠ b_a1 := Nat.ne_of_lt (Nat.lt_of_lt_of_le X_a1.lt g_b_a1)
  replace E0 := ext_keep E0 K z_a1
  have X0 := X_a1
  replace X_a1 := X_a1.keep K
  have n_b_a1 := Nat.le_trans O0.1 z_b_a1
  show Go p e below _ (State.setTop T (mkF m 7 #[.val (.ref x)] [(.ref a1)]))
  refine g_ldcS w e40_7 (q := 9) rfl rfl (hw _ (List.mem_of_getElem? (i := 67) rfl)) (own_wS hw) (by decide) (vs := [.int (122 : Int32), .int (111 : Int32), .int (111 : Int32), .int (107 : Int32), .int (101 : Int32), .int (101 : Int32), .int (112 : Int32), .int (101 : Int32), .int (114 : Int32), .int (58 : Int32), .int (47 : Int32), .int (47 : Int32)]) (z := 12) ⟨by decide, by decide⟩ (by decide) (by decide) (nn := 48) (by decide) (by decide) (by decide) (by decide) (fun T vm h t2 b_t2 kb_t2 w E X_t2 Fc_t2 Fv_t2 Ab_t2 C Sf => ?_)
  replace E0 := ext_trans E0 E
  replace B_a1 := B_a1.ext E
  have S_now : Su Z h t2 [(122 : Int32), (111 : Int32), (111 : Int32), (107 : Int32), (101 : Int32), (101 : Int32), (112 : Int32), (101 : Int32), (114 : Int32), (58 : Int32), (47 : Int32), (47 : Int32)] := Sg.su ⟨Nat.le_of_ble_eq_true rfl, by unfold Lt8; decide, X_t2, b_t2, kb_t2, Fv_t2, Fc_t2, Ab_t2⟩
  refine g_virtual w (con_sas l Z a0 hw fm a1 t2 b_a1 [] [(122 : Int32), (111 : Int32), (111 : Int32), (107 : Int32), (101 : Int32), (101 : Int32), (112 : Int32), (101 : Int32), (114 : Int32), (58 : Int32), (47 : Int32), (47 : Int32)] _ w.old B_a1 S_now n_a1 n_b_a1 (by simp only [List.length_append, List.length_cons, List.length_nil]; omega) hcm SFm rfm SA_ SH_ SL_) no0 B_a1.exa e40_9 (q := 12) rfl rfl (hw _ (List.mem_of_getElem? (i := 68) rfl)) (hw _ (List.mem_of_getElem? (i := 69) rfl)) (hw _ (List.mem_of_getElem? (i := 71) rfl)) (hw _ (List.mem_of_getElem? (i := 70) rfl)) (hw _ (List.mem_of_getElem? (i := 51) rfl)) (hw _ (List.mem_of_getElem? (i := 72) rfl)) (by decide) (nf (hw _ (List.mem_of_getElem? (i := 71) rfl))) pd29 rfl rfl (W := 0) (Nat.le_of_eq rfl) (by decide) (by decide) (by decide) (by decide) (fun T h v w gs C q => ?_)
  obtain ⟨rfl, K, b3, hb_, G_a1⟩ := q
  have z_b3 : h0.size ≤ b3 := hb_.elim (fun e_ => by rw [e_]; exact z_b_a1) (fun g_ => Nat.le_trans E0.1 g_)
  have n_b3 := Nat.le_trans O0.1 z_b3
  replace E0 := ext_keep2 E0 K z_a1 z_b_a1
  replace B_a1 := G_a1
  show Go p e below _ (State.setTop T (mkF m 12 #[.val (.ref x)] [(.ref a1)]))
  refine g_aloadN w e40_12 (q := 13) rfl rfl rfl ?_
  refine g_getF w e40_13 (q := 16) rfl (host := "") (Or.inl (hw _ (List.mem_of_getElem? (i := 40) rfl))) Via.refl (F_s.ext E0) (fun T w => ?_)
  have S_now := S_su.ext E0
  refine g_virtual w (con_sas l Z a0 hw fm a1 su b3 ([] ++ [(122 : Int32), (111 : Int32), (111 : Int32), (107 : Int32), (101 : Int32), (101 : Int32), (112 : Int32), (101 : Int32), (114 : Int32), (58 : Int32), (47 : Int32), (47 : Int32)]) s1 _ w.old B_a1 S_now n_a1 n_b3 (by simp only [List.length_append, List.length_cons, List.length_nil]; omega) hcm SFm rfm SA_ SH_ SL_) no0 B_a1.exa e40_16 (q := 19) rfl rfl (hw _ (List.mem_of_getElem? (i := 68) rfl)) (hw _ (List.mem_of_getElem? (i := 69) rfl)) (hw _ (List.mem_of_getElem? (i := 71) rfl)) (hw _ (List.mem_of_getElem? (i := 70) rfl)) (hw _ (List.mem_of_getElem? (i := 51) rfl)) (hw _ (List.mem_of_getElem? (i := 72) rfl)) (by decide) (nf (hw _ (List.mem_of_getElem? (i := 71) rfl))) pd29 rfl rfl (W := 0) (Nat.le_of_eq rfl) (by decide) (by decide) (by decide) (by decide) (fun T h v w gs C q => ?_)
  obtain ⟨rfl, K, b4, hb_, G_a1⟩ := q
  have z_b4 : h0.size ≤ b4 := hb_.elim (fun e_ => by rw [e_]; exact z_b3) (fun g_ => Nat.le_trans E0.1 g_)
  have n_b4 := Nat.le_trans O0.1 z_b4
  replace E0 := ext_keep2 E0 K z_a1 z_b3
  replace B_a1 := G_a1
  show Go p e below _ (State.setTop T (mkF m 19 #[.val (.ref x)] [(.ref a1)]))
  refine g_aloadN w e40_19 (q := 20) rfl rfl rfl ?_
  refine g_getF w e40_20 (q := 23) rfl (host := "") (Or.inl (hw _ (List.mem_of_getElem? (i := 42) rfl))) Via.refl (F_r.ext E0) (fun T w => ?_)
  have S_now := S_ro.ext E0
  refine g_virtual w (con_sas l Z a0 hw fm a1 ro b4 (([] ++ [(122 : Int32), (111 : Int32), (111 : Int32), (107 : Int32), (101 : Int32), (101 : Int32), (112 : Int32), (101 : Int32), (114 : Int32), (58 : Int32), (47 : Int32), (47 : Int32)]) ++ s1) r1 _ w.old B_a1 S_now n_a1 n_b4 (by simp only [List.length_append, List.length_cons, List.length_nil]; omega) hcm SFm rfm SA_ SH_ SL_) no0 B_a1.exa e40_23 (q := 26) rfl rfl (hw _ (List.mem_of_getElem? (i := 68) rfl)) (hw _ (List.mem_of_getElem? (i := 69) rfl)) (hw _ (List.mem_of_getElem? (i := 71) rfl)) (hw _ (List.mem_of_getElem? (i := 70) rfl)) (hw _ (List.mem_of_getElem? (i := 51) rfl)) (hw _ (List.mem_of_getElem? (i := 72) rfl)) (by decide) (nf (hw _ (List.mem_of_getElem? (i := 71) rfl))) pd29 rfl rfl (W := 0) (Nat.le_of_eq rfl) (by decide) (by decide) (by decide) (by decide) (fun T h v w gs C q => ?_)
  obtain ⟨rfl, K, b5, hb_, G_a1⟩ := q
  have z_b5 : h0.size ≤ b5 := hb_.elim (fun e_ => by rw [e_]; exact z_b4) (fun g_ => Nat.le_trans E0.1 g_)
  have n_b5 := Nat.le_trans O0.1 z_b5
  replace E0 := ext_keep2 E0 K z_a1 z_b4
  replace B_a1 := G_a1
  show Go p e below _ (State.setTop T (mkF m 26 #[.val (.ref x)] [(.ref a1)]))
  refine g_virtual w (con_ts l Z a0 hw a1 b5 ((([] ++ [(122 : Int32), (111 : Int32), (111 : Int32), (107 : Int32), (101 : Int32), (101 : Int32), (112 : Int32), (101 : Int32), (114 : Int32), (58 : Int32), (47 : Int32), (47 : Int32)]) ++ s1) ++ r1) _ w.old B_a1 (app_chr (app_chr (by simp only [List.nil_append]; unfold Lt16; decide) S_su.2.1) S_ro.2.1) (by simp only [List.length_append, List.length_cons, List.length_nil]; omega) hcm) no0 B_a1.exa e40_26 (q := 29) rfl rfl (hw _ (List.mem_of_getElem? (i := 116) rfl)) (hw _ (List.mem_of_getElem? (i := 117) rfl)) (hw _ (List.mem_of_getElem? (i := 119) rfl)) (hw _ (List.mem_of_getElem? (i := 118) rfl)) (hw _ (List.mem_of_getElem? (i := 51) rfl)) (hw _ (List.mem_of_getElem? (i := 120) rfl)) (by decide) (nf (hw _ (List.mem_of_getElem? (i := 119) rfl))) pd30 rfl rfl (W := 0) (Nat.le_of_eq rfl) (by decide) (by decide) (by decide) (by decide) (fun T h v w gs C q => ?_)
  obtain ⟨r6, rfl, E, g_r6, U_r6⟩ := q
  have z_r6 := Nat.le_trans E0.1 g_r6
  have ne_a1_r6 : a1 ≠ r6 := Nat.ne_of_lt (Nat.lt_of_lt_of_le B_a1.lt g_r6)
  have ne_b5_r6 : b5 ≠ r6 := Nat.ne_of_lt (Nat.lt_of_lt_of_le B_a1.ltb g_r6)
  replace E0 := ext_trans E0 E
  show Go p e below _ (State.setTop T (mkF m 29 #[.val (.ref x)] [(.ref r6)]))
  exact g_reta w e40_29 rfl rfl rfl (by decide) (by decide) ⟨_, rfl, E0, z_r6, U_r6⟩
theorem pd31 : parseMethodDescriptor "(ICC)Ljava/lang/String;" = some ⟨[.int, .char, .char], some (.object "java/lang/String")⟩ := by decide +kernel
theorem pd32 : parseMethodDescriptor "(Ljava/lang/String;Ljava/lang/String;)V" = some ⟨[(.object "java/lang/String"), (.object "java/lang/String")], none⟩ := by decide +kernel
theorem pd33 : parseMethodDescriptor "(Ljava/lang/Object;)Z" = some ⟨[(.object "java/lang/Object")], some .boolean⟩ := by decide +kernel
set_option maxRecDepth 65536 in
set_option maxHeartbeats 40000000 in
theorem con_law (l : Launch) (Z : State) (a0 : Array Value) (hw : ∀ d ∈ tables_1, d.before a0 Z = true) (fm : Value) (j0 j1 j2 j3 j4 : Int32) (h0 : Heap) (O0 : Ext Z.heap h0) (hcm : Cpt Z) (SFm : Sta Z Z.heap "jdk/internal/util/Preconditions" "SIOOBE_FORMATTER" "Ljava/util/function/BiFunction;" fm) (rfm : fm.isRef = true) (SA_ : Sta Z Z.heap "java/lang/StringUTF16" "$assertionsDisabled" "Z" (.int 1)) (SH_ : Sta Z Z.heap "java/lang/StringUTF16" "HI_BYTE_SHIFT" "I" (.int 0)) (SL_ : Sta Z Z.heap "java/lang/StringUTF16" "LO_BYTE_SHIFT" "I" (.int 8)) :
    Con l Z consts_1 false x code maxLocals ret tables_1 room_1 #[(.int j0), (.int j1), (.int j2), (.int j3), (.int j4)] [] h0 (fun v h => v = some (.int 1)) := by
  refine Con.intro (Ls := #[.val (.int j0), .val (.int j1), .val (.int j2), .val (.int j3), .val (.int j4), .unset, .unset, .unset, .unset, .unset, .unset, .unset, .unset, .unset, .unset, .unset]) (plainFor_of_name pn8) (own_EL hw) O0 (fun m => by first | (simp [entryFrame, mkF, argsToLocals, Value.category, maxLocals]; done) | rfl) (fun p e s m below meth cc_ T w sf_ => ?_)
  have E0 := ext_refl h0
  obtain ⟨z_, hz_, SC_⟩ := id hcm
  refine g_iload w at_0 (q := 2) rfl rfl ?_
  refine g_ldcI w at_2 (q := 4) rfl (v := (2147483647 : Int32)) (hw _ (List.mem_of_getElem? (i := 0) rfl)) ?_
  refine g_iand w at_4 (q := 5) rfl ?_
  refine g_iconst w at_5 (q := 6) rfl (v := (3 : Int32)) (by decide) ?_
  refine g_irem w at_6 (q := 7) rfl (by decide) ?_
  refine g_istore w at_7 (q := 9) rfl (Ls' := #[.val (.int j0), .val (.int j1), .val (.int j2), .val (.int j3), .val (.int j4), .val (.int ((j4 &&& (2147483647 : Int32)) % (3 : Int32))), .unset, .unset, .unset, .unset, .unset, .unset, .unset, .unset, .unset, .unset]) rfl ?_
  refine g_iload w at_9 (q := 11) rfl rfl ?_
  refine g_iconst w at_11 (q := 12) rfl (v := (2 : Int32)) (by decide) ?_
  refine g_iushr w at_12 (q := 13) rfl ?_
  refine g_ldcI w at_13 (q := 15) rfl (v := (2147483647 : Int32)) (hw _ (List.mem_of_getElem? (i := 0) rfl)) ?_
  refine g_iand w at_15 (q := 16) rfl ?_
  refine g_iconst w at_16 (q := 17) rfl (v := (3 : Int32)) (by decide) ?_
  refine g_irem w at_17 (q := 18) rfl (by decide) ?_
  refine g_istore w at_18 (q := 20) rfl (Ls' := #[.val (.int j0), .val (.int j1), .val (.int j2), .val (.int j3), .val (.int j4), .val (.int ((j4 &&& (2147483647 : Int32)) % (3 : Int32))), .val (.int (((Jvm.Free.XT.ushr j4 (2 : Int32)) &&& (2147483647 : Int32)) % (3 : Int32))), .unset, .unset, .unset, .unset, .unset, .unset, .unset, .unset, .unset]) rfl ?_
  refine g_iloadN w at_20 (q := 21) rfl rfl ?_
  refine g_ldcI w at_21 (q := 23) rfl (v := (65535 : Int32)) (hw _ (List.mem_of_getElem? (i := 1) rfl)) ?_
  refine g_iand w at_23 (q := 24) rfl ?_
  refine g_i2c w at_24 (q := 25) rfl ?_
  refine g_istore w at_25 (q := 27) rfl (Ls' := #[.val (.int j0), .val (.int j1), .val (.int j2), .val (.int j3), .val (.int j4), .val (.int ((j4 &&& (2147483647 : Int32)) % (3 : Int32))), .val (.int (((Jvm.Free.XT.ushr j4 (2 : Int32)) &&& (2147483647 : Int32)) % (3 : Int32))), .val (.int (j0 &&& (65535 : Int32)).toUInt32.toUInt16.toUInt32.toInt32), .unset, .unset, .unset, .unset, .unset, .unset, .unset, .unset]) rfl ?_
  refine g_iloadN w at_27 (q := 28) rfl rfl ?_
  refine g_ldcI w at_28 (q := 30) rfl (v := (65535 : Int32)) (hw _ (List.mem_of_getElem? (i := 1) rfl)) ?_
  refine g_iand w at_30 (q := 31) rfl ?_
  refine g_i2c w at_31 (q := 32) rfl ?_
  refine g_istore w at_32 (q := 34) rfl (Ls' := #[.val (.int j0), .val (.int j1), .val (.int j2), .val (.int j3), .val (.int j4), .val (.int ((j4 &&& (2147483647 : Int32)) % (3 : Int32))), .val (.int (((Jvm.Free.XT.ushr j4 (2 : Int32)) &&& (2147483647 : Int32)) % (3 : Int32))), .val (.int (j0 &&& (65535 : Int32)).toUInt32.toUInt16.toUInt32.toInt32), .val (.int (j1 &&& (65535 : Int32)).toUInt32.toUInt16.toUInt32.toInt32), .unset, .unset, .unset, .unset, .unset, .unset, .unset]) rfl ?_
  refine g_iloadN w at_34 (q := 35) rfl rfl ?_
  refine g_ldcI w at_35 (q := 37) rfl (v := (65535 : Int32)) (hw _ (List.mem_of_getElem? (i := 1) rfl)) ?_
  refine g_iand w at_37 (q := 38) rfl ?_
  refine g_i2c w at_38 (q := 39) rfl ?_
  refine g_istore w at_39 (q := 41) rfl (Ls' := #[.val (.int j0), .val (.int j1), .val (.int j2), .val (.int j3), .val (.int j4), .val (.int ((j4 &&& (2147483647 : Int32)) % (3 : Int32))), .val (.int (((Jvm.Free.XT.ushr j4 (2 : Int32)) &&& (2147483647 : Int32)) % (3 : Int32))), .val (.int (j0 &&& (65535 : Int32)).toUInt32.toUInt16.toUInt32.toInt32), .val (.int (j1 &&& (65535 : Int32)).toUInt32.toUInt16.toUInt32.toInt32), .val (.int (j2 &&& (65535 : Int32)).toUInt32.toUInt16.toUInt32.toInt32), .unset, .unset, .unset, .unset, .unset, .unset]) rfl ?_
  refine g_iloadN w at_41 (q := 42) rfl rfl ?_
  refine g_ldcI w at_42 (q := 44) rfl (v := (65535 : Int32)) (hw _ (List.mem_of_getElem? (i := 1) rfl)) ?_
  refine g_iand w at_44 (q := 45) rfl ?_
  refine g_i2c w at_45 (q := 46) rfl ?_
  refine g_istore w at_46 (q := 48) rfl (Ls' := #[.val (.int j0), .val (.int j1), .val (.int j2), .val (.int j3), .val (.int j4), .val (.int ((j4 &&& (2147483647 : Int32)) % (3 : Int32))), .val (.int (((Jvm.Free.XT.ushr j4 (2 : Int32)) &&& (2147483647 : Int32)) % (3 : Int32))), .val (.int (j0 &&& (65535 : Int32)).toUInt32.toUInt16.toUInt32.toInt32), .val (.int (j1 &&& (65535 : Int32)).toUInt32.toUInt16.toUInt32.toInt32), .val (.int (j2 &&& (65535 : Int32)).toUInt32.toUInt16.toUInt32.toInt32), .val (.int (j3 &&& (65535 : Int32)).toUInt32.toUInt16.toUInt32.toInt32), .unset, .unset, .unset, .unset, .unset]) rfl ?_
  show Go p e below _ (State.setTop T (mkF m 48 #[.val (.int j0), .val (.int j1), .val (.int j2), .val (.int j3), .val (.int j4), .val (.int ((j4 &&& (2147483647 : Int32)) % (3 : Int32))), .val (.int (((Jvm.Free.XT.ushr j4 (2 : Int32)) &&& (2147483647 : Int32)) % (3 : Int32))), .val (.int (j0 &&& (65535 : Int32)).toUInt32.toUInt16.toUInt32.toInt32), .val (.int (j1 &&& (65535 : Int32)).toUInt32.toUInt16.toUInt32.toInt32), .val (.int (j2 &&& (65535 : Int32)).toUInt32.toUInt16.toUInt32.toInt32), .val (.int (j3 &&& (65535 : Int32)).toUInt32.toUInt16.toUInt32.toInt32), .unset, .unset, .unset, .unset, .unset] []))
  obtain ⟨q0, hq0, l0⟩ : ∃ q_ : Int32, q_ = (j0 &&& (65535 : Int32)).toUInt32.toUInt16.toUInt32.toInt32 ∧ Lt16 q_ := ⟨_, rfl, i2c_chr _⟩
  rw [← hq0]
  obtain ⟨q1, hq1, l1⟩ : ∃ q_ : Int32, q_ = (j1 &&& (65535 : Int32)).toUInt32.toUInt16.toUInt32.toInt32 ∧ Lt16 q_ := ⟨_, rfl, i2c_chr _⟩
  rw [← hq1]
  obtain ⟨q2, hq2, l2⟩ : ∃ q_ : Int32, q_ = (j2 &&& (65535 : Int32)).toUInt32.toUInt16.toUInt32.toInt32 ∧ Lt16 q_ := ⟨_, rfl, i2c_chr _⟩
  rw [← hq2]
  obtain ⟨q3, hq3, l3⟩ : ∃ q_ : Int32, q_ = (j3 &&& (65535 : Int32)).toUInt32.toUInt16.toUInt32.toInt32 ∧ Lt16 q_ := ⟨_, rfl, i2c_chr _⟩
  rw [← hq3]
  rcases mod3 (mask31 j4) with e5 | e5 | e5
  · rw [e5]
    rcases mod3 (mask31 (Jvm.Free.XT.ushr j4 (2 : Int32))) with e6 | e6 | e6
    · rw [e6]
      show Go p e below _ (State.setTop T (mkF m 48 #[.val (.int j0), .val (.int j1), .val (.int j2), .val (.int j3), .val (.int j4), .val (.int (0 : Int32)), .val (.int (0 : Int32)), .val (.int q0), .val (.int q1), .val (.int q2), .val (.int q3), .unset, .unset, .unset, .unset, .unset] []))
      refine g_iload w at_48 (q := 50) rfl rfl ?_
      refine g_iload w at_50 (q := 52) rfl rfl ?_
      refine g_iload w at_52 (q := 54) rfl rfl ?_
      refine g_static w (con_mk l Z a0 hw fm (0 : Int32) q0 q1 _ w.old l0 l1 hcm SFm rfm SA_ SH_ SL_) no0 at_54 (q := 57) rfl rfl (hw _ (List.mem_of_getElem? (i := 2) rfl)) (hw _ (List.mem_of_getElem? (i := 3) rfl)) (hw _ (List.mem_of_getElem? (i := 4) rfl)) (hw _ (List.mem_of_getElem? (i := 5) rfl)) (by decide) pd31 rfl rfl (W := 0) (Nat.le_of_eq rfl) (by decide) (by decide) (by decide) (by decide) (fun T h v w gs C q => ?_)
      obtain ⟨x1, rfl, E, g_x1, U_x1⟩ := q
      replace U_x1 : Su Z h x1 [] := by simpa [sg] using U_x1
      have z_x1 := Nat.le_trans E0.1 g_x1
      replace E0 := ext_trans E0 E
      show Go p e below _ (State.setTop T (mkF m 57 #[.val (.int j0), .val (.int j1), .val (.int j2), .val (.int j3), .val (.int j4), .val (.int (0 : Int32)), .val (.int (0 : Int32)), .val (.int q0), .val (.int q1), .val (.int q2), .val (.int q3), .unset, .unset, .unset, .unset, .unset] [(.ref x1)]))
      refine g_astore w at_57 (q := 59) rfl rfl (Ls' := #[.val (.int j0), .val (.int j1), .val (.int j2), .val (.int j3), .val (.int j4), .val (.int (0 : Int32)), .val (.int (0 : Int32)), .val (.int q0), .val (.int q1), .val (.int q2), .val (.int q3), .val (.ref x1), .unset, .unset, .unset, .unset]) rfl ?_
      refine g_iload w at_59 (q := 61) rfl rfl ?_
      refine g_iload w at_61 (q := 63) rfl rfl ?_
      refine g_iload w at_63 (q := 65) rfl rfl ?_
      refine g_static w (con_mk l Z a0 hw fm (0 : Int32) q2 q3 _ w.old l2 l3 hcm SFm rfm SA_ SH_ SL_) no0 at_65 (q := 68) rfl rfl (hw _ (List.mem_of_getElem? (i := 2) rfl)) (hw _ (List.mem_of_getElem? (i := 3) rfl)) (hw _ (List.mem_of_getElem? (i := 4) rfl)) (hw _ (List.mem_of_getElem? (i := 5) rfl)) (by decide) pd31 rfl rfl (W := 0) (Nat.le_of_eq rfl) (by decide) (by decide) (by decide) (by decide) (fun T h v w gs C q => ?_)
      obtain ⟨x2, rfl, E, g_x2, U_x2⟩ := q
      replace U_x2 : Su Z h x2 [] := by simpa [sg] using U_x2
      have z_x2 := Nat.le_trans E0.1 g_x2
      have ne_x1_x2 : x1 ≠ x2 := Nat.ne_of_lt (Nat.lt_of_lt_of_le U_x1.lt g_x2)
      replace E0 := ext_trans E0 E
      replace U_x1 := U_x1.ext E
      show Go p e below _ (State.setTop T (mkF m 68 #[.val (.int j0), .val (.int j1), .val (.int j2), .val (.int j3), .val (.int j4), .val (.int (0 : Int32)), .val (.int (0 : Int32)), .val (.int q0), .val (.int q1), .val (.int q2), .val (.int q3), .val (.ref x1), .unset, .unset, .unset, .unset] [(.ref x2)]))
      refine g_astore w at_68 (q := 70) rfl rfl (Ls' := #[.val (.int j0), .val (.int j1), .val (.int j2), .val (.int j3), .val (.int j4), .val (.int (0 : Int32)), .val (.int (0 : Int32)), .val (.int q0), .val (.int q1), .val (.int q2), .val (.int q3), .val (.ref x1), .val (.ref x2), .unset, .unset, .unset]) rfl ?_
      refine g_new w at_70 (q := 73) rfl (hw _ (List.mem_of_getElem? (i := 28) rfl)) (hw _ (List.mem_of_getElem? (i := 29) rfl)) (hw _ (List.mem_of_getElem? (i := 30) rfl)) (by decide) (by decide) (fun T h a3 w E g_a3 n_a3 X_a3 D_a3 s_a3 => ?_)
      have z_a3 := Nat.le_trans E0.1 g_a3
      have ne_x1_a3 : x1 ≠ a3 := Nat.ne_of_lt (Nat.lt_of_lt_of_le U_x1.lt g_a3)
      have ne_x2_a3 : x2 ≠ a3 := Nat.ne_of_lt (Nat.lt_of_lt_of_le U_x2.lt g_a3)
      replace E0 := ext_trans E0 E
      replace U_x1 := U_x1.ext E
      replace U_x2 := U_x2.ext E
      have F_servers_a3 := D_a3 (Or.inr (hw _ (List.mem_of_getElem? (i := 41) rfl))) (ty := (.object "java/lang/String")) (by decide)
      replace F_servers_a3 : Fld Z h a3 "com/example/devizes/devizes/zookeeper/ZooKeeperAddress" "servers" "Ljava/lang/String;" .null := F_servers_a3
      have F_root_a3 := D_a3 (Or.inr (hw _ (List.mem_of_getElem? (i := 43) rfl))) (ty := (.object "java/lang/String")) (by decide)
      replace F_root_a3 : Fld Z h a3 "com/example/devizes/devizes/zookeeper/ZooKeeperAddress" "root" "Ljava/lang/String;" .null := F_root_a3
      refine g_dup w at_73 (q := 74) rfl rfl ?_
      refine g_aload w at_74 (q := 76) rfl rfl rfl ?_
      refine g_aload w at_76 (q := 78) rfl rfl rfl ?_
      refine g_special w (con_zai l Z a0 hw a3 x1 x2 _ w.old X_a3 F_servers_a3 F_root_a3 n_a3) no0 at_78 (q := 81) rfl rfl rfl (hw _ (List.mem_of_getElem? (i := 31) rfl)) (hw _ (List.mem_of_getElem? (i := 32) rfl)) (hw _ (List.mem_of_getElem? (i := 30) rfl)) (hw _ (List.mem_of_getElem? (i := 33) rfl)) (by decide) pd32 rfl rfl (W := 1) (Nat.le_of_eq rfl) (by decide) (by decide) (by decide) (by decide) (fun T h v w gs C q => ?_)
      obtain ⟨rfl, K, G_servers, G_root⟩ := q
      replace E0 := ext_keep E0 K z_a3
      have X0 := X_a3
      replace U_x1 := U_x1.keepO K ne_x1_a3 X0 (hw _ (List.mem_of_getElem? (i := 29) rfl))
      replace U_x2 := U_x2.keepO K ne_x2_a3 X0 (hw _ (List.mem_of_getElem? (i := 29) rfl))
      replace X_a3 := X_a3.keep K
      replace F_servers_a3 := G_servers
      replace F_root_a3 := G_root
      show Go p e below _ (State.setTop T (mkF m 81 #[.val (.int j0), .val (.int j1), .val (.int j2), .val (.int j3), .val (.int j4), .val (.int (0 : Int32)), .val (.int (0 : Int32)), .val (.int q0), .val (.int q1), .val (.int q2), .val (.int q3), .val (.ref x1), .val (.ref x2), .unset, .unset, .unset] [(.ref a3)]))
      refine g_virtual w (con_zts l Z a0 hw fm a3 x1 x2 [] [] _ w.old F_servers_a3 F_root_a3 U_x1 U_x2 (Nat.le_of_ble_eq_true rfl) (Nat.le_of_ble_eq_true rfl) hcm SFm rfm SA_ SH_ SL_) no0 X_a3 at_81 (q := 84) rfl rfl (hw _ (List.mem_of_getElem? (i := 44) rfl)) (hw _ (List.mem_of_getElem? (i := 45) rfl)) (hw _ (List.mem_of_getElem? (i := 47) rfl)) (hw _ (List.mem_of_getElem? (i := 46) rfl)) (hw _ (List.mem_of_getElem? (i := 30) rfl)) (hw _ (List.mem_of_getElem? (i := 48) rfl)) (by decide) (nf (hw _ (List.mem_of_getElem? (i := 47) rfl))) pd30 rfl rfl (W := 0) (Nat.le_of_eq rfl) (by decide) (by decide) (by decide) (by decide) (fun T h v w gs C q => ?_)
      obtain ⟨r4, rfl, E, g_r4, U_r4⟩ := q
      replace U_r4 : Su Z h r4 [(122 : Int32), (111 : Int32), (111 : Int32), (107 : Int32), (101 : Int32), (101 : Int32), (112 : Int32), (101 : Int32), (114 : Int32), (58 : Int32), (47 : Int32), (47 : Int32)] := U_r4
      have z_r4 := Nat.le_trans E0.1 g_r4
      have ne_a3_r4 : a3 ≠ r4 := Nat.ne_of_lt (Nat.lt_of_lt_of_le X_a3.lt g_r4)
      have ne_x1_r4 : x1 ≠ r4 := Nat.ne_of_lt (Nat.lt_of_lt_of_le U_x1.lt g_r4)
      have ne_x2_r4 : x2 ≠ r4 := Nat.ne_of_lt (Nat.lt_of_lt_of_le U_x2.lt g_r4)
      replace E0 := ext_trans E0 E
      replace U_x1 := U_x1.ext E
      replace U_x2 := U_x2.ext E
      replace X_a3 := X_a3.ext E
      replace F_servers_a3 := F_servers_a3.ext E
      replace F_root_a3 := F_root_a3.ext E
      show Go p e below _ (State.setTop T (mkF m 84 #[.val (.int j0), .val (.int j1), .val (.int j2), .val (.int j3), .val (.int j4), .val (.int (0 : Int32)), .val (.int (0 : Int32)), .val (.int q0), .val (.int q1), .val (.int q2), .val (.int q3), .val (.ref x1), .val (.ref x2), .unset, .unset, .unset] [(.ref r4)]))
      refine g_astore w at_84 (q := 86) rfl rfl (Ls' := #[.val (.int j0), .val (.int j1), .val (.int j2), .val (.int j3), .val (.int j4), .val (.int (0 : Int32)), .val (.int (0 : Int32)), .val (.int q0), .val (.int q1), .val (.int q2), .val (.int q3), .val (.ref x1), .val (.ref x2), .val (.ref r4), .unset, .unset]) rfl ?_
      refine g_bipush w at_86 (q := 88) rfl (v := (12 : Int32)) (by decide) ?_
      refine g_iload w at_88 (q := 90) rfl rfl ?_
      refine g_iadd w at_90 (q := 91) rfl ?_
      rw [show (12 : Int32) + (0 : Int32) = (12 : Int32) from by decide]
      show Go p e below _ (State.setTop T (mkF m 91 #[.val (.int j0), .val (.int j1), .val (.int j2), .val (.int j3), .val (.int j4), .val (.int (0 : Int32)), .val (.int (0 : Int32)), .val (.int q0), .val (.int q1), .val (.int q2), .val (.int q3), .val (.ref x1), .val (.ref x2), .val (.ref r4), .unset, .unset] [(.int (12 : Int32))]))
      refine g_iload w at_91 (q := 93) rfl rfl ?_
      refine g_iadd w at_93 (q := 94) rfl ?_
      rw [show (12 : Int32) + (0 : Int32) = (12 : Int32) from by decide]
      show Go p e below _ (State.setTop T (mkF m 94 #[.val (.int j0), .val (.int j1), .val (.int j2), .val (.int j3), .val (.int j4), .val (.int (0 : Int32)), .val (.int (0 : Int32)), .val (.int q0), .val (.int q1), .val (.int q2), .val (.int q3), .val (.ref x1), .val (.ref x2), .val (.ref r4), .unset, .unset] [(.int (12 : Int32))]))
      refine g_newarr w at_94 (q := 96) rfl (hw _ (List.mem_of_getElem? (i := 9) rfl)) (len := 12) (cap := 12) (by decide) (by decide) (by decide) (by decide) (by decide) (fun T h a5 w E g_a5 n_a5 A_a5 s_a5 => ?_)
      have z_a5 := Nat.le_trans E0.1 g_a5
      have ne_r4_a5 : r4 ≠ a5 := Nat.ne_of_lt (Nat.lt_of_lt_of_le U_r4.lt g_a5)
      replace E0 := ext_trans E0 E
      replace U_r4 := U_r4.ext E
      replace A_a5 : Ar Z h a5 .char [(.int (0 : Int32)), (.int (0 : Int32)), (.int (0 : Int32)), (.int (0 : Int32)), (.int (0 : Int32)), (.int (0 : Int32)), (.int (0 : Int32)), (.int (0 : Int32)), (.int (0 : Int32)), (.int (0 : Int32)), (.int (0 : Int32)), (.int (0 : Int32))] := A_a5
      refine g_astore w at_96 (q := 98) rfl rfl (Ls' := #[.val (.int j0), .val (.int j1), .val (.int j2), .val (.int j3), .val (.int j4), .val (.int (0 : Int32)), .val (.int (0 : Int32)), .val (.int q0), .val (.int q1), .val (.int q2), .val (.int q3), .val (.ref x1), .val (.ref x2), .val (.ref r4), .val (.ref a5), .unset]) rfl ?_
      refine g_aload w at_98 (q := 100) rfl rfl rfl ?_
      refine g_iconst w at_100 (q := 101) rfl (v := (0 : Int32)) (by decide) ?_
      refine g_bipush w at_101 (q := 103) rfl (v := (122 : Int32)) (by decide) ?_
      refine g_castore w at_103 (q := 104) rfl A_a5 (i := 0) (by decide) (Nat.le_of_ble_eq_true rfl) (x' := (122 : Int32)) (nar_chr (by constructor <;> decide)) n_a5 (w.safeAr A_a5 (by decide)) (fun T h w W V => ?_)
      replace U_r4 := U_r4.wrC W A_a5 ne_r4_a5
      replace E0 := ext_wr E0 W z_a5
      replace A_a5 : Ar Z h a5 .char [(.int (122 : Int32)), (.int (0 : Int32)), (.int (0 : Int32)), (.int (0 : Int32)), (.int (0 : Int32)), (.int (0 : Int32)), (.int (0 : Int32)), (.int (0 : Int32)), (.int (0 : Int32)), (.int (0 : Int32)), (.int (0 : Int32)), (.int (0 : Int32))] := V
      refine g_aload w at_104 (q := 106) rfl rfl rfl ?_
      refine g_iconst w at_106 (q := 107) rfl (v := (1 : Int32)) (by decide) ?_
      refine g_bipush w at_107 (q := 109) rfl (v := (111 : Int32)) (by decide) ?_
      refine g_castore w at_109 (q := 110) rfl A_a5 (i := 1) (by decide) (Nat.le_of_ble_eq_true rfl) (x' := (111 : Int32)) (nar_chr (by constructor <;> decide)) n_a5 (w.safeAr A_a5 (by decide)) (fun T h w W V => ?_)
      replace U_r4 := U_r4.wrC W A_a5 ne_r4_a5
      replace E0 := ext_wr E0 W z_a5
      replace A_a5 : Ar Z h a5 .char [(.int (122 : Int32)), (.int (111 : Int32)), (.int (0 : Int32)), (.int (0 : Int32)), (.int (0 : Int32)), (.int (0 : Int32)), (.int (0 : Int32)), (.int (0 : Int32)), (.int (0 : Int32)), (.int (0 : Int32)), (.int (0 : Int32)), (.int (0 : Int32))] := V
      refine g_aload w at_110 (q := 112) rfl rfl rfl ?_
      refine g_iconst w at_112 (q := 113) rfl (v := (2 : Int32)) (by decide) ?_
      refine g_bipush w at_113 (q := 115) rfl (v := (111 : Int32)) (by decide) ?_
      refine g_castore w at_115 (q := 116) rfl A_a5 (i := 2) (by decide) (Nat.le_of_ble_eq_true rfl) (x' := (111 : Int32)) (nar_chr (by constructor <;> decide)) n_a5 (w.safeAr A_a5 (by decide)) (fun T h w W V => ?_)
      replace U_r4 := U_r4.wrC W A_a5 ne_r4_a5
      replace E0 := ext_wr E0 W z_a5
      replace A_a5 : Ar Z h a5 .char [(.int (122 : Int32)), (.int (111 : Int32)), (.int (111 : Int32)), (.int (0 : Int32)), (.int (0 : Int32)), (.int (0 : Int32)), (.int (0 : Int32)), (.int (0 : Int32)), (.int (0 : Int32)), (.int (0 : Int32)), (.int (0 : Int32)), (.int (0 : Int32))] := V
      refine g_aload w at_116 (q := 118) rfl rfl rfl ?_
      refine g_iconst w at_118 (q := 119) rfl (v := (3 : Int32)) (by decide) ?_
      refine g_bipush w at_119 (q := 121) rfl (v := (107 : Int32)) (by decide) ?_
      refine g_castore w at_121 (q := 122) rfl A_a5 (i := 3) (by decide) (Nat.le_of_ble_eq_true rfl) (x' := (107 : Int32)) (nar_chr (by constructor <;> decide)) n_a5 (w.safeAr A_a5 (by decide)) (fun T h w W V => ?_)
      replace U_r4 := U_r4.wrC W A_a5 ne_r4_a5
      replace E0 := ext_wr E0 W z_a5
      replace A_a5 : Ar Z h a5 .char [(.int (122 : Int32)), (.int (111 : Int32)), (.int (111 : Int32)), (.int (107 : Int32)), (.int (0 : Int32)), (.int (0 : Int32)), (.int (0 : Int32)), (.int (0 : Int32)), (.int (0 : Int32)), (.int (0 : Int32)), (.int (0 : Int32)), (.int (0 : Int32))] := V
      refine g_aload w at_122 (q := 124) rfl rfl rfl ?_
      refine g_iconst w at_124 (q := 125) rfl (v := (4 : Int32)) (by decide) ?_
      refine g_bipush w at_125 (q := 127) rfl (v := (101 : Int32)) (by decide) ?_
      refine g_castore w at_127 (q := 128) rfl A_a5 (i := 4) (by decide) (Nat.le_of_ble_eq_true rfl) (x' := (101 : Int32)) (nar_chr (by constructor <;> decide)) n_a5 (w.safeAr A_a5 (by decide)) (fun T h w W V => ?_)
      replace U_r4 := U_r4.wrC W A_a5 ne_r4_a5
      replace E0 := ext_wr E0 W z_a5
      replace A_a5 : Ar Z h a5 .char [(.int (122 : Int32)), (.int (111 : Int32)), (.int (111 : Int32)), (.int (107 : Int32)), (.int (101 : Int32)), (.int (0 : Int32)), (.int (0 : Int32)), (.int (0 : Int32)), (.int (0 : Int32)), (.int (0 : Int32)), (.int (0 : Int32)), (.int (0 : Int32))] := V
      refine g_aload w at_128 (q := 130) rfl rfl rfl ?_
      refine g_iconst w at_130 (q := 131) rfl (v := (5 : Int32)) (by decide) ?_
      refine g_bipush w at_131 (q := 133) rfl (v := (101 : Int32)) (by decide) ?_
      refine g_castore w at_133 (q := 134) rfl A_a5 (i := 5) (by decide) (Nat.le_of_ble_eq_true rfl) (x' := (101 : Int32)) (nar_chr (by constructor <;> decide)) n_a5 (w.safeAr A_a5 (by decide)) (fun T h w W V => ?_)
      replace U_r4 := U_r4.wrC W A_a5 ne_r4_a5
      replace E0 := ext_wr E0 W z_a5
      replace A_a5 : Ar Z h a5 .char [(.int (122 : Int32)), (.int (111 : Int32)), (.int (111 : Int32)), (.int (107 : Int32)), (.int (101 : Int32)), (.int (101 : Int32)), (.int (0 : Int32)), (.int (0 : Int32)), (.int (0 : Int32)), (.int (0 : Int32)), (.int (0 : Int32)), (.int (0 : Int32))] := V
      refine g_aload w at_134 (q := 136) rfl rfl rfl ?_
      refine g_bipush w at_136 (q := 138) rfl (v := (6 : Int32)) (by decide) ?_
      refine g_bipush w at_138 (q := 140) rfl (v := (112 : Int32)) (by decide) ?_
      refine g_castore w at_140 (q := 141) rfl A_a5 (i := 6) (by decide) (Nat.le_of_ble_eq_true rfl) (x' := (112 : Int32)) (nar_chr (by constructor <;> decide)) n_a5 (w.safeAr A_a5 (by decide)) (fun T h w W V => ?_)
      replace U_r4 := U_r4.wrC W A_a5 ne_r4_a5
      replace E0 := ext_wr E0 W z_a5
      replace A_a5 : Ar Z h a5 .char [(.int (122 : Int32)), (.int (111 : Int32)), (.int (111 : Int32)), (.int (107 : Int32)), (.int (101 : Int32)), (.int (101 : Int32)), (.int (112 : Int32)), (.int (0 : Int32)), (.int (0 : Int32)), (.int (0 : Int32)), (.int (0 : Int32)), (.int (0 : Int32))] := V
      refine g_aload w at_141 (q := 143) rfl rfl rfl ?_
      refine g_bipush w at_143 (q := 145) rfl (v := (7 : Int32)) (by decide) ?_
      refine g_bipush w at_145 (q := 147) rfl (v := (101 : Int32)) (by decide) ?_
      refine g_castore w at_147 (q := 148) rfl A_a5 (i := 7) (by decide) (Nat.le_of_ble_eq_true rfl) (x' := (101 : Int32)) (nar_chr (by constructor <;> decide)) n_a5 (w.safeAr A_a5 (by decide)) (fun T h w W V => ?_)
      replace U_r4 := U_r4.wrC W A_a5 ne_r4_a5
      replace E0 := ext_wr E0 W z_a5
      replace A_a5 : Ar Z h a5 .char [(.int (122 : Int32)), (.int (111 : Int32)), (.int (111 : Int32)), (.int (107 : Int32)), (.int (101 : Int32)), (.int (101 : Int32)), (.int (112 : Int32)), (.int (101 : Int32)), (.int (0 : Int32)), (.int (0 : Int32)), (.int (0 : Int32)), (.int (0 : Int32))] := V
      refine g_aload w at_148 (q := 150) rfl rfl rfl ?_
      refine g_bipush w at_150 (q := 152) rfl (v := (8 : Int32)) (by decide) ?_
      refine g_bipush w at_152 (q := 154) rfl (v := (114 : Int32)) (by decide) ?_
      refine g_castore w at_154 (q := 155) rfl A_a5 (i := 8) (by decide) (Nat.le_of_ble_eq_true rfl) (x' := (114 : Int32)) (nar_chr (by constructor <;> decide)) n_a5 (w.safeAr A_a5 (by decide)) (fun T h w W V => ?_)
      replace U_r4 := U_r4.wrC W A_a5 ne_r4_a5
      replace E0 := ext_wr E0 W z_a5
      replace A_a5 : Ar Z h a5 .char [(.int (122 : Int32)), (.int (111 : Int32)), (.int (111 : Int32)), (.int (107 : Int32)), (.int (101 : Int32)), (.int (101 : Int32)), (.int (112 : Int32)), (.int (101 : Int32)), (.int (114 : Int32)), (.int (0 : Int32)), (.int (0 : Int32)), (.int (0 : Int32))] := V
      refine g_aload w at_155 (q := 157) rfl rfl rfl ?_
      refine g_bipush w at_157 (q := 159) rfl (v := (9 : Int32)) (by decide) ?_
      refine g_bipush w at_159 (q := 161) rfl (v := (58 : Int32)) (by decide) ?_
      refine g_castore w at_161 (q := 162) rfl A_a5 (i := 9) (by decide) (Nat.le_of_ble_eq_true rfl) (x' := (58 : Int32)) (nar_chr (by constructor <;> decide)) n_a5 (w.safeAr A_a5 (by decide)) (fun T h w W V => ?_)
      replace U_r4 := U_r4.wrC W A_a5 ne_r4_a5
      replace E0 := ext_wr E0 W z_a5
      replace A_a5 : Ar Z h a5 .char [(.int (122 : Int32)), (.int (111 : Int32)), (.int (111 : Int32)), (.int (107 : Int32)), (.int (101 : Int32)), (.int (101 : Int32)), (.int (112 : Int32)), (.int (101 : Int32)), (.int (114 : Int32)), (.int (58 : Int32)), (.int (0 : Int32)), (.int (0 : Int32))] := V
      refine g_aload w at_162 (q := 164) rfl rfl rfl ?_
      refine g_bipush w at_164 (q := 166) rfl (v := (10 : Int32)) (by decide) ?_
      refine g_bipush w at_166 (q := 168) rfl (v := (47 : Int32)) (by decide) ?_
      refine g_castore w at_168 (q := 169) rfl A_a5 (i := 10) (by decide) (Nat.le_of_ble_eq_true rfl) (x' := (47 : Int32)) (nar_chr (by constructor <;> decide)) n_a5 (w.safeAr A_a5 (by decide)) (fun T h w W V => ?_)
      replace U_r4 := U_r4.wrC W A_a5 ne_r4_a5
      replace E0 := ext_wr E0 W z_a5
      replace A_a5 : Ar Z h a5 .char [(.int (122 : Int32)), (.int (111 : Int32)), (.int (111 : Int32)), (.int (107 : Int32)), (.int (101 : Int32)), (.int (101 : Int32)), (.int (112 : Int32)), (.int (101 : Int32)), (.int (114 : Int32)), (.int (58 : Int32)), (.int (47 : Int32)), (.int (0 : Int32))] := V
      refine g_aload w at_169 (q := 171) rfl rfl rfl ?_
      refine g_bipush w at_171 (q := 173) rfl (v := (11 : Int32)) (by decide) ?_
      refine g_bipush w at_173 (q := 175) rfl (v := (47 : Int32)) (by decide) ?_
      refine g_castore w at_175 (q := 176) rfl A_a5 (i := 11) (by decide) (Nat.le_of_ble_eq_true rfl) (x' := (47 : Int32)) (nar_chr (by constructor <;> decide)) n_a5 (w.safeAr A_a5 (by decide)) (fun T h w W V => ?_)
      replace U_r4 := U_r4.wrC W A_a5 ne_r4_a5
      replace E0 := ext_wr E0 W z_a5
      replace A_a5 : Ar Z h a5 .char [(.int (122 : Int32)), (.int (111 : Int32)), (.int (111 : Int32)), (.int (107 : Int32)), (.int (101 : Int32)), (.int (101 : Int32)), (.int (112 : Int32)), (.int (101 : Int32)), (.int (114 : Int32)), (.int (58 : Int32)), (.int (47 : Int32)), (.int (47 : Int32))] := V
      refine g_iload w at_176 (q := 178) rfl rfl ?_
      refine g_ifY w at_178 (by decide) (q := 188) (by decide) (by decide) ?_
      refine g_iload w at_188 (q := 190) rfl rfl ?_
      refine g_iconst w at_190 (q := 191) rfl (v := (1 : Int32)) (by decide) ?_
      refine g_icY w at_191 (by decide) (q := 201) (by decide) (by decide) ?_
      refine g_bipush w at_201 (q := 203) rfl (v := (12 : Int32)) (by decide) ?_
      refine g_iload w at_203 (q := 205) rfl rfl ?_
      refine g_iadd w at_205 (q := 206) rfl ?_
      rw [show (12 : Int32) + (0 : Int32) = (12 : Int32) from by decide]
      show Go p e below _ (State.setTop T (mkF m 206 #[.val (.int j0), .val (.int j1), .val (.int j2), .val (.int j3), .val (.int j4), .val (.int (0 : Int32)), .val (.int (0 : Int32)), .val (.int q0), .val (.int q1), .val (.int q2), .val (.int q3), .val (.ref x1), .val (.ref x2), .val (.ref r4), .val (.ref a5), .unset] [(.int (12 : Int32))]))
      refine g_istore w at_206 (q := 208) rfl (Ls' := #[.val (.int j0), .val (.int j1), .val (.int j2), .val (.int j3), .val (.int j4), .val (.int (0 : Int32)), .val (.int (0 : Int32)), .val (.int q0), .val (.int q1), .val (.int q2), .val (.int q3), .val (.ref x1), .val (.ref x2), .val (.ref r4), .val (.ref a5), .val (.int (12 : Int32))]) rfl ?_
      refine g_iload w at_208 (q := 210) rfl rfl ?_
      refine g_ifY w at_210 (by decide) (q := 220) (by decide) (by decide) ?_
      refine g_iload w at_220 (q := 222) rfl rfl ?_
      refine g_iconst w at_222 (q := 223) rfl (v := (1 : Int32)) (by decide) ?_
      refine g_icY w at_223 (by decide) (q := 235) (by decide) (by decide) ?_
      refine g_aload w at_235 (q := 237) rfl rfl rfl ?_
      refine g_new w at_237 (q := 240) rfl (hw _ (List.mem_of_getElem? (i := 6) rfl)) (hw _ (List.mem_of_getElem? (i := 7) rfl)) (hw _ (List.mem_of_getElem? (i := 8) rfl)) (by decide) (by decide) (fun T h a10 w E g_a10 n_a10 X_a10 D_a10 s_a10 => ?_)
      have z_a10 := Nat.le_trans E0.1 g_a10
      have ne_a5_a10 : a5 ≠ a10 := Nat.ne_of_lt (Nat.lt_of_lt_of_le A_a5.lt g_a10)
      have ne_r4_a10 : r4 ≠ a10 := Nat.ne_of_lt (Nat.lt_of_lt_of_le U_r4.lt g_a10)
      replace E0 := ext_trans E0 E
      replace A_a5 := A_a5.ext E
      replace U_r4 := U_r4.ext E
      have F_value_a10 := D_a10 (Or.inr (hw _ (List.mem_of_getElem? (i := 22) rfl))) (ty := (.array .byte)) (by decide)
      replace F_value_a10 : Fld Z h a10 "java/lang/String" "value" "[B" .null := F_value_a10
      have F_coder_a10 := D_a10 (Or.inr (hw _ (List.mem_of_getElem? (i := 23) rfl))) (ty := .byte) (by decide)
      replace F_coder_a10 : Fld Z h a10 "java/lang/String" "coder" "B" (.int (0 : Int32)) := F_coder_a10
      refine g_dup w at_240 (q := 241) rfl rfl ?_
      refine g_aload w at_241 (q := 243) rfl rfl rfl ?_
      refine g_special w (con_new1U l Z a0 hw a10 a5 [(122 : Int32), (111 : Int32), (111 : Int32), (107 : Int32), (101 : Int32), (101 : Int32), (112 : Int32), (101 : Int32), (114 : Int32), (58 : Int32), (47 : Int32), (47 : Int32)] _ w.old X_a10 F_value_a10 F_coder_a10 n_a10 A_a5 ne_a5_a10 (Nat.le_of_ble_eq_true rfl) (csS (by constructor <;> decide) (csS (by constructor <;> decide) (csS (by constructor <;> decide) (csS (by constructor <;> decide) (csS (by constructor <;> decide) (csS (by constructor <;> decide) (csS (by constructor <;> decide) (csS (by constructor <;> decide) (csS (by constructor <;> decide) (csS (by constructor <;> decide) (csS (by constructor <;> decide) (csS (by constructor <;> decide) cs0)))))))))))) (Nat.le_of_ble_eq_true rfl) hcm SA_ SH_ SL_) no0 at_243 (q := 246) rfl rfl rfl (hw _ (List.mem_of_getElem? (i := 10) rfl)) (hw _ (List.mem_of_getElem? (i := 11) rfl)) (hw _ (List.mem_of_getElem? (i := 8) rfl)) (hw _ (List.mem_of_getElem? (i := 12) rfl)) (by decide) pd28 rfl rfl (W := 2) (Nat.le_of_eq rfl) (by decide) (by decide) (by decide) (by decide) (fun T h v w gs C q => ?_)
      obtain ⟨rfl, K, U_a10⟩ := q
      replace E0 := ext_keep E0 K z_a10
      have X0 := X_a10
      replace A_a5 := A_a5.keep K (not1 ne_a5_a10)
      replace U_r4 := U_r4.keepO K ne_r4_a10 X0 (hw _ (List.mem_of_getElem? (i := 7) rfl))
      replace X_a10 := X_a10.keep K
      show Go p e below _ (State.setTop T (mkF m 246 #[.val (.int j0), .val (.int j1), .val (.int j2), .val (.int j3), .val (.int j4), .val (.int (0 : Int32)), .val (.int (0 : Int32)), .val (.int q0), .val (.int q1), .val (.int q2), .val (.int q3), .val (.ref x1), .val (.ref x2), .val (.ref r4), .val (.ref a5), .val (.int (12 : Int32))] [(.ref a10), (.ref r4)]))
      refine g_virtualB w (a := r4) (argsL := [(.ref a10)]) (own_eqU hw U_r4 U_a10 (w.sta SC_) hz_ (by decide) (by decide)) U_r4.exa at_246 (q := 249) rfl rfl (hw _ (List.mem_of_getElem? (i := 171) rfl)) (hw _ (List.mem_of_getElem? (i := 172) rfl)) (hw _ (List.mem_of_getElem? (i := 174) rfl)) (hw _ (List.mem_of_getElem? (i := 173) rfl)) (by decide) (nf (hw _ (List.mem_of_getElem? (i := 174) rfl))) pd33 rfl rfl (W := 0) (Nat.le_of_eq rfl) (by decide) (by decide) (fun T v w hq => ?_)
      rcases hq with ⟨rfl, hq⟩ | ⟨rfl, hq⟩
      · show Go p e below _ (State.setTop T (mkF m 249 #[.val (.int j0), .val (.int j1), .val (.int j2), .val (.int j3), .val (.int j4), .val (.int (0 : Int32)), .val (.int (0 : Int32)), .val (.int q0), .val (.int q1), .val (.int q2), .val (.int q3), .val (.ref x1), .val (.ref x2), .val (.ref r4), .val (.ref a5), .val (.int (12 : Int32))] [(.int (1 : Int32))]))
        exact g_retn w at_249 rfl (by simp) rfl (by decide) (by decide) rfl
      · exact absurd rfl hq
    · rw [e6]
      show Go p e below _ (State.setTop T (mkF m 48 #[.val (.int j0), .val (.int j1), .val (.int j2), .val (.int j3), .val (.int j4), .val (.int (0 : Int32)), .val (.int (1 : Int32)), .val (.int q0), .val (.int q1), .val (.int q2), .val (.int q3), .unset, .unset, .unset, .unset, .unset] []))
      refine g_iload w at_48 (q := 50) rfl rfl ?_
      refine g_iload w at_50 (q := 52) rfl rfl ?_
      refine g_iload w at_52 (q := 54) rfl rfl ?_
      refine g_static w (con_mk l Z a0 hw fm (0 : Int32) q0 q1 _ w.old l0 l1 hcm SFm rfm SA_ SH_ SL_) no0 at_54 (q := 57) rfl rfl (hw _ (List.mem_of_getElem? (i := 2) rfl)) (hw _ (List.mem_of_getElem? (i := 3) rfl)) (hw _ (List.mem_of_getElem? (i := 4) rfl)) (hw _ (List.mem_of_getElem? (i := 5) rfl)) (by decide) pd31 rfl rfl (W := 0) (Nat.le_of_eq rfl) (by decide) (by decide) (by decide) (by decide) (fun T h v w gs C q => ?_)
      obtain ⟨x11, rfl, E, g_x11, U_x11⟩ := q
      replace U_x11 : Su Z h x11 [] := by simpa [sg] using U_x11
      have z_x11 := Nat.le_trans E0.1 g_x11
      replace E0 := ext_trans E0 E
      show Go p e below _ (State.setTop T (mkF m 57 #[.val (.int j0), .val (.int j1), .val (.int j2), .val (.int j3), .val (.int j4), .val (.int (0 : Int32)), .val (.int (1 : Int32)), .val (.int q0), .val (.int q1), .val (.int q2), .val (.int q3), .unset, .unset, .unset, .unset, .unset] [(.ref x11)]))
      refine g_astore w at_57 (q := 59) rfl rfl (Ls' := #[.val (.int j0), .val (.int j1), .val (.int j2), .val (.int j3), .val (.int j4), .val (.int (0 : Int32)), .val (.int (1 : Int32)), .val (.int q0), .val (.int q1), .val (.int q2), .val (.int q3), .val (.ref x11), .unset, .unset, .unset, .unset]) rfl ?_
      refine g_iload w at_59 (q := 61) rfl rfl ?_
      refine g_iload w at_61 (q := 63) rfl rfl ?_
      refine g_iload w at_63 (q := 65) rfl rfl ?_
      refine g_static w (con_mk l Z a0 hw fm (1 : Int32) q2 q3 _ w.old l2 l3 hcm SFm rfm SA_ SH_ SL_) no0 at_65 (q := 68) rfl rfl (hw _ (List.mem_of_getElem? (i := 2) rfl)) (hw _ (List.mem_of_getElem? (i := 3) rfl)) (hw _ (List.mem_of_getElem? (i := 4) rfl)) (hw _ (List.mem_of_getElem? (i := 5) rfl)) (by decide) pd31 rfl rfl (W := 0) (Nat.le_of_eq rfl) (by decide) (by decide) (by decide) (by decide) (fun T h v w gs C q => ?_)
      obtain ⟨x12, rfl, E, g_x12, U_x12⟩ := q
      replace U_x12 : Su Z h x12 [q2] := by simpa [sg] using U_x12
      have z_x12 := Nat.le_trans E0.1 g_x12
      have ne_x11_x12 : x11 ≠ x12 := Nat.ne_of_lt (Nat.lt_of_lt_of_le U_x11.lt g_x12)
      replace E0 := ext_trans E0 E
      replace U_x11 := U_x11.ext E
      show Go p e below _ (State.setTop T (mkF m 68 #[.val (.int j0), .val (.int j1), .val (.int j2), .val (.int j3), .val (.int j4), .val (.int (0 : Int32)), .val (.int (1 : Int32)), .val (.int q0), .val (.int q1), .val (.int q2), .val (.int q3), .val (.ref x11), .unset, .unset, .unset, .unset] [(.ref x12)]))
      refine g_astore w at_68 (q := 70) rfl rfl (Ls' := #[.val (.int j0), .val (.int j1), .val (.int j2), .val (.int j3), .val (.int j4), .val (.int (0 : Int32)), .val (.int (1 : Int32)), .val (.int q0), .val (.int q1), .val (.int q2), .val (.int q3), .val (.ref x11), .val (.ref x12), .unset, .unset, .unset]) rfl ?_
      refine g_new w at_70 (q := 73) rfl (hw _ (List.mem_of_getElem? (i := 28) rfl)) (hw _ (List.mem_of_getElem? (i := 29) rfl)) (hw _ (List.mem_of_getElem? (i := 30) rfl)) (by decide) (by decide) (fun T h a13 w E g_a13 n_a13 X_a13 D_a13 s_a13 => ?_)
      have z_a13 := Nat.le_trans E0.1 g_a13
      have ne_x11_a13 : x11 ≠ a13 := Nat.ne_of_lt (Nat.lt_of_lt_of_le U_x11.lt g_a13)
      have ne_x12_a13 : x12 ≠ a13 := Nat.ne_of_lt (Nat.lt_of_lt_of_le U_x12.lt g_a13)
      replace E0 := ext_trans E0 E
      replace U_x11 := U_x11.ext E
      replace U_x12 := U_x12.ext E
      have F_servers_a13 := D_a13 (Or.inr (hw _ (List.mem_of_getElem? (i := 41) rfl))) (ty := (.object "java/lang/String")) (by decide)
      replace F_servers_a13 : Fld Z h a13 "com/example/devizes/devizes/zookeeper/ZooKeeperAddress" "servers" "Ljava/lang/String;" .null := F_servers_a13
      have F_root_a13 := D_a13 (Or.inr (hw _ (List.mem_of_getElem? (i := 43) rfl))) (ty := (.object "java/lang/String")) (by decide)
      replace F_root_a13 : Fld Z h a13 "com/example/devizes/devizes/zookeeper/ZooKeeperAddress" "root" "Ljava/lang/String;" .null := F_root_a13
      refine g_dup w at_73 (q := 74) rfl rfl ?_
      refine g_aload w at_74 (q := 76) rfl rfl rfl ?_
      refine g_aload w at_76 (q := 78) rfl rfl rfl ?_
      refine g_special w (con_zai l Z a0 hw a13 x11 x12 _ w.old X_a13 F_servers_a13 F_root_a13 n_a13) no0 at_78 (q := 81) rfl rfl rfl (hw _ (List.mem_of_getElem? (i := 31) rfl)) (hw _ (List.mem_of_getElem? (i := 32) rfl)) (hw _ (List.mem_of_getElem? (i := 30) rfl)) (hw _ (List.mem_of_getElem? (i := 33) rfl)) (by decide) pd32 rfl rfl (W := 1) (Nat.le_of_eq rfl) (by decide) (by decide) (by decide) (by decide) (fun T h v w gs C q => ?_)
      obtain ⟨rfl, K, G_servers, G_root⟩ := q
      replace E0 := ext_keep E0 K z_a13
      have X0 := X_a13
      replace U_x11 := U_x11.keepO K ne_x11_a13 X0 (hw _ (List.mem_of_getElem? (i := 29) rfl))
      replace U_x12 := U_x12.keepO K ne_x12_a13 X0 (hw _ (List.mem_of_getElem? (i := 29) rfl))
      replace X_a13 := X_a13.keep K
      replace F_servers_a13 := G_servers
      replace F_root_a13 := G_root
      show Go p e below _ (State.setTop T (mkF m 81 #[.val (.int j0), .val (.int j1), .val (.int j2), .val (.int j3), .val (.int j4), .val (.int (0 : Int32)), .val (.int (1 : Int32)), .val (.int q0), .val (.int q1), .val (.int q2), .val (.int q3), .val (.ref x11), .val (.ref x12), .unset, .unset, .unset] [(.ref a13)]))
      refine g_virtual w (con_zts l Z a0 hw fm a13 x11 x12 [] [q2] _ w.old F_servers_a13 F_root_a13 U_x11 U_x12 (Nat.le_of_ble_eq_true rfl) (Nat.le_of_ble_eq_true rfl) hcm SFm rfm SA_ SH_ SL_) no0 X_a13 at_81 (q := 84) rfl rfl (hw _ (List.mem_of_getElem? (i := 44) rfl)) (hw _ (List.mem_of_getElem? (i := 45) rfl)) (hw _ (List.mem_of_getElem? (i := 47) rfl)) (hw _ (List.mem_of_getElem? (i := 46) rfl)) (hw _ (List.mem_of_getElem? (i := 30) rfl)) (hw _ (List.mem_of_getElem? (i := 48) rfl)) (by decide) (nf (hw _ (List.mem_of_getElem? (i := 47) rfl))) pd30 rfl rfl (W := 0) (Nat.le_of_eq rfl) (by decide) (by decide) (by decide) (by decide) (fun T h v w gs C q => ?_)
      obtain ⟨r14, rfl, E, g_r14, U_r14⟩ := q
      replace U_r14 : Su Z h r14 [(122 : Int32), (111 : Int32), (111 : Int32), (107 : Int32), (101 : Int32), (101 : Int32), (112 : Int32), (101 : Int32), (114 : Int32), (58 : Int32), (47 : Int32), (47 : Int32), q2] := U_r14
      have z_r14 := Nat.le_trans E0.1 g_r14
      have ne_a13_r14 : a13 ≠ r14 := Nat.ne_of_lt (Nat.lt_of_lt_of_le X_a13.lt g_r14)
      have ne_x11_r14 : x11 ≠ r14 := Nat.ne_of_lt (Nat.lt_of_lt_of_le U_x11.lt g_r14)
      have ne_x12_r14 : x12 ≠ r14 := Nat.ne_of_lt (Nat.lt_of_lt_of_le U_x12.lt g_r14)
      replace E0 := ext_trans E0 E
      replace U_x11 := U_x11.ext E
      replace U_x12 := U_x12.ext E
      replace X_a13 := X_a13.ext E
      replace F_servers_a13 := F_servers_a13.ext E
      replace F_root_a13 := F_root_a13.ext E
      show Go p e below _ (State.setTop T (mkF m 84 #[.val (.int j0), .val (.int j1), .val (.int j2), .val (.int j3), .val (.int j4), .val (.int (0 : Int32)), .val (.int (1 : Int32)), .val (.int q0), .val (.int q1), .val (.int q2), .val (.int q3), .val (.ref x11), .val (.ref x12), .unset, .unset, .unset] [(.ref r14)]))
      refine g_astore w at_84 (q := 86) rfl rfl (Ls' := #[.val (.int j0), .val (.int j1), .val (.int j2), .val (.int j3), .val (.int j4), .val (.int (0 : Int32)), .val (.int (1 : Int32)), .val (.int q0), .val (.int q1), .val (.int q2), .val (.int q3), .val (.ref x11), .val (.ref x12), .val (.ref r14), .unset, .unset]) rfl ?_
      refine g_bipush w at_86 (q := 88) rfl (v := (12 : Int32)) (by decide) ?_
      refine g_iload w at_88 (q := 90) rfl rfl ?_
      refine g_iadd w at_90 (q := 91) rfl ?_
      rw [show (12 : Int32) + (0 : Int32) = (12 : Int32) from by decide]
      show Go p e below _ (State.setTop T (mkF m 91 #[.val (.int j0), .val (.int j1), .val (.int j2), .val (.int j3), .val (.int j4), .val (.int (0 : Int32)), .val (.int (1 : Int32)), .val (.int q0), .val (.int q1), .val (.int q2), .val (.int q3), .val (.ref x11), .val (.ref x12), .val (.ref r14), .unset, .unset] [(.int (12 : Int32))]))
      refine g_iload w at_91 (q := 93) rfl rfl ?_
      refine g_iadd w at_93 (q := 94) rfl ?_
      rw [show (12 : Int32) + (1 : Int32) = (13 : Int32) from by decide]
      show Go p e below _ (State.setTop T (mkF m 94 #[.val (.int j0), .val (.int j1), .val (.int j2), .val (.int j3), .val (.int j4), .val (.int (0 : Int32)), .val (.int (1 : Int32)), .val (.int q0), .val (.int q1), .val (.int q2), .val (.int q3), .val (.ref x11), .val (.ref x12), .val (.ref r14), .unset, .unset] [(.int (13 : Int32))]))
      refine g_newarr w at_94 (q := 96) rfl (hw _ (List.mem_of_getElem? (i := 9) rfl)) (len := 13) (cap := 13) (by decide) (by decide) (by decide) (by decide) (by decide) (fun T h a15 w E g_a15 n_a15 A_a15 s_a15 => ?_)
      have z_a15 := Nat.le_trans E0.1 g_a15
      have ne_r14_a15 : r14 ≠ a15 := Nat.ne_of_lt (Nat.lt_of_lt_of_le U_r14.lt g_a15)
      replace E0 := ext_trans E0 E
      replace U_r14 := U_r14.ext E
      replace A_a15 : Ar Z h a15 .char [(.int (0 : Int32)), (.int (0 : Int32)), (.int (0 : Int32)), (.int (0 : Int32)), (.int (0 : Int32)), (.int (0 : Int32)), (.int (0 : Int32)), (.int (0 : Int32)), (.int (0 : Int32)), (.int (0 : Int32)), (.int (0 : Int32)), (.int (0 : Int32)), (.int (0 : Int32))] := A_a15
      refine g_astore w at_96 (q := 98) rfl rfl (Ls' := #[.val (.int j0), .val (.int j1), .val (.int j2), .val (.int j3), .val (.int j4), .val (.int (0 : Int32)), .val (.int (1 : Int32)), .val (.int q0), .val (.int q1), .val (.int q2), .val (.int q3), .val (.ref x11), .val (.ref x12), .val (.ref r14), .val (.ref a15), .unset]) rfl ?_
      refine g_aload w at_98 (q := 100) rfl rfl rfl ?_
      refine g_iconst w at_100 (q := 101) rfl (v := (0 : Int32)) (by decide) ?_
      refine g_bipush w at_101 (q := 103) rfl (v := (122 : Int32)) (by decide) ?_
      refine g_castore w at_103 (q := 104) rfl A_a15 (i := 0) (by decide) (Nat.le_of_ble_eq_true rfl) (x' := (122 : Int32)) (nar_chr (by constructor <;> decide)) n_a15 (w.safeAr A_a15 (by decide)) (fun T h w W V => ?_)
      replace U_r14 := U_r14.wrC W A_a15 ne_r14_a15
      replace E0 := ext_wr E0 W z_a15
      replace A_a15 : Ar Z h a15 .char [(.int (122 : Int32)), (.int (0 : Int32)), (.int (0 : Int32)), (.int (0 : Int32)), (.int (0 : Int32)), (.int (0 : Int32)), (.int (0 : Int32)), (.int (0 : Int32)), (.int (0 : Int32)), (.int (0 : Int32)), (.int (0 : Int32)), (.int (0 : Int32)), (.int (0 : Int32))] := V
      refine g_aload w at_104 (q := 106) rfl rfl rfl ?_
      refine g_iconst w at_106 (q := 107) rfl (v := (1 : Int32)) (by decide) ?_
      refine g_bipush w at_107 (q := 109) rfl (v := (111 : Int32)) (by decide) ?_
      refine g_castore w at_109 (q := 110) rfl A_a15 (i := 1) (by decide) (Nat.le_of_ble_eq_true rfl) (x' := (111 : Int32)) (nar_chr (by constructor <;> decide)) n_a15 (w.safeAr A_a15 (by decide)) (fun T h w W V => ?_)
      replace U_r14 := U_r14.wrC W A_a15 ne_r14_a15
      replace E0 := ext_wr E0 W z_a15
      replace A_a15 : Ar Z h a15 .char [(.int (122 : Int32)), (.int (111 : Int32)), (.int (0 : Int32)), (.int (0 : Int32)), (.int (0 : Int32)), (.int (0 : Int32)), (.int (0 : Int32)), (.int (0 : Int32)), (.int (0 : Int32)), (.int (0 : Int32)), (.int (0 : Int32)), (.int (0 : Int32)), (.int (0 : Int32))] := V
      refine g_aload w at_110 (q := 112) rfl rfl rfl ?_
      refine g_iconst w at_112 (q := 113) rfl (v := (2 : Int32)) (by decide) ?_
      refine g_bipush w at_113 (q := 115) rfl (v := (111 : Int32)) (by decide) ?_
      refine g_castore w at_115 (q := 116) rfl A_a15 (i := 2) (by decide) (Nat.le_of_ble_eq_true rfl) (x' := (111 : Int32)) (nar_chr (by constructor <;> decide)) n_a15 (w.safeAr A_a15 (by decide)) (fun T h w W V => ?_)
      replace U_r14 := U_r14.wrC W A_a15 ne_r14_a15
      replace E0 := ext_wr E0 W z_a15
      replace A_a15 : Ar Z h a15 .char [(.int (122 : Int32)), (.int (111 : Int32)), (.int (111 : Int32)), (.int (0 : Int32)), (.int (0 : Int32)), (.int (0 : Int32)), (.int (0 : Int32)), (.int (0 : Int32)), (.int (0 : Int32)), (.int (0 : Int32)), (.int (0 : Int32)), (.int (0 : Int32)), (.int (0 : Int32))] := V
      refine g_aload w at_116 (q := 118) rfl rfl rfl ?_
      refine g_iconst w at_118 (q := 119) rfl (v := (3 : Int32)) (by decide) ?_
      refine g_bipush w at_119 (q := 121) rfl (v := (107 : Int32)) (by decide) ?_
      refine g_castore w at_121 (q := 122) rfl A_a15 (i := 3) (by decide) (Nat.le_of_ble_eq_true rfl) (x' := (107 : Int32)) (nar_chr (by constructor <;> decide)) n_a15 (w.safeAr A_a15 (by decide)) (fun T h w W V => ?_)
      replace U_r14 := U_r14.wrC W A_a15 ne_r14_a15
      replace E0 := ext_wr E0 W z_a15
      replace A_a15 : Ar Z h a15 .char [(.int (122 : Int32)), (.int (111 : Int32)), (.int (111 : Int32)), (.int (107 : Int32)), (.int (0 : Int32)), (.int (0 : Int32)), (.int (0 : Int32)), (.int (0 : Int32)), (.int (0 : Int32)), (.int (0 : Int32)), (.int (0 : Int32)), (.int (0 : Int32)), (.int (0 : Int32))] := V
      refine g_aload w at_122 (q := 124) rfl rfl rfl ?_
      refine g_iconst w at_124 (q := 125) rfl (v := (4 : Int32)) (by decide) ?_
      refine g_bipush w at_125 (q := 127) rfl (v := (101 : Int32)) (by decide) ?_
      refine g_castore w at_127 (q := 128) rfl A_a15 (i := 4) (by decide) (Nat.le_of_ble_eq_true rfl) (x' := (101 : Int32)) (nar_chr (by constructor <;> decide)) n_a15 (w.safeAr A_a15 (by decide)) (fun T h w W V => ?_)
      replace U_r14 := U_r14.wrC W A_a15 ne_r14_a15
      replace E0 := ext_wr E0 W z_a15
      replace A_a15 : Ar Z h a15 .char [(.int (122 : Int32)), (.int (111 : Int32)), (.int (111 : Int32)), (.int (107 : Int32)), (.int (101 : Int32)), (.int (0 : Int32)), (.int (0 : Int32)), (.int (0 : Int32)), (.int (0 : Int32)), (.int (0 : Int32)), (.int (0 : Int32)), (.int (0 : Int32)), (.int (0 : Int32))] := V
      refine g_aload w at_128 (q := 130) rfl rfl rfl ?_
      refine g_iconst w at_130 (q := 131) rfl (v := (5 : Int32)) (by decide) ?_
      refine g_bipush w at_131 (q := 133) rfl (v := (101 : Int32)) (by decide) ?_
      refine g_castore w at_133 (q := 134) rfl A_a15 (i := 5) (by decide) (Nat.le_of_ble_eq_true rfl) (x' := (101 : Int32)) (nar_chr (by constructor <;> decide)) n_a15 (w.safeAr A_a15 (by decide)) (fun T h w W V => ?_)
      replace U_r14 := U_r14.wrC W A_a15 ne_r14_a15
      replace E0 := ext_wr E0 W z_a15
      replace A_a15 : Ar Z h a15 .char [(.int (122 : Int32)), (.int (111 : Int32)), (.int (111 : Int32)), (.int (107 : Int32)), (.int (101 : Int32)), (.int (101 : Int32)), (.int (0 : Int32)), (.int (0 : Int32)), (.int (0 : Int32)), (.int (0 : Int32)), (.int (0 : Int32)), (.int (0 : Int32)), (.int (0 : Int32))] := V
      refine g_aload w at_134 (q := 136) rfl rfl rfl ?_
      refine g_bipush w at_136 (q := 138) rfl (v := (6 : Int32)) (by decide) ?_
      refine g_bipush w at_138 (q := 140) rfl (v := (112 : Int32)) (by decide) ?_
      refine g_castore w at_140 (q := 141) rfl A_a15 (i := 6) (by decide) (Nat.le_of_ble_eq_true rfl) (x' := (112 : Int32)) (nar_chr (by constructor <;> decide)) n_a15 (w.safeAr A_a15 (by decide)) (fun T h w W V => ?_)
      replace U_r14 := U_r14.wrC W A_a15 ne_r14_a15
      replace E0 := ext_wr E0 W z_a15
      replace A_a15 : Ar Z h a15 .char [(.int (122 : Int32)), (.int (111 : Int32)), (.int (111 : Int32)), (.int (107 : Int32)), (.int (101 : Int32)), (.int (101 : Int32)), (.int (112 : Int32)), (.int (0 : Int32)), (.int (0 : Int32)), (.int (0 : Int32)), (.int (0 : Int32)), (.int (0 : Int32)), (.int (0 : Int32))] := V
      refine g_aload w at_141 (q := 143) rfl rfl rfl ?_
      refine g_bipush w at_143 (q := 145) rfl (v := (7 : Int32)) (by decide) ?_
      refine g_bipush w at_145 (q := 147) rfl (v := (101 : Int32)) (by decide) ?_
      refine g_castore w at_147 (q := 148) rfl A_a15 (i := 7) (by decide) (Nat.le_of_ble_eq_true rfl) (x' := (101 : Int32)) (nar_chr (by constructor <;> decide)) n_a15 (w.safeAr A_a15 (by decide)) (fun T h w W V => ?_)
      replace U_r14 := U_r14.wrC W A_a15 ne_r14_a15
      replace E0 := ext_wr E0 W z_a15
      replace A_a15 : Ar Z h a15 .char [(.int (122 : Int32)), (.int (111 : Int32)), (.int (111 : Int32)), (.int (107 : Int32)), (.int (101 : Int32)), (.int (101 : Int32)), (.int (112 : Int32)), (.int (101 : Int32)), (.int (0 : Int32)), (.int (0 : Int32)), (.int (0 : Int32)), (.int (0 : Int32)), (.int (0 : Int32))] := V
      refine g_aload w at_148 (q := 150) rfl rfl rfl ?_
      refine g_bipush w at_150 (q := 152) rfl (v := (8 : Int32)) (by decide) ?_
      refine g_bipush w at_152 (q := 154) rfl (v := (114 : Int32)) (by decide) ?_
      refine g_castore w at_154 (q := 155) rfl A_a15 (i := 8) (by decide) (Nat.le_of_ble_eq_true rfl) (x' := (114 : Int32)) (nar_chr (by constructor <;> decide)) n_a15 (w.safeAr A_a15 (by decide)) (fun T h w W V => ?_)
      replace U_r14 := U_r14.wrC W A_a15 ne_r14_a15
      replace E0 := ext_wr E0 W z_a15
      replace A_a15 : Ar Z h a15 .char [(.int (122 : Int32)), (.int (111 : Int32)), (.int (111 : Int32)), (.int (107 : Int32)), (.int (101 : Int32)), (.int (101 : Int32)), (.int (112 : Int32)), (.int (101 : Int32)), (.int (114 : Int32)), (.int (0 : Int32)), (.int (0 : Int32)), (.int (0 : Int32)), (.int (0 : Int32))] := V
      refine g_aload w at_155 (q := 157) rfl rfl rfl ?_
      refine g_bipush w at_157 (q := 159) rfl (v := (9 : Int32)) (by decide) ?_
      refine g_bipush w at_159 (q := 161) rfl (v := (58 : Int32)) (by decide) ?_
      refine g_castore w at_161 (q := 162) rfl A_a15 (i := 9) (by decide) (Nat.le_of_ble_eq_true rfl) (x' := (58 : Int32)) (nar_chr (by constructor <;> decide)) n_a15 (w.safeAr A_a15 (by decide)) (fun T h w W V => ?_)
      replace U_r14 := U_r14.wrC W A_a15 ne_r14_a15
      replace E0 := ext_wr E0 W z_a15
      replace A_a15 : Ar Z h a15 .char [(.int (122 : Int32)), (.int (111 : Int32)), (.int (111 : Int32)), (.int (107 : Int32)), (.int (101 : Int32)), (.int (101 : Int32)), (.int (112 : Int32)), (.int (101 : Int32)), (.int (114 : Int32)), (.int (58 : Int32)), (.int (0 : Int32)), (.int (0 : Int32)), (.int (0 : Int32))] := V
      refine g_aload w at_162 (q := 164) rfl rfl rfl ?_
      refine g_bipush w at_164 (q := 166) rfl (v := (10 : Int32)) (by decide) ?_
      refine g_bipush w at_166 (q := 168) rfl (v := (47 : Int32)) (by decide) ?_
      refine g_castore w at_168 (q := 169) rfl A_a15 (i := 10) (by decide) (Nat.le_of_ble_eq_true rfl) (x' := (47 : Int32)) (nar_chr (by constructor <;> decide)) n_a15 (w.safeAr A_a15 (by decide)) (fun T h w W V => ?_)
      replace U_r14 := U_r14.wrC W A_a15 ne_r14_a15
      replace E0 := ext_wr E0 W z_a15
      replace A_a15 : Ar Z h a15 .char [(.int (122 : Int32)), (.int (111 : Int32)), (.int (111 : Int32)), (.int (107 : Int32)), (.int (101 : Int32)), (.int (101 : Int32)), (.int (112 : Int32)), (.int (101 : Int32)), (.int (114 : Int32)), (.int (58 : Int32)), (.int (47 : Int32)), (.int (0 : Int32)), (.int (0 : Int32))] := V
      refine g_aload w at_169 (q := 171) rfl rfl rfl ?_
      refine g_bipush w at_171 (q := 173) rfl (v := (11 : Int32)) (by decide) ?_
      refine g_bipush w at_173 (q := 175) rfl (v := (47 : Int32)) (by decide) ?_
      refine g_castore w at_175 (q := 176) rfl A_a15 (i := 11) (by decide) (Nat.le_of_ble_eq_true rfl) (x' := (47 : Int32)) (nar_chr (by constructor <;> decide)) n_a15 (w.safeAr A_a15 (by decide)) (fun T h w W V => ?_)
      replace U_r14 := U_r14.wrC W A_a15 ne_r14_a15
      replace E0 := ext_wr E0 W z_a15
      replace A_a15 : Ar Z h a15 .char [(.int (122 : Int32)), (.int (111 : Int32)), (.int (111 : Int32)), (.int (107 : Int32)), (.int (101 : Int32)), (.int (101 : Int32)), (.int (112 : Int32)), (.int (101 : Int32)), (.int (114 : Int32)), (.int (58 : Int32)), (.int (47 : Int32)), (.int (47 : Int32)), (.int (0 : Int32))] := V
      refine g_iload w at_176 (q := 178) rfl rfl ?_
      refine g_ifY w at_178 (by decide) (q := 188) (by decide) (by decide) ?_
      refine g_iload w at_188 (q := 190) rfl rfl ?_
      refine g_iconst w at_190 (q := 191) rfl (v := (1 : Int32)) (by decide) ?_
      refine g_icY w at_191 (by decide) (q := 201) (by decide) (by decide) ?_
      refine g_bipush w at_201 (q := 203) rfl (v := (12 : Int32)) (by decide) ?_
      refine g_iload w at_203 (q := 205) rfl rfl ?_
      refine g_iadd w at_205 (q := 206) rfl ?_
      rw [show (12 : Int32) + (0 : Int32) = (12 : Int32) from by decide]
      show Go p e below _ (State.setTop T (mkF m 206 #[.val (.int j0), .val (.int j1), .val (.int j2), .val (.int j3), .val (.int j4), .val (.int (0 : Int32)), .val (.int (1 : Int32)), .val (.int q0), .val (.int q1), .val (.int q2), .val (.int q3), .val (.ref x11), .val (.ref x12), .val (.ref r14), .val (.ref a15), .unset] [(.int (12 : Int32))]))
      refine g_istore w at_206 (q := 208) rfl (Ls' := #[.val (.int j0), .val (.int j1), .val (.int j2), .val (.int j3), .val (.int j4), .val (.int (0 : Int32)), .val (.int (1 : Int32)), .val (.int q0), .val (.int q1), .val (.int q2), .val (.int q3), .val (.ref x11), .val (.ref x12), .val (.ref r14), .val (.ref a15), .val (.int (12 : Int32))]) rfl ?_
      refine g_iload w at_208 (q := 210) rfl rfl ?_
      refine g_ifN w at_210 (q := 213) rfl (by decide) ?_
      refine g_aload w at_213 (q := 215) rfl rfl rfl ?_
      refine g_iload w at_215 (q := 217) rfl rfl ?_
      refine g_iload w at_217 (q := 219) rfl rfl ?_
      refine g_castore w at_219 (q := 220) rfl A_a15 (i := 12) (by decide) (Nat.le_of_ble_eq_true rfl) (x' := q2) (nar_chr l2) n_a15 (w.safeAr A_a15 (by decide)) (fun T h w W V => ?_)
      replace U_r14 := U_r14.wrC W A_a15 ne_r14_a15
      replace E0 := ext_wr E0 W z_a15
      replace A_a15 : Ar Z h a15 .char [(.int (122 : Int32)), (.int (111 : Int32)), (.int (111 : Int32)), (.int (107 : Int32)), (.int (101 : Int32)), (.int (101 : Int32)), (.int (112 : Int32)), (.int (101 : Int32)), (.int (114 : Int32)), (.int (58 : Int32)), (.int (47 : Int32)), (.int (47 : Int32)), (.int q2)] := V
      refine g_iload w at_220 (q := 222) rfl rfl ?_
      refine g_iconst w at_222 (q := 223) rfl (v := (1 : Int32)) (by decide) ?_
      refine g_icY w at_223 (by decide) (q := 235) (by decide) (Jvm.Free.XT.ii_le_t Int32.lt_irrefl) ?_
      refine g_aload w at_235 (q := 237) rfl rfl rfl ?_
      refine g_new w at_237 (q := 240) rfl (hw _ (List.mem_of_getElem? (i := 6) rfl)) (hw _ (List.mem_of_getElem? (i := 7) rfl)) (hw _ (List.mem_of_getElem? (i := 8) rfl)) (by decide) (by decide) (fun T h a20 w E g_a20 n_a20 X_a20 D_a20 s_a20 => ?_)
      have z_a20 := Nat.le_trans E0.1 g_a20
      have ne_a15_a20 : a15 ≠ a20 := Nat.ne_of_lt (Nat.lt_of_lt_of_le A_a15.lt g_a20)
      have ne_r14_a20 : r14 ≠ a20 := Nat.ne_of_lt (Nat.lt_of_lt_of_le U_r14.lt g_a20)
      replace E0 := ext_trans E0 E
      replace A_a15 := A_a15.ext E
      replace U_r14 := U_r14.ext E
      have F_value_a20 := D_a20 (Or.inr (hw _ (List.mem_of_getElem? (i := 22) rfl))) (ty := (.array .byte)) (by decide)
      replace F_value_a20 : Fld Z h a20 "java/lang/String" "value" "[B" .null := F_value_a20
      have F_coder_a20 := D_a20 (Or.inr (hw _ (List.mem_of_getElem? (i := 23) rfl))) (ty := .byte) (by decide)
      replace F_coder_a20 : Fld Z h a20 "java/lang/String" "coder" "B" (.int (0 : Int32)) := F_coder_a20
      refine g_dup w at_240 (q := 241) rfl rfl ?_
      refine g_aload w at_241 (q := 243) rfl rfl rfl ?_
      refine g_special w (con_new1U l Z a0 hw a20 a15 [(122 : Int32), (111 : Int32), (111 : Int32), (107 : Int32), (101 : Int32), (101 : Int32), (112 : Int32), (101 : Int32), (114 : Int32), (58 : Int32), (47 : Int32), (47 : Int32), q2] _ w.old X_a20 F_value_a20 F_coder_a20 n_a20 A_a15 ne_a15_a20 (Nat.le_of_ble_eq_true rfl) (csS (by constructor <;> decide) (csS (by constructor <;> decide) (csS (by constructor <;> decide) (csS (by constructor <;> decide) (csS (by constructor <;> decide) (csS (by constructor <;> decide) (csS (by constructor <;> decide) (csS (by constructor <;> decide) (csS (by constructor <;> decide) (csS (by constructor <;> decide) (csS (by constructor <;> decide) (csS (by constructor <;> decide) (csS l2 cs0))))))))))))) (Nat.le_of_ble_eq_true rfl) hcm SA_ SH_ SL_) no0 at_243 (q := 246) rfl rfl rfl (hw _ (List.mem_of_getElem? (i := 10) rfl)) (hw _ (List.mem_of_getElem? (i := 11) rfl)) (hw _ (List.mem_of_getElem? (i := 8) rfl)) (hw _ (List.mem_of_getElem? (i := 12) rfl)) (by decide) pd28 rfl rfl (W := 2) (Nat.le_of_eq rfl) (by decide) (by decide) (by decide) (by decide) (fun T h v w gs C q => ?_)
      obtain ⟨rfl, K, U_a20⟩ := q
      replace E0 := ext_keep E0 K z_a20
      have X0 := X_a20
      replace A_a15 := A_a15.keep K (not1 ne_a15_a20)
      replace U_r14 := U_r14.keepO K ne_r14_a20 X0 (hw _ (List.mem_of_getElem? (i := 7) rfl))
      replace X_a20 := X_a20.keep K
      show Go p e below _ (State.setTop T (mkF m 246 #[.val (.int j0), .val (.int j1), .val (.int j2), .val (.int j3), .val (.int j4), .val (.int (0 : Int32)), .val (.int (1 : Int32)), .val (.int q0), .val (.int q1), .val (.int q2), .val (.int q3), .val (.ref x11), .val (.ref x12), .val (.ref r14), .val (.ref a15), .val (.int (12 : Int32))] [(.ref a20), (.ref r14)]))
      refine g_virtualB w (a := r14) (argsL := [(.ref a20)]) (own_eqU hw U_r14 U_a20 (w.sta SC_) hz_ (by decide) (by decide)) U_r14.exa at_246 (q := 249) rfl rfl (hw _ (List.mem_of_getElem? (i := 171) rfl)) (hw _ (List.mem_of_getElem? (i := 172) rfl)) (hw _ (List.mem_of_getElem? (i := 174) rfl)) (hw _ (List.mem_of_getElem? (i := 173) rfl)) (by decide) (nf (hw _ (List.mem_of_getElem? (i := 174) rfl))) pd33 rfl rfl (W := 0) (Nat.le_of_eq rfl) (by decide) (by decide) (fun T v w hq => ?_)
      rcases hq with ⟨rfl, hq⟩ | ⟨rfl, hq⟩
      · show Go p e below _ (State.setTop T (mkF m 249 #[.val (.int j0), .val (.int j1), .val (.int j2), .val (.int j3), .val (.int j4), .val (.int (0 : Int32)), .val (.int (1 : Int32)), .val (.int q0), .val (.int q1), .val (.int q2), .val (.int q3), .val (.ref x11), .val (.ref x12), .val (.ref r14), .val (.ref a15), .val (.int (12 : Int32))] [(.int (1 : Int32))]))
        exact g_retn w at_249 rfl (by simp) rfl (by decide) (by decide) rfl
      · exact absurd rfl hq
    · rw [e6]
      show Go p e below _ (State.setTop T (mkF m 48 #[.val (.int j0), .val (.int j1), .val (.int j2), .val (.int j3), .val (.int j4), .val (.int (0 : Int32)), .val (.int (2 : Int32)), .val (.int q0), .val (.int q1), .val (.int q2), .val (.int q3), .unset, .unset, .unset, .unset, .unset] []))
      refine g_iload w at_48 (q := 50) rfl rfl ?_
      refine g_iload w at_50 (q := 52) rfl rfl ?_
      refine g_iload w at_52 (q := 54) rfl rfl ?_
      refine g_static w (con_mk l Z a0 hw fm (0 : Int32) q0 q1 _ w.old l0 l1 hcm SFm rfm SA_ SH_ SL_) no0 at_54 (q := 57) rfl rfl (hw _ (List.mem_of_getElem? (i := 2) rfl)) (hw _ (List.mem_of_getElem? (i := 3) rfl)) (hw _ (List.mem_of_getElem? (i := 4) rfl)) (hw _ (List.mem_of_getElem? (i := 5) rfl)) (by decide) pd31 rfl rfl (W := 0) (Nat.le_of_eq rfl) (by decide) (by decide) (by decide) (by decide) (fun T h v w gs C q => ?_)
      obtain ⟨x21, rfl, E, g_x21, U_x21⟩ := q
      replace U_x21 : Su Z h x21 [] := by simpa [sg] using U_x21
      have z_x21 := Nat.le_trans E0.1 g_x21
      replace E0 := ext_trans E0 E
      show Go p e below _ (State.setTop T (mkF m 57 #[.val (.int j0), .val (.int j1), .val (.int j2), .val (.int j3), .val (.int j4), .val (.int (0 : Int32)), .val (.int (2 : Int32)), .val (.int q0), .val (.int q1), .val (.int q2), .val (.int q3), .unset, .unset, .unset, .unset, .unset] [(.ref x21)]))
      refine g_astore w at_57 (q := 59) rfl rfl (Ls' := #[.val (.int j0), .val (.int j1), .val (.int j2), .val (.int j3), .val (.int j4), .val (.int (0 : Int32)), .val (.int (2 : Int32)), .val (.int q0), .val (.int q1), .val (.int q2), .val (.int q3), .val (.ref x21), .unset, .unset, .unset, .unset]) rfl ?_
      refine g_iload w at_59 (q := 61) rfl rfl ?_
      refine g_iload w at_61 (q := 63) rfl rfl ?_
      refine g_iload w at_63 (q := 65) rfl rfl ?_
      refine g_static w (con_mk l Z a0 hw fm (2 : Int32) q2 q3 _ w.old l2 l3 hcm SFm rfm SA_ SH_ SL_) no0 at_65 (q := 68) rfl rfl (hw _ (List.mem_of_getElem? (i := 2) rfl)) (hw _ (List.mem_of_getElem? (i := 3) rfl)) (hw _ (List.mem_of_getElem? (i := 4) rfl)) (hw _ (List.mem_of_getElem? (i := 5) rfl)) (by decide) pd31 rfl rfl (W := 0) (Nat.le_of_eq rfl) (by decide) (by decide) (by decide) (by decide) (fun T h v w gs C q => ?_)
      obtain ⟨x22, rfl, E, g_x22, U_x22⟩ := q
      replace U_x22 : Su Z h x22 [q2, q3] := by simpa [sg] using U_x22
      have z_x22 := Nat.le_trans E0.1 g_x22
      have ne_x21_x22 : x21 ≠ x22 := Nat.ne_of_lt (Nat.lt_of_lt_of_le U_x21.lt g_x22)
      replace E0 := ext_trans E0 E
      replace U_x21 := U_x21.ext E
      show Go p e below _ (State.setTop T (mkF m 68 #[.val (.int j0), .val (.int j1), .val (.int j2), .val (.int j3), .val (.int j4), .val (.int (0 : Int32)), .val (.int (2 : Int32)), .val (.int q0), .val (.int q1), .val (.int q2), .val (.int q3), .val (.ref x21), .unset, .unset, .unset, .unset] [(.ref x22)]))
      refine g_astore w at_68 (q := 70) rfl rfl (Ls' := #[.val (.int j0), .val (.int j1), .val (.int j2), .val (.int j3), .val (.int j4), .val (.int (0 : Int32)), .val (.int (2 : Int32)), .val (.int q0), .val (.int q1), .val (.int q2), .val (.int q3), .val (.ref x21), .val (.ref x22), .unset, .unset, .unset]) rfl ?_
      refine g_new w at_70 (q := 73) rfl (hw _ (List.mem_of_getElem? (i := 28) rfl)) (hw _ (List.mem_of_getElem? (i := 29) rfl)) (hw _ (List.mem_of_getElem? (i := 30) rfl)) (by decide) (by decide) (fun T h a23 w E g_a23 n_a23 X_a23 D_a23 s_a23 => ?_)
      have z_a23 := Nat.le_trans E0.1 g_a23
      have ne_x21_a23 : x21 ≠ a23 := Nat.ne_of_lt (Nat.lt_of_lt_of_le U_x21.lt g_a23)
      have ne_x22_a23 : x22 ≠ a23 := Nat.ne_of_lt (Nat.lt_of_lt_of_le U_x22.lt g_a23)
      replace E0 := ext_trans E0 E
      replace U_x21 := U_x21.ext E
      replace U_x22 := U_x22.ext E
      have F_servers_a23 := D_a23 (Or.inr (hw _ (List.mem_of_getElem? (i := 41) rfl))) (ty := (.object "java/lang/String")) (by decide)
      replace F_servers_a23 : Fld Z h a23 "com/example/devizes/devizes/zookeeper/ZooKeeperAddress" "servers" "Ljava/lang/String;" .null := F_servers_a23
      have F_root_a23 := D_a23 (Or.inr (hw _ (List.mem_of_getElem? (i := 43) rfl))) (ty := (.object "java/lang/String")) (by decide)
      replace F_root_a23 : Fld Z h a23 "com/example/devizes/devizes/zookeeper/ZooKeeperAddress" "root" "Ljava/lang/String;" .null := F_root_a23
      refine g_dup w at_73 (q := 74) rfl rfl ?_
      refine g_aload w at_74 (q := 76) rfl rfl rfl ?_
      refine g_aload w at_76 (q := 78) rfl rfl rfl ?_
      refine g_special w (con_zai l Z a0 hw a23 x21 x22 _ w.old X_a23 F_servers_a23 F_root_a23 n_a23) no0 at_78 (q := 81) rfl rfl rfl (hw _ (List.mem_of_getElem? (i := 31) rfl)) (hw _ (List.mem_of_getElem? (i := 32) rfl)) (hw _ (List.mem_of_getElem? (i := 30) rfl)) (hw _ (List.mem_of_getElem? (i := 33) rfl)) (by decide) pd32 rfl rfl (W := 1) (Nat.le_of_eq rfl) (by decide) (by decide) (by decide) (by decide) (fun T h v w gs C q => ?_)
      obtain ⟨rfl, K, G_servers, G_root⟩ := q
      replace E0 := ext_keep E0 K z_a23
      have X0 := X_a23
      replace U_x21 := U_x21.keepO K ne_x21_a23 X0 (hw _ (List.mem_of_getElem? (i := 29) rfl))
      replace U_x22 := U_x22.keepO K ne_x22_a23 X0 (hw _ (List.mem_of_getElem? (i := 29) rfl))
      replace X_a23 := X_a23.keep K
      replace F_servers_a23 := G_servers
      replace F_root_a23 := G_root
      show Go p e below _ (State.setTop T (mkF m 81 #[.val (.int j0), .val (.int j1), .val (.int j2), .val (.int j3), .val (.int j4), .val (.int (0 : Int32)), .val (.int (2 : Int32)), .val (.int q0), .val (.int q1), .val (.int q2), .val (.int q3), .val (.ref x21), .val (.ref x22), .unset, .unset, .unset] [(.ref a23)]))
      refine g_virtual w (con_zts l Z a0 hw fm a23 x21 x22 [] [q2, q3] _ w.old F_servers_a23 F_root_a23 U_x21 U_x22 (Nat.le_of_ble_eq_true rfl) (Nat.le_of_ble_eq_true rfl) hcm SFm rfm SA_ SH_ SL_) no0 X_a23 at_81 (q := 84) rfl rfl (hw _ (List.mem_of_getElem? (i := 44) rfl)) (hw _ (List.mem_of_getElem? (i := 45) rfl)) (hw _ (List.mem_of_getElem? (i := 47) rfl)) (hw _ (List.mem_of_getElem? (i := 46) rfl)) (hw _ (List.mem_of_getElem? (i := 30) rfl)) (hw _ (List.mem_of_getElem? (i := 48) rfl)) (by decide) (nf (hw _ (List.mem_of_getElem? (i := 47) rfl))) pd30 rfl rfl (W := 0) (Nat.le_of_eq rfl) (by decide) (by decide) (by decide) (by decide) (fun T h v w gs C q => ?_)
      obtain ⟨r24, rfl, E, g_r24, U_r24⟩ := q
      replace U_r24 : Su Z h r24 [(122 : Int32), (111 : Int32), (111 : Int32), (107 : Int32), (101 : Int32), (101 : Int32), (112 : Int32), (101 : Int32), (114 : Int32), (58 : Int32), (47 : Int32), (47 : Int32), q2, q3] := U_r24
      have z_r24 := Nat.le_trans E0.1 g_r24
      have ne_a23_r24 : a23 ≠ r24 := Nat.ne_of_lt (Nat.lt_of_lt_of_le X_a23.lt g_r24)
      have ne_x21_r24 : x21 ≠ r24 := Nat.ne_of_lt (Nat.lt_of_lt_of_le U_x21.lt g_r24)
      have ne_x22_r24 : x22 ≠ r24 := Nat.ne_of_lt (Nat.lt_of_lt_of_le U_x22.lt g_r24)
      replace E0 := ext_trans E0 E
      replace U_x21 := U_x21.ext E
      replace U_x22 := U_x22.ext E
      replace X_a23 := X_a23.ext E
      replace F_servers_a23 := F_servers_a23.ext E
      replace F_root_a23 := F_root_a23.ext E
      show Go p e below _ (State.setTop T (mkF m 84 #[.val (.int j0), .val (.int j1), .val (.int j2), .val (.int j3), .val (.int j4), .val (.int (0 : Int32)), .val (.int (2 : Int32)), .val (.int q0), .val (.int q1), .val (.int q2), .val (.int q3), .val (.ref x21), .val (.ref x22), .unset, .unset, .unset] [(.ref r24)]))
      refine g_astore w at_84 (q := 86) rfl rfl (Ls' := #[.val (.int j0), .val (.int j1), .val (.int j2), .val (.int j3), .val (.int j4), .val (.int (0 : Int32)), .val (.int (2 : Int32)), .val (.int q0), .val (.int q1), .val (.int q2), .val (.int q3), .val (.ref x21), .val (.ref x22), .val (.ref r24), .unset, .unset]) rfl ?_
      refine g_bipush w at_86 (q := 88) rfl (v := (12 : Int32)) (by decide) ?_
      refine g_iload w at_88 (q := 90) rfl rfl ?_
      refine g_iadd w at_90 (q := 91) rfl ?_
      rw [show (12 : Int32) + (0 : Int32) = (12 : Int32) from by decide]
      show Go p e below _ (State.setTop T (mkF m 91 #[.val (.int j0), .val (.int j1), .val (.int j2), .val (.int j3), .val (.int j4), .val (.int (0 : Int32)), .val (.int (2 : Int32)), .val (.int q0), .val (.int q1), .val (.int q2), .val (.int q3), .val (.ref x21), .val (.ref x22), .val (.ref r24), .unset, .unset] [(.int (12 : Int32))]))
      refine g_iload w at_91 (q := 93) rfl rfl ?_
      refine g_iadd w at_93 (q := 94) rfl ?_
      rw [show (12 : Int32) + (2 : Int32) = (14 : Int32) from by decide]
      show Go p e below _ (State.setTop T (mkF m 94 #[.val (.int j0), .val (.int j1), .val (.int j2), .val (.int j3), .val (.int j4), .val (.int (0 : Int32)), .val (.int (2 : Int32)), .val (.int q0), .val (.int q1), .val (.int q2), .val (.int q3), .val (.ref x21), .val (.ref x22), .val (.ref r24), .unset, .unset] [(.int (14 : Int32))]))
      refine g_newarr w at_94 (q := 96) rfl (hw _ (List.mem_of_getElem? (i := 9) rfl)) (len := 14) (cap := 14) (by decide) (by decide) (by decide) (by decide) (by decide) (fun T h a25 w E g_a25 n_a25 A_a25 s_a25 => ?_)
      have z_a25 := Nat.le_trans E0.1 g_a25
      have ne_r24_a25 : r24 ≠ a25 := Nat.ne_of_lt (Nat.lt_of_lt_of_le U_r24.lt g_a25)
      replace E0 := ext_trans E0 E
      replace U_r24 := U_r24.ext E
      replace A_a25 : Ar Z h a25 .char [(.int (0 : Int32)), (.int (0 : Int32)), (.int (0 : Int32)), (.int (0 : Int32)), (.int (0 : Int32)), (.int (0 : Int32)), (.int (0 : Int32)), (.int (0 : Int32)), (.int (0 : Int32)), (.int (0 : Int32)), (.int (0 : Int32)), (.int (0 : Int32)), (.int (0 : Int32)), (.int (0 : Int32))] := A_a25
      refine g_astore w at_96 (q := 98) rfl rfl (Ls' := #[.val (.int j0), .val (.int j1), .val (.int j2), .val (.int j3), .val (.int j4), .val (.int (0 : Int32)), .val (.int (2 : Int32)), .val (.int q0), .val (.int q1), .val (.int q2), .val (.int q3), .val (.ref x21), .val (.ref x22), .val (.ref r24), .val (.ref a25), .unset]) rfl ?_
      refine g_aload w at_98 (q := 100) rfl rfl rfl ?_
      refine g_iconst w at_100 (q := 101) rfl (v := (0 : Int32)) (by decide) ?_
      refine g_bipush w at_101 (q := 103) rfl (v := (122 : Int32)) (by decide) ?_
      refine g_castore w at_103 (q := 104) rfl A_a25 (i := 0) (by decide) (Nat.le_of_ble_eq_true rfl) (x' := (122 : Int32)) (nar_chr (by constructor <;> decide)) n_a25 (w.safeAr A_a25 (by decide)) (fun T h w W V => ?_)
      replace U_r24 := U_r24.wrC W A_a25 ne_r24_a25
      replace E0 := ext_wr E0 W z_a25
      replace A_a25 : Ar Z h a25 .char [(.int (122 : Int32)), (.int (0 : Int32)), (.int (0 : Int32)), (.int (0 : Int32)), (.int (0 : Int32)), (.int (0 : Int32)), (.int (0 : Int32)), (.int (0 : Int32)), (.int (0 : Int32)), (.int (0 : Int32)), (.int (0 : Int32)), (.int (0 : Int32)), (.int (0 : Int32)), (.int (0 : Int32))] := V
      refine g_aload w at_104 (q := 106) rfl rfl rfl ?_
      refine g_iconst w at_106 (q := 107) rfl (v := (1 : Int32)) (by decide) ?_
      refine g_bipush w at_107 (q := 109) rfl (v := (111 : Int32)) (by decide) ?_
      refine g_castore w at_109 (q := 110) rfl A_a25 (i := 1) (by decide) (Nat.le_of_ble_eq_true rfl) (x' := (111 : Int32)) (nar_chr (by constructor <;> decide)) n_a25 (w.safeAr A_a25 (by decide)) (fun T h w W V => ?_)
      replace U_r24 := U_r24.wrC W A_a25 ne_r24_a25
      replace E0 := ext_wr E0 W z_a25
      replace A_a25 : Ar Z h a25 .char [(.int (122 : Int32)), (.int (111 : Int32)), (.int (0 : Int32)), (.int (0 : Int32)), (.int (0 : Int32)), (.int (0 : Int32)), (.int (0 : Int32)), (.int (0 : Int32)), (.int (0 : Int32)), (.int (0 : Int32)), (.int (0 : Int32)), (.int (0 : Int32)), (.int (0 : Int32)), (.int (0 : Int32))] := V
      refine g_aload w at_110 (q := 112) rfl rfl rfl ?_
      refine g_iconst w at_112 (q := 113) rfl (v := (2 : Int32)) (by decide) ?_
      refine g_bipush w at_113 (q := 115) rfl (v := (111 : Int32)) (by decide) ?_
      refine g_castore w at_115 (q := 116) rfl A_a25 (i := 2) (by decide) (Nat.le_of_ble_eq_true rfl) (x' := (111 : Int32)) (nar_chr (by constructor <;> decide)) n_a25 (w.safeAr A_a25 (by decide)) (fun T h w W V => ?_)
      replace U_r24 := U_r24.wrC W A_a25 ne_r24_a25
      replace E0 := ext_wr E0 W z_a25
      replace A_a25 : Ar Z h a25 .char [(.int (122 : Int32)), (.int (111 : Int32)), (.int (111 : Int32)), (.int (0 : Int32)), (.int (0 : Int32)), (.int (0 : Int32)), (.int (0 : Int32)), (.int (0 : Int32)), (.int (0 : Int32)), (.int (0 : Int32)), (.int (0 : Int32)), (.int (0 : Int32)), (.int (0 : Int32)), (.int (0 : Int32))] := V
      refine g_aload w at_116 (q := 118) rfl rfl rfl ?_
      refine g_iconst w at_118 (q := 119) rfl (v := (3 : Int32)) (by decide) ?_
      refine g_bipush w at_119 (q := 121) rfl (v := (107 : Int32)) (by decide) ?_
      refine g_castore w at_121 (q := 122) rfl A_a25 (i := 3) (by decide) (Nat.le_of_ble_eq_true rfl) (x' := (107 : Int32)) (nar_chr (by constructor <;> decide)) n_a25 (w.safeAr A_a25 (by decide)) (fun T h w W V => ?_)
      replace U_r24 := U_r24.wrC W A_a25 ne_r24_a25
      replace E0 := ext_wr E0 W z_a25
      replace A_a25 : Ar Z h a25 .char [(.int (122 : Int32)), (.int (111 : Int32)), (.int (111 : Int32)), (.int (107 : Int32)), (.int (0 : Int32)), (.int (0 : Int32)), (.int (0 : Int32)), (.int (0 : Int32)), (.int (0 : Int32)), (.int (0 : Int32)), (.int (0 : Int32)), (.int (0 : Int32)), (.int (0 : Int32)), (.int (0 : Int32))] := V
      refine g_aload w at_122 (q := 124) rfl rfl rfl ?_
      refine g_iconst w at_124 (q := 125) rfl (v := (4 : Int32)) (by decide) ?_
      refine g_bipush w at_125 (q := 127) rfl (v := (101 : Int32)) (by decide) ?_
      refine g_castore w at_127 (q := 128) rfl A_a25 (i := 4) (by decide) (Nat.le_of_ble_eq_true rfl) (x' := (101 : Int32)) (nar_chr (by constructor <;> decide)) n_a25 (w.safeAr A_a25 (by decide)) (fun T h w W V => ?_)
      replace U_r24 := U_r24.wrC W A_a25 ne_r24_a25
      replace E0 := ext_wr E0 W z_a25
      replace A_a25 : Ar Z h a25 .char [(.int (122 : Int32)), (.int (111 : Int32)), (.int (111 : Int32)), (.int (107 : Int32)), (.int (101 : Int32)), (.int (0 : Int32)), (.int (0 : Int32)), (.int (0 : Int32)), (.int (0 : Int32)), (.int (0 : Int32)), (.int (0 : Int32)), (.int (0 : Int32)), (.int (0 : Int32)), (.int (0 : Int32))] := V
      refine g_aload w at_128 (q := 130) rfl rfl rfl ?_
      refine g_iconst w at_130 (q := 131) rfl (v := (5 : Int32)) (by decide) ?_
      refine g_bipush w at_131 (q := 133) rfl (v := (101 : Int32)) (by decide) ?_
      refine g_castore w at_133 (q := 134) rfl A_a25 (i := 5) (by decide) (Nat.le_of_ble_eq_true rfl) (x' := (101 : Int32)) (nar_chr (by constructor <;> decide)) n_a25 (w.safeAr A_a25 (by decide)) (fun T h w W V => ?_)
      replace U_r24 := U_r24.wrC W A_a25 ne_r24_a25
      replace E0 := ext_wr E0 W z_a25
      replace A_a25 : Ar Z h a25 .char [(.int (122 : Int32)), (.int (111 : Int32)), (.int (111 : Int32)), (.int (107 : Int32)), (.int (101 : Int32)), (.int (101 : Int32)), (.int (0 : Int32)), (.int (0 : Int32)), (.int (0 : Int32)), (.int (0 : Int32)), (.int (0 : Int32)), (.int (0 : Int32)), (.int (0 : Int32)), (.int (0 : Int32))] := V
      refine g_aload w at_134 (q := 136) rfl rfl rfl ?_
      refine g_bipush w at_136 (q := 138) rfl (v := (6 : Int32)) (by decide) ?_
      refine g_bipush w at_138 (q := 140) rfl (v := (112 : Int32)) (by decide) ?_
      refine g_castore w at_140 (q := 141) rfl A_a25 (i := 6) (by decide) (Nat.le_of_ble_eq_true rfl) (x' := (112 : Int32)) (nar_chr (by constructor <;> decide)) n_a25 (w.safeAr A_a25 (by decide)) (fun T h w W V => ?_)
      replace U_r24 := U_r24.wrC W A_a25 ne_r24_a25
      replace E0 := ext_wr E0 W z_a25
      replace A_a25 : Ar Z h a25 .char [(.int (122 : Int32)), (.int (111 : Int32)), (.int (111 : Int32)), (.int (107 : Int32)), (.int (101 : Int32)), (.int (101 : Int32)), (.int (112 : Int32)), (.int (0 : Int32)), (.int (0 : Int32)), (.int (0 : Int32)), (.int (0 : Int32)), (.int (0 : Int32)), (.int (0 : Int32)), (.int (0 : Int32))] := V
      refine g_aload w at_141 (q := 143) rfl rfl rfl ?_
      refine g_bipush w at_143 (q := 145) rfl (v := (7 : Int32)) (by decide) ?_
      refine g_bipush w at_145 (q := 147) rfl (v := (101 : Int32)) (by decide) ?_
      refine g_castore w at_147 (q := 148) rfl A_a25 (i := 7) (by decide) (Nat.le_of_ble_eq_true rfl) (x' := (101 : Int32)) (nar_chr (by constructor <;> decide)) n_a25 (w.safeAr A_a25 (by decide)) (fun T h w W V => ?_)
      replace U_r24 := U_r24.wrC W A_a25 ne_r24_a25
      replace E0 := ext_wr E0 W z_a25
      replace A_a25 : Ar Z h a25 .char [(.int (122 : Int32)), (.int (111 : Int32)), (.int (111 : Int32)), (.int (107 : Int32)), (.int (101 : Int32)), (.int (101 : Int32)), (.int (112 : Int32)), (.int (101 : Int32)), (.int (0 : Int32)), (.int (0 : Int32)), (.int (0 : Int32)), (.int (0 : Int32)), (.int (0 : Int32)), (.int (0 : Int32))] := V
      refine g_aload w at_148 (q := 150) rfl rfl rfl ?_
      refine g_bipush w at_150 (q := 152) rfl (v := (8 : Int32)) (by decide) ?_
      refine g_bipush w at_152 (q := 154) rfl (v := (114 : Int32)) (by decide) ?_
      refine g_castore w at_154 (q := 155) rfl A_a25 (i := 8) (by decide) (Nat.le_of_ble_eq_true rfl) (x' := (114 : Int32)) (nar_chr (by constructor <;> decide)) n_a25 (w.safeAr A_a25 (by decide)) (fun T h w W V => ?_)
      replace U_r24 := U_r24.wrC W A_a25 ne_r24_a25
      replace E0 := ext_wr E0 W z_a25
      replace A_a25 : Ar Z h a25 .char [(.int (122 : Int32)), (.int (111 : Int32)), (.int (111 : Int32)), (.int (107 : Int32)), (.int (101 : Int32)), (.int (101 : Int32)), (.int (112 : Int32)), (.int (101 : Int32)), (.int (114 : Int32)), (.int (0 : Int32)), (.int (0 : Int32)), (.int (0 : Int32)), (.int (0 : Int32)), (.int (0 : Int32))] := V
      refine g_aload w at_155 (q := 157) rfl rfl rfl ?_
      refine g_bipush w at_157 (q := 159) rfl (v := (9 : Int32)) (by decide) ?_
      refine g_bipush w at_159 (q := 161) rfl (v := (58 : Int32)) (by decide) ?_
      refine g_castore w at_161 (q := 162) rfl A_a25 (i := 9) (by decide) (Nat.le_of_ble_eq_true rfl) (x' := (58 : Int32)) (nar_chr (by constructor <;> decide)) n_a25 (w.safeAr A_a25 (by decide)) (fun T h w W V => ?_)
      replace U_r24 := U_r24.wrC W A_a25 ne_r24_a25
      replace E0 := ext_wr E0 W z_a25
      replace A_a25 : Ar Z h a25 .char [(.int (122 : Int32)), (.int (111 : Int32)), (.int (111 : Int32)), (.int (107 : Int32)), (.int (101 : Int32)), (.int (101 : Int32)), (.int (112 : Int32)), (.int (101 : Int32)), (.int (114 : Int32)), (.int (58 : Int32)), (.int (0 : Int32)), (.int (0 : Int32)), (.int (0 : Int32)), (.int (0 : Int32))] := V
      refine g_aload w at_162 (q := 164) rfl rfl rfl ?_
      refine g_bipush w at_164 (q := 166) rfl (v := (10 : Int32)) (by decide) ?_
      refine g_bipush w at_166 (q := 168) rfl (v := (47 : Int32)) (by decide) ?_
      refine g_castore w at_168 (q := 169) rfl A_a25 (i := 10) (by decide) (Nat.le_of_ble_eq_true rfl) (x' := (47 : Int32)) (nar_chr (by constructor <;> decide)) n_a25 (w.safeAr A_a25 (by decide)) (fun T h w W V => ?_)
      replace U_r24 := U_r24.wrC W A_a25 ne_r24_a25
      replace E0 := ext_wr E0 W z_a25
      replace A_a25 : Ar Z h a25 .char [(.int (122 : Int32)), (.int (111 : Int32)), (.int (111 : Int32)), (.int (107 : Int32)), (.int (101 : Int32)), (.int (101 : Int32)), (.int (112 : Int32)), (.int (101 : Int32)), (.int (114 : Int32)), (.int (58 : Int32)), (.int (47 : Int32)), (.int (0 : Int32)), (.int (0 : Int32)), (.int (0 : Int32))] := V
      refine g_aload w at_169 (q := 171) rfl rfl rfl ?_
      refine g_bipush w at_171 (q := 173) rfl (v := (11 : Int32)) (by decide) ?_
      refine g_bipush w at_173 (q := 175) rfl (v := (47 : Int32)) (by decide) ?_
      refine g_castore w at_175 (q := 176) rfl A_a25 (i := 11) (by decide) (Nat.le_of_ble_eq_true rfl) (x' := (47 : Int32)) (nar_chr (by constructor <;> decide)) n_a25 (w.safeAr A_a25 (by decide)) (fun T h w W V => ?_)
      replace U_r24 := U_r24.wrC W A_a25 ne_r24_a25
      replace E0 := ext_wr E0 W z_a25
      replace A_a25 : Ar Z h a25 .char [(.int (122 : Int32)), (.int (111 : Int32)), (.int (111 : Int32)), (.int (107 : Int32)), (.int (101 : Int32)), (.int (101 : Int32)), (.int (112 : Int32)), (.int (101 : Int32)), (.int (114 : Int32)), (.int (58 : Int32)), (.int (47 : Int32)), (.int (47 : Int32)), (.int (0 : Int32)), (.int (0 : Int32))] := V
      refine g_iload w at_176 (q := 178) rfl rfl ?_
      refine g_ifY w at_178 (by decide) (q := 188) (by decide) (by decide) ?_
      refine g_iload w at_188 (q := 190) rfl rfl ?_
      refine g_iconst w at_190 (q := 191) rfl (v := (1 : Int32)) (by decide) ?_
      refine g_icY w at_191 (by decide) (q := 201) (by decide) (by decide) ?_
      refine g_bipush w at_201 (q := 203) rfl (v := (12 : Int32)) (by decide) ?_
      refine g_iload w at_203 (q := 205) rfl rfl ?_
      refine g_iadd w at_205 (q := 206) rfl ?_
      rw [show (12 : Int32) + (0 : Int32) = (12 : Int32) from by decide]
      show Go p e below _ (State.setTop T (mkF m 206 #[.val (.int j0), .val (.int j1), .val (.int j2), .val (.int j3), .val (.int j4), .val (.int (0 : Int32)), .val (.int (2 : Int32)), .val (.int q0), .val (.int q1), .val (.int q2), .val (.int q3), .val (.ref x21), .val (.ref x22), .val (.ref r24), .val (.ref a25), .unset] [(.int (12 : Int32))]))
      refine g_istore w at_206 (q := 208) rfl (Ls' := #[.val (.int j0), .val (.int j1), .val (.int j2), .val (.int j3), .val (.int j4), .val (.int (0 : Int32)), .val (.int (2 : Int32)), .val (.int q0), .val (.int q1), .val (.int q2), .val (.int q3), .val (.ref x21), .val (.ref x22), .val (.ref r24), .val (.ref a25), .val (.int (12 : Int32))]) rfl ?_
      refine g_iload w at_208 (q := 210) rfl rfl ?_
      refine g_ifN w at_210 (q := 213) rfl (by decide) ?_
      refine g_aload w at_213 (q := 215) rfl rfl rfl ?_
      refine g_iload w at_215 (q := 217) rfl rfl ?_
      refine g_iload w at_217 (q := 219) rfl rfl ?_
      refine g_castore w at_219 (q := 220) rfl A_a25 (i := 12) (by decide) (Nat.le_of_ble_eq_true rfl) (x' := q2) (nar_chr l2) n_a25 (w.safeAr A_a25 (by decide)) (fun T h w W V => ?_)
      replace U_r24 := U_r24.wrC W A_a25 ne_r24_a25
      replace E0 := ext_wr E0 W z_a25
      replace A_a25 : Ar Z h a25 .char [(.int (122 : Int32)), (.int (111 : Int32)), (.int (111 : Int32)), (.int (107 : Int32)), (.int (101 : Int32)), (.int (101 : Int32)), (.int (112 : Int32)), (.int (101 : Int32)), (.int (114 : Int32)), (.int (58 : Int32)), (.int (47 : Int32)), (.int (47 : Int32)), (.int q2), (.int (0 : Int32))] := V
      refine g_iload w at_220 (q := 222) rfl rfl ?_
      refine g_iconst w at_222 (q := 223) rfl (v := (1 : Int32)) (by decide) ?_
      refine g_icN w at_223 (q := 226) rfl (by decide) ?_
      refine g_aload w at_226 (q := 228) rfl rfl rfl ?_
      refine g_iload w at_228 (q := 230) rfl rfl ?_
      refine g_iconst w at_230 (q := 231) rfl (v := (1 : Int32)) (by decide) ?_
      refine g_iadd w at_231 (q := 232) rfl ?_
      rw [show (12 : Int32) + (1 : Int32) = (13 : Int32) from by decide]
      show Go p e below _ (State.setTop T (mkF m 232 #[.val (.int j0), .val (.int j1), .val (.int j2), .val (.int j3), .val (.int j4), .val (.int (0 : Int32)), .val (.int (2 : Int32)), .val (.int q0), .val (.int q1), .val (.int q2), .val (.int q3), .val (.ref x21), .val (.ref x22), .val (.ref r24), .val (.ref a25), .val (.int (12 : Int32))] [(.int (13 : Int32)), (.ref a25)]))
      refine g_iload w at_232 (q := 234) rfl rfl ?_
      refine g_castore w at_234 (q := 235) rfl A_a25 (i := 13) (by decide) (Nat.le_of_ble_eq_true rfl) (x' := q3) (nar_chr l3) n_a25 (w.safeAr A_a25 (by decide)) (fun T h w W V => ?_)
      replace U_r24 := U_r24.wrC W A_a25 ne_r24_a25
      replace E0 := ext_wr E0 W z_a25
      replace A_a25 : Ar Z h a25 .char [(.int (122 : Int32)), (.int (111 : Int32)), (.int (111 : Int32)), (.int (107 : Int32)), (.int (101 : Int32)), (.int (101 : Int32)), (.int (112 : Int32)), (.int (101 : Int32)), (.int (114 : Int32)), (.int (58 : Int32)), (.int (47 : Int32)), (.int (47 : Int32)), (.int q2), (.int q3)] := V
      refine g_aload w at_235 (q := 237) rfl rfl rfl ?_
      refine g_new w at_237 (q := 240) rfl (hw _ (List.mem_of_getElem? (i := 6) rfl)) (hw _ (List.mem_of_getElem? (i := 7) rfl)) (hw _ (List.mem_of_getElem? (i := 8) rfl)) (by decide) (by decide) (fun T h a30 w E g_a30 n_a30 X_a30 D_a30 s_a30 => ?_)
      have z_a30 := Nat.le_trans E0.1 g_a30
      have ne_a25_a30 : a25 ≠ a30 := Nat.ne_of_lt (Nat.lt_of_lt_of_le A_a25.lt g_a30)
      have ne_r24_a30 : r24 ≠ a30 := Nat.ne_of_lt (Nat.lt_of_lt_of_le U_r24.lt g_a30)
      replace E0 := ext_trans E0 E
      replace A_a25 := A_a25.ext E
      replace U_r24 := U_r24.ext E
      have F_value_a30 := D_a30 (Or.inr (hw _ (List.mem_of_getElem? (i := 22) rfl))) (ty := (.array .byte)) (by decide)
      replace F_value_a30 : Fld Z h a30 "java/lang/String" "value" "[B" .null := F_value_a30
      have F_coder_a30 := D_a30 (Or.inr (hw _ (List.mem_of_getElem? (i := 23) rfl))) (ty := .byte) (by decide)
      replace F_coder_a30 : Fld Z h a30 "java/lang/String" "coder" "B" (.int (0 : Int32)) := F_coder_a30
      refine g_dup w at_240 (q := 241) rfl rfl ?_
      refine g_aload w at_241 (q := 243) rfl rfl rfl ?_
      refine g_special w (con_new1U l Z a0 hw a30 a25 [(122 : Int32), (111 : Int32), (111 : Int32), (107 : Int32), (101 : Int32), (101 : Int32), (112 : Int32), (101 : Int32), (114 : Int32), (58 : Int32), (47 : Int32), (47 : Int32), q2, q3] _ w.old X_a30 F_value_a30 F_coder_a30 n_a30 A_a25 ne_a25_a30 (Nat.le_of_ble_eq_true rfl) (csS (by constructor <;> decide) (csS (by constructor <;> decide) (csS (by constructor <;> decide) (csS (by constructor <;> decide) (csS (by constructor <;> decide) (csS (by constructor <;> decide) (csS (by constructor <;> decide) (csS (by constructor <;> decide) (csS (by constructor <;> decide) (csS (by constructor <;> decide) (csS (by constructor <;> decide) (csS (by constructor <;> decide) (csS l2 (csS l3 cs0)))))))))))))) (Nat.le_of_ble_eq_true rfl) hcm SA_ SH_ SL_) no0 at_243 (q := 246) rfl rfl rfl (hw _ (List.mem_of_getElem? (i := 10) rfl)) (hw _ (List.mem_of_getElem? (i := 11) rfl)) (hw _ (List.mem_of_getElem? (i := 8) rfl)) (hw _ (List.mem_of_getElem? (i := 12) rfl)) (by decide) pd28 rfl rfl (W := 2) (Nat.le_of_eq rfl) (by decide) (by decide) (by decide) (by decide) (fun T h v w gs C q => ?_)
      obtain ⟨rfl, K, U_a30⟩ := q
      replace E0 := ext_keep E0 K z_a30
      have X0 := X_a30
      replace A_a25 := A_a25.keep K (not1 ne_a25_a30)
      replace U_r24 := U_r24.keepO K ne_r24_a30 X0 (hw _ (List.mem_of_getElem? (i := 7) rfl))
      replace X_a30 := X_a30.keep K
      show Go p e below _ (State.setTop T (mkF m 246 #[.val (.int j0), .val (.int j1), .val (.int j2), .val (.int j3), .val (.int j4), .val (.int (0 : Int32)), .val (.int (2 : Int32)), .val (.int q0), .val (.int q1), .val (.int q2), .val (.int q3), .val (.ref x21), .val (.ref x22), .val (.ref r24), .val (.ref a25), .val (.int (12 : Int32))] [(.ref a30), (.ref r24)]))
      refine g_virtualB w (a := r24) (argsL := [(.ref a30)]) (own_eqU hw U_r24 U_a30 (w.sta SC_) hz_ (by decide) (by decide)) U_r24.exa at_246 (q := 249) rfl rfl (hw _ (List.mem_of_getElem? (i := 171) rfl)) (hw _ (List.mem_of_getElem? (i := 172) rfl)) (hw _ (List.mem_of_getElem? (i := 174) rfl)) (hw _ (List.mem_of_getElem? (i := 173) rfl)) (by decide) (nf (hw _ (List.mem_of_getElem? (i := 174) rfl))) pd33 rfl rfl (W := 0) (Nat.le_of_eq rfl) (by decide) (by decide) (fun T v w hq => ?_)
      rcases hq with ⟨rfl, hq⟩ | ⟨rfl, hq⟩
      · show Go p e below _ (State.setTop T (mkF m 249 #[.val (.int j0), .val (.int j1), .val (.int j2), .val (.int j3), .val (.int j4), .val (.int (0 : Int32)), .val (.int (2 : Int32)), .val (.int q0), .val (.int q1), .val (.int q2), .val (.int q3), .val (.ref x21), .val (.ref x22), .val (.ref r24), .val (.ref a25), .val (.int (12 : Int32))] [(.int (1 : Int32))]))
        exact g_retn w at_249 rfl (by simp) rfl (by decide) (by decide) rfl
      · exact absurd rfl hq
  · rw [e5]
    rcases mod3 (mask31 (Jvm.Free.XT.ushr j4 (2 : Int32))) with e6 | e6 | e6
    · rw [e6]
      show Go p e below _ (State.setTop T (mkF m 48 #[.val (.int j0), .val (.int j1), .val (.int j2), .val (.int j3), .val (.int j4), .val (.int (1 : Int32)), .val (.int (0 : Int32)), .val (.int q0), .val (.int q1), .val (.int q2), .val (.int q3), .unset, .unset, .unset, .unset, .unset] []))
      refine g_iload w at_48 (q := 50) rfl rfl ?_
      refine g_iload w at_50 (q := 52) rfl rfl ?_
      refine g_iload w at_52 (q := 54) rfl rfl ?_
      refine g_static w (con_mk l Z a0 hw fm (1 : Int32) q0 q1 _ w.old l0 l1 hcm SFm rfm SA_ SH_ SL_) no0 at_54 (q := 57) rfl rfl (hw _ (List.mem_of_getElem? (i := 2) rfl)) (hw _ (List.mem_of_getElem? (i := 3) rfl)) (hw _ (List.mem_of_getElem? (i := 4) rfl)) (hw _ (List.mem_of_getElem? (i := 5) rfl)) (by decide) pd31 rfl rfl (W := 0) (Nat.le_of_eq rfl) (by decide) (by decide) (by decide) (by decide) (fun T h v w gs C q => ?_)
      obtain ⟨x31, rfl, E, g_x31, U_x31⟩ := q
      replace U_x31 : Su Z h x31 [q0] := by simpa [sg] using U_x31
      have z_x31 := Nat.le_trans E0.1 g_x31
      replace E0 := ext_trans E0 E
      show Go p e below _ (State.setTop T (mkF m 57 #[.val (.int j0), .val (.int j1), .val (.int j2), .val (.int j3), .val (.int j4), .val (.int (1 : Int32)), .val (.int (0 : Int32)), .val (.int q0), .val (.int q1), .val (.int q2), .val (.int q3), .unset, .unset, .unset, .unset, .unset] [(.ref x31)]))
      refine g_astore w at_57 (q := 59) rfl rfl (Ls' := #[.val (.int j0), .val (.int j1), .val (.int j2), .val (.int j3), .val (.int j4), .val (.int (1 : Int32)), .val (.int (0 : Int32)), .val (.int q0), .val (.int q1), .val (.int q2), .val (.int q3), .val (.ref x31), .unset, .unset, .unset, .unset]) rfl ?_
      refine g_iload w at_59 (q := 61) rfl rfl ?_
      refine g_iload w at_61 (q := 63) rfl rfl ?_
      refine g_iload w at_63 (q := 65) rfl rfl ?_
      refine g_static w (con_mk l Z a0 hw fm (0 : Int32) q2 q3 _ w.old l2 l3 hcm SFm rfm SA_ SH_ SL_) no0 at_65 (q := 68) rfl rfl (hw _ (List.mem_of_getElem? (i := 2) rfl)) (hw _ (List.mem_of_getElem? (i := 3) rfl)) (hw _ (List.mem_of_getElem? (i := 4) rfl)) (hw _ (List.mem_of_getElem? (i := 5) rfl)) (by decide) pd31 rfl rfl (W := 0) (Nat.le_of_eq rfl) (by decide) (by decide) (by decide) (by decide) (fun T h v w gs C q => ?_)
      obtain ⟨x32, rfl, E, g_x32, U_x32⟩ := q
      replace U_x32 : Su Z h x32 [] := by simpa [sg] using U_x32
      have z_x32 := Nat.le_trans E0.1 g_x32
      have ne_x31_x32 : x31 ≠ x32 := Nat.ne_of_lt (Nat.lt_of_lt_of_le U_x31.lt g_x32)
      replace E0 := ext_trans E0 E
      replace U_x31 := U_x31.ext E
      show Go p e below _ (State.setTop T (mkF m 68 #[.val (.int j0), .val (.int j1), .val (.int j2), .val (.int j3), .val (.int j4), .val (.int (1 : Int32)), .val (.int (0 : Int32)), .val (.int q0), .val (.int q1), .val (.int q2), .val (.int q3), .val (.ref x31), .unset, .unset, .unset, .unset] [(.ref x32)]))
      refine g_astore w at_68 (q := 70) rfl rfl (Ls' := #[.val (.int j0), .val (.int j1), .val (.int j2), .val (.int j3), .val (.int j4), .val (.int (1 : Int32)), .val (.int (0 : Int32)), .val (.int q0), .val (.int q1), .val (.int q2), .val (.int q3), .val (.ref x31), .val (.ref x32), .unset, .unset, .unset]) rfl ?_
      refine g_new w at_70 (q := 73) rfl (hw _ (List.mem_of_getElem? (i := 28) rfl)) (hw _ (List.mem_of_getElem? (i := 29) rfl)) (hw _ (List.mem_of_getElem? (i := 30) rfl)) (by decide) (by decide) (fun T h a33 w E g_a33 n_a33 X_a33 D_a33 s_a33 => ?_)
      have z_a33 := Nat.le_trans E0.1 g_a33
      have ne_x31_a33 : x31 ≠ a33 := Nat.ne_of_lt (Nat.lt_of_lt_of_le U_x31.lt g_a33)
      have ne_x32_a33 : x32 ≠ a33 := Nat.ne_of_lt (Nat.lt_of_lt_of_le U_x32.lt g_a33)
      replace E0 := ext_trans E0 E
      replace U_x31 := U_x31.ext E
      replace U_x32 := U_x32.ext E
      have F_servers_a33 := D_a33 (Or.inr (hw _ (List.mem_of_getElem? (i := 41) rfl))) (ty := (.object "java/lang/String")) (by decide)
      replace F_servers_a33 : Fld Z h a33 "com/example/devizes/devizes/zookeeper/ZooKeeperAddress" "servers" "Ljava/lang/String;" .null := F_servers_a33
      have F_root_a33 := D_a33 (Or.inr (hw _ (List.mem_of_getElem? (i := 43) rfl))) (ty := (.object "java/lang/String")) (by decide)
      replace F_root_a33 : Fld Z h a33 "com/example/devizes/devizes/zookeeper/ZooKeeperAddress" "root" "Ljava/lang/String;" .null := F_root_a33
      refine g_dup w at_73 (q := 74) rfl rfl ?_
      refine g_aload w at_74 (q := 76) rfl rfl rfl ?_
      refine g_aload w at_76 (q := 78) rfl rfl rfl ?_
      refine g_special w (con_zai l Z a0 hw a33 x31 x32 _ w.old X_a33 F_servers_a33 F_root_a33 n_a33) no0 at_78 (q := 81) rfl rfl rfl (hw _ (List.mem_of_getElem? (i := 31) rfl)) (hw _ (List.mem_of_getElem? (i := 32) rfl)) (hw _ (List.mem_of_getElem? (i := 30) rfl)) (hw _ (List.mem_of_getElem? (i := 33) rfl)) (by decide) pd32 rfl rfl (W := 1) (Nat.le_of_eq rfl) (by decide) (by decide) (by decide) (by decide) (fun T h v w gs C q => ?_)
      obtain ⟨rfl, K, G_servers, G_root⟩ := q
      replace E0 := ext_keep E0 K z_a33
      have X0 := X_a33
      replace U_x31 := U_x31.keepO K ne_x31_a33 X0 (hw _ (List.mem_of_getElem? (i := 29) rfl))
      replace U_x32 := U_x32.keepO K ne_x32_a33 X0 (hw _ (List.mem_of_getElem? (i := 29) rfl))
      replace X_a33 := X_a33.keep K
      replace F_servers_a33 := G_servers
      replace F_root_a33 := G_root
      show Go p e below _ (State.setTop T (mkF m 81 #[.val (.int j0), .val (.int j1), .val (.int j2), .val (.int j3), .val (.int j4), .val (.int (1 : Int32)), .val (.int (0 : Int32)), .val (.int q0), .val (.int q1), .val (.int q2), .val (.int q3), .val (.ref x31), .val (.ref x32), .unset, .unset, .unset] [(.ref a33)]))
      refine g_virtual w (con_zts l Z a0 hw fm a33 x31 x32 [q0] [] _ w.old F_servers_a33 F_root_a33 U_x31 U_x32 (Nat.le_of_ble_eq_true rfl) (Nat.le_of_ble_eq_true rfl) hcm SFm rfm SA_ SH_ SL_) no0 X_a33 at_81 (q := 84) rfl rfl (hw _ (List.mem_of_getElem? (i := 44) rfl)) (hw _ (List.mem_of_getElem? (i := 45) rfl)) (hw _ (List.mem_of_getElem? (i := 47) rfl)) (hw _ (List.mem_of_getElem? (i := 46) rfl)) (hw _ (List.mem_of_getElem? (i := 30) rfl)) (hw _ (List.mem_of_getElem? (i := 48) rfl)) (by decide) (nf (hw _ (List.mem_of_getElem? (i := 47) rfl))) pd30 rfl rfl (W := 0) (Nat.le_of_eq rfl) (by decide) (by decide) (by decide) (by decide) (fun T h v w gs C q => ?_)
      obtain ⟨r34, rfl, E, g_r34, U_r34⟩ := q
      replace U_r34 : Su Z h r34 [(122 : Int32), (111 : Int32), (111 : Int32), (107 : Int32), (101 : Int32), (101 : Int32), (112 : Int32), (101 : Int32), (114 : Int32), (58 : Int32), (47 : Int32), (47 : Int32), q0] := U_r34
      have z_r34 := Nat.le_trans E0.1 g_r34
      have ne_a33_r34 : a33 ≠ r34 := Nat.ne_of_lt (Nat.lt_of_lt_of_le X_a33.lt g_r34)
      have ne_x31_r34 : x31 ≠ r34 := Nat.ne_of_lt (Nat.lt_of_lt_of_le U_x31.lt g_r34)
      have ne_x32_r34 : x32 ≠ r34 := Nat.ne_of_lt (Nat.lt_of_lt_of_le U_x32.lt g_r34)
      replace E0 := ext_trans E0 E
      replace U_x31 := U_x31.ext E
      replace U_x32 := U_x32.ext E
      replace X_a33 := X_a33.ext E
      replace F_servers_a33 := F_servers_a33.ext E
      replace F_root_a33 := F_root_a33.ext E
      show Go p e below _ (State.setTop T (mkF m 84 #[.val (.int j0), .val (.int j1), .val (.int j2), .val (.int j3), .val (.int j4), .val (.int (1 : Int32)), .val (.int (0 : Int32)), .val (.int q0), .val (.int q1), .val (.int q2), .val (.int q3), .val (.ref x31), .val (.ref x32), .unset, .unset, .unset] [(.ref r34)]))
      refine g_astore w at_84 (q := 86) rfl rfl (Ls' := #[.val (.int j0), .val (.int j1), .val (.int j2), .val (.int j3), .val (.int j4), .val (.int (1 : Int32)), .val (.int (0 : Int32)), .val (.int q0), .val (.int q1), .val (.int q2), .val (.int q3), .val (.ref x31), .val (.ref x32), .val (.ref r34), .unset, .unset]) rfl ?_
      refine g_bipush w at_86 (q := 88) rfl (v := (12 : Int32)) (by decide) ?_
      refine g_iload w at_88 (q := 90) rfl rfl ?_
      refine g_iadd w at_90 (q := 91) rfl ?_
      rw [show (12 : Int32) + (1 : Int32) = (13 : Int32) from by decide]
      show Go p e below _ (State.setTop T (mkF m 91 #[.val (.int j0), .val (.int j1), .val (.int j2), .val (.int j3), .val (.int j4), .val (.int (1 : Int32)), .val (.int (0 : Int32)), .val (.int q0), .val (.int q1), .val (.int q2), .val (.int q3), .val (.ref x31), .val (.ref x32), .val (.ref r34), .unset, .unset] [(.int (13 : Int32))]))
      refine g_iload w at_91 (q := 93) rfl rfl ?_
      refine g_iadd w at_93 (q := 94) rfl ?_
      rw [show (13 : Int32) + (0 : Int32) = (13 : Int32) from by decide]
      show Go p e below _ (State.setTop T (mkF m 94 #[.val (.int j0), .val (.int j1), .val (.int j2), .val (.int j3), .val (.int j4), .val (.int (1 : Int32)), .val (.int (0 : Int32)), .val (.int q0), .val (.int q1), .val (.int q2), .val (.int q3), .val (.ref x31), .val (.ref x32), .val (.ref r34), .unset, .unset] [(.int (13 : Int32))]))
      refine g_newarr w at_94 (q := 96) rfl (hw _ (List.mem_of_getElem? (i := 9) rfl)) (len := 13) (cap := 13) (by decide) (by decide) (by decide) (by decide) (by decide) (fun T h a35 w E g_a35 n_a35 A_a35 s_a35 => ?_)
      have z_a35 := Nat.le_trans E0.1 g_a35
      have ne_r34_a35 : r34 ≠ a35 := Nat.ne_of_lt (Nat.lt_of_lt_of_le U_r34.lt g_a35)
      replace E0 := ext_trans E0 E
      replace U_r34 := U_r34.ext E
      replace A_a35 : Ar Z h a35 .char [(.int (0 : Int32)), (.int (0 : Int32)), (.int (0 : Int32)), (.int (0 : Int32)), (.int (0 : Int32)), (.int (0 : Int32)), (.int (0 : Int32)), (.int (0 : Int32)), (.int (0 : Int32)), (.int (0 : Int32)), (.int (0 : Int32)), (.int (0 : Int32)), (.int (0 : Int32))] := A_a35
      refine g_astore w at_96 (q := 98) rfl rfl (Ls' := #[.val (.int j0), .val (.int j1), .val (.int j2), .val (.int j3), .val (.int j4), .val (.int (1 : Int32)), .val (.int (0 : Int32)), .val (.int q0), .val (.int q1), .val (.int q2), .val (.int q3), .val (.ref x31), .val (.ref x32), .val (.ref r34), .val (.ref a35), .unset]) rfl ?_
      refine g_aload w at_98 (q := 100) rfl rfl rfl ?_
      refine g_iconst w at_100 (q := 101) rfl (v := (0 : Int32)) (by decide) ?_
      refine g_bipush w at_101 (q := 103) rfl (v := (122 : Int32)) (by decide) ?_
      refine g_castore w at_103 (q := 104) rfl A_a35 (i := 0) (by decide) (Nat.le_of_ble_eq_true rfl) (x' := (122 : Int32)) (nar_chr (by constructor <;> decide)) n_a35 (w.safeAr A_a35 (by decide)) (fun T h w W V => ?_)
      replace U_r34 := U_r34.wrC W A_a35 ne_r34_a35
      replace E0 := ext_wr E0 W z_a35
      replace A_a35 : Ar Z h a35 .char [(.int (122 : Int32)), (.int (0 : Int32)), (.int (0 : Int32)), (.int (0 : Int32)), (.int (0 : Int32)), (.int (0 : Int32)), (.int (0 : Int32)), (.int (0 : Int32)), (.int (0 : Int32)), (.int (0 : Int32)), (.int (0 : Int32)), (.int (0 : Int32)), (.int (0 : Int32))] := V
      refine g_aload w at_104 (q := 106) rfl rfl rfl ?_
      refine g_iconst w at_106 (q := 107) rfl (v := (1 : Int32)) (by decide) ?_
      refine g_bipush w at_107 (q := 109) rfl (v := (111 : Int32)) (by decide) ?_
      refine g_castore w at_109 (q := 110) rfl A_a35 (i := 1) (by decide) (Nat.le_of_ble_eq_true rfl) (x' := (111 : Int32)) (nar_chr (by constructor <;> decide)) n_a35 (w.safeAr A_a35 (by decide)) (fun T h w W V => ?_)
      replace U_r34 := U_r34.wrC W A_a35 ne_r34_a35
      replace E0 := ext_wr E0 W z_a35
      replace A_a35 : Ar Z h a35 .char [(.int (122 : Int32)), (.int (111 : Int32)), (.int (0 : Int32)), (.int (0 : Int32)), (.int (0 : Int32)), (.int (0 : Int32)), (.int (0 : Int32)), (.int (0 : Int32)), (.int (0 : Int32)), (.int (0 : Int32)), (.int (0 : Int32)), (.int (0 : Int32)), (.int (0 : Int32))] := V
      refine g_aload w at_110 (q := 112) rfl rfl rfl ?_
      refine g_iconst w at_112 (q := 113) rfl (v := (2 : Int32)) (by decide) ?_
      refine g_bipush w at_113 (q := 115) rfl (v := (111 : Int32)) (by decide) ?_
      refine g_castore w at_115 (q := 116) rfl A_a35 (i := 2) (by decide) (Nat.le_of_ble_eq_true rfl) (x' := (111 : Int32)) (nar_chr (by constructor <;> decide)) n_a35 (w.safeAr A_a35 (by decide)) (fun T h w W V => ?_)
      replace U_r34 := U_r34.wrC W A_a35 ne_r34_a35
      replace E0 := ext_wr E0 W z_a35
      replace A_a35 : Ar Z h a35 .char [(.int (122 : Int32)), (.int (111 : Int32)), (.int (111 : Int32)), (.int (0 : Int32)), (.int (0 : Int32)), (.int (0 : Int32)), (.int (0 : Int32)), (.int (0 : Int32)), (.int (0 : Int32)), (.int (0 : Int32)), (.int (0 : Int32)), (.int (0 : Int32)), (.int (0 : Int32))] := V
      refine g_aload w at_116 (q := 118) rfl rfl rfl ?_
      refine g_iconst w at_118 (q := 119) rfl (v := (3 : Int32)) (by decide) ?_
      refine g_bipush w at_119 (q := 121) rfl (v := (107 : Int32)) (by decide) ?_
      refine g_castore w at_121 (q := 122) rfl A_a35 (i := 3) (by decide) (Nat.le_of_ble_eq_true rfl) (x' := (107 : Int32)) (nar_chr (by constructor <;> decide)) n_a35 (w.safeAr A_a35 (by decide)) (fun T h w W V => ?_)
      replace U_r34 := U_r34.wrC W A_a35 ne_r34_a35
      replace E0 := ext_wr E0 W z_a35
      replace A_a35 : Ar Z h a35 .char [(.int (122 : Int32)), (.int (111 : Int32)), (.int (111 : Int32)), (.int (107 : Int32)), (.int (0 : Int32)), (.int (0 : Int32)), (.int (0 : Int32)), (.int (0 : Int32)), (.int (0 : Int32)), (.int (0 : Int32)), (.int (0 : Int32)), (.int (0 : Int32)), (.int (0 : Int32))] := V
      refine g_aload w at_122 (q := 124) rfl rfl rfl ?_
      refine g_iconst w at_124 (q := 125) rfl (v := (4 : Int32)) (by decide) ?_
      refine g_bipush w at_125 (q := 127) rfl (v := (101 : Int32)) (by decide) ?_
      refine g_castore w at_127 (q := 128) rfl A_a35 (i := 4) (by decide) (Nat.le_of_ble_eq_true rfl) (x' := (101 : Int32)) (nar_chr (by constructor <;> decide)) n_a35 (w.safeAr A_a35 (by decide)) (fun T h w W V => ?_)
      replace U_r34 := U_r34.wrC W A_a35 ne_r34_a35
      replace E0 := ext_wr E0 W z_a35
      replace A_a35 : Ar Z h a35 .char [(.int (122 : Int32)), (.int (111 : Int32)), (.int (111 : Int32)), (.int (107 : Int32)), (.int (101 : Int32)), (.int (0 : Int32)), (.int (0 : Int32)), (.int (0 : Int32)), (.int (0 : Int32)), (.int (0 : Int32)), (.int (0 : Int32)), (.int (0 : Int32)), (.int (0 : Int32))] := V
      refine g_aload w at_128 (q := 130) rfl rfl rfl ?_
      refine g_iconst w at_130 (q := 131) rfl (v := (5 : Int32)) (by decide) ?_
      refine g_bipush w at_131 (q := 133) rfl (v := (101 : Int32)) (by decide) ?_
      refine g_castore w at_133 (q := 134) rfl A_a35 (i := 5) (by decide) (Nat.le_of_ble_eq_true rfl) (x' := (101 : Int32)) (nar_chr (by constructor <;> decide)) n_a35 (w.safeAr A_a35 (by decide)) (fun T h w W V => ?_)
      replace U_r34 := U_r34.wrC W A_a35 ne_r34_a35
      replace E0 := ext_wr E0 W z_a35
      replace A_a35 : Ar Z h a35 .char [(.int (122 : Int32)), (.int (111 : Int32)), (.int (111 : Int32)), (.int (107 : Int32)), (.int (101 : Int32)), (.int (101 : Int32)), (.int (0 : Int32)), (.int (0 : Int32)), (.int (0 : Int32)), (.int (0 : Int32)), (.int (0 : Int32)), (.int (0 : Int32)), (.int (0 : Int32))] := V
      refine g_aload w at_134 (q := 136) rfl rfl rfl ?_
      refine g_bipush w at_136 (q := 138) rfl (v := (6 : Int32)) (by decide) ?_
      refine g_bipush w at_138 (q := 140) rfl (v := (112 : Int32)) (by decide) ?_
      refine g_castore w at_140 (q := 141) rfl A_a35 (i := 6) (by decide) (Nat.le_of_ble_eq_true rfl) (x' := (112 : Int32)) (nar_chr (by constructor <;> decide)) n_a35 (w.safeAr A_a35 (by decide)) (fun T h w W V => ?_)
      replace U_r34 := U_r34.wrC W A_a35 ne_r34_a35
      replace E0 := ext_wr E0 W z_a35
      replace A_a35 : Ar Z h a35 .char [(.int (122 : Int32)), (.int (111 : Int32)), (.int (111 : Int32)), (.int (107 : Int32)), (.int (101 : Int32)), (.int (101 : Int32)), (.int (112 : Int32)), (.int (0 : Int32)), (.int (0 : Int32)), (.int (0 : Int32)), (.int (0 : Int32)), (.int (0 : Int32)), (.int (0 : Int32))] := V
      refine g_aload w at_141 (q := 143) rfl rfl rfl ?_
      refine g_bipush w at_143 (q := 145) rfl (v := (7 : Int32)) (by decide) ?_
      refine g_bipush w at_145 (q := 147) rfl (v := (101 : Int32)) (by decide) ?_
      refine g_castore w at_147 (q := 148) rfl A_a35 (i := 7) (by decide) (Nat.le_of_ble_eq_true rfl) (x' := (101 : Int32)) (nar_chr (by constructor <;> decide)) n_a35 (w.safeAr A_a35 (by decide)) (fun T h w W V => ?_)
      replace U_r34 := U_r34.wrC W A_a35 ne_r34_a35
      replace E0 := ext_wr E0 W z_a35
      replace A_a35 : Ar Z h a35 .char [(.int (122 : Int32)), (.int (111 : Int32)), (.int (111 : Int32)), (.int (107 : Int32)), (.int (101 : Int32)), (.int (101 : Int32)), (.int (112 : Int32)), (.int (101 : Int32)), (.int (0 : Int32)), (.int (0 : Int32)), (.int (0 : Int32)), (.int (0 : Int32)), (.int (0 : Int32))] := V
      refine g_aload w at_148 (q := 150) rfl rfl rfl ?_
      refine g_bipush w at_150 (q := 152) rfl (v := (8 : Int32)) (by decide) ?_
      refine g_bipush w at_152 (q := 154) rfl (v := (114 : Int32)) (by decide) ?_
      refine g_castore w at_154 (q := 155) rfl A_a35 (i := 8) (by decide) (Nat.le_of_ble_eq_true rfl) (x' := (114 : Int32)) (nar_chr (by constructor <;> decide)) n_a35 (w.safeAr A_a35 (by decide)) (fun T h w W V => ?_)
      replace U_r34 := U_r34.wrC W A_a35 ne_r34_a35
      replace E0 := ext_wr E0 W z_a35
      replace A_a35 : Ar Z h a35 .char [(.int (122 : Int32)), (.int (111 : Int32)), (.int (111 : Int32)), (.int (107 : Int32)), (.int (101 : Int32)), (.int (101 : Int32)), (.int (112 : Int32)), (.int (101 : Int32)), (.int (114 : Int32)), (.int (0 : Int32)), (.int (0 : Int32)), (.int (0 : Int32)), (.int (0 : Int32))] := V
      refine g_aload w at_155 (q := 157) rfl rfl rfl ?_
      refine g_bipush w at_157 (q := 159) rfl (v := (9 : Int32)) (by decide) ?_
      refine g_bipush w at_159 (q := 161) rfl (v := (58 : Int32)) (by decide) ?_
      refine g_castore w at_161 (q := 162) rfl A_a35 (i := 9) (by decide) (Nat.le_of_ble_eq_true rfl) (x' := (58 : Int32)) (nar_chr (by constructor <;> decide)) n_a35 (w.safeAr A_a35 (by decide)) (fun T h w W V => ?_)
      replace U_r34 := U_r34.wrC W A_a35 ne_r34_a35
      replace E0 := ext_wr E0 W z_a35
      replace A_a35 : Ar Z h a35 .char [(.int (122 : Int32)), (.int (111 : Int32)), (.int (111 : Int32)), (.int (107 : Int32)), (.int (101 : Int32)), (.int (101 : Int32)), (.int (112 : Int32)), (.int (101 : Int32)), (.int (114 : Int32)), (.int (58 : Int32)), (.int (0 : Int32)), (.int (0 : Int32)), (.int (0 : Int32))] := V
      refine g_aload w at_162 (q := 164) rfl rfl rfl ?_
      refine g_bipush w at_164 (q := 166) rfl (v := (10 : Int32)) (by decide) ?_
      refine g_bipush w at_166 (q := 168) rfl (v := (47 : Int32)) (by decide) ?_
      refine g_castore w at_168 (q := 169) rfl A_a35 (i := 10) (by decide) (Nat.le_of_ble_eq_true rfl) (x' := (47 : Int32)) (nar_chr (by constructor <;> decide)) n_a35 (w.safeAr A_a35 (by decide)) (fun T h w W V => ?_)
      replace U_r34 := U_r34.wrC W A_a35 ne_r34_a35
      replace E0 := ext_wr E0 W z_a35
      replace A_a35 : Ar Z h a35 .char [(.int (122 : Int32)), (.int (111 : Int32)), (.int (111 : Int32)), (.int (107 : Int32)), (.int (101 : Int32)), (.int (101 : Int32)), (.int (112 : Int32)), (.int (101 : Int32)), (.int (114 : Int32)), (.int (58 : Int32)), (.int (47 : Int32)), (.int (0 : Int32)), (.int (0 : Int32))] := V
      refine g_aload w at_169 (q := 171) rfl rfl rfl ?_
      refine g_bipush w at_171 (q := 173) rfl (v := (11 : Int32)) (by decide) ?_
      refine g_bipush w at_173 (q := 175) rfl (v := (47 : Int32)) (by decide) ?_
      refine g_castore w at_175 (q := 176) rfl A_a35 (i := 11) (by decide) (Nat.le_of_ble_eq_true rfl) (x' := (47 : Int32)) (nar_chr (by constructor <;> decide)) n_a35 (w.safeAr A_a35 (by decide)) (fun T h w W V => ?_)
      replace U_r34 := U_r34.wrC W A_a35 ne_r34_a35
      replace E0 := ext_wr E0 W z_a35
      replace A_a35 : Ar Z h a35 .char [(.int (122 : Int32)), (.int (111 : Int32)), (.int (111 : Int32)), (.int (107 : Int32)), (.int (101 : Int32)), (.int (101 : Int32)), (.int (112 : Int32)), (.int (101 : Int32)), (.int (114 : Int32)), (.int (58 : Int32)), (.int (47 : Int32)), (.int (47 : Int32)), (.int (0 : Int32))] := V
      refine g_iload w at_176 (q := 178) rfl rfl ?_
      refine g_ifN w at_178 (q := 181) rfl (by decide) ?_
      refine g_aload w at_181 (q := 183) rfl rfl rfl ?_
      refine g_bipush w at_183 (q := 185) rfl (v := (12 : Int32)) (by decide) ?_
      refine g_iload w at_185 (q := 187) rfl rfl ?_
      refine g_castore w at_187 (q := 188) rfl A_a35 (i := 12) (by decide) (Nat.le_of_ble_eq_true rfl) (x' := q0) (nar_chr l0) n_a35 (w.safeAr A_a35 (by decide)) (fun T h w W V => ?_)
      replace U_r34 := U_r34.wrC W A_a35 ne_r34_a35
      replace E0 := ext_wr E0 W z_a35
      replace A_a35 : Ar Z h a35 .char [(.int (122 : Int32)), (.int (111 : Int32)), (.int (111 : Int32)), (.int (107 : Int32)), (.int (101 : Int32)), (.int (101 : Int32)), (.int (112 : Int32)), (.int (101 : Int32)), (.int (114 : Int32)), (.int (58 : Int32)), (.int (47 : Int32)), (.int (47 : Int32)), (.int q0)] := V
      refine g_iload w at_188 (q := 190) rfl rfl ?_
      refine g_iconst w at_190 (q := 191) rfl (v := (1 : Int32)) (by decide) ?_
      refine g_icY w at_191 (by decide) (q := 201) (by decide) (Jvm.Free.XT.ii_le_t Int32.lt_irrefl) ?_
      refine g_bipush w at_201 (q := 203) rfl (v := (12 : Int32)) (by decide) ?_
      refine g_iload w at_203 (q := 205) rfl rfl ?_
      refine g_iadd w at_205 (q := 206) rfl ?_
      rw [show (12 : Int32) + (1 : Int32) = (13 : Int32) from by decide]
      show Go p e below _ (State.setTop T (mkF m 206 #[.val (.int j0), .val (.int j1), .val (.int j2), .val (.int j3), .val (.int j4), .val (.int (1 : Int32)), .val (.int (0 : Int32)), .val (.int q0), .val (.int q1), .val (.int q2), .val (.int q3), .val (.ref x31), .val (.ref x32), .val (.ref r34), .val (.ref a35), .unset] [(.int (13 : Int32))]))
      refine g_istore w at_206 (q := 208) rfl (Ls' := #[.val (.int j0), .val (.int j1), .val (.int j2), .val (.int j3), .val (.int j4), .val (.int (1 : Int32)), .val (.int (0 : Int32)), .val (.int q0), .val (.int q1), .val (.int q2), .val (.int q3), .val (.ref x31), .val (.ref x32), .val (.ref r34), .val (.ref a35), .val (.int (13 : Int32))]) rfl ?_
      refine g_iload w at_208 (q := 210) rfl rfl ?_
      refine g_ifY w at_210 (by decide) (q := 220) (by decide) (by decide) ?_
      refine g_iload w at_220 (q := 222) rfl rfl ?_
      refine g_iconst w at_222 (q := 223) rfl (v := (1 : Int32)) (by decide) ?_
      refine g_icY w at_223 (by decide) (q := 235) (by decide) (by decide) ?_
      refine g_aload w at_235 (q := 237) rfl rfl rfl ?_
      refine g_new w at_237 (q := 240) rfl (hw _ (List.mem_of_getElem? (i := 6) rfl)) (hw _ (List.mem_of_getElem? (i := 7) rfl)) (hw _ (List.mem_of_getElem? (i := 8) rfl)) (by decide) (by decide) (fun T h a40 w E g_a40 n_a40 X_a40 D_a40 s_a40 => ?_)
      have z_a40 := Nat.le_trans E0.1 g_a40
      have ne_a35_a40 : a35 ≠ a40 := Nat.ne_of_lt (Nat.lt_of_lt_of_le A_a35.lt g_a40)
      have ne_r34_a40 : r34 ≠ a40 := Nat.ne_of_lt (Nat.lt_of_lt_of_le U_r34.lt g_a40)
      replace E0 := ext_trans E0 E
      replace A_a35 := A_a35.ext E
      replace U_r34 := U_r34.ext E
      have F_value_a40 := D_a40 (Or.inr (hw _ (List.mem_of_getElem? (i := 22) rfl))) (ty := (.array .byte)) (by decide)
      replace F_value_a40 : Fld Z h a40 "java/lang/String" "value" "[B" .null := F_value_a40
      have F_coder_a40 := D_a40 (Or.inr (hw _ (List.mem_of_getElem? (i := 23) rfl))) (ty := .byte) (by decide)
      replace F_coder_a40 : Fld Z h a40 "java/lang/String" "coder" "B" (.int (0 : Int32)) := F_coder_a40
      refine g_dup w at_240 (q := 241) rfl rfl ?_
      refine g_aload w at_241 (q := 243) rfl rfl rfl ?_
      refine g_special w (con_new1U l Z a0 hw a40 a35 [(122 : Int32), (111 : Int32), (111 : Int32), (107 : Int32), (101 : Int32), (101 : Int32), (112 : Int32), (101 : Int32), (114 : Int32), (58 : Int32), (47 : Int32), (47 : Int32), q0] _ w.old X_a40 F_value_a40 F_coder_a40 n_a40 A_a35 ne_a35_a40 (Nat.le_of_ble_eq_true rfl) (csS (by constructor <;> decide) (csS (by constructor <;> decide) (csS (by constructor <;> decide) (csS (by constructor <;> decide) (csS (by constructor <;> decide) (csS (by constructor <;> decide) (csS (by constructor <;> decide) (csS (by constructor <;> decide) (csS (by constructor <;> decide) (csS (by constructor <;> decide) (csS (by constructor <;> decide) (csS (by constructor <;> decide) (csS l0 cs0))))))))))))) (Nat.le_of_ble_eq_true rfl) hcm SA_ SH_ SL_) no0 at_243 (q := 246) rfl rfl rfl (hw _ (List.mem_of_getElem? (i := 10) rfl)) (hw _ (List.mem_of_getElem? (i := 11) rfl)) (hw _ (List.mem_of_getElem? (i := 8) rfl)) (hw _ (List.mem_of_getElem? (i := 12) rfl)) (by decide) pd28 rfl rfl (W := 2) (Nat.le_of_eq rfl) (by decide) (by decide) (by decide) (by decide) (fun T h v w gs C q => ?_)
      obtain ⟨rfl, K, U_a40⟩ := q
      replace E0 := ext_keep E0 K z_a40
      have X0 := X_a40
      replace A_a35 := A_a35.keep K (not1 ne_a35_a40)
      replace U_r34 := U_r34.keepO K ne_r34_a40 X0 (hw _ (List.mem_of_getElem? (i := 7) rfl))
      replace X_a40 := X_a40.keep K
      show Go p e below _ (State.setTop T (mkF m 246 #[.val (.int j0), .val (.int j1), .val (.int j2), .val (.int j3), .val (.int j4), .val (.int (1 : Int32)), .val (.int (0 : Int32)), .val (.int q0), .val (.int q1), .val (.int q2), .val (.int q3), .val (.ref x31), .val (.ref x32), .val (.ref r34), .val (.ref a35), .val (.int (13 : Int32))] [(.ref a40), (.ref r34)]))
      refine g_virtualB w (a := r34) (argsL := [(.ref a40)]) (own_eqU hw U_r34 U_a40 (w.sta SC_) hz_ (by decide) (by decide)) U_r34.exa at_246 (q := 249) rfl rfl (hw _ (List.mem_of_getElem? (i := 171) rfl)) (hw _ (List.mem_of_getElem? (i := 172) rfl)) (hw _ (List.mem_of_getElem? (i := 174) rfl)) (hw _ (List.mem_of_getElem? (i := 173) rfl)) (by decide) (nf (hw _ (List.mem_of_getElem? (i := 174) rfl))) pd33 rfl rfl (W := 0) (Nat.le_of_eq rfl) (by decide) (by decide) (fun T v w hq => ?_)
      rcases hq with ⟨rfl, hq⟩ | ⟨rfl, hq⟩
      · show Go p e below _ (State.setTop T (mkF m 249 #[.val (.int j0), .val (.int j1), .val (.int j2), .val (.int j3), .val (.int j4), .val (.int (1 : Int32)), .val (.int (0 : Int32)), .val (.int q0), .val (.int q1), .val (.int q2), .val (.int q3), .val (.ref x31), .val (.ref x32), .val (.ref r34), .val (.ref a35), .val (.int (13 : Int32))] [(.int (1 : Int32))]))
        exact g_retn w at_249 rfl (by simp) rfl (by decide) (by decide) rfl
      · exact absurd rfl hq
    · rw [e6]
      show Go p e below _ (State.setTop T (mkF m 48 #[.val (.int j0), .val (.int j1), .val (.int j2), .val (.int j3), .val (.int j4), .val (.int (1 : Int32)), .val (.int (1 : Int32)), .val (.int q0), .val (.int q1), .val (.int q2), .val (.int q3), .unset, .unset, .unset, .unset, .unset] []))
      refine g_iload w at_48 (q := 50) rfl rfl ?_
      refine g_iload w at_50 (q := 52) rfl rfl ?_
      refine g_iload w at_52 (q := 54) rfl rfl ?_
      refine g_static w (con_mk l Z a0 hw fm (1 : Int32) q0 q1 _ w.old l0 l1 hcm SFm rfm SA_ SH_ SL_) no0 at_54 (q := 57) rfl rfl (hw _ (List.mem_of_getElem? (i := 2) rfl)) (hw _ (List.mem_of_getElem? (i := 3) rfl)) (hw _ (List.mem_of_getElem? (i := 4) rfl)) (hw _ (List.mem_of_getElem? (i := 5) rfl)) (by decide) pd31 rfl rfl (W := 0) (Nat.le_of_eq rfl) (by decide) (by decide) (by decide) (by decide) (fun T h v w gs C q => ?_)
      obtain ⟨x41, rfl, E, g_x41, U_x41⟩ := q
      replace U_x41 : Su Z h x41 [q0] := by simpa [sg] using U_x41
      have z_x41 := Nat.le_trans E0.1 g_x41
      replace E0 := ext_trans E0 E
      show Go p e below _ (State.setTop T (mkF m 57 #[.val (.int j0), .val (.int j1), .val (.int j2), .val (.int j3), .val (.int j4), .val (.int (1 : Int32)), .val (.int (1 : Int32)), .val (.int q0), .val (.int q1), .val (.int q2), .val (.int q3), .unset, .unset, .unset, .unset, .unset] [(.ref x41)]))
      refine g_astore w at_57 (q := 59) rfl rfl (Ls' := #[.val (.int j0), .val (.int j1), .val (.int j2), .val (.int j3), .val (.int j4), .val (.int (1 : Int32)), .val (.int (1 : Int32)), .val (.int q0), .val (.int q1), .val (.int q2), .val (.int q3), .val (.ref x41), .unset, .unset, .unset, .unset]) rfl ?_
      refine g_iload w at_59 (q := 61) rfl rfl ?_
      refine g_iload w at_61 (q := 63) rfl rfl ?_
      refine g_iload w at_63 (q := 65) rfl rfl ?_
      refine g_static w (con_mk l Z a0 hw fm (1 : Int32) q2 q3 _ w.old l2 l3 hcm SFm rfm SA_ SH_ SL_) no0 at_65 (q := 68) rfl rfl (hw _ (List.mem_of_getElem? (i := 2) rfl)) (hw _ (List.mem_of_getElem? (i := 3) rfl)) (hw _ (List.mem_of_getElem? (i := 4) rfl)) (hw _ (List.mem_of_getElem? (i := 5) rfl)) (by decide) pd31 rfl rfl (W := 0) (Nat.le_of_eq rfl) (by decide) (by decide) (by decide) (by decide) (fun T h v w gs C q => ?_)
      obtain ⟨x42, rfl, E, g_x42, U_x42⟩ := q
      replace U_x42 : Su Z h x42 [q2] := by simpa [sg] using U_x42
      have z_x42 := Nat.le_trans E0.1 g_x42
      have ne_x41_x42 : x41 ≠ x42 := Nat.ne_of_lt (Nat.lt_of_lt_of_le U_x41.lt g_x42)
      replace E0 := ext_trans E0 E
      replace U_x41 := U_x41.ext E
      show Go p e below _ (State.setTop T (mkF m 68 #[.val (.int j0), .val (.int j1), .val (.int j2), .val (.int j3), .val (.int j4), .val (.int (1 : Int32)), .val (.int (1 : Int32)), .val (.int q0), .val (.int q1), .val (.int q2), .val (.int q3), .val (.ref x41), .unset, .unset, .unset, .unset] [(.ref x42)]))
      refine g_astore w at_68 (q := 70) rfl rfl (Ls' := #[.val (.int j0), .val (.int j1), .val (.int j2), .val (.int j3), .val (.int j4), .val (.int (1 : Int32)), .val (.int (1 : Int32)), .val (.int q0), .val (.int q1), .val (.int q2), .val (.int q3), .val (.ref x41), .val (.ref x42), .unset, .unset, .unset]) rfl ?_
      refine g_new w at_70 (q := 73) rfl (hw _ (List.mem_of_getElem? (i := 28) rfl)) (hw _ (List.mem_of_getElem? (i := 29) rfl)) (hw _ (List.mem_of_getElem? (i := 30) rfl)) (by decide) (by decide) (fun T h a43 w E g_a43 n_a43 X_a43 D_a43 s_a43 => ?_)
      have z_a43 := Nat.le_trans E0.1 g_a43
      have ne_x41_a43 : x41 ≠ a43 := Nat.ne_of_lt (Nat.lt_of_lt_of_le U_x41.lt g_a43)
      have ne_x42_a43 : x42 ≠ a43 := Nat.ne_of_lt (Nat.lt_of_lt_of_le U_x42.lt g_a43)
      replace E0 := ext_trans E0 E
      replace U_x41 := U_x41.ext E
      replace U_x42 := U_x42.ext E
      have F_servers_a43 := D_a43 (Or.inr (hw _ (List.mem_of_getElem? (i := 41) rfl))) (ty := (.object "java/lang/String")) (by decide)
      replace F_servers_a43 : Fld Z h a43 "com/example/devizes/devizes/zookeeper/ZooKeeperAddress" "servers" "Ljava/lang/String;" .null := F_servers_a43
      have F_root_a43 := D_a43 (Or.inr (hw _ (List.mem_of_getElem? (i := 43) rfl))) (ty := (.object "java/lang/String")) (by decide)
      replace F_root_a43 : Fld Z h a43 "com/example/devizes/devizes/zookeeper/ZooKeeperAddress" "root" "Ljava/lang/String;" .null := F_root_a43
      refine g_dup w at_73 (q := 74) rfl rfl ?_
      refine g_aload w at_74 (q := 76) rfl rfl rfl ?_
      refine g_aload w at_76 (q := 78) rfl rfl rfl ?_
      refine g_special w (con_zai l Z a0 hw a43 x41 x42 _ w.old X_a43 F_servers_a43 F_root_a43 n_a43) no0 at_78 (q := 81) rfl rfl rfl (hw _ (List.mem_of_getElem? (i := 31) rfl)) (hw _ (List.mem_of_getElem? (i := 32) rfl)) (hw _ (List.mem_of_getElem? (i := 30) rfl)) (hw _ (List.mem_of_getElem? (i := 33) rfl)) (by decide) pd32 rfl rfl (W := 1) (Nat.le_of_eq rfl) (by decide) (by decide) (by decide) (by decide) (fun T h v w gs C q => ?_)
      obtain ⟨rfl, K, G_servers, G_root⟩ := q
      replace E0 := ext_keep E0 K z_a43
      have X0 := X_a43
      replace U_x41 := U_x41.keepO K ne_x41_a43 X0 (hw _ (List.mem_of_getElem? (i := 29) rfl))
      replace U_x42 := U_x42.keepO K ne_x42_a43 X0 (hw _ (List.mem_of_getElem? (i := 29) rfl))
      replace X_a43 := X_a43.keep K
      replace F_servers_a43 := G_servers
      replace F_root_a43 := G_root
      show Go p e below _ (State.setTop T (mkF m 81 #[.val (.int j0), .val (.int j1), .val (.int j2), .val (.int j3), .val (.int j4), .val (.int (1 : Int32)), .val (.int (1 : Int32)), .val (.int q0), .val (.int q1), .val (.int q2), .val (.int q3), .val (.ref x41), .val (.ref x42), .unset, .unset, .unset] [(.ref a43)]))
      refine g_virtual w (con_zts l Z a0 hw fm a43 x41 x42 [q0] [q2] _ w.old F_servers_a43 F_root_a43 U_x41 U_x42 (Nat.le_of_ble_eq_true rfl) (Nat.le_of_ble_eq_true rfl) hcm SFm rfm SA_ SH_ SL_) no0 X_a43 at_81 (q := 84) rfl rfl (hw _ (List.mem_of_getElem? (i := 44) rfl)) (hw _ (List.mem_of_getElem? (i := 45) rfl)) (hw _ (List.mem_of_getElem? (i := 47) rfl)) (hw _ (List.mem_of_getElem? (i := 46) rfl)) (hw _ (List.mem_of_getElem? (i := 30) rfl)) (hw _ (List.mem_of_getElem? (i := 48) rfl)) (by decide) (nf (hw _ (List.mem_of_getElem? (i := 47) rfl))) pd30 rfl rfl (W := 0) (Nat.le_of_eq rfl) (by decide) (by decide) (by decide) (by decide) (fun T h v w gs C q => ?_)
      obtain ⟨r44, rfl, E, g_r44, U_r44⟩ := q
      replace U_r44 : Su Z h r44 [(122 : Int32), (111 : Int32), (111 : Int32), (107 : Int32), (101 : Int32), (101 : Int32), (112 : Int32), (101 : Int32), (114 : Int32), (58 : Int32), (47 : Int32), (47 : Int32), q0, q2] := U_r44
      have z_r44 := Nat.le_trans E0.1 g_r44
      have ne_a43_r44 : a43 ≠ r44 := Nat.ne_of_lt (Nat.lt_of_lt_of_le X_a43.lt g_r44)
      have ne_x41_r44 : x41 ≠ r44 := Nat.ne_of_lt (Nat.lt_of_lt_of_le U_x41.lt g_r44)
      have ne_x42_r44 : x42 ≠ r44 := Nat.ne_of_lt (Nat.lt_of_lt_of_le U_x42.lt g_r44)
      replace E0 := ext_trans E0 E
      replace U_x41 := U_x41.ext E
      replace U_x42 := U_x42.ext E
      replace X_a43 := X_a43.ext E
      replace F_servers_a43 := F_servers_a43.ext E
      replace F_root_a43 := F_root_a43.ext E
      show Go p e below _ (State.setTop T (mkF m 84 #[.val (.int j0), .val (.int j1), .val (.int j2), .val (.int j3), .val (.int j4), .val (.int (1 : Int32)), .val (.int (1 : Int32)), .val (.int q0), .val (.int q1), .val (.int q2), .val (.int q3), .val (.ref x41), .val (.ref x42), .unset, .unset, .unset] [(.ref r44)]))
      refine g_astore w at_84 (q := 86) rfl rfl (Ls' := #[.val (.int j0), .val (.int j1), .val (.int j2), .val (.int j3), .val (.int j4), .val (.int (1 : Int32)), .val (.int (1 : Int32)), .val (.int q0), .val (.int q1), .val (.int q2), .val (.int q3), .val (.ref x41), .val (.ref x42), .val (.ref r44), .unset, .unset]) rfl ?_
      refine g_bipush w at_86 (q := 88) rfl (v := (12 : Int32)) (by decide) ?_
      refine g_iload w at_88 (q := 90) rfl rfl ?_
      refine g_iadd w at_90 (q := 91) rfl ?_
      rw [show (12 : Int32) + (1 : Int32) = (13 : Int32) from by decide]
      show Go p e below _ (State.setTop T (mkF m 91 #[.val (.int j0), .val (.int j1), .val (.int j2), .val (.int j3), .val (.int j4), .val (.int (1 : Int32)), .val (.int (1 : Int32)), .val (.int q0), .val (.int q1), .val (.int q2), .val (.int q3), .val (.ref x41), .val (.ref x42), .val (.ref r44), .unset, .unset] [(.int (13 : Int32))]))
      refine g_iload w at_91 (q := 93) rfl rfl ?_
      refine g_iadd w at_93 (q := 94) rfl ?_
      rw [show (13 : Int32) + (1 : Int32) = (14 : Int32) from by decide]
      show Go p e below _ (State.setTop T (mkF m 94 #[.val (.int j0), .val (.int j1), .val (.int j2), .val (.int j3), .val (.int j4), .val (.int (1 : Int32)), .val (.int (1 : Int32)), .val (.int q0), .val (.int q1), .val (.int q2), .val (.int q3), .val (.ref x41), .val (.ref x42), .val (.ref r44), .unset, .unset] [(.int (14 : Int32))]))
      refine g_newarr w at_94 (q := 96) rfl (hw _ (List.mem_of_getElem? (i := 9) rfl)) (len := 14) (cap := 14) (by decide) (by decide) (by decide) (by decide) (by decide) (fun T h a45 w E g_a45 n_a45 A_a45 s_a45 => ?_)
      have z_a45 := Nat.le_trans E0.1 g_a45
      have ne_r44_a45 : r44 ≠ a45 := Nat.ne_of_lt (Nat.lt_of_lt_of_le U_r44.lt g_a45)
      replace E0 := ext_trans E0 E
      replace U_r44 := U_r44.ext E
      replace A_a45 : Ar Z h a45 .char [(.int (0 : Int32)), (.int (0 : Int32)), (.int (0 : Int32)), (.int (0 : Int32)), (.int (0 : Int32)), (.int (0 : Int32)), (.int (0 : Int32)), (.int (0 : Int32)), (.int (0 : Int32)), (.int (0 : Int32)), (.int (0 : Int32)), (.int (0 : Int32)), (.int (0 : Int32)), (.int (0 : Int32))] := A_a45
      refine g_astore w at_96 (q := 98) rfl rfl (Ls' := #[.val (.int j0), .val (.int j1), .val (.int j2), .val (.int j3), .val (.int j4), .val (.int (1 : Int32)), .val (.int (1 : Int32)), .val (.int q0), .val (.int q1), .val (.int q2), .val (.int q3), .val (.ref x41), .val (.ref x42), .val (.ref r44), .val (.ref a45), .unset]) rfl ?_
      refine g_aload w at_98 (q := 100) rfl rfl rfl ?_
      refine g_iconst w at_100 (q := 101) rfl (v := (0 : Int32)) (by decide) ?_
      refine g_bipush w at_101 (q := 103) rfl (v := (122 : Int32)) (by decide) ?_
      refine g_castore w at_103 (q := 104) rfl A_a45 (i := 0) (by decide) (Nat.le_of_ble_eq_true rfl) (x' := (122 : Int32)) (nar_chr (by constructor <;> decide)) n_a45 (w.safeAr A_a45 (by decide)) (fun T h w W V => ?_)
      replace U_r44 := U_r44.wrC W A_a45 ne_r44_a45
      replace E0 := ext_wr E0 W z_a45
      replace A_a45 : Ar Z h a45 .char [(.int (122 : Int32)), (.int (0 : Int32)), (.int (0 : Int32)), (.int (0 : Int32)), (.int (0 : Int32)), (.int (0 : Int32)), (.int (0 : Int32)), (.int (0 : Int32)), (.int (0 : Int32)), (.int (0 : Int32)), (.int (0 : Int32)), (.int (0 : Int32)), (.int (0 : Int32)), (.int (0 : Int32))] := V
      refine g_aload w at_104 (q := 106) rfl rfl rfl ?_
      refine g_iconst w at_106 (q := 107) rfl (v := (1 : Int32)) (by decide) ?_
      refine g_bipush w at_107 (q := 109) rfl (v := (111 : Int32)) (by decide) ?_
      refine g_castore w at_109 (q := 110) rfl A_a45 (i := 1) (by decide) (Nat.le_of_ble_eq_true rfl) (x' := (111 : Int32)) (nar_chr (by constructor <;> decide)) n_a45 (w.safeAr A_a45 (by decide)) (fun T h w W V => ?_)
      replace U_r44 := U_r44.wrC W A_a45 ne_r44_a45
      replace E0 := ext_wr E0 W z_a45
      replace A_a45 : Ar Z h a45 .char [(.int (122 : Int32)), (.int (111 : Int32)), (.int (0 : Int32)), (.int (0 : Int32)), (.int (0 : Int32)), (.int (0 : Int32)), (.int (0 : Int32)), (.int (0 : Int32)), (.int (0 : Int32)), (.int (0 : Int32)), (.int (0 : Int32)), (.int (0 : Int32)), (.int (0 : Int32)), (.int (0 : Int32))] := V
      refine g_aload w at_110 (q := 112) rfl rfl rfl ?_
      refine g_iconst w at_112 (q := 113) rfl (v := (2 : Int32)) (by decide) ?_
      refine g_bipush w at_113 (q := 115) rfl (v := (111 : Int32)) (by decide) ?_
      refine g_castore w at_115 (q := 116) rfl A_a45 (i := 2) (by decide) (Nat.le_of_ble_eq_true rfl) (x' := (111 : Int32)) (nar_chr (by constructor <;> decide)) n_a45 (w.safeAr A_a45 (by decide)) (fun T h w W V => ?_)
      replace U_r44 := U_r44.wrC W A_a45 ne_r44_a45
      replace E0 := ext_wr E0 W z_a45
      replace A_a45 : Ar Z h a45 .char [(.int (122 : Int32)), (.int (111 : Int32)), (.int (111 : Int32)), (.int (0 : Int32)), (.int (0 : Int32)), (.int (0 : Int32)), (.int (0 : Int32)), (.int (0 : Int32)), (.int (0 : Int32)), (.int (0 : Int32)), (.int (0 : Int32)), (.int (0 : Int32)), (.int (0 : Int32)), (.int (0 : Int32))] := V
      refine g_aload w at_116 (q := 118) rfl rfl rfl ?_
      refine g_iconst w at_118 (q := 119) rfl (v := (3 : Int32)) (by decide) ?_
      refine g_bipush w at_119 (q := 121) rfl (v := (107 : Int32)) (by decide) ?_
      refine g_castore w at_121 (q := 122) rfl A_a45 (i := 3) (by decide) (Nat.le_of_ble_eq_true rfl) (x' := (107 : Int32)) (nar_chr (by constructor <;> decide)) n_a45 (w.safeAr A_a45 (by decide)) (fun T h w W V => ?_)
      replace U_r44 := U_r44.wrC W A_a45 ne_r44_a45
      replace E0 := ext_wr E0 W z_a45
      replace A_a45 : Ar Z h a45 .char [(.int (122 : Int32)), (.int (111 : Int32)), (.int (111 : Int32)), (.int (107 : Int32)), (.int (0 : Int32)), (.int (0 : Int32)), (.int (0 : Int32)), (.int (0 : Int32)), (.int (0 : Int32)), (.int (0 : Int32)), (.int (0 : Int32)), (.int (0 : Int32)), (.int (0 : Int32)), (.int (0 : Int32))] := V
      refine g_aload w at_122 (q := 124) rfl rfl rfl ?_
      refine g_iconst w at_124 (q := 125) rfl (v := (4 : Int32)) (by decide) ?_
      refine g_bipush w at_125 (q := 127) rfl (v := (101 : Int32)) (by decide) ?_
      refine g_castore w at_127 (q := 128) rfl A_a45 (i := 4) (by decide) (Nat.le_of_ble_eq_true rfl) (x' := (101 : Int32)) (nar_chr (by constructor <;> decide)) n_a45 (w.safeAr A_a45 (by decide)) (fun T h w W V => ?_)
      replace U_r44 := U_r44.wrC W A_a45 ne_r44_a45
      replace E0 := ext_wr E0 W z_a45
      replace A_a45 : Ar Z h a45 .char [(.int (122 : Int32)), (.int (111 : Int32)), (.int (111 : Int32)), (.int (107 : Int32)), (.int (101 : Int32)), (.int (0 : Int32)), (.int (0 : Int32)), (.int (0 : Int32)), (.int (0 : Int32)), (.int (0 : Int32)), (.int (0 : Int32)), (.int (0 : Int32)), (.int (0 : Int32)), (.int (0 : Int32))] := V
      refine g_aload w at_128 (q := 130) rfl rfl rfl ?_
      refine g_iconst w at_130 (q := 131) rfl (v := (5 : Int32)) (by decide) ?_
      refine g_bipush w at_131 (q := 133) rfl (v := (101 : Int32)) (by decide) ?_
      refine g_castore w at_133 (q := 134) rfl A_a45 (i := 5) (by decide) (Nat.le_of_ble_eq_true rfl) (x' := (101 : Int32)) (nar_chr (by constructor <;> decide)) n_a45 (w.safeAr A_a45 (by decide)) (fun T h w W V => ?_)
      replace U_r44 := U_r44.wrC W A_a45 ne_r44_a45
      replace E0 := ext_wr E0 W z_a45
      replace A_a45 : Ar Z h a45 .char [(.int (122 : Int32)), (.int (111 : Int32)), (.int (111 : Int32)), (.int (107 : Int32)), (.int (101 : Int32)), (.int (101 : Int32)), (.int (0 : Int32)), (.int (0 : Int32)), (.int (0 : Int32)), (.int (0 : Int32)), (.int (0 : Int32)), (.int (0 : Int32)), (.int (0 : Int32)), (.int (0 : Int32))] := V
      refine g_aload w at_134 (q := 136) rfl rfl rfl ?_
      refine g_bipush w at_136 (q := 138) rfl (v := (6 : Int32)) (by decide) ?_
      refine g_bipush w at_138 (q := 140) rfl (v := (112 : Int32)) (by decide) ?_
      refine g_castore w at_140 (q := 141) rfl A_a45 (i := 6) (by decide) (Nat.le_of_ble_eq_true rfl) (x' := (112 : Int32)) (nar_chr (by constructor <;> decide)) n_a45 (w.safeAr A_a45 (by decide)) (fun T h w W V => ?_)
      replace U_r44 := U_r44.wrC W A_a45 ne_r44_a45
      replace E0 := ext_wr E0 W z_a45
      replace A_a45 : Ar Z h a45 .char [(.int (122 : Int32)), (.int (111 : Int32)), (.int (111 : Int32)), (.int (107 : Int32)), (.int (101 : Int32)), (.int (101 : Int32)), (.int (112 : Int32)), (.int (0 : Int32)), (.int (0 : Int32)), (.int (0 : Int32)), (.int (0 : Int32)), (.int (0 : Int32)), (.int (0 : Int32)), (.int (0 : Int32))] := V
      refine g_aload w at_141 (q := 143) rfl rfl rfl ?_
      refine g_bipush w at_143 (q := 145) rfl (v := (7 : Int32)) (by decide) ?_
      refine g_bipush w at_145 (q := 147) rfl (v := (101 : Int32)) (by decide) ?_
      refine g_castore w at_147 (q := 148) rfl A_a45 (i := 7) (by decide) (Nat.le_of_ble_eq_true rfl) (x' := (101 : Int32)) (nar_chr (by constructor <;> decide)) n_a45 (w.safeAr A_a45 (by decide)) (fun T h w W V => ?_)
      replace U_r44 := U_r44.wrC W A_a45 ne_r44_a45
      replace E0 := ext_wr E0 W z_a45
      replace A_a45 : Ar Z h a45 .char [(.int (122 : Int32)), (.int (111 : Int32)), (.int (111 : Int32)), (.int (107 : Int32)), (.int (101 : Int32)), (.int (101 : Int32)), (.int (112 : Int32)), (.int (101 : Int32)), (.int (0 : Int32)), (.int (0 : Int32)), (.int (0 : Int32)), (.int (0 : Int32)), (.int (0 : Int32)), (.int (0 : Int32))] := V
      refine g_aload w at_148 (q := 150) rfl rfl rfl ?_
      refine g_bipush w at_150 (q := 152) rfl (v := (8 : Int32)) (by decide) ?_
      refine g_bipush w at_152 (q := 154) rfl (v := (114 : Int32)) (by decide) ?_
      refine g_castore w at_154 (q := 155) rfl A_a45 (i := 8) (by decide) (Nat.le_of_ble_eq_true rfl) (x' := (114 : Int32)) (nar_chr (by constructor <;> decide)) n_a45 (w.safeAr A_a45 (by decide)) (fun T h w W V => ?_)
      replace U_r44 := U_r44.wrC W A_a45 ne_r44_a45
      replace E0 := ext_wr E0 W z_a45
      replace A_a45 : Ar Z h a45 .char [(.int (122 : Int32)), (.int (111 : Int32)), (.int (111 : Int32)), (.int (107 : Int32)), (.int (101 : Int32)), (.int (101 : Int32)), (.int (112 : Int32)), (.int (101 : Int32)), (.int (114 : Int32)), (.int (0 : Int32)), (.int (0 : Int32)), (.int (0 : Int32)), (.int (0 : Int32)), (.int (0 : Int32))] := V
      refine g_aload w at_155 (q := 157) rfl rfl rfl ?_
      refine g_bipush w at_157 (q := 159) rfl (v := (9 : Int32)) (by decide) ?_
      refine g_bipush w at_159 (q := 161) rfl (v := (58 : Int32)) (by decide) ?_
      refine g_castore w at_161 (q := 162) rfl A_a45 (i := 9) (by decide) (Nat.le_of_ble_eq_true rfl) (x' := (58 : Int32)) (nar_chr (by constructor <;> decide)) n_a45 (w.safeAr A_a45 (by decide)) (fun T h w W V => ?_)
      replace U_r44 := U_r44.wrC W A_a45 ne_r44_a45
      replace E0 := ext_wr E0 W z_a45
      replace A_a45 : Ar Z h a45 .char [(.int (122 : Int32)), (.int (111 : Int32)), (.int (111 : Int32)), (.int (107 : Int32)), (.int (101 : Int32)), (.int (101 : Int32)), (.int (112 : Int32)), (.int (101 : Int32)), (.int (114 : Int32)), (.int (58 : Int32)), (.int (0 : Int32)), (.int (0 : Int32)), (.int (0 : Int32)), (.int (0 : Int32))] := V
      refine g_aload w at_162 (q := 164) rfl rfl rfl ?_
      refine g_bipush w at_164 (q := 166) rfl (v := (10 : Int32)) (by decide) ?_
      refine g_bipush w at_166 (q := 168) rfl (v := (47 : Int32)) (by decide) ?_
      refine g_castore w at_168 (q := 169) rfl A_a45 (i := 10) (by decide) (Nat.le_of_ble_eq_true rfl) (x' := (47 : Int32)) (nar_chr (by constructor <;> decide)) n_a45 (w.safeAr A_a45 (by decide)) (fun T h w W V => ?_)
      replace U_r44 := U_r44.wrC W A_a45 ne_r44_a45
      replace E0 := ext_wr E0 W z_a45
      replace A_a45 : Ar Z h a45 .char [(.int (122 : Int32)), (.int (111 : Int32)), (.int (111 : Int32)), (.int (107 : Int32)), (.int (101 : Int32)), (.int (101 : Int32)), (.int (112 : Int32)), (.int (101 : Int32)), (.int (114 : Int32)), (.int (58 : Int32)), (.int (47 : Int32)), (.int (0 : Int32)), (.int (0 : Int32)), (.int (0 : Int32))] := V
      refine g_aload w at_169 (q := 171) rfl rfl rfl ?_
      refine g_bipush w at_171 (q := 173) rfl (v := (11 : Int32)) (by decide) ?_
      refine g_bipush w at_173 (q := 175) rfl (v := (47 : Int32)) (by decide) ?_
      refine g_castore w at_175 (q := 176) rfl A_a45 (i := 11) (by decide) (Nat.le_of_ble_eq_true rfl) (x' := (47 : Int32)) (nar_chr (by constructor <;> decide)) n_a45 (w.safeAr A_a45 (by decide)) (fun T h w W V => ?_)
      replace U_r44 := U_r44.wrC W A_a45 ne_r44_a45
      replace E0 := ext_wr E0 W z_a45
      replace A_a45 : Ar Z h a45 .char [(.int (122 : Int32)), (.int (111 : Int32)), (.int (111 : Int32)), (.int (107 : Int32)), (.int (101 : Int32)), (.int (101 : Int32)), (.int (112 : Int32)), (.int (101 : Int32)), (.int (114 : Int32)), (.int (58 : Int32)), (.int (47 : Int32)), (.int (47 : Int32)), (.int (0 : Int32)), (.int (0 : Int32))] := V
      refine g_iload w at_176 (q := 178) rfl rfl ?_
      refine g_ifN w at_178 (q := 181) rfl (by decide) ?_
      refine g_aload w at_181 (q := 183) rfl rfl rfl ?_
      refine g_bipush w at_183 (q := 185) rfl (v := (12 : Int32)) (by decide) ?_
      refine g_iload w at_185 (q := 187) rfl rfl ?_
      refine g_castore w at_187 (q := 188) rfl A_a45 (i := 12) (by decide) (Nat.le_of_ble_eq_true rfl) (x' := q0) (nar_chr l0) n_a45 (w.safeAr A_a45 (by decide)) (fun T h w W V => ?_)
      replace U_r44 := U_r44.wrC W A_a45 ne_r44_a45
      replace E0 := ext_wr E0 W z_a45
      replace A_a45 : Ar Z h a45 .char [(.int (122 : Int32)), (.int (111 : Int32)), (.int (111 : Int32)), (.int (107 : Int32)), (.int (101 : Int32)), (.int (101 : Int32)), (.int (112 : Int32)), (.int (101 : Int32)), (.int (114 : Int32)), (.int (58 : Int32)), (.int (47 : Int32)), (.int (47 : Int32)), (.int q0), (.int (0 : Int32))] := V
      refine g_iload w at_188 (q := 190) rfl rfl ?_
      refine g_iconst w at_190 (q := 191) rfl (v := (1 : Int32)) (by decide) ?_
      refine g_icY w at_191 (by decide) (q := 201) (by decide) (Jvm.Free.XT.ii_le_t Int32.lt_irrefl) ?_
      refine g_bipush w at_201 (q := 203) rfl (v := (12 : Int32)) (by decide) ?_
      refine g_iload w at_203 (q := 205) rfl rfl ?_
      refine g_iadd w at_205 (q := 206) rfl ?_
      rw [show (12 : Int32) + (1 : Int32) = (13 : Int32) from by decide]
      show Go p e below _ (State.setTop T (mkF m 206 #[.val (.int j0), .val (.int j1), .val (.int j2), .val (.int j3), .val (.int j4), .val (.int (1 : Int32)), .val (.int (1 : Int32)), .val (.int q0), .val (.int q1), .val (.int q2), .val (.int q3), .val (.ref x41), .val (.ref x42), .val (.ref r44), .val (.ref a45), .unset] [(.int (13 : Int32))]))
      refine g_istore w at_206 (q := 208) rfl (Ls' := #[.val (.int j0), .val (.int j1), .val (.int j2), .val (.int j3), .val (.int j4), .val (.int (1 : Int32)), .val (.int (1 : Int32)), .val (.int q0), .val (.int q1), .val (.int q2), .val (.int q3), .val (.ref x41), .val (.ref x42), .val (.ref r44), .val (.ref a45), .val (.int (13 : Int32))]) rfl ?_
      refine g_iload w at_208 (q := 210) rfl rfl ?_
      refine g_ifN w at_210 (q := 213) rfl (by decide) ?_
      refine g_aload w at_213 (q := 215) rfl rfl rfl ?_
      refine g_iload w at_215 (q := 217) rfl rfl ?_
      refine g_iload w at_217 (q := 219) rfl rfl ?_
      refine g_castore w at_219 (q := 220) rfl A_a45 (i := 13) (by decide) (Nat.le_of_ble_eq_true rfl) (x' := q2) (nar_chr l2) n_a45 (w.safeAr A_a45 (by decide)) (fun T h w W V => ?_)
      replace U_r44 := U_r44.wrC W A_a45 ne_r44_a45
      replace E0 := ext_wr E0 W z_a45
      replace A_a45 : Ar Z h a45 .char [(.int (122 : Int32)), (.int (111 : Int32)), (.int (111 : Int32)), (.int (107 : Int32)), (.int (101 : Int32)), (.int (101 : Int32)), (.int (112 : Int32)), (.int (101 : Int32)), (.int (114 : Int32)), (.int (58 : Int32)), (.int (47 : Int32)), (.int (47 : Int32)), (.int q0), (.int q2)] := V
      refine g_iload w at_220 (q := 222) rfl rfl ?_
      refine g_iconst w at_222 (q := 223) rfl (v := (1 : Int32)) (by decide) ?_
      refine g_icY w at_223 (by decide) (q := 235) (by decide) (Jvm.Free.XT.ii_le_t Int32.lt_irrefl) ?_
      refine g_aload w at_235 (q := 237) rfl rfl rfl ?_
      refine g_new w at_237 (q := 240) rfl (hw _ (List.mem_of_getElem? (i := 6) rfl)) (hw _ (List.mem_of_getElem? (i := 7) rfl)) (hw _ (List.mem_of_getElem? (i := 8) rfl)) (by decide) (by decide) (fun T h a50 w E g_a50 n_a50 X_a50 D_a50 s_a50 => ?_)
      have z_a50 := Nat.le_trans E0.1 g_a50
      have ne_a45_a50 : a45 ≠ a50 := Nat.ne_of_lt (Nat.lt_of_lt_of_le A_a45.lt g_a50)
      have ne_r44_a50 : r44 ≠ a50 := Nat.ne_of_lt (Nat.lt_of_lt_of_le U_r44.lt g_a50)
      replace E0 := ext_trans E0 E
      replace A_a45 := A_a45.ext E
      replace U_r44 := U_r44.ext E
      have F_value_a50 := D_a50 (Or.inr (hw _ (List.mem_of_getElem? (i := 22) rfl))) (ty := (.array .byte)) (by decide)
      replace F_value_a50 : Fld Z h a50 "java/lang/String" "value" "[B" .null := F_value_a50
      have F_coder_a50 := D_a50 (Or.inr (hw _ (List.mem_of_getElem? (i := 23) rfl))) (ty := .byte) (by decide)
      replace F_coder_a50 : Fld Z h a50 "java/lang/String" "coder" "B" (.int (0 : Int32)) := F_coder_a50
      refine g_dup w at_240 (q := 241) rfl rfl ?_
      refine g_aload w at_241 (q := 243) rfl rfl rfl ?_
      refine g_special w (con_new1U l Z a0 hw a50 a45 [(122 : Int32), (111 : Int32), (111 : Int32), (107 : Int32), (101 : Int32), (101 : Int32), (112 : Int32), (101 : Int32), (114 : Int32), (58 : Int32), (47 : Int32), (47 : Int32), q0, q2] _ w.old X_a50 F_value_a50 F_coder_a50 n_a50 A_a45 ne_a45_a50 (Nat.le_of_ble_eq_true rfl) (csS (by constructor <;> decide) (csS (by constructor <;> decide) (csS (by constructor <;> decide) (csS (by constructor <;> decide) (csS (by constructor <;> decide) (csS (by constructor <;> decide) (csS (by constructor <;> decide) (csS (by constructor <;> decide) (csS (by constructor <;> decide) (csS (by constructor <;> decide) (csS (by constructor <;> decide) (csS (by constructor <;> decide) (csS l0 (csS l2 cs0)))))))))))))) (Nat.le_of_ble_eq_true rfl) hcm SA_ SH_ SL_) no0 at_243 (q := 246) rfl rfl rfl (hw _ (List.mem_of_getElem? (i := 10) rfl)) (hw _ (List.mem_of_getElem? (i := 11) rfl)) (hw _ (List.mem_of_getElem? (i := 8) rfl)) (hw _ (List.mem_of_getElem? (i := 12) rfl)) (by decide) pd28 rfl rfl (W := 2) (Nat.le_of_eq rfl) (by decide) (by decide) (by decide) (by decide) (fun T h v w gs C q => ?_)
      obtain ⟨rfl, K, U_a50⟩ := q
      replace E0 := ext_keep E0 K z_a50
      have X0 := X_a50
      replace A_a45 := A_a45.keep K (not1 ne_a45_a50)
      replace U_r44 := U_r44.keepO K ne_r44_a50 X0 (hw _ (List.mem_of_getElem? (i := 7) rfl))
      replace X_a50 := X_a50.keep K
      show Go p e below _ (State.setTop T (mkF m 246 #[.val (.int j0), .val (.int j1), .val (.int j2), .val (.int j3), .val (.int j4), .val (.int (1 : Int32)), .val (.int (1 : Int32)), .val (.int q0), .val (.int q1), .val (.int q2), .val (.int q3), .val (.ref x41), .val (.ref x42), .val (.ref r44), .val (.ref a45), .val (.int (13 : Int32))] [(.ref a50), (.ref r44)]))
      refine g_virtualB w (a := r44) (argsL := [(.ref a50)]) (own_eqU hw U_r44 U_a50 (w.sta SC_) hz_ (by decide) (by decide)) U_r44.exa at_246 (q := 249) rfl rfl (hw _ (List.mem_of_getElem? (i := 171) rfl)) (hw _ (List.mem_of_getElem? (i := 172) rfl)) (hw _ (List.mem_of_getElem? (i := 174) rfl)) (hw _ (List.mem_of_getElem? (i := 173) rfl)) (by decide) (nf (hw _ (List.mem_of_getElem? (i := 174) rfl))) pd33 rfl rfl (W := 0) (Nat.le_of_eq rfl) (by decide) (by decide) (fun T v w hq => ?_)
      rcases hq with ⟨rfl, hq⟩ | ⟨rfl, hq⟩
      · show Go p e below _ (State.setTop T (mkF m 249 #[.val (.int j0), .val (.int j1), .val (.int j2), .val (.int j3), .val (.int j4), .val (.int (1 : Int32)), .val (.int (1 : Int32)), .val (.int q0), .val (.int q1), .val (.int q2), .val (.int q3), .val (.ref x41), .val (.ref x42), .val (.ref r44), .val (.ref a45), .val (.int (13 : Int32))] [(.int (1 : Int32))]))
        exact g_retn w at_249 rfl (by simp) rfl (by decide) (by decide) rfl
      · exact absurd rfl hq
    · rw [e6]
      show Go p e below _ (State.setTop T (mkF m 48 #[.val (.int j0), .val (.int j1), .val (.int j2), .val (.int j3), .val (.int j4), .val (.int (1 : Int32)), .val (.int (2 : Int32)), .val (.int q0), .val (.int q1), .val (.int q2), .val (.int q3), .unset, .unset, .unset, .unset, .unset] []))
      refine g_iload w at_48 (q := 50) rfl rfl ?_
      refine g_iload w at_50 (q := 52) rfl rfl ?_
      refine g_iload w at_52 (q := 54) rfl rfl ?_
      refine g_static w (con_mk l Z a0 hw fm (1 : Int32) q0 q1 _ w.old l0 l1 hcm SFm rfm SA_ SH_ SL_) no0 at_54 (q := 57) rfl rfl (hw _ (List.mem_of_getElem? (i := 2) rfl)) (hw _ (List.mem_of_getElem? (i := 3) rfl)) (hw _ (List.mem_of_getElem? (i := 4) rfl)) (hw _ (List.mem_of_getElem? (i := 5) rfl)) (by decide) pd31 rfl rfl (W := 0) (Nat.le_of_eq rfl) (by decide) (by decide) (by decide) (by decide) (fun T h v w gs C q => ?_)
      obtain ⟨x51, rfl, E, g_x51, U_x51⟩ := q
      replace U_x51 : Su Z h x51 [q0] := by simpa [sg] using U_x51
      have z_x51 := Nat.le_trans E0.1 g_x51
      replace E0 := ext_trans E0 E
      show Go p e below _ (State.setTop T (mkF m 57 #[.val (.int j0), .val (.int j1), .val (.int j2), .val (.int j3), .val (.int j4), .val (.int (1 : Int32)), .val (.int (2 : Int32)), .val (.int q0), .val (.int q1), .val (.int q2), .val (.int q3), .unset, .unset, .unset, .unset, .unset] [(.ref x51)]))
      refine g_astore w at_57 (q := 59) rfl rfl (Ls' := #[.val (.int j0), .val (.int j1), .val (.int j2), .val (.int j3), .val (.int j4), .val (.int (1 : Int32)), .val (.int (2 : Int32)), .val (.int q0), .val (.int q1), .val (.int q2), .val (.int q3), .val (.ref x51), .unset, .unset, .unset, .unset]) rfl ?_
      refine g_iload w at_59 (q := 61) rfl rfl ?_
      refine g_iload w at_61 (q := 63) rfl rfl ?_
      refine g_iload w at_63 (q := 65) rfl rfl ?_
      refine g_static w (con_mk l Z a0 hw fm (2 : Int32) q2 q3 _ w.old l2 l3 hcm SFm rfm SA_ SH_ SL_) no0 at_65 (q := 68) rfl rfl (hw _ (List.mem_of_getElem? (i := 2) rfl)) (hw _ (List.mem_of_getElem? (i := 3) rfl)) (hw _ (List.mem_of_getElem? (i := 4) rfl)) (hw _ (List.mem_of_getElem? (i := 5) rfl)) (by decide) pd31 rfl rfl (W := 0) (Nat.le_of_eq rfl) (by decide) (by decide) (by decide) (by decide) (fun T h v w gs C q => ?_)
      obtain ⟨x52, rfl, E, g_x52, U_x52⟩ := q
      replace U_x52 : Su Z h x52 [q2, q3] := by simpa [sg] using U_x52
      have z_x52 := Nat.le_trans E0.1 g_x52
      have ne_x51_x52 : x51 ≠ x52 := Nat.ne_of_lt (Nat.lt_of_lt_of_le U_x51.lt g_x52)
      replace E0 := ext_trans E0 E
      replace U_x51 := U_x51.ext E
      show Go p e below _ (State.setTop T (mkF m 68 #[.val (.int j0), .val (.int j1), .val (.int j2), .val (.int j3), .val (.int j4), .val (.int (1 : Int32)), .val (.int (2 : Int32)), .val (.int q0), .val (.int q1), .val (.int q2), .val (.int q3), .val (.ref x51), .unset, .unset, .unset, .unset] [(.ref x52)]))
      refine g_astore w at_68 (q := 70) rfl rfl (Ls' := #[.val (.int j0), .val (.int j1), .val (.int j2), .val (.int j3), .val (.int j4), .val (.int (1 : Int32)), .val (.int (2 : Int32)), .val (.int q0), .val (.int q1), .val (.int q2), .val (.int q3), .val (.ref x51), .val (.ref x52), .unset, .unset, .unset]) rfl ?_
      refine g_new w at_70 (q := 73) rfl (hw _ (List.mem_of_getElem? (i := 28) rfl)) (hw _ (List.mem_of_getElem? (i := 29) rfl)) (hw _ (List.mem_of_getElem? (i := 30) rfl)) (by decide) (by decide) (fun T h a53 w E g_a53 n_a53 X_a53 D_a53 s_a53 => ?_)
      have z_a53 := Nat.le_trans E0.1 g_a53
      have ne_x51_a53 : x51 ≠ a53 := Nat.ne_of_lt (Nat.lt_of_lt_of_le U_x51.lt g_a53)
      have ne_x52_a53 : x52 ≠ a53 := Nat.ne_of_lt (Nat.lt_of_lt_of_le U_x52.lt g_a53)
      replace E0 := ext_trans E0 E
      replace U_x51 := U_x51.ext E
      replace U_x52 := U_x52.ext E
      have F_servers_a53 := D_a53 (Or.inr (hw _ (List.mem_of_getElem? (i := 41) rfl))) (ty := (.object "java/lang/String")) (by decide)
      replace F_servers_a53 : Fld Z h a53 "com/example/devizes/devizes/zookeeper/ZooKeeperAddress" "servers" "Ljava/lang/String;" .null := F_servers_a53
      have F_root_a53 := D_a53 (Or.inr (hw _ (List.mem_of_getElem? (i := 43) rfl))) (ty := (.object "java/lang/String")) (by decide)
      replace F_root_a53 : Fld Z h a53 "com/example/devizes/devizes/zookeeper/ZooKeeperAddress" "root" "Ljava/lang/String;" .null := F_root_a53
      refine g_dup w at_73 (q := 74) rfl rfl ?_
      refine g_aload w at_74 (q := 76) rfl rfl rfl ?_
      refine g_aload w at_76 (q := 78) rfl rfl rfl ?_
      refine g_special w (con_zai l Z a0 hw a53 x51 x52 _ w.old X_a53 F_servers_a53 F_root_a53 n_a53) no0 at_78 (q := 81) rfl rfl rfl (hw _ (List.mem_of_getElem? (i := 31) rfl)) (hw _ (List.mem_of_getElem? (i := 32) rfl)) (hw _ (List.mem_of_getElem? (i := 30) rfl)) (hw _ (List.mem_of_getElem? (i := 33) rfl)) (by decide) pd32 rfl rfl (W := 1) (Nat.le_of_eq rfl) (by decide) (by decide) (by decide) (by decide) (fun T h v w gs C q => ?_)
      obtain ⟨rfl, K, G_servers, G_root⟩ := q
      replace E0 := ext_keep E0 K z_a53
      have X0 := X_a53
      replace U_x51 := U_x51.keepO K ne_x51_a53 X0 (hw _ (List.mem_of_getElem? (i := 29) rfl))
      replace U_x52 := U_x52.keepO K ne_x52_a53 X0 (hw _ (List.mem_of_getElem? (i := 29) rfl))
      replace X_a53 := X_a53.keep K
      replace F_servers_a53 := G_servers
      replace F_root_a53 := G_root
      show Go p e below _ (State.setTop T (mkF m 81 #[.val (.int j0), .val (.int j1), .val (.int j2), .val (.int j3), .val (.int j4), .val (.int (1 : Int32)), .val (.int (2 : Int32)), .val (.int q0), .val (.int q1), .val (.int q2), .val (.int q3), .val (.ref x51), .val (.ref x52), .unset, .unset, .unset] [(.ref a53)]))
      refine g_virtual w (con_zts l Z a0 hw fm a53 x51 x52 [q0] [q2, q3] _ w.old F_servers_a53 F_root_a53 U_x51 U_x52 (Nat.le_of_ble_eq_true rfl) (Nat.le_of_ble_eq_true rfl) hcm SFm rfm SA_ SH_ SL_) no0 X_a53 at_81 (q := 84) rfl rfl (hw _ (List.mem_of_getElem? (i := 44) rfl)) (hw _ (List.mem_of_getElem? (i := 45) rfl)) (hw _ (List.mem_of_getElem? (i := 47) rfl)) (hw _ (List.mem_of_getElem? (i := 46) rfl)) (hw _ (List.mem_of_getElem? (i := 30) rfl)) (hw _ (List.mem_of_getElem? (i := 48) rfl)) (by decide) (nf (hw _ (List.mem_of_getElem? (i := 47) rfl))) pd30 rfl rfl (W := 0) (Nat.le_of_eq rfl) (by decide) (by decide) (by decide) (by decide) (fun T h v w gs C q => ?_)
      obtain ⟨r54, rfl, E, g_r54, U_r54⟩ := q
      replace U_r54 : Su Z h r54 [(122 : Int32), (111 : Int32), (111 : Int32), (107 : Int32), (101 : Int32), (101 : Int32), (112 : Int32), (101 : Int32), (114 : Int32), (58 : Int32), (47 : Int32), (47 : Int32), q0, q2, q3] := U_r54
      have z_r54 := Nat.le_trans E0.1 g_r54
      have ne_a53_r54 : a53 ≠ r54 := Nat.ne_of_lt (Nat.lt_of_lt_of_le X_a53.lt g_r54)
      have ne_x51_r54 : x51 ≠ r54 := Nat.ne_of_lt (Nat.lt_of_lt_of_le U_x51.lt g_r54)
      have ne_x52_r54 : x52 ≠ r54 := Nat.ne_of_lt (Nat.lt_of_lt_of_le U_x52.lt g_r54)
      replace E0 := ext_trans E0 E
      replace U_x51 := U_x51.ext E
      replace U_x52 := U_x52.ext E
      replace X_a53 := X_a53.ext E
      replace F_servers_a53 := F_servers_a53.ext E
      replace F_root_a53 := F_root_a53.ext E
      show Go p e below _ (State.setTop T (mkF m 84 #[.val (.int j0), .val (.int j1), .val (.int j2), .val (.int j3), .val (.int j4), .val (.int (1 : Int32)), .val (.int (2 : Int32)), .val (.int q0), .val (.int q1), .val (.int q2), .val (.int q3), .val (.ref x51), .val (.ref x52), .unset, .unset, .unset] [(.ref r54)]))
      refine g_astore w at_84 (q := 86) rfl rfl (Ls' := #[.val (.int j0), .val (.int j1), .val (.int j2), .val (.int j3), .val (.int j4), .val (.int (1 : Int32)), .val (.int (2 : Int32)), .val (.int q0), .val (.int q1), .val (.int q2), .val (.int q3), .val (.ref x51), .val (.ref x52), .val (.ref r54), .unset, .unset]) rfl ?_
      refine g_bipush w at_86 (q := 88) rfl (v := (12 : Int32)) (by decide) ?_
      refine g_iload w at_88 (q := 90) rfl rfl ?_
      refine g_iadd w at_90 (q := 91) rfl ?_
      rw [show (12 : Int32) + (1 : Int32) = (13 : Int32) from by decide]
      show Go p e below _ (State.setTop T (mkF m 91 #[.val (.int j0), .val (.int j1), .val (.int j2), .val (.int j3), .val (.int j4), .val (.int (1 : Int32)), .val (.int (2 : Int32)), .val (.int q0), .val (.int q1), .val (.int q2), .val (.int q3), .val (.ref x51), .val (.ref x52), .val (.ref r54), .unset, .unset] [(.int (13 : Int32))]))
      refine g_iload w at_91 (q := 93) rfl rfl ?_
      refine g_iadd w at_93 (q := 94) rfl ?_
      rw [show (13 : Int32) + (2 : Int32) = (15 : Int32) from by decide]
      show Go p e below _ (State.setTop T (mkF m 94 #[.val (.int j0), .val (.int j1), .val (.int j2), .val (.int j3), .val (.int j4), .val (.int (1 : Int32)), .val (.int (2 : Int32)), .val (.int q0), .val (.int q1), .val (.int q2), .val (.int q3), .val (.ref x51), .val (.ref x52), .val (.ref r54), .unset, .unset] [(.int (15 : Int32))]))
      refine g_newarr w at_94 (q := 96) rfl (hw _ (List.mem_of_getElem? (i := 9) rfl)) (len := 15) (cap := 15) (by decide) (by decide) (by decide) (by decide) (by decide) (fun T h a55 w E g_a55 n_a55 A_a55 s_a55 => ?_)
      have z_a55 := Nat.le_trans E0.1 g_a55
      have ne_r54_a55 : r54 ≠ a55 := Nat.ne_of_lt (Nat.lt_of_lt_of_le U_r54.lt g_a55)
      replace E0 := ext_trans E0 E
      replace U_r54 := U_r54.ext E
      replace A_a55 : Ar Z h a55 .char [(.int (0 : Int32)), (.int (0 : Int32)), (.int (0 : Int32)), (.int (0 : Int32)), (.int (0 : Int32)), (.int (0 : Int32)), (.int (0 : Int32)), (.int (0 : Int32)), (.int (0 : Int32)), (.int (0 : Int32)), (.int (0 : Int32)), (.int (0 : Int32)), (.int (0 : Int32)), (.int (0 : Int32)), (.int (0 : Int32))] := A_a55
      refine g_astore w at_96 (q := 98) rfl rfl (Ls' := #[.val (.int j0), .val (.int j1), .val (.int j2), .val (.int j3), .val (.int j4), .val (.int (1 : Int32)), .val (.int (2 : Int32)), .val (.int q0), .val (.int q1), .val (.int q2), .val (.int q3), .val (.ref x51), .val (.ref x52), .val (.ref r54), .val (.ref a55), .unset]) rfl ?_
      refine g_aload w at_98 (q := 100) rfl rfl rfl ?_
      refine g_iconst w at_100 (q := 101) rfl (v := (0 : Int32)) (by decide) ?_
      refine g_bipush w at_101 (q := 103) rfl (v := (122 : Int32)) (by decide) ?_
      refine g_castore w at_103 (q := 104) rfl A_a55 (i := 0) (by decide) (Nat.le_of_ble_eq_true rfl) (x' := (122 : Int32)) (nar_chr (by constructor <;> decide)) n_a55 (w.safeAr A_a55 (by decide)) (fun T h w W V => ?_)
      replace U_r54 := U_r54.wrC W A_a55 ne_r54_a55
      replace E0 := ext_wr E0 W z_a55
      replace A_a55 : Ar Z h a55 .char [(.int (122 : Int32)), (.int (0 : Int32)), (.int (0 : Int32)), (.int (0 : Int32)), (.int (0 : Int32)), (.int (0 : Int32)), (.int (0 : Int32)), (.int (0 : Int32)), (.int (0 : Int32)), (.int (0 : Int32)), (.int (0 : Int32)), (.int (0 : Int32)), (.int (0 : Int32)), (.int (0 : Int32)), (.int (0 : Int32))] := V
      refine g_aload w at_104 (q := 106) rfl rfl rfl ?_
      refine g_iconst w at_106 (q := 107) rfl (v := (1 : Int32)) (by decide) ?_
      refine g_bipush w at_107 (q := 109) rfl (v := (111 : Int32)) (by decide) ?_
      refine g_castore w at_109 (q := 110) rfl A_a55 (i := 1) (by decide) (Nat.le_of_ble_eq_true rfl) (x' := (111 : Int32)) (nar_chr (by constructor <;> decide)) n_a55 (w.safeAr A_a55 (by decide)) (fun T h w W V => ?_)
      replace U_r54 := U_r54.wrC W A_a55 ne_r54_a55
      replace E0 := ext_wr E0 W z_a55
      replace A_a55 : Ar Z h a55 .char [(.int (122 : Int32)), (.int (111 : Int32)), (.int (0 : Int32)), (.int (0 : Int32)), (.int (0 : Int32)), (.int (0 : Int32)), (.int (0 : Int32)), (.int (0 : Int32)), (.int (0 : Int32)), (.int (0 : Int32)), (.int (0 : Int32)), (.int (0 : Int32)), (.int (0 : Int32)), (.int (0 : Int32)), (.int (0 : Int32))] := V
      refine g_aload w at_110 (q := 112) rfl rfl rfl ?_
      refine g_iconst w at_112 (q := 113) rfl (v := (2 : Int32)) (by decide) ?_
      refine g_bipush w at_113 (q := 115) rfl (v := (111 : Int32)) (by decide) ?_
      refine g_castore w at_115 (q := 116) rfl A_a55 (i := 2) (by decide) (Nat.le_of_ble_eq_true rfl) (x' := (111 : Int32)) (nar_chr (by constructor <;> decide)) n_a55 (w.safeAr A_a55 (by decide)) (fun T h w W V => ?_)
      replace U_r54 := U_r54.wrC W A_a55 ne_r54_a55
      replace E0 := ext_wr E0 W z_a55
      replace A_a55 : Ar Z h a55 .char [(.int (122 : Int32)), (.int (111 : Int32)), (.int (111 : Int32)), (.int (0 : Int32)), (.int (0 : Int32)), (.int (0 : Int32)), (.int (0 : Int32)), (.int (0 : Int32)), (.int (0 : Int32)), (.int (0 : Int32)), (.int (0 : Int32)), (.int (0 : Int32)), (.int (0 : Int32)), (.int (0 : Int32)), (.int (0 : Int32))] := V
      refine g_aload w at_116 (q := 118) rfl rfl rfl ?_
      refine g_iconst w at_118 (q := 119) rfl (v := (3 : Int32)) (by decide) ?_
      refine g_bipush w at_119 (q := 121) rfl (v := (107 : Int32)) (by decide) ?_
      refine g_castore w at_121 (q := 122) rfl A_a55 (i := 3) (by decide) (Nat.le_of_ble_eq_true rfl) (x' := (107 : Int32)) (nar_chr (by constructor <;> decide)) n_a55 (w.safeAr A_a55 (by decide)) (fun T h w W V => ?_)
      replace U_r54 := U_r54.wrC W A_a55 ne_r54_a55
      replace E0 := ext_wr E0 W z_a55
      replace A_a55 : Ar Z h a55 .char [(.int (122 : Int32)), (.int (111 : Int32)), (.int (111 : Int32)), (.int (107 : Int32)), (.int (0 : Int32)), (.int (0 : Int32)), (.int (0 : Int32)), (.int (0 : Int32)), (.int (0 : Int32)), (.int (0 : Int32)), (.int (0 : Int32)), (.int (0 : Int32)), (.int (0 : Int32)), (.int (0 : Int32)), (.int (0 : Int32))] := V
      refine g_aload w at_122 (q := 124) rfl rfl rfl ?_
      refine g_iconst w at_124 (q := 125) rfl (v := (4 : Int32)) (by decide) ?_
      refine g_bipush w at_125 (q := 127) rfl (v := (101 : Int32)) (by decide) ?_
      refine g_castore w at_127 (q := 128) rfl A_a55 (i := 4) (by decide) (Nat.le_of_ble_eq_true rfl) (x' := (101 : Int32)) (nar_chr (by constructor <;> decide)) n_a55 (w.safeAr A_a55 (by decide)) (fun T h w W V => ?_)
      replace U_r54 := U_r54.wrC W A_a55 ne_r54_a55
      replace E0 := ext_wr E0 W z_a55
      replace A_a55 : Ar Z h a55 .char [(.int (122 : Int32)), (.int (111 : Int32)), (.int (111 : Int32)), (.int (107 : Int32)), (.int (101 : Int32)), (.int (0 : Int32)), (.int (0 : Int32)), (.int (0 : Int32)), (.int (0 : Int32)), (.int (0 : Int32)), (.int (0 : Int32)), (.int (0 : Int32)), (.int (0 : Int32)), (.int (0 : Int32)), (.int (0 : Int32))] := V
      refine g_aload w at_128 (q := 130) rfl rfl rfl ?_
      refine g_iconst w at_130 (q := 131) rfl (v := (5 : Int32)) (by decide) ?_
      refine g_bipush w at_131 (q := 133) rfl (v := (101 : Int32)) (by decide) ?_
      refine g_castore w at_133 (q := 134) rfl A_a55 (i := 5) (by decide) (Nat.le_of_ble_eq_true rfl) (x' := (101 : Int32)) (nar_chr (by constructor <;> decide)) n_a55 (w.safeAr A_a55 (by decide)) (fun T h w W V => ?_)
      replace U_r54 := U_r54.wrC W A_a55 ne_r54_a55
      replace E0 := ext_wr E0 W z_a55
      replace A_a55 : Ar Z h a55 .char [(.int (122 : Int32)), (.int (111 : Int32)), (.int (111 : Int32)), (.int (107 : Int32)), (.int (101 : Int32)), (.int (101 : Int32)), (.int (0 : Int32)), (.int (0 : Int32)), (.int (0 : Int32)), (.int (0 : Int32)), (.int (0 : Int32)), (.int (0 : Int32)), (.int (0 : Int32)), (.int (0 : Int32)), (.int (0 : Int32))] := V
      refine g_aload w at_134 (q := 136) rfl rfl rfl ?_
      refine g_bipush w at_136 (q := 138) rfl (v := (6 : Int32)) (by decide) ?_
      refine g_bipush w at_138 (q := 140) rfl (v := (112 : Int32)) (by decide) ?_
      refine g_castore w at_140 (q := 141) rfl A_a55 (i := 6) (by decide) (Nat.le_of_ble_eq_true rfl) (x' := (112 : Int32)) (nar_chr (by constructor <;> decide)) n_a55 (w.safeAr A_a55 (by decide)) (fun T h w W V => ?_)
      replace U_r54 := U_r54.wrC W A_a55 ne_r54_a55
      replace E0 := ext_wr E0 W z_a55
      replace A_a55 : Ar Z h a55 .char [(.int (122 : Int32)), (.int (111 : Int32)), (.int (111 : Int32)), (.int (107 : Int32)), (.int (101 : Int32)), (.int (101 : Int32)), (.int (112 : Int32)), (.int (0 : Int32)), (.int (0 : Int32)), (.int (0 : Int32)), (.int (0 : Int32)), (.int (0 : Int32)), (.int (0 : Int32)), (.int (0 : Int32)), (.int (0 : Int32))] := V
      refine g_aload w at_141 (q := 143) rfl rfl rfl ?_
      refine g_bipush w at_143 (q := 145) rfl (v := (7 : Int32)) (by decide) ?_
      refine g_bipush w at_145 (q := 147) rfl (v := (101 : Int32)) (by decide) ?_
      refine g_castore w at_147 (q := 148) rfl A_a55 (i := 7) (by decide) (Nat.le_of_ble_eq_true rfl) (x' := (101 : Int32)) (nar_chr (by constructor <;> decide)) n_a55 (w.safeAr A_a55 (by decide)) (fun T h w W V => ?_)
      replace U_r54 := U_r54.wrC W A_a55 ne_r54_a55
      replace E0 := ext_wr E0 W z_a55
      replace A_a55 : Ar Z h a55 .char [(.int (122 : Int32)), (.int (111 : Int32)), (.int (111 : Int32)), (.int (107 : Int32)), (.int (101 : Int32)), (.int (101 : Int32)), (.int (112 : Int32)), (.int (101 : Int32)), (.int (0 : Int32)), (.int (0 : Int32)), (.int (0 : Int32)), (.int (0 : Int32)), (.int (0 : Int32)), (.int (0 : Int32)), (.int (0 : Int32))] := V
      refine g_aload w at_148 (q := 150) rfl rfl rfl ?_
      refine g_bipush w at_150 (q := 152) rfl (v := (8 : Int32)) (by decide) ?_
      refine g_bipush w at_152 (q := 154) rfl (v := (114 : Int32)) (by decide) ?_
      refine g_castore w at_154 (q := 155) rfl A_a55 (i := 8) (by decide) (Nat.le_of_ble_eq_true rfl) (x' := (114 : Int32)) (nar_chr (by constructor <;> decide)) n_a55 (w.safeAr A_a55 (by decide)) (fun T h w W V => ?_)
      replace U_r54 := U_r54.wrC W A_a55 ne_r54_a55
      replace E0 := ext_wr E0 W z_a55
      replace A_a55 : Ar Z h a55 .char [(.int (122 : Int32)), (.int (111 : Int32)), (.int (111 : Int32)), (.int (107 : Int32)), (.int (101 : Int32)), (.int (101 : Int32)), (.int (112 : Int32)), (.int (101 : Int32)), (.int (114 : Int32)), (.int (0 : Int32)), (.int (0 : Int32)), (.int (0 : Int32)), (.int (0 : Int32)), (.int (0 : Int32)), (.int (0 : Int32))] := V
      refine g_aload w at_155 (q := 157) rfl rfl rfl ?_
      refine g_bipush w at_157 (q := 159) rfl (v := (9 : Int32)) (by decide) ?_
      refine g_bipush w at_159 (q := 161) rfl (v := (58 : Int32)) (by decide) ?_
      refine g_castore w at_161 (q := 162) rfl A_a55 (i := 9) (by decide) (Nat.le_of_ble_eq_true rfl) (x' := (58 : Int32)) (nar_chr (by constructor <;> decide)) n_a55 (w.safeAr A_a55 (by decide)) (fun T h w W V => ?_)
      replace U_r54 := U_r54.wrC W A_a55 ne_r54_a55
      replace E0 := ext_wr E0 W z_a55
      replace A_a55 : Ar Z h a55 .char [(.int (122 : Int32)), (.int (111 : Int32)), (.int (111 : Int32)), (.int (107 : Int32)), (.int (101 : Int32)), (.int (101 : Int32)), (.int (112 : Int32)), (.int (101 : Int32)), (.int (114 : Int32)), (.int (58 : Int32)), (.int (0 : Int32)), (.int (0 : Int32)), (.int (0 : Int32)), (.int (0 : Int32)), (.int (0 : Int32))] := V
      refine g_aload w at_162 (q := 164) rfl rfl rfl ?_
      refine g_bipush w at_164 (q := 166) rfl (v := (10 : Int32)) (by decide) ?_
      refine g_bipush w at_166 (q := 168) rfl (v := (47 : Int32)) (by decide) ?_
      refine g_castore w at_168 (q := 169) rfl A_a55 (i := 10) (by decide) (Nat.le_of_ble_eq_true rfl) (x' := (47 : Int32)) (nar_chr (by constructor <;> decide)) n_a55 (w.safeAr A_a55 (by decide)) (fun T h w W V => ?_)
      replace U_r54 := U_r54.wrC W A_a55 ne_r54_a55
      replace E0 := ext_wr E0 W z_a55
      replace A_a55 : Ar Z h a55 .char [(.int (122 : Int32)), (.int (111 : Int32)), (.int (111 : Int32)), (.int (107 : Int32)), (.int (101 : Int32)), (.int (101 : Int32)), (.int (112 : Int32)), (.int (101 : Int32)), (.int (114 : Int32)), (.int (58 : Int32)), (.int (47 : Int32)), (.int (0 : Int32)), (.int (0 : Int32)), (.int (0 : Int32)), (.int (0 : Int32))] := V
      refine g_aload w at_169 (q := 171) rfl rfl rfl ?_
      refine g_bipush w at_171 (q := 173) rfl (v := (11 : Int32)) (by decide) ?_
      refine g_bipush w at_173 (q := 175) rfl (v := (47 : Int32)) (by decide) ?_
      refine g_castore w at_175 (q := 176) rfl A_a55 (i := 11) (by decide) (Nat.le_of_ble_eq_true rfl) (x' := (47 : Int32)) (nar_chr (by constructor <;> decide)) n_a55 (w.safeAr A_a55 (by decide)) (fun T h w W V => ?_)
      replace U_r54 := U_r54.wrC W A_a55 ne_r54_a55
      replace E0 := ext_wr E0 W z_a55
      replace A_a55 : Ar Z h a55 .char [(.int (122 : Int32)), (.int (111 : Int32)), (.int (111 : Int32)), (.int (107 : Int32)), (.int (101 : Int32)), (.int (101 : Int32)), (.int (112 : Int32)), (.int (101 : Int32)), (.int (114 : Int32)), (.int (58 : Int32)), (.int (47 : Int32)), (.int (47 : Int32)), (.int (0 : Int32)), (.int (0 : Int32)), (.int (0 : Int32))] := V
      refine g_iload w at_176 (q := 178) rfl rfl ?_
      refine g_ifN w at_178 (q := 181) rfl (by decide) ?_
      refine g_aload w at_181 (q := 183) rfl rfl rfl ?_
      refine g_bipush w at_183 (q := 185) rfl (v := (12 : Int32)) (by decide) ?_
      refine g_iload w at_185 (q := 187) rfl rfl ?_
      refine g_castore w at_187 (q := 188) rfl A_a55 (i := 12) (by decide) (Nat.le_of_ble_eq_true rfl) (x' := q0) (nar_chr l0) n_a55 (w.safeAr A_a55 (by decide)) (fun T h w W V => ?_)
      replace U_r54 := U_r54.wrC W A_a55 ne_r54_a55
      replace E0 := ext_wr E0 W z_a55
      replace A_a55 : Ar Z h a55 .char [(.int (122 : Int32)), (.int (111 : Int32)), (.int (111 : Int32)), (.int (107 : Int32)), (.int (101 : Int32)), (.int (101 : Int32)), (.int (112 : Int32)), (.int (101 : Int32)), (.int (114 : Int32)), (.int (58 : Int32)), (.int (47 : Int32)), (.int (47 : Int32)), (.int q0), (.int (0 : Int32)), (.int (0 : Int32))] := V
      refine g_iload w at_188 (q := 190) rfl rfl ?_
      refine g_iconst w at_190 (q := 191) rfl (v := (1 : Int32)) (by decide) ?_
      refine g_icY w at_191 (by decide) (q := 201) (by decide) (Jvm.Free.XT.ii_le_t Int32.lt_irrefl) ?_
      refine g_bipush w at_201 (q := 203) rfl (v := (12 : Int32)) (by decide) ?_
      refine g_iload w at_203 (q := 205) rfl rfl ?_
      refine g_iadd w at_205 (q := 206) rfl ?_
      rw [show (12 : Int32) + (1 : Int32) = (13 : Int32) from by decide]
      show Go p e below _ (State.setTop T (mkF m 206 #[.val (.int j0), .val (.int j1), .val (.int j2), .val (.int j3), .val (.int j4), .val (.int (1 : Int32)), .val (.int (2 : Int32)), .val (.int q0), .val (.int q1), .val (.int q2), .val (.int q3), .val (.ref x51), .val (.ref x52), .val (.ref r54), .val (.ref a55), .unset] [(.int (13 : Int32))]))
      refine g_istore w at_206 (q := 208) rfl (Ls' := #[.val (.int j0), .val (.int j1), .val (.int j2), .val (.int j3), .val (.int j4), .val (.int (1 : Int32)), .val (.int (2 : Int32)), .val (.int q0), .val (.int q1), .val (.int q2), .val (.int q3), .val (.ref x51), .val (.ref x52), .val (.ref r54), .val (.ref a55), .val (.int (13 : Int32))]) rfl ?_
      refine g_iload w at_208 (q := 210) rfl rfl ?_
      refine g_ifN w at_210 (q := 213) rfl (by decide) ?_
      refine g_aload w at_213 (q := 215) rfl rfl rfl ?_
      refine g_iload w at_215 (q := 217) rfl rfl ?_
      refine g_iload w at_217 (q := 219) rfl rfl ?_
      refine g_castore w at_219 (q := 220) rfl A_a55 (i := 13) (by decide) (Nat.le_of_ble_eq_true rfl) (x' := q2) (nar_chr l2) n_a55 (w.safeAr A_a55 (by decide)) (fun T h w W V => ?_)
      replace U_r54 := U_r54.wrC W A_a55 ne_r54_a55
      replace E0 := ext_wr E0 W z_a55
      replace A_a55 : Ar Z h a55 .char [(.int (122 : Int32)), (.int (111 : Int32)), (.int (111 : Int32)), (.int (107 : Int32)), (.int (101 : Int32)), (.int (101 : Int32)), (.int (112 : Int32)), (.int (101 : Int32)), (.int (114 : Int32)), (.int (58 : Int32)), (.int (47 : Int32)), (.int (47 : Int32)), (.int q0), (.int q2), (.int (0 : Int32))] := V
      refine g_iload w at_220 (q := 222) rfl rfl ?_
      refine g_iconst w at_222 (q := 223) rfl (v := (1 : Int32)) (by decide) ?_
      refine g_icN w at_223 (q := 226) rfl (by decide) ?_
      refine g_aload w at_226 (q := 228) rfl rfl rfl ?_
      refine g_iload w at_228 (q := 230) rfl rfl ?_
      refine g_iconst w at_230 (q := 231) rfl (v := (1 : Int32)) (by decide) ?_
      refine g_iadd w at_231 (q := 232) rfl ?_
      rw [show (13 : Int32) + (1 : Int32) = (14 : Int32) from by decide]
      show Go p e below _ (State.setTop T (mkF m 232 #[.val (.int j0), .val (.int j1), .val (.int j2), .val (.int j3), .val (.int j4), .val (.int (1 : Int32)), .val (.int (2 : Int32)), .val (.int q0), .val (.int q1), .val (.int q2), .val (.int q3), .val (.ref x51), .val (.ref x52), .val (.ref r54), .val (.ref a55), .val (.int (13 : Int32))] [(.int (14 : Int32)), (.ref a55)]))
      refine g_iload w at_232 (q := 234) rfl rfl ?_
      refine g_castore w at_234 (q := 235) rfl A_a55 (i := 14) (by decide) (Nat.le_of_ble_eq_true rfl) (x' := q3) (nar_chr l3) n_a55 (w.safeAr A_a55 (by decide)) (fun T h w W V => ?_)
      replace U_r54 := U_r54.wrC W A_a55 ne_r54_a55
      replace E0 := ext_wr E0 W z_a55
      replace A_a55 : Ar Z h a55 .char [(.int (122 : Int32)), (.int (111 : Int32)), (.int (111 : Int32)), (.int (107 : Int32)), (.int (101 : Int32)), (.int (101 : Int32)), (.int (112 : Int32)), (.int (101 : Int32)), (.int (114 : Int32)), (.int (58 : Int32)), (.int (47 : Int32)), (.int (47 : Int32)), (.int q0), (.int q2), (.int q3)] := V
      refine g_aload w at_235 (q := 237) rfl rfl rfl ?_
      refine g_new w at_237 (q := 240) rfl (hw _ (List.mem_of_getElem? (i := 6) rfl)) (hw _ (List.mem_of_getElem? (i := 7) rfl)) (hw _ (List.mem_of_getElem? (i := 8) rfl)) (by decide) (by decide) (fun T h a60 w E g_a60 n_a60 X_a60 D_a60 s_a60 => ?_)
      have z_a60 := Nat.le_trans E0.1 g_a60
      have ne_a55_a60 : a55 ≠ a60 := Nat.ne_of_lt (Nat.lt_of_lt_of_le A_a55.lt g_a60)
      have ne_r54_a60 : r54 ≠ a60 := Nat.ne_of_lt (Nat.lt_of_lt_of_le U_r54.lt g_a60)
      replace E0 := ext_trans E0 E
      replace A_a55 := A_a55.ext E
      replace U_r54 := U_r54.ext E
      have F_value_a60 := D_a60 (Or.inr (hw _ (List.mem_of_getElem? (i := 22) rfl))) (ty := (.array .byte)) (by decide)
      replace F_value_a60 : Fld Z h a60 "java/lang/String" "value" "[B" .null := F_value_a60
      have F_coder_a60 := D_a60 (Or.inr (hw _ (List.mem_of_getElem? (i := 23) rfl))) (ty := .byte) (by decide)
      replace F_coder_a60 : Fld Z h a60 "java/lang/String" "coder" "B" (.int (0 : Int32)) := F_coder_a60
      refine g_dup w at_240 (q := 241) rfl rfl ?_
      refine g_aload w at_241 (q := 243) rfl rfl rfl ?_
      refine g_special w (con_new1U l Z a0 hw a60 a55 [(122 : Int32), (111 : Int32), (111 : Int32), (107 : Int32), (101 : Int32), (101 : Int32), (112 : Int32), (101 : Int32), (114 : Int32), (58 : Int32), (47 : Int32), (47 : Int32), q0, q2, q3] _ w.old X_a60 F_value_a60 F_coder_a60 n_a60 A_a55 ne_a55_a60 (Nat.le_of_ble_eq_true rfl) (csS (by constructor <;> decide) (csS (by constructor <;> decide) (csS (by constructor <;> decide) (csS (by constructor <;> decide) (csS (by constructor <;> decide) (csS (by constructor <;> decide) (csS (by constructor <;> decide) (csS (by constructor <;> decide) (csS (by constructor <;> decide) (csS (by constructor <;> decide) (csS (by constructor <;> decide) (csS (by constructor <;> decide) (csS l0 (csS l2 (csS l3 cs0))))))))))))))) (Nat.le_of_ble_eq_true rfl) hcm SA_ SH_ SL_) no0 at_243 (q := 246) rfl rfl rfl (hw _ (List.mem_of_getElem? (i := 10) rfl)) (hw _ (List.mem_of_getElem? (i := 11) rfl)) (hw _ (List.mem_of_getElem? (i := 8) rfl)) (hw _ (List.mem_of_getElem? (i := 12) rfl)) (by decide) pd28 rfl rfl (W := 2) (Nat.le_of_eq rfl) (by decide) (by decide) (by decide) (by decide) (fun T h v w gs C q => ?_)
      obtain ⟨rfl, K, U_a60⟩ := q
      replace E0 := ext_keep E0 K z_a60
      have X0 := X_a60
      replace A_a55 := A_a55.keep K (not1 ne_a55_a60)
      replace U_r54 := U_r54.keepO K ne_r54_a60 X0 (hw _ (List.mem_of_getElem? (i := 7) rfl))
      replace X_a60 := X_a60.keep K
      show Go p e below _ (State.setTop T (mkF m 246 #[.val (.int j0), .val (.int j1), .val (.int j2), .val (.int j3), .val (.int j4), .val (.int (1 : Int32)), .val (.int (2 : Int32)), .val (.int q0), .val (.int q1), .val (.int q2), .val (.int q3), .val (.ref x51), .val (.ref x52), .val (.ref r54), .val (.ref a55), .val (.int (13 : Int32))] [(.ref a60), (.ref r54)]))
      refine g_virtualB w (a := r54) (argsL := [(.ref a60)]) (own_eqU hw U_r54 U_a60 (w.sta SC_) hz_ (by decide) (by decide)) U_r54.exa at_246 (q := 249) rfl rfl (hw _ (List.mem_of_getElem? (i := 171) rfl)) (hw _ (List.mem_of_getElem? (i := 172) rfl)) (hw _ (List.mem_of_getElem? (i := 174) rfl)) (hw _ (List.mem_of_getElem? (i := 173) rfl)) (by decide) (nf (hw _ (List.mem_of_getElem? (i := 174) rfl))) pd33 rfl rfl (W := 0) (Nat.le_of_eq rfl) (by decide) (by decide) (fun T v w hq => ?_)
      rcases hq with ⟨rfl, hq⟩ | ⟨rfl, hq⟩
      · show Go p e below _ (State.setTop T (mkF m 249 #[.val (.int j0), .val (.int j1), .val (.int j2), .val (.int j3), .val (.int j4), .val (.int (1 : Int32)), .val (.int (2 : Int32)), .val (.int q0), .val (.int q1), .val (.int q2), .val (.int q3), .val (.ref x51), .val (.ref x52), .val (.ref r54), .val (.ref a55), .val (.int (13 : Int32))] [(.int (1 : Int32))]))
        exact g_retn w at_249 rfl (by simp) rfl (by decide) (by decide) rfl
      · exact absurd rfl hq
  · rw [e5]
    rcases mod3 (mask31 (Jvm.Free.XT.ushr j4 (2 : Int32))) with e6 | e6 | e6
    · rw [e6]
      show Go p e below _ (State.setTop T (mkF m 48 #[.val (.int j0), .val (.int j1), .val (.int j2), .val (.int j3), .val (.int j4), .val (.int (2 : Int32)), .val (.int (0 : Int32)), .val (.int q0), .val (.int q1), .val (.int q2), .val (.int q3), .unset, .unset, .unset, .unset, .unset] []))
      refine g_iload w at_48 (q := 50) rfl rfl ?_
      refine g_iload w at_50 (q := 52) rfl rfl ?_
      refine g_iload w at_52 (q := 54) rfl rfl ?_
      refine g_static w (con_mk l Z a0 hw fm (2 : Int32) q0 q1 _ w.old l0 l1 hcm SFm rfm SA_ SH_ SL_) no0 at_54 (q := 57) rfl rfl (hw _ (List.mem_of_getElem? (i := 2) rfl)) (hw _ (List.mem_of_getElem? (i := 3) rfl)) (hw _ (List.mem_of_getElem? (i := 4) rfl)) (hw _ (List.mem_of_getElem? (i := 5) rfl)) (by decide) pd31 rfl rfl (W := 0) (Nat.le_of_eq rfl) (by decide) (by decide) (by decide) (by decide) (fun T h v w gs C q => ?_)
      obtain ⟨x61, rfl, E, g_x61, U_x61⟩ := q
      replace U_x61 : Su Z h x61 [q0, q1] := by simpa [sg] using U_x61
      have z_x61 := Nat.le_trans E0.1 g_x61
      replace E0 := ext_trans E0 E
      show Go p e below _ (State.setTop T (mkF m 57 #[.val (.int j0), .val (.int j1), .val (.int j2), .val (.int j3), .val (.int j4), .val (.int (2 : Int32)), .val (.int (0 : Int32)), .val (.int q0), .val (.int q1), .val (.int q2), .val (.int q3), .unset, .unset, .unset, .unset, .unset] [(.ref x61)]))
      refine g_astore w at_57 (q := 59) rfl rfl (Ls' := #[.val (.int j0), .val (.int j1), .val (.int j2), .val (.int j3), .val (.int j4), .val (.int (2 : Int32)), .val (.int (0 : Int32)), .val (.int q0), .val (.int q1), .val (.int q2), .val (.int q3), .val (.ref x61), .unset, .unset, .unset, .unset]) rfl ?_
      refine g_iload w at_59 (q := 61) rfl rfl ?_
      refine g_iload w at_61 (q := 63) rfl rfl ?_
      refine g_iload w at_63 (q := 65) rfl rfl ?_
      refine g_static w (con_mk l Z a0 hw fm (0 : Int32) q2 q3 _ w.old l2 l3 hcm SFm rfm SA_ SH_ SL_) no0 at_65 (q := 68) rfl rfl (hw _ (List.mem_of_getElem? (i := 2) rfl)) (hw _ (List.mem_of_getElem? (i := 3) rfl)) (hw _ (List.mem_of_getElem? (i := 4) rfl)) (hw _ (List.mem_of_getElem? (i := 5) rfl)) (by decide) pd31 rfl rfl (W := 0) (Nat.le_of_eq rfl) (by decide) (by decide) (by decide) (by decide) (fun T h v w gs C q => ?_)
      obtain ⟨x62, rfl, E, g_x62, U_x62⟩ := q
      replace U_x62 : Su Z h x62 [] := by simpa [sg] using U_x62
      have z_x62 := Nat.le_trans E0.1 g_x62
      have ne_x61_x62 : x61 ≠ x62 := Nat.ne_of_lt (Nat.lt_of_lt_of_le U_x61.lt g_x62)
      replace E0 := ext_trans E0 E
      replace U_x61 := U_x61.ext E
      show Go p e below _ (State.setTop T (mkF m 68 #[.val (.int j0), .val (.int j1), .val (.int j2), .val (.int j3), .val (.int j4), .val (.int (2 : Int32)), .val (.int (0 : Int32)), .val (.int q0), .val (.int q1), .val (.int q2), .val (.int q3), .val (.ref x61), .unset, .unset, .unset, .unset] [(.ref x62)]))
      refine g_astore w at_68 (q := 70) rfl rfl (Ls' := #[.val (.int j0), .val (.int j1), .val (.int j2), .val (.int j3), .val (.int j4), .val (.int (2 : Int32)), .val (.int (0 : Int32)), .val (.int q0), .val (.int q1), .val (.int q2), .val (.int q3), .val (.ref x61), .val (.ref x62), .unset, .unset, .unset]) rfl ?_
      refine g_new w at_70 (q := 73) rfl (hw _ (List.mem_of_getElem? (i := 28) rfl)) (hw _ (List.mem_of_getElem? (i := 29) rfl)) (hw _ (List.mem_of_getElem? (i := 30) rfl)) (by decide) (by decide) (fun T h a63 w E g_a63 n_a63 X_a63 D_a63 s_a63 => ?_)
      have z_a63 := Nat.le_trans E0.1 g_a63
      have ne_x61_a63 : x61 ≠ a63 := Nat.ne_of_lt (Nat.lt_of_lt_of_le U_x61.lt g_a63)
      have ne_x62_a63 : x62 ≠ a63 := Nat.ne_of_lt (Nat.lt_of_lt_of_le U_x62.lt g_a63)
      replace E0 := ext_trans E0 E
      replace U_x61 := U_x61.ext E
      replace U_x62 := U_x62.ext E
      have F_servers_a63 := D_a63 (Or.inr (hw _ (List.mem_of_getElem? (i := 41) rfl))) (ty := (.object "java/lang/String")) (by decide)
      replace F_servers_a63 : Fld Z h a63 "com/example/devizes/devizes/zookeeper/ZooKeeperAddress" "servers" "Ljava/lang/String;" .null := F_servers_a63
      have F_root_a63 := D_a63 (Or.inr (hw _ (List.mem_of_getElem? (i := 43) rfl))) (ty := (.object "java/lang/String")) (by decide)
      replace F_root_a63 : Fld Z h a63 "com/example/devizes/devizes/zookeeper/ZooKeeperAddress" "root" "Ljava/lang/String;" .null := F_root_a63
      refine g_dup w at_73 (q := 74) rfl rfl ?_
      refine g_aload w at_74 (q := 76) rfl rfl rfl ?_
      refine g_aload w at_76 (q := 78) rfl rfl rfl ?_
      refine g_special w (con_zai l Z a0 hw a63 x61 x62 _ w.old X_a63 F_servers_a63 F_root_a63 n_a63) no0 at_78 (q := 81) rfl rfl rfl (hw _ (List.mem_of_getElem? (i := 31) rfl)) (hw _ (List.mem_of_getElem? (i := 32) rfl)) (hw _ (List.mem_of_getElem? (i := 30) rfl)) (hw _ (List.mem_of_getElem? (i := 33) rfl)) (by decide) pd32 rfl rfl (W := 1) (Nat.le_of_eq rfl) (by decide) (by decide) (by decide) (by decide) (fun T h v w gs C q => ?_)
      obtain ⟨rfl, K, G_servers, G_root⟩ := q
      replace E0 := ext_keep E0 K z_a63
      have X0 := X_a63
      replace U_x61 := U_x61.keepO K ne_x61_a63 X0 (hw _ (List.mem_of_getElem? (i := 29) rfl))
      replace U_x62 := U_x62.keepO K ne_x62_a63 X0 (hw _ (List.mem_of_getElem? (i := 29) rfl))
      replace X_a63 := X_a63.keep K
      replace F_servers_a63 := G_servers
      replace F_root_a63 := G_root
      show Go p e below _ (State.setTop T (mkF m 81 #[.val (.int j0), .val (.int j1), .val (.int j2), .val (.int j3), .val (.int j4), .val (.int (2 : Int32)), .val (.int (0 : Int32)), .val (.int q0), .val (.int q1), .val (.int q2), .val (.int q3), .val (.ref x61), .val (.ref x62), .unset, .unset, .unset] [(.ref a63)]))
      refine g_virtual w (con_zts l Z a0 hw fm a63 x61 x62 [q0, q1] [] _ w.old F_servers_a63 F_root_a63 U_x61 U_x62 (Nat.le_of_ble_eq_true rfl) (Nat.le_of_ble_eq_true rfl) hcm SFm rfm SA_ SH_ SL_) no0 X_a63 at_81 (q := 84) rfl rfl (hw _ (List.mem_of_getElem? (i := 44) rfl)) (hw _ (List.mem_of_getElem? (i := 45) rfl)) (hw _ (List.mem_of_getElem? (i := 47) rfl)) (hw _ (List.mem_of_getElem? (i := 46) rfl)) (hw _ (List.mem_of_getElem? (i := 30) rfl)) (hw _ (List.mem_of_getElem? (i := 48) rfl)) (by decide) (nf (hw _ (List.mem_of_getElem? (i := 47) rfl))) pd30 rfl rfl (W := 0) (Nat.le_of_eq rfl) (by decide) (by decide) (by decide) (by decide) (fun T h v w gs C q => ?_)
      obtain ⟨r64, rfl, E, g_r64, U_r64⟩ := q
      replace U_r64 : Su Z h r64 [(122 : Int32), (111 : Int32), (111 : Int32), (107 : Int32), (101 : Int32), (101 : Int32), (112 : Int32), (101 : Int32), (114 : Int32), (58 : Int32), (47 : Int32), (47 : Int32), q0, q1] := U_r64
      have z_r64 := Nat.le_trans E0.1 g_r64
      have ne_a63_r64 : a63 ≠ r64 := Nat.ne_of_lt (Nat.lt_of_lt_of_le X_a63.lt g_r64)
      have ne_x61_r64 : x61 ≠ r64 := Nat.ne_of_lt (Nat.lt_of_lt_of_le U_x61.lt g_r64)
      have ne_x62_r64 : x62 ≠ r64 := Nat.ne_of_lt (Nat.lt_of_lt_of_le U_x62.lt g_r64)
      replace E0 := ext_trans E0 E
      replace U_x61 := U_x61.ext E
      replace U_x62 := U_x62.ext E
      replace X_a63 := X_a63.ext E
      replace F_servers_a63 := F_servers_a63.ext E
      replace F_root_a63 := F_root_a63.ext E
      show Go p e below _ (State.setTop T (mkF m 84 #[.val (.int j0), .val (.int j1), .val (.int j2), .val (.int j3), .val (.int j4), .val (.int (2 : Int32)), .val (.int (0 : Int32)), .val (.int q0), .val (.int q1), .val (.int q2), .val (.int q3), .val (.ref x61), .val (.ref x62), .unset, .unset, .unset] [(.ref r64)]))
      refine g_astore w at_84 (q := 86) rfl rfl (Ls' := #[.val (.int j0), .val (.int j1), .val (.int j2), .val (.int j3), .val (.int j4), .val (.int (2 : Int32)), .val (.int (0 : Int32)), .val (.int q0), .val (.int q1), .val (.int q2), .val (.int q3), .val (.ref x61), .val (.ref x62), .val (.ref r64), .unset, .unset]) rfl ?_
      refine g_bipush w at_86 (q := 88) rfl (v := (12 : Int32)) (by decide) ?_
      refine g_iload w at_88 (q := 90) rfl rfl ?_
      refine g_iadd w at_90 (q := 91) rfl ?_
      rw [show (12 : Int32) + (2 : Int32) = (14 : Int32) from by decide]
      show Go p e below _ (State.setTop T (mkF m 91 #[.val (.int j0), .val (.int j1), .val (.int j2), .val (.int j3), .val (.int j4), .val (.int (2 : Int32)), .val (.int (0 : Int32)), .val (.int q0), .val (.int q1), .val (.int q2), .val (.int q3), .val (.ref x61), .val (.ref x62), .val (.ref r64), .unset, .unset] [(.int (14 : Int32))]))
      refine g_iload w at_91 (q := 93) rfl rfl ?_
      refine g_iadd w at_93 (q := 94) rfl ?_
      rw [show (14 : Int32) + (0 : Int32) = (14 : Int32) from by decide]
      show Go p e below _ (State.setTop T (mkF m 94 #[.val (.int j0), .val (.int j1), .val (.int j2), .val (.int j3), .val (.int j4), .val (.int (2 : Int32)), .val (.int (0 : Int32)), .val (.int q0), .val (.int q1), .val (.int q2), .val (.int q3), .val (.ref x61), .val (.ref x62), .val (.ref r64), .unset, .unset] [(.int (14 : Int32))]))
      refine g_newarr w at_94 (q := 96) rfl (hw _ (List.mem_of_getElem? (i := 9) rfl)) (len := 14) (cap := 14) (by decide) (by decide) (by decide) (by decide) (by decide) (fun T h a65 w E g_a65 n_a65 A_a65 s_a65 => ?_)
      have z_a65 := Nat.le_trans E0.1 g_a65
      have ne_r64_a65 : r64 ≠ a65 := Nat.ne_of_lt (Nat.lt_of_lt_of_le U_r64.lt g_a65)
      replace E0 := ext_trans E0 E
      replace U_r64 := U_r64.ext E
      replace A_a65 : Ar Z h a65 .char [(.int (0 : Int32)), (.int (0 : Int32)), (.int (0 : Int32)), (.int (0 : Int32)), (.int (0 : Int32)), (.int (0 : Int32)), (.int (0 : Int32)), (.int (0 : Int32)), (.int (0 : Int32)), (.int (0 : Int32)), (.int (0 : Int32)), (.int (0 : Int32)), (.int (0 : Int32)), (.int (0 : Int32))] := A_a65
      refine g_astore w at_96 (q := 98) rfl rfl (Ls' := #[.val (.int j0), .val (.int j1), .val (.int j2), .val (.int j3), .val (.int j4), .val (.int (2 : Int32)), .val (.int (0 : Int32)), .val (.int q0), .val (.int q1), .val (.int q2), .val (.int q3), .val (.ref x61), .val (.ref x62), .val (.ref r64), .val (.ref a65), .unset]) rfl ?_
      refine g_aload w at_98 (q := 100) rfl rfl rfl ?_
      refine g_iconst w at_100 (q := 101) rfl (v := (0 : Int32)) (by decide) ?_
      refine g_bipush w at_101 (q := 103) rfl (v := (122 : Int32)) (by decide) ?_
      refine g_castore w at_103 (q := 104) rfl A_a65 (i := 0) (by decide) (Nat.le_of_ble_eq_true rfl) (x' := (122 : Int32)) (nar_chr (by constructor <;> decide)) n_a65 (w.safeAr A_a65 (by decide)) (fun T h w W V => ?_)
      replace U_r64 := U_r64.wrC W A_a65 ne_r64_a65
      replace E0 := ext_wr E0 W z_a65
      replace A_a65 : Ar Z h a65 .char [(.int (122 : Int32)), (.int (0 : Int32)), (.int (0 : Int32)), (.int (0 : Int32)), (.int (0 : Int32)), (.int (0 : Int32)), (.int (0 : Int32)), (.int (0 : Int32)), (.int (0 : Int32)), (.int (0 : Int32)), (.int (0 : Int32)), (.int (0 : Int32)), (.int (0 : Int32)), (.int (0 : Int32))] := V
      refine g_aload w at_104 (q := 106) rfl rfl rfl ?_
      refine g_iconst w at_106 (q := 107) rfl (v := (1 : Int32)) (by decide) ?_
      refine g_bipush w at_107 (q := 109) rfl (v := (111 : Int32)) (by decide) ?_
      refine g_castore w at_109 (q := 110) rfl A_a65 (i := 1) (by decide) (Nat.le_of_ble_eq_true rfl) (x' := (111 : Int32)) (nar_chr (by constructor <;> decide)) n_a65 (w.safeAr A_a65 (by decide)) (fun T h w W V => ?_)
      replace U_r64 := U_r64.wrC W A_a65 ne_r64_a65
      replace E0 := ext_wr E0 W z_a65
      replace A_a65 : Ar Z h a65 .char [(.int (122 : Int32)), (.int (111 : Int32)), (.int (0 : Int32)), (.int (0 : Int32)), (.int (0 : Int32)), (.int (0 : Int32)), (.int (0 : Int32)), (.int (0 : Int32)), (.int (0 : Int32)), (.int (0 : Int32)), (.int (0 : Int32)), (.int (0 : Int32)), (.int (0 : Int32)), (.int (0 : Int32))] := V
      refine g_aload w at_110 (q := 112) rfl rfl rfl ?_
      refine g_iconst w at_112 (q := 113) rfl (v := (2 : Int32)) (by decide) ?_
      refine g_bipush w at_113 (q := 115) rfl (v := (111 : Int32)) (by decide) ?_
      refine g_castore w at_115 (q := 116) rfl A_a65 (i := 2) (by decide) (Nat.le_of_ble_eq_true rfl) (x' := (111 : Int32)) (nar_chr (by constructor <;> decide)) n_a65 (w.safeAr A_a65 (by decide)) (fun T h w W V => ?_)
      replace U_r64 := U_r64.wrC W A_a65 ne_r64_a65
      replace E0 := ext_wr E0 W z_a65
      replace A_a65 : Ar Z h a65 .char [(.int (122 : Int32)), (.int (111 : Int32)), (.int (111 : Int32)), (.int (0 : Int32)), (.int (0 : Int32)), (.int (0 : Int32)), (.int (0 : Int32)), (.int (0 : Int32)), (.int (0 : Int32)), (.int (0 : Int32)), (.int (0 : Int32)), (.int (0 : Int32)), (.int (0 : Int32)), (.int (0 : Int32))] := V
      refine g_aload w at_116 (q := 118) rfl rfl rfl ?_
      refine g_iconst w at_118 (q := 119) rfl (v := (3 : Int32)) (by decide) ?_
      refine g_bipush w at_119 (q := 121) rfl (v := (107 : Int32)) (by decide) ?_
      refine g_castore w at_121 (q := 122) rfl A_a65 (i := 3) (by decide) (Nat.le_of_ble_eq_true rfl) (x' := (107 : Int32)) (nar_chr (by constructor <;> decide)) n_a65 (w.safeAr A_a65 (by decide)) (fun T h w W V => ?_)
      replace U_r64 := U_r64.wrC W A_a65 ne_r64_a65
      replace E0 := ext_wr E0 W z_a65
      replace A_a65 : Ar Z h a65 .char [(.int (122 : Int32)), (.int (111 : Int32)), (.int (111 : Int32)), (.int (107 : Int32)), (.int (0 : Int32)), (.int (0 : Int32)), (.int (0 : Int32)), (.int (0 : Int32)), (.int (0 : Int32)), (.int (0 : Int32)), (.int (0 : Int32)), (.int (0 : Int32)), (.int (0 : Int32)), (.int (0 : Int32))] := V
      refine g_aload w at_122 (q := 124) rfl rfl rfl ?_
      refine g_iconst w at_124 (q := 125) rfl (v := (4 : Int32)) (by decide) ?_
      refine g_bipush w at_125 (q := 127) rfl (v := (101 : Int32)) (by decide) ?_
      refine g_castore w at_127 (q := 128) rfl A_a65 (i := 4) (by decide) (Nat.le_of_ble_eq_true rfl) (x' := (101 : Int32)) (nar_chr (by constructor <;> decide)) n_a65 (w.safeAr A_a65 (by decide)) (fun T h w W V => ?_)
      replace U_r64 := U_r64.wrC W A_a65 ne_r64_a65
      replace E0 := ext_wr E0 W z_a65
      replace A_a65 : Ar Z h a65 .char [(.int (122 : Int32)), (.int (111 : Int32)), (.int (111 : Int32)), (.int (107 : Int32)), (.int (101 : Int32)), (.int (0 : Int32)), (.int (0 : Int32)), (.int (0 : Int32)), (.int (0 : Int32)), (.int (0 : Int32)), (.int (0 : Int32)), (.int (0 : Int32)), (.int (0 : Int32)), (.int (0 : Int32))] := V
      refine g_aload w at_128 (q := 130) rfl rfl rfl ?_
      refine g_iconst w at_130 (q := 131) rfl (v := (5 : Int32)) (by decide) ?_
      refine g_bipush w at_131 (q := 133) rfl (v := (101 : Int32)) (by decide) ?_
      refine g_castore w at_133 (q := 134) rfl A_a65 (i := 5) (by decide) (Nat.le_of_ble_eq_true rfl) (x' := (101 : Int32)) (nar_chr (by constructor <;> decide)) n_a65 (w.safeAr A_a65 (by decide)) (fun T h w W V => ?_)
      replace U_r64 := U_r64.wrC W A_a65 ne_r64_a65
      replace E0 := ext_wr E0 W z_a65
      replace A_a65 : Ar Z h a65 .char [(.int (122 : Int32)), (.int (111 : Int32)), (.int (111 : Int32)), (.int (107 : Int32)), (.int (101 : Int32)), (.int (101 : Int32)), (.int (0 : Int32)), (.int (0 : Int32)), (.int (0 : Int32)), (.int (0 : Int32)), (.int (0 : Int32)), (.int (0 : Int32)), (.int (0 : Int32)), (.int (0 : Int32))] := V
      refine g_aload w at_134 (q := 136) rfl rfl rfl ?_
      refine g_bipush w at_136 (q := 138) rfl (v := (6 : Int32)) (by decide) ?_
      refine g_bipush w at_138 (q := 140) rfl (v := (112 : Int32)) (by decide) ?_
      refine g_castore w at_140 (q := 141) rfl A_a65 (i := 6) (by decide) (Nat.le_of_ble_eq_true rfl) (x' := (112 : Int32)) (nar_chr (by constructor <;> decide)) n_a65 (w.safeAr A_a65 (by decide)) (fun T h w W V => ?_)
      replace U_r64 := U_r64.wrC W A_a65 ne_r64_a65
      replace E0 := ext_wr E0 W z_a65
      replace A_a65 : Ar Z h a65 .char [(.int (122 : Int32)), (.int (111 : Int32)), (.int (111 : Int32)), (.int (107 : Int32)), (.int (101 : Int32)), (.int (101 : Int32)), (.int (112 : Int32)), (.int (0 : Int32)), (.int (0 : Int32)), (.int (0 : Int32)), (.int (0 : Int32)), (.int (0 : Int32)), (.int (0 : Int32)), (.int (0 : Int32))] := V
      refine g_aload w at_141 (q := 143) rfl rfl rfl ?_
      refine g_bipush w at_143 (q := 145) rfl (v := (7 : Int32)) (by decide) ?_
      refine g_bipush w at_145 (q := 147) rfl (v := (101 : Int32)) (by decide) ?_
      refine g_castore w at_147 (q := 148) rfl A_a65 (i := 7) (by decide) (Nat.le_of_ble_eq_true rfl) (x' := (101 : Int32)) (nar_chr (by constructor <;> decide)) n_a65 (w.safeAr A_a65 (by decide)) (fun T h w W V => ?_)
      replace U_r64 := U_r64.wrC W A_a65 ne_r64_a65
      replace E0 := ext_wr E0 W z_a65
      replace A_a65 : Ar Z h a65 .char [(.int (122 : Int32)), (.int (111 : Int32)), (.int (111 : Int32)), (.int (107 : Int32)), (.int (101 : Int32)), (.int (101 : Int32)), (.int (112 : Int32)), (.int (101 : Int32)), (.int (0 : Int32)), (.int (0 : Int32)), (.int (0 : Int32)), (.int (0 : Int32)), (.int (0 : Int32)), (.int (0 : Int32))] := V
      refine g_aload w at_148 (q := 150) rfl rfl rfl ?_
      refine g_bipush w at_150 (q := 152) rfl (v := (8 : Int32)) (by decide) ?_
      refine g_bipush w at_152 (q := 154) rfl (v := (114 : Int32)) (by decide) ?_
      refine g_castore w at_154 (q := 155) rfl A_a65 (i := 8) (by decide) (Nat.le_of_ble_eq_true rfl) (x' := (114 : Int32)) (nar_chr (by constructor <;> decide)) n_a65 (w.safeAr A_a65 (by decide)) (fun T h w W V => ?_)
      replace U_r64 := U_r64.wrC W A_a65 ne_r64_a65
      replace E0 := ext_wr E0 W z_a65
      replace A_a65 : Ar Z h a65 .char [(.int (122 : Int32)), (.int (111 : Int32)), (.int (111 : Int32)), (.int (107 : Int32)), (.int (101 : Int32)), (.int (101 : Int32)), (.int (112 : Int32)), (.int (101 : Int32)), (.int (114 : Int32)), (.int (0 : Int32)), (.int (0 : Int32)), (.int (0 : Int32)), (.int (0 : Int32)), (.int (0 : Int32))] := V
      refine g_aload w at_155 (q := 157) rfl rfl rfl ?_
      refine g_bipush w at_157 (q := 159) rfl (v := (9 : Int32)) (by decide) ?_
      refine g_bipush w at_159 (q := 161) rfl (v := (58 : Int32)) (by decide) ?_
      refine g_castore w at_161 (q := 162) rfl A_a65 (i := 9) (by decide) (Nat.le_of_ble_eq_true rfl) (x' := (58 : Int32)) (nar_chr (by constructor <;> decide)) n_a65 (w.safeAr A_a65 (by decide)) (fun T h w W V => ?_)
      replace U_r64 := U_r64.wrC W A_a65 ne_r64_a65
      replace E0 := ext_wr E0 W z_a65
      replace A_a65 : Ar Z h a65 .char [(.int (122 : Int32)), (.int (111 : Int32)), (.int (111 : Int32)), (.int (107 : Int32)), (.int (101 : Int32)), (.int (101 : Int32)), (.int (112 : Int32)), (.int (101 : Int32)), (.int (114 : Int32)), (.int (58 : Int32)), (.int (0 : Int32)), (.int (0 : Int32)), (.int (0 : Int32)), (.int (0 : Int32))] := V
      refine g_aload w at_162 (q := 164) rfl rfl rfl ?_
      refine g_bipush w at_164 (q := 166) rfl (v := (10 : Int32)) (by decide) ?_
      refine g_bipush w at_166 (q := 168) rfl (v := (47 : Int32)) (by decide) ?_
      refine g_castore w at_168 (q := 169) rfl A_a65 (i := 10) (by decide) (Nat.le_of_ble_eq_true rfl) (x' := (47 : Int32)) (nar_chr (by constructor <;> decide)) n_a65 (w.safeAr A_a65 (by decide)) (fun T h w W V => ?_)
      replace U_r64 := U_r64.wrC W A_a65 ne_r64_a65
      replace E0 := ext_wr E0 W z_a65
      replace A_a65 : Ar Z h a65 .char [(.int (122 : Int32)), (.int (111 : Int32)), (.int (111 : Int32)), (.int (107 : Int32)), (.int (101 : Int32)), (.int (101 : Int32)), (.int (112 : Int32)), (.int (101 : Int32)), (.int (114 : Int32)), (.int (58 : Int32)), (.int (47 : Int32)), (.int (0 : Int32)), (.int (0 : Int32)), (.int (0 : Int32))] := V
      refine g_aload w at_169 (q := 171) rfl rfl rfl ?_
      refine g_bipush w at_171 (q := 173) rfl (v := (11 : Int32)) (by decide) ?_
      refine g_bipush w at_173 (q := 175) rfl (v := (47 : Int32)) (by decide) ?_
      refine g_castore w at_175 (q := 176) rfl A_a65 (i := 11) (by decide) (Nat.le_of_ble_eq_true rfl) (x' := (47 : Int32)) (nar_chr (by constructor <;> decide)) n_a65 (w.safeAr A_a65 (by decide)) (fun T h w W V => ?_)
      replace U_r64 := U_r64.wrC W A_a65 ne_r64_a65
      replace E0 := ext_wr E0 W z_a65
      replace A_a65 : Ar Z h a65 .char [(.int (122 : Int32)), (.int (111 : Int32)), (.int (111 : Int32)), (.int (107 : Int32)), (.int (101 : Int32)), (.int (101 : Int32)), (.int (112 : Int32)), (.int (101 : Int32)), (.int (114 : Int32)), (.int (58 : Int32)), (.int (47 : Int32)), (.int (47 : Int32)), (.int (0 : Int32)), (.int (0 : Int32))] := V
      refine g_iload w at_176 (q := 178) rfl rfl ?_
      refine g_ifN w at_178 (q := 181) rfl (by decide) ?_
      refine g_aload w at_181 (q := 183) rfl rfl rfl ?_
      refine g_bipush w at_183 (q := 185) rfl (v := (12 : Int32)) (by decide) ?_
      refine g_iload w at_185 (q := 187) rfl rfl ?_
      refine g_castore w at_187 (q := 188) rfl A_a65 (i := 12) (by decide) (Nat.le_of_ble_eq_true rfl) (x' := q0) (nar_chr l0) n_a65 (w.safeAr A_a65 (by decide)) (fun T h w W V => ?_)
      replace U_r64 := U_r64.wrC W A_a65 ne_r64_a65
      replace E0 := ext_wr E0 W z_a65
      replace A_a65 : Ar Z h a65 .char [(.int (122 : Int32)), (.int (111 : Int32)), (.int (111 : Int32)), (.int (107 : Int32)), (.int (101 : Int32)), (.int (101 : Int32)), (.int (112 : Int32)), (.int (101 : Int32)), (.int (114 : Int32)), (.int (58 : Int32)), (.int (47 : Int32)), (.int (47 : Int32)), (.int q0), (.int (0 : Int32))] := V
      refine g_iload w at_188 (q := 190) rfl rfl ?_
      refine g_iconst w at_190 (q := 191) rfl (v := (1 : Int32)) (by decide) ?_
      refine g_icN w at_191 (q := 194) rfl (by decide) ?_
      refine g_aload w at_194 (q := 196) rfl rfl rfl ?_
      refine g_bipush w at_196 (q := 198) rfl (v := (13 : Int32)) (by decide) ?_
      refine g_iload w at_198 (q := 200) rfl rfl ?_
      refine g_castore w at_200 (q := 201) rfl A_a65 (i := 13) (by decide) (Nat.le_of_ble_eq_true rfl) (x' := q1) (nar_chr l1) n_a65 (w.safeAr A_a65 (by decide)) (fun T h w W V => ?_)
      replace U_r64 := U_r64.wrC W A_a65 ne_r64_a65
      replace E0 := ext_wr E0 W z_a65
      replace A_a65 : Ar Z h a65 .char [(.int (122 : Int32)), (.int (111 : Int32)), (.int (111 : Int32)), (.int (107 : Int32)), (.int (101 : Int32)), (.int (101 : Int32)), (.int (112 : Int32)), (.int (101 : Int32)), (.int (114 : Int32)), (.int (58 : Int32)), (.int (47 : Int32)), (.int (47 : Int32)), (.int q0), (.int q1)] := V
      refine g_bipush w at_201 (q := 203) rfl (v := (12 : Int32)) (by decide) ?_
      refine g_iload w at_203 (q := 205) rfl rfl ?_
      refine g_iadd w at_205 (q := 206) rfl ?_
      rw [show (12 : Int32) + (2 : Int32) = (14 : Int32) from by decide]
      show Go p e below _ (State.setTop T (mkF m 206 #[.val (.int j0), .val (.int j1), .val (.int j2), .val (.int j3), .val (.int j4), .val (.int (2 : Int32)), .val (.int (0 : Int32)), .val (.int q0), .val (.int q1), .val (.int q2), .val (.int q3), .val (.ref x61), .val (.ref x62), .val (.ref r64), .val (.ref a65), .unset] [(.int (14 : Int32))]))
      refine g_istore w at_206 (q := 208) rfl (Ls' := #[.val (.int j0), .val (.int j1), .val (.int j2), .val (.int j3), .val (.int j4), .val (.int (2 : Int32)), .val (.int (0 : Int32)), .val (.int q0), .val (.int q1), .val (.int q2), .val (.int q3), .val (.ref x61), .val (.ref x62), .val (.ref r64), .val (.ref a65), .val (.int (14 : Int32))]) rfl ?_
      refine g_iload w at_208 (q := 210) rfl rfl ?_
      refine g_ifY w at_210 (by decide) (q := 220) (by decide) (by decide) ?_
      refine g_iload w at_220 (q := 222) rfl rfl ?_
      refine g_iconst w at_222 (q := 223) rfl (v := (1 : Int32)) (by decide) ?_
      refine g_icY w at_223 (by decide) (q := 235) (by decide) (by decide) ?_
      refine g_aload w at_235 (q := 237) rfl rfl rfl ?_
      refine g_new w at_237 (q := 240) rfl (hw _ (List.mem_of_getElem? (i := 6) rfl)) (hw _ (List.mem_of_getElem? (i := 7) rfl)) (hw _ (List.mem_of_getElem? (i := 8) rfl)) (by decide) (by decide) (fun T h a70 w E g_a70 n_a70 X_a70 D_a70 s_a70 => ?_)
      have z_a70 := Nat.le_trans E0.1 g_a70
      have ne_a65_a70 : a65 ≠ a70 := Nat.ne_of_lt (Nat.lt_of_lt_of_le A_a65.lt g_a70)
      have ne_r64_a70 : r64 ≠ a70 := Nat.ne_of_lt (Nat.lt_of_lt_of_le U_r64.lt g_a70)
      replace E0 := ext_trans E0 E
      replace A_a65 := A_a65.ext E
      replace U_r64 := U_r64.ext E
      have F_value_a70 := D_a70 (Or.inr (hw _ (List.mem_of_getElem? (i := 22) rfl))) (ty := (.array .byte)) (by decide)
      replace F_value_a70 : Fld Z h a70 "java/lang/String" "value" "[B" .null := F_value_a70
      have F_coder_a70 := D_a70 (Or.inr (hw _ (List.mem_of_getElem? (i := 23) rfl))) (ty := .byte) (by decide)
      replace F_coder_a70 : Fld Z h a70 "java/lang/String" "coder" "B" (.int (0 : Int32)) := F_coder_a70
      refine g_dup w at_240 (q := 241) rfl rfl ?_
      refine g_aload w at_241 (q := 243) rfl rfl rfl ?_
      refine g_special w (con_new1U l Z a0 hw a70 a65 [(122 : Int32), (111 : Int32), (111 : Int32), (107 : Int32), (101 : Int32), (101 : Int32), (112 : Int32), (101 : Int32), (114 : Int32), (58 : Int32), (47 : Int32), (47 : Int32), q0, q1] _ w.old X_a70 F_value_a70 F_coder_a70 n_a70 A_a65 ne_a65_a70 (Nat.le_of_ble_eq_true rfl) (csS (by constructor <;> decide) (csS (by constructor <;> decide) (csS (by constructor <;> decide) (csS (by constructor <;> decide) (csS (by constructor <;> decide) (csS (by constructor <;> decide) (csS (by constructor <;> decide) (csS (by constructor <;> decide) (csS (by constructor <;> decide) (csS (by constructor <;> decide) (csS (by constructor <;> decide) (csS (by constructor <;> decide) (csS l0 (csS l1 cs0)))))))))))))) (Nat.le_of_ble_eq_true rfl) hcm SA_ SH_ SL_) no0 at_243 (q := 246) rfl rfl rfl (hw _ (List.mem_of_getElem? (i := 10) rfl)) (hw _ (List.mem_of_getElem? (i := 11) rfl)) (hw _ (List.mem_of_getElem? (i := 8) rfl)) (hw _ (List.mem_of_getElem? (i := 12) rfl)) (by decide) pd28 rfl rfl (W := 2) (Nat.le_of_eq rfl) (by decide) (by decide) (by decide) (by decide) (fun T h v w gs C q => ?_)
      obtain ⟨rfl, K, U_a70⟩ := q
      replace E0 := ext_keep E0 K z_a70
      have X0 := X_a70
      replace A_a65 := A_a65.keep K (not1 ne_a65_a70)
      replace U_r64 := U_r64.keepO K ne_r64_a70 X0 (hw _ (List.mem_of_getElem? (i := 7) rfl))
      replace X_a70 := X_a70.keep K
      show Go p e below _ (State.setTop T (mkF m 246 #[.val (.int j0), .val (.int j1), .val (.int j2), .val (.int j3), .val (.int j4), .val (.int (2 : Int32)), .val (.int (0 : Int32)), .val (.int q0), .val (.int q1), .val (.int q2), .val (.int q3), .val (.ref x61), .val (.ref x62), .val (.ref r64), .val (.ref a65), .val (.int (14 : Int32))] [(.ref a70), (.ref r64)]))
      refine g_virtualB w (a := r64) (argsL := [(.ref a70)]) (own_eqU hw U_r64 U_a70 (w.sta SC_) hz_ (by decide) (by decide)) U_r64.exa at_246 (q := 249) rfl rfl (hw _ (List.mem_of_getElem? (i := 171) rfl)) (hw _ (List.mem_of_getElem? (i := 172) rfl)) (hw _ (List.mem_of_getElem? (i := 174) rfl)) (hw _ (List.mem_of_getElem? (i := 173) rfl)) (by decide) (nf (hw _ (List.mem_of_getElem? (i := 174) rfl))) pd33 rfl rfl (W := 0) (Nat.le_of_eq rfl) (by decide) (by decide) (fun T v w hq => ?_)
      rcases hq with ⟨rfl, hq⟩ | ⟨rfl, hq⟩
      · show Go p e below _ (State.setTop T (mkF m 249 #[.val (.int j0), .val (.int j1), .val (.int j2), .val (.int j3), .val (.int j4), .val (.int (2 : Int32)), .val (.int (0 : Int32)), .val (.int q0), .val (.int q1), .val (.int q2), .val (.int q3), .val (.ref x61), .val (.ref x62), .val (.ref r64), .val (.ref a65), .val (.int (14 : Int32))] [(.int (1 : Int32))]))
        exact g_retn w at_249 rfl (by simp) rfl (by decide) (by decide) rfl
      · exact absurd rfl hq
    · rw [e6]
      show Go p e below _ (State.setTop T (mkF m 48 #[.val (.int j0), .val (.int j1), .val (.int j2), .val (.int j3), .val (.int j4), .val (.int (2 : Int32)), .val (.int (1 : Int32)), .val (.int q0), .val (.int q1), .val (.int q2), .val (.int q3), .unset, .unset, .unset, .unset, .unset] []))
      refine g_iload w at_48 (q := 50) rfl rfl ?_
      refine g_iload w at_50 (q := 52) rfl rfl ?_
      refine g_iload w at_52 (q := 54) rfl rfl ?_
      refine g_static w (con_mk l Z a0 hw fm (2 : Int32) q0 q1 _ w.old l0 l1 hcm SFm rfm SA_ SH_ SL_) no0 at_54 (q := 57) rfl rfl (hw _ (List.mem_of_getElem? (i := 2) rfl)) (hw _ (List.mem_of_getElem? (i := 3) rfl)) (hw _ (List.mem_of_getElem? (i := 4) rfl)) (hw _ (List.mem_of_getElem? (i := 5) rfl)) (by decide) pd31 rfl rfl (W := 0) (Nat.le_of_eq rfl) (by decide) (by decide) (by decide) (by decide) (fun T h v w gs C q => ?_)
      obtain ⟨x71, rfl, E, g_x71, U_x71⟩ := q
      replace U_x71 : Su Z h x71 [q0, q1] := by simpa [sg] using U_x71
      have z_x71 := Nat.le_trans E0.1 g_x71
      replace E0 := ext_trans E0 E
      show Go p e below _ (State.setTop T (mkF m 57 #[.val (.int j0), .val (.int j1), .val (.int j2), .val (.int j3), .val (.int j4), .val (.int (2 : Int32)), .val (.int (1 : Int32)), .val (.int q0), .val (.int q1), .val (.int q2), .val (.int q3), .unset, .unset, .unset, .unset, .unset] [(.ref x71)]))
      refine g_astore w at_57 (q := 59) rfl rfl (Ls' := #[.val (.int j0), .val (.int j1), .val (.int j2), .val (.int j3), .val (.int j4), .val (.int (2 : Int32)), .val (.int (1 : Int32)), .val (.int q0), .val (.int q1), .val (.int q2), .val (.int q3), .val (.ref x71), .unset, .unset, .unset, .unset]) rfl ?_
      refine g_iload w at_59 (q := 61) rfl rfl ?_
      refine g_iload w at_61 (q := 63) rfl rfl ?_
      refine g_iload w at_63 (q := 65) rfl rfl ?_
      refine g_static w (con_mk l Z a0 hw fm (1 : Int32) q2 q3 _ w.old l2 l3 hcm SFm rfm SA_ SH_ SL_) no0 at_65 (q := 68) rfl rfl (hw _ (List.mem_of_getElem? (i := 2) rfl)) (hw _ (List.mem_of_getElem? (i := 3) rfl)) (hw _ (List.mem_of_getElem? (i := 4) rfl)) (hw _ (List.mem_of_getElem? (i := 5) rfl)) (by decide) pd31 rfl rfl (W := 0) (Nat.le_of_eq rfl) (by decide) (by decide) (by decide) (by decide) (fun T h v w gs C q => ?_)
      obtain ⟨x72, rfl, E, g_x72, U_x72⟩ := q
      replace U_x72 : Su Z h x72 [q2] := by simpa [sg] using U_x72
      have z_x72 := Nat.le_trans E0.1 g_x72
      have ne_x71_x72 : x71 ≠ x72 := Nat.ne_of_lt (Nat.lt_of_lt_of_le U_x71.lt g_x72)
      replace E0 := ext_trans E0 E
      replace U_x71 := U_x71.ext E
      show Go p e below _ (State.setTop T (mkF m 68 #[.val (.int j0), .val (.int j1), .val (.int j2), .val (.int j3), .val (.int j4), .val (.int (2 : Int32)), .val (.int (1 : Int32)), .val (.int q0), .val (.int q1), .val (.int q2), .val (.int q3), .val (.ref x71), .unset, .unset, .unset, .unset] [(.ref x72)]))
      refine g_astore w at_68 (q := 70) rfl rfl (Ls' := #[.val (.int j0), .val (.int j1), .val (.int j2), .val (.int j3), .val (.int j4), .val (.int (2 : Int32)), .val (.int (1 : Int32)), .val (.int q0), .val (.int q1), .val (.int q2), .val (.int q3), .val (.ref x71), .val (.ref x72), .unset, .unset, .unset]) rfl ?_
      refine g_new w at_70 (q := 73) rfl (hw _ (List.mem_of_getElem? (i := 28) rfl)) (hw _ (List.mem_of_getElem? (i := 29) rfl)) (hw _ (List.mem_of_getElem? (i := 30) rfl)) (by decide) (by decide) (fun T h a73 w E g_a73 n_a73 X_a73 D_a73 s_a73 => ?_)
      have z_a73 := Nat.le_trans E0.1 g_a73
      have ne_x71_a73 : x71 ≠ a73 := Nat.ne_of_lt (Nat.lt_of_lt_of_le U_x71.lt g_a73)
      have ne_x72_a73 : x72 ≠ a73 := Nat.ne_of_lt (Nat.lt_of_lt_of_le U_x72.lt g_a73)
      replace E0 := ext_trans E0 E
      replace U_x71 := U_x71.ext E
      replace U_x72 := U_x72.ext E
      have F_servers_a73 := D_a73 (Or.inr (hw _ (List.mem_of_getElem? (i := 41) rfl))) (ty := (.object "java/lang/String")) (by decide)
      replace F_servers_a73 : Fld Z h a73 "com/example/devizes/devizes/zookeeper/ZooKeeperAddress" "servers" "Ljava/lang/String;" .null := F_servers_a73
      have F_root_a73 := D_a73 (Or.inr (hw _ (List.mem_of_getElem? (i := 43) rfl))) (ty := (.object "java/lang/String")) (by decide)
      replace F_root_a73 : Fld Z h a73 "com/example/devizes/devizes/zookeeper/ZooKeeperAddress" "root" "Ljava/lang/String;" .null := F_root_a73
      refine g_dup w at_73 (q := 74) rfl rfl ?_
      refine g_aload w at_74 (q := 76) rfl rfl rfl ?_
      refine g_aload w at_76 (q := 78) rfl rfl rfl ?_
      refine g_special w (con_zai l Z a0 hw a73 x71 x72 _ w.old X_a73 F_servers_a73 F_root_a73 n_a73) no0 at_78 (q := 81) rfl rfl rfl (hw _ (List.mem_of_getElem? (i := 31) rfl)) (hw _ (List.mem_of_getElem? (i := 32) rfl)) (hw _ (List.mem_of_getElem? (i := 30) rfl)) (hw _ (List.mem_of_getElem? (i := 33) rfl)) (by decide) pd32 rfl rfl (W := 1) (Nat.le_of_eq rfl) (by decide) (by decide) (by decide) (by decide) (fun T h v w gs C q => ?_)
      obtain ⟨rfl, K, G_servers, G_root⟩ := q
      replace E0 := ext_keep E0 K z_a73
      have X0 := X_a73
      replace U_x71 := U_x71.keepO K ne_x71_a73 X0 (hw _ (List.mem_of_getElem? (i := 29) rfl))
      replace U_x72 := U_x72.keepO K ne_x72_a73 X0 (hw _ (List.mem_of_getElem? (i := 29) rfl))
      replace X_a73 := X_a73.keep K
      replace F_servers_a73 := G_servers
      replace F_root_a73 := G_root
      show Go p e below _ (State.setTop T (mkF m 81 #[.val (.int j0), .val (.int j1), .val (.int j2), .val (.int j3), .val (.int j4), .val (.int (2 : Int32)), .val (.int (1 : Int32)), .val (.int q0), .val (.int q1), .val (.int q2), .val (.int q3), .val (.ref x71), .val (.ref x72), .unset, .unset, .unset] [(.ref a73)]))
      refine g_virtual w (con_zts l Z a0 hw fm a73 x71 x72 [q0, q1] [q2] _ w.old F_servers_a73 F_root_a73 U_x71 U_x72 (Nat.le_of_ble_eq_true rfl) (Nat.le_of_ble_eq_true rfl) hcm SFm rfm SA_ SH_ SL_) no0 X_a73 at_81 (q := 84) rfl rfl (hw _ (List.mem_of_getElem? (i := 44) rfl)) (hw _ (List.mem_of_getElem? (i := 45) rfl)) (hw _ (List.mem_of_getElem? (i := 47) rfl)) (hw _ (List.mem_of_getElem? (i := 46) rfl)) (hw _ (List.mem_of_getElem? (i := 30) rfl)) (hw _ (List.mem_of_getElem? (i := 48) rfl)) (by decide) (nf (hw _ (List.mem_of_getElem? (i := 47) rfl))) pd30 rfl rfl (W := 0) (Nat.le_of_eq rfl) (by decide) (by decide) (by decide) (by decide) (fun T h v w gs C q => ?_)
      obtain ⟨r74, rfl, E, g_r74, U_r74⟩ := q
      replace U_r74 : Su Z h r74 [(122 : Int32), (111 : Int32), (111 : Int32), (107 : Int32), (101 : Int32), (101 : Int32), (112 : Int32), (101 : Int32), (114 : Int32), (58 : Int32), (47 : Int32), (47 : Int32), q0, q1, q2] := U_r74
      have z_r74 := Nat.le_trans E0.1 g_r74
      have ne_a73_r74 : a73 ≠ r74 := Nat.ne_of_lt (Nat.lt_of_lt_of_le X_a73.lt g_r74)
      have ne_x71_r74 : x71 ≠ r74 := Nat.ne_of_lt (Nat.lt_of_lt_of_le U_x71.lt g_r74)
      have ne_x72_r74 : x72 ≠ r74 := Nat.ne_of_lt (Nat.lt_of_lt_of_le U_x72.lt g_r74)
      replace E0 := ext_trans E0 E
      replace U_x71 := U_x71.ext E
      replace U_x72 := U_x72.ext E
      replace X_a73 := X_a73.ext E
      replace F_servers_a73 := F_servers_a73.ext E
      replace F_root_a73 := F_root_a73.ext E
      show Go p e below _ (State.setTop T (mkF m 84 #[.val (.int j0), .val (.int j1), .val (.int j2), .val (.int j3), .val (.int j4), .val (.int (2 : Int32)), .val (.int (1 : Int32)), .val (.int q0), .val (.int q1), .val (.int q2), .val (.int q3), .val (.ref x71), .val (.ref x72), .unset, .unset, .unset] [(.ref r74)]))
      refine g_astore w at_84 (q := 86) rfl rfl (Ls' := #[.val (.int j0), .val (.int j1), .val (.int j2), .val (.int j3), .val (.int j4), .val (.int (2 : Int32)), .val (.int (1 : Int32)), .val (.int q0), .val (.int q1), .val (.int q2), .val (.int q3), .val (.ref x71), .val (.ref x72), .val (.ref r74), .unset, .unset]) rfl ?_
      refine g_bipush w at_86 (q := 88) rfl (v := (12 : Int32)) (by decide) ?_
      refine g_iload w at_88 (q := 90) rfl rfl ?_
      refine g_iadd w at_90 (q := 91) rfl ?_
      rw [show (12 : Int32) + (2 : Int32) = (14 : Int32) from by decide]
      show Go p e below _ (State.setTop T (mkF m 91 #[.val (.int j0), .val (.int j1), .val (.int j2), .val (.int j3), .val (.int j4), .val (.int (2 : Int32)), .val (.int (1 : Int32)), .val (.int q0), .val (.int q1), .val (.int q2), .val (.int q3), .val (.ref x71), .val (.ref x72), .val (.ref r74), .unset, .unset] [(.int (14 : Int32))]))
      refine g_iload w at_91 (q := 93) rfl rfl ?_
      refine g_iadd w at_93 (q := 94) rfl ?_
      rw [show (14 : Int32) + (1 : Int32) = (15 : Int32) from by decide]
      show Go p e below _ (State.setTop T (mkF m 94 #[.val (.int j0), .val (.int j1), .val (.int j2), .val (.int j3), .val (.int j4), .val (.int (2 : Int32)), .val (.int (1 : Int32)), .val (.int q0), .val (.int q1), .val (.int q2), .val (.int q3), .val (.ref x71), .val (.ref x72), .val (.ref r74), .unset, .unset] [(.int (15 : Int32))]))
      refine g_newarr w at_94 (q := 96) rfl (hw _ (List.mem_of_getElem? (i := 9) rfl)) (len := 15) (cap := 15) (by decide) (by decide) (by decide) (by decide) (by decide) (fun T h a75 w E g_a75 n_a75 A_a75 s_a75 => ?_)
      have z_a75 := Nat.le_trans E0.1 g_a75
      have ne_r74_a75 : r74 ≠ a75 := Nat.ne_of_lt (Nat.lt_of_lt_of_le U_r74.lt g_a75)
      replace E0 := ext_trans E0 E
      replace U_r74 := U_r74.ext E
      replace A_a75 : Ar Z h a75 .char [(.int (0 : Int32)), (.int (0 : Int32)), (.int (0 : Int32)), (.int (0 : Int32)), (.int (0 : Int32)), (.int (0 : Int32)), (.int (0 : Int32)), (.int (0 : Int32)), (.int (0 : Int32)), (.int (0 : Int32)), (.int (0 : Int32)), (.int (0 : Int32)), (.int (0 : Int32)), (.int (0 : Int32)), (.int (0 : Int32))] := A_a75
      refine g_astore w at_96 (q := 98) rfl rfl (Ls' := #[.val (.int j0), .val (.int j1), .val (.int j2), .val (.int j3), .val (.int j4), .val (.int (2 : Int32)), .val (.int (1 : Int32)), .val (.int q0), .val (.int q1), .val (.int q2), .val (.int q3), .val (.ref x71), .val (.ref x72), .val (.ref r74), .val (.ref a75), .unset]) rfl ?_
      refine g_aload w at_98 (q := 100) rfl rfl rfl ?_
      refine g_iconst w at_100 (q := 101) rfl (v := (0 : Int32)) (by decide) ?_
      refine g_bipush w at_101 (q := 103) rfl (v := (122 : Int32)) (by decide) ?_
      refine g_castore w at_103 (q := 104) rfl A_a75 (i := 0) (by decide) (Nat.le_of_ble_eq_true rfl) (x' := (122 : Int32)) (nar_chr (by constructor <;> decide)) n_a75 (w.safeAr A_a75 (by decide)) (fun T h w W V => ?_)
      replace U_r74 := U_r74.wrC W A_a75 ne_r74_a75
      replace E0 := ext_wr E0 W z_a75
      replace A_a75 : Ar Z h a75 .char [(.int (122 : Int32)), (.int (0 : Int32)), (.int (0 : Int32)), (.int (0 : Int32)), (.int (0 : Int32)), (.int (0 : Int32)), (.int (0 : Int32)), (.int (0 : Int32)), (.int (0 : Int32)), (.int (0 : Int32)), (.int (0 : Int32)), (.int (0 : Int32)), (.int (0 : Int32)), (.int (0 : Int32)), (.int (0 : Int32))] := V
      refine g_aload w at_104 (q := 106) rfl rfl rfl ?_
      refine g_iconst w at_106 (q := 107) rfl (v := (1 : Int32)) (by decide) ?_
      refine g_bipush w at_107 (q := 109) rfl (v := (111 : Int32)) (by decide) ?_
      refine g_castore w at_109 (q := 110) rfl A_a75 (i := 1) (by decide) (Nat.le_of_ble_eq_true rfl) (x' := (111 : Int32)) (nar_chr (by constructor <;> decide)) n_a75 (w.safeAr A_a75 (by decide)) (fun T h w W V => ?_)
      replace U_r74 := U_r74.wrC W A_a75 ne_r74_a75
      replace E0 := ext_wr E0 W z_a75
      replace A_a75 : Ar Z h a75 .char [(.int (122 : Int32)), (.int (111 : Int32)), (.int (0 : Int32)), (.int (0 : Int32)), (.int (0 : Int32)), (.int (0 : Int32)), (.int (0 : Int32)), (.int (0 : Int32)), (.int (0 : Int32)), (.int (0 : Int32)), (.int (0 : Int32)), (.int (0 : Int32)), (.int (0 : Int32)), (.int (0 : Int32)), (.int (0 : Int32))] := V
      refine g_aload w at_110 (q := 112) rfl rfl rfl ?_
      refine g_iconst w at_112 (q := 113) rfl (v := (2 : Int32)) (by decide) ?_
      refine g_bipush w at_113 (q := 115) rfl (v := (111 : Int32)) (by decide) ?_
      refine g_castore w at_115 (q := 116) rfl A_a75 (i := 2) (by decide) (Nat.le_of_ble_eq_true rfl) (x' := (111 : Int32)) (nar_chr (by constructor <;> decide)) n_a75 (w.safeAr A_a75 (by decide)) (fun T h w W V => ?_)
      replace U_r74 := U_r74.wrC W A_a75 ne_r74_a75
      replace E0 := ext_wr E0 W z_a75
      replace A_a75 : Ar Z h a75 .char [(.int (122 : Int32)), (.int (111 : Int32)), (.int (111 : Int32)), (.int (0 : Int32)), (.int (0 : Int32)), (.int (0 : Int32)), (.int (0 : Int32)), (.int (0 : Int32)), (.int (0 : Int32)), (.int (0 : Int32)), (.int (0 : Int32)), (.int (0 : Int32)), (.int (0 : Int32)), (.int (0 : Int32)), (.int (0 : Int32))] := V
      refine g_aload w at_116 (q := 118) rfl rfl rfl ?_
      refine g_iconst w at_118 (q := 119) rfl (v := (3 : Int32)) (by decide) ?_
      refine g_bipush w at_119 (q := 121) rfl (v := (107 : Int32)) (by decide) ?_
      refine g_castore w at_121 (q := 122) rfl A_a75 (i := 3) (by decide) (Nat.le_of_ble_eq_true rfl) (x' := (107 : Int32)) (nar_chr (by constructor <;> decide)) n_a75 (w.safeAr A_a75 (by decide)) (fun T h w W V => ?_)
      replace U_r74 := U_r74.wrC W A_a75 ne_r74_a75
      replace E0 := ext_wr E0 W z_a75
      replace A_a75 : Ar Z h a75 .char [(.int (122 : Int32)), (.int (111 : Int32)), (.int (111 : Int32)), (.int (107 : Int32)), (.int (0 : Int32)), (.int (0 : Int32)), (.int (0 : Int32)), (.int (0 : Int32)), (.int (0 : Int32)), (.int (0 : Int32)), (.int (0 : Int32)), (.int (0 : Int32)), (.int (0 : Int32)), (.int (0 : Int32)), (.int (0 : Int32))] := V
      refine g_aload w at_122 (q := 124) rfl rfl rfl ?_
      refine g_iconst w at_124 (q := 125) rfl (v := (4 : Int32)) (by decide) ?_
      refine g_bipush w at_125 (q := 127) rfl (v := (101 : Int32)) (by decide) ?_
      refine g_castore w at_127 (q := 128) rfl A_a75 (i := 4) (by decide) (Nat.le_of_ble_eq_true rfl) (x' := (101 : Int32)) (nar_chr (by constructor <;> decide)) n_a75 (w.safeAr A_a75 (by decide)) (fun T h w W V => ?_)
      replace U_r74 := U_r74.wrC W A_a75 ne_r74_a75
      replace E0 := ext_wr E0 W z_a75
      replace A_a75 : Ar Z h a75 .char [(.int (122 : Int32)), (.int (111 : Int32)), (.int (111 : Int32)), (.int (107 : Int32)), (.int (101 : Int32)), (.int (0 : Int32)), (.int (0 : Int32)), (.int (0 : Int32)), (.int (0 : Int32)), (.int (0 : Int32)), (.int (0 : Int32)), (.int (0 : Int32)), (.int (0 : Int32)), (.int (0 : Int32)), (.int (0 : Int32))] := V
      refine g_aload w at_128 (q := 130) rfl rfl rfl ?_
      refine g_iconst w at_130 (q := 131) rfl (v := (5 : Int32)) (by decide) ?_
      refine g_bipush w at_131 (q := 133) rfl (v := (101 : Int32)) (by decide) ?_
      refine g_castore w at_133 (q := 134) rfl A_a75 (i := 5) (by decide) (Nat.le_of_ble_eq_true rfl) (x' := (101 : Int32)) (nar_chr (by constructor <;> decide)) n_a75 (w.safeAr A_a75 (by decide)) (fun T h w W V => ?_)
      replace U_r74 := U_r74.wrC W A_a75 ne_r74_a75
      replace E0 := ext_wr E0 W z_a75
      replace A_a75 : Ar Z h a75 .char [(.int (122 : Int32)), (.int (111 : Int32)), (.int (111 : Int32)), (.int (107 : Int32)), (.int (101 : Int32)), (.int (101 : Int32)), (.int (0 : Int32)), (.int (0 : Int32)), (.int (0 : Int32)), (.int (0 : Int32)), (.int (0 : Int32)), (.int (0 : Int32)), (.int (0 : Int32)), (.int (0 : Int32)), (.int (0 : Int32))] := V
      refine g_aload w at_134 (q := 136) rfl rfl rfl ?_
      refine g_bipush w at_136 (q := 138) rfl (v := (6 : Int32)) (by decide) ?_
      refine g_bipush w at_138 (q := 140) rfl (v := (112 : Int32)) (by decide) ?_
      refine g_castore w at_140 (q := 141) rfl A_a75 (i := 6) (by decide) (Nat.le_of_ble_eq_true rfl) (x' := (112 : Int32)) (nar_chr (by constructor <;> decide)) n_a75 (w.safeAr A_a75 (by decide)) (fun T h w W V => ?_)
      replace U_r74 := U_r74.wrC W A_a75 ne_r74_a75
      replace E0 := ext_wr E0 W z_a75
      replace A_a75 : Ar Z h a75 .char [(.int (122 : Int32)), (.int (111 : Int32)), (.int (111 : Int32)), (.int (107 : Int32)), (.int (101 : Int32)), (.int (101 : Int32)), (.int (112 : Int32)), (.int (0 : Int32)), (.int (0 : Int32)), (.int (0 : Int32)), (.int (0 : Int32)), (.int (0 : Int32)), (.int (0 : Int32)), (.int (0 : Int32)), (.int (0 : Int32))] := V
      refine g_aload w at_141 (q := 143) rfl rfl rfl ?_
      refine g_bipush w at_143 (q := 145) rfl (v := (7 : Int32)) (by decide) ?_
      refine g_bipush w at_145 (q := 147) rfl (v := (101 : Int32)) (by decide) ?_
      refine g_castore w at_147 (q := 148) rfl A_a75 (i := 7) (by decide) (Nat.le_of_ble_eq_true rfl) (x' := (101 : Int32)) (nar_chr (by constructor <;> decide)) n_a75 (w.safeAr A_a75 (by decide)) (fun T h w W V => ?_)
      replace U_r74 := U_r74.wrC W A_a75 ne_r74_a75
      replace E0 := ext_wr E0 W z_a75
      replace A_a75 : Ar Z h a75 .char [(.int (122 : Int32)), (.int (111 : Int32)), (.int (111 : Int32)), (.int (107 : Int32)), (.int (101 : Int32)), (.int (101 : Int32)), (.int (112 : Int32)), (.int (101 : Int32)), (.int (0 : Int32)), (.int (0 : Int32)), (.int (0 : Int32)), (.int (0 : Int32)), (.int (0 : Int32)), (.int (0 : Int32)), (.int (0 : Int32))] := V
      refine g_aload w at_148 (q := 150) rfl rfl rfl ?_
      refine g_bipush w at_150 (q := 152) rfl (v := (8 : Int32)) (by decide) ?_
      refine g_bipush w at_152 (q := 154) rfl (v := (114 : Int32)) (by decide) ?_
      refine g_castore w at_154 (q := 155) rfl A_a75 (i := 8) (by decide) (Nat.le_of_ble_eq_true rfl) (x' := (114 : Int32)) (nar_chr (by constructor <;> decide)) n_a75 (w.safeAr A_a75 (by decide)) (fun T h w W V => ?_)
      replace U_r74 := U_r74.wrC W A_a75 ne_r74_a75
      replace E0 := ext_wr E0 W z_a75
      replace A_a75 : Ar Z h a75 .char [(.int (122 : Int32)), (.int (111 : Int32)), (.int (111 : Int32)), (.int (107 : Int32)), (.int (101 : Int32)), (.int (101 : Int32)), (.int (112 : Int32)), (.int (101 : Int32)), (.int (114 : Int32)), (.int (0 : Int32)), (.int (0 : Int32)), (.int (0 : Int32)), (.int (0 : Int32)), (.int (0 : Int32)), (.int (0 : Int32))] := V
      refine g_aload w at_155 (q := 157) rfl rfl rfl ?_
      refine g_bipush w at_157 (q := 159) rfl (v := (9 : Int32)) (by decide) ?_
      refine g_bipush w at_159 (q := 161) rfl (v := (58 : Int32)) (by decide) ?_
      refine g_castore w at_161 (q := 162) rfl A_a75 (i := 9) (by decide) (Nat.le_of_ble_eq_true rfl) (x' := (58 : Int32)) (nar_chr (by constructor <;> decide)) n_a75 (w.safeAr A_a75 (by decide)) (fun T h w W V => ?_)
      replace U_r74 := U_r74.wrC W A_a75 ne_r74_a75
      replace E0 := ext_wr E0 W z_a75
      replace A_a75 : Ar Z h a75 .char [(.int (122 : Int32)), (.int (111 : Int32)), (.int (111 : Int32)), (.int (107 : Int32)), (.int (101 : Int32)), (.int (101 : Int32)), (.int (112 : Int32)), (.int (101 : Int32)), (.int (114 : Int32)), (.int (58 : Int32)), (.int (0 : Int32)), (.int (0 : Int32)), (.int (0 : Int32)), (.int (0 : Int32)), (.int (0 : Int32))] := V
      refine g_aload w at_162 (q := 164) rfl rfl rfl ?_
      refine g_bipush w at_164 (q := 166) rfl (v := (10 : Int32)) (by decide) ?_
      refine g_bipush w at_166 (q := 168) rfl (v := (47 : Int32)) (by decide) ?_
      refine g_castore w at_168 (q := 169) rfl A_a75 (i := 10) (by decide) (Nat.le_of_ble_eq_true rfl) (x' := (47 : Int32)) (nar_chr (by constructor <;> decide)) n_a75 (w.safeAr A_a75 (by decide)) (fun T h w W V => ?_)
      replace U_r74 := U_r74.wrC W A_a75 ne_r74_a75
      replace E0 := ext_wr E0 W z_a75
      replace A_a75 : Ar Z h a75 .char [(.int (122 : Int32)), (.int (111 : Int32)), (.int (111 : Int32)), (.int (107 : Int32)), (.int (101 : Int32)), (.int (101 : Int32)), (.int (112 : Int32)), (.int (101 : Int32)), (.int (114 : Int32)), (.int (58 : Int32)), (.int (47 : Int32)), (.int (0 : Int32)), (.int (0 : Int32)), (.int (0 : Int32)), (.int (0 : Int32))] := V
      refine g_aload w at_169 (q := 171) rfl rfl rfl ?_
      refine g_bipush w at_171 (q := 173) rfl (v := (11 : Int32)) (by decide) ?_
      refine g_bipush w at_173 (q := 175) rfl (v := (47 : Int32)) (by decide) ?_
      refine g_castore w at_175 (q := 176) rfl A_a75 (i := 11) (by decide) (Nat.le_of_ble_eq_true rfl) (x' := (47 : Int32)) (nar_chr (by constructor <;> decide)) n_a75 (w.safeAr A_a75 (by decide)) (fun T h w W V => ?_)
      replace U_r74 := U_r74.wrC W A_a75 ne_r74_a75
      replace E0 := ext_wr E0 W z_a75
      replace A_a75 : Ar Z h a75 .char [(.int (122 : Int32)), (.int (111 : Int32)), (.int (111 : Int32)), (.int (107 : Int32)), (.int (101 : Int32)), (.int (101 : Int32)), (.int (112 : Int32)), (.int (101 : Int32)), (.int (114 : Int32)), (.int (58 : Int32)), (.int (47 : Int32)), (.int (47 : Int32)), (.int (0 : Int32)), (.int (0 : Int32)), (.int (0 : Int32))] := V
      refine g_iload w at_176 (q := 178) rfl rfl ?_
      refine g_ifN w at_178 (q := 181) rfl (by decide) ?_
      refine g_aload w at_181 (q := 183) rfl rfl rfl ?_
      refine g_bipush w at_183 (q := 185) rfl (v := (12 : Int32)) (by decide) ?_
      refine g_iload w at_185 (q := 187) rfl rfl ?_
      refine g_castore w at_187 (q := 188) rfl A_a75 (i := 12) (by decide) (Nat.le_of_ble_eq_true rfl) (x' := q0) (nar_chr l0) n_a75 (w.safeAr A_a75 (by decide)) (fun T h w W V => ?_)
      replace U_r74 := U_r74.wrC W A_a75 ne_r74_a75
      replace E0 := ext_wr E0 W z_a75
      replace A_a75 : Ar Z h a75 .char [(.int (122 : Int32)), (.int (111 : Int32)), (.int (111 : Int32)), (.int (107 : Int32)), (.int (101 : Int32)), (.int (101 : Int32)), (.int (112 : Int32)), (.int (101 : Int32)), (.int (114 : Int32)), (.int (58 : Int32)), (.int (47 : Int32)), (.int (47 : Int32)), (.int q0), (.int (0 : Int32)), (.int (0 : Int32))] := V
      refine g_iload w at_188 (q := 190) rfl rfl ?_
      refine g_iconst w at_190 (q := 191) rfl (v := (1 : Int32)) (by decide) ?_
      refine g_icN w at_191 (q := 194) rfl (by decide) ?_
      refine g_aload w at_194 (q := 196) rfl rfl rfl ?_
      refine g_bipush w at_196 (q := 198) rfl (v := (13 : Int32)) (by decide) ?_
      refine g_iload w at_198 (q := 200) rfl rfl ?_
      refine g_castore w at_200 (q := 201) rfl A_a75 (i := 13) (by decide) (Nat.le_of_ble_eq_true rfl) (x' := q1) (nar_chr l1) n_a75 (w.safeAr A_a75 (by decide)) (fun T h w W V => ?_)
      replace U_r74 := U_r74.wrC W A_a75 ne_r74_a75
      replace E0 := ext_wr E0 W z_a75
      replace A_a75 : Ar Z h a75 .char [(.int (122 : Int32)), (.int (111 : Int32)), (.int (111 : Int32)), (.int (107 : Int32)), (.int (101 : Int32)), (.int (101 : Int32)), (.int (112 : Int32)), (.int (101 : Int32)), (.int (114 : Int32)), (.int (58 : Int32)), (.int (47 : Int32)), (.int (47 : Int32)), (.int q0), (.int q1), (.int (0 : Int32))] := V
      refine g_bipush w at_201 (q := 203) rfl (v := (12 : Int32)) (by decide) ?_
      refine g_iload w at_203 (q := 205) rfl rfl ?_
      refine g_iadd w at_205 (q := 206) rfl ?_
      rw [show (12 : Int32) + (2 : Int32) = (14 : Int32) from by decide]
      show Go p e below _ (State.setTop T (mkF m 206 #[.val (.int j0), .val (.int j1), .val (.int j2), .val (.int j3), .val (.int j4), .val (.int (2 : Int32)), .val (.int (1 : Int32)), .val (.int q0), .val (.int q1), .val (.int q2), .val (.int q3), .val (.ref x71), .val (.ref x72), .val (.ref r74), .val (.ref a75), .unset] [(.int (14 : Int32))]))
      refine g_istore w at_206 (q := 208) rfl (Ls' := #[.val (.int j0), .val (.int j1), .val (.int j2), .val (.int j3), .val (.int j4), .val (.int (2 : Int32)), .val (.int (1 : Int32)), .val (.int q0), .val (.int q1), .val (.int q2), .val (.int q3), .val (.ref x71), .val (.ref x72), .val (.ref r74), .val (.ref a75), .val (.int (14 : Int32))]) rfl ?_
      refine g_iload w at_208 (q := 210) rfl rfl ?_
      refine g_ifN w at_210 (q := 213) rfl (by decide) ?_
      refine g_aload w at_213 (q := 215) rfl rfl rfl ?_
      refine g_iload w at_215 (q := 217) rfl rfl ?_
      refine g_iload w at_217 (q := 219) rfl rfl ?_
      refine g_castore w at_219 (q := 220) rfl A_a75 (i := 14) (by decide) (Nat.le_of_ble_eq_true rfl) (x' := q2) (nar_chr l2) n_a75 (w.safeAr A_a75 (by decide)) (fun T h w W V => ?_)
      replace U_r74 := U_r74.wrC W A_a75 ne_r74_a75
      replace E0 := ext_wr E0 W z_a75
      replace A_a75 : Ar Z h a75 .char [(.int (122 : Int32)), (.int (111 : Int32)), (.int (111 : Int32)), (.int (107 : Int32)), (.int (101 : Int32)), (.int (101 : Int32)), (.int (112 : Int32)), (.int (101 : Int32)), (.int (114 : Int32)), (.int (58 : Int32)), (.int (47 : Int32)), (.int (47 : Int32)), (.int q0), (.int q1), (.int q2)] := V
      refine g_iload w at_220 (q := 222) rfl rfl ?_
      refine g_iconst w at_222 (q := 223) rfl (v := (1 : Int32)) (by decide) ?_
      refine g_icY w at_223 (by decide) (q := 235) (by decide) (Jvm.Free.XT.ii_le_t Int32.lt_irrefl) ?_
      refine g_aload w at_235 (q := 237) rfl rfl rfl ?_
      refine g_new w at_237 (q := 240) rfl (hw _ (List.mem_of_getElem? (i := 6) rfl)) (hw _ (List.mem_of_getElem? (i := 7) rfl)) (hw _ (List.mem_of_getElem? (i := 8) rfl)) (by decide) (by decide) (fun T h a80 w E g_a80 n_a80 X_a80 D_a80 s_a80 => ?_)
      have z_a80 := Nat.le_trans E0.1 g_a80
      have ne_a75_a80 : a75 ≠ a80 := Nat.ne_of_lt (Nat.lt_of_lt_of_le A_a75.lt g_a80)
      have ne_r74_a80 : r74 ≠ a80 := Nat.ne_of_lt (Nat.lt_of_lt_of_le U_r74.lt g_a80)
      replace E0 := ext_trans E0 E
      replace A_a75 := A_a75.ext E
      replace U_r74 := U_r74.ext E
      have F_value_a80 := D_a80 (Or.inr (hw _ (List.mem_of_getElem? (i := 22) rfl))) (ty := (.array .byte)) (by decide)
      replace F_value_a80 : Fld Z h a80 "java/lang/String" "value" "[B" .null := F_value_a80
      have F_coder_a80 := D_a80 (Or.inr (hw _ (List.mem_of_getElem? (i := 23) rfl))) (ty := .byte) (by decide)
      replace F_coder_a80 : Fld Z h a80 "java/lang/String" "coder" "B" (.int (0 : Int32)) := F_coder_a80
      refine g_dup w at_240 (q := 241) rfl rfl ?_
      refine g_aload w at_241 (q := 243) rfl rfl rfl ?_
      refine g_special w (con_new1U l Z a0 hw a80 a75 [(122 : Int32), (111 : Int32), (111 : Int32), (107 : Int32), (101 : Int32), (101 : Int32), (112 : Int32), (101 : Int32), (114 : Int32), (58 : Int32), (47 : Int32), (47 : Int32), q0, q1, q2] _ w.old X_a80 F_value_a80 F_coder_a80 n_a80 A_a75 ne_a75_a80 (Nat.le_of_ble_eq_true rfl) (csS (by constructor <;> decide) (csS (by constructor <;> decide) (csS (by constructor <;> decide) (csS (by constructor <;> decide) (csS (by constructor <;> decide) (csS (by constructor <;> decide) (csS (by constructor <;> decide) (csS (by constructor <;> decide) (csS (by constructor <;> decide) (csS (by constructor <;> decide) (csS (by constructor <;> decide) (csS (by constructor <;> decide) (csS l0 (csS l1 (csS l2 cs0))))))))))))))) (Nat.le_of_ble_eq_true rfl) hcm SA_ SH_ SL_) no0 at_243 (q := 246) rfl rfl rfl (hw _ (List.mem_of_getElem? (i := 10) rfl)) (hw _ (List.mem_of_getElem? (i := 11) rfl)) (hw _ (List.mem_of_getElem? (i := 8) rfl)) (hw _ (List.mem_of_getElem? (i := 12) rfl)) (by decide) pd28 rfl rfl (W := 2) (Nat.le_of_eq rfl) (by decide) (by decide) (by decide) (by decide) (fun T h v w gs C q => ?_)
      obtain ⟨rfl, K, U_a80⟩ := q
      replace E0 := ext_keep E0 K z_a80
      have X0 := X_a80
      replace A_a75 := A_a75.keep K (not1 ne_a75_a80)
      replace U_r74 := U_r74.keepO K ne_r74_a80 X0 (hw _ (List.mem_of_getElem? (i := 7) rfl))
      replace X_a80 := X_a80.keep K
      show Go p e below _ (State.setTop T (mkF m 246 #[.val (.int j0), .val (.int j1), .val (.int j2), .val (.int j3), .val (.int j4), .val (.int (2 : Int32)), .val (.int (1 : Int32)), .val (.int q0), .val (.int q1), .val (.int q2), .val (.int q3), .val (.ref x71), .val (.ref x72), .val (.ref r74), .val (.ref a75), .val (.int (14 : Int32))] [(.ref a80), (.ref r74)]))
      refine g_virtualB w (a := r74) (argsL := [(.ref a80)]) (own_eqU hw U_r74 U_a80 (w.sta SC_) hz_ (by decide) (by decide)) U_r74.exa at_246 (q := 249) rfl rfl (hw _ (List.mem_of_getElem? (i := 171) rfl)) (hw _ (List.mem_of_getElem? (i := 172) rfl)) (hw _ (List.mem_of_getElem? (i := 174) rfl)) (hw _ (List.mem_of_getElem? (i := 173) rfl)) (by decide) (nf (hw _ (List.mem_of_getElem? (i := 174) rfl))) pd33 rfl rfl (W := 0) (Nat.le_of_eq rfl) (by decide) (by decide) (fun T v w hq => ?_)
      rcases hq with ⟨rfl, hq⟩ | ⟨rfl, hq⟩
      · show Go p e below _ (State.setTop T (mkF m 249 #[.val (.int j0), .val (.int j1), .val (.int j2), .val (.int j3), .val (.int j4), .val (.int (2 : Int32)), .val (.int (1 : Int32)), .val (.int q0), .val (.int q1), .val (.int q2), .val (.int q3), .val (.ref x71), .val (.ref x72), .val (.ref r74), .val (.ref a75), .val (.int (14 : Int32))] [(.int (1 : Int32))]))
        exact g_retn w at_249 rfl (by simp) rfl (by decide) (by decide) rfl
      · exact absurd rfl hq
    · rw [e6]
      show Go p e below _ (State.setTop T (mkF m 48 #[.val (.int j0), .val (.int j1), .val (.int j2), .val (.int j3), .val (.int j4), .val (.int (2 : Int32)), .val (.int (2 : Int32)), .val (.int q0), .val (.int q1), .val (.int q2), .val (.int q3), .unset, .unset, .unset, .unset, .unset] []))
      refine g_iload w at_48 (q := 50) rfl rfl ?_
      refine g_iload w at_50 (q := 52) rfl rfl ?_
      refine g_iload w at_52 (q := 54) rfl rfl ?_
      refine g_static w (con_mk l Z a0 hw fm (2 : Int32) q0 q1 _ w.old l0 l1 hcm SFm rfm SA_ SH_ SL_) no0 at_54 (q := 57) rfl rfl (hw _ (List.mem_of_getElem? (i := 2) rfl)) (hw _ (List.mem_of_getElem? (i := 3) rfl)) (hw _ (List.mem_of_getElem? (i := 4) rfl)) (hw _ (List.mem_of_getElem? (i := 5) rfl)) (by decide) pd31 rfl rfl (W := 0) (Nat.le_of_eq rfl) (by decide) (by decide) (by decide) (by decide) (fun T h v w gs C q => ?_)
      obtain ⟨x81, rfl, E, g_x81, U_x81⟩ := q
      replace U_x81 : Su Z h x81 [q0, q1] := by simpa [sg] using U_x81
      have z_x81 := Nat.le_trans E0.1 g_x81
      replace E0 := ext_trans E0 E
      show Go p e below _ (State.setTop T (mkF m 57 #[.val (.int j0), .val (.int j1), .val (.int j2), .val (.int j3), .val (.int j4), .val (.int (2 : Int32)), .val (.int (2 : Int32)), .val (.int q0), .val (.int q1), .val (.int q2), .val (.int q3), .unset, .unset, .unset, .unset, .unset] [(.ref x81)]))
      refine g_astore w at_57 (q := 59) rfl rfl (Ls' := #[.val (.int j0), .val (.int j1), .val (.int j2), .val (.int j3), .val (.int j4), .val (.int (2 : Int32)), .val (.int (2 : Int32)), .val (.int q0), .val (.int q1), .val (.int q2), .val (.int q3), .val (.ref x81), .unset, .unset, .unset, .unset]) rfl ?_
      refine g_iload w at_59 (q := 61) rfl rfl ?_
      refine g_iload w at_61 (q := 63) rfl rfl ?_
      refine g_iload w at_63 (q := 65) rfl rfl ?_
      refine g_static w (con_mk l Z a0 hw fm (2 : Int32) q2 q3 _ w.old l2 l3 hcm SFm rfm SA_ SH_ SL_) no0 at_65 (q := 68) rfl rfl (hw _ (List.mem_of_getElem? (i := 2) rfl)) (hw _ (List.mem_of_getElem? (i := 3) rfl)) (hw _ (List.mem_of_getElem? (i := 4) rfl)) (hw _ (List.mem_of_getElem? (i := 5) rfl)) (by decide) pd31 rfl rfl (W := 0) (Nat.le_of_eq rfl) (by decide) (by decide) (by decide) (by decide) (fun T h v w gs C q => ?_)
      obtain ⟨x82, rfl, E, g_x82, U_x82⟩ := q
      replace U_x82 : Su Z h x82 [q2, q3] := by simpa [sg] using U_x82
      have z_x82 := Nat.le_trans E0.1 g_x82
      have ne_x81_x82 : x81 ≠ x82 := Nat.ne_of_lt (Nat.lt_of_lt_of_le U_x81.lt g_x82)
      replace E0 := ext_trans E0 E
      replace U_x81 := U_x81.ext E
      show Go p e below _ (State.setTop T (mkF m 68 #[.val (.int j0), .val (.int j1), .val (.int j2), .val (.int j3), .val (.int j4), .val (.int (2 : Int32)), .val (.int (2 : Int32)), .val (.int q0), .val (.int q1), .val (.int q2), .val (.int q3), .val (.ref x81), .unset, .unset, .unset, .unset] [(.ref x82)]))
      refine g_astore w at_68 (q := 70) rfl rfl (Ls' := #[.val (.int j0), .val (.int j1), .val (.int j2), .val (.int j3), .val (.int j4), .val (.int (2 : Int32)), .val (.int (2 : Int32)), .val (.int q0), .val (.int q1), .val (.int q2), .val (.int q3), .val (.ref x81), .val (.ref x82), .unset, .unset, .unset]) rfl ?_
      refine g_new w at_70 (q := 73) rfl (hw _ (List.mem_of_getElem? (i := 28) rfl)) (hw _ (List.mem_of_getElem? (i := 29) rfl)) (hw _ (List.mem_of_getElem? (i := 30) rfl)) (by decide) (by decide) (fun T h a83 w E g_a83 n_a83 X_a83 D_a83 s_a83 => ?_)
      have z_a83 := Nat.le_trans E0.1 g_a83
      have ne_x81_a83 : x81 ≠ a83 := Nat.ne_of_lt (Nat.lt_of_lt_of_le U_x81.lt g_a83)
      have ne_x82_a83 : x82 ≠ a83 := Nat.ne_of_lt (Nat.lt_of_lt_of_le U_x82.lt g_a83)
      replace E0 := ext_trans E0 E
      replace U_x81 := U_x81.ext E
      replace U_x82 := U_x82.ext E
      have F_servers_a83 := D_a83 (Or.inr (hw _ (List.mem_of_getElem? (i := 41) rfl))) (ty := (.object "java/lang/String")) (by decide)
      replace F_servers_a83 : Fld Z h a83 "com/example/devizes/devizes/zookeeper/ZooKeeperAddress" "servers" "Ljava/lang/String;" .null := F_servers_a83
      have F_root_a83 := D_a83 (Or.inr (hw _ (List.mem_of_getElem? (i := 43) rfl))) (ty := (.object "java/lang/String")) (by decide)
      replace F_root_a83 : Fld Z h a83 "com/example/devizes/devizes/zookeeper/ZooKeeperAddress" "root" "Ljava/lang/String;" .null := F_root_a83
      refine g_dup w at_73 (q := 74) rfl rfl ?_
      refine g_aload w at_74 (q := 76) rfl rfl rfl ?_
      refine g_aload w at_76 (q := 78) rfl rfl rfl ?_
      refine g_special w (con_zai l Z a0 hw a83 x81 x82 _ w.old X_a83 F_servers_a83 F_root_a83 n_a83) no0 at_78 (q := 81) rfl rfl rfl (hw _ (List.mem_of_getElem? (i := 31) rfl)) (hw _ (List.mem_of_getElem? (i := 32) rfl)) (hw _ (List.mem_of_getElem? (i := 30) rfl)) (hw _ (List.mem_of_getElem? (i := 33) rfl)) (by decide) pd32 rfl rfl (W := 1) (Nat.le_of_eq rfl) (by decide) (by decide) (by decide) (by decide) (fun T h v w gs C q => ?_)
      obtain ⟨rfl, K, G_servers, G_root⟩ := q
      replace E0 := ext_keep E0 K z_a83
      have X0 := X_a83
      replace U_x81 := U_x81.keepO K ne_x81_a83 X0 (hw _ (List.mem_of_getElem? (i := 29) rfl))
      replace U_x82 := U_x82.keepO K ne_x82_a83 X0 (hw _ (List.mem_of_getElem? (i := 29) rfl))
      replace X_a83 := X_a83.keep K
      replace F_servers_a83 := G_servers
      replace F_root_a83 := G_root
      show Go p e below _ (State.setTop T (mkF m 81 #[.val (.int j0), .val (.int j1), .val (.int j2), .val (.int j3), .val (.int j4), .val (.int (2 : Int32)), .val (.int (2 : Int32)), .val (.int q0), .val (.int q1), .val (.int q2), .val (.int q3), .val (.ref x81), .val (.ref x82), .unset, .unset, .unset] [(.ref a83)]))
      refine g_virtual w (con_zts l Z a0 hw fm a83 x81 x82 [q0, q1] [q2, q3] _ w.old F_servers_a83 F_root_a83 U_x81 U_x82 (Nat.le_of_ble_eq_true rfl) (Nat.le_of_ble_eq_true rfl) hcm SFm rfm SA_ SH_ SL_) no0 X_a83 at_81 (q := 84) rfl rfl (hw _ (List.mem_of_getElem? (i := 44) rfl)) (hw _ (List.mem_of_getElem? (i := 45) rfl)) (hw _ (List.mem_of_getElem? (i := 47) rfl)) (hw _ (List.mem_of_getElem? (i := 46) rfl)) (hw _ (List.mem_of_getElem? (i := 30) rfl)) (hw _ (List.mem_of_getElem? (i := 48) rfl)) (by decide) (nf (hw _ (List.mem_of_getElem? (i := 47) rfl))) pd30 rfl rfl (W := 0) (Nat.le_of_eq rfl) (by decide) (by decide) (by decide) (by decide) (fun T h v w gs C q => ?_)
      obtain ⟨r84, rfl, E, g_r84, U_r84⟩ := q
      replace U_r84 : Su Z h r84 [(122 : Int32), (111 : Int32), (111 : Int32), (107 : Int32), (101 : Int32), (101 : Int32), (112 : Int32), (101 : Int32), (114 : Int32), (58 : Int32), (47 : Int32), (47 : Int32), q0, q1, q2, q3] := U_r84
      have z_r84 := Nat.le_trans E0.1 g_r84
      have ne_a83_r84 : a83 ≠ r84 := Nat.ne_of_lt (Nat.lt_of_lt_of_le X_a83.lt g_r84)
      have ne_x81_r84 : x81 ≠ r84 := Nat.ne_of_lt (Nat.lt_of_lt_of_le U_x81.lt g_r84)
      have ne_x82_r84 : x82 ≠ r84 := Nat.ne_of_lt (Nat.lt_of_lt_of_le U_x82.lt g_r84)
      replace E0 := ext_trans E0 E
      replace U_x81 := U_x81.ext E
      replace U_x82 := U_x82.ext E
      replace X_a83 := X_a83.ext E
      replace F_servers_a83 := F_servers_a83.ext E
      replace F_root_a83 := F_root_a83.ext E
      show Go p e below _ (State.setTop T (mkF m 84 #[.val (.int j0), .val (.int j1), .val (.int j2), .val (.int j3), .val (.int j4), .val (.int (2 : Int32)), .val (.int (2 : Int32)), .val (.int q0), .val (.int q1), .val (.int q2), .val (.int q3), .val (.ref x81), .val (.ref x82), .unset, .unset, .unset] [(.ref r84)]))
      refine g_astore w at_84 (q := 86) rfl rfl (Ls' := #[.val (.int j0), .val (.int j1), .val (.int j2), .val (.int j3), .val (.int j4), .val (.int (2 : Int32)), .val (.int (2 : Int32)), .val (.int q0), .val (.int q1), .val (.int q2), .val (.int q3), .val (.ref x81), .val (.ref x82), .val (.ref r84), .unset, .unset]) rfl ?_
      refine g_bipush w at_86 (q := 88) rfl (v := (12 : Int32)) (by decide) ?_
      refine g_iload w at_88 (q := 90) rfl rfl ?_
      refine g_iadd w at_90 (q := 91) rfl ?_
      rw [show (12 : Int32) + (2 : Int32) = (14 : Int32) from by decide]
      show Go p e below _ (State.setTop T (mkF m 91 #[.val (.int j0), .val (.int j1), .val (.int j2), .val (.int j3), .val (.int j4), .val (.int (2 : Int32)), .val (.int (2 : Int32)), .val (.int q0), .val (.int q1), .val (.int q2), .val (.int q3), .val (.ref x81), .val (.ref x82), .val (.ref r84), .unset, .unset] [(.int (14 : Int32))]))
      refine g_iload w at_91 (q := 93) rfl rfl ?_
      refine g_iadd w at_93 (q := 94) rfl ?_
      rw [show (14 : Int32) + (2 : Int32) = (16 : Int32) from by decide]
      show Go p e below _ (State.setTop T (mkF m 94 #[.val (.int j0), .val (.int j1), .val (.int j2), .val (.int j3), .val (.int j4), .val (.int (2 : Int32)), .val (.int (2 : Int32)), .val (.int q0), .val (.int q1), .val (.int q2), .val (.int q3), .val (.ref x81), .val (.ref x82), .val (.ref r84), .unset, .unset] [(.int (16 : Int32))]))
      refine g_newarr w at_94 (q := 96) rfl (hw _ (List.mem_of_getElem? (i := 9) rfl)) (len := 16) (cap := 16) (by decide) (by decide) (by decide) (by decide) (by decide) (fun T h a85 w E g_a85 n_a85 A_a85 s_a85 => ?_)
      have z_a85 := Nat.le_trans E0.1 g_a85
      have ne_r84_a85 : r84 ≠ a85 := Nat.ne_of_lt (Nat.lt_of_lt_of_le U_r84.lt g_a85)
      replace E0 := ext_trans E0 E
      replace U_r84 := U_r84.ext E
      replace A_a85 : Ar Z h a85 .char [(.int (0 : Int32)), (.int (0 : Int32)), (.int (0 : Int32)), (.int (0 : Int32)), (.int (0 : Int32)), (.int (0 : Int32)), (.int (0 : Int32)), (.int (0 : Int32)), (.int (0 : Int32)), (.int (0 : Int32)), (.int (0 : Int32)), (.int (0 : Int32)), (.int (0 : Int32)), (.int (0 : Int32)), (.int (0 : Int32)), (.int (0 : Int32))] := A_a85
      refine g_astore w at_96 (q := 98) rfl rfl (Ls' := #[.val (.int j0), .val (.int j1), .val (.int j2), .val (.int j3), .val (.int j4), .val (.int (2 : Int32)), .val (.int (2 : Int32)), .val (.int q0), .val (.int q1), .val (.int q2), .val (.int q3), .val (.ref x81), .val (.ref x82), .val (.ref r84), .val (.ref a85), .unset]) rfl ?_
      refine g_aload w at_98 (q := 100) rfl rfl rfl ?_
      refine g_iconst w at_100 (q := 101) rfl (v := (0 : Int32)) (by decide) ?_
      refine g_bipush w at_101 (q := 103) rfl (v := (122 : Int32)) (by decide) ?_
      refine g_castore w at_103 (q := 104) rfl A_a85 (i := 0) (by decide) (Nat.le_of_ble_eq_true rfl) (x' := (122 : Int32)) (nar_chr (by constructor <;> decide)) n_a85 (w.safeAr A_a85 (by decide)) (fun T h w W V => ?_)
      replace U_r84 := U_r84.wrC W A_a85 ne_r84_a85
      replace E0 := ext_wr E0 W z_a85
      replace A_a85 : Ar Z h a85 .char [(.int (122 : Int32)), (.int (0 : Int32)), (.int (0 : Int32)), (.int (0 : Int32)), (.int (0 : Int32)), (.int (0 : Int32)), (.int (0 : Int32)), (.int (0 : Int32)), (.int (0 : Int32)), (.int (0 : Int32)), (.int (0 : Int32)), (.int (0 : Int32)), (.int (0 : Int32)), (.int (0 : Int32)), (.int (0 : Int32)), (.int (0 : Int32))] := V
      refine g_aload w at_104 (q := 106) rfl rfl rfl ?_
      refine g_iconst w at_106 (q := 107) rfl (v := (1 : Int32)) (by decide) ?_
      refine g_bipush w at_107 (q := 109) rfl (v := (111 : Int32)) (by decide) ?_
      refine g_castore w at_109 (q := 110) rfl A_a85 (i := 1) (by decide) (Nat.le_of_ble_eq_true rfl) (x' := (111 : Int32)) (nar_chr (by constructor <;> decide)) n_a85 (w.safeAr A_a85 (by decide)) (fun T h w W V => ?_)
      replace U_r84 := U_r84.wrC W A_a85 ne_r84_a85
      replace E0 := ext_wr E0 W z_a85
      replace A_a85 : Ar Z h a85 .char [(.int (122 : Int32)), (.int (111 : Int32)), (.int (0 : Int32)), (.int (0 : Int32)), (.int (0 : Int32)), (.int (0 : Int32)), (.int (0 : Int32)), (.int (0 : Int32)), (.int (0 : Int32)), (.int (0 : Int32)), (.int (0 : Int32)), (.int (0 : Int32)), (.int (0 : Int32)), (.int (0 : Int32)), (.int (0 : Int32)), (.int (0 : Int32))] := V
      refine g_aload w at_110 (q := 112) rfl rfl rfl ?_
      refine g_iconst w at_112 (q := 113) rfl (v := (2 : Int32)) (by decide) ?_
      refine g_bipush w at_113 (q := 115) rfl (v := (111 : Int32)) (by decide) ?_
      refine g_castore w at_115 (q := 116) rfl A_a85 (i := 2) (by decide) (Nat.le_of_ble_eq_true rfl) (x' := (111 : Int32)) (nar_chr (by constructor <;> decide)) n_a85 (w.safeAr A_a85 (by decide)) (fun T h w W V => ?_)
      replace U_r84 := U_r84.wrC W A_a85 ne_r84_a85
      replace E0 := ext_wr E0 W z_a85
      replace A_a85 : Ar Z h a85 .char [(.int (122 : Int32)), (.int (111 : Int32)), (.int (111 : Int32)), (.int (0 : Int32)), (.int (0 : Int32)), (.int (0 : Int32)), (.int (0 : Int32)), (.int (0 : Int32)), (.int (0 : Int32)), (.int (0 : Int32)), (.int (0 : Int32)), (.int (0 : Int32)), (.int (0 : Int32)), (.int (0 : Int32)), (.int (0 : Int32)), (.int (0 : Int32))] := V
      refine g_aload w at_116 (q := 118) rfl rfl rfl ?_
      refine g_iconst w at_118 (q := 119) rfl (v := (3 : Int32)) (by decide) ?_
      refine g_bipush w at_119 (q := 121) rfl (v := (107 : Int32)) (by decide) ?_
      refine g_castore w at_121 (q := 122) rfl A_a85 (i := 3) (by decide) (Nat.le_of_ble_eq_true rfl) (x' := (107 : Int32)) (nar_chr (by constructor <;> decide)) n_a85 (w.safeAr A_a85 (by decide)) (fun T h w W V => ?_)
      replace U_r84 := U_r84.wrC W A_a85 ne_r84_a85
      replace E0 := ext_wr E0 W z_a85
      replace A_a85 : Ar Z h a85 .char [(.int (122 : Int32)), (.int (111 : Int32)), (.int (111 : Int32)), (.int (107 : Int32)), (.int (0 : Int32)), (.int (0 : Int32)), (.int (0 : Int32)), (.int (0 : Int32)), (.int (0 : Int32)), (.int (0 : Int32)), (.int (0 : Int32)), (.int (0 : Int32)), (.int (0 : Int32)), (.int (0 : Int32)), (.int (0 : Int32)), (.int (0 : Int32))] := V
      refine g_aload w at_122 (q := 124) rfl rfl rfl ?_
      refine g_iconst w at_124 (q := 125) rfl (v := (4 : Int32)) (by decide) ?_
      refine g_bipush w at_125 (q := 127) rfl (v := (101 : Int32)) (by decide) ?_
      refine g_castore w at_127 (q := 128) rfl A_a85 (i := 4) (by decide) (Nat.le_of_ble_eq_true rfl) (x' := (101 : Int32)) (nar_chr (by constructor <;> decide)) n_a85 (w.safeAr A_a85 (by decide)) (fun T h w W V => ?_)
      replace U_r84 := U_r84.wrC W A_a85 ne_r84_a85
      replace E0 := ext_wr E0 W z_a85
      replace A_a85 : Ar Z h a85 .char [(.int (122 : Int32)), (.int (111 : Int32)), (.int (111 : Int32)), (.int (107 : Int32)), (.int (101 : Int32)), (.int (0 : Int32)), (.int (0 : Int32)), (.int (0 : Int32)), (.int (0 : Int32)), (.int (0 : Int32)), (.int (0 : Int32)), (.int (0 : Int32)), (.int (0 : Int32)), (.int (0 : Int32)), (.int (0 : Int32)), (.int (0 : Int32))] := V
      refine g_aload w at_128 (q := 130) rfl rfl rfl ?_
      refine g_iconst w at_130 (q := 131) rfl (v := (5 : Int32)) (by decide) ?_
      refine g_bipush w at_131 (q := 133) rfl (v := (101 : Int32)) (by decide) ?_
      refine g_castore w at_133 (q := 134) rfl A_a85 (i := 5) (by decide) (Nat.le_of_ble_eq_true rfl) (x' := (101 : Int32)) (nar_chr (by constructor <;> decide)) n_a85 (w.safeAr A_a85 (by decide)) (fun T h w W V => ?_)
      replace U_r84 := U_r84.wrC W A_a85 ne_r84_a85
      replace E0 := ext_wr E0 W z_a85
      replace A_a85 : Ar Z h a85 .char [(.int (122 : Int32)), (.int (111 : Int32)), (.int (111 : Int32)), (.int (107 : Int32)), (.int (101 : Int32)), (.int (101 : Int32)), (.int (0 : Int32)), (.int (0 : Int32)), (.int (0 : Int32)), (.int (0 : Int32)), (.int (0 : Int32)), (.int (0 : Int32)), (.int (0 : Int32)), (.int (0 : Int32)), (.int (0 : Int32)), (.int (0 : Int32))] := V
      refine g_aload w at_134 (q := 136) rfl rfl rfl ?_
      refine g_bipush w at_136 (q := 138) rfl (v := (6 : Int32)) (by decide) ?_
      refine g_bipush w at_138 (q := 140) rfl (v := (112 : Int32)) (by decide) ?_
      refine g_castore w at_140 (q := 141) rfl A_a85 (i := 6) (by decide) (Nat.le_of_ble_eq_true rfl) (x' := (112 : Int32)) (nar_chr (by constructor <;> decide)) n_a85 (w.safeAr A_a85 (by decide)) (fun T h w W V => ?_)
      replace U_r84 := U_r84.wrC W A_a85 ne_r84_a85
      replace E0 := ext_wr E0 W z_a85
      replace A_a85 : Ar Z h a85 .char [(.int (122 : Int32)), (.int (111 : Int32)), (.int (111 : Int32)), (.int (107 : Int32)), (.int (101 : Int32)), (.int (101 : Int32)), (.int (112 : Int32)), (.int (0 : Int32)), (.int (0 : Int32)), (.int (0 : Int32)), (.int (0 : Int32)), (.int (0 : Int32)), (.int (0 : Int32)), (.int (0 : Int32)), (.int (0 : Int32)), (.int (0 : Int32))] := V
      refine g_aload w at_141 (q := 143) rfl rfl rfl ?_
      refine g_bipush w at_143 (q := 145) rfl (v := (7 : Int32)) (by decide) ?_
      refine g_bipush w at_145 (q := 147) rfl (v := (101 : Int32)) (by decide) ?_
      refine g_castore w at_147 (q := 148) rfl A_a85 (i := 7) (by decide) (Nat.le_of_ble_eq_true rfl) (x' := (101 : Int32)) (nar_chr (by constructor <;> decide)) n_a85 (w.safeAr A_a85 (by decide)) (fun T h w W V => ?_)
      replace U_r84 := U_r84.wrC W A_a85 ne_r84_a85
      replace E0 := ext_wr E0 W z_a85
      replace A_a85 : Ar Z h a85 .char [(.int (122 : Int32)), (.int (111 : Int32)), (.int (111 : Int32)), (.int (107 : Int32)), (.int (101 : Int32)), (.int (101 : Int32)), (.int (112 : Int32)), (.int (101 : Int32)), (.int (0 : Int32)), (.int (0 : Int32)), (.int (0 : Int32)), (.int (0 : Int32)), (.int (0 : Int32)), (.int (0 : Int32)), (.int (0 : Int32)), (.int (0 : Int32))] := V
      refine g_aload w at_148 (q := 150) rfl rfl rfl ?_
      refine g_bipush w at_150 (q := 152) rfl (v := (8 : Int32)) (by decide) ?_
      refine g_bipush w at_152 (q := 154) rfl (v := (114 : Int32)) (by decide) ?_
      refine g_castore w at_154 (q := 155) rfl A_a85 (i := 8) (by decide) (Nat.le_of_ble_eq_true rfl) (x' := (114 : Int32)) (nar_chr (by constructor <;> decide)) n_a85 (w.safeAr A_a85 (by decide)) (fun T h w W V => ?_)
      replace U_r84 := U_r84.wrC W A_a85 ne_r84_a85
      replace E0 := ext_wr E0 W z_a85
      replace A_a85 : Ar Z h a85 .char [(.int (122 : Int32)), (.int (111 : Int32)), (.int (111 : Int32)), (.int (107 : Int32)), (.int (101 : Int32)), (.int (101 : Int32)), (.int (112 : Int32)), (.int (101 : Int32)), (.int (114 : Int32)), (.int (0 : Int32)), (.int (0 : Int32)), (.int (0 : Int32)), (.int (0 : Int32)), (.int (0 : Int32)), (.int (0 : Int32)), (.int (0 : Int32))] := V
      refine g_aload w at_155 (q := 157) rfl rfl rfl ?_
      refine g_bipush w at_157 (q := 159) rfl (v := (9 : Int32)) (by decide) ?_
      refine g_bipush w at_159 (q := 161) rfl (v := (58 : Int32)) (by decide) ?_
      refine g_castore w at_161 (q := 162) rfl A_a85 (i := 9) (by decide) (Nat.le_of_ble_eq_true rfl) (x' := (58 : Int32)) (nar_chr (by constructor <;> decide)) n_a85 (w.safeAr A_a85 (by decide)) (fun T h w W V => ?_)
      replace U_r84 := U_r84.wrC W A_a85 ne_r84_a85
      replace E0 := ext_wr E0 W z_a85
      replace A_a85 : Ar Z h a85 .char [(.int (122 : Int32)), (.int (111 : Int32)), (.int (111 : Int32)), (.int (107 : Int32)), (.int (101 : Int32)), (.int (101 : Int32)), (.int (112 : Int32)), (.int (101 : Int32)), (.int (114 : Int32)), (.int (58 : Int32)), (.int (0 : Int32)), (.int (0 : Int32)), (.int (0 : Int32)), (.int (0 : Int32)), (.int (0 : Int32)), (.int (0 : Int32))] := V
      refine g_aload w at_162 (q := 164) rfl rfl rfl ?_
      refine g_bipush w at_164 (q := 166) rfl (v := (10 : Int32)) (by decide) ?_
      refine g_bipush w at_166 (q := 168) rfl (v := (47 : Int32)) (by decide) ?_
      refine g_castore w at_168 (q := 169) rfl A_a85 (i := 10) (by decide) (Nat.le_of_ble_eq_true rfl) (x' := (47 : Int32)) (nar_chr (by constructor <;> decide)) n_a85 (w.safeAr A_a85 (by decide)) (fun T h w W V => ?_)
      replace U_r84 := U_r84.wrC W A_a85 ne_r84_a85
      replace E0 := ext_wr E0 W z_a85
      replace A_a85 : Ar Z h a85 .char [(.int (122 : Int32)), (.int (111 : Int32)), (.int (111 : Int32)), (.int (107 : Int32)), (.int (101 : Int32)), (.int (101 : Int32)), (.int (112 : Int32)), (.int (101 : Int32)), (.int (114 : Int32)), (.int (58 : Int32)), (.int (47 : Int32)), (.int (0 : Int32)), (.int (0 : Int32)), (.int (0 : Int32)), (.int (0 : Int32)), (.int (0 : Int32))] := V
      refine g_aload w at_169 (q := 171) rfl rfl rfl ?_
      refine g_bipush w at_171 (q := 173) rfl (v := (11 : Int32)) (by decide) ?_
      refine g_bipush w at_173 (q := 175) rfl (v := (47 : Int32)) (by decide) ?_
      refine g_castore w at_175 (q := 176) rfl A_a85 (i := 11) (by decide) (Nat.le_of_ble_eq_true rfl) (x' := (47 : Int32)) (nar_chr (by constructor <;> decide)) n_a85 (w.safeAr A_a85 (by decide)) (fun T h w W V => ?_)
      replace U_r84 := U_r84.wrC W A_a85 ne_r84_a85
      replace E0 := ext_wr E0 W z_a85
      replace A_a85 : Ar Z h a85 .char [(.int (122 : Int32)), (.int (111 : Int32)), (.int (111 : Int32)), (.int (107 : Int32)), (.int (101 : Int32)), (.int (101 : Int32)), (.int (112 : Int32)), (.int (101 : Int32)), (.int (114 : Int32)), (.int (58 : Int32)), (.int (47 : Int32)), (.int (47 : Int32)), (.int (0 : Int32)), (.int (0 : Int32)), (.int (0 : Int32)), (.int (0 : Int32))] := V
      refine g_iload w at_176 (q := 178) rfl rfl ?_
      refine g_ifN w at_178 (q := 181) rfl (by decide) ?_
      refine g_aload w at_181 (q := 183) rfl rfl rfl ?_
      refine g_bipush w at_183 (q := 185) rfl (v := (12 : Int32)) (by decide) ?_
      refine g_iload w at_185 (q := 187) rfl rfl ?_
      refine g_castore w at_187 (q := 188) rfl A_a85 (i := 12) (by decide) (Nat.le_of_ble_eq_true rfl) (x' := q0) (nar_chr l0) n_a85 (w.safeAr A_a85 (by decide)) (fun T h w W V => ?_)
      replace U_r84 := U_r84.wrC W A_a85 ne_r84_a85
      replace E0 := ext_wr E0 W z_a85
      replace A_a85 : Ar Z h a85 .char [(.int (122 : Int32)), (.int (111 : Int32)), (.int (111 : Int32)), (.int (107 : Int32)), (.int (101 : Int32)), (.int (101 : Int32)), (.int (112 : Int32)), (.int (101 : Int32)), (.int (114 : Int32)), (.int (58 : Int32)), (.int (47 : Int32)), (.int (47 : Int32)), (.int q0), (.int (0 : Int32)), (.int (0 : Int32)), (.int (0 : Int32))] := V
      refine g_iload w at_188 (q := 190) rfl rfl ?_
      refine g_iconst w at_190 (q := 191) rfl (v := (1 : Int32)) (by decide) ?_
      refine g_icN w at_191 (q := 194) rfl (by decide) ?_
      refine g_aload w at_194 (q := 196) rfl rfl rfl ?_
      refine g_bipush w at_196 (q := 198) rfl (v := (13 : Int32)) (by decide) ?_
      refine g_iload w at_198 (q := 200) rfl rfl ?_
      refine g_castore w at_200 (q := 201) rfl A_a85 (i := 13) (by decide) (Nat.le_of_ble_eq_true rfl) (x' := q1) (nar_chr l1) n_a85 (w.safeAr A_a85 (by decide)) (fun T h w W V => ?_)
      replace U_r84 := U_r84.wrC W A_a85 ne_r84_a85
      replace E0 := ext_wr E0 W z_a85
      replace A_a85 : Ar Z h a85 .char [(.int (122 : Int32)), (.int (111 : Int32)), (.int (111 : Int32)), (.int (107 : Int32)), (.int (101 : Int32)), (.int (101 : Int32)), (.int (112 : Int32)), (.int (101 : Int32)), (.int (114 : Int32)), (.int (58 : Int32)), (.int (47 : Int32)), (.int (47 : Int32)), (.int q0), (.int q1), (.int (0 : Int32)), (.int (0 : Int32))] := V
      refine g_bipush w at_201 (q := 203) rfl (v := (12 : Int32)) (by decide) ?_
      refine g_iload w at_203 (q := 205) rfl rfl ?_
      refine g_iadd w at_205 (q := 206) rfl ?_
      rw [show (12 : Int32) + (2 : Int32) = (14 : Int32) from by decide]
      show Go p e below _ (State.setTop T (mkF m 206 #[.val (.int j0), .val (.int j1), .val (.int j2), .val (.int j3), .val (.int j4), .val (.int (2 : Int32)), .val (.int (2 : Int32)), .val (.int q0), .val (.int q1), .val (.int q2), .val (.int q3), .val (.ref x81), .val (.ref x82), .val (.ref r84), .val (.ref a85), .unset] [(.int (14 : Int32))]))
      refine g_istore w at_206 (q := 208) rfl (Ls' := #[.val (.int j0), .val (.int j1), .val (.int j2), .val (.int j3), .val (.int j4), .val (.int (2 : Int32)), .val (.int (2 : Int32)), .val (.int q0), .val (.int q1), .val (.int q2), .val (.int q3), .val (.ref x81), .val (.ref x82), .val (.ref r84), .val (.ref a85), .val (.int (14 : Int32))]) rfl ?_
      refine g_iload w at_208 (q := 210) rfl rfl ?_
      refine g_ifN w at_210 (q := 213) rfl (by decide) ?_
      refine g_aload w at_213 (q := 215) rfl rfl rfl ?_
      refine g_iload w at_215 (q := 217) rfl rfl ?_
      refine g_iload w at_217 (q := 219) rfl rfl ?_
      refine g_castore w at_219 (q := 220) rfl A_a85 (i := 14) (by decide) (Nat.le_of_ble_eq_true rfl) (x' := q2) (nar_chr l2) n_a85 (w.safeAr A_a85 (by decide)) (fun T h w W V => ?_)
      replace U_r84 := U_r84.wrC W A_a85 ne_r84_a85
      replace E0 := ext_wr E0 W z_a85
      replace A_a85 : Ar Z h a85 .char [(.int (122 : Int32)), (.int (111 : Int32)), (.int (111 : Int32)), (.int (107 : Int32)), (.int (101 : Int32)), (.int (101 : Int32)), (.int (112 : Int32)), (.int (101 : Int32)), (.int (114 : Int32)), (.int (58 : Int32)), (.int (47 : Int32)), (.int (47 : Int32)), (.int q0), (.int q1), (.int q2), (.int (0 : Int32))] := V
      refine g_iload w at_220 (q := 222) rfl rfl ?_
      refine g_iconst w at_222 (q := 223) rfl (v := (1 : Int32)) (by decide) ?_
      refine g_icN w at_223 (q := 226) rfl (by decide) ?_
      refine g_aload w at_226 (q := 228) rfl rfl rfl ?_
      refine g_iload w at_228 (q := 230) rfl rfl ?_
      refine g_iconst w at_230 (q := 231) rfl (v := (1 : Int32)) (by decide) ?_
      refine g_iadd w at_231 (q := 232) rfl ?_
      rw [show (14 : Int32) + (1 : Int32) = (15 : Int32) from by decide]
      show Go p e below _ (State.setTop T (mkF m 232 #[.val (.int j0), .val (.int j1), .val (.int j2), .val (.int j3), .val (.int j4), .val (.int (2 : Int32)), .val (.int (2 : Int32)), .val (.int q0), .val (.int q1), .val (.int q2), .val (.int q3), .val (.ref x81), .val (.ref x82), .val (.ref r84), .val (.ref a85), .val (.int (14 : Int32))] [(.int (15 : Int32)), (.ref a85)]))
      refine g_iload w at_232 (q := 234) rfl rfl ?_
      refine g_castore w at_234 (q := 235) rfl A_a85 (i := 15) (by decide) (Nat.le_of_ble_eq_true rfl) (x' := q3) (nar_chr l3) n_a85 (w.safeAr A_a85 (by decide)) (fun T h w W V => ?_)
      replace U_r84 := U_r84.wrC W A_a85 ne_r84_a85
      replace E0 := ext_wr E0 W z_a85
      replace A_a85 : Ar Z h a85 .char [(.int (122 : Int32)), (.int (111 : Int32)), (.int (111 : Int32)), (.int (107 : Int32)), (.int (101 : Int32)), (.int (101 : Int32)), (.int (112 : Int32)), (.int (101 : Int32)), (.int (114 : Int32)), (.int (58 : Int32)), (.int (47 : Int32)), (.int (47 : Int32)), (.int q0), (.int q1), (.int q2), (.int q3)] := V
      refine g_aload w at_235 (q := 237) rfl rfl rfl ?_
      refine g_new w at_237 (q := 240) rfl (hw _ (List.mem_of_getElem? (i := 6) rfl)) (hw _ (List.mem_of_getElem? (i := 7) rfl)) (hw _ (List.mem_of_getElem? (i := 8) rfl)) (by decide) (by decide) (fun T h a90 w E g_a90 n_a90 X_a90 D_a90 s_a90 => ?_)
      have z_a90 := Nat.le_trans E0.1 g_a90
      have ne_a85_a90 : a85 ≠ a90 := Nat.ne_of_lt (Nat.lt_of_lt_of_le A_a85.lt g_a90)
      have ne_r84_a90 : r84 ≠ a90 := Nat.ne_of_lt (Nat.lt_of_lt_of_le U_r84.lt g_a90)
      replace E0 := ext_trans E0 E
      replace A_a85 := A_a85.ext E
      replace U_r84 := U_r84.ext E
      have F_value_a90 := D_a90 (Or.inr (hw _ (List.mem_of_getElem? (i := 22) rfl))) (ty := (.array .byte)) (by decide)
      replace F_value_a90 : Fld Z h a90 "java/lang/String" "value" "[B" .null := F_value_a90
      have F_coder_a90 := D_a90 (Or.inr (hw _ (List.mem_of_getElem? (i := 23) rfl))) (ty := .byte) (by decide)
      replace F_coder_a90 : Fld Z h a90 "java/lang/String" "coder" "B" (.int (0 : Int32)) := F_coder_a90
      refine g_dup w at_240 (q := 241) rfl rfl ?_
      refine g_aload w at_241 (q := 243) rfl rfl rfl ?_
      refine g_special w (con_new1U l Z a0 hw a90 a85 [(122 : Int32), (111 : Int32), (111 : Int32), (107 : Int32), (101 : Int32), (101 : Int32), (112 : Int32), (101 : Int32), (114 : Int32), (58 : Int32), (47 : Int32), (47 : Int32), q0, q1, q2, q3] _ w.old X_a90 F_value_a90 F_coder_a90 n_a90 A_a85 ne_a85_a90 (Nat.le_of_ble_eq_true rfl) (csS (by constructor <;> decide) (csS (by constructor <;> decide) (csS (by constructor <;> decide) (csS (by constructor <;> decide) (csS (by constructor <;> decide) (csS (by constructor <;> decide) (csS (by constructor <;> decide) (csS (by constructor <;> decide) (csS (by constructor <;> decide) (csS (by constructor <;> decide) (csS (by constructor <;> decide) (csS (by constructor <;> decide) (csS l0 (csS l1 (csS l2 (csS l3 cs0)))))))))))))))) (Nat.le_of_ble_eq_true rfl) hcm SA_ SH_ SL_) no0 at_243 (q := 246) rfl rfl rfl (hw _ (List.mem_of_getElem? (i := 10) rfl)) (hw _ (List.mem_of_getElem? (i := 11) rfl)) (hw _ (List.mem_of_getElem? (i := 8) rfl)) (hw _ (List.mem_of_getElem? (i := 12) rfl)) (by decide) pd28 rfl rfl (W := 2) (Nat.le_of_eq rfl) (by decide) (by decide) (by decide) (by decide) (fun T h v w gs C q => ?_)
      obtain ⟨rfl, K, U_a90⟩ := q
      replace E0 := ext_keep E0 K z_a90
      have X0 := X_a90
      replace A_a85 := A_a85.keep K (not1 ne_a85_a90)
      replace U_r84 := U_r84.keepO K ne_r84_a90 X0 (hw _ (List.mem_of_getElem? (i := 7) rfl))
      replace X_a90 := X_a90.keep K
      show Go p e below _ (State.setTop T (mkF m 246 #[.val (.int j0), .val (.int j1), .val (.int j2), .val (.int j3), .val (.int j4), .val (.int (2 : Int32)), .val (.int (2 : Int32)), .val (.int q0), .val (.int q1), .val (.int q2), .val (.int q3), .val (.ref x81), .val (.ref x82), .val (.ref r84), .val (.ref a85), .val (.int (14 : Int32))] [(.ref a90), (.ref r84)]))
      refine g_virtualB w (a := r84) (argsL := [(.ref a90)]) (own_eqU hw U_r84 U_a90 (w.sta SC_) hz_ (by decide) (by decide)) U_r84.exa at_246 (q := 249) rfl rfl (hw _ (List.mem_of_getElem? (i := 171) rfl)) (hw _ (List.mem_of_getElem? (i := 172) rfl)) (hw _ (List.mem_of_getElem? (i := 174) rfl)) (hw _ (List.mem_of_getElem? (i := 173) rfl)) (by decide) (nf (hw _ (List.mem_of_getElem? (i := 174) rfl))) pd33 rfl rfl (W := 0) (Nat.le_of_eq rfl) (by decide) (by decide) (fun T v w hq => ?_)
      rcases hq with ⟨rfl, hq⟩ | ⟨rfl, hq⟩
      · show Go p e below _ (State.setTop T (mkF m 249 #[.val (.int j0), .val (.int j1), .val (.int j2), .val (.int j3), .val (.int j4), .val (.int (2 : Int32)), .val (.int (2 : Int32)), .val (.int q0), .val (.int q1), .val (.int q2), .val (.int q3), .val (.ref x81), .val (.ref x82), .val (.ref r84), .val (.ref a85), .val (.int (14 : Int32))] [(.int (1 : Int32))]))
        exact g_retn w at_249 rfl (by simp) rfl (by decide) (by decide) rfl
      · exact absurd rfl hq
set_option maxRecDepth 65536 in
set_option maxHeartbeats 40000000 in
theorem comes_1 {Post : Tables → Env → Array Value → State → Outcome → State → Prop} (hpost : ∀ tb e args s v u, (limb_1_1.after args s (.returned v) u = true ∧ limb_1_2.after args s (.returned v) u = true ∧ True) → ReturnedEndW s (.returned v) u (Jvm.fieldLocs frame_1_writes args s ++ Jvm.arrayLocs frame_1_arrays args s ++ Jvm.staticLocs frame_1_statics s) 48 2496 → Post tb e args s (.returned v) u) :
    ArmFor flags0 classFile x code maxLocals ret World_1 tables_1 room_1 Calls_1 rest_1 Pre_1 Post := by
  intro l hfl _ _ p e ha hc hk s m args below hf hA hF happ hP
  obtain ⟨hcalls, hrest, hpre⟩ := hP
  obtain ⟨-, -, -, hnamed, -, -, -, hat⟩ := (Spec.applies_iff hf).mp happ
  obtain ⟨hg, hn⟩ := and_e (Cond.before_iff.mp (show (Jvm.Cond.and given_1 narrow_1).before args s = true from hpre))
  obtain ⟨h1, hr0⟩ := and_e hg
  obtain ⟨w0, w1, w2, w3, w4, rfl⟩ : ∃ w0 w1 w2 w3 w4 : Value, args = #[w0, w1, w2, w3, w4] := by
    have hs : args.size = 5 := by simpa [Cond.value, given_1] using h1
    obtain ⟨L⟩ := args
    match L, hs with
    | [w0, w1, w2, w3, w4], _ => exact ⟨w0, w1, w2, w3, w4, rfl⟩
  obtain ⟨q0, hr1⟩ := and_e hr0
  obtain ⟨i0, ei0⟩ := is_v q0
  obtain rfl : w0 = (.int i0) := Option.some.inj ei0
  obtain ⟨q1, hr2⟩ := and_e hr1
  obtain ⟨i1, ei1⟩ := is_v q1
  obtain rfl : w1 = (.int i1) := Option.some.inj ei1
  obtain ⟨q2, hr3⟩ := and_e hr2
  obtain ⟨i2, ei2⟩ := is_v q2
  obtain rfl : w2 = (.int i2) := Option.some.inj ei2
  obtain ⟨q3, hr4⟩ := and_e hr3
  obtain ⟨i3, ei3⟩ := is_v q3
  obtain rfl : w3 = (.int i3) := Option.some.inj ei3
  obtain ⟨i4, ei4⟩ := is_v hr4
  obtain rfl : w4 = (.int i4) := Option.some.inj ei4
  have hw := fun d (hd : d ∈ tables_1) => atoms_spec (ws := Jvm.Cond.code x code maxLocals ret :: tables_1) hat d (List.mem_cons_of_mem _ hd)
  have hfit : Fit s := fun {y c} hc i hi => by
    obtain ⟨ha, rfl⟩ := Array.getElem?_eq_some_iff.mp hc
    have q := List.all_eq_true.mp ((Array.all_eq_true_iff_forall_mem.mp hF) _ (Array.getElem_mem ha)) i (List.mem_range.mpr hi)
    simpa [Array.getElem?_eq_getElem hi] using q
  obtain ⟨hsets, hown0⟩ := atoms_of _ (rest_1_c_eq ▸ (show rest_1_c.before _ s = true from hrest))
  have hcm : Cpt s := by
    obtain ⟨z, ez⟩ := is_v (Cond.before_iff.mp (hsets _ (List.mem_of_getElem? (i := 1) rfl)))
    refine ⟨z, ?_, Sta.start ez (Or.inl (hsets _ (List.mem_of_getElem? (i := 0) rfl)))⟩
    intro hz; subst hz
    have q := not_v (Cond.before_iff.mp (hsets _ (List.mem_of_getElem? (i := 2) rfl)))
    rw [eq_i ez (Term.int_eval (0)) rfl] at q; cases q
  obtain ⟨fm, efm, rfm⟩ := isR_v (Cond.before_iff.mp (hsets _ (List.mem_of_getElem? (i := 8) rfl)))
  have SFm := Sta.start efm (Or.inl (hsets _ (List.mem_of_getElem? (i := 7) rfl)))
  have SA_ := Sta.start (sta_eq (k := 1) (Cond.before_iff.mp (hsets _ (List.mem_of_getElem? (i := 12) rfl)))) (Or.inl (hsets _ (List.mem_of_getElem? (i := 11) rfl)))
  have SH_ := Sta.start (sta_eq (k := 0) (Cond.before_iff.mp (hsets _ (List.mem_of_getElem? (i := 15) rfl)))) (Or.inl (hsets _ (List.mem_of_getElem? (i := 14) rfl)))
  have SL_ := Sta.start (sta_eq (k := 8) (Cond.before_iff.mp (hsets _ (List.mem_of_getElem? (i := 18) rfl)))) (Or.inl (hsets _ (List.mem_of_getElem? (i := 17) rfl)))
  have hch : CHv s consts_1 s.vm s.heap := CHv.start (own_EL hw) (fun p hp => hcalls.1 p hp) (hsets _ (List.mem_of_getElem? (i := 2) rfl)) (hw _ (List.mem_of_getElem? (i := 21) rfl)) (hw _ (List.mem_of_getElem? (i := 7) rfl))
  obtain ⟨n, o, h1, h2, h3, _, L, rfl, rfl, O, N, C, W, hq⟩ := con_law l s _ hw fm i0 i1 i2 i3 i4 s.heap (ext_refl _) hcm SFm rfm SA_ SH_ SL_ p e ha hc hk s m _ below hf ((Spec.applies_iff_loose hf).mp happ).1 ⟨rfl, State.Warmed39.refl s, rfl, hch, no0⟩ trivial
  refine ⟨n, _, h1, h2, h3, hpost _ _ _ _ _ _ ⟨Cond.after_iff.mpr rfl, Cond.after_iff.mpr (eq_i res_at (Term.int_eval (1)) rfl), trivial⟩ ⟨hq.1, hq.2.1, hq.2.2.1, (hq.2.2.2.sift fun y hy => Or.inr (N y hy)).mono (by decide) (by decide)⟩⟩
theorem main_1_1 : Claimed_1_1 := comes_1 fun _ _ _ _ _ _ h hF => ⟨h.1, hF⟩
theorem main_1_2 : Claimed_1_2 := comes_1 fun _ _ _ _ _ _ h hF => ⟨h.2.1, hF⟩
end Jvm.Pilot.@@N@@
namespace Jvm.Pilot.@@N@@
open Jvm Jvm.ClassFile Sem Op Lib Jvm.Free Jvm.Stand Jvm.Pilot.@@N@@.Jvm.D
/-! MADE BY PROGRAM (witnessworld.py) out of the Statement's table words and the real class files: 27 classes; the members and pool entries that the words name. The judged class is class 1, her method 2. -/
namespace start1
open Jvm.ClassFile
def u (s : String) : CpInfo := .utf8 (stringToUtf16 s)
/-- a pool by its gaps: so many unusable entries, then the entry; so many at the end -/
def gap : Nat → List CpInfo → List CpInfo
  | 0, r => r
  | n + 1, r => .unusable :: gap n r
def poolList (es : List (Nat × CpInfo)) (last : Nat) : List CpInfo := es.foldr (fun e r => gap e.1 (e.2 :: r)) (gap last [])
def pool (es : List (Nat × CpInfo)) (last : Nat) : Array CpInfo := ⟨poolList es last⟩
def fileOf (pool : Array CpInfo) (this : Nat) (attrs : Array Attribute := #[]) (ms : Array MethodInfo := #[]) (fl : Nat := 33) (sup : Nat := 0) (ifs : Array Nat := #[]) (fds : Array FieldInfo := #[]) : ClassFile where
  minorVersion := 0
  majorVersion := 65
  constantPool := pool
  accessFlags := fl
  thisClass := this
  superClass := sup
  interfaces := ifs
  fields := fds
  methods := ms
  attributes := attrs
def plain (name : String) (sup : Option ClassId) : Class where
  name := name
  kind := .ordinary
  loader := none
  accessFlags := 33
  super := sup
  interfaces := #[]
  cf := none
  fields := #[]
  methods := #[]
  instanceTypes := #[]
  staticTypes := #[]
  resolved := #[]
  callSites := []
  init := .initialized
  statics := none
  mirror := none

def pool0 : Array CpInfo := pool [(5, u "<init>"), (0, u "()V"), (1, .class_ 10), (1, u "java/lang/Object"), (85, u "clone"), (0, u "()Ljava/lang/Object;")] 26

def k0c0 : Code := { maxStack := 0, maxLocals := 1, code := object_method_1_code, exceptionTable := #[], attributes := #[] }
def k0m0 : Method := { name := "<init>", desc := "()V", sig := { parameters := [], returnType := none }, accessFlags := 1, code := some k0c0 }
def k0m1 : Method := { name := "clone", desc := "()Ljava/lang/Object;", sig := { parameters := [], returnType := some (.object "java/lang/Object") }, accessFlags := 260, code := none }
/-- java/lang/Object -/
def k0 : Class := { plain "java/lang/Object" none with
  accessFlags := 33
  interfaces := #[]
  cf := some (fileOf pool0 8 #[] #[{ accessFlags := 1, nameIndex := 5, descriptorIndex := 6, attributes := #[] }, { accessFlags := 260, nameIndex := 96, descriptorIndex := 97, attributes := #[] }] 33 0 #[] #[])
  fields := #[]
  methods := #[k0m0, k0m1]
  instanceTypes := #[]
  staticTypes := #[]
  resolved := Array.replicate 124 none
  statics := none }

def pool1 : Array CpInfo := pool [(2, .class_ 4), (1, u "java/lang/Object"), (0, u "<init>"), (0, u "()V"), (0, .class_ 8), (0, u "java/lang/String"), (0, .methodref 7 10), (0, .nameAndType 5 11), (0, u "([C)V"), (0, .integer 2147483647), (0, .integer 65535), (0, .methodref 15 16), (0, .class_ 17), (0, .nameAndType 18 19), (0, u "com/example/devizes/devizes/zookeeper/ZooKeeperAddressToStringPinLaw"), (0, u "mk"), (0, u "(ICC)Ljava/lang/String;"), (0, .class_ 21), (0, u "com/example/devizes/devizes/zookeeper/ZooKeeperAddress"), (0, .methodref 20 23), (0, .nameAndType 5 24), (0, u "(Ljava/lang/String;Ljava/lang/String;)V"), (0, .methodref 20 26), (0, .nameAndType 27 28), (0, u "toString"), (0, u "()Ljava/lang/String;"), (0, .methodref 7 30), (0, .nameAndType 31 32), (0, u "equals"), (0, u "(Ljava/lang/Object;)Z"), (3, u "law"), (0, u "(IIIII)Z")] 4

def k1m0 : Method := { name := "<init>", desc := "()V", sig := { parameters := [], returnType := none }, accessFlags := 1, code := none }
def k1c1 : Code := { maxStack := 6, maxLocals := 3, code := method_2_code, exceptionTable := #[], attributes := #[] }
def k1m1 : Method := { name := "mk", desc := "(ICC)Ljava/lang/String;", sig := { parameters := [.int, .char, .char], returnType := some (.object "java/lang/String") }, accessFlags := 10, code := some k1c1 }
def k1c2 : Code := { maxStack := 4, maxLocals := 16, code := code, exceptionTable := #[], attributes := #[] }
def k1m2 : Method := { name := "law", desc := "(IIIII)Z", sig := { parameters := [.int, .int, .int, .int, .int], returnType := some .boolean }, accessFlags := 9, code := some k1c2 }
/-- com/example/devizes/devizes/zookeeper/ZooKeeperAddressToStringPinLaw -/
def k1 : Class := { plain "com/example/devizes/devizes/zookeeper/ZooKeeperAddressToStringPinLaw" (some 0) with
  accessFlags := 49
  interfaces := #[]
  cf := some (fileOf pool1 15 #[] #[{ accessFlags := 1, nameIndex := 5, descriptorIndex := 6, attributes := #[] }, { accessFlags := 10, nameIndex := 18, descriptorIndex := 19, attributes := #[] }, { accessFlags := 9, nameIndex := 36, descriptorIndex := 37, attributes := #[] }] 49 2 #[] #[])
  fields := #[]
  methods := #[k1m0, k1m1, k1m2]
  instanceTypes := #[]
  staticTypes := #[]
  resolved := Array.replicate 42 none
  statics := none }

def pool2 : Array CpInfo := pool [(1, .class_ 2), (0, u "java/io/Serializable"), (0, .class_ 4), (0, u "java/lang/Object")] 2

/-- java/io/Serializable -/
def k2 : Class := { plain "java/io/Serializable" (some 0) with
  accessFlags := 1537
  interfaces := #[]
  cf := some (fileOf pool2 1 #[] #[] 1537 3 #[] #[])
  fields := #[]
  methods := #[]
  instanceTypes := #[]
  staticTypes := #[]
  resolved := Array.replicate 7 none
  statics := none }

def pool3 : Array CpInfo := pool [(1, .class_ 2), (0, u "java/lang/Comparable"), (0, .class_ 4), (0, u "java/lang/Object")] 7

/-- java/lang/Comparable -/
def k3 : Class := { plain "java/lang/Comparable" (some 0) with
  accessFlags := 1537
  interfaces := #[]
  cf := some (fileOf pool3 1 #[] #[] 1537 3 #[] #[])
  fields := #[]
  methods := #[]
  instanceTypes := #[]
  staticTypes := #[]
  resolved := Array.replicate 12 none
  statics := none }

def pool4 : Array CpInfo := pool [(2, .class_ 4), (1, u "java/lang/CharSequence"), (42, .class_ 48), (0, u "java/lang/CharSequence$1CodePointIterator"), (10, .class_ 60), (0, u "java/lang/CharSequence$1CharIterator"), (5, .class_ 67), (0, u "java/lang/Object")] 63

/-- java/lang/CharSequence -/
def k4 : Class := { plain "java/lang/CharSequence" (some 0) with
  accessFlags := 1537
  interfaces := #[]
  cf := some (fileOf pool4 2 #[.nestMembers #[47, 59]] #[] 1537 66 #[] #[])
  fields := #[]
  methods := #[]
  instanceTypes := #[]
  staticTypes := #[]
  resolved := Array.replicate 131 none
  statics := none }

def pool5 : Array CpInfo := pool [(1, .class_ 2), (0, u "java/lang/constant/Constable"), (0, .class_ 4), (0, u "java/lang/Object")] 6

/-- java/lang/constant/Constable -/
def k5 : Class := { plain "java/lang/constant/Constable" (some 0) with
  accessFlags := 1537
  interfaces := #[]
  cf := some (fileOf pool5 1 #[] #[] 1537 3 #[] #[])
  fields := #[]
  methods := #[]
  instanceTypes := #[]
  staticTypes := #[]
  resolved := Array.replicate 11 none
  statics := none }

def pool6 : Array CpInfo := pool [(1, .class_ 2), (0, u "java/lang/constant/ConstantDesc"), (0, .class_ 4), (0, u "java/lang/Object")] 32

/-- java/lang/constant/ConstantDesc -/
def k6 : Class := { plain "java/lang/constant/ConstantDesc" (some 0) with
  accessFlags := 1537
  interfaces := #[]
  cf := some (fileOf pool6 1 #[] #[] 1537 3 #[] #[])
  fields := #[]
  methods := #[]
  instanceTypes := #[]
  staticTypes := #[]
  resolved := Array.replicate 37 none
  statics := none }

def pool7 : Array CpInfo := pool [(1, .methodref 2 3), (0, .class_ 4), (0, .nameAndType 5 6), (0, u "java/lang/Object"), (0, u "<init>"), (0, u "()V"), (0, .string 8), (0, u ""), (0, .fieldref 10 11), (0, .class_ 12), (0, .nameAndType 13 14), (0, u "java/lang/String"), (0, u "value"), (0, u "[B"), (0, .fieldref 10 16), (0, .nameAndType 17 18), (0, u "coder"), (0, u "B"), (2, u "hash"), (0, u "I"), (2, u "hashIsZero"), (0, u "Z"), (0, .methodref 10 28), (0, .nameAndType 5 29), (0, u "([CIILjava/lang/Void;)V"), (6, u "checkBoundsOffCount"), (0, u "(III)I"), (0, .fieldref 10 39), (0, .nameAndType 40 26), (0, u "COMPACT_STRINGS"), (1, .class_ 44), (1, u "java/lang/StringUTF16"), (0, u "compress"), (1, .methodref 42 48), (0, .nameAndType 49 50), (0, u "coderFromArrayLen"), (0, u "([BI)B"), (3, .methodref 55 56), (0, .class_ 57), (0, .nameAndType 58 59), (0, u "java/util/Arrays"), (0, u "copyOfRange"), (0, u "([BII)[B"), (46, .methodref 107 108), (0, .class_ 109), (0, .nameAndType 110 111), (0, u "java/lang/StringLatin1"), (0, u "inflate"), (0, u "([BI[BII)V"), (30, u "()Z"), (34, .methodref 42 178), (0, .nameAndType 45 179), (0, u "([CII)[B"), (13, .class_ 195), (1, u "java/lang/System"), (16, .methodref 193 213), (0, .nameAndType 214 215), (0, u "arraycopy"), (0, u "(Ljava/lang/Object;ILjava/lang/Object;II)V"), (118, u "()I"), (0, .methodref 10 336), (0, .nameAndType 17 337), (0, u "()B"), (2, u "()[B"), (148, .methodref 10 490), (0, .nameAndType 5 491), (0, u "(Ljava/lang/AbstractStringBuilder;Ljava/lang/Void;)V"), (1, .nameAndType 494 142), (0, u "isLatin1"), (11, .nameAndType 507 334), (0, u "length"), (24, u "getBytes"), (8, .methodref 107 542), (0, .nameAndType 543 544), (0, u "equals"), (0, u "([B[B)Z"), (4, .methodref 550 506), (0, .class_ 551), (0, u "java/lang/AbstractStringBuilder"), (0, .methodref 550 553), (0, .nameAndType 554 340), (0, u "getValue"), (18, u "(Ljava/lang/Object;)Z"), (1, .class_ 576), (0, u "java/lang/CharSequence"), (22, u "CASE_INSENSITIVE_ORDER"), (0, u "Ljava/util/Comparator;"), (220, u "([BIB)V"), (188, u "([C)V"), (36, .methodref 550 493), (0, .fieldref 550 1049), (0, .nameAndType 1050 26), (0, u "maybeLatin1"), (2, .fieldref 1054 1055), (0, .class_ 1056), (0, .nameAndType 1057 1058), (0, u "jdk/internal/util/Preconditions"), (0, u "SIOOBE_FORMATTER"), (0, u "Ljava/util/function/BiFunction;"), (5, u "(IIILjava/util/function/BiFunction;)I"), (0, .methodref 1054 1066), (0, .nameAndType 1067 1064), (0, u "checkFromIndexSize"), (33, u "serialPersistentFields"), (0, u "[Ljava/io/ObjectStreamField;"), (0, .class_ 1104), (0, u "java/lang/String$CaseInsensitiveComparator"), (1, .class_ 1107), (0, u "java/io/Serializable"), (0, .class_ 1109), (0, u "java/lang/Comparable"), (0, .class_ 1111), (0, u "java/lang/constant/Constable"), (0, .class_ 1113), (0, u "java/lang/constant/ConstantDesc"), (2, u "serialVersionUID"), (0, u "J"), (3, u "REPL"), (0, u "C"), (2, u "LATIN1"), (1, u "UTF16"), (105, u "(Ljava/lang/StringBuilder;)V")] 217

def k7m0 : Method := { name := "<init>", desc := "()V", sig := { parameters := [], returnType := none }, accessFlags := 1, code := none }
def k7c1 : Code := { maxStack := 5, maxLocals := 2, code := jdk_42_method_3_code, exceptionTable := #[], attributes := #[] }
def k7m1 : Method := { name := "<init>", desc := "([C)V", sig := { parameters := [(.array .char)], returnType := none }, accessFlags := 1, code := some k7c1 }
def k7c2 : Code := { maxStack := 3, maxLocals := 2, code := jdk_42_method_53_code, exceptionTable := #[], attributes := #[] }
def k7m2 : Method := { name := "<init>", desc := "(Ljava/lang/StringBuilder;)V", sig := { parameters := [(.object "java/lang/StringBuilder")], returnType := none }, accessFlags := 1, code := some k7c2 }
def k7c3 : Code := { maxStack := 2, maxLocals := 1, code := jdk_42_method_54_code, exceptionTable := #[], attributes := #[] }
def k7m3 : Method := { name := "length", desc := "()I", sig := { parameters := [], returnType := some .int }, accessFlags := 1, code := some k7c3 }
def k7c4 : Code := { maxStack := 2, maxLocals := 3, code := jdk_42_method_66_code, exceptionTable := #[], attributes := #[] }
def k7m4 : Method := { name := "equals", desc := "(Ljava/lang/Object;)Z", sig := { parameters := [(.object "java/lang/Object")], returnType := some .boolean }, accessFlags := 1, code := some k7c4 }
def k7c5 : Code := { maxStack := 5, maxLocals := 4, code := jdk_42_method_147_code, exceptionTable := #[], attributes := #[] }
def k7m5 : Method := { name := "getBytes", desc := "([BIB)V", sig := { parameters := [(.array .byte), .int, .byte], returnType := none }, accessFlags := 0, code := some k7c5 }
def k7c6 : Code := { maxStack := 4, maxLocals := 6, code := jdk_42_method_149_code, exceptionTable := #[], attributes := #[] }
def k7m6 : Method := { name := "<init>", desc := "([CIILjava/lang/Void;)V", sig := { parameters := [(.array .char), .int, .int, (.object "java/lang/Void")], returnType := none }, accessFlags := 2, code := some k7c6 }
def k7c7 : Code := { maxStack := 5, maxLocals := 5, code := jdk_42_method_150_code, exceptionTable := #[], attributes := #[] }
def k7m7 : Method := { name := "<init>", desc := "(Ljava/lang/AbstractStringBuilder;Ljava/lang/Void;)V", sig := { parameters := [(.object "java/lang/AbstractStringBuilder"), (.object "java/lang/Void")], returnType := none }, accessFlags := 0, code := some k7c7 }
def k7c8 : Code := { maxStack := 1, maxLocals := 1, code := jdk_42_method_152_code, exceptionTable := #[], attributes := #[] }
def k7m8 : Method := { name := "coder", desc := "()B", sig := { parameters := [], returnType := some .byte }, accessFlags := 0, code := some k7c8 }
def k7c9 : Code := { maxStack := 4, maxLocals := 3, code := jdk_42_method_157_code, exceptionTable := #[], attributes := #[] }
def k7m9 : Method := { name := "checkBoundsOffCount", desc := "(III)I", sig := { parameters := [.int, .int, .int], returnType := some .int }, accessFlags := 8, code := some k7c9 }
/-- java/lang/String -/
def k7 : Class := { plain "java/lang/String" (some 0) with
  accessFlags := 49
  interfaces := #[2, 3, 4, 5, 6]
  cf := some (fileOf pool7 10 #[.nestMembers #[1103]] #[{ accessFlags := 1, nameIndex := 5, descriptorIndex := 6, attributes := #[] }, { accessFlags := 1, nameIndex := 5, descriptorIndex := 1010, attributes := #[] }, { accessFlags := 1, nameIndex := 5, descriptorIndex := 1233, attributes := #[] }, { accessFlags := 1, nameIndex := 507, descriptorIndex := 334, attributes := #[] }, { accessFlags := 1, nameIndex := 543, descriptorIndex := 573, attributes := #[] }, { accessFlags := 0, nameIndex := 532, descriptorIndex := 821, attributes := #[] }, { accessFlags := 2, nameIndex := 5, descriptorIndex := 29, attributes := #[] }, { accessFlags := 0, nameIndex := 5, descriptorIndex := 491, attributes := #[] }, { accessFlags := 0, nameIndex := 17, descriptorIndex := 337, attributes := #[] }, { accessFlags := 8, nameIndex := 36, descriptorIndex := 37, attributes := #[] }] 49 2 #[1106, 1108, 575, 1110, 1112] #[{ accessFlags := 18, nameIndex := 13, descriptorIndex := 14, attributes := #[] }, { accessFlags := 18, nameIndex := 17, descriptorIndex := 18, attributes := #[] }, { accessFlags := 2, nameIndex := 21, descriptorIndex := 22, attributes := #[] }, { accessFlags := 2, nameIndex := 25, descriptorIndex := 26, attributes := #[] }, { accessFlags := 26, nameIndex := 1116, descriptorIndex := 1117, attributes := #[] }, { accessFlags := 24, nameIndex := 40, descriptorIndex := 26, attributes := #[] }, { accessFlags := 26, nameIndex := 1101, descriptorIndex := 1102, attributes := #[] }, { accessFlags := 26, nameIndex := 1121, descriptorIndex := 1122, attributes := #[] }, { accessFlags := 25, nameIndex := 599, descriptorIndex := 600, attributes := #[] }, { accessFlags := 24, nameIndex := 1125, descriptorIndex := 18, attributes := #[] }, { accessFlags := 24, nameIndex := 1127, descriptorIndex := 18, attributes := #[] }])
  fields := #[{ name := "value", type := (.array .byte), accessFlags := 18, slot := 0, constantValue := 0 }, { name := "coder", type := .byte, accessFlags := 18, slot := 1, constantValue := 0 }, { name := "hash", type := .int, accessFlags := 2, slot := 2, constantValue := 0 }, { name := "hashIsZero", type := .boolean, accessFlags := 2, slot := 3, constantValue := 0 }, { name := "serialVersionUID", type := .long, accessFlags := 26, slot := 0, constantValue := 0 }, { name := "COMPACT_STRINGS", type := .boolean, accessFlags := 24, slot := 1, constantValue := 0 }, { name := "serialPersistentFields", type := (.array (.object "java/io/ObjectStreamField")), accessFlags := 26, slot := 2, constantValue := 0 }, { name := "REPL", type := .char, accessFlags := 26, slot := 3, constantValue := 0 }, { name := "CASE_INSENSITIVE_ORDER", type := (.object "java/util/Comparator"), accessFlags := 25, slot := 4, constantValue := 0 }, { name := "LATIN1", type := .byte, accessFlags := 24, slot := 5, constantValue := 0 }, { name := "UTF16", type := .byte, accessFlags := 24, slot := 6, constantValue := 0 }]
  methods := #[k7m0, k7m1, k7m2, k7m3, k7m4, k7m5, k7m6, k7m7, k7m8, k7m9]
  instanceTypes := #[(.array .byte), .byte, .int, .boolean]
  staticTypes := #[.long, .boolean, (.array (.object "java/io/ObjectStreamField")), .char, (.object "java/util/Comparator"), .byte, .byte]
  resolved := Array.replicate 1451 none
  statics := some 0 }

def pool8 : Array CpInfo := pool [(1, .methodref 2 3), (0, .class_ 4), (0, .nameAndType 5 6), (0, u "java/lang/Object"), (0, u "<init>"), (0, u "()V"), (0, .class_ 8), (0, u "java/lang/Record")] 13

def k8c0 : Code := { maxStack := 1, maxLocals := 1, code := jdk_30_method_1_code, exceptionTable := #[], attributes := #[] }
def k8m0 : Method := { name := "<init>", desc := "()V", sig := { parameters := [], returnType := none }, accessFlags := 4, code := some k8c0 }
/-- java/lang/Record -/
def k8 : Class := { plain "java/lang/Record" (some 0) with
  accessFlags := 1057
  interfaces := #[]
  cf := some (fileOf pool8 7 #[] #[{ accessFlags := 4, nameIndex := 5, descriptorIndex := 6, attributes := #[] }] 1057 2 #[] #[])
  fields := #[]
  methods := #[k8m0]
  instanceTypes := #[]
  staticTypes := #[]
  resolved := Array.replicate 22 none
  statics := none }

def pool9 : Array CpInfo := pool [(1, .methodref 2 3), (0, .class_ 4), (0, .nameAndType 5 6), (0, u "java/lang/Record"), (0, u "<init>"), (0, u "()V"), (0, .fieldref 8 9), (0, .class_ 10), (0, .nameAndType 11 12), (0, u "com/example/devizes/devizes/zookeeper/ZooKeeperAddress"), (0, u "servers"), (0, u "Ljava/lang/String;"), (0, .fieldref 8 14), (0, .nameAndType 15 12), (0, u "root"), (0, .string 17), (0, u "zookeeper://"), (18, .class_ 37), (0, u "java/lang/StringBuilder"), (0, .methodref 36 3), (2, .methodref 36 42), (0, .nameAndType 43 44), (0, u "append"), (0, u "(Ljava/lang/String;)Ljava/lang/StringBuilder;"), (2, .methodref 36 48), (0, .nameAndType 49 50), (0, u "toString"), (0, u "()Ljava/lang/String;"), (29, u "(Ljava/lang/String;Ljava/lang/String;)V"), (11, u "SERVER"), (0, u "Ljava/util/regex/Pattern;"), (77, u "ROOT_STEP"), (26, u "SCHEME"), (3, u "DEFAULT_PORT"), (0, u "I")] 31

def k9c0 : Code := { maxStack := 2, maxLocals := 3, code := prog_26_method_1_code, exceptionTable := #[], attributes := #[] }
def k9m0 : Method := { name := "<init>", desc := "(Ljava/lang/String;Ljava/lang/String;)V", sig := { parameters := [(.object "java/lang/String"), (.object "java/lang/String")], returnType := none }, accessFlags := 0, code := some k9c0 }
def k9c1 : Code := { maxStack := 2, maxLocals := 1, code := prog_26_method_5_code, exceptionTable := #[], attributes := #[] }
def k9m1 : Method := { name := "toString", desc := "()Ljava/lang/String;", sig := { parameters := [], returnType := some (.object "java/lang/String") }, accessFlags := 1, code := some k9c1 }
/-- com/example/devizes/devizes/zookeeper/ZooKeeperAddress -/
def k9 : Class := { plain "com/example/devizes/devizes/zookeeper/ZooKeeperAddress" (some 8) with
  accessFlags := 48
  interfaces := #[]
  cf := some (fileOf pool9 8 #[] #[{ accessFlags := 0, nameIndex := 5, descriptorIndex := 80, attributes := #[] }, { accessFlags := 1, nameIndex := 49, descriptorIndex := 50, attributes := #[] }] 48 2 #[] #[{ accessFlags := 18, nameIndex := 11, descriptorIndex := 12, attributes := #[] }, { accessFlags := 18, nameIndex := 15, descriptorIndex := 12, attributes := #[] }, { accessFlags := 24, nameIndex := 198, descriptorIndex := 12, attributes := #[] }, { accessFlags := 26, nameIndex := 202, descriptorIndex := 203, attributes := #[] }, { accessFlags := 26, nameIndex := 92, descriptorIndex := 93, attributes := #[] }, { accessFlags := 26, nameIndex := 171, descriptorIndex := 93, attributes := #[] }])
  fields := #[{ name := "servers", type := (.object "java/lang/String"), accessFlags := 18, slot := 0, constantValue := 0 }, { name := "root", type := (.object "java/lang/String"), accessFlags := 18, slot := 1, constantValue := 0 }, { name := "SCHEME", type := (.object "java/lang/String"), accessFlags := 24, slot := 0, constantValue := 0 }, { name := "DEFAULT_PORT", type := .int, accessFlags := 26, slot := 1, constantValue := 0 }, { name := "SERVER", type := (.object "java/util/regex/Pattern"), accessFlags := 26, slot := 2, constantValue := 0 }, { name := "ROOT_STEP", type := (.object "java/util/regex/Pattern"), accessFlags := 26, slot := 3, constantValue := 0 }]
  methods := #[k9m0, k9m1]
  instanceTypes := #[(.object "java/lang/String"), (.object "java/lang/String")]
  staticTypes := #[(.object "java/lang/String"), .int, (.object "java/util/regex/Pattern"), (.object "java/util/regex/Pattern")]
  resolved := Array.replicate 235 none
  statics := none }

def pool10 : Array CpInfo := pool [(1, .class_ 2), (0, u "java/lang/Appendable"), (0, .class_ 4), (0, u "java/lang/Object")] 9

/-- java/lang/Appendable -/
def k10 : Class := { plain "java/lang/Appendable" (some 0) with
  accessFlags := 1537
  interfaces := #[]
  cf := some (fileOf pool10 1 #[] #[] 1537 3 #[] #[])
  fields := #[]
  methods := #[]
  instanceTypes := #[]
  staticTypes := #[]
  resolved := Array.replicate 14 none
  statics := none }

def pool11 : Array CpInfo := pool [(1, .class_ 2), (0, u "java/lang/String"), (0, .methodref 4 5), (0, .class_ 6), (0, .nameAndType 7 8), (0, u "java/lang/Object"), (0, u "<init>"), (0, u "()V"), (1, .class_ 12), (1, u "java/lang/AbstractStringBuilder"), (0, u "EMPTYVALUE"), (0, u "[B"), (0, .fieldref 10 16), (0, .nameAndType 17 14), (0, u "value"), (0, .fieldref 1 19), (0, .nameAndType 20 21), (0, u "COMPACT_STRINGS"), (0, u "Z"), (0, .fieldref 10 23), (0, .nameAndType 24 25), (0, u "coder"), (0, u "B"), (0, .methodref 27 28), (0, .class_ 29), (0, .nameAndType 30 31), (0, u "java/lang/StringUTF16"), (0, u "newBytesFor"), (0, u "(I)[B"), (0, .methodref 1 33), (0, .nameAndType 34 35), (0, u "length"), (0, u "()I"), (4, .methodref 1 41), (0, .nameAndType 24 42), (0, u "()B"), (2, u "append"), (0, u "(Ljava/lang/String;)Ljava/lang/AbstractStringBuilder;"), (1, .class_ 49), (0, u "java/lang/CharSequence"), (19, u "(Ljava/lang/String;)V"), (5, u "maybeLatin1"), (3, .fieldref 10 80), (0, .nameAndType 81 82), (0, u "count"), (0, u "I"), (0, .methodref 10 84), (0, .nameAndType 85 86), (0, u "isLatin1"), (0, u "()Z"), (1, .class_ 90), (1, u "java/lang/StringLatin1"), (9, .methodref 10 101), (0, .nameAndType 102 103), (0, u "ensureCapacityInternal"), (0, u "(I)V"), (21, .methodref 88 126), (0, .nameAndType 127 128), (0, u "inflate"), (0, u "([BI[BII)V"), (66, .methodref 10 196), (0, .nameAndType 127 8), (11, .methodref 10 209), (0, .nameAndType 210 211), (0, u "putStringAt"), (0, u "(ILjava/lang/String;)V"), (5, u "inflateIfNeededFor"), (2, .nameAndType 221 222), (0, u "getBytes"), (0, u "([BIB)V"), (174, .methodref 10 398), (0, .nameAndType 217 69), (0, .methodref 1 220), (3, u "()[B"), (40, .class_ 445), (0, u "java/lang/Appendable"), (106, u "getValue")] 56

def k11m0 : Method := { name := "<init>", desc := "()V", sig := { parameters := [], returnType := none }, accessFlags := 0, code := none }
def k11c1 : Code := { maxStack := 2, maxLocals := 2, code := jdk_68_method_2_code, exceptionTable := #[], attributes := #[] }
def k11m1 : Method := { name := "<init>", desc := "(I)V", sig := { parameters := [.int], returnType := none }, accessFlags := 0, code := some k11c1 }
def k11c2 : Code := { maxStack := 1, maxLocals := 1, code := jdk_68_method_6_code, exceptionTable := #[], attributes := #[] }
def k11m2 : Method := { name := "length", desc := "()I", sig := { parameters := [], returnType := some .int }, accessFlags := 1, code := some k11c2 }
def k11c3 : Code := { maxStack := 4, maxLocals := 3, code := jdk_68_method_9_code, exceptionTable := #[], attributes := #[] }
def k11m3 : Method := { name := "ensureCapacityInternal", desc := "(I)V", sig := { parameters := [.int], returnType := none }, accessFlags := 2, code := some k11c3 }
def k11c4 : Code := { maxStack := 5, maxLocals := 2, code := jdk_68_method_11_code, exceptionTable := #[], attributes := #[] }
def k11m4 : Method := { name := "inflate", desc := "()V", sig := { parameters := [], returnType := none }, accessFlags := 2, code := some k11c4 }
def k11c5 : Code := { maxStack := 3, maxLocals := 3, code := jdk_68_method_22_code, exceptionTable := #[], attributes := #[] }
def k11m5 : Method := { name := "append", desc := "(Ljava/lang/String;)Ljava/lang/AbstractStringBuilder;", sig := { parameters := [(.object "java/lang/String")], returnType := some (.object "java/lang/AbstractStringBuilder") }, accessFlags := 1, code := some k11c5 }
def k11c6 : Code := { maxStack := 1, maxLocals := 1, code := jdk_68_method_64_code, exceptionTable := #[], attributes := #[] }
def k11m6 : Method := { name := "getValue", desc := "()[B", sig := { parameters := [], returnType := some (.array .byte) }, accessFlags := 16, code := some k11c6 }
def k11c7 : Code := { maxStack := 1, maxLocals := 1, code := jdk_68_method_68_code, exceptionTable := #[], attributes := #[] }
def k11m7 : Method := { name := "isLatin1", desc := "()Z", sig := { parameters := [], returnType := some .boolean }, accessFlags := 16, code := some k11c7 }
def k11c8 : Code := { maxStack := 2, maxLocals := 2, code := jdk_68_method_71_code, exceptionTable := #[], attributes := #[] }
def k11m8 : Method := { name := "inflateIfNeededFor", desc := "(Ljava/lang/String;)V", sig := { parameters := [(.object "java/lang/String")], returnType := none }, accessFlags := 2, code := some k11c8 }
def k11c9 : Code := { maxStack := 4, maxLocals := 3, code := jdk_68_method_73_code, exceptionTable := #[], attributes := #[] }
def k11m9 : Method := { name := "putStringAt", desc := "(ILjava/lang/String;)V", sig := { parameters := [.int, (.object "java/lang/String")], returnType := none }, accessFlags := 2, code := some k11c9 }
/-- java/lang/AbstractStringBuilder -/
def k11 : Class := { plain "java/lang/AbstractStringBuilder" (some 0) with
  accessFlags := 1056
  interfaces := #[10, 4]
  cf := some (fileOf pool11 10 #[] #[{ accessFlags := 0, nameIndex := 7, descriptorIndex := 8, attributes := #[] }, { accessFlags := 0, nameIndex := 7, descriptorIndex := 103, attributes := #[] }, { accessFlags := 1, nameIndex := 34, descriptorIndex := 35, attributes := #[] }, { accessFlags := 2, nameIndex := 102, descriptorIndex := 103, attributes := #[] }, { accessFlags := 2, nameIndex := 127, descriptorIndex := 8, attributes := #[] }, { accessFlags := 1, nameIndex := 45, descriptorIndex := 46, attributes := #[] }, { accessFlags := 16, nameIndex := 552, descriptorIndex := 403, attributes := #[] }, { accessFlags := 16, nameIndex := 85, descriptorIndex := 86, attributes := #[] }, { accessFlags := 2, nameIndex := 217, descriptorIndex := 69, attributes := #[] }, { accessFlags := 2, nameIndex := 210, descriptorIndex := 211, attributes := #[] }] 1056 4 #[444, 48] #[{ accessFlags := 0, nameIndex := 17, descriptorIndex := 14, attributes := #[] }, { accessFlags := 0, nameIndex := 24, descriptorIndex := 25, attributes := #[] }, { accessFlags := 0, nameIndex := 75, descriptorIndex := 21, attributes := #[] }, { accessFlags := 0, nameIndex := 81, descriptorIndex := 82, attributes := #[] }, { accessFlags := 26, nameIndex := 13, descriptorIndex := 14, attributes := #[] }])
  fields := #[{ name := "value", type := (.array .byte), accessFlags := 0, slot := 0, constantValue := 0 }, { name := "coder", type := .byte, accessFlags := 0, slot := 1, constantValue := 0 }, { name := "maybeLatin1", type := .boolean, accessFlags := 0, slot := 2, constantValue := 0 }, { name := "count", type := .int, accessFlags := 0, slot := 3, constantValue := 0 }, { name := "EMPTYVALUE", type := (.array .byte), accessFlags := 26, slot := 0, constantValue := 0 }]
  methods := #[k11m0, k11m1, k11m2, k11m3, k11m4, k11m5, k11m6, k11m7, k11m8, k11m9]
  instanceTypes := #[(.array .byte), .byte, .boolean, .int]
  staticTypes := #[(.array .byte)]
  resolved := Array.replicate 609 none
  statics := none }

def pool12 : Array CpInfo := pool [(1, .methodref 2 3), (0, .class_ 4), (0, .nameAndType 5 6), (0, u "java/lang/AbstractStringBuilder"), (0, u "<init>"), (0, u "(I)V"), (11, .class_ 20), (1, u "java/lang/String"), (3, .class_ 26), (1, u "java/lang/StringBuilder"), (0, u "append"), (0, u "(Ljava/lang/String;)Ljava/lang/StringBuilder;"), (0, .methodref 2 30), (0, .nameAndType 27 31), (0, u "(Ljava/lang/String;)Ljava/lang/AbstractStringBuilder;"), (105, .methodref 18 138), (0, .nameAndType 5 139), (0, u "(Ljava/lang/StringBuilder;)V"), (5, u "()V"), (10, u "()I"), (186, .methodref 2 344), (0, .nameAndType 345 156), (0, u "length"), (3, .class_ 350), (0, u "java/lang/Appendable"), (0, .class_ 352), (0, u "java/io/Serializable"), (0, .class_ 354), (0, u "java/lang/Comparable"), (0, .class_ 356), (0, u "java/lang/CharSequence"), (0, u "serialVersionUID"), (0, u "J"), (40, u "toString"), (0, u "()Ljava/lang/String;")] 21

def k12c0 : Code := { maxStack := 2, maxLocals := 1, code := jdk_67_method_1_code, exceptionTable := #[], attributes := #[] }
def k12m0 : Method := { name := "<init>", desc := "()V", sig := { parameters := [], returnType := none }, accessFlags := 1, code := some k12c0 }
def k12c1 : Code := { maxStack := 2, maxLocals := 2, code := jdk_67_method_7_code, exceptionTable := #[], attributes := #[] }
def k12m1 : Method := { name := "append", desc := "(Ljava/lang/String;)Ljava/lang/StringBuilder;", sig := { parameters := [(.object "java/lang/String")], returnType := some (.object "java/lang/StringBuilder") }, accessFlags := 1, code := some k12c1 }
def k12c2 : Code := { maxStack := 3, maxLocals := 1, code := jdk_67_method_42_code, exceptionTable := #[], attributes := #[] }
def k12m2 : Method := { name := "toString", desc := "()Ljava/lang/String;", sig := { parameters := [], returnType := some (.object "java/lang/String") }, accessFlags := 1, code := some k12c2 }
def k12c3 : Code := { maxStack := 1, maxLocals := 1, code := jdk_67_method_93_code, exceptionTable := #[], attributes := #[] }
def k12m3 : Method := { name := "length", desc := "()I", sig := { parameters := [], returnType := some .int }, accessFlags := 4161, code := some k12c3 }
/-- java/lang/StringBuilder -/
def k12 : Class := { plain "java/lang/StringBuilder" (some 11) with
  accessFlags := 49
  interfaces := #[10, 2, 3, 4]
  cf := some (fileOf pool12 24 #[] #[{ accessFlags := 1, nameIndex := 5, descriptorIndex := 145, attributes := #[] }, { accessFlags := 1, nameIndex := 27, descriptorIndex := 28, attributes := #[] }, { accessFlags := 1, nameIndex := 399, descriptorIndex := 400, attributes := #[] }, { accessFlags := 4161, nameIndex := 345, descriptorIndex := 156, attributes := #[] }] 49 2 #[349, 351, 353, 355] #[{ accessFlags := 24, nameIndex := 357, descriptorIndex := 358, attributes := #[] }])
  fields := #[{ name := "serialVersionUID", type := .long, accessFlags := 24, slot := 0, constantValue := 0 }]
  methods := #[k12m0, k12m1, k12m2, k12m3]
  instanceTypes := #[(.array .byte), .byte, .boolean, .int]
  staticTypes := #[.long]
  resolved := Array.replicate 422 none
  statics := none }

def pool13 : Array CpInfo := pool [(2, .class_ 4), (1, u "java/lang/Object"), (0, u "<init>"), (0, u "()V"), (1, .class_ 10), (1, u "java/lang/System"), (0, u "allowSecurityManager"), (0, u "I"), (16, u "cons"), (0, u "Ljava/io/Console;"), (77, .class_ 110), (1, u "java/lang/System$CallersHolder"), (43, u "initialErrStream"), (0, u "Ljava/io/PrintStream;"), (19, u "security"), (0, u "Ljava/lang/SecurityManager;"), (31, .class_ 209), (0, u "java/lang/System$1"), (7, u "props"), (0, u "Ljava/util/Properties;"), (2, u "lineSeparator"), (0, u "Ljava/lang/String;"), (96, .class_ 321), (1, u "java/lang/System$LoggerFinder"), (5, .class_ 328), (0, u "java/lang/System$Logger"), (67, u "err"), (2, u "out"), (91, u "notSupportedJnuEncoding"), (15, u "in"), (17, u "initialIn"), (0, u "Ljava/io/InputStream;"), (35, u "bootLayer"), (0, u "Ljava/lang/ModuleLayer;"), (99, .class_ 664), (0, u "java/lang/System$2"), (9, u "NEVER"), (2, u "MAYBE"), (49, u "arraycopy"), (0, u "(Ljava/lang/Object;ILjava/lang/Object;II)V"), (72, .class_ 802), (0, u "java/lang/System$Logger$Level")] 31

def k13m0 : Method := { name := "<init>", desc := "()V", sig := { parameters := [], returnType := none }, accessFlags := 2, code := none }
def k13m1 : Method := { name := "arraycopy", desc := "(Ljava/lang/Object;ILjava/lang/Object;II)V", sig := { parameters := [(.object "java/lang/Object"), .int, (.object "java/lang/Object"), .int, .int], returnType := none }, accessFlags := 265, code := none }
/-- java/lang/System -/
def k13 : Class := { plain "java/lang/System" (some 0) with
  accessFlags := 49
  interfaces := #[]
  cf := some (fileOf pool13 8 #[.nestMembers #[319, 327, 801, 108, 663, 208]] #[{ accessFlags := 2, nameIndex := 5, descriptorIndex := 6, attributes := #[] }, { accessFlags := 265, nameIndex := 727, descriptorIndex := 728, attributes := #[] }] 49 2 #[] #[{ accessFlags := 25, nameIndex := 507, descriptorIndex := 526, attributes := #[] }, { accessFlags := 25, nameIndex := 399, descriptorIndex := 155, attributes := #[] }, { accessFlags := 25, nameIndex := 396, descriptorIndex := 155, attributes := #[] }, { accessFlags := 10, nameIndex := 525, descriptorIndex := 526, attributes := #[] }, { accessFlags := 26, nameIndex := 674, descriptorIndex := 12, attributes := #[] }, { accessFlags := 26, nameIndex := 677, descriptorIndex := 12, attributes := #[] }, { accessFlags := 10, nameIndex := 11, descriptorIndex := 12, attributes := #[] }, { accessFlags := 74, nameIndex := 175, descriptorIndex := 176, attributes := #[] }, { accessFlags := 10, nameIndex := 491, descriptorIndex := 222, attributes := #[] }, { accessFlags := 74, nameIndex := 29, descriptorIndex := 30, attributes := #[] }, { accessFlags := 74, nameIndex := 154, descriptorIndex := 155, attributes := #[] }, { accessFlags := 10, nameIndex := 217, descriptorIndex := 218, attributes := #[] }, { accessFlags := 10, nameIndex := 221, descriptorIndex := 222, attributes := #[] }, { accessFlags := 8, nameIndex := 562, descriptorIndex := 563, attributes := #[] }])
  fields := #[{ name := "in", type := (.object "java/io/InputStream"), accessFlags := 25, slot := 0, constantValue := 0 }, { name := "out", type := (.object "java/io/PrintStream"), accessFlags := 25, slot := 1, constantValue := 0 }, { name := "err", type := (.object "java/io/PrintStream"), accessFlags := 25, slot := 2, constantValue := 0 }, { name := "initialIn", type := (.object "java/io/InputStream"), accessFlags := 10, slot := 3, constantValue := 0 }, { name := "NEVER", type := .int, accessFlags := 26, slot := 4, constantValue := 0 }, { name := "MAYBE", type := .int, accessFlags := 26, slot := 5, constantValue := 0 }, { name := "allowSecurityManager", type := .int, accessFlags := 10, slot := 6, constantValue := 0 }, { name := "security", type := (.object "java/lang/SecurityManager"), accessFlags := 74, slot := 7, constantValue := 0 }, { name := "notSupportedJnuEncoding", type := (.object "java/lang/String"), accessFlags := 10, slot := 8, constantValue := 0 }, { name := "cons", type := (.object "java/io/Console"), accessFlags := 74, slot := 9, constantValue := 0 }, { name := "initialErrStream", type := (.object "java/io/PrintStream"), accessFlags := 74, slot := 10, constantValue := 0 }, { name := "props", type := (.object "java/util/Properties"), accessFlags := 10, slot := 11, constantValue := 0 }, { name := "lineSeparator", type := (.object "java/lang/String"), accessFlags := 10, slot := 12, constantValue := 0 }, { name := "bootLayer", type := (.object "java/lang/ModuleLayer"), accessFlags := 8, slot := 13, constantValue := 0 }]
  methods := #[k13m0, k13m1]
  instanceTypes := #[]
  staticTypes := #[(.object "java/io/InputStream"), (.object "java/io/PrintStream"), (.object "java/io/PrintStream"), (.object "java/io/InputStream"), .int, .int, .int, (.object "java/lang/SecurityManager"), (.object "java/lang/String"), (.object "java/io/Console"), (.object "java/io/PrintStream"), (.object "java/util/Properties"), (.object "java/lang/String"), (.object "java/lang/ModuleLayer")]
  resolved := Array.replicate 834 none
  statics := none }

def pool14 : Array CpInfo := pool [(2, .class_ 4), (1, u "java/lang/Object"), (0, u "<init>"), (0, u "()V"), (7, .class_ 16), (1, u "java/util/Arrays"), (57, .class_ 76), (1, u "java/util/Arrays$NaturalOrder"), (32, u "()Ljava/lang/Object;"), (3, .class_ 115), (1, u "java/util/Arrays$LegacyMergeSort"), (1, u "Z"), (10, .nameAndType 129 109), (0, u "clone"), (9, u "copyOfRange"), (10, .methodref 151 152), (0, .class_ 153), (0, .nameAndType 154 155), (0, u "java/lang/System"), (0, u "arraycopy"), (0, u "(Ljava/lang/Object;ILjava/lang/Object;II)V"), (148, .methodref 305 306), (0, .class_ 307), (0, .nameAndType 308 309), (0, u "java/lang/Math"), (0, u "min"), (0, u "(II)I"), (0, .methodref 311 128), (0, .class_ 312), (0, u "[B"), (26, .methodref 14 340), (0, .nameAndType 341 342), (0, u "copyOfRangeByte"), (0, u "([BII)[B"), (0, .methodref 14 344), (0, .nameAndType 345 346), (0, u "checkLength"), (0, u "(II)V"), (28, .class_ 376), (0, u "java/util/Arrays$ArrayList"), (68, u "$assertionsDisabled"), (269, u "MIN_ARRAY_SORT_GRAN"), (0, u "I"), (2, u "INSERTIONSORT_THRESHOLD"), (255, .class_ 976), (0, u "java/util/Arrays$ArrayItr")] 52

def k14m0 : Method := { name := "<init>", desc := "()V", sig := { parameters := [], returnType := none }, accessFlags := 2, code := none }
def k14c1 : Code := { maxStack := 4, maxLocals := 2, code := jdk_65_method_131_code, exceptionTable := #[], attributes := #[] }
def k14m1 : Method := { name := "checkLength", desc := "(II)V", sig := { parameters := [.int, .int], returnType := none }, accessFlags := 10, code := some k14c1 }
def k14c2 : Code := { maxStack := 3, maxLocals := 3, code := jdk_65_method_132_code, exceptionTable := #[], attributes := #[] }
def k14m2 : Method := { name := "copyOfRange", desc := "([BII)[B", sig := { parameters := [(.array .byte), .int, .int], returnType := some (.array .byte) }, accessFlags := 9, code := some k14c2 }
def k14c3 : Code := { maxStack := 6, maxLocals := 5, code := jdk_65_method_133_code, exceptionTable := #[], attributes := #[] }
def k14m3 : Method := { name := "copyOfRangeByte", desc := "([BII)[B", sig := { parameters := [(.array .byte), .int, .int], returnType := some (.array .byte) }, accessFlags := 10, code := some k14c3 }
/-- java/util/Arrays -/
def k14 : Class := { plain "java/util/Arrays" (some 0) with
  accessFlags := 49
  interfaces := #[]
  cf := some (fileOf pool14 14 #[.nestMembers #[975, 375, 113, 74]] #[{ accessFlags := 2, nameIndex := 5, descriptorIndex := 6, attributes := #[] }, { accessFlags := 10, nameIndex := 345, descriptorIndex := 346, attributes := #[] }, { accessFlags := 9, nameIndex := 139, descriptorIndex := 342, attributes := #[] }, { accessFlags := 10, nameIndex := 341, descriptorIndex := 342, attributes := #[] }] 49 2 #[] #[{ accessFlags := 26, nameIndex := 715, descriptorIndex := 716, attributes := #[] }, { accessFlags := 26, nameIndex := 719, descriptorIndex := 716, attributes := #[] }, { accessFlags := 4120, nameIndex := 445, descriptorIndex := 117, attributes := #[] }])
  fields := #[{ name := "MIN_ARRAY_SORT_GRAN", type := .int, accessFlags := 26, slot := 0, constantValue := 0 }, { name := "INSERTIONSORT_THRESHOLD", type := .int, accessFlags := 26, slot := 1, constantValue := 0 }, { name := "$assertionsDisabled", type := .boolean, accessFlags := 4120, slot := 2, constantValue := 0 }]
  methods := #[k14m0, k14m1, k14m2, k14m3]
  instanceTypes := #[]
  staticTypes := #[.int, .int, .boolean]
  resolved := Array.replicate 1029 none
  statics := none }

def pool15 : Array CpInfo := pool [(1, .class_ 2), (0, u "java/lang/Math"), (1, .class_ 6), (1, u "java/lang/Object"), (0, u "<init>"), (0, u "()V"), (89, .class_ 100), (1, u "java/lang/Math$RandomNumberGeneratorHolder"), (71, u "negativeZeroFloatBits"), (0, u "J"), (2, u "negativeZeroDoubleBits"), (24, u "min"), (43, u "$assertionsDisabled"), (0, u "Z"), (88, u "(II)I"), (2, u "twoToTheDoubleScaleDown"), (0, u "D"), (4, u "twoToTheDoubleScaleUp"), (9, u "E"), (3, u "PI"), (2, u "TAU"), (2, u "DEGREES_TO_RADIANS"), (0, u "RADIANS_TO_DEGREES")] 94

def k15m0 : Method := { name := "<init>", desc := "()V", sig := { parameters := [], returnType := none }, accessFlags := 2, code := none }
def k15c1 : Code := { maxStack := 2, maxLocals := 2, code := jdk_29_method_69_code, exceptionTable := #[], attributes := #[] }
def k15m1 : Method := { name := "min", desc := "(II)I", sig := { parameters := [.int, .int], returnType := some .int }, accessFlags := 9, code := some k15c1 }
/-- java/lang/Math -/
def k15 : Class := { plain "java/lang/Math" (some 0) with
  accessFlags := 49
  interfaces := #[]
  cf := some (fileOf pool15 1 #[.nestMembers #[98]] #[{ accessFlags := 2, nameIndex := 7, descriptorIndex := 8, attributes := #[] }, { accessFlags := 9, nameIndex := 201, descriptorIndex := 335, attributes := #[] }] 49 4 #[] #[{ accessFlags := 25, nameIndex := 354, descriptorIndex := 339, attributes := #[] }, { accessFlags := 25, nameIndex := 358, descriptorIndex := 339, attributes := #[] }, { accessFlags := 25, nameIndex := 361, descriptorIndex := 339, attributes := #[] }, { accessFlags := 26, nameIndex := 364, descriptorIndex := 339, attributes := #[] }, { accessFlags := 26, nameIndex := 365, descriptorIndex := 339, attributes := #[] }, { accessFlags := 26, nameIndex := 172, descriptorIndex := 173, attributes := #[] }, { accessFlags := 26, nameIndex := 176, descriptorIndex := 173, attributes := #[] }, { accessFlags := 8, nameIndex := 344, descriptorIndex := 339, attributes := #[] }, { accessFlags := 8, nameIndex := 338, descriptorIndex := 339, attributes := #[] }, { accessFlags := 4120, nameIndex := 245, descriptorIndex := 246, attributes := #[] }])
  fields := #[{ name := "E", type := .double, accessFlags := 25, slot := 0, constantValue := 0 }, { name := "PI", type := .double, accessFlags := 25, slot := 1, constantValue := 0 }, { name := "TAU", type := .double, accessFlags := 25, slot := 2, constantValue := 0 }, { name := "DEGREES_TO_RADIANS", type := .double, accessFlags := 26, slot := 3, constantValue := 0 }, { name := "RADIANS_TO_DEGREES", type := .double, accessFlags := 26, slot := 4, constantValue := 0 }, { name := "negativeZeroFloatBits", type := .long, accessFlags := 26, slot := 5, constantValue := 0 }, { name := "negativeZeroDoubleBits", type := .long, accessFlags := 26, slot := 6, constantValue := 0 }, { name := "twoToTheDoubleScaleUp", type := .double, accessFlags := 8, slot := 7, constantValue := 0 }, { name := "twoToTheDoubleScaleDown", type := .double, accessFlags := 8, slot := 8, constantValue := 0 }, { name := "$assertionsDisabled", type := .boolean, accessFlags := 4120, slot := 9, constantValue := 0 }]
  methods := #[k15m0, k15m1]
  instanceTypes := #[]
  staticTypes := #[.double, .double, .double, .double, .double, .long, .long, .double, .double, .boolean]
  resolved := Array.replicate 460 none
  statics := none }

def pool16 : Array CpInfo := pool [(3, .class_ 4), (0, u "java/lang/String"), (1, .class_ 8), (1, u "java/lang/Object"), (0, u "<init>"), (0, u "()V"), (0, .methodref 12 13), (0, .class_ 14), (0, .nameAndType 15 16), (0, u "java/lang/StringUTF16"), (0, u "newBytesLength"), (0, u "(I)I"), (3, .integer 1073741823), (23, .fieldref 12 45), (0, .nameAndType 46 47), (0, u "$assertionsDisabled"), (0, u "Z"), (0, .methodref 12 49), (0, .nameAndType 50 51), (0, u "length"), (0, u "([B)I"), (7, .fieldref 12 60), (0, .nameAndType 61 62), (0, u "HI_BYTE_SHIFT"), (0, u "I"), (0, .fieldref 12 64), (0, .nameAndType 65 62), (0, u "LO_BYTE_SHIFT"), (5, .methodref 12 72), (0, .nameAndType 73 74), (0, u "getChar"), (0, u "([BI)C"), (24, u "(II[B)V"), (7, .methodref 12 108), (0, .nameAndType 109 110), (0, u "newBytesFor"), (0, u "(I)[B"), (0, .methodref 12 112), (0, .nameAndType 113 114), (0, u "putChar"), (0, u "([BII)V"), (0, .methodref 12 116), (0, .nameAndType 117 118), (0, u "compress"), (0, u "([CI[BII)I"), (0, .methodref 12 120), (0, .nameAndType 121 122), (0, u "toBytes"), (0, u "([CII)[B"), (17, u "inflate"), (0, u "([BI[BII)V"), (31, .methodref 12 174), (0, .nameAndType 175 99), (0, u "checkBoundsOffCount"), (85, u "coderFromArrayLen"), (0, u "([BI)B"), (18, u "(III)I"), (87, .class_ 371), (1, u "java/lang/StringUTF16$LinesSpliterator"), (47, .methodref 3 420), (0, .nameAndType 175 281), (9, u "MAX_LENGTH"), (196, .class_ 628), (0, u "java/lang/StringUTF16$CodePointsSpliterator"), (0, .class_ 630), (0, u "java/lang/StringUTF16$CharsSpliterator")] 4

def k16m0 : Method := { name := "<init>", desc := "()V", sig := { parameters := [], returnType := none }, accessFlags := 0, code := none }
def k16c1 : Code := { maxStack := 1, maxLocals := 1, code := jdk_52_method_2_code, exceptionTable := #[], attributes := #[] }
def k16m1 : Method := { name := "newBytesFor", desc := "(I)[B", sig := { parameters := [.int], returnType := some (.array .byte) }, accessFlags := 9, code := some k16c1 }
def k16c2 : Code := { maxStack := 4, maxLocals := 1, code := jdk_52_method_3_code, exceptionTable := #[], attributes := #[] }
def k16m2 : Method := { name := "newBytesLength", desc := "(I)I", sig := { parameters := [.int], returnType := some .int }, accessFlags := 9, code := some k16c2 }
def k16c3 : Code := { maxStack := 4, maxLocals := 3, code := jdk_52_method_4_code, exceptionTable := #[], attributes := #[] }
def k16m3 : Method := { name := "putChar", desc := "([BII)V", sig := { parameters := [(.array .byte), .int, .int], returnType := none }, accessFlags := 8, code := some k16c3 }
def k16c4 : Code := { maxStack := 3, maxLocals := 2, code := jdk_52_method_5_code, exceptionTable := #[], attributes := #[] }
def k16m4 : Method := { name := "getChar", desc := "([BI)C", sig := { parameters := [(.array .byte), .int], returnType := some .char }, accessFlags := 8, code := some k16c4 }
def k16c5 : Code := { maxStack := 2, maxLocals := 1, code := jdk_52_method_6_code, exceptionTable := #[], attributes := #[] }
def k16m5 : Method := { name := "length", desc := "([B)I", sig := { parameters := [(.array .byte)], returnType := some .int }, accessFlags := 9, code := some k16c5 }
def k16c6 : Code := { maxStack := 4, maxLocals := 5, code := jdk_52_method_14_code, exceptionTable := #[], attributes := #[] }
def k16m6 : Method := { name := "toBytes", desc := "([CII)[B", sig := { parameters := [(.array .char), .int, .int], returnType := some (.array .byte) }, accessFlags := 9, code := some k16c6 }
def k16c7 : Code := { maxStack := 2, maxLocals := 2, code := jdk_52_method_15_code, exceptionTable := #[], attributes := #[] }
def k16m7 : Method := { name := "coderFromArrayLen", desc := "([BI)B", sig := { parameters := [(.array .byte), .int], returnType := some .byte }, accessFlags := 8, code := some k16c7 }
def k16c8 : Code := { maxStack := 5, maxLocals := 6, code := jdk_52_method_16_code, exceptionTable := #[], attributes := #[] }
def k16m8 : Method := { name := "compress", desc := "([CII)[B", sig := { parameters := [(.array .char), .int, .int], returnType := some (.array .byte) }, accessFlags := 9, code := some k16c8 }
def k16c9 : Code := { maxStack := 3, maxLocals := 7, code := jdk_52_method_21_code, exceptionTable := #[], attributes := #[] }
def k16m9 : Method := { name := "compress", desc := "([CI[BII)I", sig := { parameters := [(.array .char), .int, (.array .byte), .int, .int], returnType := some .int }, accessFlags := 9, code := some k16c9 }
def k16c10 : Code := { maxStack := 4, maxLocals := 6, code := jdk_52_method_86_code, exceptionTable := #[], attributes := #[] }
def k16m10 : Method := { name := "inflate", desc := "([BI[BII)V", sig := { parameters := [(.array .byte), .int, (.array .byte), .int, .int], returnType := none }, accessFlags := 9, code := some k16c10 }
def k16c11 : Code := { maxStack := 3, maxLocals := 3, code := jdk_52_method_94_code, exceptionTable := #[], attributes := #[] }
def k16m11 : Method := { name := "checkBoundsOffCount", desc := "(II[B)V", sig := { parameters := [.int, .int, (.array .byte)], returnType := none }, accessFlags := 9, code := some k16c11 }
/-- java/lang/StringUTF16 -/
def k16 : Class := { plain "java/lang/StringUTF16" (some 0) with
  accessFlags := 48
  interfaces := #[]
  cf := some (fileOf pool16 12 #[.nestMembers #[627, 629, 369]] #[{ accessFlags := 0, nameIndex := 9, descriptorIndex := 10, attributes := #[] }, { accessFlags := 9, nameIndex := 109, descriptorIndex := 110, attributes := #[] }, { accessFlags := 9, nameIndex := 15, descriptorIndex := 16, attributes := #[] }, { accessFlags := 8, nameIndex := 113, descriptorIndex := 114, attributes := #[] }, { accessFlags := 8, nameIndex := 73, descriptorIndex := 74, attributes := #[] }, { accessFlags := 9, nameIndex := 50, descriptorIndex := 51, attributes := #[] }, { accessFlags := 9, nameIndex := 121, descriptorIndex := 122, attributes := #[] }, { accessFlags := 8, nameIndex := 261, descriptorIndex := 262, attributes := #[] }, { accessFlags := 9, nameIndex := 117, descriptorIndex := 122, attributes := #[] }, { accessFlags := 9, nameIndex := 117, descriptorIndex := 118, attributes := #[] }, { accessFlags := 9, nameIndex := 140, descriptorIndex := 141, attributes := #[] }, { accessFlags := 9, nameIndex := 175, descriptorIndex := 99, attributes := #[] }] 48 6 #[] #[{ accessFlags := 26, nameIndex := 61, descriptorIndex := 62, attributes := #[] }, { accessFlags := 26, nameIndex := 65, descriptorIndex := 62, attributes := #[] }, { accessFlags := 24, nameIndex := 430, descriptorIndex := 62, attributes := #[] }, { accessFlags := 4120, nameIndex := 46, descriptorIndex := 47, attributes := #[] }])
  fields := #[{ name := "HI_BYTE_SHIFT", type := .int, accessFlags := 26, slot := 0, constantValue := 0 }, { name := "LO_BYTE_SHIFT", type := .int, accessFlags := 26, slot := 1, constantValue := 0 }, { name := "MAX_LENGTH", type := .int, accessFlags := 24, slot := 2, constantValue := 0 }, { name := "$assertionsDisabled", type := .boolean, accessFlags := 4120, slot := 3, constantValue := 0 }]
  methods := #[k16m0, k16m1, k16m2, k16m3, k16m4, k16m5, k16m6, k16m7, k16m8, k16m9, k16m10, k16m11]
  instanceTypes := #[]
  staticTypes := #[.int, .int, .int, .boolean]
  resolved := Array.replicate 635 none
  statics := some 1 }

def pool17 : Array CpInfo := pool [(4, .class_ 6), (1, u "java/lang/Object"), (0, u "<init>"), (0, u "()V"), (5, .class_ 16), (1, u "java/lang/StringLatin1"), (0, u "inflate"), (2, .class_ 22), (1, u "java/lang/StringUTF16"), (3, .nameAndType 17 27), (0, u "([BI[BII)V"), (93, u "$assertionsDisabled"), (0, u "Z"), (98, .class_ 223), (1, u "java/lang/StringLatin1$LinesSpliterator"), (16, .methodref 20 26), (40, u "equals"), (0, u "([B[B)Z"), (107, .class_ 391), (0, u "java/lang/StringLatin1$CharsSpliterator")] 3

def k17m0 : Method := { name := "<init>", desc := "()V", sig := { parameters := [], returnType := none }, accessFlags := 0, code := none }
def k17c1 : Code := { maxStack := 3, maxLocals := 3, code := jdk_43_method_13_code, exceptionTable := #[], attributes := #[] }
def k17m1 : Method := { name := "equals", desc := "([B[B)Z", sig := { parameters := [(.array .byte), (.array .byte)], returnType := some .boolean }, accessFlags := 9, code := some k17c1 }
def k17c2 : Code := { maxStack := 5, maxLocals := 5, code := jdk_43_method_50_code, exceptionTable := #[], attributes := #[] }
def k17m2 : Method := { name := "inflate", desc := "([BI[BII)V", sig := { parameters := [(.array .byte), .int, (.array .byte), .int, .int], returnType := none }, accessFlags := 9, code := some k17c2 }
/-- java/lang/StringLatin1 -/
def k17 : Class := { plain "java/lang/StringLatin1" (some 0) with
  accessFlags := 48
  interfaces := #[]
  cf := some (fileOf pool17 14 #[.nestMembers #[390, 221]] #[{ accessFlags := 0, nameIndex := 7, descriptorIndex := 8, attributes := #[] }, { accessFlags := 9, nameIndex := 281, descriptorIndex := 282, attributes := #[] }, { accessFlags := 9, nameIndex := 17, descriptorIndex := 27, attributes := #[] }] 48 4 #[] #[{ accessFlags := 4120, nameIndex := 121, descriptorIndex := 122, attributes := #[] }])
  fields := #[{ name := "$assertionsDisabled", type := .boolean, accessFlags := 4120, slot := 0, constantValue := 0 }]
  methods := #[k17m0, k17m1, k17m2]
  instanceTypes := #[]
  staticTypes := #[.boolean]
  resolved := Array.replicate 395 none
  statics := none }

def pool18 : Array CpInfo := pool [(2, .class_ 4), (1, u "java/lang/Object"), (0, u "<init>"), (0, u "()V"), (17, .class_ 26), (1, u "jdk/internal/util/Preconditions"), (22, u "checkFromIndexSize"), (5, .class_ 56), (0, u "jdk/internal/util/Preconditions$4"), (57, .class_ 115), (0, u "jdk/internal/util/Preconditions$1"), (7, u "SIOOBE_FORMATTER"), (0, u "Ljava/util/function/BiFunction;"), (0, .class_ 126), (0, u "jdk/internal/util/Preconditions$2"), (3, u "AIOOBE_FORMATTER"), (0, .class_ 132), (0, u "jdk/internal/util/Preconditions$3"), (3, u "IOOBE_FORMATTER"), (46, u "(IIILjava/util/function/BiFunction;)I")] 10

def k18m0 : Method := { name := "<init>", desc := "()V", sig := { parameters := [], returnType := none }, accessFlags := 1, code := none }
def k18c1 : Code := { maxStack := 4, maxLocals := 4, code := jdk_41_method_13_code, exceptionTable := #[], attributes := #[] }
def k18m1 : Method := { name := "checkFromIndexSize", desc := "(IIILjava/util/function/BiFunction;)I", sig := { parameters := [.int, .int, .int, (.object "java/util/function/BiFunction")], returnType := some .int }, accessFlags := 9, code := some k18c1 }
/-- jdk/internal/util/Preconditions -/
def k18 : Class := { plain "jdk/internal/util/Preconditions" (some 0) with
  accessFlags := 33
  interfaces := #[]
  cf := some (fileOf pool18 24 #[.nestMembers #[55, 131, 125, 114]] #[{ accessFlags := 1, nameIndex := 5, descriptorIndex := 6, attributes := #[] }, { accessFlags := 9, nameIndex := 49, descriptorIndex := 183, attributes := #[] }] 33 2 #[] #[{ accessFlags := 25, nameIndex := 123, descriptorIndex := 124, attributes := #[] }, { accessFlags := 25, nameIndex := 130, descriptorIndex := 124, attributes := #[] }, { accessFlags := 25, nameIndex := 136, descriptorIndex := 124, attributes := #[] }])
  fields := #[{ name := "SIOOBE_FORMATTER", type := (.object "java/util/function/BiFunction"), accessFlags := 25, slot := 0, constantValue := 0 }, { name := "AIOOBE_FORMATTER", type := (.object "java/util/function/BiFunction"), accessFlags := 25, slot := 1, constantValue := 0 }, { name := "IOOBE_FORMATTER", type := (.object "java/util/function/BiFunction"), accessFlags := 25, slot := 2, constantValue := 0 }]
  methods := #[k18m0, k18m1]
  instanceTypes := #[]
  staticTypes := #[(.object "java/util/function/BiFunction"), (.object "java/util/function/BiFunction"), (.object "java/util/function/BiFunction")]
  resolved := Array.replicate 194 none
  statics := some 2 }

def pool19 : Array CpInfo := pool [(1, .class_ 2), (0, u "java/lang/Cloneable"), (0, .class_ 4), (0, u "java/lang/Object")] 2

/-- java/lang/Cloneable -/
def k19 : Class := { plain "java/lang/Cloneable" (some 0) with
  accessFlags := 1537
  interfaces := #[]
  cf := some (fileOf pool19 1 #[] #[] 1537 3 #[] #[])
  fields := #[]
  methods := #[]
  instanceTypes := #[]
  staticTypes := #[]
  resolved := Array.replicate 7 none
  statics := none }

def pool20 : Array CpInfo := pool [(9, u "<init>"), (6, .class_ 18), (1, u "java/lang/Object"), (0, u "()V"), (1, .class_ 23), (1, u "jdk/internal/util/ArraysSupport"), (0, u "LOG2_ARRAY_LONG_INDEX_SCALE"), (0, u "I"), (2, u "U"), (0, u "Ljdk/internal/misc/Unsafe;"), (8, u "BIG_ENDIAN"), (0, u "Z"), (8, u "LOG2_BYTE_BIT_SIZE"), (4, u "LOG2_ARRAY_INT_INDEX_SCALE"), (54, u "JLA"), (0, u "Ljdk/internal/access/JavaLangAccess;"), (11, u "LOG2_ARRAY_BOOLEAN_INDEX_SCALE"), (9, u "LOG2_ARRAY_BYTE_INDEX_SCALE"), (5, u "LOG2_ARRAY_CHAR_INDEX_SCALE"), (5, u "LOG2_ARRAY_SHORT_INDEX_SCALE"), (18, u "LOG2_ARRAY_FLOAT_INDEX_SCALE"), (24, u "LOG2_ARRAY_DOUBLE_INDEX_SCALE"), (89, u "T_BOOLEAN"), (2, u "T_CHAR"), (1, u "T_FLOAT"), (1, u "T_DOUBLE"), (1, u "T_BYTE"), (1, u "T_SHORT"), (1, u "T_INT"), (1, u "T_LONG"), (1, u "SOFT_MAX_ARRAY_LENGTH")] 83

def k20m0 : Method := { name := "<init>", desc := "()V", sig := { parameters := [], returnType := none }, accessFlags := 2, code := none }
/-- jdk/internal/util/ArraysSupport -/
def k20 : Class := { plain "jdk/internal/util/ArraysSupport" (some 0) with
  accessFlags := 33
  interfaces := #[]
  cf := some (fileOf pool20 21 #[] #[{ accessFlags := 2, nameIndex := 9, descriptorIndex := 19, attributes := #[] }] 33 16 #[] #[{ accessFlags := 24, nameIndex := 28, descriptorIndex := 29, attributes := #[] }, { accessFlags := 26, nameIndex := 38, descriptorIndex := 39, attributes := #[] }, { accessFlags := 25, nameIndex := 121, descriptorIndex := 25, attributes := #[] }, { accessFlags := 25, nameIndex := 131, descriptorIndex := 25, attributes := #[] }, { accessFlags := 25, nameIndex := 137, descriptorIndex := 25, attributes := #[] }, { accessFlags := 25, nameIndex := 143, descriptorIndex := 25, attributes := #[] }, { accessFlags := 25, nameIndex := 53, descriptorIndex := 25, attributes := #[] }, { accessFlags := 25, nameIndex := 24, descriptorIndex := 25, attributes := #[] }, { accessFlags := 25, nameIndex := 162, descriptorIndex := 25, attributes := #[] }, { accessFlags := 25, nameIndex := 187, descriptorIndex := 25, attributes := #[] }, { accessFlags := 26, nameIndex := 48, descriptorIndex := 25, attributes := #[] }, { accessFlags := 25, nameIndex := 277, descriptorIndex := 25, attributes := #[] }, { accessFlags := 25, nameIndex := 280, descriptorIndex := 25, attributes := #[] }, { accessFlags := 25, nameIndex := 282, descriptorIndex := 25, attributes := #[] }, { accessFlags := 25, nameIndex := 284, descriptorIndex := 25, attributes := #[] }, { accessFlags := 25, nameIndex := 286, descriptorIndex := 25, attributes := #[] }, { accessFlags := 25, nameIndex := 288, descriptorIndex := 25, attributes := #[] }, { accessFlags := 25, nameIndex := 290, descriptorIndex := 25, attributes := #[] }, { accessFlags := 25, nameIndex := 292, descriptorIndex := 25, attributes := #[] }, { accessFlags := 26, nameIndex := 108, descriptorIndex := 109, attributes := #[] }, { accessFlags := 25, nameIndex := 294, descriptorIndex := 25, attributes := #[] }])
  fields := #[{ name := "U", type := (.object "jdk/internal/misc/Unsafe"), accessFlags := 24, slot := 0, constantValue := 0 }, { name := "BIG_ENDIAN", type := .boolean, accessFlags := 26, slot := 1, constantValue := 0 }, { name := "LOG2_ARRAY_BOOLEAN_INDEX_SCALE", type := .int, accessFlags := 25, slot := 2, constantValue := 0 }, { name := "LOG2_ARRAY_BYTE_INDEX_SCALE", type := .int, accessFlags := 25, slot := 3, constantValue := 0 }, { name := "LOG2_ARRAY_CHAR_INDEX_SCALE", type := .int, accessFlags := 25, slot := 4, constantValue := 0 }, { name := "LOG2_ARRAY_SHORT_INDEX_SCALE", type := .int, accessFlags := 25, slot := 5, constantValue := 0 }, { name := "LOG2_ARRAY_INT_INDEX_SCALE", type := .int, accessFlags := 25, slot := 6, constantValue := 0 }, { name := "LOG2_ARRAY_LONG_INDEX_SCALE", type := .int, accessFlags := 25, slot := 7, constantValue := 0 }, { name := "LOG2_ARRAY_FLOAT_INDEX_SCALE", type := .int, accessFlags := 25, slot := 8, constantValue := 0 }, { name := "LOG2_ARRAY_DOUBLE_INDEX_SCALE", type := .int, accessFlags := 25, slot := 9, constantValue := 0 }, { name := "LOG2_BYTE_BIT_SIZE", type := .int, accessFlags := 26, slot := 10, constantValue := 0 }, { name := "T_BOOLEAN", type := .int, accessFlags := 25, slot := 11, constantValue := 0 }, { name := "T_CHAR", type := .int, accessFlags := 25, slot := 12, constantValue := 0 }, { name := "T_FLOAT", type := .int, accessFlags := 25, slot := 13, constantValue := 0 }, { name := "T_DOUBLE", type := .int, accessFlags := 25, slot := 14, constantValue := 0 }, { name := "T_BYTE", type := .int, accessFlags := 25, slot := 15, constantValue := 0 }, { name := "T_SHORT", type := .int, accessFlags := 25, slot := 16, constantValue := 0 }, { name := "T_INT", type := .int, accessFlags := 25, slot := 17, constantValue := 0 }, { name := "T_LONG", type := .int, accessFlags := 25, slot := 18, constantValue := 0 }, { name := "JLA", type := (.object "jdk/internal/access/JavaLangAccess"), accessFlags := 26, slot := 19, constantValue := 0 }, { name := "SOFT_MAX_ARRAY_LENGTH", type := .int, accessFlags := 25, slot := 20, constantValue := 0 }]
  methods := #[k20m0]
  instanceTypes := #[]
  staticTypes := #[(.object "jdk/internal/misc/Unsafe"), .boolean, .int, .int, .int, .int, .int, .int, .int, .int, .int, .int, .int, .int, .int, .int, .int, .int, .int, (.object "jdk/internal/access/JavaLangAccess"), .int]
  resolved := Array.replicate 378 none
  statics := none }

/-- the primitive byte -/
def k21 : Class := { plain "byte" none with kind := .primitive 'B', accessFlags := 0x411 }
/-- [B -/
def k22 : Class := { plain "[B" (some 0) with kind := .array 21 .byte, interfaces := #[19, 2], accessFlags := 1041 }

/-- the primitive char -/
def k23 : Class := { plain "char" none with kind := .primitive 'C', accessFlags := 0x411 }
/-- [C -/
def k24 : Class := { plain "[C" (some 0) with kind := .array 23 .char, interfaces := #[19, 2], accessFlags := 1041 }

/-- the primitive int -/
def k25 : Class := { plain "int" none with kind := .primitive 'I', accessFlags := 0x411 }
/-- [I -/
def k26 : Class := { plain "[I" (some 0) with kind := .array 25 .int, interfaces := #[19, 2], accessFlags := 1041 }

def heap : Heap := #[{ cls := 7, slots := #[.long 0, .int 1, .null, .int 0, .null, .int 0, .int 0], vm := .statics 7 },
  { cls := 16, slots := #[.int 0, .int 8, .int 0, .int 1], vm := .statics 16 },
  { cls := 18, slots := #[.null, .null, .null], vm := .statics 18 }]
def classes : Array Class := #[k0, k1, k2, k3, k4, k5, k6, k7, k8, k9, k10, k11, k12, k13, k14, k15, k16, k17, k18, k19, k20, k21, k22, k23, k24, k25, k26]
def interned : List (Array UInt16 × Addr) := []
def slotsUsed : Nat := 14
def theMethod : MethodId := ⟨1, 2⟩
def args0 : Array Value := #[.int 65, .int 66, .int 67, .int 68, .int 5]
def aboutOver (below : List Frame) : State where
  vm := { classes := classes, interned := interned.toArray }
  heap := heap
  slotsUsed := slotsUsed
  threads := #[{ frames := .invoking theMethod args0 :: below }]
def below0 : List Frame := [.native { method := ⟨0, 0⟩, args := #[] }]
def about1 : State := aboutOver below0
def p0 : Program := .bare "" "" ""
def e0 : Env := launch0.env 0 0 0
theorem w_frames : about1.frames = Frame.invoking theMethod args0 :: below0 := rfl
set_option maxRecDepth 65536 in
theorem w_args : argsFit about1.vm theMethod args0 = true := by decide +kernel
set_option maxRecDepth 65536 in
theorem w_heap : heapFits about1 = true := by decide +kernel
set_option maxRecDepth 65536 in
theorem w_runnable : about1.curStatus? = some .runnable := by decide +kernel
set_option maxRecDepth 65536 in
theorem w_alone : about1.alone = true := by decide +kernel
set_option maxRecDepth 65536 in
theorem w_named : about1.methodNamed? x = some theMethod := by decide +kernel
set_option maxRecDepth 65536 in
theorem w_hears : about1.hears theMethod below0 = true := by decide +kernel
set_option maxRecDepth 65536 in
theorem w_ripe : about1.ripe theMethod args0 below0 = true := by decide +kernel
theorem w_running : about1.status = .running := rfl
set_option maxRecDepth 65536 in
theorem w_room : about1.hasRoom e0.platform room_1 = true :=
  launch0.hasRoom_least _ room_1 (by decide +kernel) (by decide +kernel) (by decide +kernel) (by decide +kernel) (by decide +kernel) (by decide +kernel)
theorem allAtoms_all (ts : List Jvm.Cond) (a : Array Jvm.Value) (st : Jvm.State) : (allAtoms ts).before a st = ts.all (fun c => c.before a st) := by
  induction ts with
  | nil => rfl
  | cons c t ih =>
    show (Jvm.Cond.and c (allAtoms t)).before a st = _
    rw [Jvm.Cond.before_and, ih, List.all_cons]
def words1 : List Jvm.Cond := Jvm.Cond.code x code maxLocals ret :: tables_1
/-- a 'code' word, met by the world's own term for the bytes: nothing is compared byte by byte -/
theorem code_word {y : MethodName} {bytes : ByteArray} {mx : Nat} {rt : Option FieldType} {a : Array Value} {s : State} {m : MethodId} {meth : Method} {c : Code} (h1 : s.methodNamed? y = some m) (h2 : s.vm.method? m = some meth) (h3 : meth.code = some c) (h4 : c.code = bytes)
    (h5 : (c.maxLocals == mx && c.exceptionTable.isEmpty && decide (c.maxStack ≤ mostOperands) && decide (meth.sig.returnType = rt) && !meth.locks && decide (parseMethodDescriptor y.desc = some meth.sig)) = true) : (Jvm.Cond.code y bytes mx rt).before a s = true := by
  simp only [Bool.and_eq_true, beq_iff_eq, Bool.not_eq_true', decide_eq_true_eq] at h5
  obtain ⟨⟨⟨⟨⟨g1, g2⟩, g3⟩, g4⟩, g5⟩, g6⟩ := h5
  simp [Cond.before, Cond.holds, Cond.value, h1, h2, h3, h4, g1, g2, g3, g4, g5, g6]
def isCode : Jvm.Cond → Bool
  | .code _ _ _ _ => true
  | _ => false
theorem all_split {L : List Jvm.Cond} {P : Jvm.Cond → Bool} (h1 : L.all (fun c => isCode c || P c) = true) (h2 : ∀ c ∈ L.filter isCode, P c = true) : L.all P = true := by
  refine List.all_eq_true.mpr fun c hc => ?_
  have h := List.all_eq_true.mp h1 c hc
  rcases Bool.eq_false_or_eq_true (isCode c) with hi | hi
  · exact h2 c (List.mem_filter.mpr ⟨hc, hi⟩)
  · simpa [hi] using h
set_option maxRecDepth 65536 in
theorem w_c0 : (Jvm.Cond.code x code maxLocals ret).before args0 about1 = true := code_word (m := ⟨1, 2⟩) (meth := k1m2) (c := k1c2) (by decide +kernel) rfl rfl rfl (by decide +kernel)
set_option maxRecDepth 65536 in
theorem w_c1 : (Jvm.Cond.code ({ cls := "com/example/devizes/devizes/zookeeper/ZooKeeperAddressToStringPinLaw", name := "mk", desc := "(ICC)Ljava/lang/String;" } : Jvm.MethodName) method_2_code (3 : Nat) (Option.some (Jvm.ClassFile.FieldType.object "java/lang/String"))).before args0 about1 = true := code_word (m := ⟨1, 1⟩) (meth := k1m1) (c := k1c1) (by decide +kernel) rfl rfl rfl (by decide +kernel)
set_option maxRecDepth 65536 in
theorem w_c2 : (Jvm.Cond.code ({ cls := "java/lang/String", name := "<init>", desc := "([C)V" } : Jvm.MethodName) jdk_42_method_3_code (2 : Nat) (Option.none : Option Jvm.ClassFile.FieldType)).before args0 about1 = true := code_word (m := ⟨7, 1⟩) (meth := k7m1) (c := k7c1) (by decide +kernel) rfl rfl rfl (by decide +kernel)
set_option maxRecDepth 65536 in
theorem w_c3 : (Jvm.Cond.code ({ cls := "java/lang/String", name := "<init>", desc := "([CIILjava/lang/Void;)V" } : Jvm.MethodName) jdk_42_method_149_code (6 : Nat) (Option.none : Option Jvm.ClassFile.FieldType)).before args0 about1 = true := code_word (m := ⟨7, 6⟩) (meth := k7m6) (c := k7c6) (by decide +kernel) rfl rfl rfl (by decide +kernel)
set_option maxRecDepth 65536 in
theorem w_c4 : (Jvm.Cond.code ({ cls := "java/lang/Object", name := "<init>", desc := "()V" } : Jvm.MethodName) object_method_1_code (1 : Nat) (Option.none : Option Jvm.ClassFile.FieldType)).before args0 about1 = true := code_word (m := ⟨0, 0⟩) (meth := k0m0) (c := k0c0) (by decide +kernel) rfl rfl rfl (by decide +kernel)
set_option maxRecDepth 65536 in
theorem w_c5 : (Jvm.Cond.code ({ cls := "com/example/devizes/devizes/zookeeper/ZooKeeperAddress", name := "<init>", desc := "(Ljava/lang/String;Ljava/lang/String;)V" } : Jvm.MethodName) prog_26_method_1_code (3 : Nat) (Option.none : Option Jvm.ClassFile.FieldType)).before args0 about1 = true := code_word (m := ⟨9, 0⟩) (meth := k9m0) (c := k9c0) (by decide +kernel) rfl rfl rfl (by decide +kernel)
set_option maxRecDepth 65536 in
theorem w_c6 : (Jvm.Cond.code ({ cls := "java/lang/Record", name := "<init>", desc := "()V" } : Jvm.MethodName) jdk_30_method_1_code (1 : Nat) (Option.none : Option Jvm.ClassFile.FieldType)).before args0 about1 = true := code_word (m := ⟨8, 0⟩) (meth := k8m0) (c := k8c0) (by decide +kernel) rfl rfl rfl (by decide +kernel)
set_option maxRecDepth 65536 in
theorem w_c7 : (Jvm.Cond.code ({ cls := "com/example/devizes/devizes/zookeeper/ZooKeeperAddress", name := "toString", desc := "()Ljava/lang/String;" } : Jvm.MethodName) prog_26_method_5_code (1 : Nat) (Option.some (Jvm.ClassFile.FieldType.object "java/lang/String"))).before args0 about1 = true := code_word (m := ⟨9, 1⟩) (meth := k9m1) (c := k9c1) (by decide +kernel) rfl rfl rfl (by decide +kernel)
set_option maxRecDepth 65536 in
theorem w_c8 : (Jvm.Cond.code ({ cls := "java/lang/StringBuilder", name := "<init>", desc := "()V" } : Jvm.MethodName) jdk_67_method_1_code (1 : Nat) (Option.none : Option Jvm.ClassFile.FieldType)).before args0 about1 = true := code_word (m := ⟨12, 0⟩) (meth := k12m0) (c := k12c0) (by decide +kernel) rfl rfl rfl (by decide +kernel)
set_option maxRecDepth 65536 in
theorem w_c9 : (Jvm.Cond.code ({ cls := "java/lang/AbstractStringBuilder", name := "<init>", desc := "(I)V" } : Jvm.MethodName) jdk_68_method_2_code (2 : Nat) (Option.none : Option Jvm.ClassFile.FieldType)).before args0 about1 = true := code_word (m := ⟨11, 1⟩) (meth := k11m1) (c := k11c1) (by decide +kernel) rfl rfl rfl (by decide +kernel)
set_option maxRecDepth 65536 in
theorem w_c10 : (Jvm.Cond.code ({ cls := "java/lang/StringBuilder", name := "append", desc := "(Ljava/lang/String;)Ljava/lang/StringBuilder;" } : Jvm.MethodName) jdk_67_method_7_code (2 : Nat) (Option.some (Jvm.ClassFile.FieldType.object "java/lang/StringBuilder"))).before args0 about1 = true := code_word (m := ⟨12, 1⟩) (meth := k12m1) (c := k12c1) (by decide +kernel) rfl rfl rfl (by decide +kernel)
set_option maxRecDepth 65536 in
theorem w_c11 : (Jvm.Cond.code ({ cls := "java/lang/AbstractStringBuilder", name := "append", desc := "(Ljava/lang/String;)Ljava/lang/AbstractStringBuilder;" } : Jvm.MethodName) jdk_68_method_22_code (3 : Nat) (Option.some (Jvm.ClassFile.FieldType.object "java/lang/AbstractStringBuilder"))).before args0 about1 = true := code_word (m := ⟨11, 5⟩) (meth := k11m5) (c := k11c5) (by decide +kernel) rfl rfl rfl (by decide +kernel)
set_option maxRecDepth 65536 in
theorem w_c12 : (Jvm.Cond.code ({ cls := "java/lang/String", name := "length", desc := "()I" } : Jvm.MethodName) jdk_42_method_54_code (1 : Nat) (Option.some Jvm.ClassFile.FieldType.int)).before args0 about1 = true := code_word (m := ⟨7, 3⟩) (meth := k7m3) (c := k7c3) (by decide +kernel) rfl rfl rfl (by decide +kernel)
set_option maxRecDepth 65536 in
theorem w_c13 : (Jvm.Cond.code ({ cls := "java/lang/String", name := "coder", desc := "()B" } : Jvm.MethodName) jdk_42_method_152_code (1 : Nat) (Option.some Jvm.ClassFile.FieldType.byte)).before args0 about1 = true := code_word (m := ⟨7, 8⟩) (meth := k7m8) (c := k7c8) (by decide +kernel) rfl rfl rfl (by decide +kernel)
set_option maxRecDepth 65536 in
theorem w_c14 : (Jvm.Cond.code ({ cls := "java/lang/AbstractStringBuilder", name := "ensureCapacityInternal", desc := "(I)V" } : Jvm.MethodName) jdk_68_method_9_code (3 : Nat) (Option.none : Option Jvm.ClassFile.FieldType)).before args0 about1 = true := code_word (m := ⟨11, 3⟩) (meth := k11m3) (c := k11c3) (by decide +kernel) rfl rfl rfl (by decide +kernel)
set_option maxRecDepth 65536 in
theorem w_c15 : (Jvm.Cond.code ({ cls := "java/lang/AbstractStringBuilder", name := "putStringAt", desc := "(ILjava/lang/String;)V" } : Jvm.MethodName) jdk_68_method_73_code (3 : Nat) (Option.none : Option Jvm.ClassFile.FieldType)).before args0 about1 = true := code_word (m := ⟨11, 9⟩) (meth := k11m9) (c := k11c9) (by decide +kernel) rfl rfl rfl (by decide +kernel)
set_option maxRecDepth 65536 in
theorem w_c16 : (Jvm.Cond.code ({ cls := "java/lang/AbstractStringBuilder", name := "inflateIfNeededFor", desc := "(Ljava/lang/String;)V" } : Jvm.MethodName) jdk_68_method_71_code (2 : Nat) (Option.none : Option Jvm.ClassFile.FieldType)).before args0 about1 = true := code_word (m := ⟨11, 8⟩) (meth := k11m8) (c := k11c8) (by decide +kernel) rfl rfl rfl (by decide +kernel)
set_option maxRecDepth 65536 in
theorem w_c17 : (Jvm.Cond.code ({ cls := "java/lang/String", name := "getBytes", desc := "([BIB)V" } : Jvm.MethodName) jdk_42_method_147_code (4 : Nat) (Option.none : Option Jvm.ClassFile.FieldType)).before args0 about1 = true := code_word (m := ⟨7, 5⟩) (meth := k7m5) (c := k7c5) (by decide +kernel) rfl rfl rfl (by decide +kernel)
set_option maxRecDepth 65536 in
theorem w_c18 : (Jvm.Cond.code ({ cls := "java/lang/StringBuilder", name := "toString", desc := "()Ljava/lang/String;" } : Jvm.MethodName) jdk_67_method_42_code (1 : Nat) (Option.some (Jvm.ClassFile.FieldType.object "java/lang/String"))).before args0 about1 = true := code_word (m := ⟨12, 2⟩) (meth := k12m2) (c := k12c2) (by decide +kernel) rfl rfl rfl (by decide +kernel)
set_option maxRecDepth 65536 in
theorem w_c19 : (Jvm.Cond.code ({ cls := "java/lang/String", name := "<init>", desc := "(Ljava/lang/StringBuilder;)V" } : Jvm.MethodName) jdk_42_method_53_code (2 : Nat) (Option.none : Option Jvm.ClassFile.FieldType)).before args0 about1 = true := code_word (m := ⟨7, 2⟩) (meth := k7m2) (c := k7c2) (by decide +kernel) rfl rfl rfl (by decide +kernel)
set_option maxRecDepth 65536 in
theorem w_c20 : (Jvm.Cond.code ({ cls := "java/lang/String", name := "<init>", desc := "(Ljava/lang/AbstractStringBuilder;Ljava/lang/Void;)V" } : Jvm.MethodName) jdk_42_method_150_code (5 : Nat) (Option.none : Option Jvm.ClassFile.FieldType)).before args0 about1 = true := code_word (m := ⟨7, 7⟩) (meth := k7m7) (c := k7c7) (by decide +kernel) rfl rfl rfl (by decide +kernel)
set_option maxRecDepth 65536 in
theorem w_c21 : (Jvm.Cond.code ({ cls := "java/lang/AbstractStringBuilder", name := "getValue", desc := "()[B" } : Jvm.MethodName) jdk_68_method_64_code (1 : Nat) (Option.some (Jvm.ClassFile.FieldType.array Jvm.ClassFile.FieldType.byte))).before args0 about1 = true := code_word (m := ⟨11, 6⟩) (meth := k11m6) (c := k11c6) (by decide +kernel) rfl rfl rfl (by decide +kernel)
set_option maxRecDepth 65536 in
theorem w_c22 : (Jvm.Cond.code ({ cls := "java/lang/StringBuilder", name := "length", desc := "()I" } : Jvm.MethodName) jdk_67_method_93_code (1 : Nat) (Option.some Jvm.ClassFile.FieldType.int)).before args0 about1 = true := code_word (m := ⟨12, 3⟩) (meth := k12m3) (c := k12c3) (by decide +kernel) rfl rfl rfl (by decide +kernel)
set_option maxRecDepth 65536 in
theorem w_c23 : (Jvm.Cond.code ({ cls := "java/lang/AbstractStringBuilder", name := "length", desc := "()I" } : Jvm.MethodName) jdk_68_method_6_code (1 : Nat) (Option.some Jvm.ClassFile.FieldType.int)).before args0 about1 = true := code_word (m := ⟨11, 2⟩) (meth := k11m2) (c := k11c2) (by decide +kernel) rfl rfl rfl (by decide +kernel)
set_option maxRecDepth 65536 in
theorem w_c24 : (Jvm.Cond.code ({ cls := "java/lang/AbstractStringBuilder", name := "isLatin1", desc := "()Z" } : Jvm.MethodName) jdk_68_method_68_code (1 : Nat) (Option.some Jvm.ClassFile.FieldType.boolean)).before args0 about1 = true := code_word (m := ⟨11, 7⟩) (meth := k11m7) (c := k11c7) (by decide +kernel) rfl rfl rfl (by decide +kernel)
set_option maxRecDepth 65536 in
theorem w_c25 : (Jvm.Cond.code ({ cls := "java/util/Arrays", name := "copyOfRange", desc := "([BII)[B" } : Jvm.MethodName) jdk_65_method_132_code (3 : Nat) (Option.some (Jvm.ClassFile.FieldType.array Jvm.ClassFile.FieldType.byte))).before args0 about1 = true := code_word (m := ⟨14, 2⟩) (meth := k14m2) (c := k14c2) (by decide +kernel) rfl rfl rfl (by decide +kernel)
set_option maxRecDepth 65536 in
theorem w_c26 : (Jvm.Cond.code ({ cls := "java/util/Arrays", name := "copyOfRangeByte", desc := "([BII)[B" } : Jvm.MethodName) jdk_65_method_133_code (5 : Nat) (Option.some (Jvm.ClassFile.FieldType.array Jvm.ClassFile.FieldType.byte))).before args0 about1 = true := code_word (m := ⟨14, 3⟩) (meth := k14m3) (c := k14c3) (by decide +kernel) rfl rfl rfl (by decide +kernel)
set_option maxRecDepth 65536 in
theorem w_c27 : (Jvm.Cond.code ({ cls := "java/util/Arrays", name := "checkLength", desc := "(II)V" } : Jvm.MethodName) jdk_65_method_131_code (2 : Nat) (Option.none : Option Jvm.ClassFile.FieldType)).before args0 about1 = true := code_word (m := ⟨14, 1⟩) (meth := k14m1) (c := k14c1) (by decide +kernel) rfl rfl rfl (by decide +kernel)
set_option maxRecDepth 65536 in
theorem w_c28 : (Jvm.Cond.code ({ cls := "java/lang/Math", name := "min", desc := "(II)I" } : Jvm.MethodName) jdk_29_method_69_code (2 : Nat) (Option.some Jvm.ClassFile.FieldType.int)).before args0 about1 = true := code_word (m := ⟨15, 1⟩) (meth := k15m1) (c := k15c1) (by decide +kernel) rfl rfl rfl (by decide +kernel)
set_option maxRecDepth 65536 in
theorem w_c29 : (Jvm.Cond.code ({ cls := "java/lang/StringUTF16", name := "compress", desc := "([CII)[B" } : Jvm.MethodName) jdk_52_method_16_code (6 : Nat) (Option.some (Jvm.ClassFile.FieldType.array Jvm.ClassFile.FieldType.byte))).before args0 about1 = true := code_word (m := ⟨16, 8⟩) (meth := k16m8) (c := k16c8) (by decide +kernel) rfl rfl rfl (by decide +kernel)
set_option maxRecDepth 65536 in
theorem w_c30 : (Jvm.Cond.code ({ cls := "java/lang/StringUTF16", name := "compress", desc := "([CI[BII)I" } : Jvm.MethodName) jdk_52_method_21_code (7 : Nat) (Option.some Jvm.ClassFile.FieldType.int)).before args0 about1 = true := code_word (m := ⟨16, 9⟩) (meth := k16m9) (c := k16c9) (by decide +kernel) rfl rfl rfl (by decide +kernel)
set_option maxRecDepth 65536 in
theorem w_c31 : (Jvm.Cond.code ({ cls := "java/lang/StringUTF16", name := "coderFromArrayLen", desc := "([BI)B" } : Jvm.MethodName) jdk_52_method_15_code (2 : Nat) (Option.some Jvm.ClassFile.FieldType.byte)).before args0 about1 = true := code_word (m := ⟨16, 7⟩) (meth := k16m7) (c := k16c7) (by decide +kernel) rfl rfl rfl (by decide +kernel)
set_option maxRecDepth 65536 in
theorem w_c32 : (Jvm.Cond.code ({ cls := "java/lang/String", name := "equals", desc := "(Ljava/lang/Object;)Z" } : Jvm.MethodName) jdk_42_method_66_code (3 : Nat) (Option.some Jvm.ClassFile.FieldType.boolean)).before args0 about1 = true := code_word (m := ⟨7, 4⟩) (meth := k7m4) (c := k7c4) (by decide +kernel) rfl rfl rfl (by decide +kernel)
set_option maxRecDepth 65536 in
theorem w_c33 : (Jvm.Cond.code ({ cls := "java/lang/StringLatin1", name := "equals", desc := "([B[B)Z" } : Jvm.MethodName) jdk_43_method_13_code (3 : Nat) (Option.some Jvm.ClassFile.FieldType.boolean)).before args0 about1 = true := code_word (m := ⟨17, 1⟩) (meth := k17m1) (c := k17c1) (by decide +kernel) rfl rfl rfl (by decide +kernel)
set_option maxRecDepth 65536 in
theorem w_c34 : (Jvm.Cond.code ({ cls := "java/lang/StringUTF16", name := "toBytes", desc := "([CII)[B" } : Jvm.MethodName) jdk_52_method_14_code (5 : Nat) (Option.some (Jvm.ClassFile.FieldType.array Jvm.ClassFile.FieldType.byte))).before args0 about1 = true := code_word (m := ⟨16, 6⟩) (meth := k16m6) (c := k16c6) (by decide +kernel) rfl rfl rfl (by decide +kernel)
set_option maxRecDepth 65536 in
theorem w_c35 : (Jvm.Cond.code ({ cls := "java/lang/StringUTF16", name := "newBytesFor", desc := "(I)[B" } : Jvm.MethodName) jdk_52_method_2_code (1 : Nat) (Option.some (Jvm.ClassFile.FieldType.array Jvm.ClassFile.FieldType.byte))).before args0 about1 = true := code_word (m := ⟨16, 1⟩) (meth := k16m1) (c := k16c1) (by decide +kernel) rfl rfl rfl (by decide +kernel)
set_option maxRecDepth 65536 in
theorem w_c36 : (Jvm.Cond.code ({ cls := "java/lang/StringUTF16", name := "newBytesLength", desc := "(I)I" } : Jvm.MethodName) jdk_52_method_3_code (1 : Nat) (Option.some Jvm.ClassFile.FieldType.int)).before args0 about1 = true := code_word (m := ⟨16, 2⟩) (meth := k16m2) (c := k16c2) (by decide +kernel) rfl rfl rfl (by decide +kernel)
set_option maxRecDepth 65536 in
theorem w_c37 : (Jvm.Cond.code ({ cls := "java/lang/StringUTF16", name := "putChar", desc := "([BII)V" } : Jvm.MethodName) jdk_52_method_4_code (3 : Nat) (Option.none : Option Jvm.ClassFile.FieldType)).before args0 about1 = true := code_word (m := ⟨16, 3⟩) (meth := k16m3) (c := k16c3) (by decide +kernel) rfl rfl rfl (by decide +kernel)
set_option maxRecDepth 65536 in
theorem w_c38 : (Jvm.Cond.code ({ cls := "java/lang/StringUTF16", name := "getChar", desc := "([BI)C" } : Jvm.MethodName) jdk_52_method_5_code (2 : Nat) (Option.some Jvm.ClassFile.FieldType.char)).before args0 about1 = true := code_word (m := ⟨16, 4⟩) (meth := k16m4) (c := k16c4) (by decide +kernel) rfl rfl rfl (by decide +kernel)
set_option maxRecDepth 65536 in
theorem w_c39 : (Jvm.Cond.code ({ cls := "java/lang/AbstractStringBuilder", name := "inflate", desc := "()V" } : Jvm.MethodName) jdk_68_method_11_code (2 : Nat) (Option.none : Option Jvm.ClassFile.FieldType)).before args0 about1 = true := code_word (m := ⟨11, 4⟩) (meth := k11m4) (c := k11c4) (by decide +kernel) rfl rfl rfl (by decide +kernel)
set_option maxRecDepth 65536 in
theorem w_c40 : (Jvm.Cond.code ({ cls := "java/lang/StringLatin1", name := "inflate", desc := "([BI[BII)V" } : Jvm.MethodName) jdk_43_method_50_code (5 : Nat) (Option.none : Option Jvm.ClassFile.FieldType)).before args0 about1 = true := code_word (m := ⟨17, 2⟩) (meth := k17m2) (c := k17c2) (by decide +kernel) rfl rfl rfl (by decide +kernel)
set_option maxRecDepth 65536 in
theorem w_c41 : (Jvm.Cond.code ({ cls := "java/lang/StringUTF16", name := "inflate", desc := "([BI[BII)V" } : Jvm.MethodName) jdk_52_method_86_code (6 : Nat) (Option.none : Option Jvm.ClassFile.FieldType)).before args0 about1 = true := code_word (m := ⟨16, 10⟩) (meth := k16m10) (c := k16c10) (by decide +kernel) rfl rfl rfl (by decide +kernel)
set_option maxRecDepth 65536 in
theorem w_c42 : (Jvm.Cond.code ({ cls := "java/lang/StringUTF16", name := "checkBoundsOffCount", desc := "(II[B)V" } : Jvm.MethodName) jdk_52_method_94_code (3 : Nat) (Option.none : Option Jvm.ClassFile.FieldType)).before args0 about1 = true := code_word (m := ⟨16, 11⟩) (meth := k16m11) (c := k16c11) (by decide +kernel) rfl rfl rfl (by decide +kernel)
set_option maxRecDepth 65536 in
theorem w_c43 : (Jvm.Cond.code ({ cls := "java/lang/StringUTF16", name := "length", desc := "([B)I" } : Jvm.MethodName) jdk_52_method_6_code (1 : Nat) (Option.some Jvm.ClassFile.FieldType.int)).before args0 about1 = true := code_word (m := ⟨16, 5⟩) (meth := k16m5) (c := k16c5) (by decide +kernel) rfl rfl rfl (by decide +kernel)
set_option maxRecDepth 65536 in
theorem w_c44 : (Jvm.Cond.code ({ cls := "java/lang/String", name := "checkBoundsOffCount", desc := "(III)I" } : Jvm.MethodName) jdk_42_method_157_code (3 : Nat) (Option.some Jvm.ClassFile.FieldType.int)).before args0 about1 = true := code_word (m := ⟨7, 9⟩) (meth := k7m9) (c := k7c9) (by decide +kernel) rfl rfl rfl (by decide +kernel)
set_option maxRecDepth 65536 in
theorem w_c45 : (Jvm.Cond.code ({ cls := "jdk/internal/util/Preconditions", name := "checkFromIndexSize", desc := "(IIILjava/util/function/BiFunction;)I" } : Jvm.MethodName) jdk_41_method_13_code (4 : Nat) (Option.some Jvm.ClassFile.FieldType.int)).before args0 about1 = true := code_word (m := ⟨18, 1⟩) (meth := k18m1) (c := k18c1) (by decide +kernel) rfl rfl rfl (by decide +kernel)
def codes1 : List Jvm.Cond := [Jvm.Cond.code x code maxLocals ret, Jvm.Cond.code ({ cls := "com/example/devizes/devizes/zookeeper/ZooKeeperAddressToStringPinLaw", name := "mk", desc := "(ICC)Ljava/lang/String;" } : Jvm.MethodName) method_2_code (3 : Nat) (Option.some (Jvm.ClassFile.FieldType.object "java/lang/String")), Jvm.Cond.code ({ cls := "java/lang/String", name := "<init>", desc := "([C)V" } : Jvm.MethodName) jdk_42_method_3_code (2 : Nat) (Option.none : Option Jvm.ClassFile.FieldType), Jvm.Cond.code ({ cls := "java/lang/String", name := "<init>", desc := "([CIILjava/lang/Void;)V" } : Jvm.MethodName) jdk_42_method_149_code (6 : Nat) (Option.none : Option Jvm.ClassFile.FieldType), Jvm.Cond.code ({ cls := "java/lang/Object", name := "<init>", desc := "()V" } : Jvm.MethodName) object_method_1_code (1 : Nat) (Option.none : Option Jvm.ClassFile.FieldType), Jvm.Cond.code ({ cls := "com/example/devizes/devizes/zookeeper/ZooKeeperAddress", name := "<init>", desc := "(Ljava/lang/String;Ljava/lang/String;)V" } : Jvm.MethodName) prog_26_method_1_code (3 : Nat) (Option.none : Option Jvm.ClassFile.FieldType), Jvm.Cond.code ({ cls := "java/lang/Record", name := "<init>", desc := "()V" } : Jvm.MethodName) jdk_30_method_1_code (1 : Nat) (Option.none : Option Jvm.ClassFile.FieldType), Jvm.Cond.code ({ cls := "com/example/devizes/devizes/zookeeper/ZooKeeperAddress", name := "toString", desc := "()Ljava/lang/String;" } : Jvm.MethodName) prog_26_method_5_code (1 : Nat) (Option.some (Jvm.ClassFile.FieldType.object "java/lang/String")), Jvm.Cond.code ({ cls := "java/lang/StringBuilder", name := "<init>", desc := "()V" } : Jvm.MethodName) jdk_67_method_1_code (1 : Nat) (Option.none : Option Jvm.ClassFile.FieldType), Jvm.Cond.code ({ cls := "java/lang/AbstractStringBuilder", name := "<init>", desc := "(I)V" } : Jvm.MethodName) jdk_68_method_2_code (2 : Nat) (Option.none : Option Jvm.ClassFile.FieldType), Jvm.Cond.code ({ cls := "java/lang/StringBuilder", name := "append", desc := "(Ljava/lang/String;)Ljava/lang/StringBuilder;" } : Jvm.MethodName) jdk_67_method_7_code (2 : Nat) (Option.some (Jvm.ClassFile.FieldType.object "java/lang/StringBuilder")), Jvm.Cond.code ({ cls := "java/lang/AbstractStringBuilder", name := "append", desc := "(Ljava/lang/String;)Ljava/lang/AbstractStringBuilder;" } : Jvm.MethodName) jdk_68_method_22_code (3 : Nat) (Option.some (Jvm.ClassFile.FieldType.object "java/lang/AbstractStringBuilder")), Jvm.Cond.code ({ cls := "java/lang/String", name := "length", desc := "()I" } : Jvm.MethodName) jdk_42_method_54_code (1 : Nat) (Option.some Jvm.ClassFile.FieldType.int), Jvm.Cond.code ({ cls := "java/lang/String", name := "coder", desc := "()B" } : Jvm.MethodName) jdk_42_method_152_code (1 : Nat) (Option.some Jvm.ClassFile.FieldType.byte), Jvm.Cond.code ({ cls := "java/lang/AbstractStringBuilder", name := "ensureCapacityInternal", desc := "(I)V" } : Jvm.MethodName) jdk_68_method_9_code (3 : Nat) (Option.none : Option Jvm.ClassFile.FieldType), Jvm.Cond.code ({ cls := "java/lang/AbstractStringBuilder", name := "putStringAt", desc := "(ILjava/lang/String;)V" } : Jvm.MethodName) jdk_68_method_73_code (3 : Nat) (Option.none : Option Jvm.ClassFile.FieldType), Jvm.Cond.code ({ cls := "java/lang/AbstractStringBuilder", name := "inflateIfNeededFor", desc := "(Ljava/lang/String;)V" } : Jvm.MethodName) jdk_68_method_71_code (2 : Nat) (Option.none : Option Jvm.ClassFile.FieldType), Jvm.Cond.code ({ cls := "java/lang/String", name := "getBytes", desc := "([BIB)V" } : Jvm.MethodName) jdk_42_method_147_code (4 : Nat) (Option.none : Option Jvm.ClassFile.FieldType), Jvm.Cond.code ({ cls := "java/lang/StringBuilder", name := "toString", desc := "()Ljava/lang/String;" } : Jvm.MethodName) jdk_67_method_42_code (1 : Nat) (Option.some (Jvm.ClassFile.FieldType.object "java/lang/String")), Jvm.Cond.code ({ cls := "java/lang/String", name := "<init>", desc := "(Ljava/lang/StringBuilder;)V" } : Jvm.MethodName) jdk_42_method_53_code (2 : Nat) (Option.none : Option Jvm.ClassFile.FieldType), Jvm.Cond.code ({ cls := "java/lang/String", name := "<init>", desc := "(Ljava/lang/AbstractStringBuilder;Ljava/lang/Void;)V" } : Jvm.MethodName) jdk_42_method_150_code (5 : Nat) (Option.none : Option Jvm.ClassFile.FieldType), Jvm.Cond.code ({ cls := "java/lang/AbstractStringBuilder", name := "getValue", desc := "()[B" } : Jvm.MethodName) jdk_68_method_64_code (1 : Nat) (Option.some (Jvm.ClassFile.FieldType.array Jvm.ClassFile.FieldType.byte)), Jvm.Cond.code ({ cls := "java/lang/StringBuilder", name := "length", desc := "()I" } : Jvm.MethodName) jdk_67_method_93_code (1 : Nat) (Option.some Jvm.ClassFile.FieldType.int), Jvm.Cond.code ({ cls := "java/lang/AbstractStringBuilder", name := "length", desc := "()I" } : Jvm.MethodName) jdk_68_method_6_code (1 : Nat) (Option.some Jvm.ClassFile.FieldType.int), Jvm.Cond.code ({ cls := "java/lang/AbstractStringBuilder", name := "isLatin1", desc := "()Z" } : Jvm.MethodName) jdk_68_method_68_code (1 : Nat) (Option.some Jvm.ClassFile.FieldType.boolean), Jvm.Cond.code ({ cls := "java/util/Arrays", name := "copyOfRange", desc := "([BII)[B" } : Jvm.MethodName) jdk_65_method_132_code (3 : Nat) (Option.some (Jvm.ClassFile.FieldType.array Jvm.ClassFile.FieldType.byte)), Jvm.Cond.code ({ cls := "java/util/Arrays", name := "copyOfRangeByte", desc := "([BII)[B" } : Jvm.MethodName) jdk_65_method_133_code (5 : Nat) (Option.some (Jvm.ClassFile.FieldType.array Jvm.ClassFile.FieldType.byte)), Jvm.Cond.code ({ cls := "java/util/Arrays", name := "checkLength", desc := "(II)V" } : Jvm.MethodName) jdk_65_method_131_code (2 : Nat) (Option.none : Option Jvm.ClassFile.FieldType), Jvm.Cond.code ({ cls := "java/lang/Math", name := "min", desc := "(II)I" } : Jvm.MethodName) jdk_29_method_69_code (2 : Nat) (Option.some Jvm.ClassFile.FieldType.int), Jvm.Cond.code ({ cls := "java/lang/StringUTF16", name := "compress", desc := "([CII)[B" } : Jvm.MethodName) jdk_52_method_16_code (6 : Nat) (Option.some (Jvm.ClassFile.FieldType.array Jvm.ClassFile.FieldType.byte)), Jvm.Cond.code ({ cls := "java/lang/StringUTF16", name := "compress", desc := "([CI[BII)I" } : Jvm.MethodName) jdk_52_method_21_code (7 : Nat) (Option.some Jvm.ClassFile.FieldType.int), Jvm.Cond.code ({ cls := "java/lang/StringUTF16", name := "coderFromArrayLen", desc := "([BI)B" } : Jvm.MethodName) jdk_52_method_15_code (2 : Nat) (Option.some Jvm.ClassFile.FieldType.byte), Jvm.Cond.code ({ cls := "java/lang/String", name := "equals", desc := "(Ljava/lang/Object;)Z" } : Jvm.MethodName) jdk_42_method_66_code (3 : Nat) (Option.some Jvm.ClassFile.FieldType.boolean), Jvm.Cond.code ({ cls := "java/lang/StringLatin1", name := "equals", desc := "([B[B)Z" } : Jvm.MethodName) jdk_43_method_13_code (3 : Nat) (Option.some Jvm.ClassFile.FieldType.boolean), Jvm.Cond.code ({ cls := "java/lang/StringUTF16", name := "toBytes", desc := "([CII)[B" } : Jvm.MethodName) jdk_52_method_14_code (5 : Nat) (Option.some (Jvm.ClassFile.FieldType.array Jvm.ClassFile.FieldType.byte)), Jvm.Cond.code ({ cls := "java/lang/StringUTF16", name := "newBytesFor", desc := "(I)[B" } : Jvm.MethodName) jdk_52_method_2_code (1 : Nat) (Option.some (Jvm.ClassFile.FieldType.array Jvm.ClassFile.FieldType.byte)), Jvm.Cond.code ({ cls := "java/lang/StringUTF16", name := "newBytesLength", desc := "(I)I" } : Jvm.MethodName) jdk_52_method_3_code (1 : Nat) (Option.some Jvm.ClassFile.FieldType.int), Jvm.Cond.code ({ cls := "java/lang/StringUTF16", name := "putChar", desc := "([BII)V" } : Jvm.MethodName) jdk_52_method_4_code (3 : Nat) (Option.none : Option Jvm.ClassFile.FieldType), Jvm.Cond.code ({ cls := "java/lang/StringUTF16", name := "getChar", desc := "([BI)C" } : Jvm.MethodName) jdk_52_method_5_code (2 : Nat) (Option.some Jvm.ClassFile.FieldType.char), Jvm.Cond.code ({ cls := "java/lang/AbstractStringBuilder", name := "inflate", desc := "()V" } : Jvm.MethodName) jdk_68_method_11_code (2 : Nat) (Option.none : Option Jvm.ClassFile.FieldType), Jvm.Cond.code ({ cls := "java/lang/StringLatin1", name := "inflate", desc := "([BI[BII)V" } : Jvm.MethodName) jdk_43_method_50_code (5 : Nat) (Option.none : Option Jvm.ClassFile.FieldType), Jvm.Cond.code ({ cls := "java/lang/StringUTF16", name := "inflate", desc := "([BI[BII)V" } : Jvm.MethodName) jdk_52_method_86_code (6 : Nat) (Option.none : Option Jvm.ClassFile.FieldType), Jvm.Cond.code ({ cls := "java/lang/StringUTF16", name := "checkBoundsOffCount", desc := "(II[B)V" } : Jvm.MethodName) jdk_52_method_94_code (3 : Nat) (Option.none : Option Jvm.ClassFile.FieldType), Jvm.Cond.code ({ cls := "java/lang/StringUTF16", name := "length", desc := "([B)I" } : Jvm.MethodName) jdk_52_method_6_code (1 : Nat) (Option.some Jvm.ClassFile.FieldType.int), Jvm.Cond.code ({ cls := "java/lang/String", name := "checkBoundsOffCount", desc := "(III)I" } : Jvm.MethodName) jdk_42_method_157_code (3 : Nat) (Option.some Jvm.ClassFile.FieldType.int), Jvm.Cond.code ({ cls := "jdk/internal/util/Preconditions", name := "checkFromIndexSize", desc := "(IIILjava/util/function/BiFunction;)I" } : Jvm.MethodName) jdk_41_method_13_code (4 : Nat) (Option.some Jvm.ClassFile.FieldType.int)]
set_option maxRecDepth 65536 in
theorem codes_eq : words1.filter isCode = codes1 := rfl
theorem w_codes : ∀ c ∈ words1.filter isCode, c.before args0 about1 = true := by
  rw [codes_eq]
  intro c hc
  simp only [codes1, List.mem_cons, List.not_mem_nil, or_false] at hc
  rcases hc with rfl | rfl | rfl | rfl | rfl | rfl | rfl | rfl | rfl | rfl | rfl | rfl | rfl | rfl | rfl | rfl | rfl | rfl | rfl | rfl | rfl | rfl | rfl | rfl | rfl | rfl | rfl | rfl | rfl | rfl | rfl | rfl | rfl | rfl | rfl | rfl | rfl | rfl | rfl | rfl | rfl | rfl | rfl | rfl | rfl | rfl
  · exact w_c0
  · exact w_c1
  · exact w_c2
  · exact w_c3
  · exact w_c4
  · exact w_c5
  · exact w_c6
  · exact w_c7
  · exact w_c8
  · exact w_c9
  · exact w_c10
  · exact w_c11
  · exact w_c12
  · exact w_c13
  · exact w_c14
  · exact w_c15
  · exact w_c16
  · exact w_c17
  · exact w_c18
  · exact w_c19
  · exact w_c20
  · exact w_c21
  · exact w_c22
  · exact w_c23
  · exact w_c24
  · exact w_c25
  · exact w_c26
  · exact w_c27
  · exact w_c28
  · exact w_c29
  · exact w_c30
  · exact w_c31
  · exact w_c32
  · exact w_c33
  · exact w_c34
  · exact w_c35
  · exact w_c36
  · exact w_c37
  · exact w_c38
  · exact w_c39
  · exact w_c40
  · exact w_c41
  · exact w_c42
  · exact w_c43
  · exact w_c44
  · exact w_c45
set_option maxRecDepth 65536 in
theorem w_t1 : (words1.take 24).all (fun c => isCode c || c.before args0 about1) = true := by decide +kernel
set_option maxRecDepth 65536 in
theorem w_t2 : ((words1.drop 24).take 24).all (fun c => isCode c || c.before args0 about1) = true := by decide +kernel
set_option maxRecDepth 65536 in
theorem w_t3 : (((words1.drop 24).drop 24).take 24).all (fun c => isCode c || c.before args0 about1) = true := by decide +kernel
set_option maxRecDepth 65536 in
theorem w_t4 : ((((words1.drop 24).drop 24).drop 24).take 24).all (fun c => isCode c || c.before args0 about1) = true := by decide +kernel
set_option maxRecDepth 65536 in
theorem w_t5 : (((((words1.drop 24).drop 24).drop 24).drop 24).take 24).all (fun c => isCode c || c.before args0 about1) = true := by decide +kernel
set_option maxRecDepth 65536 in
theorem w_t6 : ((((((words1.drop 24).drop 24).drop 24).drop 24).drop 24).take 24).all (fun c => isCode c || c.before args0 about1) = true := by decide +kernel
set_option maxRecDepth 65536 in
theorem w_t7 : (((((((words1.drop 24).drop 24).drop 24).drop 24).drop 24).drop 24).take 24).all (fun c => isCode c || c.before args0 about1) = true := by decide +kernel
set_option maxRecDepth 65536 in
theorem w_t8 : ((((((((words1.drop 24).drop 24).drop 24).drop 24).drop 24).drop 24).drop 24).take 24).all (fun c => isCode c || c.before args0 about1) = true := by decide +kernel
set_option maxRecDepth 65536 in
theorem w_t9 : (((((((((words1.drop 24).drop 24).drop 24).drop 24).drop 24).drop 24).drop 24).drop 24).take 24).all (fun c => isCode c || c.before args0 about1) = true := by decide +kernel
set_option maxRecDepth 65536 in
theorem w_t10 : (((((((((words1.drop 24).drop 24).drop 24).drop 24).drop 24).drop 24).drop 24).drop 24).drop 24).all (fun c => isCode c || c.before args0 about1) = true := by decide +kernel
theorem w_tables : (allAtoms (Jvm.Cond.code x code maxLocals ret :: tables_1)).before args0 about1 = true := by
  rw [allAtoms_all]
  show words1.all (fun c => c.before args0 about1) = true
  refine all_split ?_ w_codes
  rw [← List.take_append_drop 24 words1, List.all_append, w_t1, ← List.take_append_drop 24 (words1.drop 24), List.all_append, w_t2, ← List.take_append_drop 24 ((words1.drop 24).drop 24), List.all_append, w_t3, ← List.take_append_drop 24 (((words1.drop 24).drop 24).drop 24), List.all_append, w_t4, ← List.take_append_drop 24 ((((words1.drop 24).drop 24).drop 24).drop 24), List.all_append, w_t5, ← List.take_append_drop 24 (((((words1.drop 24).drop 24).drop 24).drop 24).drop 24), List.all_append, w_t6, ← List.take_append_drop 24 ((((((words1.drop 24).drop 24).drop 24).drop 24).drop 24).drop 24), List.all_append, w_t7, ← List.take_append_drop 24 (((((((words1.drop 24).drop 24).drop 24).drop 24).drop 24).drop 24).drop 24), List.all_append, w_t8, ← List.take_append_drop 24 ((((((((words1.drop 24).drop 24).drop 24).drop 24).drop 24).drop 24).drop 24).drop 24), List.all_append, w_t9, w_t10]
  rfl
set_option maxRecDepth 65536 in
theorem w_rest : rest_1_c.before args0 about1 = true := by decide +kernel
set_option maxRecDepth 65536 in
theorem w_case : (Jvm.Cond.and given_1 narrow_1).before args0 about1 = true := by decide +kernel
set_option maxRecDepth 65536 in
theorem w_consts : constsHeld consts_1 about1 := Jvm.Lit.constsHeldB_iff.mp (by decide +kernel)
theorem w_applies : (headSpec (Jvm.Cond.code x code maxLocals ret :: tables_1) room_1).applies x e0.platform about1 = true :=
  (Spec.applies_iff w_frames).mpr ⟨w_running, w_runnable, w_alone, w_named, w_hears, w_ripe, w_room, w_tables⟩
theorem atStart : AtStart classFile x code maxLocals ret World_1 tables_1 room_1 Calls_1 rest_1 Pre_1 launch0 p0 e0 about1 theMethod args0 below0 :=
  ⟨lists_1, trivial, launch0.admits_env _ _ _, launch0.least_env, fairChoices_fair.cas, fairChoices_fair.clock, w_frames, w_args, w_heap, w_applies, ⟨w_consts, trivial⟩, w_rest, w_case⟩
end start1
theorem witness_1 : WitnessClaimed_1 := ⟨start1.p0, start1.e0, start1.about1, start1.theMethod, start1.args0, start1.below0, start1.atStart⟩
end Jvm.Pilot.@@N@@
