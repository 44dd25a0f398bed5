import JvmDerived
import JvmDerived.Pilot.@@N@@Statement
import JvmDerived.Pilot.@@N@@Code
set_option linter.unusedVariables false
set_option linter.unusedSimpArgs false
namespace Jvm.Own
open Sem ClassFile Op Lib Jvm.Stand Jvm.Free Jvm.LawKit Jvm.RoadKit Bundle
section K
variable {p : Program} {l : Launch} {e : Env} {R : Room} {s : State} {m : MethodId} {args : Array Value} {below : List Frame} {meth : Method} {c : Code} {Z : State} {a0 : Array Value} {EL : List (String × Nat)} {pr : Bool} {y : MethodName} {bs : ByteArray} {ml : Nat} {rt : Option FieldType} {T : State} {vm0 : Vm} {h : Heap} {k n : Nat} {Φ : Outcome → State → Prop} {Ls : Array Slot} {st : List Value} {pc q : Nat}
/-- from U the run comes to its end, and Φ holds there -/
def Go (p : Program) (e : Env) (below : List Frame) (Φ : Outcome → State → Prop) (U : State) : Prop := ∃ s₂ o, Steps p.tables e below U s₂ ∧ s₂.status = .running ∧ Ended s₂ below o ∧ Φ o s₂
theorem Go.pre {U U' : State} (hr : Go p e below Φ U') (g : ∀ t, Steps p.tables e below U' t → Steps p.tables e below U t) : Go p e below Φ U := by
  obtain ⟨s2, o, h1, r⟩ := hr; exact ⟨s2, o, g _ h1, r⟩
theorem Go.pre' {U U' : State} (hr : Go p e below Φ U') (g : Steps p.tables e below U U') : Go p e below Φ U := hr.pre fun _ r => g.trans r
/-- where a walk stands: the tables vm0 since the last step that may have interned; only new places were written; what the start's heap held stands -/
def Wk (p : Program) (l : Launch) (e : Env) (R : Room) (s : State) (m : MethodId) (args : Array Value) (below : List Frame) (meth : Method) (c : Code) (Z : State) (a0 : Array Value) (EL : List (String × Nat)) (pr : Bool) (y : MethodName) (bs : ByteArray) (ml : Nat) (rt : Option FieldType) (T : State) (vm0 : Vm) (h : Heap) (k n : Nat) : Prop :=
  (p.tables.exec = Jvm.exec ∧ c.code = bs ∧ c.maxLocals = ml ∧ meth.sig.returnType = rt ∧ meth.locks = false ∧ meth.name = y.name ∧ EW Z a0 EL) ∧
  ∃ (k0 : Nat) (locs : List Loc), Stand p l e R (s.setVm vm0) m args below meth c T locs k n ∧ T.heap = h ∧ Z.Warmed39 vm0 ∧ vm0.findClass y.cls = some m.cls ∧ s.Since vm0 k0 ∧ k0 ≤ h.size ∧ Fr Z.heap.size locs ∧ CHr Z EL s.vm s.heap vm0 h ∧ Ext Z.heap h ∧ (pr = true → s.WarmedH vm0)
abbrev WkT (p : Program) (l : Launch) (e : Env) (R : Room) (s : State) (m : MethodId) (args : Array Value) (below : List Frame) (meth : Method) (c : Code) (Z : State) (a0 : Array Value) (EL : List (String × Nat)) (pr : Bool) (y : MethodName) (bs : ByteArray) (ml : Nat) (rt : Option FieldType) := Wk p l e R s m args below meth c Z a0 EL pr y bs ml rt
theorem Wk.here (w : Wk p l e R s m args below meth c Z a0 EL pr y bs ml rt T vm0 h k n) : At T m c below := by obtain ⟨-, _, _, X, -⟩ := w; exact X.here
theorem Wk.hx (w : Wk p l e R s m args below meth c Z a0 EL pr y bs ml rt T vm0 h k n) : p.tables.exec = Jvm.exec := w.1.1
theorem Wk.b (w : Wk p l e R s m args below meth c Z a0 EL pr y bs ml rt T vm0 h k n) {r : Except DecodeError (Instr × Nat)} (hd : decode bs pc = r) : decode c.code pc = r := hb w.1.2.1 hd
theorem Wk.old (w : Wk p l e R s m args below meth c Z a0 EL pr y bs ml rt T vm0 h k n) : Ext Z.heap h := by obtain ⟨-, _, _, -, -, -, -, -, -, -, -, O, -⟩ := w; exact O
theorem Wk.wz (w : Wk p l e R s m args below meth c Z a0 EL pr y bs ml rt T vm0 h k n) : Z.Warmed39 vm0 := by obtain ⟨-, _, _, -, -, hZ, -⟩ := w; exact hZ
theorem Wk.chv (w : Wk p l e R s m args below meth c Z a0 EL pr y bs ml rt T vm0 h k n) : CHv Z EL vm0 h := by obtain ⟨-, _, _, -, -, -, -, -, -, -, C, -⟩ := w; exact C.1
theorem Wk.safe (w : Wk p l e R s m args below meth c Z a0 EL pr y bs ml rt T vm0 h k n) {a : Addr} {C : String} (E : Exa Z h a C) (h1 : C ≠ "java/lang/String") (h2 : C ≠ "[B") : Safe Z EL vm0 h a := Safe.exa w.wz.alike E h1 h2
/-- how a body ends: it returned v, Q holds of v and the heap -/
def Fini (Z : State) (EL : List (String × Nat)) (pr : Bool) (kc ks : Nat) (Q : Option Value → Heap → Prop) (s : State) (o : Outcome) (t : State) : Prop :=
  ∃ v L, o = .returned v ∧ Q v t.heap ∧ Ext Z.heap t.heap ∧ Fr Z.heap.size L ∧ CHr Z EL s.vm s.heap t.vm t.heap ∧ (pr = true → s.WarmedH t.vm) ∧ ReturnedEndW s o t L kc ks
/-- a body's contract: called with these arguments at the heap h it returns, and Q holds -/
def Con (l : Launch) (Z : State) (EL : List (String × Nat)) (pr : Bool) (y : MethodName) (bs : ByteArray) (ml : Nat) (rt : Option FieldType) (ws : List Cond) (rm : Room) (as' : Array Value) (sf : List Addr) (h : Heap) (Q : Option Value → Heap → Prop) : Prop :=
  MetFree l y (head1 (Cond.code y bs ml rt :: ws) rm) (fun a U => a = as' ∧ Z.Warmed39 U.vm ∧ U.heap = h ∧ CHv Z EL U.vm h ∧ ∀ x ∈ sf, Safe Z EL U.vm h x) (fun _ _ _ _ _ => True) (fun _ U o U' => Fini Z EL pr rm.cells rm.slots Q U o U')
theorem Con.intro {ws : List Cond} {rm : Room} {as' : Array Value} {sf : List Addr} {Q : Option Value → Heap → Prop} (hpl : plainFor y = true) (hEL : EW Z a0 EL) (hO : Ext Z.heap h) (hef : ∀ m, entryFrame m as' ml = mkF m 0 Ls [])
    (body : ∀ (p : Program) (e : Env) (s : State) (m : MethodId) (below : List Frame) (meth : Method) (c : Code) (T : State), Wk p l e rm s m as' below meth c Z a0 EL pr y bs ml rt T s.vm h 0 0 → (∀ x ∈ sf, Safe Z EL s.vm h x) → Go p e below (Fini Z EL pr rm.cells rm.slots Q s) (T.setTop (mkF m 0 Ls []))) :
    Con l Z EL pr y bs ml rt ws rm as' sf h Q := by
  refine MetFree.of_bodySF hpl hisR ?_
  intro p e s m args below meth c s₁ Bd hml0 hP hK
  obtain ⟨rfl, hZ, hh, hC, hsf⟩ := hP
  have X0 : Stand p l e rm s m args below meth c s₁ [] 0 0 := Stand.of_body Bd
  have e0 : s₁.heap = h := by rw [← hh, Bd.state]; rfl
  have hown : s.vm.findClass y.cls = some m.cls := findClass_of_methodNamed Bd.named
  have hnm := (name_of_methodNamed Bd.named Bd.method).1
  have w : Wk p l e rm s m args below meth c Z a0 EL pr y bs ml rt s₁ s.vm h 0 0 :=
    ⟨⟨Bd.exec, Bd.bytes, hml0, Bd.returns, Bd.notSynchronized, hnm, hEL⟩, h.size, [], X0, e0, hZ, hown, (State.WarmedH.refl s).since _, Nat.le_refl _, Fr.nil _, by subst hh; exact CHr.refl hC, hO, fun _ => State.WarmedH.refl s⟩
  have q := body p e s m below meth c s₁ w hsf
  rw [← hef] at q
  exact q
/-- the two ends of a walk joined -/
theorem Wk.fin (w : Wk p l e R s m args below meth c Z a0 EL pr y bs ml rt T vm0 h k n) {Q : Option Value → Heap → Prop} {v : Option Value} (hv : rt = none → v = none) (hk : k ≤ R.cells) (hn : n ≤ R.slots) (hQ : Q v h) :
    ∃ fs, (∀ (f : JFrame) (acts : List Action), f.method = m → f.locked = none → f.entered = [] → (doReturn e (T.setTop f) acts v).1 = T.setFrames fs) ∧ (T.setFrames fs).status = .running ∧ Ended (T.setFrames fs) below (.returned v) ∧ Fini Z EL pr R.cells R.slots Q s (.returned v) (T.setFrames fs) := by
  obtain ⟨⟨hx, hb1, hml, hrt, hlk, hnm, hEL⟩, k0, locs, X, rfl, hZ, hown, hS, hk0, N, C, O, hpr⟩ := w
  obtain ⟨fs, hr, hrun, hended, e1, e2, e3, e4⟩ := X.leaveW hS hk0 (v := v) (fun q => hv (hrt.symm.trans q)) hlk
  exact ⟨fs, hr, hrun, hended, v, locs, rfl, hQ, O, N, C.trans (show CHr Z EL vm0 T.heap T.vm T.heap from CHv.at X hZ hEL C.1), fun q => State.WarmedH.trans (t := s.setVm vm0) (hpr q) X.warmed, e1, e2, e3, e4.mono hk hn⟩
/-- a value is returned -/
theorem g_ret (w : Wk p l e R s m args below meth c Z a0 EL pr y bs ml rt T vm0 h k n) {Q : Option Value → Heap → Prop} {t : FieldType} {i : Instr} {v : Value} (hd : decode bs pc = .ok (i, 1)) (ht : rt = some t) (hn : narrow t v = v)
    (hi : (i = .ireturn ∧ (t = .int ∨ t = .boolean ∨ t = .byte ∨ t = .char ∨ t = .short) ∧ ∃ z, v = .int z) ∨ (i = .lreturn ∧ t = .long ∧ ∃ z, v = .long z) ∨ (i = .dreturn ∧ t = .double ∧ ∃ z, v = .double z) ∨ (i = .freturn ∧ t = .float ∧ ∃ z, v = .float z) ∨ (i = .areturn ∧ t.isReference = true ∧ v.isRef = true))
    (hk : k ≤ R.cells) (hn' : n ≤ R.slots) (hQ : Q (some v) h) : Go p e below (Fini Z EL pr R.cells R.slots Q s) (T.setTop (mkF m pc Ls (v :: st))) := by
  obtain ⟨fs, hr, hrun, hended, hf⟩ := w.fin (v := some v) (fun q => by rw [ht] at q; cases q) hk hn' hQ
  obtain ⟨⟨hx, hb1, hml, hrt, -⟩, _, _, X, -⟩ := w
  exact ⟨_, _, retOut X hx (hrt.trans ht) hn hi (hb hb1 hd) hr, hrun, hended, hf⟩
theorem g_reti (w : Wk p l e R s m args below meth c Z a0 EL pr y bs ml rt T vm0 h k n) {Q : Option Value → Heap → Prop} {z : Int32} (hd : decode bs pc = .ok (.ireturn, 1)) (ht : rt = some .int) (hk : k ≤ R.cells) (hn : n ≤ R.slots) (hQ : Q (some (.int z)) h) : Go p e below (Fini Z EL pr R.cells R.slots Q s) (T.setTop (mkF m pc Ls (.int z :: st))) :=
  g_ret w hd ht rfl (Or.inl ⟨rfl, Or.inl rfl, _, rfl⟩) hk hn hQ
theorem g_retl (w : Wk p l e R s m args below meth c Z a0 EL pr y bs ml rt T vm0 h k n) {Q : Option Value → Heap → Prop} {z : Int64} (hd : decode bs pc = .ok (.lreturn, 1)) (ht : rt = some .long) (hk : k ≤ R.cells) (hn : n ≤ R.slots) (hQ : Q (some (.long z)) h) : Go p e below (Fini Z EL pr R.cells R.slots Q s) (T.setTop (mkF m pc Ls (.long z :: st))) :=
  g_ret w hd ht rfl (Or.inr (Or.inl ⟨rfl, rfl, _, rfl⟩)) hk hn hQ
/-- a boolean, byte, char or short is returned: it is narrowed -/
theorem g_retn (w : Wk p l e R s m args below meth c Z a0 EL pr y bs ml rt T vm0 h k n) {Q : Option Value → Heap → Prop} {t : FieldType} {z z' : Int32} (hd : decode bs pc = .ok (.ireturn, 1)) (ht : rt = some t) (hs : t = .boolean ∨ t = .byte ∨ t = .char ∨ t = .short) (hz : nar t z = z') (hk : k ≤ R.cells) (hn : n ≤ R.slots) (hQ : Q (some (.int z')) h) :
    Go p e below (Fini Z EL pr R.cells R.slots Q s) (T.setTop (mkF m pc Ls (.int z :: st))) := by
  subst hz
  obtain ⟨fs, hr, hrun, hended, hf⟩ := w.fin (v := some (.int (nar t z))) (fun q => by rw [ht] at q; cases q) hk hn hQ
  obtain ⟨⟨hx, hb1, hml, hrt, -⟩, _, _, X, -⟩ := w
  exact ⟨_, _, retN X hx (hrt.trans ht) hs (hb hb1 hd) hr, hrun, hended, hf⟩
theorem g_reta (w : Wk p l e R s m args below meth c Z a0 EL pr y bs ml rt T vm0 h k n) {Q : Option Value → Heap → Prop} {t : FieldType} {v : Value} (hd : decode bs pc = .ok (.areturn, 1)) (ht : rt = some t) (hr : t.isReference = true) (hv : v.isRef = true) (hk : k ≤ R.cells) (hn : n ≤ R.slots) (hQ : Q (some v) h) : Go p e below (Fini Z EL pr R.cells R.slots Q s) (T.setTop (mkF m pc Ls (v :: st))) :=
  g_ret w hd ht (by cases t <;> simp [FieldType.isReference] at hr <;> cases v <;> simp [Value.isRef] at hv <;> rfl) (Or.inr (Or.inr (Or.inr (Or.inr ⟨rfl, hr, hv⟩)))) hk hn hQ
theorem g_return (w : Wk p l e R s m args below meth c Z a0 EL pr y bs ml rt T vm0 h k n) {Q : Option Value → Heap → Prop} (hd : decode bs pc = .ok (.return_, 1)) (ht : rt = none) (hk : k ≤ R.cells) (hn : n ≤ R.slots) (hQ : Q none h) : Go p e below (Fini Z EL pr R.cells R.slots Q s) (T.setTop (mkF m pc Ls [])) := by
  obtain ⟨fs, hr, hrun, hended, hf⟩ := w.fin (v := none) (fun _ => rfl) hk hn hQ
  obtain ⟨⟨hx, hb1, hml, hrt, -⟩, _, _, X, -⟩ := w
  exact ⟨_, _, X.returnOut hx (hrt.trans ht) (hb hb1 hd) hr, hrun, hended, hf⟩
theorem g_iloadN (w : Wk p l e R s m args below meth c Z a0 EL pr y bs ml rt T vm0 h k n) {kk : Fin 4} {v : Int32} (hd : decode bs pc = .ok (.iload_n kk, 1)) (hq : pc + 1 = q) (hl : Ls[kk.val]? = some (.val (.int v))) (hr : Go p e below Φ (T.setTop (mkF m q Ls (.int v :: st)))) : Go p e below Φ (T.setTop (mkF m pc Ls st)) := by
  subst hq; exact hr.pre fun t r => Jvm.Free.XS.iloadN w.here w.hx rfl (w.b hd) hl r
theorem g_iload (w : Wk p l e R s m args below meth c Z a0 EL pr y bs ml rt T vm0 h k n) {kk : Nat} {v : Int32} (hd : decode bs pc = .ok (.iload kk, 2)) (hq : pc + 2 = q) (hl : Ls[kk]? = some (.val (.int v))) (hr : Go p e below Φ (T.setTop (mkF m q Ls (.int v :: st)))) : Go p e below Φ (T.setTop (mkF m pc Ls st)) := by
  subst hq; exact hr.pre fun t r => Jvm.Free.XS.iload w.here w.hx rfl (w.b hd) hl r
theorem g_lloadN (w : Wk p l e R s m args below meth c Z a0 EL pr y bs ml rt T vm0 h k n) {kk : Fin 4} {v : Int64} (hd : decode bs pc = .ok (.lload_n kk, 1)) (hq : pc + 1 = q) (hl : Ls[kk.val]? = some (.val (.long v))) (hr : Go p e below Φ (T.setTop (mkF m q Ls (.long v :: st)))) : Go p e below Φ (T.setTop (mkF m pc Ls st)) := by
  subst hq; exact hr.pre fun t r => Jvm.Free.XT.lloadN w.here w.hx rfl (w.b hd) hl r
theorem g_lload (w : Wk p l e R s m args below meth c Z a0 EL pr y bs ml rt T vm0 h k n) {kk : Nat} {v : Int64} (hd : decode bs pc = .ok (.lload kk, 2)) (hq : pc + 2 = q) (hl : Ls[kk]? = some (.val (.long v))) (hr : Go p e below Φ (T.setTop (mkF m q Ls (.long v :: st)))) : Go p e below Φ (T.setTop (mkF m pc Ls st)) := by
  subst hq; exact hr.pre fun t r => Jvm.Free.XT.lload w.here w.hx rfl (w.b hd) hl r
theorem g_aloadN (w : Wk p l e R s m args below meth c Z a0 EL pr y bs ml rt T vm0 h k n) {kk : Fin 4} {v : Value} (hd : decode bs pc = .ok (.aload_n kk, 1)) (hq : pc + 1 = q) (hl : Ls[kk.val]? = some (.val v)) (hv : v.isRef = true) (hr : Go p e below Φ (T.setTop (mkF m q Ls (v :: st)))) : Go p e below Φ (T.setTop (mkF m pc Ls st)) := by
  subst hq; exact hr.pre fun t r => Jvm.Free.XS.aloadN w.here w.hx rfl (w.b hd) hl hv r
theorem g_aload (w : Wk p l e R s m args below meth c Z a0 EL pr y bs ml rt T vm0 h k n) {kk : Nat} {v : Value} (hd : decode bs pc = .ok (.aload kk, 2)) (hq : pc + 2 = q) (hl : Ls[kk]? = some (.val v)) (hv : v.isRef = true) (hr : Go p e below Φ (T.setTop (mkF m q Ls (v :: st)))) : Go p e below Φ (T.setTop (mkF m pc Ls st)) := by
  subst hq; exact hr.pre fun t r => Jvm.Free.XS.aload w.here w.hx rfl (w.b hd) hl hv r
theorem g_istoreN (w : Wk p l e R s m args below meth c Z a0 EL pr y bs ml rt T vm0 h k n) {kk : Fin 4} {v : Int32} {Ls' : Array Slot} (hd : decode bs pc = .ok (.istore_n kk, 1)) (hq : pc + 1 = q) (hl : storeLocals Ls kk.val (.int v) = some Ls') (hr : Go p e below Φ (T.setTop (mkF m q Ls' st))) : Go p e below Φ (T.setTop (mkF m pc Ls (.int v :: st))) := by
  subst hq; exact hr.pre fun t r => Jvm.Free.XS.istoreN w.here w.hx rfl (w.b hd) rfl hl r
theorem g_istore (w : Wk p l e R s m args below meth c Z a0 EL pr y bs ml rt T vm0 h k n) {kk : Nat} {v : Int32} {Ls' : Array Slot} (hd : decode bs pc = .ok (.istore kk, 2)) (hq : pc + 2 = q) (hl : storeLocals Ls kk (.int v) = some Ls') (hr : Go p e below Φ (T.setTop (mkF m q Ls' st))) : Go p e below Φ (T.setTop (mkF m pc Ls (.int v :: st))) := by
  subst hq; exact hr.pre fun t r => Jvm.Free.XS.istore w.here w.hx rfl (w.b hd) rfl hl r
theorem g_lstoreN (w : Wk p l e R s m args below meth c Z a0 EL pr y bs ml rt T vm0 h k n) {kk : Fin 4} {v : Int64} {Ls' : Array Slot} (hd : decode bs pc = .ok (.lstore_n kk, 1)) (hq : pc + 1 = q) (hl : storeLocals Ls kk.val (.long v) = some Ls') (hr : Go p e below Φ (T.setTop (mkF m q Ls' st))) : Go p e below Φ (T.setTop (mkF m pc Ls (.long v :: st))) := by
  subst hq; exact hr.pre fun t r => Jvm.Free.XT.lstoreN w.here w.hx rfl (w.b hd) rfl hl r
theorem g_lstore (w : Wk p l e R s m args below meth c Z a0 EL pr y bs ml rt T vm0 h k n) {kk : Nat} {v : Int64} {Ls' : Array Slot} (hd : decode bs pc = .ok (.lstore kk, 2)) (hq : pc + 2 = q) (hl : storeLocals Ls kk (.long v) = some Ls') (hr : Go p e below Φ (T.setTop (mkF m q Ls' st))) : Go p e below Φ (T.setTop (mkF m pc Ls (.long v :: st))) := by
  subst hq; exact hr.pre fun t r => Jvm.Free.XT.lstore w.here w.hx rfl (w.b hd) rfl hl r
theorem g_astoreN (w : Wk p l e R s m args below meth c Z a0 EL pr y bs ml rt T vm0 h k n) {kk : Fin 4} {v : Value} {Ls' : Array Slot} (hd : decode bs pc = .ok (.astore_n kk, 1)) (hq : pc + 1 = q) (hv : v.isRef = true) (hl : storeLocals Ls kk.val v = some Ls') (hr : Go p e below Φ (T.setTop (mkF m q Ls' st))) : Go p e below Φ (T.setTop (mkF m pc Ls (v :: st))) := by
  subst hq; exact hr.pre fun t r => Jvm.Free.XS.astoreN w.here w.hx rfl (w.b hd) rfl hv hl r
theorem g_astore (w : Wk p l e R s m args below meth c Z a0 EL pr y bs ml rt T vm0 h k n) {kk : Nat} {v : Value} {Ls' : Array Slot} (hd : decode bs pc = .ok (.astore kk, 2)) (hq : pc + 2 = q) (hv : v.isRef = true) (hl : storeLocals Ls kk v = some Ls') (hr : Go p e below Φ (T.setTop (mkF m q Ls' st))) : Go p e below Φ (T.setTop (mkF m pc Ls (v :: st))) := by
  subst hq; exact hr.pre fun t r => Jvm.Free.XS.astore w.here w.hx rfl (w.b hd) rfl hv hl r
theorem g_iconst (w : Wk p l e R s m args below meth c Z a0 EL pr y bs ml rt T vm0 h k n) {i : Int} {v : Int32} (hd : decode bs pc = .ok (.iconst i, 1)) (hq : pc + 1 = q) (hv : Int32.ofInt i = v) (hr : Go p e below Φ (T.setTop (mkF m q Ls (.int v :: st)))) : Go p e below Φ (T.setTop (mkF m pc Ls st)) := by
  subst hq; exact hr.pre fun t r => Jvm.Free.XT.iconstV w.here w.hx rfl v (w.b hd) hv r
theorem g_bipush (w : Wk p l e R s m args below meth c Z a0 EL pr y bs ml rt T vm0 h k n) {i : Int} {v : Int32} (hd : decode bs pc = .ok (.bipush i, 2)) (hq : pc + 2 = q) (hv : (Int8.ofInt i).toInt32 = v) (hr : Go p e below Φ (T.setTop (mkF m q Ls (.int v :: st)))) : Go p e below Φ (T.setTop (mkF m pc Ls st)) := by
  subst hq; exact hr.pre fun t r => Jvm.Free.XT.bipushV w.here w.hx rfl v (w.b hd) hv r
theorem g_sipush (w : Wk p l e R s m args below meth c Z a0 EL pr y bs ml rt T vm0 h k n) {i : Int} {v : Int32} (hd : decode bs pc = .ok (.sipush i, 3)) (hq : pc + 3 = q) (hv : (Int16.ofInt i).toInt32 = v) (hr : Go p e below Φ (T.setTop (mkF m q Ls (.int v :: st)))) : Go p e below Φ (T.setTop (mkF m pc Ls st)) := by
  subst hq; exact hr.pre fun t r => Jvm.Free.XT.sipushV w.here w.hx rfl v (w.b hd) hv r
theorem g_lconst (w : Wk p l e R s m args below meth c Z a0 EL pr y bs ml rt T vm0 h k n) {i : Fin 2} {v : Int64} (hd : decode bs pc = .ok (.lconst i, 1)) (hq : pc + 1 = q) (hv : Int64.ofNat i = v) (hr : Go p e below Φ (T.setTop (mkF m q Ls (.long v :: st)))) : Go p e below Φ (T.setTop (mkF m pc Ls st)) := by
  subst hq; exact hr.pre fun t r => Jvm.Free.XT.lconstV w.here w.hx rfl v (w.b hd) hv r
theorem g_anull (w : Wk p l e R s m args below meth c Z a0 EL pr y bs ml rt T vm0 h k n) (hd : decode bs pc = .ok (.aconst_null, 1)) (hq : pc + 1 = q) (hr : Go p e below Φ (T.setTop (mkF m q Ls (.null :: st)))) : Go p e below Φ (T.setTop (mkF m pc Ls st)) := by
  subst hq; exact hr.pre fun t r => Jvm.Free.XS.aconstNull w.here w.hx rfl (w.b hd) r
theorem g_dup (w : Wk p l e R s m args below meth c Z a0 EL pr y bs ml rt T vm0 h k n) {v : Value} (hd : decode bs pc = .ok (.dup, 1)) (hq : pc + 1 = q) (hc : v.category = 1) (hr : Go p e below Φ (T.setTop (mkF m q Ls (v :: v :: st)))) : Go p e below Φ (T.setTop (mkF m pc Ls (v :: st))) := by
  subst hq; exact hr.pre fun t r => Jvm.Free.XS.dup w.here w.hx rfl (w.b hd) rfl hc r
theorem g_pop (w : Wk p l e R s m args below meth c Z a0 EL pr y bs ml rt T vm0 h k n) {v : Value} (hd : decode bs pc = .ok (.pop, 1)) (hq : pc + 1 = q) (hc : v.category = 1) (hr : Go p e below Φ (T.setTop (mkF m q Ls st))) : Go p e below Φ (T.setTop (mkF m pc Ls (v :: st))) := by
  subst hq; exact hr.pre fun t r => Jvm.Free.XT.pop w.here w.hx rfl (w.b hd) rfl hc r
theorem g_dupX1 (w : Wk p l e R s m args below meth c Z a0 EL pr y bs ml rt T vm0 h k n) {v u : Value} (hd : decode bs pc = .ok (.dup_x1, 1)) (hq : pc + 1 = q) (hc : v.category = 1) (hc' : u.category = 1) (hr : Go p e below Φ (T.setTop (mkF m q Ls (v :: u :: v :: st)))) : Go p e below Φ (T.setTop (mkF m pc Ls (v :: u :: st))) := by
  subst hq; exact hr.pre fun t r => Jvm.Free.XT.dupX1 w.here w.hx rfl (w.b hd) rfl hc hc' r
theorem g_dup2 (w : Wk p l e R s m args below meth c Z a0 EL pr y bs ml rt T vm0 h k n) {v u : Value} (hd : decode bs pc = .ok (.dup2, 1)) (hq : pc + 1 = q) (hc : v.category = 1) (hc' : u.category = 1) (hr : Go p e below Φ (T.setTop (mkF m q Ls (v :: u :: v :: u :: st)))) : Go p e below Φ (T.setTop (mkF m pc Ls (v :: u :: st))) := by
  subst hq; exact hr.pre fun t r => Jvm.Free.XT.dup2 w.here w.hx rfl (w.b hd) rfl hc hc' r
theorem g_dup2L (w : Wk p l e R s m args below meth c Z a0 EL pr y bs ml rt T vm0 h k n) {x : Int64} (hd : decode bs pc = .ok (.dup2, 1)) (hq : pc + 1 = q) (hr : Go p e below Φ (T.setTop (mkF m q Ls (.long x :: .long x :: st)))) : Go p e below Φ (T.setTop (mkF m pc Ls (.long x :: st))) := by
  subst hq; exact hr.pre fun t r => Jvm.Free.XT.dup2L w.here w.hx rfl (w.b hd) rfl r
theorem g_iadd (w : Wk p l e R s m args below meth c Z a0 EL pr y bs ml rt T vm0 h k n) {x z : Int32} (hd : decode bs pc = .ok (.iadd, 1)) (hq : pc + 1 = q) (hr : Go p e below Φ (T.setTop (mkF m q Ls (.int (x + z) :: st)))) : Go p e below Φ (T.setTop (mkF m pc Ls (.int z :: .int x :: st))) := by
  subst hq; exact hr.pre fun t r => Jvm.Free.XS.iadd w.here w.hx rfl (w.b hd) rfl r
theorem g_isub (w : Wk p l e R s m args below meth c Z a0 EL pr y bs ml rt T vm0 h k n) {x z : Int32} (hd : decode bs pc = .ok (.isub, 1)) (hq : pc + 1 = q) (hr : Go p e below Φ (T.setTop (mkF m q Ls (.int (x - z) :: st)))) : Go p e below Φ (T.setTop (mkF m pc Ls (.int z :: .int x :: st))) := by
  subst hq; exact hr.pre fun t r => Jvm.Free.XS.isub w.here w.hx rfl (w.b hd) rfl r
theorem g_imul (w : Wk p l e R s m args below meth c Z a0 EL pr y bs ml rt T vm0 h k n) {x z : Int32} (hd : decode bs pc = .ok (.imul, 1)) (hq : pc + 1 = q) (hr : Go p e below Φ (T.setTop (mkF m q Ls (.int (x * z) :: st)))) : Go p e below Φ (T.setTop (mkF m pc Ls (.int z :: .int x :: st))) := by
  subst hq; exact hr.pre fun t r => Jvm.Free.XS.imul w.here w.hx rfl (w.b hd) rfl r
theorem g_iand (w : Wk p l e R s m args below meth c Z a0 EL pr y bs ml rt T vm0 h k n) {x z : Int32} (hd : decode bs pc = .ok (.iand, 1)) (hq : pc + 1 = q) (hr : Go p e below Φ (T.setTop (mkF m q Ls (.int (x &&& z) :: st)))) : Go p e below Φ (T.setTop (mkF m pc Ls (.int z :: .int x :: st))) := by
  subst hq; exact hr.pre fun t r => Jvm.Free.XS.iand w.here w.hx rfl (w.b hd) rfl r
theorem g_ior (w : Wk p l e R s m args below meth c Z a0 EL pr y bs ml rt T vm0 h k n) {x z : Int32} (hd : decode bs pc = .ok (.ior, 1)) (hq : pc + 1 = q) (hr : Go p e below Φ (T.setTop (mkF m q Ls (.int (x ||| z) :: st)))) : Go p e below Φ (T.setTop (mkF m pc Ls (.int z :: .int x :: st))) := by
  subst hq; exact hr.pre fun t r => Jvm.Free.XT.ior w.here w.hx rfl (w.b hd) rfl r
theorem g_ixor (w : Wk p l e R s m args below meth c Z a0 EL pr y bs ml rt T vm0 h k n) {x z : Int32} (hd : decode bs pc = .ok (.ixor, 1)) (hq : pc + 1 = q) (hr : Go p e below Φ (T.setTop (mkF m q Ls (.int (x ^^^ z) :: st)))) : Go p e below Φ (T.setTop (mkF m pc Ls (.int z :: .int x :: st))) := by
  subst hq; exact hr.pre fun t r => Jvm.Free.XT.ixor w.here w.hx rfl (w.b hd) rfl r
theorem g_ishl (w : Wk p l e R s m args below meth c Z a0 EL pr y bs ml rt T vm0 h k n) {x z : Int32} (hd : decode bs pc = .ok (.ishl, 1)) (hq : pc + 1 = q) (hr : Go p e below Φ (T.setTop (mkF m q Ls (.int (x <<< (z &&& 31)) :: st)))) : Go p e below Φ (T.setTop (mkF m pc Ls (.int z :: .int x :: st))) := by
  subst hq; exact hr.pre fun t r => Jvm.Free.XT.ishl w.here w.hx rfl (w.b hd) rfl r
theorem g_ishr (w : Wk p l e R s m args below meth c Z a0 EL pr y bs ml rt T vm0 h k n) {x z : Int32} (hd : decode bs pc = .ok (.ishr, 1)) (hq : pc + 1 = q) (hr : Go p e below Φ (T.setTop (mkF m q Ls (.int (x >>> (z &&& 31)) :: st)))) : Go p e below Φ (T.setTop (mkF m pc Ls (.int z :: .int x :: st))) := by
  subst hq; exact hr.pre fun t r => Jvm.Free.XT.ishr w.here w.hx rfl (w.b hd) rfl r
theorem g_iushr (w : Wk p l e R s m args below meth c Z a0 EL pr y bs ml rt T vm0 h k n) {x z : Int32} (hd : decode bs pc = .ok (.iushr, 1)) (hq : pc + 1 = q) (hr : Go p e below Φ (T.setTop (mkF m q Ls (.int (Jvm.Free.XT.ushr x z) :: st)))) : Go p e below Φ (T.setTop (mkF m pc Ls (.int z :: .int x :: st))) := by
  subst hq; exact hr.pre fun t r => Jvm.Free.XT.iushr w.here w.hx rfl (w.b hd) rfl r
theorem g_idiv (w : Wk p l e R s m args below meth c Z a0 EL pr y bs ml rt T vm0 h k n) {x z : Int32} (hd : decode bs pc = .ok (.idiv, 1)) (hq : pc + 1 = q) (hz : z ≠ 0) (hr : Go p e below Φ (T.setTop (mkF m q Ls (.int (x / z) :: st)))) : Go p e below Φ (T.setTop (mkF m pc Ls (.int z :: .int x :: st))) := by
  subst hq; exact hr.pre fun t r => Jvm.Free.XS.idiv w.here w.hx rfl (w.b hd) rfl hz r
theorem g_irem (w : Wk p l e R s m args below meth c Z a0 EL pr y bs ml rt T vm0 h k n) {x z : Int32} (hd : decode bs pc = .ok (.irem, 1)) (hq : pc + 1 = q) (hz : z ≠ 0) (hr : Go p e below Φ (T.setTop (mkF m q Ls (.int (x % z) :: st)))) : Go p e below Φ (T.setTop (mkF m pc Ls (.int z :: .int x :: st))) := by
  subst hq; obtain ⟨⟨hx, hb1, -⟩, _, _, X, -⟩ := w; exact hr.pre fun t r => iremM X hx rfl (hb hb1 hd) rfl hz r
theorem g_ladd (w : Wk p l e R s m args below meth c Z a0 EL pr y bs ml rt T vm0 h k n) {x z : Int64} (hd : decode bs pc = .ok (.ladd, 1)) (hq : pc + 1 = q) (hr : Go p e below Φ (T.setTop (mkF m q Ls (.long (x + z) :: st)))) : Go p e below Φ (T.setTop (mkF m pc Ls (.long z :: .long x :: st))) := by
  subst hq; exact hr.pre fun t r => Jvm.Free.XT.ladd w.here w.hx rfl (w.b hd) rfl r
theorem g_lsub (w : Wk p l e R s m args below meth c Z a0 EL pr y bs ml rt T vm0 h k n) {x z : Int64} (hd : decode bs pc = .ok (.lsub, 1)) (hq : pc + 1 = q) (hr : Go p e below Φ (T.setTop (mkF m q Ls (.long (x - z) :: st)))) : Go p e below Φ (T.setTop (mkF m pc Ls (.long z :: .long x :: st))) := by
  subst hq; exact hr.pre fun t r => Jvm.Free.XT.lsub w.here w.hx rfl (w.b hd) rfl r
theorem g_lmul (w : Wk p l e R s m args below meth c Z a0 EL pr y bs ml rt T vm0 h k n) {x z : Int64} (hd : decode bs pc = .ok (.lmul, 1)) (hq : pc + 1 = q) (hr : Go p e below Φ (T.setTop (mkF m q Ls (.long (x * z) :: st)))) : Go p e below Φ (T.setTop (mkF m pc Ls (.long z :: .long x :: st))) := by
  subst hq; exact hr.pre fun t r => Jvm.Free.XT.lmul w.here w.hx rfl (w.b hd) rfl r
theorem g_land (w : Wk p l e R s m args below meth c Z a0 EL pr y bs ml rt T vm0 h k n) {x z : Int64} (hd : decode bs pc = .ok (.land, 1)) (hq : pc + 1 = q) (hr : Go p e below Φ (T.setTop (mkF m q Ls (.long (x &&& z) :: st)))) : Go p e below Φ (T.setTop (mkF m pc Ls (.long z :: .long x :: st))) := by
  subst hq; exact hr.pre fun t r => Jvm.Free.XT.land w.here w.hx rfl (w.b hd) rfl r
theorem g_lor (w : Wk p l e R s m args below meth c Z a0 EL pr y bs ml rt T vm0 h k n) {x z : Int64} (hd : decode bs pc = .ok (.lor, 1)) (hq : pc + 1 = q) (hr : Go p e below Φ (T.setTop (mkF m q Ls (.long (x ||| z) :: st)))) : Go p e below Φ (T.setTop (mkF m pc Ls (.long z :: .long x :: st))) := by
  subst hq; exact hr.pre fun t r => Jvm.Free.XT.lor w.here w.hx rfl (w.b hd) rfl r
theorem g_lxor (w : Wk p l e R s m args below meth c Z a0 EL pr y bs ml rt T vm0 h k n) {x z : Int64} (hd : decode bs pc = .ok (.lxor, 1)) (hq : pc + 1 = q) (hr : Go p e below Φ (T.setTop (mkF m q Ls (.long (x ^^^ z) :: st)))) : Go p e below Φ (T.setTop (mkF m pc Ls (.long z :: .long x :: st))) := by
  subst hq; exact hr.pre fun t r => Jvm.Free.XT.lxor w.here w.hx rfl (w.b hd) rfl r
theorem g_ldiv (w : Wk p l e R s m args below meth c Z a0 EL pr y bs ml rt T vm0 h k n) {x z : Int64} (hd : decode bs pc = .ok (.ldiv, 1)) (hq : pc + 1 = q) (hz : z ≠ 0) (hr : Go p e below Φ (T.setTop (mkF m q Ls (.long (x / z) :: st)))) : Go p e below Φ (T.setTop (mkF m pc Ls (.long z :: .long x :: st))) := by
  subst hq; exact hr.pre fun t r => Jvm.Free.XT.ldiv w.here w.hx rfl (w.b hd) rfl hz r
theorem g_lrem (w : Wk p l e R s m args below meth c Z a0 EL pr y bs ml rt T vm0 h k n) {x z : Int64} (hd : decode bs pc = .ok (.lrem, 1)) (hq : pc + 1 = q) (hz : z ≠ 0) (hr : Go p e below Φ (T.setTop (mkF m q Ls (.long (x - (x / z) * z) :: st)))) : Go p e below Φ (T.setTop (mkF m pc Ls (.long z :: .long x :: st))) := by
  subst hq; exact hr.pre fun t r => Jvm.Free.XT.lrem w.here w.hx rfl (w.b hd) rfl hz r
theorem g_lneg (w : Wk p l e R s m args below meth c Z a0 EL pr y bs ml rt T vm0 h k n) {x : Int64} (hd : decode bs pc = .ok (.lneg, 1)) (hq : pc + 1 = q) (hr : Go p e below Φ (T.setTop (mkF m q Ls (.long (-x) :: st)))) : Go p e below Φ (T.setTop (mkF m pc Ls (.long x :: st))) := by
  subst hq; exact hr.pre fun t r => Jvm.Free.XT.lneg w.here w.hx rfl (w.b hd) rfl r
theorem g_ineg (w : Wk p l e R s m args below meth c Z a0 EL pr y bs ml rt T vm0 h k n) {x : Int32} (hd : decode bs pc = .ok (.ineg, 1)) (hq : pc + 1 = q) (hr : Go p e below Φ (T.setTop (mkF m q Ls (.int (-x) :: st)))) : Go p e below Φ (T.setTop (mkF m pc Ls (.int x :: st))) := by
  subst hq; exact hr.pre fun t r => Jvm.Free.XS.ineg w.here w.hx rfl (w.b hd) rfl r
theorem g_i2l (w : Wk p l e R s m args below meth c Z a0 EL pr y bs ml rt T vm0 h k n) {x : Int32} (hd : decode bs pc = .ok (.i2l, 1)) (hq : pc + 1 = q) (hr : Go p e below Φ (T.setTop (mkF m q Ls (.long (x.toInt64) :: st)))) : Go p e below Φ (T.setTop (mkF m pc Ls (.int x :: st))) := by
  subst hq; exact hr.pre fun t r => Jvm.Free.XT.i2l w.here w.hx rfl (w.b hd) rfl r
theorem g_i2b (w : Wk p l e R s m args below meth c Z a0 EL pr y bs ml rt T vm0 h k n) {x : Int32} (hd : decode bs pc = .ok (.i2b, 1)) (hq : pc + 1 = q) (hr : Go p e below Φ (T.setTop (mkF m q Ls (.int (x.toInt8.toInt32) :: st)))) : Go p e below Φ (T.setTop (mkF m pc Ls (.int x :: st))) := by
  subst hq; exact hr.pre fun t r => Jvm.Free.XT.i2b w.here w.hx rfl (w.b hd) rfl r
theorem g_i2c (w : Wk p l e R s m args below meth c Z a0 EL pr y bs ml rt T vm0 h k n) {x : Int32} (hd : decode bs pc = .ok (.i2c, 1)) (hq : pc + 1 = q) (hr : Go p e below Φ (T.setTop (mkF m q Ls (.int (x.toUInt32.toUInt16.toUInt32.toInt32) :: st)))) : Go p e below Φ (T.setTop (mkF m pc Ls (.int x :: st))) := by
  subst hq; exact hr.pre fun t r => Jvm.Free.XT.i2c w.here w.hx rfl (w.b hd) rfl r
theorem g_l2i (w : Wk p l e R s m args below meth c Z a0 EL pr y bs ml rt T vm0 h k n) {x : Int64} (hd : decode bs pc = .ok (.l2i, 1)) (hq : pc + 1 = q) (hr : Go p e below Φ (T.setTop (mkF m q Ls (.int (x.toInt32) :: st)))) : Go p e below Φ (T.setTop (mkF m pc Ls (.long x :: st))) := by
  subst hq; exact hr.pre fun t r => Jvm.Free.XT.l2i w.here w.hx rfl (w.b hd) rfl r
theorem g_lcmp (w : Wk p l e R s m args below meth c Z a0 EL pr y bs ml rt T vm0 h k n) {x z : Int64} (hd : decode bs pc = .ok (.lcmp, 1)) (hq : pc + 1 = q) (hr : Go p e below Φ (T.setTop (mkF m q Ls (.int (Jvm.Free.XT.cmpL x z) :: st)))) : Go p e below Φ (T.setTop (mkF m pc Ls (.long z :: .long x :: st))) := by
  subst hq; exact hr.pre fun t r => Jvm.Free.XT.lcmp w.here w.hx rfl (w.b hd) rfl r
theorem g_iinc (w : Wk p l e R s m args below meth c Z a0 EL pr y bs ml rt T vm0 h k n) {kk : Nat} {cst : Int} {x v : Int32} {Ls' : Array Slot} (hd : decode bs pc = .ok (.iinc kk cst, 3)) (hq : pc + 3 = q) (hv : Int32.ofInt cst = v) (hl : Ls[kk]? = some (.val (.int x))) (hl' : storeLocals Ls kk (.int (x + v)) = some Ls') (hr : Go p e below Φ (T.setTop (mkF m q Ls' st))) : Go p e below Φ (T.setTop (mkF m pc Ls st)) := by
  subst hq; exact hr.pre fun t r => Jvm.Free.XS.iinc w.here w.hx rfl (w.b hd) hl (by rw [hv]; exact hl') r
theorem g_goto (w : Wk p l e R s m args below meth c Z a0 EL pr y bs ml rt T vm0 h k n) {o : Int} (hd : decode bs pc = .ok (.goto o, 3)) (ho : 0 ≤ (pc : Int) + o) (hq : ((pc : Int) + o).toNat = q) (hr : Go p e below Φ (T.setTop (mkF m q Ls st))) : Go p e below Φ (T.setTop (mkF m pc Ls st)) := by
  exact hr.pre fun t r => Jvm.Free.XS.goto w.here w.hx rfl rfl (w.b hd) ho hq r
theorem g_ifY (w : Wk p l e R s m args below meth c Z a0 EL pr y bs ml rt T vm0 h k n) {cd : ClassFile.Cond} {x : Int32} {o : Int} (hd : decode bs pc = .ok (.ifCond cd o, 3)) (ho : 0 ≤ (pc : Int) + o) (hq : ((pc : Int) + o).toNat = q) (hc : ifCond.holds cd x = true) (hr : Go p e below Φ (T.setTop (mkF m q Ls st))) : Go p e below Φ (T.setTop (mkF m pc Ls (.int x :: st))) := by
  exact hr.pre fun t r => Jvm.Free.XS.ifYes w.here w.hx rfl rfl (w.b hd) rfl hc ho hq r
theorem g_ifN (w : Wk p l e R s m args below meth c Z a0 EL pr y bs ml rt T vm0 h k n) {cd : ClassFile.Cond} {x : Int32} {o : Int} (hd : decode bs pc = .ok (.ifCond cd o, 3)) (hq : pc + 3 = q) (hc : ifCond.holds cd x = false) (hr : Go p e below Φ (T.setTop (mkF m q Ls st))) : Go p e below Φ (T.setTop (mkF m pc Ls (.int x :: st))) := by
  subst hq; exact hr.pre fun t r => Jvm.Free.XS.ifNo w.here w.hx rfl (w.b hd) rfl hc r
theorem g_icY (w : Wk p l e R s m args below meth c Z a0 EL pr y bs ml rt T vm0 h k n) {cd : ClassFile.Cond} {x z : Int32} {o : Int} (hd : decode bs pc = .ok (.if_icmp cd o, 3)) (ho : 0 ≤ (pc : Int) + o) (hq : ((pc : Int) + o).toNat = q) (hc : if_icmp.holds cd x z = true) (hr : Go p e below Φ (T.setTop (mkF m q Ls st))) : Go p e below Φ (T.setTop (mkF m pc Ls (.int z :: .int x :: st))) := by
  exact hr.pre fun t r => Jvm.Free.XS.icmpYes w.here w.hx rfl rfl (w.b hd) rfl hc ho hq r
theorem g_icN (w : Wk p l e R s m args below meth c Z a0 EL pr y bs ml rt T vm0 h k n) {cd : ClassFile.Cond} {x z : Int32} {o : Int} (hd : decode bs pc = .ok (.if_icmp cd o, 3)) (hq : pc + 3 = q) (hc : if_icmp.holds cd x z = false) (hr : Go p e below Φ (T.setTop (mkF m q Ls st))) : Go p e below Φ (T.setTop (mkF m pc Ls (.int z :: .int x :: st))) := by
  subst hq; exact hr.pre fun t r => Jvm.Free.XS.icmpNo w.here w.hx rfl (w.b hd) rfl hc r
theorem g_acY (w : Wk p l e R s m args below meth c Z a0 EL pr y bs ml rt T vm0 h k n) {cd : ClassFile.ACond} {x z : Value} {o : Int} (hd : decode bs pc = .ok (.if_acmp cd o, 3)) (ho : 0 ≤ (pc : Int) + o) (hq : ((pc : Int) + o).toNat = q) (h1 : x.isRef = true) (h2 : z.isRef = true) (hc : Jvm.Free.XT.acmp cd x z = true) (hr : Go p e below Φ (T.setTop (mkF m q Ls st))) : Go p e below Φ (T.setTop (mkF m pc Ls (z :: x :: st))) := by
  exact hr.pre fun t r => Jvm.Free.XT.acmpYes w.here w.hx rfl rfl (w.b hd) rfl h1 h2 hc ho hq r
theorem g_acN (w : Wk p l e R s m args below meth c Z a0 EL pr y bs ml rt T vm0 h k n) {cd : ClassFile.ACond} {x z : Value} {o : Int} (hd : decode bs pc = .ok (.if_acmp cd o, 3)) (hq : pc + 3 = q) (h1 : x.isRef = true) (h2 : z.isRef = true) (hc : Jvm.Free.XT.acmp cd x z = false) (hr : Go p e below Φ (T.setTop (mkF m q Ls st))) : Go p e below Φ (T.setTop (mkF m pc Ls (z :: x :: st))) := by
  subst hq; exact hr.pre fun t r => Jvm.Free.XT.acmpNo w.here w.hx rfl (w.b hd) rfl h1 h2 hc r
theorem g_nullY (w : Wk p l e R s m args below meth c Z a0 EL pr y bs ml rt T vm0 h k n) {o : Int} (hd : decode bs pc = .ok (.ifnull o, 3)) (ho : 0 ≤ (pc : Int) + o) (hq : ((pc : Int) + o).toNat = q) (hr : Go p e below Φ (T.setTop (mkF m q Ls st))) : Go p e below Φ (T.setTop (mkF m pc Ls (.null :: st))) := by
  exact hr.pre fun t r => Jvm.Free.XS.ifnullYes w.here w.hx rfl rfl (w.b hd) rfl ho hq r
theorem g_nullN (w : Wk p l e R s m args below meth c Z a0 EL pr y bs ml rt T vm0 h k n) {o : Int} {b : Addr} (hd : decode bs pc = .ok (.ifnull o, 3)) (hq : pc + 3 = q) (hr : Go p e below Φ (T.setTop (mkF m q Ls st))) : Go p e below Φ (T.setTop (mkF m pc Ls (.ref b :: st))) := by
  subst hq; exact hr.pre fun t r => Jvm.Free.XS.ifnullNo w.here w.hx rfl (w.b hd) rfl r
theorem g_nonnullY (w : Wk p l e R s m args below meth c Z a0 EL pr y bs ml rt T vm0 h k n) {o : Int} {b : Addr} (hd : decode bs pc = .ok (.ifnonnull o, 3)) (ho : 0 ≤ (pc : Int) + o) (hq : ((pc : Int) + o).toNat = q) (hr : Go p e below Φ (T.setTop (mkF m q Ls st))) : Go p e below Φ (T.setTop (mkF m pc Ls (.ref b :: st))) := by
  exact hr.pre fun t r => Jvm.Free.XT.ifnonnullYes w.here w.hx rfl rfl (w.b hd) rfl ho hq r
theorem g_nonnullN (w : Wk p l e R s m args below meth c Z a0 EL pr y bs ml rt T vm0 h k n) {o : Int} (hd : decode bs pc = .ok (.ifnonnull o, 3)) (hq : pc + 3 = q) (hr : Go p e below Φ (T.setTop (mkF m q Ls st))) : Go p e below Φ (T.setTop (mkF m pc Ls (.null :: st))) := by
  subst hq; exact hr.pre fun t r => Jvm.Free.XT.ifnonnullNo w.here w.hx rfl (w.b hd) rfl r
theorem g_if_eq (w : Wk p l e R s m args below meth c Z a0 EL pr y bs ml rt T vm0 h k n) {x : Int32} {o : Int} {q' : Nat} (hd : decode bs pc = .ok (.ifCond .eq o, 3)) (ho : 0 ≤ (pc : Int) + o) (hq : ((pc : Int) + o).toNat = q) (hq' : pc + 3 = q') (hY : x = 0 → Go p e below Φ (T.setTop (mkF m q Ls st))) (hN : ¬ x = 0 → Go p e below Φ (T.setTop (mkF m q' Ls st))) : Go p e below Φ (T.setTop (mkF m pc Ls (.int x :: st))) := by
  by_cases hc : x = 0
  · exact g_ifY w hd ho hq (Jvm.Free.XT.i0_eq_t hc) (hY hc)
  · exact g_ifN w hd hq' (Jvm.Free.XT.i0_eq_f hc) (hN hc)
theorem g_ic_eq (w : Wk p l e R s m args below meth c Z a0 EL pr y bs ml rt T vm0 h k n) {x z : Int32} {o : Int} {q' : Nat} (hd : decode bs pc = .ok (.if_icmp .eq o, 3)) (ho : 0 ≤ (pc : Int) + o) (hq : ((pc : Int) + o).toNat = q) (hq' : pc + 3 = q') (hY : x = z → Go p e below Φ (T.setTop (mkF m q Ls st))) (hN : ¬ x = z → Go p e below Φ (T.setTop (mkF m q' Ls st))) : Go p e below Φ (T.setTop (mkF m pc Ls (.int z :: .int x :: st))) := by
  by_cases hc : x = z
  · exact g_icY w hd ho hq (Jvm.Free.XT.ii_eq_t hc) (hY hc)
  · exact g_icN w hd hq' (Jvm.Free.XT.ii_eq_f hc) (hN hc)
theorem g_lc_eq (w : Wk p l e R s m args below meth c Z a0 EL pr y bs ml rt T vm0 h k n) {x z : Int64} {o : Int} {q' : Nat} (hd : decode bs pc = .ok (.ifCond .eq o, 3)) (ho : 0 ≤ (pc : Int) + o) (hq : ((pc : Int) + o).toNat = q) (hq' : pc + 3 = q') (hY : x = z → Go p e below Φ (T.setTop (mkF m q Ls st))) (hN : ¬ x = z → Go p e below Φ (T.setTop (mkF m q' Ls st))) : Go p e below Φ (T.setTop (mkF m pc Ls (.int (Jvm.Free.XT.cmpL x z) :: st))) := by
  by_cases hc : x = z
  · exact g_ifY w hd ho hq (Jvm.Free.XT.ll_eq_t hc) (hY hc)
  · exact g_ifN w hd hq' (Jvm.Free.XT.ll_eq_f hc) (hN hc)
theorem g_if_ne (w : Wk p l e R s m args below meth c Z a0 EL pr y bs ml rt T vm0 h k n) {x : Int32} {o : Int} {q' : Nat} (hd : decode bs pc = .ok (.ifCond .ne o, 3)) (ho : 0 ≤ (pc : Int) + o) (hq : ((pc : Int) + o).toNat = q) (hq' : pc + 3 = q') (hY : ¬ x = 0 → Go p e below Φ (T.setTop (mkF m q Ls st))) (hN : x = 0 → Go p e below Φ (T.setTop (mkF m q' Ls st))) : Go p e below Φ (T.setTop (mkF m pc Ls (.int x :: st))) := by
  by_cases hc : ¬ x = 0
  · exact g_ifY w hd ho hq (Jvm.Free.XT.i0_ne_t hc) (hY hc)
  · exact g_ifN w hd hq' (Jvm.Free.XT.i0_ne_f (Classical.not_not.mp hc)) (hN (Classical.not_not.mp hc))
theorem g_ic_ne (w : Wk p l e R s m args below meth c Z a0 EL pr y bs ml rt T vm0 h k n) {x z : Int32} {o : Int} {q' : Nat} (hd : decode bs pc = .ok (.if_icmp .ne o, 3)) (ho : 0 ≤ (pc : Int) + o) (hq : ((pc : Int) + o).toNat = q) (hq' : pc + 3 = q') (hY : ¬ x = z → Go p e below Φ (T.setTop (mkF m q Ls st))) (hN : x = z → Go p e below Φ (T.setTop (mkF m q' Ls st))) : Go p e below Φ (T.setTop (mkF m pc Ls (.int z :: .int x :: st))) := by
  by_cases hc : ¬ x = z
  · exact g_icY w hd ho hq (Jvm.Free.XT.ii_ne_t hc) (hY hc)
  · exact g_icN w hd hq' (Jvm.Free.XT.ii_ne_f (Classical.not_not.mp hc)) (hN (Classical.not_not.mp hc))
theorem g_lc_ne (w : Wk p l e R s m args below meth c Z a0 EL pr y bs ml rt T vm0 h k n) {x z : Int64} {o : Int} {q' : Nat} (hd : decode bs pc = .ok (.ifCond .ne o, 3)) (ho : 0 ≤ (pc : Int) + o) (hq : ((pc : Int) + o).toNat = q) (hq' : pc + 3 = q') (hY : ¬ x = z → Go p e below Φ (T.setTop (mkF m q Ls st))) (hN : x = z → Go p e below Φ (T.setTop (mkF m q' Ls st))) : Go p e below Φ (T.setTop (mkF m pc Ls (.int (Jvm.Free.XT.cmpL x z) :: st))) := by
  by_cases hc : ¬ x = z
  · exact g_ifY w hd ho hq (Jvm.Free.XT.ll_ne_t hc) (hY hc)
  · exact g_ifN w hd hq' (Jvm.Free.XT.ll_ne_f (Classical.not_not.mp hc)) (hN (Classical.not_not.mp hc))
theorem g_if_lt (w : Wk p l e R s m args below meth c Z a0 EL pr y bs ml rt T vm0 h k n) {x : Int32} {o : Int} {q' : Nat} (hd : decode bs pc = .ok (.ifCond .lt o, 3)) (ho : 0 ≤ (pc : Int) + o) (hq : ((pc : Int) + o).toNat = q) (hq' : pc + 3 = q') (hY : x < 0 → Go p e below Φ (T.setTop (mkF m q Ls st))) (hN : ¬ x < 0 → Go p e below Φ (T.setTop (mkF m q' Ls st))) : Go p e below Φ (T.setTop (mkF m pc Ls (.int x :: st))) := by
  by_cases hc : x < 0
  · exact g_ifY w hd ho hq (Jvm.Free.XT.i0_lt_t hc) (hY hc)
  · exact g_ifN w hd hq' (Jvm.Free.XT.i0_lt_f hc) (hN hc)
theorem g_ic_lt (w : Wk p l e R s m args below meth c Z a0 EL pr y bs ml rt T vm0 h k n) {x z : Int32} {o : Int} {q' : Nat} (hd : decode bs pc = .ok (.if_icmp .lt o, 3)) (ho : 0 ≤ (pc : Int) + o) (hq : ((pc : Int) + o).toNat = q) (hq' : pc + 3 = q') (hY : x < z → Go p e below Φ (T.setTop (mkF m q Ls st))) (hN : ¬ x < z → Go p e below Φ (T.setTop (mkF m q' Ls st))) : Go p e below Φ (T.setTop (mkF m pc Ls (.int z :: .int x :: st))) := by
  by_cases hc : x < z
  · exact g_icY w hd ho hq (Jvm.Free.XT.ii_lt_t hc) (hY hc)
  · exact g_icN w hd hq' (Jvm.Free.XT.ii_lt_f hc) (hN hc)
theorem g_lc_lt (w : Wk p l e R s m args below meth c Z a0 EL pr y bs ml rt T vm0 h k n) {x z : Int64} {o : Int} {q' : Nat} (hd : decode bs pc = .ok (.ifCond .lt o, 3)) (ho : 0 ≤ (pc : Int) + o) (hq : ((pc : Int) + o).toNat = q) (hq' : pc + 3 = q') (hY : x < z → Go p e below Φ (T.setTop (mkF m q Ls st))) (hN : ¬ x < z → Go p e below Φ (T.setTop (mkF m q' Ls st))) : Go p e below Φ (T.setTop (mkF m pc Ls (.int (Jvm.Free.XT.cmpL x z) :: st))) := by
  by_cases hc : x < z
  · exact g_ifY w hd ho hq (Jvm.Free.XT.ll_lt_t hc) (hY hc)
  · exact g_ifN w hd hq' (Jvm.Free.XT.ll_lt_f hc) (hN hc)
theorem g_if_ge (w : Wk p l e R s m args below meth c Z a0 EL pr y bs ml rt T vm0 h k n) {x : Int32} {o : Int} {q' : Nat} (hd : decode bs pc = .ok (.ifCond .ge o, 3)) (ho : 0 ≤ (pc : Int) + o) (hq : ((pc : Int) + o).toNat = q) (hq' : pc + 3 = q') (hY : ¬ x < 0 → Go p e below Φ (T.setTop (mkF m q Ls st))) (hN : x < 0 → Go p e below Φ (T.setTop (mkF m q' Ls st))) : Go p e below Φ (T.setTop (mkF m pc Ls (.int x :: st))) := by
  by_cases hc : ¬ x < 0
  · exact g_ifY w hd ho hq (Jvm.Free.XT.i0_ge_t hc) (hY hc)
  · exact g_ifN w hd hq' (Jvm.Free.XT.i0_ge_f (Classical.not_not.mp hc)) (hN (Classical.not_not.mp hc))
theorem g_ic_ge (w : Wk p l e R s m args below meth c Z a0 EL pr y bs ml rt T vm0 h k n) {x z : Int32} {o : Int} {q' : Nat} (hd : decode bs pc = .ok (.if_icmp .ge o, 3)) (ho : 0 ≤ (pc : Int) + o) (hq : ((pc : Int) + o).toNat = q) (hq' : pc + 3 = q') (hY : ¬ x < z → Go p e below Φ (T.setTop (mkF m q Ls st))) (hN : x < z → Go p e below Φ (T.setTop (mkF m q' Ls st))) : Go p e below Φ (T.setTop (mkF m pc Ls (.int z :: .int x :: st))) := by
  by_cases hc : ¬ x < z
  · exact g_icY w hd ho hq (Jvm.Free.XT.ii_ge_t hc) (hY hc)
  · exact g_icN w hd hq' (Jvm.Free.XT.ii_ge_f (Classical.not_not.mp hc)) (hN (Classical.not_not.mp hc))
theorem g_lc_ge (w : Wk p l e R s m args below meth c Z a0 EL pr y bs ml rt T vm0 h k n) {x z : Int64} {o : Int} {q' : Nat} (hd : decode bs pc = .ok (.ifCond .ge o, 3)) (ho : 0 ≤ (pc : Int) + o) (hq : ((pc : Int) + o).toNat = q) (hq' : pc + 3 = q') (hY : ¬ x < z → Go p e below Φ (T.setTop (mkF m q Ls st))) (hN : x < z → Go p e below Φ (T.setTop (mkF m q' Ls st))) : Go p e below Φ (T.setTop (mkF m pc Ls (.int (Jvm.Free.XT.cmpL x z) :: st))) := by
  by_cases hc : ¬ x < z
  · exact g_ifY w hd ho hq (Jvm.Free.XT.ll_ge_t hc) (hY hc)
  · exact g_ifN w hd hq' (Jvm.Free.XT.ll_ge_f (Classical.not_not.mp hc)) (hN (Classical.not_not.mp hc))
theorem g_if_gt (w : Wk p l e R s m args below meth c Z a0 EL pr y bs ml rt T vm0 h k n) {x : Int32} {o : Int} {q' : Nat} (hd : decode bs pc = .ok (.ifCond .gt o, 3)) (ho : 0 ≤ (pc : Int) + o) (hq : ((pc : Int) + o).toNat = q) (hq' : pc + 3 = q') (hY : 0 < x → Go p e below Φ (T.setTop (mkF m q Ls st))) (hN : ¬ 0 < x → Go p e below Φ (T.setTop (mkF m q' Ls st))) : Go p e below Φ (T.setTop (mkF m pc Ls (.int x :: st))) := by
  by_cases hc : 0 < x
  · exact g_ifY w hd ho hq (Jvm.Free.XT.i0_gt_t hc) (hY hc)
  · exact g_ifN w hd hq' (Jvm.Free.XT.i0_gt_f hc) (hN hc)
theorem g_ic_gt (w : Wk p l e R s m args below meth c Z a0 EL pr y bs ml rt T vm0 h k n) {x z : Int32} {o : Int} {q' : Nat} (hd : decode bs pc = .ok (.if_icmp .gt o, 3)) (ho : 0 ≤ (pc : Int) + o) (hq : ((pc : Int) + o).toNat = q) (hq' : pc + 3 = q') (hY : z < x → Go p e below Φ (T.setTop (mkF m q Ls st))) (hN : ¬ z < x → Go p e below Φ (T.setTop (mkF m q' Ls st))) : Go p e below Φ (T.setTop (mkF m pc Ls (.int z :: .int x :: st))) := by
  by_cases hc : z < x
  · exact g_icY w hd ho hq (Jvm.Free.XT.ii_gt_t hc) (hY hc)
  · exact g_icN w hd hq' (Jvm.Free.XT.ii_gt_f hc) (hN hc)
theorem g_lc_gt (w : Wk p l e R s m args below meth c Z a0 EL pr y bs ml rt T vm0 h k n) {x z : Int64} {o : Int} {q' : Nat} (hd : decode bs pc = .ok (.ifCond .gt o, 3)) (ho : 0 ≤ (pc : Int) + o) (hq : ((pc : Int) + o).toNat = q) (hq' : pc + 3 = q') (hY : z < x → Go p e below Φ (T.setTop (mkF m q Ls st))) (hN : ¬ z < x → Go p e below Φ (T.setTop (mkF m q' Ls st))) : Go p e below Φ (T.setTop (mkF m pc Ls (.int (Jvm.Free.XT.cmpL x z) :: st))) := by
  by_cases hc : z < x
  · exact g_ifY w hd ho hq (Jvm.Free.XT.ll_gt_t hc) (hY hc)
  · exact g_ifN w hd hq' (Jvm.Free.XT.ll_gt_f hc) (hN hc)
theorem g_if_le (w : Wk p l e R s m args below meth c Z a0 EL pr y bs ml rt T vm0 h k n) {x : Int32} {o : Int} {q' : Nat} (hd : decode bs pc = .ok (.ifCond .le o, 3)) (ho : 0 ≤ (pc : Int) + o) (hq : ((pc : Int) + o).toNat = q) (hq' : pc + 3 = q') (hY : ¬ 0 < x → Go p e below Φ (T.setTop (mkF m q Ls st))) (hN : 0 < x → Go p e below Φ (T.setTop (mkF m q' Ls st))) : Go p e below Φ (T.setTop (mkF m pc Ls (.int x :: st))) := by
  by_cases hc : ¬ 0 < x
  · exact g_ifY w hd ho hq (Jvm.Free.XT.i0_le_t hc) (hY hc)
  · exact g_ifN w hd hq' (Jvm.Free.XT.i0_le_f (Classical.not_not.mp hc)) (hN (Classical.not_not.mp hc))
theorem g_ic_le (w : Wk p l e R s m args below meth c Z a0 EL pr y bs ml rt T vm0 h k n) {x z : Int32} {o : Int} {q' : Nat} (hd : decode bs pc = .ok (.if_icmp .le o, 3)) (ho : 0 ≤ (pc : Int) + o) (hq : ((pc : Int) + o).toNat = q) (hq' : pc + 3 = q') (hY : ¬ z < x → Go p e below Φ (T.setTop (mkF m q Ls st))) (hN : z < x → Go p e below Φ (T.setTop (mkF m q' Ls st))) : Go p e below Φ (T.setTop (mkF m pc Ls (.int z :: .int x :: st))) := by
  by_cases hc : ¬ z < x
  · exact g_icY w hd ho hq (Jvm.Free.XT.ii_le_t hc) (hY hc)
  · exact g_icN w hd hq' (Jvm.Free.XT.ii_le_f (Classical.not_not.mp hc)) (hN (Classical.not_not.mp hc))
theorem g_lc_le (w : Wk p l e R s m args below meth c Z a0 EL pr y bs ml rt T vm0 h k n) {x z : Int64} {o : Int} {q' : Nat} (hd : decode bs pc = .ok (.ifCond .le o, 3)) (ho : 0 ≤ (pc : Int) + o) (hq : ((pc : Int) + o).toNat = q) (hq' : pc + 3 = q') (hY : ¬ z < x → Go p e below Φ (T.setTop (mkF m q Ls st))) (hN : z < x → Go p e below Φ (T.setTop (mkF m q' Ls st))) : Go p e below Φ (T.setTop (mkF m pc Ls (.int (Jvm.Free.XT.cmpL x z) :: st))) := by
  by_cases hc : ¬ z < x
  · exact g_ifY w hd ho hq (Jvm.Free.XT.ll_le_t hc) (hY hc)
  · exact g_ifN w hd hq' (Jvm.Free.XT.ll_le_f (Classical.not_not.mp hc)) (hN (Classical.not_not.mp hc))
theorem g_ar_eq (w : Wk p l e R s m args below meth c Z a0 EL pr y bs ml rt T vm0 h k n) {a b : Addr} {o : Int} {q' : Nat} (hd : decode bs pc = .ok (.if_acmp .eq o, 3)) (ho : 0 ≤ (pc : Int) + o) (hq : ((pc : Int) + o).toNat = q) (hq' : pc + 3 = q') (hY : a = b → Go p e below Φ (T.setTop (mkF m q Ls st))) (hN : ¬ a = b → Go p e below Φ (T.setTop (mkF m q' Ls st))) : Go p e below Φ (T.setTop (mkF m pc Ls (.ref b :: .ref a :: st))) := by
  by_cases hc : a = b
  · exact g_acY w hd ho hq rfl rfl (Jvm.Free.XT.aa_eq_t (congrArg Value.ref hc)) (hY hc)
  · exact g_acN w hd hq' rfl rfl (Jvm.Free.XT.aa_eq_f fun z => hc (Value.ref.inj z)) (hN hc)
theorem g_ar_ne (w : Wk p l e R s m args below meth c Z a0 EL pr y bs ml rt T vm0 h k n) {a b : Addr} {o : Int} {q' : Nat} (hd : decode bs pc = .ok (.if_acmp .ne o, 3)) (ho : 0 ≤ (pc : Int) + o) (hq : ((pc : Int) + o).toNat = q) (hq' : pc + 3 = q') (hY : ¬ a = b → Go p e below Φ (T.setTop (mkF m q Ls st))) (hN : a = b → Go p e below Φ (T.setTop (mkF m q' Ls st))) : Go p e below Φ (T.setTop (mkF m pc Ls (.ref b :: .ref a :: st))) := by
  by_cases hc : a = b
  · exact g_acN w hd hq' rfl rfl (Jvm.Free.XT.aa_ne_f (congrArg Value.ref hc)) (hN hc)
  · exact g_acY w hd ho hq rfl rfl (Jvm.Free.XT.aa_ne_t fun z => hc (Value.ref.inj z)) (hY hc)
theorem g_ldcI (w : Wk p l e R s m args below meth c Z a0 EL pr y bs ml rt T vm0 h k n) {i : Nat} {v : Int32} (hd : decode bs pc = .ok (.ldc i, 2)) (hq : pc + 2 = q) (wc : (Cond.constant y.cls i v).before a0 Z = true) (hr : Go p e below Φ (T.setTop (mkF m q Ls (.int v :: st)))) : Go p e below Φ (T.setTop (mkF m pc Ls st)) := by
  subst hq; obtain ⟨⟨hx, hb1, hml, hrt, hlk, hnm, hEL⟩, k0, locs, X, hh, hZ, hown, hS, hk0, N, C, O, hpr⟩ := w
  exact hr.pre fun t r => X.ldcI hx hown (mvT (s := s.setVm vm0) hZ wc) rfl (hb hb1 hd) r
theorem g_ldcWI (w : Wk p l e R s m args below meth c Z a0 EL pr y bs ml rt T vm0 h k n) {i : Nat} {v : Int32} (hd : decode bs pc = .ok (.ldc_w i, 3)) (hq : pc + 3 = q) (wc : (Cond.constant y.cls i v).before a0 Z = true) (hr : Go p e below Φ (T.setTop (mkF m q Ls (.int v :: st)))) : Go p e below Φ (T.setTop (mkF m pc Ls st)) := by
  subst hq; obtain ⟨⟨hx, hb1, hml, hrt, hlk, hnm, hEL⟩, k0, locs, X, hh, hZ, hown, hS, hk0, N, C, O, hpr⟩ := w
  exact hr.pre fun t r => X.ldcWI hx hown (mvT (s := s.setVm vm0) hZ wc) rfl (hb hb1 hd) r
theorem g_ldc2J (w : Wk p l e R s m args below meth c Z a0 EL pr y bs ml rt T vm0 h k n) {i : Nat} {v : Int64} (hd : decode bs pc = .ok (.ldc2_w i, 3)) (hq : pc + 3 = q) (wc : (Cond.constantLong y.cls i v).before a0 Z = true) (hr : Go p e below Φ (T.setTop (mkF m q Ls (.long v :: st)))) : Go p e below Φ (T.setTop (mkF m pc Ls st)) := by
  subst hq; obtain ⟨⟨hx, hb1, hml, hrt, hlk, hnm, hEL⟩, k0, locs, X, hh, hZ, hown, hS, hk0, N, C, O, hpr⟩ := w
  exact hr.pre fun t r => X.ldc2J hx hown (mvT (s := s.setVm vm0) hZ wc) rfl (hb hb1 hd) r
theorem ext_refl (h : Heap) : Ext h h := ⟨Nat.le_refl _, fun _ _ q => q⟩
theorem ext_trans {h1 h2 h3 : Heap} (E : Ext h1 h2) (F : Ext h2 h3) : Ext h1 h3 := ⟨Nat.le_trans E.1 F.1, fun a c q => F.2 _ _ (E.2 _ _ q)⟩
theorem ext_keep {h1 h2 h3 : Heap} {a : Addr} (E : Ext h1 h2) (K : Keep h2 h3 [a]) (ha : h1.size ≤ a) : Ext h1 h3 := ⟨Nat.le_trans E.1 K.1, fun x c q => K.2.1 x c (E.2 _ _ q) fun hm => by
  have := (Array.getElem?_eq_some_iff.mp q).1
  cases List.mem_singleton.mp hm
  omega⟩
theorem ext_wr {h1 h2 h3 : Heap} {a : Addr} {sl : Nat} {v : Value} (E : Ext h1 h2) (W : Wr h2 h3 a sl v) (ha : h1.size ≤ a) : Ext h1 h3 := ext_keep E (Keep.of_wr W) ha
theorem Wk.sta (w : Wk p l e R s m args below meth c Z a0 EL pr y bs ml rt T vm0 h k n) {C nm d : String} {v : Value} (S : Sta Z Z.heap C nm d v) : Sta Z h C nm d v := S.ext w.old
/-- getfield -/
theorem g_getF (w : Wk p l e R s m args below meth c Z a0 EL pr y bs ml rt T vm0 h k n) {i : Nat} {R0 O' nm d host : String} {a : Addr} {v : Value} (hd : decode bs pc = .ok (.getfield i, 3)) (hq : pc + 3 = q) (wl : (Cond.fieldLink y.cls i R0 nm d).before a0 Z = true ∨ (Cond.fieldLinkNest y.cls i R0 nm d host).before a0 Z = true) (via : Via Z R0 O' nm d) (F : Fld Z h a O' nm d v)
    (K : ∀ T', Wk p l e R s m args below meth c Z a0 EL pr y bs ml rt T' vm0 h k n → Go p e below Φ (T'.setTop (mkF m q Ls (v :: st)))) : Go p e below Φ (T.setTop (mkF m pc Ls (.ref a :: st))) := by
  subst hq; obtain ⟨⟨hx, hb1, hml, hrt, hlk, hnm, hEL⟩, k0, locs, X, hh, hZ, hown, hS, hk0, N, C, O, hpr⟩ := w
  obtain ⟨T', X', e', g'⟩ := getF X hx hZ hown wl via hh F (g := mkF m pc Ls (.ref a :: st)) rfl rfl (hb hb1 hd)
  exact (K T' ⟨⟨hx, hb1, hml, hrt, hlk, hnm, hEL⟩, k0, locs, X', e', hZ, hown, hS, hk0, N, C, O, hpr⟩).pre g'
/-- getstatic -/
theorem g_getS (w : Wk p l e R s m args below meth c Z a0 EL pr y bs ml rt T vm0 h k n) {i : Nat} {R0 O' nm d : String} {v : Value} (hd : decode bs pc = .ok (.getstatic i, 3)) (hq : pc + 3 = q) (wl : (Cond.fieldLink y.cls i R0 nm d).before a0 Z = true) (via : Via Z R0 O' nm d) (F : Sta Z Z.heap O' nm d v)
    (K : ∀ T', Wk p l e R s m args below meth c Z a0 EL pr y bs ml rt T' vm0 h k n → Go p e below Φ (T'.setTop (mkF m q Ls (v :: st)))) : Go p e below Φ (T.setTop (mkF m pc Ls st)) := by
  subst hq; have F' := w.sta F; obtain ⟨⟨hx, hb1, hml, hrt, hlk, hnm, hEL⟩, k0, locs, X, hh, hZ, hown, hS, hk0, N, C, O, hpr⟩ := w
  obtain ⟨T', X', e', g'⟩ := getS (host := "") X hx hZ hown wl via hh F' (g := mkF m pc Ls st) rfl (hb hb1 hd)
  exact (K T' ⟨⟨hx, hb1, hml, hrt, hlk, hnm, hEL⟩, k0, locs, X', e', hZ, hown, hS, hk0, N, C, O, hpr⟩).pre g'
/-- putfield of an object that is new -/
theorem g_putF (w : Wk p l e R s m args below meth c Z a0 EL pr y bs ml rt T vm0 h k n) {i kk : Nat} {R0 O' nm d C' : String} {a : Addr} {v v' old : Value} {ty : FieldType} (hd : decode bs pc = .ok (.putfield i, 3)) (hq : pc + 3 = q) (wl : (Cond.fieldLink y.cls i R0 nm d).before a0 Z = true) (via : Via Z R0 O' nm d) (F : Fld Z h a O' nm d old) (E : Exa Z h a C')
    (L : (Cond.lays C' O' nm d).before a0 Z = true ∨ ((Cond.laysFinal C' O' nm d).before a0 Z = true ∧ y.cls = O' ∧ y.name = "<init>")) (wi : (Cond.instantiable C' kk).before a0 Z = true) (hty : parseFieldDescriptor d = some ty) (hn : narrow ty v = v') (hf : fits ty v' = true) (ga : Z.heap.size ≤ a) (S : Safe Z EL vm0 h a)
    (K : ∀ T' h', Wk p l e R s m args below meth c Z a0 EL pr y bs ml rt T' vm0 h' k n → Wr h h' a (Jvm.RoadKit.slotOf Z O' nm d) v' → Go p e below Φ (T'.setTop (mkF m q Ls st))) : Go p e below Φ (T.setTop (mkF m pc Ls (v :: .ref a :: st))) := by
  subst hq; obtain ⟨⟨hx, hb1, hml, hrt, hlk, hnm, hEL⟩, k0, locs, X, hh, hZ, hown, hS, hk0, N, C, O, hpr⟩ := w
  obtain ⟨T', h', X', e', W, g'⟩ := putFN X hx hZ hown wl via hh F E (L.imp id fun q => ⟨q.1, q.2.1, hnm.trans q.2.2⟩) wi hty hn hf (g := mkF m pc Ls (v :: .ref a :: st)) rfl rfl (hb hb1 hd)
  exact (K T' h' ⟨⟨hx, hb1, hml, hrt, hlk, hnm, hEL⟩, k0, _, X', e', hZ, hown, hS, by rw [W.size]; exact hk0, N.snoc X' ga, C.trans (CHr.wr W S C.1), ext_wr O W ga, hpr⟩ W).pre g'
/-- new -/
theorem g_new (w : Wk p l e R s m args below meth c Z a0 EL pr y bs ml rt T vm0 h k n) {i nn : Nat} {C' : String} (hd : decode bs pc = .ok (.new i, 3)) (hq : pc + 3 = q) (w1 : (Cond.classLink y.cls i C').before a0 Z = true) (w2 : (Cond.instantiable C' nn).before a0 Z = true) (w3 : (Cond.initialized C').before a0 Z = true) (hc : k + 1 ≤ R.cells) (hl : n + nn ≤ R.slots)
    (K : ∀ T' h' a, Wk p l e R s m args below meth c Z a0 EL pr y bs ml rt T' vm0 h' (k + 1) (n + nn) → Ext h h' → h.size ≤ a → Z.heap.size ≤ a → Exa Z h' a C' → (∀ {O' nm d : String} {ty : FieldType}, Laid Z a0 C' O' nm d → parseFieldDescriptor d = some ty → Fld Z h' a O' nm d (defaultValue ty)) → Safe Z EL vm0 h' a → Go p e below Φ (T'.setTop (mkF m q Ls (.ref a :: st)))) : Go p e below Φ (T.setTop (mkF m pc Ls st)) := by
  subst hq; obtain ⟨⟨hx, hb1, hml, hrt, hlk, hnm, hEL⟩, k0, locs, X, hh, hZ, hown, hS, hk0, N, C, O, hpr⟩ := w
  obtain ⟨T', h', X', e', E, A, D, -, g'⟩ := newO X hx hZ hown w1 w2 w3 hh (g := mkF m pc Ls st) rfl (hb hb1 hd) hc hl
  exact (K T' h' h.size ⟨⟨hx, hb1, hml, hrt, hlk, hnm, hEL⟩, k0, locs, X', e', hZ, hown, hS, Nat.le_trans hk0 E.1, N, C.trans (CHr.ext E C.1), ext_trans O E, hpr⟩ E (Nat.le_refl _) O.1 A D (Safe.ext E C.1 (Safe.new (Nat.le_refl _)))).pre g'
/-- an array, its components known -/
def Ar (Z : State) (h : Heap) (a : Addr) (ty : FieldType) (vs : List Value) : Prop := vs.length < 2147483648 ∧ ∃ kC d, Arv Z h a kC ty (Int32.ofNat vs.length) vs d
theorem ofNat_clamp {n : Nat} (h : n < 2147483648) : (Int32.ofNat n).toNatClampNeg = n := by
  have : (Int32.ofNat n).toInt = n := Int32.toInt_ofNat_of_lt (by omega)
  simp only [Int32.toNatClampNeg, this]; rfl
theorem ofNat_nonneg {n : Nat} (h : n < 2147483648) : ¬ Int32.ofNat n < 0 := by
  have : (Int32.ofNat n).toInt = n := Int32.toInt_ofNat_of_lt (by omega)
  rw [Int32.lt_iff_toInt_lt, this, show (0 : Int32).toInt = 0 from rfl]; omega
theorem Ar.lt {a : Addr} {ty : FieldType} {vs : List Value} (F : Ar Z h a ty vs) : a < h.size := by obtain ⟨-, _, _, F⟩ := F; exact F.lt
theorem Ar.ext {h' : Heap} {a : Addr} {ty : FieldType} {vs : List Value} (F : Ar Z h a ty vs) (E : Ext h h') : Ar Z h' a ty vs := by obtain ⟨q, _, _, F⟩ := F; exact ⟨q, _, _, F.ext E⟩
theorem Ar.keep {h' : Heap} {a : Addr} {ty : FieldType} {vs : List Value} {ws : List Addr} (F : Ar Z h a ty vs) (K : Keep h h' ws) (q : a ∉ ws) : Ar Z h' a ty vs := by obtain ⟨q', _, _, F⟩ := F; exact ⟨q', _, _, F.keep K q⟩
theorem Ar.other {h' : Heap} {a b : Addr} {ty : FieldType} {vs : List Value} {sl : Nat} {v : Value} (F : Ar Z h b ty vs) (W : Wr h h' a sl v) (q : b ≠ a) : Ar Z h' b ty vs := by obtain ⟨q', _, _, F⟩ := F; exact ⟨q', _, _, F.other W q⟩
theorem Ar.arv {a : Addr} {ty : FieldType} {vs : List Value} (F : Ar Z h a ty vs) (d' : Value) : ∃ kC, Arv Z h a kC ty (Int32.ofNat vs.length) vs d' := by
  obtain ⟨q, kC, d, c, A, r1, r2, r3, H, G⟩ := F
  have e : ∀ i, i < c.slots.size → vs.getD i d' = vs.getD i d := fun i hi => by
    rw [r2, ofNat_clamp q] at hi; simp [List.getD_eq_getElem?_getD, hi]
  exact ⟨kC, c, A, r1, r2, r3, fun i hi => by rw [e i hi]; exact H i hi, fun i hi => by rw [e i hi]; exact G i hi⟩
/-- newarray -/
theorem g_newarr (w : Wk p l e R s m args below meth c Z a0 EL pr y bs ml rt T vm0 h k n) {aty : ArrayType} {z : Int32} {len cap : Nat} (hd : decode bs pc = .ok (.newarray aty, 2)) (hq : pc + 2 = q) (w1 : (Cond.arrayClass (newarray.typeOf aty)).before a0 Z = true) (hz : z = Int32.ofNat len) (hl : len ≤ cap) (hcap : cap * 8 ≤ 536870912) (hc : k + 1 ≤ R.cells) (hs : n + cap ≤ R.slots)
    (K : ∀ T' h' a, Wk p l e R s m args below meth c Z a0 EL pr y bs ml rt T' vm0 h' (k + 1) (n + cap) → Ext h h' → h.size ≤ a → Z.heap.size ≤ a → Ar Z h' a (newarray.typeOf aty) (List.replicate len (defaultValue (newarray.typeOf aty))) → Safe Z EL vm0 h' a → Go p e below Φ (T'.setTop (mkF m q Ls (.ref a :: st)))) : Go p e below Φ (T.setTop (mkF m pc Ls (.int z :: st))) := by
  subst hq hz; obtain ⟨⟨hx, hb1, hml, hrt, hlk, hnm, hEL⟩, k0, locs, X, hh, hZ, hown, hS, hk0, N, C, O, hpr⟩ := w
  have hlen : len < 2147483648 := by omega
  obtain ⟨T', h', cA, X', e', E, A, g'⟩ := newP X hx hZ w1 hh (g := mkF m pc Ls (.int (Int32.ofNat len) :: st)) rfl (hb hb1 hd) rfl (ofNat_nonneg hlen) (cap := cap) (by rw [ofNat_clamp hlen]; exact hl) hcap hc hs
  refine (K T' h' h.size ⟨⟨hx, hb1, hml, hrt, hlk, hnm, hEL⟩, k0, locs, X', e', hZ, hown, hS, Nat.le_trans hk0 E.1, N, C.trans (CHr.ext E C.1), ext_trans O E, hpr⟩ E (Nat.le_refl _) O.1 ⟨by simpa using hlen, cA, defaultValue (newarray.typeOf aty), ?_⟩ (Safe.ext E C.1 (Safe.new (Nat.le_refl _)))).pre g'
  have q := (Arv.new A (ofNat_nonneg hlen)).pad (vs' := List.replicate len (defaultValue (newarray.typeOf aty))) (fun i => by simpa using pad_rep [] (defaultValue (newarray.typeOf aty)) len i)
  simpa using q
theorem inb {vs : List Value} {i : Nat} {cl : Cell} (hv : vs.length < 2147483648) (S : cl.slots.size = (Int32.ofNat vs.length).toNatClampNeg) (hi : i < vs.length) : ¬ (Int32.ofNat i < 0 ∨ cl.slots.size ≤ (Int32.ofNat i).toNatClampNeg) := by
  rw [S, ofNat_clamp hv, ofNat_clamp (by omega)]
  intro q
  rcases q with q | q
  · exact ofNat_nonneg (by omega) q
  · omega
/-- castore into a new array -/
theorem g_castore (w : Wk p l e R s m args below meth c Z a0 EL pr y bs ml rt T vm0 h k n) {a : Addr} {vs : List Value} {j x x' : Int32} {i : Nat} (hd : decode bs pc = .ok (.castore, 1)) (hq : pc + 1 = q) (A : Ar Z h a .char vs) (hj : j = Int32.ofNat i) (hi : i < vs.length) (hx' : nar .char x = x') (ga : Z.heap.size ≤ a) (S : Safe Z EL vm0 h a)
    (K : ∀ T' h', Wk p l e R s m args below meth c Z a0 EL pr y bs ml rt T' vm0 h' k n → Wr h h' a i (.int x') → Ar Z h' a .char (vs.set i (.int x')) → Go p e below Φ (T'.setTop (mkF m q Ls st))) : Go p e below Φ (T.setTop (mkF m pc Ls (.int x :: .int j :: .ref a :: st))) := by
  subst hq hj hx'; obtain ⟨⟨hx, hb1, hml, hrt, hlk, hnm, hEL⟩, k0, locs, X, hh, hZ, hown, hS, hk0, N, C, O, hpr⟩ := w
  obtain ⟨hv, kC, dv, cl, B, q1, S1, q3, H1, G1⟩ := A
  obtain ⟨T', h', X', e', W, g'⟩ := stC X hx hZ hh B (j := Int32.ofNat i) (inb hv S1 hi) (g := mkF m pc Ls (.int x :: .int (Int32.ofNat i) :: .ref a :: st)) rfl rfl (hb hb1 hd)
  have V := Arv.set B q1 S1 q3 H1 G1 (fits_nar_char x) W i (ofNat_clamp (by omega)) hi
  rw [ofNat_clamp (by omega)] at W
  exact (K T' h' ⟨⟨hx, hb1, hml, hrt, hlk, hnm, hEL⟩, k0, _, X', e', hZ, hown, hS, by rw [W.size]; exact hk0, N.snoc X' ga, C.trans (CHr.wr W S C.1), ext_wr O W ga, hpr⟩ W ⟨by simpa using hv, kC, dv, by simpa using V⟩).pre g'
/-- bastore into a new byte[] -/
theorem g_bastore (w : Wk p l e R s m args below meth c Z a0 EL pr y bs ml rt T vm0 h k n) {a : Addr} {vs : List Value} {j x x' : Int32} {i : Nat} (hd : decode bs pc = .ok (.bastore, 1)) (hq : pc + 1 = q) (A : Ar Z h a .byte vs) (hj : j = Int32.ofNat i) (hi : i < vs.length) (hx' : nar .byte x = x') (ga : Z.heap.size ≤ a) (S : Safe Z EL vm0 h a)
    (K : ∀ T' h', Wk p l e R s m args below meth c Z a0 EL pr y bs ml rt T' vm0 h' k n → Wr h h' a i (.int x') → Ar Z h' a .byte (vs.set i (.int x')) → Go p e below Φ (T'.setTop (mkF m q Ls st))) : Go p e below Φ (T.setTop (mkF m pc Ls (.int x :: .int j :: .ref a :: st))) := by
  subst hq hj hx'; obtain ⟨⟨hx, hb1, hml, hrt, hlk, hnm, hEL⟩, k0, locs, X, hh, hZ, hown, hS, hk0, N, C, O, hpr⟩ := w
  obtain ⟨hv, kC, dv, cl, B, q1, S1, q3, H1, G1⟩ := A
  obtain ⟨T', h', X', e', W, g'⟩ := stB X hx hZ hh B (j := Int32.ofNat i) (inb hv S1 hi) (g := mkF m pc Ls (.int x :: .int (Int32.ofNat i) :: .ref a :: st)) rfl rfl (hb hb1 hd)
  have V := Arv.set B q1 S1 q3 H1 G1 (fits_nar_byte x) W i (ofNat_clamp (by omega)) hi
  rw [ofNat_clamp (by omega)] at W
  exact (K T' h' ⟨⟨hx, hb1, hml, hrt, hlk, hnm, hEL⟩, k0, _, X', e', hZ, hown, hS, by rw [W.size]; exact hk0, N.snoc X' ga, C.trans (CHr.wr W S C.1), ext_wr O W ga, hpr⟩ W ⟨by simpa using hv, kC, dv, by rw [List.length_set]; exact V⟩).pre g'
theorem g_alen (w : Wk p l e R s m args below meth c Z a0 EL pr y bs ml rt T vm0 h k n) {a : Addr} {ty : FieldType} {vs : List Value} (hd : decode bs pc = .ok (.arraylength, 1)) (hq : pc + 1 = q) (A : Ar Z h a ty vs) (hr : Go p e below Φ (T.setTop (mkF m q Ls (.int (Int32.ofNat vs.length) :: st)))) : Go p e below Φ (T.setTop (mkF m pc Ls (.ref a :: st))) := by
  subst hq; obtain ⟨⟨hx, hb1, hml, hrt, hlk, hnm, hEL⟩, k0, locs, X, hh, hZ, hown, hS, hk0, N, C, O, hpr⟩ := w
  obtain ⟨hv, kC, dv, cl, B, q1, S1, q3, H1, G1⟩ := A
  refine hr.pre fun t r => X.arraylength (g := mkF m pc Ls (.ref a :: st)) hx (by rw [hh]; exact B.1) (State.isArrayOf_alike hZ.alike B.2.1) rfl rfl (hb hb1 hd) t ?_
  rw [len_of S1 q3]; exact r
theorem g_caload (w : Wk p l e R s m args below meth c Z a0 EL pr y bs ml rt T vm0 h k n) {a : Addr} {vs : List Value} {j : Int32} {i : Nat} {v : Value} (hd : decode bs pc = .ok (.caload, 1)) (hq : pc + 1 = q) (A : Ar Z h a .char vs) (hj : j = Int32.ofNat i) (hi : i < vs.length) (hv' : vs[i]? = some v) (hr : Go p e below Φ (T.setTop (mkF m q Ls (v :: st)))) : Go p e below Φ (T.setTop (mkF m pc Ls (.int j :: .ref a :: st))) := by
  subst hq hj; obtain ⟨⟨hx, hb1, hml, hrt, hlk, hnm, hEL⟩, k0, locs, X, hh, hZ, hown, hS, hk0, N, C, O, hpr⟩ := w
  obtain ⟨hv, kC, dv, cl, B, q1, S1, q3, H1, G1⟩ := A
  refine hr.pre fun t r => X.caload (g := mkF m pc Ls (.int (Int32.ofNat i) :: .ref a :: st)) hx (by rw [hh]; exact B.1) (State.isArrayOf_alike hZ.alike B.2.1) B.2.2 (inb hv S1 hi) (H1.at (inb hv S1 hi) (by rw [ofNat_clamp (by omega), List.getD_eq_getElem?_getD, hv']; rfl)) rfl rfl (hb hb1 hd) t r
theorem g_baload (w : Wk p l e R s m args below meth c Z a0 EL pr y bs ml rt T vm0 h k n) {a : Addr} {vs : List Value} {j : Int32} {i : Nat} {v : Value} (hd : decode bs pc = .ok (.baload, 1)) (hq : pc + 1 = q) (A : Ar Z h a .byte vs) (hj : j = Int32.ofNat i) (hi : i < vs.length) (hv' : vs[i]? = some v) (hr : Go p e below Φ (T.setTop (mkF m q Ls (v :: st)))) : Go p e below Φ (T.setTop (mkF m pc Ls (.int j :: .ref a :: st))) := by
  subst hq hj; obtain ⟨⟨hx, hb1, hml, hrt, hlk, hnm, hEL⟩, k0, locs, X, hh, hZ, hown, hS, hk0, N, C, O, hpr⟩ := w
  obtain ⟨hv, kC, dv, cl, B, q1, S1, q3, H1, G1⟩ := A
  refine hr.pre fun t r => X.baloadBytes (g := mkF m pc Ls (.int (Int32.ofNat i) :: .ref a :: st)) hx (by rw [hh]; exact B.1) (State.isArrayOf_alike hZ.alike B.2.1) B.2.2 (inb hv S1 hi) (H1.at (inb hv S1 hi) (by rw [ofNat_clamp (by omega), List.getD_eq_getElem?_getD, hv']; rfl)) rfl rfl (hb hb1 hd) t r
/-- checkcast, instanceof: yes -/
theorem g_cast (w : Wk p l e R s m args below meth c Z a0 EL pr y bs ml rt T vm0 h k n) {i : Nat} {K' : String} {a : Addr} (hd : decode bs pc = .ok (.checkcast i, 3)) (hq : pc + 3 = q) (w1 : (Cond.classLink y.cls i K').before a0 Z = true) (F : Ins Z h a K' true) (K : ∀ T', Wk p l e R s m args below meth c Z a0 EL pr y bs ml rt T' vm0 h k n → Go p e below Φ (T'.setTop (mkF m q Ls (.ref a :: st)))) : Go p e below Φ (T.setTop (mkF m pc Ls (.ref a :: st))) := by
  subst hq; obtain ⟨⟨hx, hb1, hml, hrt, hlk, hnm, hEL⟩, k0, locs, X, hh, hZ, hown, hS, hk0, N, C, O, hpr⟩ := w
  obtain ⟨T', X', e', g'⟩ := castY X hx hZ hown w1 hh F (g := mkF m pc Ls (.ref a :: st)) rfl rfl (hb hb1 hd)
  exact (K T' ⟨⟨hx, hb1, hml, hrt, hlk, hnm, hEL⟩, k0, locs, X', e', hZ, hown, hS, hk0, N, C, O, hpr⟩).pre g'
theorem g_inst (w : Wk p l e R s m args below meth c Z a0 EL pr y bs ml rt T vm0 h k n) {i : Nat} {K' : String} {a : Addr} (hd : decode bs pc = .ok (.instanceof i, 3)) (hq : pc + 3 = q) (w1 : (Cond.classLink y.cls i K').before a0 Z = true) (F : Ins Z h a K' true) (K : ∀ T', Wk p l e R s m args below meth c Z a0 EL pr y bs ml rt T' vm0 h k n → Go p e below Φ (T'.setTop (mkF m q Ls (.int 1 :: st)))) : Go p e below Φ (T.setTop (mkF m pc Ls (.ref a :: st))) := by
  subst hq; obtain ⟨⟨hx, hb1, hml, hrt, hlk, hnm, hEL⟩, k0, locs, X, hh, hZ, hown, hS, hk0, N, C, O, hpr⟩ := w
  obtain ⟨T', X', e', g'⟩ := instY X hx hZ hown w1 hh F (g := mkF m pc Ls (.ref a :: st)) rfl rfl (hb hb1 hd)
  exact (K T' ⟨⟨hx, hb1, hml, hrt, hlk, hnm, hEL⟩, k0, locs, X', e', hZ, hown, hS, hk0, N, C, O, hpr⟩).pre g'
/-- Object.<init> -/
theorem g_initO (w : Wk p l e R s m args below meth c Z a0 EL pr y bs ml rt T vm0 h k n) {i W : Nat} {a : Addr} (hd : decode bs pc = .ok (.invokespecial i, 3)) (hq : pc + 3 = q) (hsz : Ls.size = ml) (w1 : (Cond.methodLink y.cls i Lib.objectInit).before a0 Z = true) (w2 : (Cond.instanceMethod Lib.objectInit).before a0 Z = true) (w3 : (Cond.code Lib.objectInit ⟨#[0xb1]⟩ 1 none).before a0 Z = true) (hW : 2 * 0 + (st.map fun v => v.category).sum ≤ W) (hf : 1 ≤ R.frames) (hl : W + 12 ≤ R.locals)
    (K : ∀ T', Wk p l e R s m args below meth c Z a0 EL pr y bs ml rt T' vm0 h k n → Go p e below Φ (T'.setTop (mkF m q Ls st))) : Go p e below Φ (T.setTop (mkF m pc Ls (.ref a :: st))) := by
  subst hq; obtain ⟨⟨hx, hb1, hml, hrt, hlk, hnm, hEL⟩, k0, locs, X, hh, hZ, hown, hS, hk0, N, C, O, hpr⟩ := w
  obtain ⟨T', X', e', g'⟩ := initO X hx hZ hown w1 w2 w3 hh (g := mkF m pc Ls (.ref a :: st)) rfl (hsz.trans hml.symm) rfl (hb hb1 hd) hf hW hl
  exact (K T' ⟨⟨hx, hb1, hml, hrt, hlk, hnm, hEL⟩, k0, locs, X', e', hZ, hown, hS, hk0, N, C, O, hpr⟩).pre g'
/-- ldc of a String constant of EL -/
theorem g_ldcS (w : Wk p l e R s m args below meth c Z a0 EL pr y bs ml rt T vm0 h k n) {i nn : Nat} {text : String} {vs : List Value} {z : Int32} (hd : decode bs pc = .ok (.ldc i, 2)) (hq : pc + 2 = q) (hp : pr = false) (w1 : (Cond.stringLink y.cls i text).before a0 Z = true) (wS : ∀ a ∈ Bundle.stringAtoms, a.before a0 Z = true) (hmem : (y.cls, i) ∈ EL)
    (ht : (∀ c ∈ text.toList, c.toNat < 256) ∧ text.toList.map (fun c => Value.int (Jvm.Lit.byteI c.toNat.toUInt16)) = vs) (hz : ¬ z < 0) (hl : z.toNatClampNeg = vs.length) (hn : 4 * text.toList.length ≤ nn) (hbig : nn ≤ 536870912) (hc : k + 2 ≤ R.cells) (hs : n + (nn + 4) ≤ R.slots)
    (K : ∀ T' vm' h' a b kb, Wk p l e R s m args below meth c Z a0 EL pr y bs ml rt T' vm' h' (k + 2) (n + (nn + 4)) → Ext h h' → Exa Z h' a "java/lang/String" → Fld Z h' a "java/lang/String" "coder" "B" (.int 0) → Fld Z h' a "java/lang/String" "value" "[B" (.ref b) → Arv Z h' b kb .byte z vs (.int 0) → CHr Z EL vm0 h vm' h' → (∀ x, Safe Z EL vm' h' x → x ≠ a ∧ x ≠ b) → Go p e below Φ (T'.setTop (mkF m q Ls (.ref a :: st)))) : Go p e below Φ (T.setTop (mkF m pc Ls st)) := by
  subst hq hp; obtain ⟨⟨hx, hb1, hml, hrt, hlk, hnm, hEL⟩, k0, locs, X, hh, hZ, hown, hS, hk0, N, C, O, hpr⟩ := w
  obtain ⟨a, T', h', k1, b, kb, X', e', E, hS', hk', hZ', hown', E1, F1, F2, A1, -, -, C', -, Sf, g'⟩ := ldcCH X hx hZ hown w1 wS hh hS hk0 hEL hmem C.1 ht hz hl (g := mkF m pc Ls st) rfl (hb hb1 hd) hn hbig hc hs
  exact (K T' T'.vm h' a b kb ⟨⟨hx, hb1, hml, hrt, hlk, hnm, hEL⟩, k1, locs, X', e', hZ', hown', hS', hk', N, C.trans C', ext_trans O E, fun q => by cases q⟩ E E1 F1 F2 A1 C' Sf).pre g'
/-- ldc of a String constant, its text not asked -/
theorem g_ldcO (w : Wk p l e R s m args below meth c Z a0 EL pr y bs ml rt T vm0 h k n) {i nn : Nat} {text : String} (hd : decode bs pc = .ok (.ldc i, 2)) (hq : pc + 2 = q) (hp : pr = false) (w1 : (Cond.stringLink y.cls i text).before a0 Z = true) (wS : ∀ a ∈ Bundle.stringAtoms, a.before a0 Z = true) (hn : 4 * text.toList.length ≤ nn) (hbig : nn ≤ 536870912) (hc : k + 2 ≤ R.cells) (hs : n + (nn + 4) ≤ R.slots)
    (K : ∀ T' vm' h' a, Wk p l e R s m args below meth c Z a0 EL pr y bs ml rt T' vm' h' (k + 2) (n + (nn + 4)) → Ext h h' → CHr Z EL vm0 h vm' h' → Go p e below Φ (T'.setTop (mkF m q Ls (.ref a :: st)))) : Go p e below Φ (T.setTop (mkF m pc Ls st)) := by
  subst hq hp; obtain ⟨⟨hx, hb1, hml, hrt, hlk, hnm, hEL⟩, k0, locs, X, hh, hZ, hown, hS, hk0, N, C, O, hpr⟩ := w
  obtain ⟨a, T', h', k1, X', e', E, hS', hk', hZ', hown', C', -, g'⟩ := ldcOH X hx hZ hown w1 wS hh hS hk0 hEL C.1 (g := mkF m pc Ls st) rfl (hb hb1 hd) hn hbig hc hs
  exact (K T' T'.vm h' a ⟨⟨hx, hb1, hml, hrt, hlk, hnm, hEL⟩, k1, locs, X', e', hZ', hown', hS', hk', N, C.trans C', ext_trans O E, fun q => by cases q⟩ E C').pre g'
/-- a callee's contract, at the call -/
theorem Con.back {y' : MethodName} {bs' : ByteArray} {ml' : Nat} {rt' : Option FieldType} {rm : Room} {as' : Array Value} {sf : List Addr} {Q : Option Value → Heap → Prop} {len W : Nat} (hM : Con l Z EL pr y' bs' ml' rt' [] rm as' sf h Q) (hsf : ∀ x ∈ sf, x < h.size ∧ Safe Z EL vm0 h x) (hZ : Z.Warmed39 vm0) (wc : (Cond.code y' bs' ml' rt').before a0 Z = true) (wz : (Cond.initialized y'.cls).before a0 Z = true)
    (hf : rm.frames + 1 ≤ R.frames) (hl : W + (ml' + 11) + rm.locals ≤ R.locals) (hEL : EW Z a0 EL) (H : CHv Z EL vm0 h) :
    BackS l R p e below (s.setVm vm0) args y' len W (fun A a => a = as' ∧ A.U.heap = h ∧ A.cells + rm.cells ≤ R.cells ∧ A.slots + rm.slots ≤ R.slots)
      (fun A _ v B => ∃ L, (Q v B.U.heap ∧ Ext Z.heap B.U.heap ∧ Fr Z.heap.size L) ∧ B.locs = A.locs ++ L ∧ B.cells = A.cells + rm.cells ∧ B.slots = A.slots + rm.slots ∧ CHr Z EL vm0 h B.U.vm B.U.heap ∧ (pr = true → A.U.WarmedH B.U.vm)) :=
  BackS.of_freeW (bytes := bs') (maxL := ml') (ret := rt') (E := fun _ first o t L kk nn => kk = rm.cells ∧ nn = rm.slots ∧ (∃ v, o = .returned v ∧ Q v t.heap ∧ Ext Z.heap t.heap ∧ Fr Z.heap.size L) ∧ CHr Z EL first.vm first.heap t.vm t.heap ∧ (pr = true → first.WarmedH t.vm)) hM hf hl
    (fun m meth c A a Y hp => have hU : Z.Warmed39 A.U.vm := wtrans (s := s.setVm vm0) hZ Y.warmed
      ⟨by show (Cond.and _ .tt).before a A.U = true; rw [Cond.before_and, mv hU wc]; rfl, mv hU wc, mv hU wz, hp.2.2.1, hp.2.2.2⟩)
    (fun m meth c A a g mk Y hp => ⟨hp.1, wtrans (s := s.setVm vm0) hZ Y.warmed, hp.2.1, (CHv.at Y hZ hEL H).1, fun x hx => (CHv.at Y hZ hEL H).safe (hsf x hx).1 (hsf x hx).2⟩) (fun _ _ _ _ _ _ _ _ _ => trivial)
    (fun _ _ _ _ ⟨v, L, h1, h2, h3, h4, h5, h6, h7⟩ => ⟨L, _, _, h7, rfl, rfl, ⟨v, h1, h2, h3, h4⟩, h5, h6⟩)
    (fun m meth c A a g mk v t L kk nn Y hp _ _ ⟨e1, e2, ⟨v', e3, e4⟩, e5, e6⟩ => by
      cases e3; subst e1 e2
      refine ⟨L, e4, rfl, rfl, rfl, (CHv.at Y hZ hEL H).trans ?_, e6⟩
      rw [← hp.2.1]; exact e5)
/-- behind a call -/
theorem Wk.after (w : Wk p l e R s m args below meth c Z a0 EL pr y bs ml rt T vm0 h k n) {T' : State} {locs' : List Loc} {k' n' : Nat} (X' : Stand p l e R ((s.setVm vm0).setVm T'.vm) m args below meth c T' locs' k' n') (h2 : (s.setVm vm0).Since T'.vm T'.heap.size) (hg : T.heap.size ≤ T'.heap.size) (N' : Fr Z.heap.size locs') (C' : CHr Z EL vm0 h T'.vm T'.heap) (O' : Ext Z.heap T'.heap) (hpr' : pr = true → (s.setVm vm0).WarmedH T'.vm) :
    Wk p l e R s m args below meth c Z a0 EL pr y bs ml rt T' T'.vm T'.heap k' n' := by
  obtain ⟨hd, k0, locs, X, rfl, hZ, hown, hS, hk0, N, C, O, hpr⟩ := w
  obtain ⟨a, b, c', d⟩ := rebS (Z := Z) hS hk0 X' h2 hg hZ hown
  exact ⟨hd, _, locs', a, rfl, c', d, b, Nat.le_refl _, N', C.trans C', O', fun q => State.WarmedH.trans (t := s.setVm vm0) (hpr q) (hpr' q)⟩
/-- invokestatic -/
theorem g_static (w : Wk p l e R s m args below meth c Z a0 EL pr y bs ml rt T vm0 h k n) {y' : MethodName} {bs' : ByteArray} {ml' : Nat} {rt' : Option FieldType} {rm : Room} {Q : Option Value → Heap → Prop} {i W : Nat} {argsL : List Value} {ps : List FieldType} {rr : Option FieldType} {stk : List Value} {sf : List Addr} (hM : Con l Z EL pr y' bs' ml' rt' [] rm argsL.toArray sf h Q) (hsf : ∀ x ∈ sf, x < h.size ∧ Safe Z EL vm0 h x) (hd : decode bs pc = .ok (.invokestatic i, 3)) (hq : pc + 3 = q) (hsz : Ls.size = ml)
    (w1 : (Cond.methodLink y.cls i y').before a0 Z = true) (w2 : (Cond.static y').before a0 Z = true) (w3 : (Cond.initialized y'.cls).before a0 Z = true) (w4 : (Cond.code y' bs' ml' rt').before a0 Z = true) (hy : y'.cls ≠ "java/lang/invoke/MethodHandle" ∧ y'.cls ≠ "java/lang/invoke/VarHandle") (hpd : parseMethodDescriptor y'.desc = some ⟨ps, rr⟩) (hlen : argsL.length = ps.length) (hst : stk = argsL.reverse ++ st)
    (hW : 2 * 0 + (st.map fun v => v.category).sum ≤ W) (hf : rm.frames + 1 ≤ R.frames) (hl : W + (ml' + 11) + rm.locals ≤ R.locals) (hc : k + rm.cells ≤ R.cells) (hs : n + rm.slots ≤ R.slots)
    (K : ∀ T' h' v, Wk p l e R s m args below meth c Z a0 EL pr y bs ml rt T' T'.vm h' (k + rm.cells) (n + rm.slots) → h.size ≤ h'.size → CHr Z EL vm0 h T'.vm h' → Q v h' → Go p e below Φ (T'.setTop (mkF m q Ls (v.toList ++ st)))) : Go p e below Φ (T.setTop (mkF m pc Ls stk)) := by
  subst hq hst; have w' := w; obtain ⟨⟨hx, hb1, hml, hrt, hlk, hnm, hEL⟩, k0, locs, X, hh, hZ, hown, hS, hk0, N, C, O, hpr⟩ := w
  obtain ⟨v, vm₁, ⟨T', L', k', n'⟩, hW1, X', hS', hg, ⟨L, ⟨hQ, hO', hF⟩, hl', hk', hn', hC', hp'⟩, stp⟩ := callSS X hx hown (mvT (s := s.setVm vm0) hZ w1) (mvT (s := s.setVm vm0) hZ w2) (mvT (s := s.setVm vm0) hZ w3) (mvT (s := s.setVm vm0) hZ w4) hy (hM.back hsf hZ w4 w3 hf hl hEL C.1) (g := mkF m pc Ls (argsL.reverse ++ st)) rfl (hsz.trans hml.symm) (lenOf hpd hlen) rfl hW (hb hb1 hd) (fun _ _ => ⟨rfl, hh, hc, hs⟩)
  dsimp only [Pt.U, Pt.locs, Pt.cells, Pt.slots] at X' hS' hg hQ hO' hl' hk' hn' hC' hp' stp
  subst hl' hk' hn'
  exact (K T' T'.heap v (w'.after X' hS' hg (N.app hF) hC' hO' fun q => State.WarmedH.trans (t := T.setVm vm₁) hW1 (hp' q)) hC'.2.1 hC' hQ).pre' stp
/-- invokespecial of a constructor -/
theorem g_special (w : Wk p l e R s m args below meth c Z a0 EL pr y bs ml rt T vm0 h k n) {y' : MethodName} {bs' : ByteArray} {ml' : Nat} {rm : Room} {Q : Option Value → Heap → Prop} {i W : Nat} {a : Addr} {argsL : List Value} {ps : List FieldType} {rr : Option FieldType} {stk : List Value} {sf : List Addr} (hM : Con l Z EL pr y' bs' ml' none [] rm (.ref a :: argsL).toArray sf h Q) (hsf : ∀ x ∈ sf, x < h.size ∧ Safe Z EL vm0 h x) (hd : decode bs pc = .ok (.invokespecial i, 3)) (hq : pc + 3 = q) (hsz : Ls.size = ml) (hni : y'.name = "<init>")
    (w1 : (Cond.methodLink y.cls i y').before a0 Z = true) (w2 : (Cond.instanceMethod y').before a0 Z = true) (w3 : (Cond.initialized y'.cls).before a0 Z = true) (w4 : (Cond.code y' bs' ml' none).before a0 Z = true) (hy : y'.cls ≠ "java/lang/invoke/MethodHandle" ∧ y'.cls ≠ "java/lang/invoke/VarHandle") (hpd : parseMethodDescriptor y'.desc = some ⟨ps, rr⟩) (hlen : argsL.length = ps.length) (hst : stk = argsL.reverse ++ .ref a :: st)
    (hW : 2 * 0 + (st.map fun v => v.category).sum ≤ W) (hf : rm.frames + 1 ≤ R.frames) (hl : W + (ml' + 11) + rm.locals ≤ R.locals) (hc : k + rm.cells ≤ R.cells) (hs : n + rm.slots ≤ R.slots)
    (K : ∀ T' h' v, Wk p l e R s m args below meth c Z a0 EL pr y bs ml rt T' T'.vm h' (k + rm.cells) (n + rm.slots) → h.size ≤ h'.size → CHr Z EL vm0 h T'.vm h' → Q v h' → Go p e below Φ (T'.setTop (mkF m q Ls (v.toList ++ st)))) : Go p e below Φ (T.setTop (mkF m pc Ls stk)) := by
  subst hq hst; have w' := w; obtain ⟨⟨hx, hb1, hml, hrt, hlk, hnm, hEL⟩, k0, locs, X, hh, hZ, hown, hS, hk0, N, C, O, hpr⟩ := w
  obtain ⟨v, vm₁, ⟨T', L', k', n'⟩, hW1, X', hS', hg, ⟨L, ⟨hQ, hO', hF⟩, hl', hk', hn', hC', hp'⟩, stp⟩ := X.specialBackS hx hni hown (mvT (s := s.setVm vm0) hZ w1) (mvT (s := s.setVm vm0) hZ w2) (mvT (s := s.setVm vm0) hZ w4) hy (hM.back hsf hZ w4 w3 hf hl hEL C.1) (g := mkF m pc Ls (argsL.reverse ++ .ref a :: st)) rfl (hsz.trans hml.symm) (Steps.refl _) (a := a) (lenOf hpd hlen) rfl hW (hb hb1 hd) (fun _ _ => ⟨rfl, hh, hc, hs⟩)
  dsimp only [Pt.U, Pt.locs, Pt.cells, Pt.slots] at X' hS' hg hQ hO' hl' hk' hn' hC' hp' stp
  subst hl' hk' hn'
  exact (K T' T'.heap v (w'.after X' hS' hg (N.app hF) hC' hO' fun q => State.WarmedH.trans (t := T.setVm vm₁) hW1 (hp' q)) hC'.2.1 hC' hQ).pre' stp
/-- invokevirtual -/
theorem g_virtual (w : Wk p l e R s m args below meth c Z a0 EL pr y bs ml rt T vm0 h k n) {y1 y' : MethodName} {bs' : ByteArray} {ml' : Nat} {rt' : Option FieldType} {rm : Room} {Q : Option Value → Heap → Prop} {i W : Nat} {a : Addr} {C' : String} {argsL : List Value} {ps : List FieldType} {rr : Option FieldType} {stk : List Value} {sf : List Addr} (hM : Con l Z EL pr y' bs' ml' rt' [] rm (.ref a :: argsL).toArray sf h Q) (hsf : ∀ x ∈ sf, x < h.size ∧ Safe Z EL vm0 h x) (E : Exa Z h a C') (hd : decode bs pc = .ok (.invokevirtual i, 3)) (hq : pc + 3 = q) (hsz : Ls.size = ml)
    (w1 : (Cond.methodLink y.cls i y1).before a0 Z = true) (wd : (Cond.declares y1).before a0 Z = true) (ws : (Cond.selects C' y1 y').before a0 Z = true) (w2 : (Cond.instanceMethod y').before a0 Z = true) (w3 : (Cond.initialized y'.cls).before a0 Z = true) (w4 : (Cond.code y' bs' ml' rt').before a0 Z = true) (hy : y1.cls ≠ "java/lang/invoke/MethodHandle" ∧ y1.cls ≠ "java/lang/invoke/VarHandle") (hnf : ∀ s' : State, Z.Warmed39 s'.vm → NotFace s' y1) (hpd : parseMethodDescriptor y1.desc = some ⟨ps, rr⟩) (hlen : argsL.length = ps.length) (hst : stk = argsL.reverse ++ .ref a :: st)
    (hW : 2 * 0 + (st.map fun v => v.category).sum ≤ W) (hf : rm.frames + 1 ≤ R.frames) (hl : W + (ml' + 11) + rm.locals ≤ R.locals) (hc : k + rm.cells ≤ R.cells) (hs : n + rm.slots ≤ R.slots)
    (K : ∀ T' h' v, Wk p l e R s m args below meth c Z a0 EL pr y bs ml rt T' T'.vm h' (k + rm.cells) (n + rm.slots) → h.size ≤ h'.size → CHr Z EL vm0 h T'.vm h' → Q v h' → Go p e below Φ (T'.setTop (mkF m q Ls (v.toList ++ st)))) : Go p e below Φ (T.setTop (mkF m pc Ls stk)) := by
  subst hq hst; have w' := w; obtain ⟨⟨hx, hb1, hml, hrt, hlk, hnm, hEL⟩, k0, locs, X, hh, hZ, hown, hS, hk0, N, C, O, hpr⟩ := w
  obtain ⟨cq, kq, qa, -, qc⟩ := isOf (s := s.setVm vm0) hZ hh E
  obtain ⟨v, vm₁, ⟨T', L', k', n'⟩, hW1, X', hS', hg, ⟨L, ⟨hQ, hO', hF⟩, hl', hk', hn', hC', hp'⟩, stp⟩ := X.virtualBackS hx hown (mvT (s := s.setVm vm0) hZ w1) (mvT (s := s.setVm vm0) hZ wd) (hnf (s.setVm vm0) hZ) (mvT (s := s.setVm vm0) hZ ws) (mvT (s := s.setVm vm0) hZ w2) hy (hM.back hsf hZ w4 w3 hf hl hEL C.1) qa qc (g := mkF m pc Ls (argsL.reverse ++ .ref a :: st)) rfl (hsz.trans hml.symm) (Steps.refl _) (lenOf hpd hlen) rfl hW (hb hb1 hd) (fun _ _ => ⟨rfl, hh, hc, hs⟩)
  dsimp only [Pt.U, Pt.locs, Pt.cells, Pt.slots] at X' hS' hg hQ hO' hl' hk' hn' hC' hp' stp
  subst hl' hk' hn'
  exact (K T' T'.heap v (w'.after X' hS' hg (N.app hF) hC' hO' fun q => State.WarmedH.trans (t := T.setVm vm₁) hW1 (hp' q)) hC'.2.1 hC' hQ).pre' stp
theorem nf {y1 : MethodName} {C' : String} (ws : (Cond.selects C' y1 y1).before a0 Z = true) (s' : State) (hZ : Z.Warmed39 s'.vm) : NotFace s' y1 := notFace_of_selects (args := #[]) (mvT hZ ws)
/-- behind a step whose law leaves the tables: Back's form -/
theorem Wk.afterB (w : Wk p l e R s m args below meth c Z a0 EL pr y bs ml rt T vm0 h k n) {T' : State} {L : List Loc} {k' n' : Nat} {ws : List Addr} (hh' : ∃ locs, ∀ locs0, locs0 = locs → Stand p l e R (s.setVm vm0) m args below meth c T' (locs0 ++ L) k' n' ∧ Fr Z.heap.size locs0) (hF : Fr Z.heap.size L) (Kp : Keep h T'.heap ws) (hs : ∀ x ∈ ws, Safe Z EL vm0 h x) (hn : ∀ x ∈ ws, Z.heap.size ≤ x) : Wk p l e R s m args below meth c Z a0 EL pr y bs ml rt T' vm0 T'.heap k' n' := by
  obtain ⟨hd, k0, locs, X, rfl, hZ, hown, hS, hk0, N, C, O, hpr⟩ := w
  obtain ⟨l1, q⟩ := hh'
  obtain ⟨X', N'⟩ := q _ rfl
  exact ⟨hd, k0, _, X', rfl, hZ, hown, hS, Nat.le_trans hk0 Kp.1, N'.app hF, C.trans (CHr.keep Kp hs C.1), (Old.keep (n0 := Z.heap.size) ⟨rfl, O⟩ Kp hn).2, hpr⟩
/-- invokevirtual paid by a law that leaves the heap -/
theorem g_virtualB (w : Wk p l e R s m args below meth c Z a0 EL pr y bs ml rt T vm0 h k n) {y1 y' : MethodName} {V : Option Value → Prop} {i W : Nat} {a : Addr} {C' : String} {argsL : List Value} {ps : List FieldType} {rr : Option FieldType} {stk : List Value}
    (hK : ∀ s' : State, Z.Warmed39 s'.vm → Back l R p e below s' args y' 3 W (fun P a' => a' = (.ref a :: argsL).toArray ∧ P.U.heap = h ∧ P.cells + 0 ≤ R.cells ∧ P.slots + 0 ≤ R.slots) (fun P _ v B => ∃ L, (V v ∧ L = [] ∧ B.U.heap = h) ∧ B.locs = P.locs ++ L ∧ B.cells = P.cells + 0 ∧ B.slots = P.slots + 0))
    (E : Exa Z h a C') (hd : decode bs pc = .ok (.invokevirtual i, 3)) (hq : pc + 3 = q) (hsz : Ls.size = ml)
    (w1 : (Cond.methodLink y.cls i y1).before a0 Z = true) (wd : (Cond.declares y1).before a0 Z = true) (ws : (Cond.selects C' y1 y').before a0 Z = true) (w2 : (Cond.instanceMethod y').before a0 Z = true) (hy : y1.cls ≠ "java/lang/invoke/MethodHandle" ∧ y1.cls ≠ "java/lang/invoke/VarHandle") (hnf : ∀ s' : State, Z.Warmed39 s'.vm → NotFace s' y1) (hpd : parseMethodDescriptor y1.desc = some ⟨ps, rr⟩) (hlen : argsL.length = ps.length) (hst : stk = argsL.reverse ++ .ref a :: st)
    (hW : 2 * 0 + (st.map fun v => v.category).sum ≤ W) (hc : k ≤ R.cells) (hs : n ≤ R.slots)
    (K : ∀ T' v, Wk p l e R s m args below meth c Z a0 EL pr y bs ml rt T' vm0 h k n → V v → Go p e below Φ (T'.setTop (mkF m q Ls (v.toList ++ st)))) : Go p e below Φ (T.setTop (mkF m pc Ls stk)) := by
  subst hq hst; have w' := w; obtain ⟨⟨hx, hb1, hml, hrt, hlk, hnm, hEL⟩, k0, locs, X, hh, hZ, hown, hS, hk0, N, C, O, hpr⟩ := w
  obtain ⟨cq, kq, qa, -, qc⟩ := isOf (s := s.setVm vm0) hZ hh E
  obtain ⟨v, vm₁, ⟨T', L', k', n'⟩, hW1, X', ⟨L, ⟨hV, hL, hH⟩, hl', hk', hn'⟩, stp⟩ := X.virtualBack hx hown (mvT (s := s.setVm vm0) hZ w1) (mvT (s := s.setVm vm0) hZ wd) (hnf (s.setVm vm0) hZ) (mvT (s := s.setVm vm0) hZ ws) (mvT (s := s.setVm vm0) hZ w2) hy (hK (s.setVm vm0) hZ) qa qc (g := mkF m pc Ls (argsL.reverse ++ .ref a :: st)) rfl (hsz.trans hml.symm) (Steps.refl _) (lenOf hpd hlen) rfl hW (hb hb1 hd) (fun _ _ => ⟨rfl, hh, hc, hs⟩)
  dsimp only [Pt.U, Pt.locs, Pt.cells, Pt.slots] at X' hV hL hH hl' hk' hn' stp
  subst hL hl' hk' hn'
  exact (K T' v ⟨⟨hx, hb1, hml, hrt, hlk, hnm, hEL⟩, k0, _, X', hH, hZ, hown, hS, hk0, N.app (Fr.nil _), C, O, hpr⟩ hV).pre' stp
/-- a constructor paid by a law in Back's form -/
theorem g_specialB (w : Wk p l e R s m args below meth c Z a0 EL pr y bs ml rt T vm0 h k n) {y' : MethodName} {bs' : ByteArray} {ml' kc ks : Nat} {Q : Option Value → Heap → List Loc → Prop} {i W : Nat} {a : Addr} {argsL : List Value} {ps : List FieldType} {rr : Option FieldType} {stk : List Value} {wr : List Addr}
    (hK : ∀ s' : State, Z.Warmed39 s'.vm → Back l R p e below s' args y' 3 W (fun P a' => a' = (.ref a :: argsL).toArray ∧ P.U.heap = h ∧ P.cells + kc ≤ R.cells ∧ P.slots + ks ≤ R.slots) (fun P _ v B => ∃ L, Q v B.U.heap L ∧ B.locs = P.locs ++ L ∧ B.cells = P.cells + kc ∧ B.slots = P.slots + ks))
    (hQ : ∀ v h' L, Q v h' L → Fr Z.heap.size L ∧ Keep h h' wr) (hsf : ∀ x ∈ wr, Safe Z EL vm0 h x) (hnw : ∀ x ∈ wr, Z.heap.size ≤ x)
    (hd : decode bs pc = .ok (.invokespecial i, 3)) (hq : pc + 3 = q) (hsz : Ls.size = ml) (hni : y'.name = "<init>")
    (w1 : (Cond.methodLink y.cls i y').before a0 Z = true) (w2 : (Cond.instanceMethod y').before a0 Z = true) (w4 : (Cond.code y' bs' ml' none).before a0 Z = true) (hy : y'.cls ≠ "java/lang/invoke/MethodHandle" ∧ y'.cls ≠ "java/lang/invoke/VarHandle") (hpd : parseMethodDescriptor y'.desc = some ⟨ps, rr⟩) (hlen : argsL.length = ps.length) (hst : stk = argsL.reverse ++ .ref a :: st)
    (hW : 2 * 0 + (st.map fun v => v.category).sum ≤ W) (hc : k + kc ≤ R.cells) (hs : n + ks ≤ R.slots)
    (K : ∀ T' h' v L, Wk p l e R s m args below meth c Z a0 EL pr y bs ml rt T' vm0 h' (k + kc) (n + ks) → Q v h' L → Go p e below Φ (T'.setTop (mkF m q Ls (v.toList ++ st)))) : Go p e below Φ (T.setTop (mkF m pc Ls stk)) := by
  subst hq hst; have w' := w; obtain ⟨⟨hx, hb1, hml, hrt, hlk, hnm, hEL⟩, k0, locs, X, hh, hZ, hown, hS, hk0, N, C, O, hpr⟩ := w
  obtain ⟨v, vm₁, ⟨T', L', k', n'⟩, hW1, X', ⟨L, hQ', hl', hk', hn'⟩, stp⟩ := X.specialBack hx hni hown (mvT (s := s.setVm vm0) hZ w1) (mvT (s := s.setVm vm0) hZ w2) (mvT (s := s.setVm vm0) hZ w4) hy (hK (s.setVm vm0) hZ) (g := mkF m pc Ls (argsL.reverse ++ .ref a :: st)) rfl (hsz.trans hml.symm) (Steps.refl _) (a := a) (lenOf hpd hlen) rfl hW (hb hb1 hd) (fun _ _ => ⟨rfl, hh, hc, hs⟩)
  dsimp only [Pt.U, Pt.locs, Pt.cells, Pt.slots] at X' hQ' hl' hk' hn' stp
  subst hl' hk' hn'
  obtain ⟨hF, Kp⟩ := hQ v T'.heap L hQ'
  exact (K T' T'.heap v L ⟨⟨hx, hb1, hml, hrt, hlk, hnm, hEL⟩, k0, _, X', rfl, hZ, hown, hS, Nat.le_trans hk0 Kp.1, N.app hF, C.trans (CHr.keep Kp hsf C.1), (Old.keep (n0 := Z.heap.size) ⟨rfl, O⟩ Kp hnw).2, hpr⟩ hQ').pre' stp
/-- a String whose value is null is no booked one -/
theorem safe_null {vm : Vm} {x : Addr} {kk : Nat} (hal : Z.vm.Alike vm) (wi : (Cond.instantiable "java/lang/String" kk).before a0 Z = true) (E : Exa Z h x "java/lang/String") (F : Fld Z h x "java/lang/String" "value" "[B" .null) : Safe Z EL vm h x := fun B => by
  obtain ⟨p, -, u, a, -, q, -, F', hy⟩ := B
  obtain ⟨cell, cf, k, i, f, h1, h2, h3, h4, h5, h6, h7⟩ := F
  obtain ⟨cS, ⟨⟨s1, s2, s3, ⟨cv, kv, iv, s4, s4'⟩, -, s6, s7, s8, s9, s10, s11, -⟩, -⟩, -⟩ := F'
  obtain ⟨k3, e3, -⟩ := State.fieldFound?_setVm (s := Z) hal h2
  have e4 := (show (Wst Z vm h).fieldFound? _ _ _ = _ from e3).symm.trans s4
  simp only [Option.some.injEq, Prod.mk.injEq] at e4
  rcases hy with rfl | rfl
  · have e5 : h[q.sa]? = some q.sC := s1
    rw [h1] at e5; cases e5
    rw [← e4.2.2.2, h7] at s8; cases s8
  · have e5 : h[q.sd]? = some q.SA := s10
    rw [h1] at e5; cases e5
    obtain ⟨ce, ke, f1, f2, f3, -⟩ := E
    rw [h1] at f1; cases f1
    obtain ⟨c2, k2, i1, i2, i3, -⟩ := Cond.instantiable_spec wi
    cases f2.symm.trans i1
    cases f3.symm.trans i2
    obtain ⟨k', z1, z2⟩ := hal.2.2 _ _ f3
    obtain ⟨-, k9, hk9, comp, hkind⟩ := s11
    have hk9 : vm.classes[q.SA.cls]? = some k9 := hk9
    cases hk9.symm.trans z1
    rw [z2] at hkind
    have hkind : ke.kind = _ := hkind
    rw [i3] at hkind; cases hkind
theorem Wk.more (w : Wk p l e R s m args below meth c Z a0 EL pr y bs ml rt T vm0 h k n) {k' n' : Nat} (hk : k ≤ k') (hn : n ≤ n') : Wk p l e R s m args below meth c Z a0 EL pr y bs ml rt T vm0 h k' n' := by
  obtain ⟨hd, k0, locs, X, r⟩ := w
  exact ⟨hd, k0, locs, X.more hk hn, r⟩
theorem Wk.safeAr (w : Wk p l e R s m args below meth c Z a0 EL pr y bs ml rt T vm0 h k n) {a : Addr} {ty : FieldType} {vs : List Value} (A : Ar Z h a ty vs) (ht : ty ≠ .byte) : Safe Z EL vm0 h a := by
  obtain ⟨-, _, _, A⟩ := A; exact Safe.arv w.wz.alike A ht
/-- calls whose callee leaves the heap as it was -/
theorem g_staticP (w : Wk p l e R s m args below meth c Z a0 EL pr y bs ml rt T vm0 h k n) {y' : MethodName} {bs' : ByteArray} {ml' : Nat} {rt' : Option FieldType} {rm : Room} {V : Option Value → Prop} {i W : Nat} {argsL : List Value} {ps : List FieldType} {rr : Option FieldType} {stk : List Value} {sf : List Addr} (hM : Con l Z EL pr y' bs' ml' rt' [] rm argsL.toArray sf h (fun v h' => V v ∧ h' = h)) (hsf : ∀ x ∈ sf, x < h.size ∧ Safe Z EL vm0 h x) (hd : decode bs pc = .ok (.invokestatic i, 3)) (hq : pc + 3 = q) (hsz : Ls.size = ml)
    (w1 : (Cond.methodLink y.cls i y').before a0 Z = true) (w2 : (Cond.static y').before a0 Z = true) (w3 : (Cond.initialized y'.cls).before a0 Z = true) (w4 : (Cond.code y' bs' ml' rt').before a0 Z = true) (hy : y'.cls ≠ "java/lang/invoke/MethodHandle" ∧ y'.cls ≠ "java/lang/invoke/VarHandle") (hpd : parseMethodDescriptor y'.desc = some ⟨ps, rr⟩) (hlen : argsL.length = ps.length) (hst : stk = argsL.reverse ++ st)
    (hW : 2 * 0 + (st.map fun v => v.category).sum ≤ W) (hf : rm.frames + 1 ≤ R.frames) (hl : W + (ml' + 11) + rm.locals ≤ R.locals) (hc : k + rm.cells ≤ R.cells) (hs : n + rm.slots ≤ R.slots)
    (K : ∀ T' v, Wk p l e R s m args below meth c Z a0 EL pr y bs ml rt T' T'.vm h (k + rm.cells) (n + rm.slots) → CHr Z EL vm0 h T'.vm h → V v → Go p e below Φ (T'.setTop (mkF m q Ls (v.toList ++ st)))) : Go p e below Φ (T.setTop (mkF m pc Ls stk)) :=
  g_static w hM hsf hd hq hsz w1 w2 w3 w4 hy hpd hlen hst hW hf hl hc hs fun T' h' v w' _ C' q' => by
    obtain ⟨hV, rfl⟩ := q'; exact K T' v w' C' hV
theorem g_specialP (w : Wk p l e R s m args below meth c Z a0 EL pr y bs ml rt T vm0 h k n) {y' : MethodName} {bs' : ByteArray} {ml' : Nat} {rm : Room} {V : Option Value → Prop} {i W : Nat} {a : Addr} {argsL : List Value} {ps : List FieldType} {rr : Option FieldType} {stk : List Value} {sf : List Addr} (hM : Con l Z EL pr y' bs' ml' none [] rm (.ref a :: argsL).toArray sf h (fun v h' => V v ∧ h' = h)) (hsf : ∀ x ∈ sf, x < h.size ∧ Safe Z EL vm0 h x) (hd : decode bs pc = .ok (.invokespecial i, 3)) (hq : pc + 3 = q) (hsz : Ls.size = ml) (hni : y'.name = "<init>")
    (w1 : (Cond.methodLink y.cls i y').before a0 Z = true) (w2 : (Cond.instanceMethod y').before a0 Z = true) (w3 : (Cond.initialized y'.cls).before a0 Z = true) (w4 : (Cond.code y' bs' ml' none).before a0 Z = true) (hy : y'.cls ≠ "java/lang/invoke/MethodHandle" ∧ y'.cls ≠ "java/lang/invoke/VarHandle") (hpd : parseMethodDescriptor y'.desc = some ⟨ps, rr⟩) (hlen : argsL.length = ps.length) (hst : stk = argsL.reverse ++ .ref a :: st)
    (hW : 2 * 0 + (st.map fun v => v.category).sum ≤ W) (hf : rm.frames + 1 ≤ R.frames) (hl : W + (ml' + 11) + rm.locals ≤ R.locals) (hc : k + rm.cells ≤ R.cells) (hs : n + rm.slots ≤ R.slots)
    (K : ∀ T' v, Wk p l e R s m args below meth c Z a0 EL pr y bs ml rt T' T'.vm h (k + rm.cells) (n + rm.slots) → CHr Z EL vm0 h T'.vm h → V v → Go p e below Φ (T'.setTop (mkF m q Ls (v.toList ++ st)))) : Go p e below Φ (T.setTop (mkF m pc Ls stk)) :=
  g_special w hM hsf hd hq hsz hni w1 w2 w3 w4 hy hpd hlen hst hW hf hl hc hs fun T' h' v w' _ C' q' => by
    obtain ⟨hV, rfl⟩ := q'; exact K T' v w' C' hV
theorem g_virtualP (w : Wk p l e R s m args below meth c Z a0 EL pr y bs ml rt T vm0 h k n) {y1 y' : MethodName} {bs' : ByteArray} {ml' : Nat} {rt' : Option FieldType} {rm : Room} {V : Option Value → Prop} {i W : Nat} {a : Addr} {C' : String} {argsL : List Value} {ps : List FieldType} {rr : Option FieldType} {stk : List Value} {sf : List Addr} (hM : Con l Z EL pr y' bs' ml' rt' [] rm (.ref a :: argsL).toArray sf h (fun v h' => V v ∧ h' = h)) (hsf : ∀ x ∈ sf, x < h.size ∧ Safe Z EL vm0 h x) (E : Exa Z h a C') (hd : decode bs pc = .ok (.invokevirtual i, 3)) (hq : pc + 3 = q) (hsz : Ls.size = ml)
    (w1 : (Cond.methodLink y.cls i y1).before a0 Z = true) (wd : (Cond.declares y1).before a0 Z = true) (ws : (Cond.selects C' y1 y').before a0 Z = true) (w2 : (Cond.instanceMethod y').before a0 Z = true) (w3 : (Cond.initialized y'.cls).before a0 Z = true) (w4 : (Cond.code y' bs' ml' rt').before a0 Z = true) (hy : y1.cls ≠ "java/lang/invoke/MethodHandle" ∧ y1.cls ≠ "java/lang/invoke/VarHandle") (hnf : ∀ s' : State, Z.Warmed39 s'.vm → NotFace s' y1) (hpd : parseMethodDescriptor y1.desc = some ⟨ps, rr⟩) (hlen : argsL.length = ps.length) (hst : stk = argsL.reverse ++ .ref a :: st)
    (hW : 2 * 0 + (st.map fun v => v.category).sum ≤ W) (hf : rm.frames + 1 ≤ R.frames) (hl : W + (ml' + 11) + rm.locals ≤ R.locals) (hc : k + rm.cells ≤ R.cells) (hs : n + rm.slots ≤ R.slots)
    (K : ∀ T' v, Wk p l e R s m args below meth c Z a0 EL pr y bs ml rt T' T'.vm h (k + rm.cells) (n + rm.slots) → CHr Z EL vm0 h T'.vm h → V v → Go p e below Φ (T'.setTop (mkF m q Ls (v.toList ++ st)))) : Go p e below Φ (T.setTop (mkF m pc Ls stk)) :=
  g_virtual w hM hsf E hd hq hsz w1 wd ws w2 w3 w4 hy hnf hpd hlen hst hW hf hl hc hs fun T' h' v w' _ C' q' => by
    obtain ⟨hV, rfl⟩ := q'; exact K T' v w' C' hV
theorem g_i2cM (w : Wk p l e R s m args below meth c Z a0 EL pr y bs ml rt T vm0 h k n) {x : Int32} (hd : decode bs pc = .ok (.i2c, 1)) (hq : pc + 1 = q) (hr : Go p e below Φ (T.setTop (mkF m q Ls (.int (x &&& 255) :: st)))) : Go p e below Φ (T.setTop (mkF m pc Ls (.int (x &&& 255) :: st))) := by
  refine g_i2c w hd hq ?_
  rw [i2c_mask]; exact hr
theorem no0 {P : Addr → Prop} : ∀ x ∈ ([] : List Addr), P x := fun _ q => nomatch q
theorem not1 {a b : Addr} (h : b ≠ a) : b ∉ [a] := fun q => h (List.mem_singleton.mp q)
theorem in1 {a : Addr} {P : Addr → Prop} (h : P a) : ∀ x ∈ [a], P x := fun x hx => by cases List.mem_singleton.mp hx; exact h
theorem keep_same {h1 h2 h3 : Heap} {a : Addr} (K : Keep h1 h2 [a]) (K' : Keep h2 h3 [a]) : Keep h1 h3 [a] := K.trans K' fun x hx => Or.inl hx
theorem keep_new {h1 h2 h3 : Heap} {a b : Addr} (K : Keep h1 h2 [a]) (K' : Keep h2 h3 [b]) (z : h1.size ≤ b) : Keep h1 h3 [a] := K.trans K' fun x hx => by cases List.mem_singleton.mp hx; exact Or.inr z
/-- a char of Latin-1; a char -/
def Lt8 (c : Int32) : Prop := ¬ c < 0 ∧ ¬ (255 : Int32) < c
def Lt16 (c : Int32) : Prop := ¬ c < 0 ∧ ¬ (65535 : Int32) < c
theorem Lt16.int {c : Int32} (h : Lt16 c) : 0 ≤ c.toInt ∧ c.toInt ≤ 65535 := by
  obtain ⟨h0, h1⟩ := h
  rw [Int32.lt_iff_toInt_lt] at h0 h1
  have e0 : (0 : Int32).toInt = 0 := rfl
  have e1 : (65535 : Int32).toInt = 65535 := rfl
  omega
theorem Lt8.int {c : Int32} (h : Lt8 c) : 0 ≤ c.toInt ∧ c.toInt ≤ 255 := by
  obtain ⟨h0, h1⟩ := h
  rw [Int32.lt_iff_toInt_lt] at h0 h1
  have e0 : (0 : Int32).toInt = 0 := rfl
  have e1 : (255 : Int32).toInt = 255 := rfl
  omega
theorem Lt16.of {c : Int32} (h0 : 0 ≤ c.toInt) (h1 : c.toInt ≤ 65535) : Lt16 c := by
  constructor
  · rw [Int32.lt_iff_toInt_lt]; have e0 : (0 : Int32).toInt = 0 := rfl; omega
  · rw [Int32.lt_iff_toInt_lt]; have e0 : (65535 : Int32).toInt = 65535 := rfl; omega
theorem Lt8.of {c : Int32} (h0 : 0 ≤ c.toInt) (h1 : c.toInt ≤ 255) : Lt8 c := by
  constructor
  · rw [Int32.lt_iff_toInt_lt]; have e0 : (0 : Int32).toInt = 0 := rfl; omega
  · rw [Int32.lt_iff_toInt_lt]; have e0 : (255 : Int32).toInt = 255 := rfl; omega
theorem Lt8.chr {c : Int32} (h : Lt8 c) : Lt16 c := Lt16.of h.int.1 (by have := h.int.2; omega)
theorem nar_chr {c : Int32} (h : Lt16 c) : nar .char c = c := by
  have := h.int
  show c.toUInt32.toUInt16.toUInt32.toInt32 = c
  apply Int32.toInt_inj.mp
  have e : c.toUInt32.toNat = c.toInt.toNat := by
    have h1 : c.toInt = c.toBitVec.toInt := rfl
    have h2 : c.toUInt32.toNat = c.toBitVec.toNat := rfl
    rw [h2, h1]
    rw [h1] at this
    rw [BitVec.toInt_eq_toNat_cond] at this ⊢
    split at this <;> split <;> omega
  have e2 : c.toUInt32.toUInt16.toUInt32 = c.toUInt32 := by
    apply UInt32.toNat_inj.mp
    rw [UInt16.toNat_toUInt32, UInt32.toNat_toUInt16, e]
    omega
  rw [e2, Int32.toInt32_toUInt32]
theorem nar_lat {c : Int32} (h : Lt8 c) : nar .char c = c := nar_chr h.chr
theorem mask255 (x : Int32) : Lt8 (x &&& 255) := by
  have e : (x &&& 255).toInt = ((x &&& 255).toBitVec.toNat : Int) ∧ (x &&& 255).toBitVec.toNat ≤ 255 := by
    have h1 : (x &&& 255).toBitVec.toNat = x.toBitVec.toNat % 256 := by
      rw [Int32.toBitVec_and, BitVec.toNat_and]
      exact Nat.and_two_pow_sub_one_eq_mod _ 8
    have h3 : (x &&& 255).toInt = (x &&& 255).toBitVec.toInt := rfl
    refine ⟨?_, by omega⟩
    rw [h3, BitVec.toInt_eq_toNat_cond, if_pos (by omega)]
  exact Lt8.of (by omega) (by omega)
theorem cs0 {P : Int32 → Prop} : ∀ c ∈ ([] : List Int32), P c := fun _ q => nomatch q
theorem csS {P : Int32 → Prop} {a : Int32} {l : List Int32} (h : P a) (r : ∀ c ∈ l, P c) : ∀ c ∈ a :: l, P c := fun c q => by
  rcases List.mem_cons.mp q with rfl | q
  · exact h
  · exact r c q
theorem lt8_nat {c : Int32} : Lt8 c ↔ c.toBitVec.toNat < 256 := by
  have h3 : c.toInt = c.toBitVec.toInt := rfl
  constructor
  · intro h
    have := h.int
    rw [h3, BitVec.toInt_eq_toNat_cond] at this
    split at this <;> omega
  · intro h
    have : c.toInt = (c.toBitVec.toNat : Int) := by rw [h3, BitVec.toInt_eq_toNat_cond, if_pos (by omega)]
    exact Lt8.of (by omega) (by omega)
theorem lat_xor {a : Int32} (ha : Lt8 a) (x : Int32) : Lt8 ((a ^^^ (x &&& 1)).toUInt32.toUInt16.toUInt32.toInt32) := by
  have h1 : (x &&& 1).toBitVec.toNat < 256 := by
    rw [Int32.toBitVec_and, BitVec.toNat_and]
    exact Nat.lt_of_le_of_lt Nat.and_le_right (by decide)
  have h2 : Lt8 (a ^^^ (x &&& 1)) := by
    rw [lt8_nat] at ha ⊢
    rw [Int32.toBitVec_xor, BitVec.toNat_xor]
    exact Nat.xor_lt_two_pow (n := 8) ha h1
  have h3 : (a ^^^ (x &&& 1)).toUInt32.toUInt16.toUInt32.toInt32 = a ^^^ (x &&& 1) := nar_lat h2
  rw [h3]; exact h2
theorem mask31_nat (x : Int32) : (x &&& 2147483647).toInt = ((x.toBitVec.toNat % 2147483648 : Nat) : Int) := by
  have h1 : (x &&& 2147483647).toBitVec.toNat = x.toBitVec.toNat % 2147483648 := by
    rw [Int32.toBitVec_and, BitVec.toNat_and]
    exact Nat.and_two_pow_sub_one_eq_mod _ 31
  have h3 : (x &&& 2147483647).toInt = (x &&& 2147483647).toBitVec.toInt := rfl
  rw [h3, BitVec.toInt_eq_toNat_cond, if_pos (by omega), h1]
theorem mask31 (x : Int32) : ¬ (x &&& 2147483647) < 0 := by
  rw [Int32.lt_iff_toInt_lt, mask31_nat, show (0 : Int32).toInt = 0 from rfl]; omega
theorem rem_int {x z : Int32} (hx : ¬ x < 0) (hz : 0 < z.toInt) : (x % z).toInt = x.toInt % z.toInt := by
  rw [Int32.lt_iff_toInt_lt, show (0 : Int32).toInt = 0 from rfl] at hx
  rw [Int32.toInt_mod, Int.tmod_eq_emod_of_nonneg (by omega)]
theorem mod3 {x : Int32} (hx : ¬ x < 0) : x % 3 = 0 ∨ x % 3 = 1 ∨ x % 3 = 2 := by
  have h := rem_int (z := 3) hx (by decide)
  rw [show (3 : Int32).toInt = 3 from rfl] at h
  have h2 : (x % 3).toInt = 0 ∨ (x % 3).toInt = 1 ∨ (x % 3).toInt = 2 := by omega
  rcases h2 with h2 | h2 | h2
  · exact Or.inl (Int32.toInt_inj.mp h2)
  · exact Or.inr (Or.inl (Int32.toInt_inj.mp h2))
  · exact Or.inr (Or.inr (Int32.toInt_inj.mp h2))
theorem mask3 (x : Int32) : x &&& 3 = 0 ∨ x &&& 3 = 1 ∨ x &&& 3 = 2 ∨ x &&& 3 = 3 := by
  have h1 : (x &&& 3).toBitVec.toNat = x.toBitVec.toNat % 4 := by
    rw [Int32.toBitVec_and, BitVec.toNat_and]
    exact Nat.and_two_pow_sub_one_eq_mod _ 2
  have h2 : (x &&& 3).toBitVec.toNat = 0 ∨ (x &&& 3).toBitVec.toNat = 1 ∨ (x &&& 3).toBitVec.toNat = 2 ∨ (x &&& 3).toBitVec.toNat = 3 := by omega
  rcases h2 with h2 | h2 | h2 | h2
  · exact Or.inl (Int32.toBitVec_inj.mp (BitVec.eq_of_toNat_eq h2))
  · exact Or.inr (Or.inl (Int32.toBitVec_inj.mp (BitVec.eq_of_toNat_eq h2)))
  · exact Or.inr (Or.inr (Or.inl (Int32.toBitVec_inj.mp (BitVec.eq_of_toNat_eq h2))))
  · exact Or.inr (Or.inr (Or.inr (Int32.toBitVec_inj.mp (BitVec.eq_of_toNat_eq h2))))
theorem ushr16 (x : Int32) : ¬ Jvm.Free.XT.ushr x 16 < 0 := by
  have h1 : (Jvm.Free.XT.ushr x 16).toBitVec.toNat < 65536 := by
    show (x.toUInt32 >>> ((16 : Int32) &&& 31).toUInt32).toNat < 65536
    rw [show ((16 : Int32) &&& 31).toUInt32 = 16 from by decide, UInt32.toNat_shiftRight, show (16 : UInt32).toNat % 32 = 16 from rfl, Nat.shiftRight_eq_div_pow]
    have := x.toUInt32.toNat_lt
    omega
  have h3 : (Jvm.Free.XT.ushr x 16).toInt = (Jvm.Free.XT.ushr x 16).toBitVec.toInt := rfl
  rw [Int32.lt_iff_toInt_lt, h3, BitVec.toInt_eq_toNat_cond, if_pos (by omega), show (0 : Int32).toInt = 0 from rfl]; omega
/-- a String of none, one or two of these chars -/
def sg (n a b : Int32) : List Int32 := if n = 0 then [] else if n = 1 then [a] else [a, b]
def In3 (n : Int32) : Prop := n = 0 ∨ n = 1 ∨ n = 2
theorem sg_iff {n z a b c d : Int32} (hn : In3 n) (hz : In3 z) : sg n a b = sg z c d ↔ (n = z ∧ (n < 1 ∨ a = c) ∧ (n < 2 ∨ b = d)) := by
  rcases hn with rfl | rfl | rfl <;> rcases hz with rfl | rfl | rfl <;> simp [sg]
theorem sg_lat {n a b : Int32} (ha : Lt8 a) (hb : Lt8 b) : ∀ c ∈ sg n a b, Lt8 c := by
  unfold sg; split
  · exact cs0
  · split
    · exact csS ha cs0
    · exact csS ha (csS hb cs0)
/-- x is a String of these Latin-1 chars -/
def Sg (Z : State) (h : Heap) (x : Addr) (cs : List Int32) : Prop := cs.length ≤ 4000 ∧ (∀ c ∈ cs, Lt8 c) ∧ Exa Z h x "java/lang/String" ∧ ∃ (t : Addr) (kb : ClassId), Fld Z h x "java/lang/String" "value" "[B" (.ref t) ∧ Fld Z h x "java/lang/String" "coder" "B" (.int 0) ∧ Arv Z h t kb .byte (Int32.ofNat cs.length) ((cs.map fun c => c.toInt8.toInt32).map Value.int) (.int 0)
theorem Sg.ext {h' : Heap} {x : Addr} {cs : List Int32} (F : Sg Z h x cs) (E : Ext h h') : Sg Z h' x cs := by obtain ⟨a, b, c, t, kb, d, e, f⟩ := F; exact ⟨a, b, c.ext E, t, kb, d.ext E, e.ext E, f.ext E⟩
theorem Sg.lt {x : Addr} {cs : List Int32} (F : Sg Z h x cs) : x < h.size := F.2.2.1.lt
theorem Sg.exa {x : Addr} {cs : List Int32} (F : Sg Z h x cs) : Exa Z h x "java/lang/String" := F.2.2.1
theorem Sg.keepO {h' : Heap} {x a : Addr} {cs : List Int32} {C : String} {kk : Nat} (F : Sg Z h x cs) (K : Keep h h' [a]) (q : x ≠ a) (E : Exa Z h a C) (wi : (Cond.instantiable C kk).before a0 Z = true) : Sg Z h' x cs := by
  obtain ⟨a, b, c, t, kb, d, e, f⟩ := F
  exact ⟨a, b, c.keep K, t, kb, d.keep K (not1 q), e.keep K (not1 q), f.keep K (not1 (Exa.neArv E f wi).symm)⟩
theorem Sg.ar {x : Addr} {cs : List Int32} (F : Sg Z h x cs) : ∃ t, Fld Z h x "java/lang/String" "value" "[B" (.ref t) ∧ Fld Z h x "java/lang/String" "coder" "B" (.int 0) ∧ Ar Z h t .byte ((cs.map fun c => c.toInt8.toInt32).map Value.int) := by
  obtain ⟨a, b, c, t, kb, d, e, f⟩ := F
  exact ⟨t, d, e, by simp; omega, kb, _, by simpa using f⟩
/-- compact strings are on -/
def Cpt (Z : State) : Prop := ∃ z : Int32, ¬ z = 0 ∧ Sta Z Z.heap "java/lang/String" "COMPACT_STRINGS" "Z" (.int z)
end K
end Jvm.Own
namespace Jvm.Own
open Sem ClassFile Op Lib Jvm.Stand Jvm.Free Jvm.LawKit Jvm.RoadKit Bundle
section KV
variable {p : Program} {l : Launch} {e : Env} {R : Room} {s : State} {m : MethodId} {args : Array Value} {below : List Frame} {meth : Method} {c : Code} {Z : State} {a0 : Array Value} {EL : List (String × Nat)} {pr : Bool} {y : MethodName} {bs : ByteArray} {ml : Nat} {rt : Option FieldType} {T : State} {vm0 : Vm} {h : Heap} {k n : Nat} {Φ : Outcome → State → Prop} {Ls : Array Slot} {st : List Value} {pc q : Nat}
/-- a's class is the array class over C -/
def OvA (Z : State) (h : Heap) (a : Addr) (C : String) : Prop := ∃ cell : Cell, h[a]? = some cell ∧ Ovr Z cell.cls C
theorem OvA.ext {h' : Heap} {a : Addr} {C : String} (F : OvA Z h a C) (E : Ext h h') : OvA Z h' a C := by obtain ⟨c1, q, r⟩ := F; exact ⟨c1, E.2 _ _ q, r⟩
theorem OvA.keep {h' : Heap} {a : Addr} {C : String} {ws : List Addr} (F : OvA Z h a C) (K : Keep h h' ws) : OvA Z h' a C := by
  obtain ⟨c1, q, r⟩ := F; obtain ⟨c2, q2, e2, -⟩ := K.2.2 _ _ q; exact ⟨c2, q2, by rw [e2]; exact r⟩
theorem OvA.wr {h' : Heap} {a b : Addr} {C : String} {sl : Nat} {v : Value} (F : OvA Z h a C) (W : Wr h h' b sl v) : OvA Z h' a C := F.keep (Keep.of_wr W)
theorem OvA.lt {a : Addr} {C : String} (F : OvA Z h a C) : a < h.size := by obtain ⟨c1, q, -⟩ := F; exact (Array.getElem?_eq_some_iff.mp q).1
theorem g_anew (w : Wk p l e R s m args below meth c Z a0 EL pr y bs ml rt T vm0 h k n) {i len cap : Nat} {C' ad : String} {z : Int32} (hd : decode bs pc = .ok (.anewarray i, 3)) (hq : pc + 3 = q) (w1 : (Cond.classLink y.cls i C').before a0 Z = true) (w2 : (Cond.arrayOver (.object C')).before a0 Z = true) (had : "[" ++ (FieldType.object C').toString = ad) (hz : z = Int32.ofNat len) (hl : len ≤ cap) (hcap : cap * 8 ≤ 536870912) (hc : k + 1 ≤ R.cells) (hs : n + cap ≤ R.slots)
    (K : ∀ T' h' a, Wk p l e R s m args below meth c Z a0 EL pr y bs ml rt T' vm0 h' (k + 1) (n + cap) → Ext h h' → h.size ≤ a → Z.heap.size ≤ a → Ar Z h' a (.object C') (List.replicate len .null) → Exa Z h' a ad → OvA Z h' a C' → Safe Z EL vm0 h' a → Go p e below Φ (T'.setTop (mkF m q Ls (.ref a :: st)))) : Go p e below Φ (T.setTop (mkF m pc Ls (.int z :: st))) := by
  subst hq hz; obtain ⟨⟨hx, hb1, hml, hrt, hlk, hnm, hEL⟩, k0, locs, X, hh, hZ, hown, hS, hk0, N, C, O, hpr⟩ := w
  have hlen : len < 2147483648 := by omega
  obtain ⟨T', h', cA, X', e', E, A, E1, O1, g'⟩ := newRE X hx hZ hown w1 w2 hh (g := mkF m pc Ls (.int (Int32.ofNat len) :: st)) rfl (hb hb1 hd) rfl (ofNat_nonneg hlen) (cap := cap) (by rw [ofNat_clamp hlen]; exact hl) hcap hc hs had
  refine (K T' h' h.size ⟨⟨hx, hb1, hml, hrt, hlk, hnm, hEL⟩, k0, locs, X', e', hZ, hown, hS, Nat.le_trans hk0 E.1, N, C.trans (CHr.ext E C.1), ext_trans O E, hpr⟩ E (Nat.le_refl _) O.1 ⟨by simpa using hlen, cA, defaultValue (FieldType.object C'), ?_⟩ E1 ⟨_, A.1, O1⟩ (Safe.ext E C.1 (Safe.new (Nat.le_refl _)))).pre g'
  have q := (Arv.new A (ofNat_nonneg hlen)).pad (vs' := List.replicate len (defaultValue (FieldType.object C'))) (fun i => by simpa using pad_rep [] (defaultValue (FieldType.object C')) len i)
  show Arv Z h' h.size cA (.object C') (Int32.ofNat (List.replicate len (defaultValue (FieldType.object C'))).length) (List.replicate len (defaultValue (FieldType.object C'))) (defaultValue (FieldType.object C'))
  simpa using q
theorem g_aastore (w : Wk p l e R s m args below meth c Z a0 EL pr y bs ml rt T vm0 h k n) {a : Addr} {C' : String} {vs : List Value} {j : Int32} {v : Value} {i : Nat} (hd : decode bs pc = .ok (.aastore, 1)) (hq : pc + 1 = q) (A : Ar Z h a (.object C') vs) (hj : j = Int32.ofNat i) (hi : i < vs.length) (F : Sto Z h a v) (hv' : fits (.object C') v = true) (ga : Z.heap.size ≤ a) (S : Safe Z EL vm0 h a)
    (K : ∀ T' h', Wk p l e R s m args below meth c Z a0 EL pr y bs ml rt T' vm0 h' k n → Wr h h' a i v → Ar Z h' a (.object C') (vs.set i v) → Go p e below Φ (T'.setTop (mkF m q Ls st))) : Go p e below Φ (T.setTop (mkF m pc Ls (v :: .int j :: .ref a :: st))) := by
  subst hq hj; obtain ⟨⟨hx, hb1, hml, hrt, hlk, hnm, hEL⟩, k0, locs, X, hh, hZ, hown, hS, hk0, N, C, O, hpr⟩ := w
  obtain ⟨hv, kC, dv, cl, B, q1, S1, q3, H1, G1⟩ := A
  obtain ⟨T', h', X', e', W, g'⟩ := stR X hx hZ hh B (j := Int32.ofNat i) (inb hv S1 hi) rfl F (g := mkF m pc Ls (v :: .int (Int32.ofNat i) :: .ref a :: st)) rfl rfl (hb hb1 hd)
  have V := Arv.set B q1 S1 q3 H1 G1 hv' W i (ofNat_clamp (by omega)) hi
  rw [ofNat_clamp (by omega)] at W
  exact (K T' h' ⟨⟨hx, hb1, hml, hrt, hlk, hnm, hEL⟩, k0, _, X', e', hZ, hown, hS, by rw [W.size]; exact hk0, N.snoc X' ga, C.trans (CHr.wr W S C.1), ext_wr O W ga, hpr⟩ W ⟨by simpa using hv, kC, dv, by rw [List.length_set]; exact V⟩).pre g'
theorem sto_of {a b : Addr} {C' : String} {vs : List Value} (A : Ar Z h a (.object C') vs) (O : OvA Z h a C') (I : Ins Z h b C' true) : Sto Z h a (.ref b) := by
  obtain ⟨hv, kC, dv, cl, B, -⟩ := A
  obtain ⟨c1, q1, r1⟩ := O
  cases B.1.symm.trans q1
  exact Sto.of B r1 I
theorem g_aaload (w : Wk p l e R s m args below meth c Z a0 EL pr y bs ml rt T vm0 h k n) {a : Addr} {C' : String} {vs : List Value} {j : Int32} {i : Nat} {v : Value} (hd : decode bs pc = .ok (.aaload, 1)) (hq : pc + 1 = q) (A : Ar Z h a (.object C') vs) (hj : j = Int32.ofNat i) (hi : i < vs.length) (hv' : vs[i]? = some v) (hr : Go p e below Φ (T.setTop (mkF m q Ls (v :: st)))) : Go p e below Φ (T.setTop (mkF m pc Ls (.int j :: .ref a :: st))) := by
  subst hq hj; obtain ⟨⟨hx, hb1, hml, hrt, hlk, hnm, hEL⟩, k0, locs, X, hh, hZ, hown, hS, hk0, N, C, O, hpr⟩ := w
  obtain ⟨hv, kC, dv, cl, B, q1, S1, q3, H1, G1⟩ := A
  refine hr.pre fun t r => X.aaload (g := mkF m pc Ls (.int (Int32.ofNat i) :: .ref a :: st)) hx (by rw [hh]; exact B.1) (State.isArrayOf_alike hZ.alike B.2.1) rfl B.2.2 (inb hv S1 hi) (H1.at (inb hv S1 hi) (by rw [ofNat_clamp (by omega), List.getD_eq_getElem?_getD, hv']; rfl)) rfl rfl (hb hb1 hd) t r
theorem g_tsw (w : Wk p l e R s m args below meth c Z a0 EL pr y bs ml rt T vm0 h k n) {dflt low high : Int} {offs : Array Int} {len : Nat} {o : Int} {i : Int32} (hd : decode bs pc = .ok (.tableswitch dflt low high offs, len)) (hin : ¬ (i.toInt < low ∨ i.toInt > high)) (hoff : offs[(i.toInt - low).toNat]? = some o) (ho : 0 ≤ (pc : Int) + o) (hq : ((pc : Int) + o).toNat = q) (hr : Go p e below Φ (T.setTop (mkF m q Ls st))) : Go p e below Φ (T.setTop (mkF m pc Ls (.int i :: st))) := by
  exact hr.pre fun t r => Jvm.Free.XS.tswIn w.here w.hx rfl rfl (w.b hd) rfl hin hoff ho hq r
theorem mir_eval {C' : String} {mr : Addr} (M : Mir Z C' mr) : (Term.mirror C').eval #[] Z none [] Z = some (.ref mr) := by
  obtain ⟨c1, k1, e1, e2, e3, cell, e4, e5⟩ := M
  simp [Term.eval, e1, e2, e3]
theorem g_ldcM (w : Wk p l e R s m args below meth c Z a0 EL pr y bs ml rt T vm0 h k n) {i : Nat} {C' : String} {mr : Addr} (hd : decode bs pc = .ok (.ldc i, 2)) (hq : pc + 2 = q) (w1 : (Cond.classLink y.cls i C').before a0 Z = true) (M : Mir Z C' mr)
    (K : ∀ T', Wk p l e R s m args below meth c Z a0 EL pr y bs ml rt T' vm0 h k n → Go p e below Φ (T'.setTop (mkF m q Ls (.ref mr :: st)))) : Go p e below Φ (T.setTop (mkF m pc Ls st)) := by
  subst hq; obtain ⟨⟨hx, hb1, hml, hrt, hlk, hnm, hEL⟩, k0, locs, X, hh, hZ, hown, hS, hk0, N, C, O, hpr⟩ := w
  obtain ⟨c1, k1, e1, e2, e3, cell, e4, e5⟩ := M
  obtain ⟨k2, f1, f2⟩ := hZ.alike.2.2 _ _ e2
  have em : k2.mirror = some mr := by rw [f2]; exact e3
  obtain ⟨vm', X', st'⟩ := X.ldcMirror hx hown (mvT (s := s.setVm vm0) hZ w1) (a := mr) (by simp only [Term.eval]; rw [show (s.setVm vm0).vm.findClass C' = some c1 from by show vm0.findClass C' = _; rw [hZ.alike.findClass]; exact e1]; simp [f1, em]) (g := mkF m pc Ls st) rfl (hb hb1 hd)
  exact (K _ ⟨⟨hx, hb1, hml, hrt, hlk, hnm, hEL⟩, k0, locs, X', hh, hZ, hown, hS, hk0, N, C, O, hpr⟩).pre st'
theorem g_gcls (w : Wk p l e R s m args below meth c Z a0 EL pr y bs ml rt T vm0 h k n) {i Wd : Nat} {C' : String} {a mr : Addr} (E : Exa Z h a C') (M : Mir Z C' mr) (hd : decode bs pc = .ok (.invokevirtual i, 3)) (hq : pc + 3 = q) (hsz : Ls.size = ml)
    (w1 : (Cond.methodLink y.cls i ⟨"java/lang/Object", "getClass", "()Ljava/lang/Class;"⟩).before a0 Z = true) (w2 : (Cond.declares ⟨"java/lang/Object", "getClass", "()Ljava/lang/Class;"⟩).before a0 Z = true) (w3 : (Cond.noSuperclass "java/lang/Object").before a0 Z = true) (w4 : (Cond.selects C' ⟨"java/lang/Object", "getClass", "()Ljava/lang/Class;"⟩ ⟨"java/lang/Object", "getClass", "()Ljava/lang/Class;"⟩).before a0 Z = true)
    (w5 : (Cond.instanceMethod ⟨"java/lang/Object", "getClass", "()Ljava/lang/Class;"⟩).before a0 Z = true) (w6 : (Cond.native ⟨"java/lang/Object", "getClass", "()Ljava/lang/Class;"⟩).before a0 Z = true) (hW : 2 * 0 + (st.map fun v => v.category).sum ≤ Wd) (hf : 1 ≤ R.frames) (hl : Wd + (nativeFrameWords "java/lang/Object" "getClass" 1 + 11) ≤ R.locals)
    (K : ∀ T', Wk p l e R s m args below meth c Z a0 EL pr y bs ml rt T' vm0 h k n → Go p e below Φ (T'.setTop (mkF m q Ls (.ref mr :: st)))) : Go p e below Φ (T.setTop (mkF m pc Ls (.ref a :: st))) := by
  subst hq; obtain ⟨⟨hx, hb1, hml, hrt, hlk, hnm, hEL⟩, k0, locs, X, hh, hZ, hown, hS, hk0, N, C, O, hpr⟩ := w
  obtain ⟨T', X', e', g'⟩ := gcls X hx hZ hown w1 w2 w3 w4 w5 w6 hh E M (g := mkF m pc Ls (.ref a :: st)) rfl (hsz.trans hml.symm) rfl (hb hb1 hd) hf hW hl
  exact (K T' ⟨⟨hx, hb1, hml, hrt, hlk, hnm, hEL⟩, k0, locs, X', e', hZ, hown, hS, hk0, N, C, O, hpr⟩).pre g'
theorem g_acopy (w : Wk p l e R s m args below meth c Z a0 EL pr y bs ml rt T vm0 h k n) {i Wd nn : Nat} {a b : Addr} {C' D' : String} {vs vd : List Value} (A : Ar Z h a (.object C') vs) (B : Ar Z h b (.object D') vd) (hst : StoL Z h b (vs.take nn)) (h1 : nn ≤ vs.length) (h2 : nn ≤ vd.length) (ga : Z.heap.size ≤ b) (S : Safe Z EL vm0 h b) (hd : decode bs pc = .ok (.invokestatic i, 3)) (hq : pc + 3 = q) (hsz : Ls.size = ml)
    (w1 : (Cond.methodLink y.cls i Jvm.Stand.acN).before a0 Z = true) (w2 : (Cond.native Jvm.Stand.acN).before a0 Z = true) (w3 : (Cond.static Jvm.Stand.acN).before a0 Z = true) (w4 : (Cond.initialized "java/lang/System").before a0 Z = true) (hW : 2 * 0 + (st.map fun v => v.category).sum ≤ Wd) (hf : 1 ≤ R.frames) (hl : Wd + (nativeFrameWords "java/lang/System" "arraycopy" 5 + 11) ≤ R.locals)
    (K : ∀ T' h', Wk p l e R s m args below meth c Z a0 EL pr y bs ml rt T' vm0 h' k n → Keep h h' [b] → Ar Z h' b (.object D') (vs.take nn ++ vd.drop nn) → Go p e below Φ (T'.setTop (mkF m q Ls st))) : Go p e below Φ (T.setTop (mkF m pc Ls (.int (Int32.ofNat nn) :: .int 0 :: .ref b :: .int 0 :: .ref a :: st))) := by
  subst hq; obtain ⟨⟨hx, hb1, hml, hrt, hlk, hnm, hEL⟩, k0, locs, X, hh, hZ, hown, hS, hk0, N, C, O, hpr⟩ := w
  obtain ⟨hv, kC, dv, A⟩ := A
  obtain ⟨hv2, kD, dd, B⟩ := B
  have en : (Int32.ofNat nn).toNatClampNeg = nn := ofNat_clamp (by omega)
  have e0 : (0 : Int32).toNatClampNeg = 0 := rfl
  have hus : vs.take nn = (List.range (Int32.ofNat nn).toNatClampNeg).map fun i => vs.getD ((0 : Int32).toNatClampNeg + i) dv := by
    rw [en, e0]
    apply List.ext_getElem?
    intro j
    by_cases hj : j < nn
    · have hj2 : j < vs.length := by omega
      simp [List.getElem?_take, hj, hj2, List.getD_eq_getElem?_getD]
    · simp [List.getElem?_take, hj]
  obtain ⟨T', h', L, X', e', N', Kp, V, g'⟩ := cpA X hx hZ hown w1 w2 w3 w4 hh A B (us := vs.take nn) (Or.inr ⟨rfl, rfl, hst⟩) (sp := 0) (dp := 0) (nn := Int32.ofNat nn) (by decide) (by decide) (ofNat_nonneg (by omega)) (by rw [en, e0, ofNat_clamp hv]; omega) (by rw [en, e0, ofNat_clamp hv2]; omega) hus (by rw [en, e0]; omega) N ga (g := mkF m pc Ls (.int (Int32.ofNat nn) :: .int 0 :: .ref b :: .int 0 :: .ref a :: st)) rfl (hsz.trans hml.symm) rfl (hb hb1 hd) hf hW hl
  rw [en, e0, List.take_zero, List.nil_append, Nat.zero_add] at V
  have hlen : (vs.take nn ++ vd.drop nn).length = vd.length := by simp; omega
  exact (K T' h' ⟨⟨hx, hb1, hml, hrt, hlk, hnm, hEL⟩, k0, L, X', e', hZ, hown, hS, Nat.le_trans hk0 Kp.1, N', C.trans (CHr.keep Kp (in1 S) C.1), ext_keep O Kp ga, hpr⟩ Kp ⟨by rw [hlen]; exact hv2, kD, dd, by rw [hlen]; exact V⟩).pre g'
theorem g_instN (w : Wk p l e R s m args below meth c Z a0 EL pr y bs ml rt T vm0 h k n) {i : Nat} {K' C' : String} {a : Addr} (hd : decode bs pc = .ok (.instanceof i, 3)) (hq : pc + 3 = q) (w1 : (Cond.classLink y.cls i K').before a0 Z = true) (E : Exa Z h a C') (F : ∃ c t, Z.vm.findClass C' = some c ∧ Z.vm.findClass K' = some t ∧ Z.vm.assignable c t = false)
    (K : ∀ T', Wk p l e R s m args below meth c Z a0 EL pr y bs ml rt T' vm0 h k n → Go p e below Φ (T'.setTop (mkF m q Ls (.int 0 :: st)))) : Go p e below Φ (T.setTop (mkF m pc Ls (.ref a :: st))) := by
  subst hq; obtain ⟨⟨hx, hb1, hml, hrt, hlk, hnm, hEL⟩, k0, locs, X, hh, hZ, hown, hS, hk0, N, C, O, hpr⟩ := w
  obtain ⟨T', X', e', g'⟩ := instNo X hx hZ hown w1 hh E F (g := mkF m pc Ls (.ref a :: st)) rfl rfl (hb hb1 hd)
  exact (K T' ⟨⟨hx, hb1, hml, hrt, hlk, hnm, hEL⟩, k0, locs, X', e', hZ, hown, hS, hk0, N, C, O, hpr⟩).pre g'
theorem g_getSN (w : Wk p l e R s m args below meth c Z a0 EL pr y bs ml rt T vm0 h k n) {i : Nat} {R0 O' nm d host : String} {v : Value} (hd : decode bs pc = .ok (.getstatic i, 3)) (hq : pc + 3 = q) (wl : (Cond.fieldLinkNest y.cls i R0 nm d host).before a0 Z = true) (via : Via Z R0 O' nm d) (F : Sta Z Z.heap O' nm d v)
    (K : ∀ T', Wk p l e R s m args below meth c Z a0 EL pr y bs ml rt T' vm0 h k n → Go p e below Φ (T'.setTop (mkF m q Ls (v :: st)))) : Go p e below Φ (T.setTop (mkF m pc Ls st)) := by
  subst hq; have F' := w.sta F; obtain ⟨⟨hx, hb1, hml, hrt, hlk, hnm, hEL⟩, k0, locs, X, hh, hZ, hown, hS, hk0, N, C, O, hpr⟩ := w
  obtain ⟨T', X', e', g'⟩ := getS2 X hx hZ hown (Or.inr wl) via hh F' (g := mkF m pc Ls st) rfl (hb hb1 hd)
  exact (K T' ⟨⟨hx, hb1, hml, hrt, hlk, hnm, hEL⟩, k0, locs, X', e', hZ, hown, hS, hk0, N, C, O, hpr⟩).pre g'
theorem ns_rootI {O' K' : String} {nk : Nat} (w : (Cond.noSuperclass O').before a0 Z = true) (wk : (Cond.instantiable K' nk).before a0 Z = true) (hn : O' ≠ K') : NS Z O' K' := by
  obtain ⟨c, k, h1, h2, h3, -, -⟩ := Cond.noSuperclass_spec w
  obtain ⟨t, kt, g1, -⟩ := Cond.instantiable_spec wk
  have ne := ids_ne h1 g1 hn
  refine ⟨c, t, h1, g1, fun fuel => ?_⟩
  cases fuel with
  | zero => rfl
  | succ f => simp [Vm.isSubclassAux, ne, h2, h3]
theorem ns_noI {C' S' K' : String} {nk : Nat} (w : (Cond.superclass C' S').before a0 Z = true) (wk : (Cond.instantiable K' nk).before a0 Z = true) (nn : NS Z C' K') (hn : C' ≠ K') : ∃ c t, Z.vm.findClass C' = some c ∧ Z.vm.findClass K' = some t ∧ Z.vm.assignable c t = false := by
  obtain ⟨c, t, h0, g0, n3⟩ := nn
  obtain ⟨p, k, kp, h1, h2, h3, h4, h5, -, h7⟩ := Cond.superclass_spec h0 w
  obtain ⟨t2, k', g1, g2, g5, g7, -⟩ := Cond.instantiable_spec wk
  cases g0.symm.trans g1
  have g7' : k'.isInterface = false := (Bool.or_eq_false_iff.mp g7).1
  have ne := ids_ne h0 g0 hn
  refine ⟨c, t, h0, g0, ?_⟩
  show Z.vm.assignableAux (255 + 1) c t = false
  simp [Vm.assignableAux, ne, h2, g2, h5, g5, g7', Vm.isSubclass, n3]
theorem g_aaloadB (w : Wk p l e R s m args below meth c Z a0 EL pr y bs ml rt T vm0 h k n) {a : Addr} {cc : Cell} {K' d : String} {z j : Int32} {val : Int32 → Value} (hd : decode bs pc = .ok (.aaload, 1)) (hq : pc + 1 = q) (B : Bxs Z a cc K' d z val) (hj : ¬ j < 0 ∧ j < z)
    (K : ∀ b, Exa Z Z.heap b K' → Fld Z Z.heap b K' "value" d (val j) → Go p e below Φ (T.setTop (mkF m q Ls (.ref b :: st)))) : Go p e below Φ (T.setTop (mkF m pc Ls (.int j :: .ref a :: st))) := by
  subst hq; obtain ⟨⟨hx, hb1, hml, hrt, hlk, hnm, hEL⟩, k0, locs, X, hh, hZ, hown, hS, hk0, N, C, O, hpr⟩ := w
  obtain ⟨A, S1, hz, H⟩ := B
  have hin := inb_of S1 hj
  obtain ⟨b, e1, e2, e3⟩ := H j hin
  have A' := A.ext O
  exact (K b e2 e3).pre fun t r => X.aaload (g := mkF m pc Ls (.int j :: .ref a :: st)) hx (by rw [hh]; exact A'.1) (State.isArrayOf_alike hZ.alike A'.2.1) rfl A'.2.2 hin e1 rfl rfl (hb hb1 hd) t r
theorem len_cell {t : Term} {aa : Array Value} {z : Int32} {a : Addr} {cc : Cell} {ty : FieldType} (ev : t.eval aa Z none [] Z = some (.ref a)) (A : Arr Z Z.heap a cc ty) (hl : (Term.length t).eval aa Z none [] Z = some (.int z)) : cc.slots.size < 2 ^ 31 ∧ cc.slots.size.toInt32 = z := by
  have A' := A.fin (Vm.Alike.refl _)
  by_cases q : cc.slots.size < 2 ^ 31
  · rw [len_f ev A' q] at hl; cases hl; exact ⟨q, rfl⟩
  · have q' : ¬ cc.slots.size < 2147483648 := by omega
    simp [Term.eval, ev, A', q'] at hl
theorem ar_empty (hf : Fit Z) {t : Term} {aa : Array Value} {a : Addr} {ty : FieldType} (ev : t.eval aa Z none [] Z = some (.ref a)) (h1 : (Cond.arrayOf t ty).value aa Z none Z [] = some true) (h2 : (Cond.eq (.length t) (.int 0)).value aa Z none Z [] = some true) : Ar Z Z.heap a ty [] := by
  obtain ⟨cc, A⟩ := Arr.start ev h1
  obtain ⟨q1, q2⟩ := len_cell ev A (eqv_i (Term.int_eval 0) h2)
  exact ⟨Nat.le_of_ble_eq_true rfl, cc.cls, .null, Arv.start (vs := []) hf A q1 q2 (by decide) rfl trivial⟩
theorem vo_in {i : Int32} (h1 : ¬ i < -128) (h2 : ¬ 127 < i) : ¬ i + 128 < 0 ∧ i + 128 < 256 := by
  have r := c_iadd i 128
  have r1 := rng32 (i + 128)
  rw [Int32.lt_iff_toInt_lt, show (-128 : Int32).toInt = -128 from rfl] at h1
  rw [Int32.lt_iff_toInt_lt, show (127 : Int32).toInt = 127 from rfl] at h2
  rw [show (128 : Int32).toInt = 128 from rfl] at r
  rw [Int32.lt_iff_toInt_lt, Int32.lt_iff_toInt_lt, show (0 : Int32).toInt = 0 from rfl, show (256 : Int32).toInt = 256 from rfl]
  omega
theorem g_iface (w : Wk p l e R s m args below meth c Z a0 EL pr y bs ml rt T vm0 h k n) {y1 y' : MethodName} {bs' : ByteArray} {ml' : Nat} {rt' : Option FieldType} {rm : Room} {Q : Option Value → Heap → Prop} {i cn W : Nat} {a : Addr} {C' : String} {argsL : List Value} {ps : List FieldType} {rr : Option FieldType} {stk : List Value} {sf : List Addr} (hM : Con l Z EL pr y' bs' ml' rt' [] rm (.ref a :: argsL).toArray sf h Q) (hsf : ∀ x ∈ sf, x < h.size ∧ Safe Z EL vm0 h x) (E : Exa Z h a C') (hd : decode bs pc = .ok (.invokeinterface i cn, 5)) (hq : pc + 5 = q) (hsz : Ls.size = ml)
    (w1 : (Cond.methodLink y.cls i y1).before a0 Z = true) (wd : (Cond.declares y1).before a0 Z = true) (wf : (Cond.interfaceMethod y1.cls y1.cls y1.name y1.desc).before a0 Z = true) (hfa : ((Cond.interfaceMethod y1.cls y1.cls y1.name y1.desc).onTables && (Cond.interfaceMethod y1.cls y1.cls y1.name y1.desc).keepsFace) = true) (wp : (Cond.publicMethod y').before a0 Z = true) (wu : (Cond.unhidden C' y1.name y1.desc).before a0 Z = true) (wk : (Cond.castable C' y1.cls).before a0 Z = true) (ws : (Cond.selects C' y1 y').before a0 Z = true) (w2 : (Cond.instanceMethod y').before a0 Z = true) (w3 : (Cond.initialized y'.cls).before a0 Z = true) (w4 : (Cond.code y' bs' ml' rt').before a0 Z = true) (hy : y1.cls ≠ "java/lang/invoke/MethodHandle" ∧ y1.cls ≠ "java/lang/invoke/VarHandle") (hpd : parseMethodDescriptor y1.desc = some ⟨ps, rr⟩) (hlen : argsL.length = ps.length) (hst : stk = argsL.reverse ++ .ref a :: st)
    (hW : 2 * 0 + (st.map fun v => v.category).sum ≤ W) (hf : rm.frames + 1 ≤ R.frames) (hl : W + (ml' + 11) + rm.locals ≤ R.locals) (hc : k + rm.cells ≤ R.cells) (hs : n + rm.slots ≤ R.slots)
    (K : ∀ T' h' v, Wk p l e R s m args below meth c Z a0 EL pr y bs ml rt T' T'.vm h' (k + rm.cells) (n + rm.slots) → h.size ≤ h'.size → CHr Z EL vm0 h T'.vm h' → Q v h' → Go p e below Φ (T'.setTop (mkF m q Ls (v.toList ++ st)))) : Go p e below Φ (T.setTop (mkF m pc Ls stk)) := by
  subst hq hst; have w' := w; obtain ⟨⟨hx, hb1, hml, hrt, hlk, hnm, hEL⟩, k0, locs, X, hh, hZ, hown, hS, hk0, N, C, O, hpr⟩ := w
  obtain ⟨cq, kq, qa, qk, qc⟩ := isOf (s := s.setVm vm0) hZ hh E
  obtain ⟨v, vm₁, ⟨T', L', k', n'⟩, hW1, X', hS', hg, ⟨L, ⟨hQ, hO', hF⟩, hl', hk', hn', hC', hp'⟩, stp⟩ := X.interfaceBackS hx hown (mvT (s := s.setVm vm0) hZ w1) (mvT (s := s.setVm vm0) hZ wd) (mvT (s := s.setVm vm0) hZ wf hfa) (mvT (s := s.setVm vm0) hZ ws) (mvT (s := s.setVm vm0) hZ w2) (mvT (s := s.setVm vm0) hZ wp) (mvT (s := s.setVm vm0) hZ wu) (mvT (s := s.setVm vm0) hZ wk) hy (hM.back hsf hZ w4 w3 hf hl hEL C.1) qa qk qc (g := mkF m pc Ls (argsL.reverse ++ .ref a :: st)) rfl (hsz.trans hml.symm) (Steps.refl _) (lenOf hpd hlen) rfl hW (hb hb1 hd) (fun _ _ => ⟨rfl, hh, hc, hs⟩)
  dsimp only [Pt.U, Pt.locs, Pt.cells, Pt.slots] at X' hS' hg hQ hO' hl' hk' hn' hC' hp' stp
  subst hl' hk' hn'
  exact (K T' T'.heap v (w'.after X' hS' hg (N.app hF) hC' hO' fun q => State.WarmedH.trans (t := T.setVm vm₁) hW1 (hp' q)) hC'.2.1 hC' hQ).pre' stp
theorem g_priv (w : Wk p l e R s m args below meth c Z a0 EL pr y bs ml rt T vm0 h k n) {y' : MethodName} {bs' : ByteArray} {ml' : Nat} {rt' : Option FieldType} {rm : Room} {Q : Option Value → Heap → Prop} {i W : Nat} {a : Addr} {C' : String} {argsL : List Value} {ps : List FieldType} {rr : Option FieldType} {stk : List Value} {sf : List Addr} (hM : Con l Z EL pr y' bs' ml' rt' [] rm (.ref a :: argsL).toArray sf h Q) (hsf : ∀ x ∈ sf, x < h.size ∧ Safe Z EL vm0 h x) (E : Exa Z h a C') (hd : decode bs pc = .ok (.invokevirtual i, 3)) (hq : pc + 3 = q) (hsz : Ls.size = ml)
    (w1 : (Cond.methodLink y.cls i y').before a0 Z = true) (wd : (Cond.privateMethod y').before a0 Z = true) (ws : (Cond.selects y'.cls y' y').before a0 Z = true) (w2 : (Cond.instanceMethod y').before a0 Z = true) (w3 : (Cond.initialized y'.cls).before a0 Z = true) (w4 : (Cond.code y' bs' ml' rt').before a0 Z = true) (hy : y'.cls ≠ "java/lang/invoke/MethodHandle" ∧ y'.cls ≠ "java/lang/invoke/VarHandle") (hpd : parseMethodDescriptor y'.desc = some ⟨ps, rr⟩) (hlen : argsL.length = ps.length) (hst : stk = argsL.reverse ++ .ref a :: st)
    (hW : 2 * 0 + (st.map fun v => v.category).sum ≤ W) (hf : rm.frames + 1 ≤ R.frames) (hl : W + (ml' + 11) + rm.locals ≤ R.locals) (hc : k + rm.cells ≤ R.cells) (hs : n + rm.slots ≤ R.slots)
    (K : ∀ T' h' v, Wk p l e R s m args below meth c Z a0 EL pr y bs ml rt T' T'.vm h' (k + rm.cells) (n + rm.slots) → h.size ≤ h'.size → CHr Z EL vm0 h T'.vm h' → Q v h' → Go p e below Φ (T'.setTop (mkF m q Ls (v.toList ++ st)))) : Go p e below Φ (T.setTop (mkF m pc Ls stk)) := by
  subst hq hst; have w' := w; obtain ⟨⟨hx, hb1, hml, hrt, hlk, hnm, hEL⟩, k0, locs, X, hh, hZ, hown, hS, hk0, N, C, O, hpr⟩ := w
  obtain ⟨cq, kq, qa, -, cB, hcB, -, hsB⟩ := isOf (s := s.setVm vm0) hZ hh E
  obtain ⟨v, vm₁, ⟨T', L', k', n'⟩, hW1, X', hS', hg, ⟨L, ⟨hQ, hO', hF⟩, hl', hk', hn', hC', hp'⟩, stp⟩ := X.privateBackS hx hown (mvT (s := s.setVm vm0) hZ w1) (mvT (s := s.setVm vm0) hZ w2) (mvT (s := s.setVm vm0) hZ ws) (Cond.privateMethod_at (args := #[]) (mvP (s := s.setVm vm0) hZ wd)) (mvT (s := s.setVm vm0) hZ w4) hy (hM.back hsf hZ w4 w3 hf hl hEL C.1) (g := mkF m pc Ls (argsL.reverse ++ .ref a :: st)) rfl (hsz.trans hml.symm) (Steps.refl _) hcB (fun q z => by rw [z] at hsB; cases hsB) (lenOf hpd hlen) rfl hW (hb hb1 hd) (fun _ _ => ⟨rfl, hh, hc, hs⟩)
  dsimp only [Pt.U, Pt.locs, Pt.cells, Pt.slots] at X' hS' hg hQ hO' hl' hk' hn' hC' hp' stp
  subst hl' hk' hn'
  exact (K T' T'.heap v (w'.after X' hS' hg (N.app hF) hC' hO' fun q => State.WarmedH.trans (t := T.setVm vm₁) hW1 (hp' q)) hC'.2.1 hC' hQ).pre' stp
theorem g_ifaceP (w : Wk p l e R s m args below meth c Z a0 EL pr y bs ml rt T vm0 h k n) {y1 y' : MethodName} {bs' : ByteArray} {ml' : Nat} {rt' : Option FieldType} {rm : Room} {V : Option Value → Prop} {i cn W : Nat} {a : Addr} {C' : String} {argsL : List Value} {ps : List FieldType} {rr : Option FieldType} {stk : List Value} {sf : List Addr} (hM : Con l Z EL pr y' bs' ml' rt' [] rm (.ref a :: argsL).toArray sf h (fun v h' => V v ∧ h' = h)) (hsf : ∀ x ∈ sf, x < h.size ∧ Safe Z EL vm0 h x) (E : Exa Z h a C') (hd : decode bs pc = .ok (.invokeinterface i cn, 5)) (hq : pc + 5 = q) (hsz : Ls.size = ml)
    (w1 : (Cond.methodLink y.cls i y1).before a0 Z = true) (wd : (Cond.declares y1).before a0 Z = true) (wf : (Cond.interfaceMethod y1.cls y1.cls y1.name y1.desc).before a0 Z = true) (hfa : ((Cond.interfaceMethod y1.cls y1.cls y1.name y1.desc).onTables && (Cond.interfaceMethod y1.cls y1.cls y1.name y1.desc).keepsFace) = true) (wp : (Cond.publicMethod y').before a0 Z = true) (wu : (Cond.unhidden C' y1.name y1.desc).before a0 Z = true) (wk : (Cond.castable C' y1.cls).before a0 Z = true) (ws : (Cond.selects C' y1 y').before a0 Z = true) (w2 : (Cond.instanceMethod y').before a0 Z = true) (w3 : (Cond.initialized y'.cls).before a0 Z = true) (w4 : (Cond.code y' bs' ml' rt').before a0 Z = true) (hy : y1.cls ≠ "java/lang/invoke/MethodHandle" ∧ y1.cls ≠ "java/lang/invoke/VarHandle") (hpd : parseMethodDescriptor y1.desc = some ⟨ps, rr⟩) (hlen : argsL.length = ps.length) (hst : stk = argsL.reverse ++ .ref a :: st)
    (hW : 2 * 0 + (st.map fun v => v.category).sum ≤ W) (hf : rm.frames + 1 ≤ R.frames) (hl : W + (ml' + 11) + rm.locals ≤ R.locals) (hc : k + rm.cells ≤ R.cells) (hs : n + rm.slots ≤ R.slots)
    (K : ∀ T' v, Wk p l e R s m args below meth c Z a0 EL pr y bs ml rt T' T'.vm h (k + rm.cells) (n + rm.slots) → CHr Z EL vm0 h T'.vm h → V v → Go p e below Φ (T'.setTop (mkF m q Ls (v.toList ++ st)))) : Go p e below Φ (T.setTop (mkF m pc Ls stk)) :=
  g_iface w hM hsf E hd hq hsz w1 wd wf hfa wp wu wk ws w2 w3 w4 hy hpd hlen hst hW hf hl hc hs fun T' h' v w' _ C' q' => by
    obtain ⟨hV, rfl⟩ := q'; exact K T' v w' C' hV
end KV
end Jvm.Own
namespace Jvm.Own
open Sem ClassFile Op Lib Jvm.Stand Jvm.Free Jvm.LawKit Jvm.RoadKit Bundle
section KB
variable {p : Program} {l : Launch} {e : Env} {R : Room} {s : State} {m : MethodId} {args : Array Value} {below : List Frame} {meth : Method} {c : Code} {Z : State} {a0 : Array Value} {EL : List (String × Nat)} {pr : Bool} {y : MethodName} {bs : ByteArray} {ml : Nat} {rt : Option FieldType} {T : State} {vm0 : Vm} {h : Heap} {k n : Nat} {Φ : Outcome → State → Prop} {Ls : Array Slot} {st : List Value} {pc q : Nat}
theorem noFace {C' : String} {x0 y0 y1 : MethodName} {mk : MethodId} (ws : (Cond.selects C' x0 y0).before a0 Z = true) (he : y0.cls = y1.cls) (hn : Z.methodNamed? y1 = some mk) : ∃ kr, Z.vm.classes[mk.cls]? = some kr ∧ kr.isInterface = false := by
  obtain ⟨c1, r1, m1, -, -, hn', -, kr, hk, hi⟩ := Cond.selects_spec ws
  have h1 := findClass_of_methodNamed hn
  have h2 := findClass_of_methodNamed hn'
  rw [he, h1] at h2
  exact ⟨kr, by rw [Option.some.inj h2]; exact hk, hi⟩
theorem nfC {C' : String} {x0 y0 y1 : MethodName} (ws : (Cond.selects C' x0 y0).before a0 Z = true) (he : y0.cls = y1.cls) (s' : State) (hZ : Z.Warmed39 s'.vm) : NotFace s' y1 := fun _ hn => noFace (Z := s') (a0 := #[]) (mvT hZ ws) he hn
theorem selOwn {C0 : String} {y1 : MethodName} (wi : (Cond.instanceMethod y1).before a0 Z = true) (ws : (Cond.selects C0 y1 y1).before a0 Z = true) (wp : (Cond.privateMethod y1).before a0 Z = true) (hy : y1.cls ≠ "java/lang/invoke/MethodHandle" ∧ y1.cls ≠ "java/lang/invoke/VarHandle") : (Cond.selects y1.cls y1 y1).before a0 Z = true := by
  obtain ⟨mk, methM, hnamed, hmethM, -, -⟩ := Cond.instanceMethod_spec wi
  obtain ⟨c2, r2, m2, -, -, q3, -, kP, hkP, hkPi⟩ := Cond.selects_spec ws
  cases hnamed.symm.trans q3
  have f := State.methodFound?_of_named hnamed hy
  have hc := findClass_of_methodNamed hnamed
  have hsel : selectMethod {} Z.vm mk.cls mk = .method mk := selectMethod_private hmethM (Cond.privateMethod_at wp mk methM hnamed hmethM)
  simp [Cond.before, Cond.holds, Cond.value, hc, f, hnamed, hsel, hkP, hkPi]
theorem sameOwn {C0 : String} {x0 y0 y1 : MethodName} (wi : (Cond.instanceMethod y1).before a0 Z = true) (ws : (Cond.selects C0 x0 y0).before a0 Z = true) (he : y0.cls = y1.cls) (hy : y1.cls ≠ "java/lang/invoke/MethodHandle" ∧ y1.cls ≠ "java/lang/invoke/VarHandle") : (Cond.sameMethod y1.cls y1.cls y1.name y1.desc).before a0 Z = true := by
  obtain ⟨mk, methM, hnamed, hmethM, -, -⟩ := Cond.instanceMethod_spec wi
  obtain ⟨kP, hkP, hkPi⟩ := noFace ws he hnamed
  have f := State.methodFound?_of_named hnamed hy
  have hc := findClass_of_methodNamed hnamed
  have hn' : Z.methodNamed? ⟨y1.cls, y1.name, y1.desc⟩ = some mk := hnamed
  simp [Cond.before, Cond.holds, Cond.value, hc, f, hn', hkP, hkPi]
/-- a byte[] that is longer than every literal is no literal's array -/
def EWL (Z : State) (a0 : Array Value) (EL : List (String × Nat)) (N : Nat) : Prop := ∀ p ∈ EL, ∃ text : String, (Cond.stringLink p.1 p.2 text).before a0 Z = true ∧ (∀ c ∈ text.toList, c.toNat < 256) ∧ text.toList.length ≤ N
theorem EWL.nil {N : Nat} : EWL Z a0 [] N := fun _ hp => by cases hp
theorem EWL.cons {N i : Nat} {own text : String} (wt : (Cond.stringLink own i text).before a0 Z = true) (ht : ∀ c ∈ text.toList, c.toNat < 256) (hN : text.toList.length ≤ N) (E : EWL Z a0 EL N) : EWL Z a0 ((own, i) :: EL) N := fun p hp => by
  rcases List.mem_cons.mp hp with rfl | hp
  · exact ⟨text, wt, ht, hN⟩
  · exact E p hp
theorem safe_long {vm : Vm} {x : Addr} {vs : List Value} {N : Nat} (hZ : Z.Warmed39 vm) (wl : EWL Z a0 EL N) (A : Ar Z h x .byte vs) (hl : N < vs.length) : Safe Z EL vm h x := fun B => by
  have hal := hZ.alike
  obtain ⟨hv, kC, dv, cl, ⟨A1, ⟨-, kA, hkA, compA, hkindA⟩, -⟩, q1, S1, -⟩ := A
  obtain ⟨kA', hkA', ekA⟩ := hal.2.2 _ _ hkA
  obtain ⟨pp, hp, u, a, hbk, q, -, F, rfl | rfl⟩ := B
  · cases (show h[q.sa]? = some q.sC from F.ha).symm.trans A1
    obtain ⟨cS, ⟨-, -, e⟩, ⟨kS, g1, g2, -⟩, -⟩ := F
    subst e
    cases (show vm.classes[q.sC.cls]? = some kS from g1).symm.trans hkA'
    rw [ekA] at g2
    have := hkindA.symm.trans g2
    cases this
  · cases (show h[q.sd]? = some q.SA from F.hd).symm.trans A1
    obtain ⟨text, wt, ht, hN⟩ := wl pp hp
    obtain ⟨cc, kk, cf, i, hc', hk', hcf', hpool, hu, -⟩ := hbk
    have wl' : (Cond.stringLink pp.1 pp.2 text).before a0 (Wst Z vm h) = true := mvS (s := { Z with heap := h }) hZ wt
    obtain ⟨k2, cf0, i0, units0, hk, hcf, hp0, hu0, hnm, htext, -⟩ := Cond.stringLink_spec (s := Wst Z vm h) hc' wl'
    cases (show vm.classes[cc]? = some k2 from hk).symm.trans hk'
    cases hcf.symm.trans hcf'
    cases hp0.symm.trans hpool
    cases hu0.symm.trans hu
    have hlat := Jvm.ClassFile.lat_of_text htext ht
    obtain ⟨cS, -, -, -, hbyt⟩ := F
    have e1 : q.SA.slots.size = u.size := by rw [hbyt, Jvm.Free.SBG.stringBytes_lat hlat]; simp
    have e2 : u.size = text.toList.length := by rw [← Array.length_toList, Jvm.ClassFile.units_of_text htext ht]; simp
    rw [S1, ofNat_clamp hv] at e1
    omega
theorem Wk.safeL (w : Wk p l e R s m args below meth c Z a0 EL pr y bs ml rt T vm0 h k n) {x : Addr} {vs : List Value} {N : Nat} (wl : EWL Z a0 EL N) (A : Ar Z h x .byte vs) (hl : N < vs.length) : Safe Z EL vm0 h x := safe_long w.wz wl A hl
theorem ne_len {a b : Addr} {ty ty' : FieldType} {vs vs' : List Value} (A : Ar Z h a ty vs) (B : Ar Z h b ty' vs') (hne : vs.length ≠ vs'.length) : a ≠ b := fun q => by
  subst q
  obtain ⟨hv, _, _, c1, ⟨A1, -⟩, -, S1, -⟩ := A
  obtain ⟨hv', _, _, c2, ⟨B1, -⟩, -, S2, -⟩ := B
  cases A1.symm.trans B1
  rw [S1, ofNat_clamp hv, ofNat_clamp hv'] at S2
  exact hne S2
theorem ne_xar {x b : Addr} {C' : String} {kk : Nat} {ty : FieldType} {vs : List Value} (E : Exa Z h x C') (A : Ar Z h b ty vs) (wi : (Cond.instantiable C' kk).before a0 Z = true) : x ≠ b := by
  obtain ⟨-, _, _, A⟩ := A; exact Exa.neArv E A wi
theorem in2 {a b : Addr} {P : Addr → Prop} (h1 : P a) (h2 : P b) : ∀ x ∈ [a, b], P x := fun x hx => by
  rcases List.mem_cons.mp hx with rfl | hx
  · exact h1
  · cases List.mem_singleton.mp hx; exact h2
theorem m1 {a b : Addr} : a ∈ [a, b] := List.mem_cons_self
theorem m2 {a b : Addr} : b ∈ [a, b] := List.mem_cons_of_mem _ (List.mem_singleton.mpr rfl)
theorem not2 {a b x : Addr} (h1 : x ≠ a) (h2 : x ≠ b) : x ∉ [a, b] := fun q => by
  rcases List.mem_cons.mp q with q | q
  · exact h1 q
  · exact h2 (List.mem_singleton.mp q)
theorem ext_keep2 {h1 h2 h3 : Heap} {a b : Addr} (E : Ext h1 h2) (K : Keep h2 h3 [a, b]) (ha : h1.size ≤ a) (hb : h1.size ≤ b) : Ext h1 h3 := ⟨Nat.le_trans E.1 K.1, fun x c q => K.2.1 _ _ (E.2 _ _ q) (not2 (Nat.ne_of_lt (Nat.lt_of_lt_of_le (Array.getElem?_eq_some_iff.mp q).1 ha)) (Nat.ne_of_lt (Nat.lt_of_lt_of_le (Array.getElem?_eq_some_iff.mp q).1 hb)))⟩
theorem g_newarrE (w : Wk p l e R s m args below meth c Z a0 EL pr y bs ml rt T vm0 h k n) {aty : ArrayType} {z : Int32} {len cap : Nat} {ad : String} (hd : decode bs pc = .ok (.newarray aty, 2)) (hq : pc + 2 = q) (w1 : (Cond.arrayClass (newarray.typeOf aty)).before a0 Z = true) (had : "[" ++ (newarray.typeOf aty).toString = ad) (hz : z = Int32.ofNat len) (hl : len ≤ cap) (hcap : cap * 8 ≤ 536870912) (hc : k + 1 ≤ R.cells) (hs : n + cap ≤ R.slots)
    (K : ∀ T' h' a, Wk p l e R s m args below meth c Z a0 EL pr y bs ml rt T' vm0 h' (k + 1) (n + cap) → Ext h h' → h.size ≤ a → Z.heap.size ≤ a → Ar Z h' a (newarray.typeOf aty) (List.replicate len (defaultValue (newarray.typeOf aty))) → Exa Z h' a ad → Safe Z EL vm0 h' a → Go p e below Φ (T'.setTop (mkF m q Ls (.ref a :: st)))) : Go p e below Φ (T.setTop (mkF m pc Ls (.int z :: st))) := by
  subst hq hz; obtain ⟨⟨hx, hb1, hml, hrt, hlk, hnm, hEL⟩, k0, locs, X, hh, hZ, hown, hS, hk0, N, C, O, hpr⟩ := w
  have hlen : len < 2147483648 := by omega
  obtain ⟨T', h', cA, X', e', E, A, E1, g'⟩ := newPE X hx hZ w1 hh (g := mkF m pc Ls (.int (Int32.ofNat len) :: st)) rfl (hb hb1 hd) rfl (ofNat_nonneg hlen) (cap := cap) (by rw [ofNat_clamp hlen]; exact hl) hcap hc hs had
  refine (K T' h' h.size ⟨⟨hx, hb1, hml, hrt, hlk, hnm, hEL⟩, k0, locs, X', e', hZ, hown, hS, Nat.le_trans hk0 E.1, N, C.trans (CHr.ext E C.1), ext_trans O E, hpr⟩ E (Nat.le_refl _) O.1 ⟨by simpa using hlen, cA, defaultValue (newarray.typeOf aty), ?_⟩ E1 (Safe.ext E C.1 (Safe.new (Nat.le_refl _)))).pre g'
  have q := (Arv.new A (ofNat_nonneg hlen)).pad (vs' := List.replicate len (defaultValue (newarray.typeOf aty))) (fun i => by simpa using pad_rep [] (defaultValue (newarray.typeOf aty)) len i)
  simpa using q
theorem g_acopyB (w : Wk p l e R s m args below meth c Z a0 EL pr y bs ml rt T vm0 h k n) {i Wd sp dp nn : Nat} {a b : Addr} {vs vd : List Value} (A : Ar Z h a .byte vs) (B : Ar Z h b .byte vd) (h1 : sp + nn ≤ vs.length) (h2 : dp + nn ≤ vd.length) (ga : Z.heap.size ≤ b) (S : Safe Z EL vm0 h b) (hd : decode bs pc = .ok (.invokestatic i, 3)) (hq : pc + 3 = q) (hsz : Ls.size = ml)
    (w1 : (Cond.methodLink y.cls i Jvm.Stand.acN).before a0 Z = true) (w2 : (Cond.native Jvm.Stand.acN).before a0 Z = true) (w3 : (Cond.static Jvm.Stand.acN).before a0 Z = true) (w4 : (Cond.initialized "java/lang/System").before a0 Z = true) (hW : 2 * 0 + (st.map fun v => v.category).sum ≤ Wd) (hf : 1 ≤ R.frames) (hl : Wd + (nativeFrameWords "java/lang/System" "arraycopy" 5 + 11) ≤ R.locals)
    (K : ∀ T' h', Wk p l e R s m args below meth c Z a0 EL pr y bs ml rt T' vm0 h' k n → Keep h h' [b] → Ar Z h' b .byte (vd.take dp ++ (vs.drop sp).take nn ++ vd.drop (dp + nn)) → Go p e below Φ (T'.setTop (mkF m q Ls st))) : Go p e below Φ (T.setTop (mkF m pc Ls (.int (Int32.ofNat nn) :: .int (Int32.ofNat dp) :: .ref b :: .int (Int32.ofNat sp) :: .ref a :: st))) := by
  subst hq; obtain ⟨⟨hx, hb1, hml, hrt, hlk, hnm, hEL⟩, k0, locs, X, hh, hZ, hown, hS, hk0, N, C, O, hpr⟩ := w
  obtain ⟨hv, kC, dv, A⟩ := A
  obtain ⟨hv2, kD, dd, B⟩ := B
  have en : (Int32.ofNat nn).toNatClampNeg = nn := ofNat_clamp (by omega)
  have es : (Int32.ofNat sp).toNatClampNeg = sp := ofNat_clamp (by omega)
  have ed : (Int32.ofNat dp).toNatClampNeg = dp := ofNat_clamp (by omega)
  have hus : (vs.drop sp).take nn = (List.range (Int32.ofNat nn).toNatClampNeg).map fun i => vs.getD ((Int32.ofNat sp).toNatClampNeg + i) dv := by
    rw [en, es]
    apply List.ext_getElem?
    intro j
    by_cases hj : j < nn
    · have hj2 : sp + j < vs.length := by omega
      simp [List.getElem?_take, List.getElem?_drop, hj, hj2, List.getD_eq_getElem?_getD]
    · simp [List.getElem?_take, hj]
  obtain ⟨T', h', L, X', e', N', Kp, V, g'⟩ := cpA X hx hZ hown w1 w2 w3 w4 hh A B (us := (vs.drop sp).take nn) (Or.inl ⟨rfl, rfl⟩) (sp := Int32.ofNat sp) (dp := Int32.ofNat dp) (nn := Int32.ofNat nn) (ofNat_nonneg (by omega)) (ofNat_nonneg (by omega)) (ofNat_nonneg (by omega)) (by rw [en, es, ofNat_clamp hv]; omega) (by rw [en, ed, ofNat_clamp hv2]; omega) hus (by rw [en, ed]; omega) N ga (g := mkF m pc Ls (.int (Int32.ofNat nn) :: .int (Int32.ofNat dp) :: .ref b :: .int (Int32.ofNat sp) :: .ref a :: st)) rfl (hsz.trans hml.symm) rfl (hb hb1 hd) hf hW hl
  rw [en, ed] at V
  have hlen : (vd.take dp ++ (vs.drop sp).take nn ++ vd.drop (dp + nn)).length = vd.length := by simp; omega
  exact (K T' h' ⟨⟨hx, hb1, hml, hrt, hlk, hnm, hEL⟩, k0, L, X', e', hZ, hown, hS, Nat.le_trans hk0 Kp.1, N', C.trans (CHr.keep Kp (in1 S) C.1), ext_keep O Kp ga, hpr⟩ Kp ⟨by rw [hlen]; exact hv2, kD, dd, by rw [hlen]; exact V⟩).pre g'
theorem g_clone (w : Wk p l e R s m args below meth c Z a0 EL pr y bs ml rt T vm0 h k n) {i Wd cap : Nat} {a : Addr} {vs : List Value} (A : Ar Z h a .byte vs) (E : Exa Z h a "[B") (hd : decode bs pc = .ok (.invokevirtual i, 3)) (hq : pc + 3 = q) (hsz : Ls.size = ml)
    (w1 : (Cond.methodLink y.cls i ⟨"[B", "clone", "()Ljava/lang/Object;"⟩).before a0 Z = true) (w2 : (Cond.sameMethod "[B" "java/lang/Object" "clone" "()Ljava/lang/Object;").before a0 Z = true) (w3 : (Cond.native ⟨"java/lang/Object", "clone", "()Ljava/lang/Object;"⟩).before a0 Z = true) (w4 : (Cond.instanceMethod ⟨"java/lang/Object", "clone", "()Ljava/lang/Object;"⟩).before a0 Z = true) (w5 : (Cond.selects "[B" ⟨"[B", "clone", "()Ljava/lang/Object;"⟩ ⟨"java/lang/Object", "clone", "()Ljava/lang/Object;"⟩).before a0 Z = true) (w6 : (Cond.castable "[B" "java/lang/Cloneable").before a0 Z = true)
    (hW : 2 * 0 + (st.map fun v => v.category).sum ≤ Wd) (hf : 1 ≤ R.frames) (hl : Wd + 14 ≤ R.locals) (hcap : vs.length ≤ cap) (hc : k + 1 ≤ R.cells) (hs : n + cap ≤ R.slots)
    (K : ∀ T' h' u, Wk p l e R s m args below meth c Z a0 EL pr y bs ml rt T' vm0 h' (k + 1) (n + cap) → Ext h h' → h.size ≤ u → Z.heap.size ≤ u → Ar Z h' u .byte vs → Exa Z h' u "[B" → Go p e below Φ (T'.setTop (mkF m q Ls (.ref u :: st)))) : Go p e below Φ (T.setTop (mkF m pc Ls (.ref a :: st))) := by
  subst hq; obtain ⟨⟨hx, hb1, hml, hrt, hlk, hnm, hEL⟩, k0, locs, X, hh, hZ, hown, hS, hk0, N, C, O, hpr⟩ := w
  obtain ⟨hv, kC, dv, A⟩ := A
  obtain ⟨T', h', X', e', Ex, A', E', g'⟩ := cloneH X hx hZ hown w1 w2 w3 w4 w5 w6 hh A.arh E (g := mkF m pc Ls (.ref a :: st)) rfl (hsz.trans hml.symm) rfl (hb hb1 hd) hf hW hl (cap := cap) (by rw [ofNat_clamp hv]; exact hcap) hc hs
  exact (K T' h' h.size ⟨⟨hx, hb1, hml, hrt, hlk, hnm, hEL⟩, k0, locs, X', e', hZ, hown, hS, Nat.le_trans hk0 Ex.1, N, C.trans (CHr.ext Ex C.1), ext_trans O Ex, hpr⟩ Ex (Nat.le_refl _) O.1 ⟨hv, kC, dv, A'⟩ E').pre g'
/-- an old byte table: its j-th component is f j -/
def Dg (Z : State) (a : Addr) (N : Nat) (f : Nat → Int32) : Prop := ∃ cc : Cell, Arr Z Z.heap a cc .byte ∧ cc.slots.size = N ∧ ∀ j, j < N → cc.slots[j]? = some (.int (f j))
theorem g_baloadD (w : Wk p l e R s m args below meth c Z a0 EL pr y bs ml rt T vm0 h k n) {a : Addr} {N i : Nat} {j : Int32} {f : Nat → Int32} (hd : decode bs pc = .ok (.baload, 1)) (hq : pc + 1 = q) (D : Dg Z a N f) (hj : j = Int32.ofNat i) (hi : i < N) (hN : N ≤ 4000) (hr : Go p e below Φ (T.setTop (mkF m q Ls (.int (f i) :: st)))) : Go p e below Φ (T.setTop (mkF m pc Ls (.int j :: .ref a :: st))) := by
  subst hq hj; obtain ⟨⟨hx, hb1, hml, hrt, hlk, hnm, hEL⟩, k0, locs, X, hh, hZ, hown, hS, hk0, N, C, O, hpr⟩ := w
  obtain ⟨cc, A, hS1, H⟩ := D
  have A' := A.ext O
  have ec : (Int32.ofNat i).toNatClampNeg = i := ofNat_clamp (by omega)
  have hin : ¬ (Int32.ofNat i < 0 ∨ cc.slots.size ≤ (Int32.ofNat i).toNatClampNeg) := by
    rw [ec, hS1]; intro q
    rcases q with q | q
    · exact ofNat_nonneg (by omega) q
    · omega
  exact hr.pre fun t r => X.baloadBytes (g := mkF m pc Ls (.int (Int32.ofNat i) :: .ref a :: st)) hx (by rw [hh]; exact A'.1) (State.isArrayOf_alike hZ.alike A'.2.1) A'.2.2 hin (by rw [ec]; exact H i hi) rfl rfl (hb hb1 hd) t r
theorem dg_start {t F : Term} {aa : Array Value} {a : Addr} {N : Nat} {z : Int32} {f : Nat → Int32} (ev : ∀ idx, t.eval aa Z none idx Z = some (.ref a)) (hx : (Cond.exactly t "[B").value aa Z none Z [] = some true) (wa : (Cond.arrayClass .byte).before a0 Z = true) (hl : (Term.length t).eval aa Z none [] Z = some (.int z)) (hz : z = Int32.ofNat N) (hN : N ≤ 4000)
    (h1 : (Cond.all t (.eq (.elem t (.index 0)) F)).value aa Z none Z [] = some true) (hF : ∀ j, j < N → F.eval aa Z none [j] Z = some (.int (f j))) : Dg Z a N f := by
  obtain ⟨a', cc, e1, e2, e3⟩ := Term.length_spec hl
  cases (ev []).symm.trans e1
  have e4 : cc.slots.size < 2147483648 := by
    by_cases q : cc.slots.size < 2147483648
    · exact q
    · exfalso; simp [Term.eval, ev, e2, q] at hl
  have es : cc.slots.size = N := by
    have e5 : Int32.ofNat N = cc.slots.size.toInt32 := by rw [← hz]; exact Value.int.inj e3
    have e6 := congrArg Int32.toNatClampNeg e5
    rw [ofNat_clamp (by omega)] at e6
    rw [e6]; exact (ofNat_clamp e4).symm
  obtain ⟨cell, k1, f1, f2, f3, f4, -⟩ := Exa.start (ev []) hx
  have hc0 : Z.heap[a]? = some cc ∧ ¬ cc.vm = .unknown ∧ cc.vm.isStatics = false ∧ ∃ k comp ty, Z.vm.classes[cc.cls]? = some k ∧ k.kind = .array comp ty := State.arrayAt?_spec e2
  obtain ⟨g1, g2, g3, k2, comp, ty, g4, g5⟩ := hc0
  cases f1.symm.trans g1
  cases f3.symm.trans g4
  have hty : ty = .byte := by
    have f2' : Z.vm.findClass ("[" ++ FieldType.byte.toString) = some cc.cls := f2
    simp [Cond.before, Cond.holds, Cond.value, f2', f3, g5] at wa
    exact wa
  subst hty
  refine ⟨cc, ⟨f1, ⟨(fun q z => by rw [z] at g3; cases g3), k1, f3, comp, g5⟩, g2⟩, es, fun j hj => ?_⟩
  have u := Cond.all_elim (ev []) e2 h1 j (by omega)
  have nn : ¬ Int32.ofNat j < 0 := ofNat_nonneg (by omega)
  have ej : (Int32.ofNat j).toNatClampNeg = j := ofNat_clamp (by omega)
  have ix : (Term.index 0).eval aa Z none [j] Z = some (.int (Int32.ofNat j)) := by have q := idx_at (args := aa) (s := Z) (first := Z) (o := none) nn; rw [ej] at q; exact q
  have v := eqv_i (hF j hj) u
  rw [elem_f (ev _) ix e2 nn, ej] at v
  exact v
abbrev bys (cs : List Int32) : List Value := (cs.map fun c => c.toInt8.toInt32).map Value.int
/-- x is a Latin-1 builder of the text cs; its array b holds vs -/
def Bd (Z : State) (h : Heap) (x b : Addr) (vs : List Value) (cs : List Int32) : Prop := Exa Z h x "java/lang/StringBuilder" ∧ Fld Z h x "java/lang/AbstractStringBuilder" "value" "[B" (.ref b) ∧ Fld Z h x "java/lang/AbstractStringBuilder" "coder" "B" (.int 0) ∧ Fld Z h x "java/lang/AbstractStringBuilder" "count" "I" (.int (Int32.ofNat cs.length)) ∧ Ar Z h b .byte vs ∧ Exa Z h b "[B" ∧ 16 ≤ vs.length ∧ vs.length ≤ 126 ∧ ∃ us, vs = bys cs ++ us
theorem Bd.ext {h' : Heap} {x b : Addr} {vs : List Value} {cs : List Int32} (F : Bd Z h x b vs cs) (E : Ext h h') : Bd Z h' x b vs cs := by obtain ⟨a1, a2, a3, a4, a5, a6, a7⟩ := F; exact ⟨a1.ext E, a2.ext E, a3.ext E, a4.ext E, a5.ext E, a6.ext E, a7⟩
theorem Bd.exa {x b : Addr} {vs : List Value} {cs : List Int32} (F : Bd Z h x b vs cs) : Exa Z h x "java/lang/StringBuilder" := F.1
theorem Bd.lt {x b : Addr} {vs : List Value} {cs : List Int32} (F : Bd Z h x b vs cs) : x < h.size := F.1.lt
theorem Bd.ltb {x b : Addr} {vs : List Value} {cs : List Int32} (F : Bd Z h x b vs cs) : b < h.size := F.2.2.2.2.2.1.lt
theorem Bd.keep {h' : Heap} {x b : Addr} {vs : List Value} {cs : List Int32} {ws : List Addr} (F : Bd Z h x b vs cs) (K : Keep h h' ws) (q1 : x ∉ ws) (q2 : b ∉ ws) : Bd Z h' x b vs cs := by obtain ⟨a1, a2, a3, a4, a5, a6, a7⟩ := F; exact ⟨a1.keep K, a2.keep K q1, a3.keep K q1, a4.keep K q1, a5.keep K q2, a6.keep K, a7⟩
theorem Sg.arr {x : Addr} {cs : List Int32} (F : Sg Z h x cs) : ∃ t, Fld Z h x "java/lang/String" "value" "[B" (.ref t) ∧ Fld Z h x "java/lang/String" "coder" "B" (.int 0) ∧ Ar Z h t .byte (bys cs) := by
  obtain ⟨a1, a2, a3, t, kb, a4, a5, a6⟩ := F
  exact ⟨t, a4, a5, by simp [bys]; omega, kb, .int 0, by simpa [bys] using a6⟩
theorem sg_of' {x t : Addr} {cs : List Int32} (hn : cs.length ≤ 4000) (hl : ∀ c ∈ cs, Lt8 c) (X : Exa Z h x "java/lang/String") (V : Fld Z h x "java/lang/String" "value" "[B" (.ref t)) (C1 : Fld Z h x "java/lang/String" "coder" "B" (.int 0)) (A : Ar Z h t .byte (bys cs)) : Sg Z h x cs := by
  obtain ⟨kC, A⟩ := A.arv (.int 0)
  rw [List.length_map, List.length_map] at A
  exact ⟨hn, hl, X, t, kC, V, C1, A⟩
theorem g_super (w : Wk p l e R s m args below meth c Z a0 EL pr y bs ml rt T vm0 h k n) {y' x0 y0 : MethodName} {bs' : ByteArray} {ml' : Nat} {rt' : Option FieldType} {C' C0 : String} {rm : Room} {Q : Option Value → Heap → Prop} {i W : Nat} {a : Addr} {argsL : List Value} {ps : List FieldType} {rr : Option FieldType} {stk : List Value} {sf : List Addr} (hM : Con l Z EL pr y' bs' ml' rt' [] rm (.ref a :: argsL).toArray sf h Q) (hsf : ∀ x ∈ sf, x < h.size ∧ Safe Z EL vm0 h x) (hd : decode bs pc = .ok (.invokespecial i, 3)) (hq : pc + 3 = q) (hsz : Ls.size = ml) (E : Exa Z h a C') (hni : y'.name ≠ "<init>")
    (w1 : (Cond.methodLink y.cls i y').before a0 Z = true) (wu : (Cond.superclass y.cls y'.cls).before a0 Z = true) (ws : (Cond.selects C0 x0 y0).before a0 Z = true) (he : y0.cls = y'.cls) (w2 : (Cond.instanceMethod y').before a0 Z = true) (w3 : (Cond.initialized y'.cls).before a0 Z = true) (w4 : (Cond.code y' bs' ml' rt').before a0 Z = true) (hy : y'.cls ≠ "java/lang/invoke/MethodHandle" ∧ y'.cls ≠ "java/lang/invoke/VarHandle") (hpd : parseMethodDescriptor y'.desc = some ⟨ps, rr⟩) (hlen : argsL.length = ps.length) (hst : stk = argsL.reverse ++ .ref a :: st)
    (hW : 2 * 0 + (st.map fun v => v.category).sum ≤ W) (hf : rm.frames + 1 ≤ R.frames) (hl : W + (ml' + 11) + rm.locals ≤ R.locals) (hc : k + rm.cells ≤ R.cells) (hs : n + rm.slots ≤ R.slots)
    (K : ∀ T' h' v, Wk p l e R s m args below meth c Z a0 EL pr y bs ml rt T' T'.vm h' (k + rm.cells) (n + rm.slots) → h.size ≤ h'.size → CHr Z EL vm0 h T'.vm h' → Q v h' → Go p e below Φ (T'.setTop (mkF m q Ls (v.toList ++ st)))) : Go p e below Φ (T.setTop (mkF m pc Ls stk)) := by
  subst hq hst; have w' := w; obtain ⟨⟨hx, hb1, hml, hrt, hlk, hnm, hEL⟩, k0, locs, X, hh, hZ, hown, hS, hk0, N, C, O, hpr⟩ := w
  obtain ⟨v, vm₁, ⟨T', L', k', n'⟩, hW1, X', hS', hg, ⟨L, ⟨hQ, hO', hF⟩, hl', hk', hn', hC', hp'⟩, stp⟩ := superBackS X hx hZ hown w1 (sameOwn w2 ws he hy) w2 wu hni (hM.back hsf hZ w4 w3 hf hl hEL C.1) hh (Ins.self E) (g := mkF m pc Ls (argsL.reverse ++ .ref a :: st)) rfl (hsz.trans hml.symm) w4 (lenOf hpd hlen) rfl hW (hb hb1 hd) (fun _ _ => ⟨rfl, hh, hc, hs⟩)
  dsimp only [Pt.U, Pt.locs, Pt.cells, Pt.slots] at X' hS' hg hQ hO' hl' hk' hn' hC' hp' stp
  subst hl' hk' hn'
  exact (K T' T'.heap v (w'.after X' hS' hg (N.app hF) hC' hO' fun q => State.WarmedH.trans (t := T.setVm vm₁) hW1 (hp' q)) hC'.2.1 hC' hQ).pre' stp
theorem g_superP (w : Wk p l e R s m args below meth c Z a0 EL pr y bs ml rt T vm0 h k n) {y' x0 y0 : MethodName} {bs' : ByteArray} {ml' : Nat} {rt' : Option FieldType} {C' C0 : String} {rm : Room} {V : Option Value → Prop} {i W : Nat} {a : Addr} {argsL : List Value} {ps : List FieldType} {rr : Option FieldType} {stk : List Value} {sf : List Addr} (hM : Con l Z EL pr y' bs' ml' rt' [] rm (.ref a :: argsL).toArray sf h (fun v h' => V v ∧ h' = h)) (hsf : ∀ x ∈ sf, x < h.size ∧ Safe Z EL vm0 h x) (hd : decode bs pc = .ok (.invokespecial i, 3)) (hq : pc + 3 = q) (hsz : Ls.size = ml) (E : Exa Z h a C') (hni : y'.name ≠ "<init>")
    (w1 : (Cond.methodLink y.cls i y').before a0 Z = true) (wu : (Cond.superclass y.cls y'.cls).before a0 Z = true) (ws : (Cond.selects C0 x0 y0).before a0 Z = true) (he : y0.cls = y'.cls) (w2 : (Cond.instanceMethod y').before a0 Z = true) (w3 : (Cond.initialized y'.cls).before a0 Z = true) (w4 : (Cond.code y' bs' ml' rt').before a0 Z = true) (hy : y'.cls ≠ "java/lang/invoke/MethodHandle" ∧ y'.cls ≠ "java/lang/invoke/VarHandle") (hpd : parseMethodDescriptor y'.desc = some ⟨ps, rr⟩) (hlen : argsL.length = ps.length) (hst : stk = argsL.reverse ++ .ref a :: st)
    (hW : 2 * 0 + (st.map fun v => v.category).sum ≤ W) (hf : rm.frames + 1 ≤ R.frames) (hl : W + (ml' + 11) + rm.locals ≤ R.locals) (hc : k + rm.cells ≤ R.cells) (hs : n + rm.slots ≤ R.slots)
    (K : ∀ T' v, Wk p l e R s m args below meth c Z a0 EL pr y bs ml rt T' T'.vm h (k + rm.cells) (n + rm.slots) → CHr Z EL vm0 h T'.vm h → V v → Go p e below Φ (T'.setTop (mkF m q Ls (v.toList ++ st)))) : Go p e below Φ (T.setTop (mkF m pc Ls stk)) :=
  g_super w hM hsf hd hq hsz E hni w1 wu ws he w2 w3 w4 hy hpd hlen hst hW hf hl hc hs fun T' h' v w' _ C' q' => by
    obtain ⟨hV, rfl⟩ := q'; exact K T' v w' C' hV
theorem g_privP (w : Wk p l e R s m args below meth c Z a0 EL pr y bs ml rt T vm0 h k n) {y' : MethodName} {bs' : ByteArray} {ml' : Nat} {rt' : Option FieldType} {rm : Room} {V : Option Value → Prop} {i W : Nat} {a : Addr} {C' : String} {argsL : List Value} {ps : List FieldType} {rr : Option FieldType} {stk : List Value} {sf : List Addr} (hM : Con l Z EL pr y' bs' ml' rt' [] rm (.ref a :: argsL).toArray sf h (fun v h' => V v ∧ h' = h)) (hsf : ∀ x ∈ sf, x < h.size ∧ Safe Z EL vm0 h x) (E : Exa Z h a C') (hd : decode bs pc = .ok (.invokevirtual i, 3)) (hq : pc + 3 = q) (hsz : Ls.size = ml)
    (w1 : (Cond.methodLink y.cls i y').before a0 Z = true) (wd : (Cond.privateMethod y').before a0 Z = true) (ws : (Cond.selects y'.cls y' y').before a0 Z = true) (w2 : (Cond.instanceMethod y').before a0 Z = true) (w3 : (Cond.initialized y'.cls).before a0 Z = true) (w4 : (Cond.code y' bs' ml' rt').before a0 Z = true) (hy : y'.cls ≠ "java/lang/invoke/MethodHandle" ∧ y'.cls ≠ "java/lang/invoke/VarHandle") (hpd : parseMethodDescriptor y'.desc = some ⟨ps, rr⟩) (hlen : argsL.length = ps.length) (hst : stk = argsL.reverse ++ .ref a :: st)
    (hW : 2 * 0 + (st.map fun v => v.category).sum ≤ W) (hf : rm.frames + 1 ≤ R.frames) (hl : W + (ml' + 11) + rm.locals ≤ R.locals) (hc : k + rm.cells ≤ R.cells) (hs : n + rm.slots ≤ R.slots)
    (K : ∀ T' v, Wk p l e R s m args below meth c Z a0 EL pr y bs ml rt T' T'.vm h (k + rm.cells) (n + rm.slots) → CHr Z EL vm0 h T'.vm h → V v → Go p e below Φ (T'.setTop (mkF m q Ls (v.toList ++ st)))) : Go p e below Φ (T.setTop (mkF m pc Ls stk)) :=
  g_priv w hM hsf E hd hq hsz w1 wd ws w2 w3 w4 hy hpd hlen hst hW hf hl hc hs fun T' h' v w' _ C' q' => by
    obtain ⟨hV, rfl⟩ := q'; exact K T' v w' C' hV
end KB
end Jvm.Own
namespace Jvm.Own
open Jvm.RoadKit Jvm.Free Jvm.ClassFile
section PD
theorem ofInt_eq {a b : Int32} (h : a.toInt = b.toInt) : a = b := Int32.toInt_inj.mp h
theorem oN_int {n : Nat} (h : n < 2147483648) : (Int32.ofNat n).toInt = n := Int32.toInt_ofNat_of_lt (by omega)
theorem oN_sub {a b : Nat} (h : b ≤ a) : Int32.ofNat a - Int32.ofNat b = Int32.ofNat (a - b) := by
  have e : a = (a - b) + b := by omega
  conv => lhs; rw [e, Int32.ofNat_add, Int32.add_sub_cancel]
theorem oN_add (a b : Nat) : Int32.ofNat a + Int32.ofNat b = Int32.ofNat (a + b) := (Int32.ofNat_add a b).symm
theorem oN_lt {a b : Nat} (ha : a < 2147483648) (hb : b < 2147483648) : Int32.ofNat a < Int32.ofNat b ↔ a < b := by
  rw [Int32.lt_iff_toInt_lt, oN_int ha, oN_int hb]; omega
theorem oN_inj {a b : Nat} (ha : a < 2147483648) (hb : b < 2147483648) : Int32.ofNat a = Int32.ofNat b ↔ a = b := by
  constructor
  · intro h; have := congrArg Int32.toInt h; rw [oN_int ha, oN_int hb] at this; omega
  · intro h; rw [h]
theorem z31 : ((0 : Int32) &&& 31) = 0 := by decide
theorem shl0 (x : Int32) : x <<< ((0 : Int32) &&& 31) = x := by
  apply ofInt_eq; have := Jvm.RoadKit.c_ishl x 0 0 (by decide)
  have h1 := Jvm.RoadKit.rng32 (x <<< ((0 : Int32) &&& 31)); have h2 := Jvm.RoadKit.rng32 x
  simp only [Nat.pow_zero, Int.ofNat_one, Int.mul_one] at this
  omega
theorem shr0 (x : Int32) : x >>> ((0 : Int32) &&& 31) = x := by
  apply ofInt_eq; have := Jvm.RoadKit.c_ishr x 0 0 (by decide)
  rw [this]; simp
/-- the capacity that newCapacity gives -/
def nsz (L m : Nat) : Nat := if m < 2 * L + 2 then 2 * L + 2 else m
theorem nsz_ge {L m : Nat} : m ≤ nsz L m := by unfold nsz; split <;> omega
theorem nsz_gt {L m : Nat} : L < nsz L m := by unfold nsz; split <;> omega
theorem nsz_le {L m : Nat} (h : L < m) (hm : m ≤ 63) : nsz L m ≤ 126 := by unfold nsz; split <;> omega
theorem nl_eq {L m : Nat} (h : L < m) (hm : m ≤ 63) : Int32.ofNat L + (if Int32.ofNat (m - L) < Int32.ofNat (L + 2) then Int32.ofNat (L + 2) else Int32.ofNat (m - L)) = Int32.ofNat (nsz L m) := by
  unfold nsz
  by_cases q : m - L < L + 2
  · rw [if_pos ((oN_lt (by omega) (by omega)).mpr q), if_pos (by omega), oN_add]; congr 1; omega
  · rw [if_neg (fun z => q ((oN_lt (by omega) (by omega)).mp z)), if_neg (by omega), oN_add]; congr 1; omega
theorem sub_pos {L m : Nat} (h : L < m) (hm : m ≤ 4000) : 0 < Int32.ofNat m - Int32.ofNat L := by
  rw [oN_sub (by omega), show (0 : Int32) = Int32.ofNat 0 from rfl, oN_lt (by omega) (by omega)]; omega
theorem sub_npos {L m : Nat} (h : m ≤ L) (hm : L ≤ 4000) : ¬ 0 < Int32.ofNat m - Int32.ofNat L := by
  have e1 := Jvm.RoadKit.c_isub (Int32.ofNat m) (Int32.ofNat L)
  rw [oN_int (by omega), oN_int (by omega)] at e1
  have e2 := Jvm.RoadKit.rng32 (Int32.ofNat m - Int32.ofNat L)
  rw [Int32.lt_iff_toInt_lt, show (0 : Int32).toInt = 0 from rfl]; omega
theorem lt0 {n : Nat} (h : 0 < n) (hn : n ≤ 4000) : (0 : Int32) < Int32.ofNat n := by
  rw [show (0 : Int32) = Int32.ofNat 0 from rfl, oN_lt (by omega) (by omega)]; exact h
theorem n_big {n : Nat} (hn : n ≤ 4000) : ¬ (2147483639 : Int32) < Int32.ofNat n := by
  rw [show (2147483639 : Int32) = Int32.ofNat 2147483639 from rfl, oN_lt (by omega) (by omega)]; omega
theorem n_ne_max {n : Nat} (hn : n ≤ 4000) : ¬ Int32.ofNat n = (2147483647 : Int32) := by
  rw [show (2147483647 : Int32) = Int32.ofNat 2147483647 from rfl, oN_inj (by omega) (by omega)]; omega
/-- lists under a builder -/
theorem bys_len (cs : List Int32) : (bys cs).length = cs.length := by simp [bys]
theorem bys_app (cs ds : List Int32) : bys (cs ++ ds) = bys cs ++ bys ds := by simp [bys]
theorem pre_put {vs us : List Value} {cs : List Int32} (hv : vs = bys cs ++ us) (xs : List Int32) (rest : List Value) : ∃ us', vs.take cs.length ++ bys xs ++ rest = bys (cs ++ xs) ++ us' :=
  ⟨rest, by rw [hv, List.take_left' (bys_len cs), bys_app]⟩
theorem pre_take {vs us : List Value} {cs : List Int32} (hv : vs = bys cs ++ us) : vs.take cs.length = bys cs := by rw [hv, List.take_left' (bys_len cs)]
theorem put_len {vs xs : List Value} {k n : Nat} (hn : xs.length = n) (h : k + n ≤ vs.length) : (vs.take k ++ xs ++ vs.drop (k + n)).length = vs.length := by
  simp only [List.length_append, List.length_take, List.length_drop, hn]; omega
theorem cp_all {vs : List Value} {n : Nat} (h : vs.length < n) : (List.replicate n (Value.int 0)).take 0 ++ (vs.drop 0).take vs.length ++ (List.replicate n (Value.int 0)).drop (0 + vs.length) = vs ++ List.replicate (n - vs.length) (.int 0) := by simp
theorem cp_pre {vs : List Value} {n : Nat} (h : n ≤ vs.length) : (List.replicate n (Value.int 0)).take 0 ++ (vs.drop 0).take n ++ (List.replicate n (Value.int 0)).drop (0 + n) = vs.take n := by simp
theorem cp_in {vs xs : List Value} {k n : Nat} (hn : xs.length = n) : vs.take k ++ (xs.drop 0).take n ++ vs.drop (k + n) = vs.take k ++ xs ++ vs.drop (k + n) := by subst hn; simp
/-- the array with xs written from k on -/
def put (vs : List Value) (k : Nat) (xs : List Value) : List Value := vs.take k ++ xs ++ vs.drop (k + xs.length)
theorem put_nil (vs : List Value) (k : Nat) : put vs k [] = vs := by simp [put]
theorem put_length {vs : List Value} {k : Nat} {xs : List Value} (h : k + xs.length ≤ vs.length) : (put vs k xs).length = vs.length := put_len rfl h
theorem put_set {vs : List Value} {k : Nat} {xs : List Value} {v : Value} (h : k + 1 + xs.length ≤ vs.length) : (put vs (k + 1) xs).set k v = put vs k (v :: xs) := by
  unfold put
  have e : vs.take (k + 1) = vs.take k ++ [vs[k]'(by omega)] := by rw [List.take_add_one]; simp [show k < vs.length from by omega]
  have hl : (vs.take k).length = k := by rw [List.length_take]; omega
  rw [e]
  simp only [List.append_assoc, List.length_cons, List.singleton_append]
  rw [List.set_append_right _ _ (by omega), hl, Nat.sub_self, show k + 1 + xs.length = k + (xs.length + 1) from by omega]
  rfl
/-- decimal digits -/
def mag (i : Int32) : Nat := i.toInt.natAbs
def dl (n : Nat) : Nat := if n < 10 then 1 else if n < 100 then 2 else if n < 1000 then 3 else if n < 10000 then 4 else if n < 100000 then 5 else if n < 1000000 then 6 else if n < 10000000 then 7 else if n < 100000000 then 8 else if n < 1000000000 then 9 else 10
def dg (n j : Nat) : Int32 := Int32.ofNat (48 + n / 10 ^ j % 10)
def dgs (n : Nat) : Nat → List Int32
  | 0 => []
  | j + 1 => dg n j :: dgs n j
def dec (i : Int32) : List Int32 := if i < 0 then 45 :: dgs (mag i) (dl (mag i)) else dgs (mag i) (dl (mag i))
theorem dgs_len (n : Nat) : ∀ j, (dgs n j).length = j
  | 0 => rfl
  | j + 1 => congrArg (· + 1) (dgs_len n j)
theorem dgs_at (n : Nat) : ∀ j t, t < j → (dgs n j).getD (j - 1 - t) 0 = dg n t
  | j + 1, t, h => by
    by_cases q : t = j
    · subst q; simp [dgs]
    · have := dgs_at n j t (by omega)
      rw [show j + 1 - 1 - t = (j - 1 - t) + 1 from by omega]
      simpa [dgs] using this
theorem mag_le (i : Int32) : mag i ≤ 2147483648 := by have := Jvm.RoadKit.rng32 i; unfold mag; omega
theorem dl_range (n : Nat) : 1 ≤ dl n ∧ dl n ≤ 10 := by unfold dl; repeat' split
                                                        all_goals omega
theorem dec_len (i : Int32) : (dec i).length = (if i < 0 then 1 else 0) + dl (mag i) := by
  unfold dec; split
  · rw [List.length_cons, dgs_len, Nat.add_comm]
  · rw [dgs_len, Nat.zero_add]
theorem dec_le (i : Int32) : 1 ≤ (dec i).length ∧ (dec i).length ≤ 11 := by
  have := dl_range (mag i); rw [dec_len]; split <;> omega
set_option maxHeartbeats 8000000 in
theorem dl_gt {n j : Nat} (hn : n ≤ 2147483648) (h : 10 ^ j ≤ n) : j < dl n := by
  have hj : j < 10 := by
    rcases Nat.lt_or_ge j 10 with q | q
    · exact q
    · have := Nat.pow_le_pow_right (n := 10) (by decide) q; omega
  have : j = 0 ∨ j = 1 ∨ j = 2 ∨ j = 3 ∨ j = 4 ∨ j = 5 ∨ j = 6 ∨ j = 7 ∨ j = 8 ∨ j = 9 := by omega
  rcases this with rfl | rfl | rfl | rfl | rfl | rfl | rfl | rfl | rfl | rfl <;> simp at h <;> unfold dl <;> (repeat' split) <;> omega
set_option maxHeartbeats 8000000 in
theorem dl_le {n j : Nat} (hj : j < 10) (h : n < 10 ^ (j + 1)) : dl n ≤ j + 1 := by
  have : j = 0 ∨ j = 1 ∨ j = 2 ∨ j = 3 ∨ j = 4 ∨ j = 5 ∨ j = 6 ∨ j = 7 ∨ j = 8 ∨ j = 9 := by omega
  rcases this with rfl | rfl | rfl | rfl | rfl | rfl | rfl | rfl | rfl | rfl <;> simp at h <;> unfold dl <;> (repeat' split) <;> omega
theorem dl_eq {n j : Nat} (hn : n ≤ 2147483648) (h1 : n / 10 ^ j < 10) (h2 : j = 0 ∨ 10 ^ j ≤ n) : dl n = j + 1 := by
  have hj : j < dl n := by
    rcases h2 with rfl | h2
    · exact (dl_range n).1
    · exact dl_gt hn h2
  have h3 : n < 10 ^ (j + 1) := by
    have := Nat.div_lt_iff_lt_mul (x := n) (y := 10) (k := 10 ^ j) (Nat.pow_pos (by decide))
    rw [Nat.pow_succ, Nat.mul_comm]; exact this.mp h1
  have := dl_le (n := n) (j := j) (by have := (dl_range n).2; omega) h3
  omega
theorem dg_lat (n j : Nat) : Lt8 (dg n j) := by
  have h : 48 + n / 10 ^ j % 10 < 58 := by have := Nat.mod_lt (n / 10 ^ j) (show 10 > 0 by decide); omega
  unfold dg; exact Lt8.of (by rw [oN_int (by omega)]; omega) (by rw [oN_int (by omega)]; omega)
theorem dgs_lat (n : Nat) : ∀ j, ∀ c ∈ dgs n j, Lt8 c
  | 0 => fun _ q => nomatch q
  | j + 1 => csS (dg_lat n j) (dgs_lat n j)
theorem dec_lat (i : Int32) : ∀ c ∈ dec i, Lt8 c := by
  unfold dec; split
  · exact csS (by constructor <;> decide) (dgs_lat _ _)
  · exact dgs_lat _ _
theorem by8 : ∀ d : Fin 128, (Int32.ofNat d.1).toInt8.toInt32 = Int32.ofNat d.1 := by decide +kernel
theorem by8' {d : Nat} (h : d < 128) : (Int32.ofNat d).toInt8.toInt32 = Int32.ofNat d := by8 ⟨d, h⟩
theorem dg_by (n j : Nat) : (dg n j).toInt8.toInt32 = dg n j := by
  unfold dg; exact by8' (by have := Nat.mod_lt (n / 10 ^ j) (show 10 > 0 by decide); omega)
theorem bys_dgs (n j : Nat) : bys (dgs n (j + 1)) = Value.int (dg n j) :: bys (dgs n j) := by simp [bys, dgs, dg_by]
/-- the numbers of getChars: x = -m -/
theorem neg_int {m : Nat} (h : m ≤ 2147483648) : (-(Int32.ofNat m)).toInt = -(m : Int) := by
  have e := Jvm.RoadKit.c_ineg (Int32.ofNat m)
  have r := Jvm.RoadKit.rng32 (-(Int32.ofNat m))
  by_cases q : m < 2147483648
  · rw [oN_int q] at e; omega
  · have : m = 2147483648 := by omega
    subst this; decide
theorem mag_neg {i : Int32} (h : i < 0) : i = -(Int32.ofNat (mag i)) := by
  apply ofInt_eq; rw [neg_int (mag_le i)]
  have h' : i.toInt < 0 := by simpa [Int32.lt_iff_toInt_lt] using h
  unfold mag; omega
theorem mag_pos {i : Int32} (h : ¬ i < 0) : -i = -(Int32.ofNat (mag i)) := by
  have h' : ¬ i.toInt < 0 := by simpa [Int32.lt_iff_toInt_lt] using h
  have r := Jvm.RoadKit.rng32 i
  congr 1; apply ofInt_eq; unfold mag; rw [oN_int (by omega)]; omega
theorem gt_neg {m K : Nat} (hm : m ≤ 2147483648) (hK : K ≤ 2147483648) : -(Int32.ofNat K) < -(Int32.ofNat m) ↔ m < K := by
  rw [Int32.lt_iff_toInt_lt, neg_int hm, neg_int hK]; omega
theorem gc_div {m : Nat} (hm : m ≤ 2147483648) : -(Int32.ofNat m) / 100 = -(Int32.ofNat (m / 100)) := by
  apply ofInt_eq; rw [neg_int (by omega)]
  have := Jvm.RoadKit.c_idiv (-(Int32.ofNat m)) 100 100 rfl (by decide)
  rw [neg_int hm] at this
  rcases Nat.eq_zero_or_pos m with q | q
  · subst q; decide
  · have h2 := this.2 (by omega); omega
theorem gc_rem {m : Nat} (hm : m ≤ 2147483648) : (-(Int32.ofNat (m / 100))) * 100 - (-(Int32.ofNat m)) = Int32.ofNat (m % 100) := by
  apply ofInt_eq
  have e1 := Jvm.RoadKit.c_imul (-(Int32.ofNat (m / 100))) 100
  have e2 := Jvm.RoadKit.c_isub ((-(Int32.ofNat (m / 100))) * 100) (-(Int32.ofNat m))
  have r1 := Jvm.RoadKit.rng32 ((-(Int32.ofNat (m / 100))) * 100)
  have r2 := Jvm.RoadKit.rng32 ((-(Int32.ofNat (m / 100))) * 100 - (-(Int32.ofNat m)))
  rw [neg_int (by omega), show (100 : Int32).toInt = 100 from rfl] at e1
  rw [neg_int hm] at e2
  rw [oN_int (by omega)]
  omega
theorem div_step {n j : Nat} : n / 10 ^ j / 100 = n / 10 ^ (j + 2) := by rw [Nat.div_div_eq_div_mul, Nat.pow_add]
theorem dg_lo {n j : Nat} : Int32.ofNat (48 + n / 10 ^ j % 100 % 10) = dg n j := by unfold dg; congr 2; omega
theorem dg_hi {n j : Nat} : Int32.ofNat (48 + n / 10 ^ j % 100 / 10) = dg n (j + 1) := by
  unfold dg; congr 2
  rw [Nat.pow_succ, ← Nat.div_div_eq_div_mul]; omega
theorem pow_ge {n j K d : Nat} (hK : K = 10 ^ d) (h : K ≤ n / 10 ^ j) : 10 ^ (j + d) ≤ n := by
  subst hK; rw [Nat.pow_add, Nat.mul_comm]; exact (Nat.le_div_iff_mul_le (Nat.pow_pos (by decide))).mp h
end PD
end Jvm.Own
namespace Jvm.Own
open Jvm.RoadKit Jvm.Free Jvm.ClassFile
section PD2
theorem oN_a1 (a : Nat) : Int32.ofNat a + 1 = Int32.ofNat (a + 1) := oN_add a 1
theorem oN_a2 (a : Nat) : Int32.ofNat a + 2 = Int32.ofNat (a + 2) := oN_add a 2
theorem sub0 (x : Int32) : x - 0 = x := by apply ofInt_eq; have := Jvm.RoadKit.c_isub x 0; have h1 := Jvm.RoadKit.rng32 (x - 0); have h2 := Jvm.RoadKit.rng32 x; rw [show (0 : Int32).toInt = 0 from rfl] at this; omega
theorem mn_l {a b : Nat} (h : a ≤ b) (hb : b ≤ 4000) : (if Int32.ofNat b < Int32.ofNat a then Int32.ofNat b else Int32.ofNat a) = Int32.ofNat a := if_neg fun q => absurd ((oN_lt (by omega) (by omega)).mp q) (by omega)
theorem mn_r {a b : Nat} (h : b ≤ a) (ha : a ≤ 4000) : (if Int32.ofNat b < Int32.ofNat a then Int32.ofNat b else Int32.ofNat a) = Int32.ofNat b := by
  by_cases q : b = a
  · subst q; rw [ite_self]
  · exact if_pos ((oN_lt (by omega) (by omega)).mpr (by omega))
theorem ecl {vs : List Value} {m : Nat} (h : vs.length < m) (hm : m ≤ 63) (v : Value) : m ≤ (vs ++ List.replicate (nsz vs.length m - vs.length) v).length ∧ (vs ++ List.replicate (nsz vs.length m - vs.length) v).length ≤ 126 := by
  have h1 := @nsz_ge vs.length m; have h2 := @nsz_gt vs.length m; have h3 := nsz_le h hm
  rw [List.length_append, List.length_replicate]; omega
theorem nar_dg (n j : Nat) : nar .byte (dg n j) = dg n j := by
  have := dg_by n j; simpa [nar] using this
theorem dg_hi' {n j : Nat} (h : n / 10 ^ j < 100) : Int32.ofNat (48 + n / 10 ^ j / 10) = dg n (j + 1) := by
  unfold dg; congr 2; rw [Nat.pow_succ, ← Nat.div_div_eq_div_mul]; generalize n / 10 ^ j = m at *; omega
theorem div10 {n j : Nat} (h : n / 10 ^ j < 100) : n / 10 ^ (j + 1) < 10 := by rw [Nat.pow_succ, ← Nat.div_div_eq_div_mul]; generalize n / 10 ^ j = m at *; omega
theorem hr_next {n j r : Nat} (h : n / 10 ^ j < 100 ^ (r + 1 + 1)) : n / 10 ^ (j + 2) < 100 ^ (r + 1) := by
  rw [← div_step]; exact (Nat.div_lt_iff_lt_mul (by decide)).mpr (by rw [← Nat.pow_succ]; exact h)
theorem hr_start (i : Int32) : mag i / 10 ^ 0 < 100 ^ (5 + 1) := by have := mag_le i; simp; omega
theorem put_pre {vs us : List Value} {cs xs : List Int32} (hv : vs = bys cs ++ us) : ∃ us', put vs cs.length (bys xs) = bys (cs ++ xs) ++ us' := pre_put hv xs _
end PD2
end Jvm.Own
namespace Jvm.Own
open Jvm.RoadKit Jvm.Free Jvm.ClassFile
section PD3
theorem ss_n {i : Int32} (h : i < 0) {K : Nat} (hK : K ≤ 2147483648) : -(Int32.ofNat K) < i ↔ mag i < K := by
  conv => lhs; rhs; rw [mag_neg h]
  exact gt_neg (mag_le i) hK
theorem ss_p {i : Int32} (h : ¬ i < 0) {K : Nat} (hK : K ≤ 2147483648) : -(Int32.ofNat K) < -i ↔ mag i < K := by
  rw [mag_pos h]; exact gt_neg (mag_le i) hK
end PD3
end Jvm.Own
/- laws to paste: Road.backV, Road.lenW, Road.chN, Road.codOf (cut by pick.py; bodies as the Statement names them) -/
namespace Jvm.Pilot.@@N@@
namespace StrChars
open Jvm Sem ClassFile Op Lib Jvm.Stand Jvm.Free.XT Jvm.Free.ALB Jvm.Free.JM Jvm.Free
open Jvm.Lib.Cold (StaticIs)
/-- a char array whose places are chars -/
def Ch (a : Addr) (A : Cell) (U : State) : Prop := Arr .char a A U ∧ Typed .char A
theorem Ch.mv {a : Addr} {A : Cell} {U U' : State} (h : Ch a A U) (hal : U.vm.Alike U'.vm) (hh : U'.heap = U.heap) : Ch a A U' := ⟨h.1.mv hal hh, h.2⟩
theorem Ch.keep {a : Addr} {A : Cell} {U U' : State} (h : Ch a A U) (hal : U.vm.Alike U'.vm) (hk : U'.heap[a]? = some A) : Ch a A U' := ⟨h.1.keep hal hk, h.2⟩
/-- what place i of a char[]'s cell holds -/
def cv (A : Cell) (i : Nat) : Int32 := match A.slots[i]? with | some (.int x) => x | _ => 0
theorem Ch.get {a : Addr} {A : Cell} {U : State} (h : Ch a A U) {i : Nat} (hi : i < A.slots.size) : A.slots[i]? = some (.int (cv A i)) := by
  have e := Array.getElem?_eq_getElem hi
  have f := h.2 i _ e
  unfold cv; rw [e]
  generalize A.slots[i] = v at f
  cases v <;> simp [fits] at f ⊢
/-- the byte that i2b leaves of a char -/
def lo8 (x : Int32) : Int32 := x.toInt8.toInt32
theorem fits_lo8 (y : Int32) : fits .byte (.int (lo8 y)) = true := by
  have h1 := y.toInt8.le_toInt
  have h2 := y.toInt8.toInt_lt
  simp only [lo8, fits, Bool.and_eq_true, decide_eq_true_eq, Int32.le_iff_toInt_le, Int8.toInt_toInt32, show (-128 : Int32).toInt = -128 from by decide, show (127 : Int32).toInt = 127 from by decide]
  omega
/-- A' is A but that each place j of lo .. hi - 1 holds f j -/
def Laid (A A' : Cell) (lo hi : Nat) (f : Nat → Value) : Prop := A'.cls = A.cls ∧ A'.vm = A.vm ∧ A'.slots.size = A.slots.size ∧ ∀ i, A'.slots[i]? = if lo ≤ i ∧ i < hi then some (f i) else A.slots[i]?
theorem Laid.zero (A : Cell) (lo : Nat) (f : Nat → Value) : Laid A A lo (lo + 0) f := ⟨rfl, rfl, rfl, fun i => by rw [if_neg (by omega)]⟩
theorem Laid.step {A Ak : Cell} {lo k : Nat} {f : Nat → Value} {v : Value} (h : Laid A Ak lo k f) (hlo : lo ≤ k) (hk : k < Ak.slots.size) (hv : v = f k) : Laid A (Ak.setSlot k v) lo (k + 1) f := by
  refine ⟨h.1, h.2.1, by simpa [Cell.setSlot] using h.2.2.1, fun i => ?_⟩
  by_cases e : k = i
  · subst e; rw [Cell.slots_setSlot_self v hk, if_pos (by omega), hv]
  · rw [Cell.slots_setSlot_ne v e, h.2.2.2 i]
    by_cases q : lo ≤ i ∧ i < k
    · rw [if_pos q, if_pos (by omega)]
    · rw [if_neg q, if_neg (by omega)]
def U16 : String := "java/lang/StringUTF16"
namespace Cmp5
def yN : MethodName := ⟨"java/lang/StringUTF16", "compress", "([CI[BII)I"⟩
abbrev yB : ByteArray := jdk_52_method_21_code
theorem d0 : decode yB 0 = .ok (.iconst 0, 1) := by decide +kernel
theorem d1 : decode yB 1 = .ok (.istore 5, 2) := by decide +kernel
theorem d3 : decode yB 3 = .ok (.iload 5, 2) := by decide +kernel
theorem d5 : decode yB 5 = .ok (.iload 4, 2) := by decide +kernel
theorem d7 : decode yB 7 = .ok (.if_icmp (.ge) 37, 3) := by decide +kernel
theorem d10 : decode yB 10 = .ok (.aload_n 0, 1) := by decide +kernel
theorem d11 : decode yB 11 = .ok (.iload_n 1, 1) := by decide +kernel
theorem d12 : decode yB 12 = .ok (.caload, 1) := by decide +kernel
theorem d13 : decode yB 13 = .ok (.istore 6, 2) := by decide +kernel
theorem d15 : decode yB 15 = .ok (.iload 6, 2) := by decide +kernel
theorem d17 : decode yB 17 = .ok (.sipush 255, 3) := by decide +kernel
theorem d20 : decode yB 20 = .ok (.if_icmp (.le) 6, 3) := by decide +kernel
theorem d26 : decode yB 26 = .ok (.aload_n 2, 1) := by decide +kernel
theorem d27 : decode yB 27 = .ok (.iload_n 3, 1) := by decide +kernel
theorem d28 : decode yB 28 = .ok (.iload 6, 2) := by decide +kernel
theorem d30 : decode yB 30 = .ok (.i2b, 1) := by decide +kernel
theorem d31 : decode yB 31 = .ok (.bastore, 1) := by decide +kernel
theorem d32 : decode yB 32 = .ok (.iinc 1 1, 3) := by decide +kernel
theorem d35 : decode yB 35 = .ok (.iinc 3 1, 3) := by decide +kernel
theorem d38 : decode yB 38 = .ok (.iinc 5 1, 3) := by decide +kernel
theorem d41 : decode yB 41 = .ok (.goto (-38), 3) := by decide +kernel
theorem d44 : decode yB 44 = .ok (.iload 4, 2) := by decide +kernel
theorem d46 : decode yB 46 = .ok (.ireturn, 1) := by decide +kernel
def site : List Cond := []
def tab : Cond := tabOf yN yB 7 (some .int) site
def P (b : Addr) (A : Cell) (d : Addr) (B : Cell) (o q len : Nat) (args : Array Value) (s : State) : Prop := args = #[.ref b, .int (Int32.ofNat o), .ref d, .int (Int32.ofNat q), .int (Int32.ofNat len)] ∧ Ch b A s ∧ Arr .byte d B s ∧ b ≠ d ∧ o + len ≤ A.slots.size ∧ q + len ≤ B.slots.size ∧ ∀ i, i < len → ¬ 255 < cv A (o + i)
def E (b : Addr) (A : Cell) (d : Addr) (B : Cell) (o q len : Nat) (r : Option Value) (s u : State) : Prop := r = some (.int (Int32.ofNat len)) ∧ ∃ B', Put d B' s u ∧ Laid B B' q (q + len) (fun j => Value.int (lo8 (cv A (o + (j - q)))))
/-- no char of the range above 255: len; the places written hold each char's low byte -/
theorem law (l : Launch) (b : Addr) (A : Cell) (d : Addr) (B : Cell) (o q len : Nat) : Law l yN 5 5 0 0 yB 7 (some .int) site (P b A d B o q len) (E b A d B o q len) (copyLocs d q len) 0 0 := by
  refine Law.of_walk (plainFor_of_name (by decide +kernel)) (by decide +kernel) (by decide +kernel) (by decide) (fun _ _ h => by rw [h.1]; rfl) (fun _ U U' hal hh h => ⟨h.1, h.2.1.mv hal hh, h.2.2.1.mv hal hh, h.2.2.2⟩) (fun r U U' V V' h1 hal h2 h => ⟨h.1, h.2.elim fun B' q => ⟨B', q.1.mv h1 h2, q.2⟩⟩) ?_
  intro p e s m args below meth c s₁ X0 hexec hbytes hml hret hlk hnm hown hh0 W hP
  obtain ⟨rfl, hA, hB, hne, l1, l2, hp⟩ := hP
  have c1 : Steps p.tables e below (s₁.setTop (entryFrame m #[.ref b, .int (Int32.ofNat o), .ref d, .int (Int32.ofNat q), .int (Int32.ofNat len)] 7)) (s₁.setTop (mkF m 0 #[.val (.ref b), .val (.int (Int32.ofNat o)), .val (.ref d), .val (.int (Int32.ofNat q)), .val (.int (Int32.ofNat len)), .unset, .unset] [])) := entry rfl
  have hA0 := hA.1.mv X0.warmed.alike hh0
  have hB0 := hB.mv X0.warmed.alike hh0
  have a31 := hA.1.2.2.2
  have c2 : Steps p.tables e below (s₁.setTop (entryFrame m #[.ref b, .int (Int32.ofNat o), .ref d, .int (Int32.ofNat q), .int (Int32.ofNat len)] 7)) (s₁.setTop (mkF m 3 #[.val (.ref b), .val (.int (Int32.ofNat o)), .val (.ref d), .val (.int (Int32.ofNat q)), .val (.int (Int32.ofNat len)), .val (.int 0), .unset] [])) := c1.trans (by
    refine iconstV X0.here hexec rfl 0 (hb hbytes d0) (by decide) ?_
    refine XS.istore X0.here hexec rfl (hb hbytes d1) rfl rfl ?_
    exact Steps.refl _)
  have loop : ∀ (r i : Nat), i + r = len → ∀ (z : Slot), (z = .unset ∨ ∃ w, z = .val w ∧ w.category = 1) → ∀ (Tl : State) (Bk : Cell), Stand p l e { frames := 0, locals := 0, cells := 0, slots := 0 } s m #[.ref b, .int (Int32.ofNat o), .ref d, .int (Int32.ofNat q), .int (Int32.ofNat len)] below meth c Tl ([] ++ copyLocs d q i) 0 0 → Put d Bk s₁ Tl → Laid B Bk q (q + i) (fun j => Value.int (lo8 (cv A (o + (j - q))))) →
      Steps p.tables e below (s₁.setTop (entryFrame m #[.ref b, .int (Int32.ofNat o), .ref d, .int (Int32.ofNat q), .int (Int32.ofNat len)] 7)) (Tl.setTop (mkF m 3 #[.val (.ref b), .val (.int (Int32.ofNat (o + i))), .val (.ref d), .val (.int (Int32.ofNat (q + i))), .val (.int (Int32.ofNat len)), .val (.int (Int32.ofNat i)), z] [])) → ∃ (T' : State) (B' : Cell) (z' : Slot), Stand p l e { frames := 0, locals := 0, cells := 0, slots := 0 } s m #[.ref b, .int (Int32.ofNat o), .ref d, .int (Int32.ofNat q), .int (Int32.ofNat len)] below meth c T' ([] ++ copyLocs d q len) 0 0 ∧ Put d B' s₁ T' ∧ Laid B B' q (q + len) (fun j => Value.int (lo8 (cv A (o + (j - q))))) ∧
      Steps p.tables e below (s₁.setTop (entryFrame m #[.ref b, .int (Int32.ofNat o), .ref d, .int (Int32.ofNat q), .int (Int32.ofNat len)] 7)) (T'.setTop (mkF m 3 #[.val (.ref b), .val (.int (Int32.ofNat (o + len))), .val (.ref d), .val (.int (Int32.ofNat (q + len))), .val (.int (Int32.ofNat len)), .val (.int (Int32.ofNat len)), z'] [])) := by
    intro r
    induction r with
    | zero =>
      intro i hi z hz Tl Bk Xl pl fl cl
      have hil : i = len := by omega
      rw [hil] at Xl fl cl
      exact ⟨Tl, Bk, z, Xl, pl, fl, cl⟩
    | succ r ih =>
      intro i hi z hz Tl Bk Xl pl fl cl
      have all := X0.warmed.alike.symm.trans Xl.warmed.alike
      have hAl := hA0.keep all (pl.other hne hA0.1)
      have hBk := hB0.like all pl.1 fl.1 fl.2.1 fl.2.2.1
      have hlt : q + i < Bk.slots.size := by rw [fl.2.2.1]; omega
      have c3 : Steps p.tables e below (s₁.setTop (entryFrame m #[.ref b, .int (Int32.ofNat o), .ref d, .int (Int32.ofNat q), .int (Int32.ofNat len)] 7)) (Tl.setTop (mkF m 12 #[.val (.ref b), .val (.int (Int32.ofNat (o + i))), .val (.ref d), .val (.int (Int32.ofNat (q + i))), .val (.int (Int32.ofNat len)), .val (.int (Int32.ofNat i)), z] [.int (Int32.ofNat (o + i)), .ref b])) := cl.trans (by
        refine XS.iload Xl.here hexec rfl (hb hbytes d3) rfl ?_
        refine XS.iload Xl.here hexec rfl (hb hbytes d5) rfl ?_
        refine XS.icmpNo Xl.here hexec rfl (hb hbytes d7) rfl (ii_ge_f (lt32 (by omega) (by omega))) ?_
        refine XS.aloadN Xl.here hexec rfl (hb hbytes d10) rfl rfl ?_
        refine XS.iloadN Xl.here hexec rfl (hb hbytes d11) rfl ?_
        exact Steps.refl _)
      have c4 : Steps p.tables e below (s₁.setTop (entryFrame m #[.ref b, .int (Int32.ofNat o), .ref d, .int (Int32.ofNat q), .int (Int32.ofNat len)] 7)) (Tl.setTop (mkF m 13 #[.val (.ref b), .val (.int (Int32.ofNat (o + i))), .val (.ref d), .val (.int (Int32.ofNat (q + i))), .val (.int (Int32.ofNat len)), .val (.int (Int32.ofNat i)), z] [.int (cv A (o + i))])) := c3.trans (by
        refine Xl.aget hexec hAl rfl (hA.get (i := o + i) (by omega)) rfl rfl (hb hbytes d12) ?_
        exact Steps.refl _)
      have c5 : Steps p.tables e below (s₁.setTop (entryFrame m #[.ref b, .int (Int32.ofNat o), .ref d, .int (Int32.ofNat q), .int (Int32.ofNat len)] 7)) (Tl.setTop (mkF m 15 #[.val (.ref b), .val (.int (Int32.ofNat (o + i))), .val (.ref d), .val (.int (Int32.ofNat (q + i))), .val (.int (Int32.ofNat len)), .val (.int (Int32.ofNat i)), .val (.int (cv A (o + i)))] [])) := c4.trans (by
        refine XS.istoreS Xl.here hexec rfl (hb hbytes d13) rfl rfl hz ?_
        exact Steps.refl _)
      have c6 : Steps p.tables e below (s₁.setTop (entryFrame m #[.ref b, .int (Int32.ofNat o), .ref d, .int (Int32.ofNat q), .int (Int32.ofNat len)] 7)) (Tl.setTop (mkF m 31 #[.val (.ref b), .val (.int (Int32.ofNat (o + i))), .val (.ref d), .val (.int (Int32.ofNat (q + i))), .val (.int (Int32.ofNat len)), .val (.int (Int32.ofNat i)), .val (.int (cv A (o + i)))] [.int (lo8 (cv A (o + i))), .int (Int32.ofNat (q + i)), .ref d])) := c5.trans (by
        refine XS.iload Xl.here hexec rfl (hb hbytes d15) rfl ?_
        refine sipushV Xl.here hexec rfl 255 (hb hbytes d17) (by decide) ?_
        refine XS.icmpYes Xl.here hexec rfl (pc0 := 20) rfl (hb hbytes d20) rfl (ii_le_t (hp i (by omega))) (by decide) rfl ?_
        refine XS.aloadN Xl.here hexec rfl (hb hbytes d26) rfl rfl ?_
        refine XS.iloadN Xl.here hexec rfl (hb hbytes d27) rfl ?_
        refine XS.iload Xl.here hexec rfl (hb hbytes d28) rfl ?_
        refine i2b Xl.here hexec rfl (hb hbytes d30) rfl ?_
        exact Steps.refl _)
      obtain ⟨T7, X7, p7, st7⟩ := Xl.aput hexec hBk rfl hlt rfl (fits_lo8 (cv A (o + i))) (g := (mkF m 31 #[.val (.ref b), .val (.int (Int32.ofNat (o + i))), .val (.ref d), .val (.int (Int32.ofNat (q + i))), .val (.int (Int32.ofNat len)), .val (.int (Int32.ofNat i)), .val (.int (cv A (o + i)))] [.int (lo8 (cv A (o + i))), .int (Int32.ofNat (q + i)), .ref d])) rfl (rest := []) rfl (hb hbytes d31)
      have c8 : Steps p.tables e below (s₁.setTop (entryFrame m #[.ref b, .int (Int32.ofNat o), .ref d, .int (Int32.ofNat q), .int (Int32.ofNat len)] 7)) (T7.setTop (mkF m 32 #[.val (.ref b), .val (.int (Int32.ofNat (o + i))), .val (.ref d), .val (.int (Int32.ofNat (q + i))), .val (.int (Int32.ofNat len)), .val (.int (Int32.ofNat i)), .val (.int (cv A (o + i)))] [])) := c6.trans (st7 _ (Steps.refl _))
      have c9 : Steps p.tables e below (s₁.setTop (entryFrame m #[.ref b, .int (Int32.ofNat o), .ref d, .int (Int32.ofNat q), .int (Int32.ofNat len)] 7)) (T7.setTop (mkF m 3 #[.val (.ref b), .val (.int (Int32.ofNat (o + i) + 1)), .val (.ref d), .val (.int (Int32.ofNat (q + i) + 1)), .val (.int (Int32.ofNat len)), .val (.int (Int32.ofNat i + 1)), .val (.int (cv A (o + i)))] [])) := c8.trans (by
        refine iincV X7.here hexec rfl 1 (hb hbytes d32) (by decide) rfl rfl ?_
        refine iincV X7.here hexec rfl 1 (hb hbytes d35) (by decide) rfl rfl ?_
        refine iincV X7.here hexec rfl 1 (hb hbytes d38) (by decide) rfl rfl ?_
        refine XS.goto X7.here hexec rfl (pc0 := 41) rfl (hb hbytes d41) (by decide) rfl ?_
        exact Steps.refl _)
      have c10 : Steps p.tables e below (s₁.setTop (entryFrame m #[.ref b, .int (Int32.ofNat o), .ref d, .int (Int32.ofNat q), .int (Int32.ofNat len)] 7)) (T7.setTop (mkF m 3 #[.val (.ref b), .val (.int (Int32.ofNat (o + (i + 1)))), .val (.ref d), .val (.int (Int32.ofNat (q + (i + 1)))), .val (.int (Int32.ofNat len)), .val (.int (Int32.ofNat (i + 1))), .val (.int (cv A (o + i)))] [])) := by
        have := c9
        rw [succ32, succ32, succ32] at this
        exact this
      exact ih (i + 1) (by omega) _ (Or.inr ⟨_, rfl, rfl⟩) T7 _ (by rw [copyLocs_step, ← List.append_assoc]; exact X7) (pl.trans p7) (fl.step (by omega) hlt (by simp)) c10
  obtain ⟨T9, B9, z9, X9, p9, f9, g9⟩ := loop len 0 (by omega) .unset (Or.inl rfl) s₁ B (by simpa [copyLocs] using X0) ⟨hB0.1, fun _ _ => rfl, rfl⟩ (Laid.zero _ _ _) c2
  have c11 : Steps p.tables e below (s₁.setTop (entryFrame m #[.ref b, .int (Int32.ofNat o), .ref d, .int (Int32.ofNat q), .int (Int32.ofNat len)] 7)) (T9.setTop (mkF m 46 #[.val (.ref b), .val (.int (Int32.ofNat (o + len))), .val (.ref d), .val (.int (Int32.ofNat (q + len))), .val (.int (Int32.ofNat len)), .val (.int (Int32.ofNat len)), z9] [.int (Int32.ofNat len)])) := g9.trans (by
    refine XS.iload X9.here hexec rfl (hb hbytes d3) rfl ?_
    refine XS.iload X9.here hexec rfl (hb hbytes d5) rfl ?_
    refine XS.icmpYes X9.here hexec rfl (pc0 := 7) rfl (hb hbytes d7) rfl (ii_ge_t (nlt32 (by omega) (Nat.le_refl _))) (by decide) rfl ?_
    refine XS.iload X9.here hexec rfl (hb hbytes d44) rfl ?_
    exact Steps.refl _)
  exact ⟨T9, some (.int (Int32.ofNat len)), _, _, _, X9, by simp, rfl, rfl, (fun h => by cases h), ⟨rfl, B9, p9.from hh0, f9⟩, fun fs hl => c11.trans (X9.ireturnOut hexec hret rfl (Or.inl rfl) (hb hbytes d46) hl)⟩
end Cmp5
namespace Cmp3
def yN : MethodName := ⟨"java/lang/StringUTF16", "compress", "([CII)[B"⟩
abbrev yB : ByteArray := jdk_52_method_16_code
theorem d0 : decode yB 0 = .ok (.iload_n 2, 1) := by decide +kernel
theorem d1 : decode yB 1 = .ok (.newarray .byte, 2) := by decide +kernel
theorem d3 : decode yB 3 = .ok (.astore_n 3, 1) := by decide +kernel
theorem d4 : decode yB 4 = .ok (.aload_n 0, 1) := by decide +kernel
theorem d5 : decode yB 5 = .ok (.iload_n 1, 1) := by decide +kernel
theorem d6 : decode yB 6 = .ok (.aload_n 3, 1) := by decide +kernel
theorem d7 : decode yB 7 = .ok (.iconst 0, 1) := by decide +kernel
theorem d8 : decode yB 8 = .ok (.iload_n 2, 1) := by decide +kernel
theorem d9 : decode yB 9 = .ok (.invokestatic 115, 3) := by decide +kernel
theorem d12 : decode yB 12 = .ok (.istore 4, 2) := by decide +kernel
theorem d14 : decode yB 14 = .ok (.iload 4, 2) := by decide +kernel
theorem d16 : decode yB 16 = .ok (.iload_n 2, 1) := by decide +kernel
theorem d17 : decode yB 17 = .ok (.if_icmp (.eq) 40, 3) := by decide +kernel
theorem d57 : decode yB 57 = .ok (.aload_n 3, 1) := by decide +kernel
theorem d58 : decode yB 58 = .ok (.areturn, 1) := by decide +kernel
def site : List Cond := [.arrayClass .byte, Cmp5.tab] ++ staticW U16 115 Cmp5.yN
def tab : Cond := tabOf yN yB 6 (some (.array .byte)) site
def P (b : Addr) (A : Cell) (o len : Nat) (args : Array Value) (s : State) : Prop := args = #[.ref b, .int (Int32.ofNat o), .int (Int32.ofNat len)] ∧ Ch b A s ∧ o + len ≤ A.slots.size ∧ len ≤ 536870912 ∧ ∀ i, i < len → ¬ 255 < cv A (o + i)
def E (b : Addr) (A : Cell) (o len : Nat) (r : Option Value) (s u : State) : Prop := NewArr .byte "[B" len (fun j => .int (lo8 (cv A (o + j)))) r s u ∧ u.heap.size = s.heap.size + 1
/-- no char of the range above 255: a new byte[] of their low bytes -/
theorem law (l : Launch) (b : Addr) (A : Cell) (o len : Nat) : Law l yN 3 3 1 18 yB 6 (some (.array .byte)) site (P b A o len) (E b A o len) [] 1 len := by
  refine Law.of_walk (plainFor_of_name (by decide +kernel)) (by decide +kernel) (by decide +kernel) (by decide) (fun _ _ h => by rw [h.1]; rfl) (fun _ U U' hal hh h => ⟨h.1, h.2.1.mv hal hh, h.2.2⟩) (fun r U U' V V' h1 hal h2 h => ⟨NewArr.mv r U U' V V' h1 hal h2 h.1, by rw [h1, h2]; exact h.2⟩) ?_
  intro p e s m args below meth c s₁ X0 hexec hbytes hml hret hlk hnm hown hh0 W hP
  obtain ⟨rfl, hA, l1, l2, hp⟩ := hP
  have a31 := hA.1.2.2.2
  have c1 : Steps p.tables e below (s₁.setTop (entryFrame m #[.ref b, .int (Int32.ofNat o), .int (Int32.ofNat len)] 6)) (s₁.setTop (mkF m 0 #[.val (.ref b), .val (.int (Int32.ofNat o)), .val (.int (Int32.ofNat len)), .unset, .unset, .unset] [])) := entry rfl
  have c2 : Steps p.tables e below (s₁.setTop (entryFrame m #[.ref b, .int (Int32.ofNat o), .int (Int32.ofNat len)] 6)) (s₁.setTop (mkF m 1 #[.val (.ref b), .val (.int (Int32.ofNat o)), .val (.int (Int32.ofNat len)), .unset, .unset, .unset] [.int (Int32.ofNat len)])) := c1.trans (by
    refine XS.iloadN X0.here hexec rfl (hb hbytes d0) rfl ?_
    exact Steps.refl _)
  obtain ⟨T3, B3, X3, ba3, bs3, bv3, bh3, bf3, st3⟩ := X0.anew hexec (atype := .byte) (wk W (.arrayClass .byte)) rfl (by show len * 1 ≤ _; omega) (by omega) (g := (mkF m 1 #[.val (.ref b), .val (.int (Int32.ofNat o)), .val (.int (Int32.ofNat len)), .unset, .unset, .unset] [.int (Int32.ofNat len)])) rfl (hb hbytes d1) (rest := []) rfl (Nat.le_refl _) (by show 0 + len ≤ len; omega)
  rw [hh0] at ba3 st3
  have kp3 : XT.Kept s T3 := (XT.Kept.of_eq hh0).push bh3
  have hA3 := hA.keep X3.warmed.alike (kp3 _ _ hA.1.1)
  have hne : b ≠ s.heap.size := hA.1.ne
  have c4 : Steps p.tables e below (s₁.setTop (entryFrame m #[.ref b, .int (Int32.ofNat o), .int (Int32.ofNat len)] 6)) (T3.setTop (mkF m 3 #[.val (.ref b), .val (.int (Int32.ofNat o)), .val (.int (Int32.ofNat len)), .unset, .unset, .unset] [.ref s.heap.size])) := c2.trans (st3 _ (Steps.refl _))
  have c5 : Steps p.tables e below (s₁.setTop (entryFrame m #[.ref b, .int (Int32.ofNat o), .int (Int32.ofNat len)] 6)) (T3.setTop (mkF m 9 #[.val (.ref b), .val (.int (Int32.ofNat o)), .val (.int (Int32.ofNat len)), .val (.ref s.heap.size), .unset, .unset] [.int (Int32.ofNat len), .int 0, .ref s.heap.size, .int (Int32.ofNat o), .ref b])) := c4.trans (by
    refine XS.astoreN X3.here hexec rfl (hb hbytes d3) rfl rfl rfl ?_
    refine XS.aloadN X3.here hexec rfl (hb hbytes d4) rfl rfl ?_
    refine XS.iloadN X3.here hexec rfl (hb hbytes d5) rfl ?_
    refine XS.aloadN X3.here hexec rfl (hb hbytes d6) rfl rfl ?_
    refine iconstV X3.here hexec rfl 0 (hb hbytes d7) (by decide) ?_
    refine XS.iloadN X3.here hexec rfl (hb hbytes d8) rfl ?_
    exact Steps.refl _)
  obtain ⟨v6, T6, X6, E6, g6⟩ := X3.callS hexec (Cmp5.law l b A s.heap.size B3 o 0 len) hown (wks W (staticW U16 115 Cmp5.yN)) (wk W Cmp5.tab) (W := 0) (Nat.le_of_ble_eq_true rfl) (Nat.le_of_ble_eq_true rfl) (Nat.le_refl _) (by show 0 + len + 0 ≤ len; omega) (g := (mkF m 9 #[.val (.ref b), .val (.int (Int32.ofNat o)), .val (.int (Int32.ofNat len)), .val (.ref s.heap.size), .unset, .unset] [.int (Int32.ofNat len), .int (Int32.ofNat 0), .ref s.heap.size, .int (Int32.ofNat o), .ref b])) rfl (by rw [hml]; rfl) c5 (argsL := [.ref b, .int (Int32.ofNat o), .ref s.heap.size, .int (Int32.ofNat 0), .int (Int32.ofNat len)]) (rest := []) rfl rfl (by show 2 * 0 + 0 ≤ _; decide) (hb hbytes d9) (⟨rfl, hA3, ba3, hne, l1, by rw [bs3]; simp, hp⟩)
  obtain ⟨rfl, B6, p6, f6⟩ := E6
  have c7 : Steps p.tables e below (s₁.setTop (entryFrame m #[.ref b, .int (Int32.ofNat o), .int (Int32.ofNat len)] 6)) (T6.setTop (mkF m 12 #[.val (.ref b), .val (.int (Int32.ofNat o)), .val (.int (Int32.ofNat len)), .val (.ref s.heap.size), .unset, .unset] [.int (Int32.ofNat len)])) := g6
  have c8 : Steps p.tables e below (s₁.setTop (entryFrame m #[.ref b, .int (Int32.ofNat o), .int (Int32.ofNat len)] 6)) (T6.setTop (mkF m 58 #[.val (.ref b), .val (.int (Int32.ofNat o)), .val (.int (Int32.ofNat len)), .val (.ref s.heap.size), .val (.int (Int32.ofNat len)), .unset] [.ref s.heap.size])) := c7.trans (by
    refine XS.istore X6.here hexec rfl (hb hbytes d12) rfl rfl ?_
    refine XS.iload X6.here hexec rfl (hb hbytes d14) rfl ?_
    refine XS.iloadN X6.here hexec rfl (hb hbytes d16) rfl ?_
    refine XS.icmpYes X6.here hexec rfl (pc0 := 17) rfl (hb hbytes d17) rfl (ii_eq_t rfl) (by decide) rfl ?_
    refine XS.aloadN X6.here hexec rfl (hb hbytes d57) rfl rfl ?_
    exact Steps.refl _)
  have X8 := X6.wide (L' := []) (cells' := 1) (slots' := len) (fun x hx hlt => by
    simp only [List.nil_append, copyLocs, List.mem_map, List.mem_range] at hx
    obtain ⟨i, -, rfl⟩ := hx
    exact absurd hlt (Nat.lt_irrefl _)) (Nat.le_refl _) (by omega)
  exact ⟨T6, some (.ref s.heap.size), _, _, _, X8, rfl, rfl, rfl, (fun h => by cases h), ⟨⟨rfl, B6, ba3.like (X3.warmed.alike.symm.trans X6.warmed.alike) p6.1 f6.1 f6.2.1 f6.2.2.1, f6.2.1.trans bv3, by rw [X6.warmed.alike.findClass, f6.1]; exact bf3, by rw [f6.2.2.1, bs3]; simp, fun j hj => by rw [f6.2.2.2 j, if_pos (by omega)]; rfl, kp3.put p6 (Nat.le_refl _)⟩, by rw [p6.2.2, bh3, hh0]; simp⟩, fun fs hl => c8.trans (X8.areturnOut hexec rfl hret rfl (hb hbytes d58) hl)⟩
end Cmp3
namespace CodL
def yN : MethodName := ⟨"java/lang/StringUTF16", "coderFromArrayLen", "([BI)B"⟩
abbrev yB : ByteArray := jdk_52_method_15_code
theorem d0 : decode yB 0 = .ok (.iload_n 1, 1) := by decide +kernel
theorem d1 : decode yB 1 = .ok (.aload_n 0, 1) := by decide +kernel
theorem d2 : decode yB 2 = .ok (.arraylength, 1) := by decide +kernel
theorem d3 : decode yB 3 = .ok (.isub, 1) := by decide +kernel
theorem d4 : decode yB 4 = .ok (.bipush 31, 2) := by decide +kernel
theorem d6 : decode yB 6 = .ok (.iushr, 1) := by decide +kernel
theorem d7 : decode yB 7 = .ok (.i2b, 1) := by decide +kernel
theorem d8 : decode yB 8 = .ok (.ireturn, 1) := by decide +kernel
def site : List Cond := []
def tab : Cond := tabOf yN yB 2 (some .byte) site
def P (d : Addr) (B : Cell) (args : Array Value) (s : State) : Prop := args = #[.ref d, .int (Int32.ofNat B.slots.size)] ∧ Arr .byte d B s
def E (r : Option Value) (s u : State) : Prop := XT.PureE (some (.int 0)) r s u
/-- an array as long as the number of chars: LATIN1 -/
theorem law (l : Launch) (d : Addr) (B : Cell) : Law l yN 2 2 0 0 yB 2 (some .byte) site (P d B) E [] 0 0 := by
  refine Law.of_walk (plainFor_of_name (by decide +kernel)) (by decide +kernel) (by decide +kernel) (by decide) (fun _ _ h => by rw [h.1]; rfl) (fun _ U U' hal hh h => ⟨h.1, h.2.mv hal hh⟩) (fun r U U' V V' h1 hal h2 h => XT.PureE.mv r U U' V V' h1 hal h2 h) ?_
  intro p e s m args below meth c s₁ X0 hexec hbytes hml hret hlk hnm hown hh0 W hP
  obtain ⟨rfl, hB⟩ := hP
  have hB0 := hB.mv X0.warmed.alike hh0
  have c1 : Steps p.tables e below (s₁.setTop (entryFrame m #[.ref d, .int (Int32.ofNat B.slots.size)] 2)) (s₁.setTop (mkF m 0 #[.val (.ref d), .val (.int (Int32.ofNat B.slots.size))] [])) := entry rfl
  have c2 : Steps p.tables e below (s₁.setTop (entryFrame m #[.ref d, .int (Int32.ofNat B.slots.size)] 2)) (s₁.setTop (mkF m 2 #[.val (.ref d), .val (.int (Int32.ofNat B.slots.size))] [.ref d, .int (Int32.ofNat B.slots.size)])) := c1.trans (by
    refine XS.iloadN X0.here hexec rfl (hb hbytes d0) rfl ?_
    refine XS.aloadN X0.here hexec rfl (hb hbytes d1) rfl rfl ?_
    exact Steps.refl _)
  have c3 : Steps p.tables e below (s₁.setTop (entryFrame m #[.ref d, .int (Int32.ofNat B.slots.size)] 2)) (s₁.setTop (mkF m 8 #[.val (.ref d), .val (.int (Int32.ofNat B.slots.size))] [.int (lo8 (ushr (Int32.ofNat B.slots.size - Int32.ofNat B.slots.size) 31))])) := c2.trans (by
    refine X0.alen hexec hB0 rfl rfl (hb hbytes d2) ?_
    refine XS.isub X0.here hexec rfl (hb hbytes d3) rfl ?_
    refine bipushV X0.here hexec rfl 31 (hb hbytes d4) (by decide) ?_
    refine iushr X0.here hexec rfl (hb hbytes d6) rfl ?_
    refine i2b X0.here hexec rfl (hb hbytes d7) rfl ?_
    exact Steps.refl _)
  have e0 : lo8 (ushr (Int32.ofNat B.slots.size - Int32.ofNat B.slots.size) 31) = 0 := by rw [Int32.sub_self]; decide
  rw [e0] at c3
  exact ⟨s₁, some (.int 0), _, _, _, X0, rfl, rfl, rfl, (fun h => by cases h), ⟨rfl, hh0⟩, fun fs hl => c3.trans (X0.ireturnOut hexec hret rfl (Or.inr (Or.inr (Or.inl rfl))) (hb hbytes d8) hl)⟩
end CodL
/-- the String at a is Latin-1 over a new byte[] (the heap's one new cell): the low bytes of the len chars of A from o on; every cell but a is kept -/
def Got (a : Addr) (D : Cell) (fV fC : Field) (A : Cell) (o len : Nat) (r : Option Value) (s u : State) : Prop := r = none ∧ ∃ D' V : Cell, Blank "java/lang/String" a D' u ∧ Same D D' [fV.slot, fC.slot] ∧ D'.slots[fV.slot]? = some (.ref s.heap.size) ∧ D'.slots[fC.slot]? = some (.int 0) ∧ Arr .byte s.heap.size V u ∧ V.vm = .none ∧ u.vm.findClass "[B" = some V.cls ∧ V.slots.size = len ∧ (∀ j, j < len → V.slots[j]? = some (.int (lo8 (cv A (o + j))))) ∧ (∀ (y : Addr) (c : Cell), y ≠ a → s.heap[y]? = some c → u.heap[y]? = some c) ∧ u.heap.size = s.heap.size + 1
theorem Got.mv {a : Addr} {D A : Cell} {fV fC : Field} {o len : Nat} : ∀ r (U U' V V' : State), U'.heap = U.heap → V.vm.Alike V'.vm → V'.heap = V.heap → Got a D fV fC A o len r U V → Got a D fV fC A o len r U' V' :=
  fun r U U' V V' h1 hal h2 ⟨e0, D', X, a1, a2, a3, a4, a5, a6, a7, a8, a9, a10, a11⟩ => ⟨e0, D', X, a1.mv hal h2, a2, by rw [h1]; exact a3, a4, by rw [h1]; exact a5.mv hal h2, a6, by rw [hal.findClass]; exact a7, a8, a9, by rw [h1, h2]; exact a10, by rw [h1, h2]; exact a11⟩
namespace New4
def yN : MethodName := ⟨"java/lang/String", "<init>", "([CIILjava/lang/Void;)V"⟩
abbrev yB : ByteArray := jdk_42_method_149_code
theorem d0 : decode yB 0 = .ok (.aload_n 0, 1) := by decide +kernel
theorem d1 : decode yB 1 = .ok (.invokespecial 1, 3) := by decide +kernel
theorem d4 : decode yB 4 = .ok (.iload_n 3, 1) := by decide +kernel
theorem d5 : decode yB 5 = .ok (.ifCond (.ne) 22, 3) := by decide +kernel
theorem d27 : decode yB 27 = .ok (.getstatic 38, 3) := by decide +kernel
theorem d30 : decode yB 30 = .ok (.ifCond (.eq) 28, 3) := by decide +kernel
theorem d33 : decode yB 33 = .ok (.aload_n 1, 1) := by decide +kernel
theorem d34 : decode yB 34 = .ok (.iload_n 2, 1) := by decide +kernel
theorem d35 : decode yB 35 = .ok (.iload_n 3, 1) := by decide +kernel
theorem d36 : decode yB 36 = .ok (.invokestatic 177, 3) := by decide +kernel
theorem d39 : decode yB 39 = .ok (.astore 5, 2) := by decide +kernel
theorem d41 : decode yB 41 = .ok (.aload_n 0, 1) := by decide +kernel
theorem d42 : decode yB 42 = .ok (.aload 5, 2) := by decide +kernel
theorem d44 : decode yB 44 = .ok (.iload_n 3, 1) := by decide +kernel
theorem d45 : decode yB 45 = .ok (.invokestatic 47, 3) := by decide +kernel
theorem d48 : decode yB 48 = .ok (.putfield 15, 3) := by decide +kernel
theorem d51 : decode yB 51 = .ok (.aload_n 0, 1) := by decide +kernel
theorem d52 : decode yB 52 = .ok (.aload 5, 2) := by decide +kernel
theorem d54 : decode yB 54 = .ok (.putfield 9, 3) := by decide +kernel
theorem d57 : decode yB 57 = .ok (.return_, 1) := by decide +kernel
def site : List Cond := [.fieldLink "java/lang/String" 38 "java/lang/String" "COMPACT_STRINGS" "Z", Cmp3.tab, CodL.tab, .laysFinal "java/lang/String" "java/lang/String" "value" "[B", .fieldLink "java/lang/String" 9 "java/lang/String" "value" "[B", .laysFinal "java/lang/String" "java/lang/String" "coder" "B", .fieldLink "java/lang/String" 15 "java/lang/String" "coder" "B"] ++ objW "java/lang/String" 1 ++ staticW "java/lang/String" 177 Cmp3.yN ++ staticW "java/lang/String" 47 CodL.yN
def tab : Cond := tabOf yN yB 6 none site
def P (a : Addr) (D : Cell) (fV fC : Field) (b : Addr) (A : Cell) (z : Int32) (o len : Nat) (args : Array Value) (s : State) : Prop := args = #[.ref a, .ref b, .int (Int32.ofNat o), .int (Int32.ofNat len), .null] ∧ Blank "java/lang/String" a D s ∧ Found "java/lang/String" "value" "[B" fV s ∧ Found "java/lang/String" "coder" "B" fC s ∧ Ch b A s ∧ StaticIs s "java/lang/String" "COMPACT_STRINGS" "Z" (.int z) ∧ ¬ z = 0 ∧ 0 < len ∧ o + len ≤ A.slots.size ∧ len ≤ 536870912 ∧ ∀ i, i < len → ¬ 255 < cv A (o + i)
def E (a : Addr) (D : Cell) (fV fC : Field) (A : Cell) (o len : Nat) (r : Option Value) (s u : State) : Prop := Got a D fV fC A o len r s u
/-- len > 0, no char of the range above 255: a Latin-1 String of their low bytes -/
theorem law (l : Launch) (a : Addr) (D : Cell) (fV fC : Field) (b : Addr) (A : Cell) (z : Int32) (o len : Nat) : Law l yN 5 4 2 35 yB 6 none site (P a D fV fC b A z o len) (E a D fV fC A o len) [⟨a, fC.slot⟩, ⟨a, fV.slot⟩] 1 len := by
  refine Law.of_walk (plainFor_of_name (by decide +kernel)) (by decide +kernel) (by decide +kernel) (by decide) (fun _ _ h => by rw [h.1]; rfl) (fun _ U U' hal hh h => ⟨h.1, h.2.1.mv hal hh, h.2.2.1.al hal, h.2.2.2.1.al hal, h.2.2.2.2.1.mv hal hh, h.2.2.2.2.2.1.there hal hh, h.2.2.2.2.2.2⟩) (fun r U U' V V' h1 hal h2 h => Got.mv r U U' V V' h1 hal h2 h) ?_
  intro p e s m args below meth c s₁ X0 hexec hbytes hml hret hlk hnm hown hh0 W hP
  obtain ⟨rfl, hB, f1, f2, hA, s1, hz, l0, l1, l2, hp⟩ := hP
  have a31 := hA.1.2.2.2
  have c1 : Steps p.tables e below (s₁.setTop (entryFrame m #[.ref a, .ref b, .int (Int32.ofNat o), .int (Int32.ofNat len), .null] 6)) (s₁.setTop (mkF m 0 #[.val (.ref a), .val (.ref b), .val (.int (Int32.ofNat o)), .val (.int (Int32.ofNat len)), .val .null, .unset] [])) := entry rfl
  have c2 : Steps p.tables e below (s₁.setTop (entryFrame m #[.ref a, .ref b, .int (Int32.ofNat o), .int (Int32.ofNat len), .null] 6)) (s₁.setTop (mkF m 1 #[.val (.ref a), .val (.ref b), .val (.int (Int32.ofNat o)), .val (.int (Int32.ofNat len)), .val .null, .unset] [.ref a])) := c1.trans (by
    refine XS.aloadN X0.here hexec rfl (hb hbytes d0) rfl rfl ?_
    exact Steps.refl _)
  obtain ⟨T3, X3, q3, st3⟩ := X0.oinit hexec hown (wks W (objW "java/lang/String" 1)) (g := (mkF m 1 #[.val (.ref a), .val (.ref b), .val (.int (Int32.ofNat o)), .val (.int (Int32.ofNat len)), .val .null, .unset] [.ref a])) rfl (by rw [hml]; rfl) (rest := []) rfl (hb hbytes d1) (W := 0) (by show 2 * 0 + 0 ≤ _; decide) (Nat.le_of_ble_eq_true rfl) (Nat.le_of_ble_eq_true rfl)
  have hh3 := q3.trans hh0
  have c4 : Steps p.tables e below (s₁.setTop (entryFrame m #[.ref a, .ref b, .int (Int32.ofNat o), .int (Int32.ofNat len), .null] 6)) (T3.setTop (mkF m 27 #[.val (.ref a), .val (.ref b), .val (.int (Int32.ofNat o)), .val (.int (Int32.ofNat len)), .val .null, .unset] [])) := (c2.trans (st3 _ (Steps.refl _))).trans (by
    refine XS.iloadN X3.here hexec rfl (hb hbytes d4) rfl ?_
    refine XS.ifYes X3.here hexec rfl (pc0 := 5) rfl (hb hbytes d5) rfl (i0_ne_t (nz32 (by omega) l0)) (by decide) rfl ?_
    exact Steps.refl _)
  obtain ⟨T5, X5, q5, st5⟩ := X3.sget hexec hown (wk W (.fieldLink "java/lang/String" 38 "java/lang/String" "COMPACT_STRINGS" "Z")) s1 (fun _ _ h => by rw [hh3]; exact h) (g := (mkF m 27 #[.val (.ref a), .val (.ref b), .val (.int (Int32.ofNat o)), .val (.int (Int32.ofNat len)), .val .null, .unset] [])) rfl (hb hbytes d27)
  have hh5 := q5.trans hh3
  have c6 : Steps p.tables e below (s₁.setTop (entryFrame m #[.ref a, .ref b, .int (Int32.ofNat o), .int (Int32.ofNat len), .null] 6)) (T5.setTop (mkF m 30 #[.val (.ref a), .val (.ref b), .val (.int (Int32.ofNat o)), .val (.int (Int32.ofNat len)), .val .null, .unset] [.int z])) := c4.trans (st5 _ (Steps.refl _))
  have c7 : Steps p.tables e below (s₁.setTop (entryFrame m #[.ref a, .ref b, .int (Int32.ofNat o), .int (Int32.ofNat len), .null] 6)) (T5.setTop (mkF m 36 #[.val (.ref a), .val (.ref b), .val (.int (Int32.ofNat o)), .val (.int (Int32.ofNat len)), .val .null, .unset] [.int (Int32.ofNat len), .int (Int32.ofNat o), .ref b])) := c6.trans (by
    refine XS.ifNo X5.here hexec rfl (hb hbytes d30) rfl (i0_eq_f hz) ?_
    refine XS.aloadN X5.here hexec rfl (hb hbytes d33) rfl rfl ?_
    refine XS.iloadN X5.here hexec rfl (hb hbytes d34) rfl ?_
    refine XS.iloadN X5.here hexec rfl (hb hbytes d35) rfl ?_
    exact Steps.refl _)
  obtain ⟨v8, T8, X8, E8, g8⟩ := X5.callS hexec (Cmp3.law l b A o len) hown (wks W (staticW "java/lang/String" 177 Cmp3.yN)) (wk W Cmp3.tab) (W := 0) (Nat.le_of_ble_eq_true rfl) (Nat.le_of_ble_eq_true rfl) (Nat.le_refl _) (by show 0 + len ≤ len; omega) (g := (mkF m 36 #[.val (.ref a), .val (.ref b), .val (.int (Int32.ofNat o)), .val (.int (Int32.ofNat len)), .val .null, .unset] [.int (Int32.ofNat len), .int (Int32.ofNat o), .ref b])) rfl (by rw [hml]; rfl) c7 (argsL := [.ref b, .int (Int32.ofNat o), .int (Int32.ofNat len)]) (rest := []) rfl rfl (by show 2 * 0 + 0 ≤ _; decide) (hb hbytes d36) (⟨rfl, hA.mv X5.warmed.alike hh5, l1, l2, hp⟩)
  obtain ⟨e8, z8⟩ := E8
  obtain ⟨rfl, N, n1, n2, n3, n4, n5, n6⟩ := NewArr.mv _ T5 s _ _ hh5.symm (Vm.Alike.refl _) rfl e8
  rw [hh5] at z8
  have hB1 := hB.keep X8.warmed.alike (n6 _ _ hB.1)
  have hne : s.heap.size ≠ a := (Nat.ne_of_lt (Array.getElem?_eq_some_iff.mp hB.1).1).symm
  have c9 : Steps p.tables e below (s₁.setTop (entryFrame m #[.ref a, .ref b, .int (Int32.ofNat o), .int (Int32.ofNat len), .null] 6)) (T8.setTop (mkF m 39 #[.val (.ref a), .val (.ref b), .val (.int (Int32.ofNat o)), .val (.int (Int32.ofNat len)), .val .null, .unset] [.ref s.heap.size])) := g8
  have c10 : Steps p.tables e below (s₁.setTop (entryFrame m #[.ref a, .ref b, .int (Int32.ofNat o), .int (Int32.ofNat len), .null] 6)) (T8.setTop (mkF m 45 #[.val (.ref a), .val (.ref b), .val (.int (Int32.ofNat o)), .val (.int (Int32.ofNat len)), .val .null, .val (.ref s.heap.size)] [.int (Int32.ofNat N.slots.size), .ref s.heap.size, .ref a])) := by
    have hc : Steps p.tables e below (s₁.setTop (entryFrame m #[.ref a, .ref b, .int (Int32.ofNat o), .int (Int32.ofNat len), .null] 6)) (T8.setTop (mkF m 45 #[.val (.ref a), .val (.ref b), .val (.int (Int32.ofNat o)), .val (.int (Int32.ofNat len)), .val .null, .val (.ref s.heap.size)] [.int (Int32.ofNat len), .ref s.heap.size, .ref a])) := c9.trans (by
      refine XS.astore X8.here hexec rfl (hb hbytes d39) rfl rfl rfl ?_
      refine XS.aloadN X8.here hexec rfl (hb hbytes d41) rfl rfl ?_
      refine XS.aload X8.here hexec rfl (hb hbytes d42) rfl rfl ?_
      refine XS.iloadN X8.here hexec rfl (hb hbytes d44) rfl ?_
      exact Steps.refl _)
    rw [n4]; exact hc
  obtain ⟨v11, T11, X11, E11, g11⟩ := X8.callS hexec (CodL.law l s.heap.size N) hown (wks W (staticW "java/lang/String" 47 CodL.yN)) (wk W CodL.tab) (W := 1) (Nat.le_of_ble_eq_true rfl) (Nat.le_of_ble_eq_true rfl) (Nat.le_refl _) (by show 0 + len + 0 ≤ len; omega) (g := (mkF m 45 #[.val (.ref a), .val (.ref b), .val (.int (Int32.ofNat o)), .val (.int (Int32.ofNat len)), .val .null, .val (.ref s.heap.size)] [.int (Int32.ofNat N.slots.size), .ref s.heap.size, .ref a])) rfl (by rw [hml]; rfl) c10 (argsL := [.ref s.heap.size, .int (Int32.ofNat N.slots.size)]) (rest := [.ref a]) rfl rfl (by show 2 * 0 + (1 + 0) ≤ _; decide) (hb hbytes d45) (⟨rfl, n1⟩)
  obtain ⟨rfl, q11⟩ := E11
  have hB11 := hB1.mv (X8.warmed.alike.symm.trans X11.warmed.alike) q11
  have c12 : Steps p.tables e below (s₁.setTop (entryFrame m #[.ref a, .ref b, .int (Int32.ofNat o), .int (Int32.ofNat len), .null] 6)) (T11.setTop (mkF m 48 #[.val (.ref a), .val (.ref b), .val (.int (Int32.ofNat o)), .val (.int (Int32.ofNat len)), .val .null, .val (.ref s.heap.size)] [.int 0, .ref a])) := g11
  obtain ⟨T13, X13, p13, bl13, sl13, st13⟩ := X11.finit hexec hown (wk W (.fieldLink "java/lang/String" 15 "java/lang/String" "coder" "B")) (Or.inr ⟨_, (wk W (.laysFinal "java/lang/String" "java/lang/String" "coder" "B"))⟩) (Or.inl ⟨rfl, hnm⟩) f2 (Or.inl rfl) hB11 (t := .byte) (by decide +kernel) rfl (g := (mkF m 48 #[.val (.ref a), .val (.ref b), .val (.int (Int32.ofNat o)), .val (.int (Int32.ofNat len)), .val .null, .val (.ref s.heap.size)] [.int 0, .ref a])) rfl (rest := []) rfl (hb hbytes d48)
  have c14 : Steps p.tables e below (s₁.setTop (entryFrame m #[.ref a, .ref b, .int (Int32.ofNat o), .int (Int32.ofNat len), .null] 6)) (T13.setTop (mkF m 54 #[.val (.ref a), .val (.ref b), .val (.int (Int32.ofNat o)), .val (.int (Int32.ofNat len)), .val .null, .val (.ref s.heap.size)] [.ref s.heap.size, .ref a])) := (c12.trans (st13 _ (Steps.refl _))).trans (by
    refine XS.aloadN X13.here hexec rfl (hb hbytes d51) rfl rfl ?_
    refine XS.aload X13.here hexec rfl (hb hbytes d52) rfl rfl ?_
    exact Steps.refl _)
  obtain ⟨T15, X15, p15, bl15, sl15, st15⟩ := X13.finit hexec hown (wk W (.fieldLink "java/lang/String" 9 "java/lang/String" "value" "[B")) (Or.inr ⟨_, (wk W (.laysFinal "java/lang/String" "java/lang/String" "value" "[B"))⟩) (Or.inl ⟨rfl, hnm⟩) f1 (Or.inl rfl) bl13 (t := (.array .byte)) (by decide +kernel) rfl (g := (mkF m 54 #[.val (.ref a), .val (.ref b), .val (.int (Int32.ofNat o)), .val (.int (Int32.ofNat len)), .val .null, .val (.ref s.heap.size)] [.ref s.heap.size, .ref a])) rfl (rest := []) rfl (hb hbytes d54)
  have c16 : Steps p.tables e below (s₁.setTop (entryFrame m #[.ref a, .ref b, .int (Int32.ofNat o), .int (Int32.ofNat len), .null] 6)) (T15.setTop (mkF m 57 #[.val (.ref a), .val (.ref b), .val (.int (Int32.ofNat o)), .val (.int (Int32.ofNat len)), .val .null, .val (.ref s.heap.size)] [])) := c14.trans (st15 _ (Steps.refl _))
  have ap := apart (Or.inr ⟨_, (wk W (.laysFinal "java/lang/String" "java/lang/String" "value" "[B"))⟩) (Or.inr ⟨_, (wk W (.laysFinal "java/lang/String" "java/lang/String" "coder" "B"))⟩) f1 f2 (t₁ := .array .byte) (t₂ := .byte) (by decide +kernel) (by decide +kernel) (by decide)
  have al := X8.warmed.alike.symm.trans X15.warmed.alike
  have n7 : T11.heap[s.heap.size]? = some N := by rw [q11]; exact n1.1
  exact ⟨T15, none, _, _, _, X15, by simp, rfl, by omega, (fun _ => rfl), ⟨rfl, _, N, bl15, ((Same.refl D _).set _ (by simp)).set _ (by simp), sl15, (Cell.slots_setSlot_ne _ ap).trans sl13, n1.keep al (p15.other hne (p13.other hne n7)), n2, by rw [al.findClass]; exact n3, n4, n5, fun y c h1 h2 => p15.other h1 (p13.other h1 (by rw [q11]; exact n6 y c h2)), by rw [p15.2.2, p13.2.2, q11]; exact z8⟩, fun fs hl => c16.trans (X15.returnOut hexec hret (hb hbytes d57) hl)⟩
end New4
namespace New1
def yN : MethodName := ⟨"java/lang/String", "<init>", "([C)V"⟩
abbrev yB : ByteArray := jdk_42_method_3_code
theorem d0 : decode yB 0 = .ok (.aload_n 0, 1) := by decide +kernel
theorem d1 : decode yB 1 = .ok (.aload_n 1, 1) := by decide +kernel
theorem d2 : decode yB 2 = .ok (.iconst 0, 1) := by decide +kernel
theorem d3 : decode yB 3 = .ok (.aload_n 1, 1) := by decide +kernel
theorem d4 : decode yB 4 = .ok (.arraylength, 1) := by decide +kernel
theorem d5 : decode yB 5 = .ok (.aconst_null, 1) := by decide +kernel
theorem d6 : decode yB 6 = .ok (.invokespecial 27, 3) := by decide +kernel
theorem d9 : decode yB 9 = .ok (.return_, 1) := by decide +kernel
def site : List Cond := [New4.tab] ++ initW "java/lang/String" 27 New4.yN
def tab : Cond := tabOf yN yB 2 none site
def P (a : Addr) (D : Cell) (fV fC : Field) (b : Addr) (A : Cell) (z : Int32) (args : Array Value) (s : State) : Prop := args = #[.ref a, .ref b] ∧ Blank "java/lang/String" a D s ∧ Found "java/lang/String" "value" "[B" fV s ∧ Found "java/lang/String" "coder" "B" fC s ∧ Ch b A s ∧ StaticIs s "java/lang/String" "COMPACT_STRINGS" "Z" (.int z) ∧ ¬ z = 0 ∧ 0 < A.slots.size ∧ A.slots.size ≤ 536870912 ∧ ∀ i, i < A.slots.size → ¬ 255 < cv A i
def E (a : Addr) (D : Cell) (fV fC : Field) (A : Cell) (r : Option Value) (s u : State) : Prop := Got a D fV fC A 0 A.slots.size r s u
/-- new String(chars), not empty, no char above 255: a Latin-1 String of their low bytes -/
theorem law (l : Launch) (a : Addr) (D : Cell) (fV fC : Field) (b : Addr) (A : Cell) (z : Int32) : Law l yN 2 1 3 52 yB 2 none site (P a D fV fC b A z) (E a D fV fC A) [⟨a, fC.slot⟩, ⟨a, fV.slot⟩] 1 A.slots.size := by
  refine Law.of_walk (plainFor_of_name (by decide +kernel)) (by decide +kernel) (by decide +kernel) (by decide) (fun _ _ h => by rw [h.1]; rfl) (fun _ U U' hal hh h => ⟨h.1, h.2.1.mv hal hh, h.2.2.1.al hal, h.2.2.2.1.al hal, h.2.2.2.2.1.mv hal hh, h.2.2.2.2.2.1.there hal hh, h.2.2.2.2.2.2⟩) (fun r U U' V V' h1 hal h2 h => Got.mv r U U' V V' h1 hal h2 h) ?_
  intro p e s m args below meth c s₁ X0 hexec hbytes hml hret hlk hnm hown hh0 W hP
  obtain ⟨rfl, hB, f1, f2, hA, s1, hz, l0, l2, hp⟩ := hP
  have c1 : Steps p.tables e below (s₁.setTop (entryFrame m #[.ref a, .ref b] 2)) (s₁.setTop (mkF m 0 #[.val (.ref a), .val (.ref b)] [])) := entry rfl
  have c2 : Steps p.tables e below (s₁.setTop (entryFrame m #[.ref a, .ref b] 2)) (s₁.setTop (mkF m 6 #[.val (.ref a), .val (.ref b)] [.null, .int (Int32.ofNat A.slots.size), .int 0, .ref b, .ref a])) := c1.trans (by
    refine XS.aloadN X0.here hexec rfl (hb hbytes d0) rfl rfl ?_
    refine XS.aloadN X0.here hexec rfl (hb hbytes d1) rfl rfl ?_
    refine iconstV X0.here hexec rfl 0 (hb hbytes d2) (by decide) ?_
    refine XS.aloadN X0.here hexec rfl (hb hbytes d3) rfl rfl ?_
    refine X0.alen hexec (hA.1.mv X0.warmed.alike hh0) rfl rfl (hb hbytes d4) ?_
    refine XS.aconstNull X0.here hexec rfl (hb hbytes d5) ?_
    exact Steps.refl _)
  obtain ⟨v3, T3, X3, E3, g3⟩ := X0.callN hexec (New4.law l a D fV fC b A z 0 A.slots.size) rfl hown (wks W (initW "java/lang/String" 27 New4.yN)) (W New4.tab (by simp only [site, List.mem_cons, List.mem_append, true_or, or_true])) (W := 0) (Nat.le_of_ble_eq_true rfl) (Nat.le_of_ble_eq_true rfl) (Nat.le_refl _) (by show 0 + A.slots.size ≤ A.slots.size; omega) (g := (mkF m 6 #[.val (.ref a), .val (.ref b)] [.null, .int (Int32.ofNat A.slots.size), .int (Int32.ofNat 0), .ref b, .ref a])) rfl (by rw [hml]; rfl) c2 (argsL := [.ref b, .int (Int32.ofNat 0), .int (Int32.ofNat A.slots.size), .null]) (rest := []) rfl rfl (by show 2 * 0 + 0 ≤ _; decide) (hb hbytes d6) (⟨rfl, hB.mv X0.warmed.alike hh0, f1.al X0.warmed.alike, f2.al X0.warmed.alike, hA.mv X0.warmed.alike hh0, s1.there X0.warmed.alike hh0, hz, l0, by omega, l2, fun i hi => by rw [Nat.zero_add]; exact hp i hi⟩)
  have e0 := Got.mv _ s₁ s _ _ hh0.symm (Vm.Alike.refl _) rfl E3
  obtain rfl := e0.1
  have c4 : Steps p.tables e below (s₁.setTop (entryFrame m #[.ref a, .ref b] 2)) (T3.setTop (mkF m 9 #[.val (.ref a), .val (.ref b)] [])) := g3
  exact ⟨T3, none, _, _, _, X3, by simp, rfl, by omega, (fun _ => rfl), e0, fun fs hl => c4.trans (X3.returnOut hexec hret (hb hbytes d9) hl)⟩
theorem pays {l : Launch} {R : Room} {p : Program} {e : Env} {below : List Frame} {s : State} {sargs : Array Value} {len W : Nat} (a : Addr) (D : Cell) (fV fC : Field) (b : Addr) (A : Cell) (z : Int32) (htab : tab.before sargs s = true) (hfr : 4 ≤ R.frames) (hlo : W + 65 ≤ R.locals) :
    Back l R p e below s sargs yN len W (fun A₁ a₁ => A₁.cells + 1 ≤ R.cells ∧ A₁.slots + A.slots.size ≤ R.slots ∧ P a D fV fC b A z a₁ A₁.U) (fun A₁ _ v₁ B₁ => E a D fV fC A v₁ A₁.U B₁.U ∧ B₁.locs = A₁.locs ++ [⟨a, fC.slot⟩, ⟨a, fV.slot⟩] ∧ B₁.cells = A₁.cells + 1 ∧ B₁.slots = A₁.slots + A.slots.size) :=
  (law l a D fV fC b A z).pays htab hfr (by omega)
end New1
/-- the byte, read back as charAt reads it, is the char -/
theorem lo8_mask {x : Int32} (h0 : ¬ x < 0) (h1 : ¬ 255 < x) : lo8 x &&& 255 = x := by
  have t : ∀ k : Fin 256, lo8 (Int32.ofNat k.val) &&& 255 = Int32.ofNat k.val := by decide +kernel
  rw [Int32.lt_iff_toInt_lt] at h0 h1
  have e0 : (0 : Int32).toInt = 0 := rfl
  have e1 : (255 : Int32).toInt = 255 := rfl
  obtain ⟨k, hk⟩ : ∃ k : Nat, x.toInt = k := ⟨x.toInt.toNat, by omega⟩
  have hx : x = Int32.ofNat k := Int32.toInt_inj.mp (by rw [hk, Int32.toInt_ofNat_small (by omega)])
  rw [hx]
  exact t ⟨k, by omega⟩
end StrChars
namespace StrChars.Road
open Jvm Sem ClassFile Op Lib Jvm.Stand Jvm.Free Jvm.Free.XT
open Jvm.Lib.Cold (StaticIs)
abbrev ST : String := "java/lang/String"
/-- every table word that New1's law asks, flat -/
abbrev words : List Jvm.Cond := [.code New1.yN New1.yB 2 none, .initialized ST, .methodLink ST 27 New4.yN, .instanceMethod New4.yN,
  .code New4.yN New4.yB 6 none, .fieldLink ST 38 ST "COMPACT_STRINGS" "Z", .laysFinal ST ST "value" "[B", .fieldLink ST 9 ST "value" "[B", .laysFinal ST ST "coder" "B", .fieldLink ST 15 ST "coder" "B",
  .methodLink ST 1 Lib.objectInit, .instanceMethod Lib.objectInit, .code Lib.objectInit ⟨#[0xb1]⟩ 1 none, .methodLink ST 177 Cmp3.yN, .static Cmp3.yN, .methodLink ST 47 CodL.yN, .static CodL.yN,
  .code Cmp3.yN Cmp3.yB 6 (some (.array .byte)), .initialized U16, .arrayClass .byte, .methodLink U16 115 Cmp5.yN, .static Cmp5.yN, .code Cmp5.yN Cmp5.yB 7 (some .int), .code CodL.yN CodL.yB 2 (some .byte)]
theorem tab_of {a : Array Value} {s : State} (h : ∀ w ∈ words, w.before a s = true) : New1.tab.before a s = true := by
  have h5 : Cmp5.tab.before a s = true := unparts (wk h (.code Cmp5.yN Cmp5.yB 7 (some .int))) (wks h (.initialized Cmp5.yN.cls :: Cmp5.site))
  have hc : CodL.tab.before a s = true := unparts (wk h (.code CodL.yN CodL.yB 2 (some .byte))) (wks h (.initialized CodL.yN.cls :: CodL.site))
  have q5 : ∀ w ∈ Cmp5.tab :: words, w.before a s = true := fun w hw => (List.mem_cons.mp hw).elim (fun e => e ▸ h5) (h w)
  have h3 : Cmp3.tab.before a s = true := unparts (wk q5 (.code Cmp3.yN Cmp3.yB 6 (some (.array .byte)))) (wks q5 (.initialized Cmp3.yN.cls :: Cmp3.site))
  have q3 : ∀ w ∈ Cmp3.tab :: CodL.tab :: words, w.before a s = true := fun w hw => (List.mem_cons.mp hw).elim (fun e => e ▸ h3) fun hw => (List.mem_cons.mp hw).elim (fun e => e ▸ hc) (h w)
  have h4 : New4.tab.before a s = true := unparts (wk q3 (.code New4.yN New4.yB 6 none)) (wks q3 (.initialized New4.yN.cls :: New4.site))
  have q4 : ∀ w ∈ New4.tab :: words, w.before a s = true := fun w hw => (List.mem_cons.mp hw).elim (fun e => e ▸ h4) (h w)
  exact unparts (wk q4 (.code New1.yN New1.yB 2 none)) (wks q4 (.initialized New1.yN.cls :: New1.site))
/-- the words ride from the start Z to the walk's own state -/
theorem moved {Z s : State} {a0 args : Array Value} (hZ : Z.Warmed39 s.vm) (hw : ∀ d ∈ words, d.before a0 Z = true) : ∀ d ∈ words, d.before args s = true := fun d hd => by
  have q := hw d hd
  have t : ∀ d ∈ words, d = .arrayClass .byte ∨ (d.onTables && d.keepsFace) = true := by decide +kernel
  rcases t d hd with rfl | t
  · exact RoadKit.mvA hZ q
  · exact RoadKit.mv hZ q t
/-- WHAT COMES BACK, over the tables of the start Z: h the heap at the call, h' behind it -/
def Q (Z : State) (x : Addr) (A : Cell) (h : Heap) (v : Option Value) (h' : Heap) (L : List Loc) : Prop := v = none ∧ (∀ y ∈ L, y.base = x) ∧ RoadKit.Keep h h' [x] ∧ h'.size = h.size + 1 ∧ RoadKit.Exa Z h' x ST ∧ RoadKit.Fld Z h' x ST "value" "[B" (.ref h.size) ∧ RoadKit.Fld Z h' x ST "coder" "B" (.int 0) ∧
  (∃ V : Cell, RoadKit.Arr Z h' h.size V .byte ∧ V.vm = .none ∧ Z.vm.findClass "[B" = some V.cls ∧ V.slots.size = A.slots.size ∧ ∀ j, j < A.slots.size → V.slots[j]? = some (.int (lo8 (cv A j)))) ∧
  ∀ (O n d : String) (w : Value), RoadKit.Fld Z h x O n d w → RoadKit.slotOf Z O n d ≠ RoadKit.slotOf Z ST "value" "[B" → RoadKit.slotOf Z O n d ≠ RoadKit.slotOf Z ST "coder" "B" → RoadKit.Fld Z h' x O n d w
/-- **new String(chars) AT A CALL, IN THE ROAD'S FORM**: for specialBack behind newO: x the fresh String, b the char[] with the cell A -/
theorem back {p : Program} {l : Launch} {e : Env} {R : Room} {s : State} {args : Array Value} {below : List Frame} {len W : Nat} {Z : State} {a0 : Array Value} {h : Heap} (hZ : Z.Warmed39 s.vm) (hw : ∀ d ∈ words, d.before a0 Z = true) {kI : Nat} (wi : (Jvm.Cond.instantiable ST kI).before a0 Z = true)
    {x b : Addr} {A : Cell} {z : Int32} {v0 c0 : Value} (E : RoadKit.Exa Z h x ST) (V : RoadKit.Fld Z h x ST "value" "[B" v0) (C : RoadKit.Fld Z h x ST "coder" "B" c0) (K : RoadKit.Arr Z h b A .char) (hty : Typed .char A) (S : RoadKit.Sta Z h ST "COMPACT_STRINGS" "Z" (.int z)) (hz : ¬ z = 0)
    (l0 : 0 < A.slots.size) (l2 : A.slots.size ≤ 536870912) (hp : ∀ i, i < A.slots.size → ¬ 255 < cv A i) (hfr : 4 ≤ R.frames) (hlo : W + 65 ≤ R.locals) :
    Back l R p e below s args New1.yN len W (fun P a => a = #[.ref x, .ref b] ∧ P.U.heap = h ∧ P.cells + 1 ≤ R.cells ∧ P.slots + A.slots.size ≤ R.slots)
      (fun P _ v B => ∃ L, Q Z x A h v B.U.heap L ∧ B.locs = P.locs ++ L ∧ B.cells = P.cells + 1 ∧ B.slots = P.slots + A.slots.size) := by
  intro m meth c P g ig mk a X hg hsize hdg hW hn hp'
  obtain ⟨rfl, rfl, r1, r2⟩ := hp'
  have al : Z.vm.Alike P.U.vm := hZ.alike.trans X.warmed.alike
  obtain ⟨D, cfV, kV, iV, fV, hD, gV, stV, knV, obV, asV, slV⟩ := id V
  obtain ⟨D', cfC, kC, iC, fC, hD', gC, stC, -, -, asC, slC⟩ := id C
  cases hD.symm.trans hD'
  obtain ⟨D2, kD, e1, e2, e3, e4, e5⟩ := id E
  cases hD.symm.trans e1
  obtain ⟨c2, k2, i1, i2, i3, -⟩ := Cond.instantiable_spec wi
  cases e2.symm.trans i1
  cases e3.symm.trans i2
  obtain ⟨kU, u1, u2⟩ := al.2.2 _ _ e3
  have hB : Blank ST x D P.U := ⟨hD, ⟨knV, fun q hq => by rw [hq] at obV; cases obV⟩, by rw [al.findClass]; exact e2, kU, u1, by rw [u2]; exact i3, by rw [u2]; exact e5 i3⟩
  have F1 : Found ST "value" "[B" fV P.U := ⟨SBG.found_only al ⟨cfV, kV, iV, gV⟩, stV⟩
  have F2 : Found ST "coder" "B" fC P.U := ⟨SBG.found_only al ⟨cfC, kC, iC, gC⟩, stC⟩
  have hA : Ch b A P.U := ⟨⟨K.1, State.isArrayOf_alike al K.2.1, K.2.2, by omega⟩, hty⟩
  have hS : StaticIs P.U ST "COMPACT_STRINGS" "Z" (.int z) := by
    obtain ⟨cfS, iS, kS, fS, st, cS, t1, t2, t3, t4, t5, t6, t7⟩ := S
    exact StaticIs.there (s := { Z with heap := P.U.heap }) ⟨cfS, iS, kS, fS, st, cS, t1, t2, t3, t4, t5, (fun q => by rw [q] at t6; cases t6), t7⟩ al rfl
  obtain ⟨v, B, X', ⟨⟨hv, E', V', q1, q2, q3, q4, q5, q6, q7, q8, q9, q10, q11⟩, hl, hc, hs⟩, st⟩ := New1.pays x D fV fC b A z (tab_of (moved hZ hw)) hfr hlo m meth c P g ig mk _ X hg hsize hdg hW hn ⟨r1, r2, rfl, hB, F1, F2, hA, hS, hz, l0, l2, hp⟩
  have al' : Z.vm.Alike B.U.vm := hZ.alike.trans X'.warmed.alike
  have hsz : E'.slots.size = D.slots.size := by
    obtain ⟨-, -, -, kB, w1, w2, w3⟩ := q1
    obtain ⟨kB', y1, y2⟩ := al'.2.2 _ _ e3
    rw [q2.2.1] at w1
    cases w1.symm.trans y1
    rw [w3, e5 i3, y2]
  refine ⟨v, B, X', ⟨_, ⟨hv, ?_, ⟨by omega, fun y cy hy hn' => q10 y cy (by simpa using hn') hy, fun y cy hy => ?_⟩, q11, ⟨E', _, q1.1, by rw [q2.2.1]; exact e2, by rw [q2.2.1]; exact e3, by rw [q2.1]; exact obV, fun _ => by rw [hsz]; exact e5 i3⟩,
    ⟨E', cfV, kV, iV, fV, q1.1, gV, stV, by rw [q2.1]; exact knV, by rw [q2.1]; exact obV, by rw [q2.2.1]; exact asV, q3⟩, ⟨E', cfC, kC, iC, fC, q1.1, gC, stC, by rw [q2.1]; exact knV, by rw [q2.1]; exact obV, by rw [q2.2.1]; exact asC, q4⟩,
    ⟨V', ⟨q5.1, State.isArrayOf_alike al'.symm q5.2.1, q5.2.2.1⟩, q6, by rw [← al'.findClass]; exact q7, q8, fun j hj => by have := q9 j hj; rwa [Nat.zero_add] at this⟩, fun O n d w F n1 n2 => ?_⟩, hl, hc, hs⟩, st⟩
  · intro y hy
    simp only [List.mem_cons, List.not_mem_nil, or_false] at hy
    rcases hy with rfl | rfl <;> rfl
  · by_cases q : y = x
    · subst q
      cases hD.symm.trans hy
      exact ⟨E', q1.1, q2.2.1, q2.1, hsz⟩
    · exact ⟨cy, q10 y cy q hy, rfl, rfl, rfl⟩
  · obtain ⟨D3, cf, k, i, f, g1, g2, g3, g4, g5, g6, g7⟩ := F
    cases hD.symm.trans g1
    simp only [RoadKit.slotOf, g2, gV, gC, Option.map_some, Option.getD_some] at n1 n2
    exact ⟨E', cf, k, i, f, q1.1, g2, g3, by rw [q2.1]; exact g4, by rw [q2.1]; exact g5, by rw [q2.2.1]; exact g6, by rw [q2.2.2 f.slot (by simp [n1, n2])]; exact g7⟩
end StrChars.Road
namespace StrChars.Road
open Jvm Sem ClassFile Op Lib Jvm.Stand Jvm.Free Jvm.Free.XT
/-- WHAT COMES BACK, the byte[] as a list of values -/
def QA (Z : State) (x : Addr) (zn : Int32) (cs : List Int32) (h : Heap) (v : Option Value) (h' : Heap) (L : List Loc) : Prop := v = none ∧ (∀ y ∈ L, y.base = x) ∧ RoadKit.Keep h h' [x] ∧ h'.size = h.size + 1 ∧ RoadKit.Exa Z h' x ST ∧ RoadKit.Fld Z h' x ST "value" "[B" (.ref h.size) ∧ RoadKit.Fld Z h' x ST "coder" "B" (.int 0) ∧
  (∃ kb, Z.vm.findClass "[B" = some kb ∧ RoadKit.Arv Z h' h.size kb .byte zn (cs.map fun c => .int (lo8 c)) (.int 0)) ∧
  ∀ (O n d : String) (w : Value), RoadKit.Fld Z h x O n d w → RoadKit.slotOf Z O n d ≠ RoadKit.slotOf Z ST "value" "[B" → RoadKit.slotOf Z O n d ≠ RoadKit.slotOf Z ST "coder" "B" → RoadKit.Fld Z h' x O n d w
/-- **new String(chars) AT A CALL, THE ARRAYS AS LISTS**: the char[] at b holds cs, not empty, no char above 255 -/
theorem backArv {p : Program} {l : Launch} {e : Env} {R : Room} {s : State} {args : Array Value} {below : List Frame} {len W : Nat} {Z : State} {a0 : Array Value} {h : Heap} (hZ : Z.Warmed39 s.vm) (hw : ∀ d ∈ words, d.before a0 Z = true) {kI : Nat} (wi : (Jvm.Cond.instantiable ST kI).before a0 Z = true)
    {x b : Addr} {k : ClassId} {zn z : Int32} {cs : List Int32} {dv v0 c0 : Value} (E : RoadKit.Exa Z h x ST) (V : RoadKit.Fld Z h x ST "value" "[B" v0) (C : RoadKit.Fld Z h x ST "coder" "B" c0) (K : RoadKit.Arv Z h b k .char zn (cs.map Value.int) dv) (S : RoadKit.Sta Z h ST "COMPACT_STRINGS" "Z" (.int z)) (hz : ¬ z = 0)
    (hlen : zn.toNatClampNeg = cs.length) (h0 : 0 < cs.length) (hbig : cs.length ≤ 536870912) (hall : ∀ c ∈ cs, ¬ 255 < c) (hfr : 4 ≤ R.frames) (hlo : W + 65 ≤ R.locals) :
    Back l R p e below s args New1.yN len W (fun P a => a = #[.ref x, .ref b] ∧ P.U.heap = h ∧ P.cells + 1 ≤ R.cells ∧ P.slots + cs.length ≤ R.slots)
      (fun P _ v B => ∃ L, QA Z x zn cs h v B.U.heap L ∧ B.locs = P.locs ++ L ∧ B.cells = P.cells + 1 ∧ B.slots = P.slots + cs.length) := by
  obtain ⟨A, K1, K2, K3, K4, K5, K6⟩ := K
  have e : A.slots.size = cs.length := K3.trans hlen
  have hat : ∀ (i : Nat) (hi : i < cs.length), A.slots[i]? = some (.int cs[i]) := fun i hi => by rw [K5 i (by omega)]; simp [List.getD_eq_getElem?_getD, hi]
  have hcv : ∀ (i : Nat) (hi : i < cs.length), cv A i = cs[i] := fun i hi => by unfold cv; rw [hat i hi]
  have hty : Typed .char A := fun i v hv => by
    have hi : i < A.slots.size := (Array.getElem?_eq_some_iff.mp hv).1
    have q := K5 i hi
    rw [hv] at q
    rw [Option.some.inj q]
    exact K6 i hi
  refine Back.mono (back hZ hw wi E V C K1 hty S hz (by omega) (by omega) (fun i hi => by rw [hcv i (by omega)]; exact hall _ (List.getElem_mem _)) hfr hlo) (fun P a hp => ⟨hp.1, hp.2.1, hp.2.2.1, by rw [e]; exact hp.2.2.2⟩) (fun P a v B hp hq => ?_)
  obtain ⟨L, ⟨q1, q2, q3, q4, q5, q6, q7, ⟨V', v1, v2, v3, v4, v5⟩, q9⟩, hl, hc, hs⟩ := hq
  refine ⟨L, ⟨q1, q2, q3, q4, q5, q6, q7, ⟨V'.cls, v3, V', v1, rfl, by rw [v4, e, hlen], K4, fun i hi => ?_, fun i hi => ?_⟩, q9⟩, hl, hc, by rw [hs, e]⟩
  · have hi' : i < cs.length := by omega
    rw [v5 i (by omega), hcv i hi']; simp [List.getD_eq_getElem?_getD, hi']
  · have hi' : i < cs.length := by omega
    simp only [List.getD_eq_getElem?_getD, List.getElem?_map, List.getElem?_eq_getElem hi', Option.map_some, Option.getD_some]
    exact fits_lo8 _
end StrChars.Road
namespace StrChars.Road
open Jvm Sem ClassFile Op Lib Jvm.Stand Jvm.Free Jvm.Free.XT
/-- WHAT COMES BACK, in the writer's own shape -/
def QV (Z : State) (x : Addr) (N : Int32) (bs : List Int32) (h : Heap) (n0 : Nat) (v : Option Value) (h' : Heap) (L : List Loc) : Prop := v = none ∧ RoadKit.Fr n0 L ∧ RoadKit.Keep h h' [x] ∧ RoadKit.Exa Z h' x ST ∧ RoadKit.Fld Z h' x ST "coder" "B" (.int 0) ∧
  ∃ (t : Addr) (kb : ClassId), n0 ≤ t ∧ h.size ≤ t ∧ ¬ t = x ∧ RoadKit.Fld Z h' x ST "value" "[B" (.ref t) ∧ RoadKit.Arv Z h' t kb .byte N (bs.map Value.int) (.int 0)
/-- **new String(chars) AT A CALL, FOR THE WRITER**: a char[] of n known ints, each 0 to 255 -/
theorem backV {p : Program} {l : Launch} {e : Env} {R : Room} {s : State} {args : Array Value} {below : List Frame} {len W : Nat} {Z : State} {a0 : Array Value} {h : Heap} (hZ : Z.Warmed39 s.vm) (hw : ∀ d ∈ words, d.before a0 Z = true) {kI : Nat} (wi : (Jvm.Cond.instantiable ST kI).before a0 Z = true)
    {x b : Addr} {kC : ClassId} {cs bs : List Int32} {d v0 c0 : Value} {z N : Int32} {n n0 : Nat} (hx0 : n0 ≤ x) (hh0 : n0 ≤ h.size) (E : RoadKit.Exa Z h x ST) (V : RoadKit.Fld Z h x ST "value" "[B" v0) (C : RoadKit.Fld Z h x ST "coder" "B" c0) (K : RoadKit.Arv Z h b kC .char N (cs.map Value.int) d) (S : RoadKit.Sta Z h ST "COMPACT_STRINGS" "Z" (.int z)) (hz : ¬ z = 0)
    (hn : cs.length = n) (hN : N = Int32.ofNat n) (l0 : 0 < n) (l2 : n ≤ 4000) (hp : ∀ c ∈ cs, ¬ c < 0 ∧ ¬ (255 : Int32) < c) (hb : bs = cs.map (fun c => c.toInt8.toInt32)) (hfr : 4 ≤ R.frames) (hlo : W + 65 ≤ R.locals) :
    Back l R p e below s args (⟨"java/lang/String", "<init>", "([C)V"⟩ : MethodName) len W (fun P a => a = #[.ref x, .ref b] ∧ P.U.heap = h ∧ P.cells + 1 ≤ R.cells ∧ P.slots + n ≤ R.slots)
      (fun P _ v B => ∃ L, QV Z x N bs h n0 v B.U.heap L ∧ B.locs = P.locs ++ L ∧ B.cells = P.cells + 1 ∧ B.slots = P.slots + n) := by
  subst hn hN hb
  refine Back.mono (backArv hZ hw wi E V C K S hz (n32 (by omega)) l0 (by omega) (fun c hc => (hp c hc).2) hfr hlo) (fun P a hp => hp) (fun P a v B hp hq => ?_)
  obtain ⟨L, ⟨q1, q2, q3, q4, q5, q6, q7, ⟨kb, v1, v2⟩, q9⟩, hl, hc, hs⟩ := hq
  exact ⟨L, ⟨q1, fun y hy => by rw [q2 y hy]; exact hx0, q3, q5, q7, h.size, kb, hh0, Nat.le_refl _, Nat.ne_of_gt E.lt, q6, by rw [List.map_map]; exact v2⟩, hl, hc, hs⟩
end StrChars.Road
namespace StrChars
open Jvm Sem ClassFile Op Lib Jvm.Stand Jvm.Free.XT Jvm.Free.ALB Jvm.Free.JM Jvm.Free
open Jvm.Lib.Cold (StaticIs)
def hi8 (x : Int32) : Int32 := lo8 (x >>> ((8 : Int32) &&& 31))
/-- what StringUTF16.getChar makes of two bytes -/
def pairCh (u v : Int32) : Int32 := (((u &&& 255) <<< ((0 : Int32) &&& 31)) ||| ((v &&& 255) <<< ((8 : Int32) &&& 31))).toUInt32.toUInt16.toUInt32.toInt32
theorem shr0 (c : Int32) : c >>> ((0 : Int32) &&& 31) = c := by
  have e : ((0 : Int32) &&& 31) = 0 := by decide
  rw [e]
  apply Int32.toBitVec_inj.mp
  rw [Int32.toBitVec_shiftRight]
  have e1 : ((0 : Int32).toBitVec.smod 32) = 0#32 := by decide
  rw [e1, BitVec.sshiftRight_eq']
  exact BitVec.sshiftRight_zero
theorem lo8_and (x : Int32) : (lo8 x &&& 255).toBitVec.toNat = x.toBitVec.toNat % 256 := by
  have h : (lo8 x).toBitVec = (x.toBitVec.signExtend 8).signExtend 32 := by rw [lo8, Int8.toBitVec_toInt32, Int32.toBitVec_toInt8]
  rw [Int32.toBitVec_and, BitVec.toNat_and, h]
  have e : ((x.toBitVec.signExtend 8).signExtend 32).toNat % 256 = x.toBitVec.toNat % 256 := by
    rw [BitVec.toNat_signExtend]
    have hlt := x.toBitVec.isLt
    simp only [BitVec.toNat_setWidth, BitVec.toNat_signExtend]
    split <;> split <;> omega
  rw [← e]
  exact Nat.and_two_pow_sub_one_eq_mod _ 8
theorem pair_says {c : Int32} (h0 : ¬ c < 0) (h1 : ¬ 65535 < c) : pairCh (lo8 c) (hi8 c) = c := by
  rw [Int32.lt_iff_toInt_lt] at h0 h1
  have e0 : (0 : Int32).toInt = 0 := rfl
  have e1 : (65535 : Int32).toInt = 65535 := rfl
  have hc : c.toInt = c.toBitVec.toNat := by
    have := c.toBitVec.isLt
    have e : c.toInt = c.toBitVec.toInt := rfl
    rw [e] at h0 h1
    rw [e]
    rw [BitVec.toInt_eq_toNat_cond] at h0 h1 ⊢
    split at h0 <;> split <;> omega
  have hn : c.toBitVec.toNat < 65536 := by omega
  have a1 := lo8_and c
  have a2 : (hi8 c &&& 255).toBitVec.toNat = c.toBitVec.toNat / 256 := by
    rw [hi8, lo8_and]
    have e : ((8 : Int32) &&& 31) = 8 := by decide
    rw [e, Int32.toBitVec_shiftRight]
    have e2 : ((8 : Int32).toBitVec.smod 32) = 8#32 := by decide
    rw [e2, BitVec.sshiftRight_eq', BitVec.toNat_sshiftRight_of_msb_false (by rw [BitVec.msb_eq_false_iff_two_mul_lt]; omega)]
    show c.toBitVec.toNat >>> 8 % 256 = _
    rw [Nat.shiftRight_eq_div_pow]
    omega
  unfold pairCh
  apply Int32.toBitVec_inj.mp
  apply BitVec.eq_of_toNat_eq
  have f0 : ((0 : Int32) &&& 31) = 0 := by decide
  have f8 : ((8 : Int32) &&& 31) = 8 := by decide
  rw [f0, f8]
  have g : (((lo8 c &&& 255) <<< (0 : Int32)) ||| ((hi8 c &&& 255) <<< (8 : Int32))).toBitVec.toNat = c.toBitVec.toNat := by
    rw [Int32.toBitVec_or, Int32.toBitVec_shiftLeft, Int32.toBitVec_shiftLeft]
    have s0 : ((0 : Int32).toBitVec.smod 32) = 0#32 := by decide
    have s8 : ((8 : Int32).toBitVec.smod 32) = 8#32 := by decide
    rw [s0, s8, BitVec.toNat_or]
    simp only [BitVec.shiftLeft_eq', BitVec.toNat_shiftLeft, a1, a2]
    show (c.toBitVec.toNat % 256) <<< 0 % 2 ^ 32 ||| (c.toBitVec.toNat / 256) <<< 8 % 2 ^ 32 = _
    rw [Nat.shiftLeft_zero, Nat.mod_eq_of_lt (show c.toBitVec.toNat % 256 < 2 ^ 32 by omega), Nat.mod_eq_of_lt (show (c.toBitVec.toNat / 256) <<< 8 < 2 ^ 32 by rw [Nat.shiftLeft_eq]; omega), Nat.or_comm, ← Nat.shiftLeft_add_eq_or_of_lt (by omega), Nat.shiftLeft_eq]
    omega
  show BitVec.toNat (((((lo8 c &&& 255) <<< (0 : Int32)) ||| ((hi8 c &&& 255) <<< (8 : Int32))).toBitVec.setWidth 16).setWidth 32) = _
  rw [BitVec.toNat_setWidth, BitVec.toNat_setWidth, g]
  omega
end StrChars
namespace StrChars
open Jvm Sem ClassFile Op Lib Jvm.Stand Jvm.Free.XT Jvm.Free.ALB Jvm.Free.JM Jvm.Free
open Jvm.Lib.Cold (StaticIs)
theorem shr1 {n : Nat} (h : 2 * n < 2 ^ 31) : Int32.ofNat (2 * n) >>> ((1 : Int32) &&& 31) = Int32.ofNat n := by
  have e : ((1 : Int32) &&& 31) = 1 := by decide
  rw [e]
  apply Int32.toBitVec_inj.mp
  rw [Int32.toBitVec_shiftRight]
  have e1 : ((1 : Int32).toBitVec.smod 32) = 1#32 := by decide
  have hm : (BitVec.ofNat 32 (2 * n)).toNat = 2 * n := by rw [BitVec.toNat_ofNat, Nat.mod_eq_of_lt (by omega)]
  rw [e1, BitVec.sshiftRight_eq']
  apply BitVec.eq_of_toNat_eq
  show ((BitVec.ofNat 32 (2 * n)).sshiftRight 1).toNat = (BitVec.ofNat 32 n).toNat
  rw [BitVec.toNat_sshiftRight_of_msb_false (by rw [BitVec.msb_eq_false_iff_two_mul_lt, hm]; omega), hm, BitVec.toNat_ofNat, Nat.shiftRight_eq_div_pow]
  omega
/-- charAt's cast of a byte read back -/
def chr8 (u : Int32) : Int32 := (u &&& 255).toUInt32.toUInt16.toUInt32.toInt32
theorem chr8_lo8 {c : Int32} (h0 : ¬ c < 0) (h1 : ¬ 255 < c) : chr8 (lo8 c) = c := by
  have t : ∀ k : Fin 256, (Int32.ofNat k.val).toUInt32.toUInt16.toUInt32.toInt32 = Int32.ofNat k.val := by decide +kernel
  unfold chr8
  rw [lo8_mask h0 h1]
  rw [Int32.lt_iff_toInt_lt] at h0 h1
  have e0 : (0 : Int32).toInt = 0 := rfl
  have e1 : (255 : Int32).toInt = 255 := rfl
  obtain ⟨k, hk⟩ : ∃ k : Nat, c.toInt = k := ⟨c.toInt.toNat, by omega⟩
  have hx : c = Int32.ofNat k := Int32.toInt_inj.mp (by rw [hk, Int32.toInt_ofNat_small (by omega)])
  rw [hx]
  exact t ⟨k, by omega⟩
theorem narrow_ch {c : Int32} (h0 : ¬ c < 0) (h1 : ¬ 65535 < c) : narrow .char (.int c) = .int c := by
  have q : narrow .char (.int (pairCh (lo8 c) (hi8 c))) = .int (pairCh (lo8 c) (hi8 c)) := narrow_c _
  rwa [pair_says h0 h1] at q
/-- the array's cell V codes the n chars f 0 .. f (n - 1) by the coder cd, as the JDK does: coder 1 just where some char is above 255 -/
def Cod (cd : Int32) (n : Nat) (f : Nat → Int32) (V : Cell) : Prop := (cd = 0 ∧ V.slots.size = n ∧ ∀ j, j < n → V.slots[j]? = some (.int (lo8 (f j))) ∧ ¬ 255 < f j) ∨ (cd = 1 ∧ V.slots.size = 2 * n ∧ (∀ j, j < n → V.slots[2 * j]? = some (.int (lo8 (f j))) ∧ V.slots[2 * j + 1]? = some (.int (hi8 (f j)))) ∧ ∃ j, j < n ∧ 255 < f j)
theorem Cod.cd {cd : Int32} {n : Nat} {f : Nat → Int32} {V : Cell} (h : Cod cd n f V) : cd = 0 ∨ cd = 1 := h.imp (fun q => q.1) fun q => q.1
theorem Cod.len {cd : Int32} {n : Nat} {f : Nat → Int32} {V : Cell} (h : Cod cd n f V) (hs : V.slots.size < 2 ^ 31) : Int32.ofNat V.slots.size >>> (cd &&& 31) = Int32.ofNat n := by
  rcases h with ⟨rfl, h, -⟩ | ⟨rfl, h, -⟩
  · rw [shr0, h]
  · rw [h, shr1 (by omega)]
/-- **x is a String of the n chars f 0 .. f (n - 1)**, Latin-1 or UTF-16; its array at t has the cell V -/
def Txt (x t : Addr) (V : Cell) (cd : Int32) (n : Nat) (f : Nat → Int32) (U : State) : Prop := Exact "java/lang/String" x U ∧ Has x "java/lang/String" "value" "[B" (.ref t) U ∧ Has x "java/lang/String" "coder" "B" (.int cd) U ∧ XT.Arr .byte t V U ∧ Cod cd n f V ∧ ∀ j, j < n → ¬ f j < 0 ∧ ¬ 65535 < f j
theorem Txt.mv {x t : Addr} {V : Cell} {cd : Int32} {n : Nat} {f : Nat → Int32} {U U' : State} (h : Txt x t V cd n f U) (hal : U.vm.Alike U'.vm) (hh : U'.heap = U.heap) : Txt x t V cd n f U' := ⟨h.1.mv hal hh, h.2.1.mv hal hh, h.2.2.1.mv hal hh, h.2.2.2.1.mv hal hh, h.2.2.2.2⟩
namespace Cdr
def yN : MethodName := ⟨"java/lang/String", "coder", "()B"⟩
abbrev yB : ByteArray := jdk_42_method_152_code
theorem d0 : decode yB 0 = .ok (.getstatic 38, 3) := by decide +kernel
theorem d3 : decode yB 3 = .ok (.ifCond (.eq) 10, 3) := by decide +kernel
theorem d6 : decode yB 6 = .ok (.aload_n 0, 1) := by decide +kernel
theorem d7 : decode yB 7 = .ok (.getfield 15, 3) := by decide +kernel
theorem d10 : decode yB 10 = .ok (.goto 4, 3) := by decide +kernel
theorem d14 : decode yB 14 = .ok (.ireturn, 1) := by decide +kernel
def site : List Cond := [.fieldLink "java/lang/String" 38 "java/lang/String" "COMPACT_STRINGS" "Z", .fieldLink "java/lang/String" 15 "java/lang/String" "coder" "B"]
def tab : Cond := tabOf yN yB 1 (some .byte) site
def P (x : Addr) (cd z : Int32) (args : Array Value) (s : State) : Prop := args = #[.ref x] ∧ Has x "java/lang/String" "coder" "B" (.int cd) s ∧ (cd = 0 ∨ cd = 1) ∧ StaticIs s "java/lang/String" "COMPACT_STRINGS" "Z" (.int z) ∧ ¬ z = 0
def E (cd : Int32) (r : Option Value) (s u : State) : Prop := XT.PureE (some (.int cd)) r s u
theorem law (l : Launch) (x : Addr) (cd z : Int32) : Law l yN 1 0 0 0 yB 1 (some .byte) site (P x cd z) (E cd) [] 0 0 := by
  refine Law.of_walk (plainFor_of_name (by decide +kernel)) (by decide +kernel) (by decide +kernel) (by decide) (fun _ _ h => by rw [h.1]; rfl) (fun _ U U' hal hh h => ⟨h.1, h.2.1.mv hal hh, h.2.2.1, h.2.2.2.1.there hal hh, h.2.2.2.2⟩) (fun r U U' V V' h1 hal h2 h => XT.PureE.mv r U U' V V' h1 hal h2 h) ?_
  intro p e s m args below meth c s₁ X0 hexec hbytes hml hret hlk hnm hown hh0 W hP
  obtain ⟨rfl, hx, hc, s1, hz⟩ := hP
  have c1 : Steps p.tables e below (s₁.setTop (entryFrame m #[.ref x] 1)) (s₁.setTop (mkF m 0 #[.val (.ref x)] [])) := entry rfl
  obtain ⟨T2, X2, q2, st2⟩ := X0.sget hexec hown (wk W (.fieldLink "java/lang/String" 38 "java/lang/String" "COMPACT_STRINGS" "Z")) s1 (fun _ _ h => by rw [hh0]; exact h) (g := (mkF m 0 #[.val (.ref x)] [])) rfl (hb hbytes d0)
  have hh2 := q2.trans hh0
  have c3 : Steps p.tables e below (s₁.setTop (entryFrame m #[.ref x] 1)) (T2.setTop (mkF m 7 #[.val (.ref x)] [.ref x])) := (c1.trans (st2 _ (Steps.refl _))).trans (by
    refine XS.ifNo X2.here hexec rfl (hb hbytes d3) rfl (i0_eq_f hz) ?_
    refine XS.aloadN X2.here hexec rfl (hb hbytes d6) rfl rfl ?_
    exact Steps.refl _)
  obtain ⟨T4, X4, q4, st4⟩ := X2.hget hexec hown (wk W (.fieldLink "java/lang/String" 15 "java/lang/String" "coder" "B")) (hx.mv X2.warmed.alike hh2) (g := (mkF m 7 #[.val (.ref x)] [.ref x])) rfl (rest := []) rfl (hb hbytes d7)
  have c5 : Steps p.tables e below (s₁.setTop (entryFrame m #[.ref x] 1)) (T4.setTop (mkF m 14 #[.val (.ref x)] [.int cd])) := (c3.trans (st4 _ (Steps.refl _))).trans (by
    refine XS.goto X4.here hexec rfl (pc0 := 10) rfl (hb hbytes d10) (by decide) rfl ?_
    exact Steps.refl _)
  exact ⟨T4, some (.int cd), _, _, _, X4, rfl, rfl, rfl, (fun h => by cases h), ⟨rfl, q4.trans hh2⟩, fun fs hl => c5.trans (X4.ireturnOut hexec hret (by rcases hc with rfl | rfl <;> rfl) (Or.inr (Or.inr (Or.inl rfl))) (hb hbytes d14) hl)⟩
end Cdr
namespace Len
def yN : MethodName := ⟨"java/lang/String", "length", "()I"⟩
abbrev yB : ByteArray := jdk_42_method_54_code
theorem d0 : decode yB 0 = .ok (.aload_n 0, 1) := by decide +kernel
theorem d1 : decode yB 1 = .ok (.getfield 9, 3) := by decide +kernel
theorem d4 : decode yB 4 = .ok (.arraylength, 1) := by decide +kernel
theorem d5 : decode yB 5 = .ok (.aload_n 0, 1) := by decide +kernel
theorem d6 : decode yB 6 = .ok (.invokevirtual 335, 3) := by decide +kernel
theorem d9 : decode yB 9 = .ok (.ishr, 1) := by decide +kernel
theorem d10 : decode yB 10 = .ok (.ireturn, 1) := by decide +kernel
def site : List Cond := [.fieldLink "java/lang/String" 9 "java/lang/String" "value" "[B", Cdr.tab] ++ virtW "java/lang/String" 335 "java/lang/String" Cdr.yN Cdr.yN
def tab : Cond := tabOf yN yB 1 (some .int) site
def P (x t : Addr) (V : Cell) (cd : Int32) (n : Nat) (f : Nat → Int32) (z : Int32) (args : Array Value) (s : State) : Prop := args = #[.ref x] ∧ Txt x t V cd n f s ∧ StaticIs s "java/lang/String" "COMPACT_STRINGS" "Z" (.int z) ∧ ¬ z = 0
def E (n : Nat) (r : Option Value) (s u : State) : Prop := XT.PureE (some (.int (Int32.ofNat n))) r s u
/-- length() of a String of n chars, in either coding -/
theorem law (l : Launch) (x t : Addr) (V : Cell) (cd : Int32) (n : Nat) (f : Nat → Int32) (z : Int32) : Law l yN 1 0 1 13 yB 1 (some .int) site (P x t V cd n f z) (E n) [] 0 0 := by
  refine Law.of_walk (plainFor_of_name (by decide +kernel)) (by decide +kernel) (by decide +kernel) (by decide) (fun _ _ h => by rw [h.1]; rfl) (fun _ U U' hal hh h => ⟨h.1, h.2.1.mv hal hh, h.2.2.1.there hal hh, h.2.2.2⟩) (fun r U U' V V' h1 hal h2 h => XT.PureE.mv r U U' V V' h1 hal h2 h) ?_
  intro p e s m args below meth c s₁ X0 hexec hbytes hml hret hlk hnm hown hh0 W hP
  obtain ⟨rfl, hx, s1, hz⟩ := hP
  have v31 := hx.2.2.2.1.2.2.2
  have c1 : Steps p.tables e below (s₁.setTop (entryFrame m #[.ref x] 1)) (s₁.setTop (mkF m 1 #[.val (.ref x)] [.ref x])) := Steps.trans (entry rfl) (by
    show Steps p.tables e below (s₁.setTop (mkF m 0 #[.val (.ref x)] [])) _
    refine XS.aloadN X0.here hexec rfl (hb hbytes d0) rfl rfl ?_
    exact Steps.refl _)
  obtain ⟨T2, X2, q2, st2⟩ := X0.hget hexec hown (wk W (.fieldLink "java/lang/String" 9 "java/lang/String" "value" "[B")) (hx.mv X0.warmed.alike hh0).2.1 (g := (mkF m 1 #[.val (.ref x)] [.ref x])) rfl (rest := []) rfl (hb hbytes d1)
  have hh2 := q2.trans hh0
  have hx2 := hx.mv X2.warmed.alike hh2
  have c3 : Steps p.tables e below (s₁.setTop (entryFrame m #[.ref x] 1)) (T2.setTop (mkF m 6 #[.val (.ref x)] [.ref x, .int (Int32.ofNat V.slots.size)])) := (c1.trans (st2 _ (Steps.refl _))).trans (by
    refine X2.alen hexec hx2.2.2.2.1 rfl rfl (hb hbytes d4) ?_
    refine XS.aloadN X2.here hexec rfl (hb hbytes d5) rfl rfl ?_
    exact Steps.refl _)
  obtain ⟨v4, T4, X4, E4, g4⟩ := X2.callV hexec (Cdr.law l x cd z) hown (wks W (virtW "java/lang/String" 335 "java/lang/String" Cdr.yN Cdr.yN)) rfl (by decide) (wk W Cdr.tab) (W := 1) (Nat.le_of_ble_eq_true rfl) (Nat.le_of_ble_eq_true rfl) (Nat.le_refl _) (Nat.le_refl _) (hx2.1.fc X2.warmed.alike) hx2.1.is (g := (mkF m 6 #[.val (.ref x)] [.ref x, .int (Int32.ofNat V.slots.size)])) rfl (by rw [hml]; rfl) c3 (argsL := []) (rest := [.int (Int32.ofNat V.slots.size)]) rfl rfl (by show 2 * 0 + (1 + 0) ≤ _; decide) (hb hbytes d6) (⟨rfl, hx2.2.2.1, hx.2.2.2.2.1.cd, s1.there X2.warmed.alike hh2, hz⟩)
  obtain ⟨rfl, q4⟩ := E4
  have c5 : Steps p.tables e below (s₁.setTop (entryFrame m #[.ref x] 1)) (T4.setTop (mkF m 10 #[.val (.ref x)] [.int (Int32.ofNat V.slots.size >>> (cd &&& 31))])) := Steps.trans g4 (by
    refine ishr X4.here hexec rfl (hb hbytes d9) rfl ?_
    exact Steps.refl _)
  rw [hx.2.2.2.2.1.len v31] at c5
  exact ⟨T4, some (.int (Int32.ofNat n)), _, _, _, X4, rfl, rfl, rfl, (fun h => by cases h), ⟨rfl, q4.trans hh2⟩, fun fs hl => c5.trans (X4.ireturnOut hexec hret rfl (Or.inl rfl) (hb hbytes d10) hl)⟩
theorem pays {l : Launch} {R : Room} {p : Program} {e : Env} {below : List Frame} {s : State} {sargs : Array Value} {len W : Nat} (x t : Addr) (V : Cell) (cd : Int32) (n : Nat) (f : Nat → Int32) (z : Int32) (htab : tab.before sargs s = true) (hfr : 2 ≤ R.frames) (hlo : W + 25 ≤ R.locals) :
    Back l R p e below s sargs yN len W (fun A₁ a₁ => A₁.cells + 0 ≤ R.cells ∧ A₁.slots + 0 ≤ R.slots ∧ P x t V cd n f z a₁ A₁.U) (fun A₁ _ v₁ B₁ => E n v₁ A₁.U B₁.U ∧ B₁.locs = A₁.locs ++ [] ∧ B₁.cells = A₁.cells + 0 ∧ B₁.slots = A₁.slots + 0) :=
  (law l x t V cd n f z).pays htab hfr (by omega)
end Len
namespace IsL
def yN : MethodName := ⟨"java/lang/String", "isLatin1", "()Z"⟩
abbrev yB : ByteArray := jdk_42_method_154_code
theorem d0 : decode yB 0 = .ok (.getstatic 38, 3) := by decide +kernel
theorem d3 : decode yB 3 = .ok (.ifCond (.eq) 14, 3) := by decide +kernel
theorem d6 : decode yB 6 = .ok (.aload_n 0, 1) := by decide +kernel
theorem d7 : decode yB 7 = .ok (.getfield 15, 3) := by decide +kernel
theorem d10 : decode yB 10 = .ok (.ifCond (.ne) 7, 3) := by decide +kernel
theorem d13 : decode yB 13 = .ok (.iconst 1, 1) := by decide +kernel
theorem d14 : decode yB 14 = .ok (.goto 4, 3) := by decide +kernel
theorem d17 : decode yB 17 = .ok (.iconst 0, 1) := by decide +kernel
theorem d18 : decode yB 18 = .ok (.ireturn, 1) := by decide +kernel
def site : List Cond := [.fieldLink "java/lang/String" 38 "java/lang/String" "COMPACT_STRINGS" "Z", .fieldLink "java/lang/String" 15 "java/lang/String" "coder" "B"]
def tab : Cond := tabOf yN yB 1 (some .boolean) site
def P (x : Addr) (cd z : Int32) (args : Array Value) (s : State) : Prop := args = #[.ref x] ∧ Has x "java/lang/String" "coder" "B" (.int cd) s ∧ (cd = 0 ∨ cd = 1) ∧ StaticIs s "java/lang/String" "COMPACT_STRINGS" "Z" (.int z) ∧ ¬ z = 0
def E (cd : Int32) (r : Option Value) (s u : State) : Prop := XT.PureE (some (.int (1 - cd))) r s u
theorem law (l : Launch) (x : Addr) (cd z : Int32) : Law l yN 1 0 0 0 yB 1 (some .boolean) site (P x cd z) (E cd) [] 0 0 := by
  refine Law.of_walk (plainFor_of_name (by decide +kernel)) (by decide +kernel) (by decide +kernel) (by decide) (fun _ _ h => by rw [h.1]; rfl) (fun _ U U' hal hh h => ⟨h.1, h.2.1.mv hal hh, h.2.2.1, h.2.2.2.1.there hal hh, h.2.2.2.2⟩) (fun r U U' V V' h1 hal h2 h => XT.PureE.mv r U U' V V' h1 hal h2 h) ?_
  intro p e s m args below meth c s₁ X0 hexec hbytes hml hret hlk hnm hown hh0 W hP
  obtain ⟨rfl, hx, hc, s1, hz⟩ := hP
  have c1 : Steps p.tables e below (s₁.setTop (entryFrame m #[.ref x] 1)) (s₁.setTop (mkF m 0 #[.val (.ref x)] [])) := entry rfl
  obtain ⟨T2, X2, q2, st2⟩ := X0.sget hexec hown (wk W (.fieldLink "java/lang/String" 38 "java/lang/String" "COMPACT_STRINGS" "Z")) s1 (fun _ _ h => by rw [hh0]; exact h) (g := (mkF m 0 #[.val (.ref x)] [])) rfl (hb hbytes d0)
  have hh2 := q2.trans hh0
  have c3 : Steps p.tables e below (s₁.setTop (entryFrame m #[.ref x] 1)) (T2.setTop (mkF m 7 #[.val (.ref x)] [.ref x])) := (c1.trans (st2 _ (Steps.refl _))).trans (by
    refine XS.ifNo X2.here hexec rfl (hb hbytes d3) rfl (i0_eq_f hz) ?_
    refine XS.aloadN X2.here hexec rfl (hb hbytes d6) rfl rfl ?_
    exact Steps.refl _)
  obtain ⟨T4, X4, q4, st4⟩ := X2.hget hexec hown (wk W (.fieldLink "java/lang/String" 15 "java/lang/String" "coder" "B")) (hx.mv X2.warmed.alike hh2) (g := (mkF m 7 #[.val (.ref x)] [.ref x])) rfl (rest := []) rfl (hb hbytes d7)
  have c5 : Steps p.tables e below (s₁.setTop (entryFrame m #[.ref x] 1)) (T4.setTop (mkF m 10 #[.val (.ref x)] [.int cd])) := c3.trans (st4 _ (Steps.refl _))
  have c6 : Steps p.tables e below (s₁.setTop (entryFrame m #[.ref x] 1)) (T4.setTop (mkF m 18 #[.val (.ref x)] [.int (1 - cd)])) := by
    rcases hc with rfl | rfl
    · exact c5.trans (by
        refine XS.ifNo X4.here hexec rfl (hb hbytes d10) rfl (i0_ne_f rfl) ?_
        refine iconstV X4.here hexec rfl 1 (hb hbytes d13) (by decide) ?_
        refine XS.goto X4.here hexec rfl (pc0 := 14) rfl (hb hbytes d14) (by decide) rfl ?_
        exact Steps.refl _)
    · exact c5.trans (by
        refine XS.ifYes X4.here hexec rfl (pc0 := 10) rfl (hb hbytes d10) rfl (i0_ne_t (by decide)) (by decide) rfl ?_
        refine iconstV X4.here hexec rfl 0 (hb hbytes d17) (by decide) ?_
        exact Steps.refl _)
  exact ⟨T4, some (.int (1 - cd)), _, _, _, X4, rfl, rfl, rfl, (fun h => by cases h), ⟨rfl, q4.trans hh2⟩, fun fs hl => c6.trans (X4.ireturnOut hexec hret (by rcases hc with rfl | rfl <;> rfl) (Or.inr (Or.inl rfl)) (hb hbytes d18) hl)⟩
end IsL
namespace LChA
def yN : MethodName := ⟨"java/lang/StringLatin1", "charAt", "([BI)C"⟩
abbrev yB : ByteArray := jdk_43_method_2_code
theorem d0 : decode yB 0 = .ok (.iload_n 1, 1) := by decide +kernel
theorem d1 : decode yB 1 = .ok (.aload_n 0, 1) := by decide +kernel
theorem d2 : decode yB 2 = .ok (.arraylength, 1) := by decide +kernel
theorem d3 : decode yB 3 = .ok (.invokestatic 9, 3) := by decide +kernel
theorem d6 : decode yB 6 = .ok (.aload_n 0, 1) := by decide +kernel
theorem d7 : decode yB 7 = .ok (.iload_n 1, 1) := by decide +kernel
theorem d8 : decode yB 8 = .ok (.baload, 1) := by decide +kernel
theorem d9 : decode yB 9 = .ok (.sipush 255, 3) := by decide +kernel
theorem d12 : decode yB 12 = .ok (.iand, 1) := by decide +kernel
theorem d13 : decode yB 13 = .ok (.i2c, 1) := by decide +kernel
theorem d14 : decode yB 14 = .ok (.ireturn, 1) := by decide +kernel
def site : List Cond := [JO.Str_checkIndex.tab] ++ staticW "java/lang/StringLatin1" 9 JO.Str_checkIndex.yN
def tab : Cond := tabOf yN yB 2 (some .char) site
def P (t : Addr) (V : Cell) (i : Nat) (u : Int32) (fm : Value) (args : Array Value) (s : State) : Prop := args = #[.ref t, .int (Int32.ofNat i)] ∧ XT.Arr .byte t V s ∧ V.slots[i]? = some (.int u) ∧ (StaticIs s "jdk/internal/util/Preconditions" "SIOOBE_FORMATTER" "Ljava/util/function/BiFunction;" fm ∧ fm.isRef = true)
def E (u : Int32) (r : Option Value) (s w : State) : Prop := XT.PureE (some (.int (chr8 u))) r s w
theorem law (l : Launch) (t : Addr) (V : Cell) (i : Nat) (u : Int32) (fm : Value) : Law l yN 2 2 2 27 yB 2 (some .char) site (P t V i u fm) (E u) [] 0 0 := by
  refine Law.of_walk (plainFor_of_name (by decide +kernel)) (by decide +kernel) (by decide +kernel) (by decide) (fun _ _ h => by rw [h.1]; rfl) (fun _ U U' hal hh h => ⟨h.1, h.2.1.mv hal hh, h.2.2.1, h.2.2.2.1.there hal hh, h.2.2.2.2⟩) (fun r U U' V V' h1 hal h2 h => XT.PureE.mv r U U' V V' h1 hal h2 h) ?_
  intro p e s m args below meth c s₁ X0 hexec hbytes hml hret hlk hnm hown hh0 W hP
  obtain ⟨rfl, hV, hu, s1, rf⟩ := hP
  have v31 := hV.2.2.2
  have hi : i < V.slots.size := (Array.getElem?_eq_some_iff.mp hu).1
  have c1 : Steps p.tables e below (s₁.setTop (entryFrame m #[.ref t, .int (Int32.ofNat i)] 2)) (s₁.setTop (mkF m 0 #[.val (.ref t), .val (.int (Int32.ofNat i))] [])) := entry rfl
  have c2 : Steps p.tables e below (s₁.setTop (entryFrame m #[.ref t, .int (Int32.ofNat i)] 2)) (s₁.setTop (mkF m 3 #[.val (.ref t), .val (.int (Int32.ofNat i))] [.int (Int32.ofNat V.slots.size), .int (Int32.ofNat i)])) := c1.trans (by
    refine XS.iloadN X0.here hexec rfl (hb hbytes d0) rfl ?_
    refine XS.aloadN X0.here hexec rfl (hb hbytes d1) rfl rfl ?_
    refine X0.alen hexec (hV.mv X0.warmed.alike hh0) rfl rfl (hb hbytes d2) ?_
    exact Steps.refl _)
  obtain ⟨v3, T3, X3, E3, g3⟩ := X0.callS hexec (JO.Str_checkIndex.law l (Int32.ofNat i) (Int32.ofNat V.slots.size) fm) hown (wks W (staticW "java/lang/StringLatin1" 9 JO.Str_checkIndex.yN)) (wk W JO.Str_checkIndex.tab) (W := 0) (Nat.le_of_ble_eq_true rfl) (Nat.le_of_ble_eq_true rfl) (Nat.le_refl _) (Nat.le_refl _) (g := (mkF m 3 #[.val (.ref t), .val (.int (Int32.ofNat i))] [.int (Int32.ofNat V.slots.size), .int (Int32.ofNat i)])) rfl (by rw [hml]; rfl) c2 (argsL := [.int (Int32.ofNat i), .int (Int32.ofNat V.slots.size)]) (rest := []) rfl rfl (by show 2 * 0 + 0 ≤ _; decide) (hb hbytes d3) (⟨rfl, rf, s1.there X0.warmed.alike hh0, Int32.ofNat_not_neg (by omega), lt32 v31 hi⟩)
  obtain ⟨rfl, q3⟩ := E3
  have hh3 := q3.trans hh0
  have c4 : Steps p.tables e below (s₁.setTop (entryFrame m #[.ref t, .int (Int32.ofNat i)] 2)) (T3.setTop (mkF m 14 #[.val (.ref t), .val (.int (Int32.ofNat i))] [.int (chr8 u)])) := Steps.trans g3 (by
    refine XS.aloadN X3.here hexec rfl (hb hbytes d6) rfl rfl ?_
    refine XS.iloadN X3.here hexec rfl (hb hbytes d7) rfl ?_
    refine X3.aget hexec (hV.mv X3.warmed.alike hh3) rfl hu rfl rfl (hb hbytes d8) ?_
    refine sipushV X3.here hexec rfl 255 (hb hbytes d9) (by decide) ?_
    refine XS.iand X3.here hexec rfl (hb hbytes d12) rfl ?_
    refine i2c X3.here hexec rfl (hb hbytes d13) rfl ?_
    exact Steps.refl _)
  exact ⟨T3, some (.int (chr8 u)), _, _, _, X3, rfl, rfl, rfl, (fun h => by cases h), ⟨rfl, hh3⟩, fun fs hl => c4.trans (X3.ireturnOut hexec hret (narrow_c _) (Or.inr (Or.inr (Or.inr (Or.inl rfl)))) (hb hbytes d14) hl)⟩
end LChA
end StrChars
namespace StrChars.Road
open Jvm Sem ClassFile Op Lib Jvm.Stand Jvm.Free Jvm.Free.XT
open Jvm.Lib.Cold (StaticIs)
theorem consq {a : Array Value} {s : State} {c : Jvm.Cond} {L : List Jvm.Cond} (h0 : c.before a s = true) (h : ∀ w ∈ L, w.before a s = true) : ∀ w ∈ c :: L, w.before a s = true := fun w hw => (List.mem_cons.mp hw).elim (fun e => e ▸ h0) (h w)
/-- the words of String.length(), either coding -/
abbrev wordsLen : List Jvm.Cond := [.code Len.yN Len.yB 1 (some .int), .initialized ST, .fieldLink ST 9 ST "value" "[B", .fieldLink ST 38 ST "COMPACT_STRINGS" "Z", .fieldLink ST 15 ST "coder" "B", .code Cdr.yN Cdr.yB 1 (some .byte), .methodLink ST 335 Cdr.yN, .declares Cdr.yN, .selects ST Cdr.yN Cdr.yN, .instanceMethod Cdr.yN]
theorem tabLen_of {a : Array Value} {s : State} (h : ∀ w ∈ wordsLen, w.before a s = true) : Len.tab.before a s = true := by
  have hc : Cdr.tab.before a s = true := unparts (wk h (.code Cdr.yN Cdr.yB 1 (some .byte))) (wks h (.initialized Cdr.yN.cls :: Cdr.site))
  have q := consq hc h
  exact unparts (wk q (.code Len.yN Len.yB 1 (some .int))) (wks q (.initialized Len.yN.cls :: Len.site))
theorem movedLen {Z s : State} {a0 args : Array Value} (hZ : Z.Warmed39 s.vm) (hw : ∀ d ∈ wordsLen, d.before a0 Z = true) : ∀ d ∈ wordsLen, d.before args s = true := fun d hd => by
  have q := hw d hd
  have t : ∀ d ∈ wordsLen, d = .arrayClass .byte ∨ (d.onTables && d.keepsFace) = true := by decide +kernel
  rcases t d hd with rfl | t
  · exact RoadKit.mvA hZ q
  · exact RoadKit.mv hZ q t
/-- the bytes of the chars cs, low before high -/
def wideBytes : List Int32 → List Value
  | [] => []
  | c :: cs => .int (lo8 c) :: .int (hi8 c) :: wideBytes cs
theorem wide_lo (d : Value) : ∀ (cs : List Int32) (j : Nat), j < cs.length → (wideBytes cs).getD (2 * j) d = .int (lo8 (cs.getD j 0))
  | [], j, h => absurd h (Nat.not_lt_zero j)
  | c :: cs, 0, _ => rfl
  | c :: cs, j + 1, h => by
    have q := wide_lo d cs j (by simpa using h)
    rw [show 2 * (j + 1) = 2 * j + 1 + 1 from by omega]
    simpa [wideBytes] using q
theorem wide_hi (d : Value) : ∀ (cs : List Int32) (j : Nat), j < cs.length → (wideBytes cs).getD (2 * j + 1) d = .int (hi8 (cs.getD j 0))
  | [], j, h => absurd h (Nat.not_lt_zero j)
  | c :: cs, 0, _ => rfl
  | c :: cs, j + 1, h => by
    have q := wide_hi d cs j (by simpa using h)
    rw [show 2 * (j + 1) + 1 = 2 * j + 1 + 1 + 1 from by omega]
    simpa [wideBytes] using q
theorem low_at (d : Value) (cs : List Int32) (j : Nat) (h : j < cs.length) : (cs.map fun c => Value.int (lo8 c)).getD j d = .int (lo8 (cs.getD j 0)) := by
  simp [List.getD_eq_getElem?_getD, h]
/-- an array of N2 bytes vs codes the chars cs by the coder cd -/
def CodA (cs : List Int32) (cd N2 : Int32) (vs : List Value) : Prop := (cd = 0 ∧ N2 = Int32.ofNat cs.length ∧ vs = (cs.map fun c => Value.int (lo8 c)) ∧ ∀ c ∈ cs, ¬ 255 < c) ∨ (cd = 1 ∧ N2 = Int32.ofNat (2 * cs.length) ∧ vs = wideBytes cs ∧ ∃ c ∈ cs, 255 < c)
theorem CodA.cod {cs : List Int32} {cd N2 : Int32} {vs : List Value} {V : Cell} (h : CodA cs cd N2 vs) (hn : 2 * cs.length < 2 ^ 31) (hs : V.slots.size = N2.toNatClampNeg) (hv : RoadKit.Has V vs (.int 0)) : Cod cd cs.length (fun j => cs.getD j 0) V := by
  rcases h with ⟨rfl, rfl, rfl, h⟩ | ⟨rfl, rfl, rfl, c, hc, hw⟩
  · rw [n32 (by omega)] at hs
    exact Or.inl ⟨rfl, hs, fun j hj => ⟨by rw [hv j (by omega), low_at _ _ _ hj], by
      have e : cs.getD j 0 = cs[j] := by simp [List.getD_eq_getElem?_getD, hj]
      show ¬ 255 < cs.getD j 0
      rw [e]; exact h _ (List.getElem_mem _)⟩⟩
  · rw [n32 (by omega)] at hs
    obtain ⟨j, hj, rfl⟩ := List.getElem_of_mem hc
    exact Or.inr ⟨rfl, hs, fun j hj => ⟨by rw [hv _ (by omega), wide_lo _ _ _ hj], by rw [hv _ (by omega), wide_hi _ _ _ hj]⟩, j, hj, by
      have e : cs.getD j 0 = cs[j] := by simp [List.getD_eq_getElem?_getD, hj]
      show 255 < cs.getD j 0
      rw [e]; exact hw⟩
/-- an object of exactly java/lang/String, its two fields found: as the laws ask it -/
theorem strObj {Z U : State} {a0 : Array Value} {kI : Nat} (wi : (Jvm.Cond.instantiable ST kI).before a0 Z = true) (al : Z.vm.Alike U.vm) {x : Addr} {v0 c0 : Value} (E : RoadKit.Exa Z U.heap x ST) (V : RoadKit.Fld Z U.heap x ST "value" "[B" v0) (C : RoadKit.Fld Z U.heap x ST "coder" "B" c0) :
    ∃ (D : Cell) (fV fC : Field), Blank ST x D U ∧ Found ST "value" "[B" fV U ∧ Found ST "coder" "B" fC U ∧ D.slots[fV.slot]? = some v0 ∧ D.slots[fC.slot]? = some c0 ∧ RoadKit.slotOf Z ST "value" "[B" = fV.slot ∧ RoadKit.slotOf Z ST "coder" "B" = fC.slot := by
  obtain ⟨D, cfV, kV, iV, fV, hD, gV, stV, knV, obV, asV, slV⟩ := V
  obtain ⟨D', cfC, kC, iC, fC, hD', gC, stC, -, -, asC, slC⟩ := C
  cases hD.symm.trans hD'
  obtain ⟨D2, kD, e1, e2, e3, e4, e5⟩ := E
  cases hD.symm.trans e1
  obtain ⟨c2, k2, i1, i2, i3, -⟩ := Cond.instantiable_spec wi
  cases e2.symm.trans i1
  cases e3.symm.trans i2
  obtain ⟨kU, u1, u2⟩ := al.2.2 _ _ e3
  exact ⟨D, fV, fC, ⟨hD, ⟨knV, fun q hq => by rw [hq] at obV; cases obV⟩, by rw [al.findClass]; exact e2, kU, u1, by rw [u2]; exact i3, by rw [u2]; exact e5 i3⟩, ⟨SBG.found_only al ⟨cfV, kV, iV, gV⟩, stV⟩, ⟨SBG.found_only al ⟨cfC, kC, iC, gC⟩, stC⟩, slV, slC, by simp [RoadKit.slotOf, gV], by simp [RoadKit.slotOf, gC]⟩
theorem sta_is {Z U : State} (al : Z.vm.Alike U.vm) {C n d : String} {v : Value} (S : RoadKit.Sta Z U.heap C n d v) : StaticIs U C n d v := by
  obtain ⟨cfS, iS, kS, fS, st, cS, t1, t2, t3, t4, t5, t6, t7⟩ := S
  exact StaticIs.there (s := { Z with heap := U.heap }) ⟨cfS, iS, kS, fS, st, cS, t1, t2, t3, t4, t5, (fun q => by rw [q] at t6; cases t6), t7⟩ al rfl
/-- **length() OF SUCH A STRING** -/
theorem lenW {p : Program} {l : Launch} {e : Env} {R : Room} {s : State} {args : Array Value} {below : List Frame} {len W : Nat} {Z : State} {a0 : Array Value} {h : Heap} (hZ : Z.Warmed39 s.vm) (hw : ∀ d ∈ wordsLen, d.before a0 Z = true) {kI : Nat} (wi : (Jvm.Cond.instantiable ST kI).before a0 Z = true)
    {x t : Addr} {kb : ClassId} {cs : List Int32} {cd N2 z : Int32} {vs : List Value} (E : RoadKit.Exa Z h x ST) (V : RoadKit.Fld Z h x ST "value" "[B" (.ref t)) (C : RoadKit.Fld Z h x ST "coder" "B" (.int cd)) (K : RoadKit.Arv Z h t kb .byte N2 vs (.int 0)) (hc : CodA cs cd N2 vs) (hb : ∀ c ∈ cs, ¬ c < 0 ∧ ¬ (65535 : Int32) < c)
    (S : RoadKit.Sta Z h ST "COMPACT_STRINGS" "Z" (.int z)) (hz : ¬ z = 0) (l2 : cs.length ≤ 4000) (hfr : 2 ≤ R.frames) (hlo : W + 25 ≤ R.locals) :
    Back l R p e below s args (⟨"java/lang/String", "length", "()I"⟩ : MethodName) len W (fun P a => a = #[.ref x] ∧ P.U.heap = h ∧ P.cells + 0 ≤ R.cells ∧ P.slots + 0 ≤ R.slots)
      (fun P _ v B => ∃ L, (v = some (.int (Int32.ofNat cs.length)) ∧ L = [] ∧ B.U.heap = h) ∧ B.locs = P.locs ++ L ∧ B.cells = P.cells + 0 ∧ B.slots = P.slots + 0) := by
  obtain ⟨A, K1, K2, K3, K4, K5, K6⟩ := K
  have hcod := hc.cod (by omega) K3 K5
  intro m meth c P g ig mk a X hg hsize hdg hW hn hp'
  obtain ⟨rfl, rfl, r1, r2⟩ := hp'
  have al : Z.vm.Alike P.U.vm := hZ.alike.trans X.warmed.alike
  obtain ⟨D, fV, fC, hB, F1, F2, g1, g2, -, -⟩ := strObj wi al E V C
  have hx : Txt x t A cd cs.length (fun j => cs.getD j 0) P.U := ⟨⟨_, hB.2.2.1, D, hB.1, rfl, by cases q : D.vm <;> first | rfl | exact absurd q (hB.2.1.2 _)⟩, Has.of hB F1 g1, Has.of hB F2 g2, ⟨K1.1, State.isArrayOf_alike al K1.2.1, K1.2.2, by rcases hcod with ⟨-, q, -⟩ | ⟨-, q, -⟩ <;> omega⟩, hcod, fun j hj => by
    have e : cs.getD j 0 = cs[j] := by simp [List.getD_eq_getElem?_getD, hj]
    show ¬ cs.getD j 0 < 0 ∧ ¬ 65535 < cs.getD j 0
    rw [e]; exact hb _ (List.getElem_mem _)⟩
  obtain ⟨v, B, X', ⟨⟨hv, hh⟩, hl, hk, hs⟩, st⟩ := Len.pays x t A cd cs.length (fun j => cs.getD j 0) z (tabLen_of (movedLen hZ hw)) hfr hlo m meth c P g ig mk _ X hg hsize hdg hW hn ⟨r1, r2, rfl, hx, sta_is al S, hz⟩
  exact ⟨v, B, X', ⟨[], ⟨hv, rfl, hh⟩, hl, hk, hs⟩, st⟩
end StrChars.Road
namespace StrChars.Road
open Jvm Sem ClassFile Op Lib Jvm.Stand Jvm.Free Jvm.Free.XT
open Jvm.Lib.Cold (StaticIs)
/-- the road's facts of a String, as the laws ask it -/
theorem txt_of {Z U : State} {a0 : Array Value} {kI : Nat} (wi : (Jvm.Cond.instantiable ST kI).before a0 Z = true) (al : Z.vm.Alike U.vm) {x t : Addr} {kb : ClassId} {cs : List Int32} {cd N2 : Int32} {vs : List Value} (E : RoadKit.Exa Z U.heap x ST) (V : RoadKit.Fld Z U.heap x ST "value" "[B" (.ref t)) (C : RoadKit.Fld Z U.heap x ST "coder" "B" (.int cd)) (K : RoadKit.Arv Z U.heap t kb .byte N2 vs (.int 0)) (hc : CodA cs cd N2 vs) (hb : ∀ c ∈ cs, ¬ c < 0 ∧ ¬ (65535 : Int32) < c) (l2 : cs.length ≤ 4000) :
    ∃ A, Txt x t A cd cs.length (fun j => cs.getD j 0) U := by
  obtain ⟨A, K1, K2, K3, K4, K5, K6⟩ := K
  have hcod := hc.cod (by omega) K3 K5
  obtain ⟨D, fV, fC, hB, F1, F2, g1, g2, -, -⟩ := strObj wi al E V C
  exact ⟨A, ⟨_, hB.2.2.1, D, hB.1, rfl, by cases q : D.vm <;> first | rfl | exact absurd q (hB.2.1.2 _)⟩, Has.of hB F1 g1, Has.of hB F2 g2, ⟨K1.1, State.isArrayOf_alike al K1.2.1, K1.2.2, by rcases hcod with ⟨-, q, -⟩ | ⟨-, q, -⟩ <;> omega⟩, hcod, fun j hj => by
    have e : cs.getD j 0 = cs[j] := by simp [List.getD_eq_getElem?_getD, hj]
    show ¬ cs.getD j 0 < 0 ∧ ¬ 65535 < cs.getD j 0
    rw [e]; exact hb _ (List.getElem_mem _)⟩
end StrChars.Road
namespace StrChars
open Jvm Sem ClassFile Op Lib Jvm.Stand Jvm.Free.XT Jvm.Free.ALB Jvm.Free.JM Jvm.Free
open Jvm.Lib.Cold (StaticIs)
namespace ChN
def yN : MethodName := ⟨"java/lang/String", "charAt", "(I)C"⟩
abbrev yB : ByteArray := jdk_42_method_56_code
theorem d0 : decode yB 0 = .ok (.aload_n 0, 1) := by decide +kernel
theorem d1 : decode yB 1 = .ok (.invokevirtual 492, 3) := by decide +kernel
theorem d4 : decode yB 4 = .ok (.ifCond (.eq) 12, 3) := by decide +kernel
theorem d7 : decode yB 7 = .ok (.aload_n 0, 1) := by decide +kernel
theorem d8 : decode yB 8 = .ok (.getfield 9, 3) := by decide +kernel
theorem d11 : decode yB 11 = .ok (.iload_n 1, 1) := by decide +kernel
theorem d12 : decode yB 12 = .ok (.invokestatic 495, 3) := by decide +kernel
theorem d15 : decode yB 15 = .ok (.ireturn, 1) := by decide +kernel
def site : List Cond := [.fieldLink "java/lang/String" 9 "java/lang/String" "value" "[B", IsL.tab, LChA.tab] ++ virtW "java/lang/String" 492 "java/lang/String" IsL.yN IsL.yN ++ staticW "java/lang/String" 495 LChA.yN
def tab : Cond := tabOf yN yB 2 (some .char) site
def P (x t : Addr) (V : Cell) (n : Nat) (f : Nat → Int32) (z : Int32) (fm : Value) (i : Nat) (args : Array Value) (s : State) : Prop := args = #[.ref x, .int (Int32.ofNat i)] ∧ Txt x t V 0 n f s ∧ i < n ∧ StaticIs s "java/lang/String" "COMPACT_STRINGS" "Z" (.int z) ∧ ¬ z = 0 ∧ StaticIs s "jdk/internal/util/Preconditions" "SIOOBE_FORMATTER" "Ljava/util/function/BiFunction;" fm ∧ fm.isRef = true
def E (f : Nat → Int32) (i : Nat) (r : Option Value) (s u : State) : Prop := XT.PureE (some (.int (f i))) r s u
/-- charAt(i) of a Latin-1 String of n chars, i < n: f i -/
theorem law (l : Launch) (x t : Addr) (V : Cell) (n : Nat) (f : Nat → Int32) (z : Int32) (fm : Value) (i : Nat) : Law l yN 2 1 3 40 yB 2 (some .char) site (P x t V n f z fm i) (E f i) [] 0 0 := by
  refine Law.of_walk (plainFor_of_name (by decide +kernel)) (by decide +kernel) (by decide +kernel) (by decide) (fun _ _ h => by rw [h.1]; rfl) (fun _ U U' hal hh h => ⟨h.1, h.2.1.mv hal hh, h.2.2.1, h.2.2.2.1.there hal hh, h.2.2.2.2.1, h.2.2.2.2.2.1.there hal hh, h.2.2.2.2.2.2⟩) (fun r U U' V V' h1 hal h2 h => XT.PureE.mv r U U' V V' h1 hal h2 h) ?_
  intro p e s m args below meth c s₁ X0 hexec hbytes hml hret hlk hnm hown hh0 W hP
  obtain ⟨rfl, hx, hi, s1, hz, s3, rf⟩ := hP
  have v31 := hx.2.2.2.1.2.2.2
  have hr := hx.2.2.2.2.2 i hi
  have hx0 := hx.mv X0.warmed.alike hh0
  have c1 : Steps p.tables e below (s₁.setTop (entryFrame m #[.ref x, .int (Int32.ofNat i)] 2)) (s₁.setTop (mkF m 1 #[.val (.ref x), .val (.int (Int32.ofNat i))] [.ref x])) := Steps.trans (entry rfl) (by
    show Steps p.tables e below (s₁.setTop (mkF m 0 #[.val (.ref x), .val (.int (Int32.ofNat i))] [])) _
    refine XS.aloadN X0.here hexec rfl (hb hbytes d0) rfl rfl ?_
    exact Steps.refl _)
  obtain ⟨v2, T2, X2, E2, g2⟩ := X0.callV hexec (IsL.law l x 0 z) hown (wks W (virtW "java/lang/String" 492 "java/lang/String" IsL.yN IsL.yN)) rfl (by decide) (wk W IsL.tab) (W := 0) (Nat.le_of_ble_eq_true rfl) (Nat.le_of_ble_eq_true rfl) (Nat.le_refl _) (Nat.le_refl _) (hx0.1.fc X0.warmed.alike) hx0.1.is (g := (mkF m 1 #[.val (.ref x), .val (.int (Int32.ofNat i))] [.ref x])) rfl (by rw [hml]; rfl) c1 (argsL := []) (rest := []) rfl rfl (by show 2 * 0 + 0 ≤ _; decide) (hb hbytes d1) (⟨rfl, hx0.2.2.1, hx.2.2.2.2.1.cd, s1.there X0.warmed.alike hh0, hz⟩)
  obtain ⟨rfl, q2⟩ := E2
  have hh2 := q2.trans hh0
  have hx2 := hx.mv X2.warmed.alike hh2
  obtain ⟨-, k1, k2⟩ | ⟨k0, -⟩ := hx.2.2.2.2.1
  · have c3 : Steps p.tables e below (s₁.setTop (entryFrame m #[.ref x, .int (Int32.ofNat i)] 2)) (T2.setTop (mkF m 8 #[.val (.ref x), .val (.int (Int32.ofNat i))] [.ref x])) := Steps.trans g2 (by
      refine XS.ifNo X2.here hexec rfl (hb hbytes d4) rfl (i0_eq_f (by decide)) ?_
      refine XS.aloadN X2.here hexec rfl (hb hbytes d7) rfl rfl ?_
      exact Steps.refl _)
    obtain ⟨T4, X4, q4, st4⟩ := X2.hget hexec hown (wk W (.fieldLink "java/lang/String" 9 "java/lang/String" "value" "[B")) hx2.2.1 (g := (mkF m 8 #[.val (.ref x), .val (.int (Int32.ofNat i))] [.ref x])) rfl (rest := []) rfl (hb hbytes d8)
    have hh4 := q4.trans hh2
    have c5 : Steps p.tables e below (s₁.setTop (entryFrame m #[.ref x, .int (Int32.ofNat i)] 2)) (T4.setTop (mkF m 12 #[.val (.ref x), .val (.int (Int32.ofNat i))] [.int (Int32.ofNat i), .ref t])) := (c3.trans (st4 _ (Steps.refl _))).trans (by
      refine XS.iloadN X4.here hexec rfl (hb hbytes d11) rfl ?_
      exact Steps.refl _)
    obtain ⟨v6, T6, X6, E6, g6⟩ := X4.callS hexec (LChA.law l t V i (lo8 (f i)) fm) hown (wks W (staticW "java/lang/String" 495 LChA.yN)) (wk W LChA.tab) (W := 0) (Nat.le_of_ble_eq_true rfl) (Nat.le_of_ble_eq_true rfl) (Nat.le_refl _) (Nat.le_refl _) (g := (mkF m 12 #[.val (.ref x), .val (.int (Int32.ofNat i))] [.int (Int32.ofNat i), .ref t])) rfl (by rw [hml]; rfl) c5 (argsL := [.ref t, .int (Int32.ofNat i)]) (rest := []) rfl rfl (by show 2 * 0 + 0 ≤ _; decide) (hb hbytes d12) (⟨rfl, hx.2.2.2.1.mv X4.warmed.alike hh4, (k2 i hi).1, s3.there X4.warmed.alike hh4, rf⟩)
    obtain ⟨rfl, q6⟩ := E6
    rw [chr8_lo8 hr.1 (k2 i hi).2] at g6
    exact ⟨T6, some (.int (f i)), _, _, _, X6, rfl, rfl, rfl, (fun h => by cases h), ⟨rfl, q6.trans hh4⟩, fun fs hl => Steps.trans g6 (X6.ireturnOut hexec hret (narrow_ch hr.1 hr.2) (Or.inr (Or.inr (Or.inr (Or.inl rfl)))) (hb hbytes d15) hl)⟩
  · exact absurd k0 (by decide)
theorem pays {l : Launch} {R : Room} {p : Program} {e : Env} {below : List Frame} {s : State} {sargs : Array Value} {len W : Nat} (x t : Addr) (V : Cell) (n : Nat) (f : Nat → Int32) (z : Int32) (fm : Value) (i : Nat) (htab : tab.before sargs s = true) (hfr : 4 ≤ R.frames) (hlo : W + 53 ≤ R.locals) :
    Back l R p e below s sargs yN len W (fun A₁ a₁ => A₁.cells + 0 ≤ R.cells ∧ A₁.slots + 0 ≤ R.slots ∧ P x t V n f z fm i a₁ A₁.U) (fun A₁ _ v₁ B₁ => E f i v₁ A₁.U B₁.U ∧ B₁.locs = A₁.locs ++ [] ∧ B₁.cells = A₁.cells + 0 ∧ B₁.slots = A₁.slots + 0) :=
  (law l x t V n f z fm i).pays htab hfr (by omega)
end ChN
end StrChars
namespace StrChars.Road
open Jvm Sem ClassFile Op Lib Jvm.Stand Jvm.Free Jvm.Free.XT
open Jvm.Lib.Cold (StaticIs)
/-- the words of String.charAt(int), the Latin-1 road alone -/
abbrev wordsChN : List Jvm.Cond := [.code ChN.yN ChN.yB 2 (some .char), .initialized ST, .fieldLink ST 9 ST "value" "[B", .fieldLink ST 38 ST "COMPACT_STRINGS" "Z", .fieldLink ST 15 ST "coder" "B", .code IsL.yN IsL.yB 1 (some .boolean), .methodLink ST 492 IsL.yN, .declares IsL.yN, .selects ST IsL.yN IsL.yN, .instanceMethod IsL.yN,
  .methodLink ST 495 LChA.yN, .static LChA.yN, .code LChA.yN LChA.yB 2 (some .char), .initialized "java/lang/StringLatin1", .methodLink "java/lang/StringLatin1" 9 JO.Str_checkIndex.yN, .static JO.Str_checkIndex.yN, .code JO.Str_checkIndex.yN JO.Str_checkIndex.yB 2 none,
  .fieldLink ST 1053 "jdk/internal/util/Preconditions" "SIOOBE_FORMATTER" "Ljava/util/function/BiFunction;", .methodLink ST 1059 JC.PreCheck.yN, .static JC.PreCheck.yN, .code JC.PreCheck.yN JC.PreCheck.yB 3 (some .int), .initialized "jdk/internal/util/Preconditions"]
theorem tabChN_of {a : Array Value} {s : State} (h : ∀ w ∈ wordsChN, w.before a s = true) : ChN.tab.before a s = true := by
  have hp : JC.PreCheck.tab.before a s = true := unparts (wk h (.code JC.PreCheck.yN JC.PreCheck.yB 3 (some .int))) (wks h (.initialized JC.PreCheck.yN.cls :: JC.PreCheck.site))
  have qk := consq hp h
  have hk : JO.Str_checkIndex.tab.before a s = true := unparts (wk qk (.code JO.Str_checkIndex.yN JO.Str_checkIndex.yB 2 none)) (wks qk (.initialized JO.Str_checkIndex.yN.cls :: JO.Str_checkIndex.site))
  have ql := consq hk h
  have hl : LChA.tab.before a s = true := unparts (wk ql (.code LChA.yN LChA.yB 2 (some .char))) (wks ql (.initialized LChA.yN.cls :: LChA.site))
  have hi : IsL.tab.before a s = true := unparts (wk h (.code IsL.yN IsL.yB 1 (some .boolean))) (wks h (.initialized IsL.yN.cls :: IsL.site))
  have q := consq hi (consq hl h)
  exact unparts (wk q (.code ChN.yN ChN.yB 2 (some .char))) (wks q (.initialized ChN.yN.cls :: ChN.site))
theorem movedChN {Z s : State} {a0 args : Array Value} (hZ : Z.Warmed39 s.vm) (hw : ∀ d ∈ wordsChN, d.before a0 Z = true) : ∀ d ∈ wordsChN, d.before args s = true := fun d hd => by
  have t : ∀ d ∈ wordsChN, (d.onTables && d.keepsFace) = true := by decide +kernel
  exact RoadKit.mv hZ (hw d hd) (t d hd)
/-- **charAt(i) OF A LATIN-1 STRING**, i < n: the char -/
theorem chN {p : Program} {l : Launch} {e : Env} {R : Room} {s : State} {args : Array Value} {below : List Frame} {len W : Nat} {Z : State} {a0 : Array Value} {h : Heap} (hZ : Z.Warmed39 s.vm) (hw : ∀ d ∈ wordsChN, d.before a0 Z = true) {kI : Nat} (wi : (Jvm.Cond.instantiable ST kI).before a0 Z = true)
    {x t : Addr} {kb : ClassId} {cs : List Int32} {N2 z : Int32} {vs : List Value} {fm : Value} {i : Nat} {j : Int32} (E : RoadKit.Exa Z h x ST) (V : RoadKit.Fld Z h x ST "value" "[B" (.ref t)) (C : RoadKit.Fld Z h x ST "coder" "B" (.int 0)) (K : RoadKit.Arv Z h t kb .byte N2 vs (.int 0)) (hc : CodA cs 0 N2 vs) (hb : ∀ c ∈ cs, ¬ c < 0 ∧ ¬ (65535 : Int32) < c)
    (S : RoadKit.Sta Z h ST "COMPACT_STRINGS" "Z" (.int z)) (hz : ¬ z = 0) (F : RoadKit.Sta Z h "jdk/internal/util/Preconditions" "SIOOBE_FORMATTER" "Ljava/util/function/BiFunction;" fm) (rf : fm.isRef = true) (l2 : cs.length ≤ 4000) (hi : i < cs.length) (hj : j = Int32.ofNat i) (hfr : 4 ≤ R.frames) (hlo : W + 53 ≤ R.locals) :
    Back l R p e below s args (⟨"java/lang/String", "charAt", "(I)C"⟩ : MethodName) len W (fun P a => a = #[.ref x, .int j] ∧ P.U.heap = h ∧ P.cells + 0 ≤ R.cells ∧ P.slots + 0 ≤ R.slots)
      (fun P _ v B => ∃ L, (v = some (.int (cs.getD i 0)) ∧ L = [] ∧ B.U.heap = h) ∧ B.locs = P.locs ++ L ∧ B.cells = P.cells + 0 ∧ B.slots = P.slots + 0) := by
  subst hj
  intro m meth c P g ig mk a X hg hsize hdg hW hn hp'
  obtain ⟨rfl, rfl, r1, r2⟩ := hp'
  have al : Z.vm.Alike P.U.vm := hZ.alike.trans X.warmed.alike
  obtain ⟨A, hx⟩ := txt_of wi al E V C K hc hb l2
  obtain ⟨v, B, X', ⟨⟨hv, hh⟩, hl, hk, hs⟩, st⟩ := ChN.pays x t A cs.length (fun j => cs.getD j 0) z fm i (tabChN_of (movedChN hZ hw)) hfr hlo m meth c P g ig mk _ X hg hsize hdg hW hn ⟨r1, r2, rfl, hx, hi, sta_is al S, hz, sta_is al F, rf⟩
  exact ⟨v, B, X', ⟨[], ⟨hv, rfl, hh⟩, hl, hk, hs⟩, st⟩
/-- what backV says of its String, as the contracts of this text ask it: cs's low bytes, coder 0 -/
theorem codOf {cs : List Int32} {n : Nat} (hn : cs.length = n) (hb : ∀ c ∈ cs, ¬ 255 < c) : CodA cs 0 (Int32.ofNat n) ((cs.map lo8).map Value.int) := Or.inl ⟨rfl, by rw [hn], by simp [List.map_map, Function.comp_def], hb⟩
end StrChars.Road
end Jvm.Pilot.@@N@@
namespace Jvm.Pilot.@@N@@
open Jvm Jvm.ClassFile Sem Op Lib Jvm.Free Jvm.Stand Jvm.LawKit Jvm.RoadKit Bundle Jvm.Own Jvm.Pilot.@@N@@.Jvm.D
theorem Hw {Z : State} {a0 : Array Value} (hw : ∀ d ∈ tables_1, d.before a0 Z = true) {d : Jvm.Cond} (i : Nat) (h : tables_1[i]? = some d) : d.before a0 Z = true := hw d (List.mem_of_getElem? h)
theorem own_EL {Z : State} {a0 : Array Value} (hw : ∀ d ∈ tables_1, d.before a0 Z = true) : EW Z a0 consts_1 := (EW.cons (Hw hw 287 rfl) (by decide) (EW.cons (Hw hw 288 rfl) (by decide) (EW.cons (Hw hw 163 rfl) (by decide) (EW.cons (Hw hw 63 rfl) (by decide) (EW.cons (Hw hw 112 rfl) (by decide) (EW.cons (Hw hw 14 rfl) (by decide) EW.nil))))))
theorem own_wS {Z : State} {a0 : Array Value} (hw : ∀ d ∈ tables_1, d.before a0 Z = true) : ∀ d ∈ Bundle.stringAtoms, d.before a0 Z = true := fun d hd => hw d ((by decide +kernel : ∀ d ∈ Bundle.stringAtoms, d ∈ tables_1) d hd)
theorem own_hws {Z : State} {a0 : Array Value} (hw : ∀ d ∈ tables_1, d.before a0 Z = true) : ∀ d ∈ StrChars.Road.words, d.before a0 Z = true := fun d hd => hw d ((by decide +kernel : ∀ d ∈ StrChars.Road.words, d ∈ tables_1) d hd)
theorem own_hLen {Z : State} {a0 : Array Value} (hw : ∀ d ∈ tables_1, d.before a0 Z = true) : ∀ d ∈ StrChars.Road.wordsLen, d.before a0 Z = true := fun d hd => hw d ((by decide +kernel : ∀ d ∈ StrChars.Road.wordsLen, d ∈ tables_1) d hd)
theorem own_hChN {Z : State} {a0 : Array Value} (hw : ∀ d ∈ tables_1, d.before a0 Z = true) : ∀ d ∈ StrChars.Road.wordsChN, d.before a0 Z = true := fun d hd => hw d ((by decide +kernel : ∀ d ∈ StrChars.Road.wordsChN, d ∈ tables_1) d hd)
theorem e0_0 : decode jdk_42_method_149_code 0 = .ok (.aload_n 0, 1) := by decide +kernel
theorem e0_1 : decode jdk_42_method_149_code 1 = .ok (.invokespecial 1, 3) := by decide +kernel
theorem e0_4 : decode jdk_42_method_149_code 4 = .ok (.iload_n 3, 1) := by decide +kernel
theorem e0_5 : decode jdk_42_method_149_code 5 = .ok (.ifCond .ne 22, 3) := by decide +kernel
theorem e0_8 : decode jdk_42_method_149_code 8 = .ok (.aload_n 0, 1) := by decide +kernel
theorem e0_9 : decode jdk_42_method_149_code 9 = .ok (.ldc 7, 2) := by decide +kernel
theorem e0_11 : decode jdk_42_method_149_code 11 = .ok (.getfield 9, 3) := by decide +kernel
theorem e0_14 : decode jdk_42_method_149_code 14 = .ok (.putfield 9, 3) := by decide +kernel
theorem e0_17 : decode jdk_42_method_149_code 17 = .ok (.aload_n 0, 1) := by decide +kernel
theorem e0_18 : decode jdk_42_method_149_code 18 = .ok (.ldc 7, 2) := by decide +kernel
theorem e0_20 : decode jdk_42_method_149_code 20 = .ok (.getfield 15, 3) := by decide +kernel
theorem e0_23 : decode jdk_42_method_149_code 23 = .ok (.putfield 15, 3) := by decide +kernel
theorem e0_26 : decode jdk_42_method_149_code 26 = .ok (.return_, 1) := by decide +kernel
theorem e0_27 : decode jdk_42_method_149_code 27 = .ok (.getstatic 38, 3) := by decide +kernel
theorem e0_30 : decode jdk_42_method_149_code 30 = .ok (.ifCond .eq 28, 3) := by decide +kernel
theorem e0_33 : decode jdk_42_method_149_code 33 = .ok (.aload_n 1, 1) := by decide +kernel
theorem e0_34 : decode jdk_42_method_149_code 34 = .ok (.iload_n 2, 1) := by decide +kernel
theorem e0_35 : decode jdk_42_method_149_code 35 = .ok (.iload_n 3, 1) := by decide +kernel
theorem e0_36 : decode jdk_42_method_149_code 36 = .ok (.invokestatic 177, 3) := by decide +kernel
theorem e0_39 : decode jdk_42_method_149_code 39 = .ok (.astore 5, 2) := by decide +kernel
theorem e0_41 : decode jdk_42_method_149_code 41 = .ok (.aload_n 0, 1) := by decide +kernel
theorem e0_42 : decode jdk_42_method_149_code 42 = .ok (.aload 5, 2) := by decide +kernel
theorem e0_44 : decode jdk_42_method_149_code 44 = .ok (.iload_n 3, 1) := by decide +kernel
theorem e0_45 : decode jdk_42_method_149_code 45 = .ok (.invokestatic 47, 3) := by decide +kernel
theorem e0_48 : decode jdk_42_method_149_code 48 = .ok (.putfield 15, 3) := by decide +kernel
theorem e0_51 : decode jdk_42_method_149_code 51 = .ok (.aload_n 0, 1) := by decide +kernel
theorem e0_52 : decode jdk_42_method_149_code 52 = .ok (.aload 5, 2) := by decide +kernel
theorem e0_54 : decode jdk_42_method_149_code 54 = .ok (.putfield 9, 3) := by decide +kernel
theorem e0_57 : decode jdk_42_method_149_code 57 = .ok (.return_, 1) := by decide +kernel
theorem e0_58 : decode jdk_42_method_149_code 58 = .ok (.aload_n 0, 1) := by decide +kernel
theorem e0_59 : decode jdk_42_method_149_code 59 = .ok (.iconst 1, 1) := by decide +kernel
theorem e0_60 : decode jdk_42_method_149_code 60 = .ok (.putfield 15, 3) := by decide +kernel
theorem e0_63 : decode jdk_42_method_149_code 63 = .ok (.aload_n 0, 1) := by decide +kernel
theorem e0_64 : decode jdk_42_method_149_code 64 = .ok (.aload_n 1, 1) := by decide +kernel
theorem e0_65 : decode jdk_42_method_149_code 65 = .ok (.iload_n 2, 1) := by decide +kernel
theorem e0_66 : decode jdk_42_method_149_code 66 = .ok (.iload_n 3, 1) := by decide +kernel
theorem e0_67 : decode jdk_42_method_149_code 67 = .ok (.invokestatic 180, 3) := by decide +kernel
theorem e0_70 : decode jdk_42_method_149_code 70 = .ok (.putfield 9, 3) := by decide +kernel
theorem e0_73 : decode jdk_42_method_149_code 73 = .ok (.return_, 1) := by decide +kernel
theorem pn0 : plainName "java/lang/String" = true := by first | (simp [plainName, overriddenIn]; done) | decide +kernel
set_option maxRecDepth 65536 in
set_option maxHeartbeats 40000000 in
theorem con_new4E (l : Launch) (Z : State) (a0 : Array Value) (hw : ∀ d ∈ tables_1, d.before a0 Z = true) (x b : Addr) (h0 : Heap) (O0 : Ext Z.heap h0) (X_x : Exa Z h0 x "java/lang/String") (F_value_x : Fld Z h0 x "java/lang/String" "value" "[B" .null) (F_coder_x : Fld Z h0 x "java/lang/String" "coder" "B" (.int (0 : Int32))) (n_x : Z.heap.size ≤ x) :
    Con l Z consts_1 false (⟨"java/lang/String", "<init>", "([CIILjava/lang/Void;)V"⟩ : MethodName) jdk_42_method_149_code 6 none [] ({ frames := 1, cells := 4, slots := 8, locals := 12 } : Room) #[(.ref x), (.ref b), (.int (0 : Int32)), (.int (0 : Int32)), .null] [] h0 (fun v h => v = none ∧ Keep h0 h [x] ∧ Sg Z h x []) := by
  refine Con.intro (Ls := #[.val (.ref x), .val (.ref b), .val (.int (0 : Int32)), .val (.int (0 : Int32)), .val .null, .unset]) (plainFor_of_name pn0) (own_EL hw) O0 (fun m => by first | (simp [entryFrame, mkF, argsToLocals, Value.category]; done) | rfl) (fun p e s m below meth cc_ T w sf_ => ?_)
  have K0 := Keep.refl h0 [x]
  have s_x := safe_null (EL := consts_1) (vm := s.vm) w.wz.alike (Hw hw 2 rfl) X_x F_value_x
  refine g_aloadN w e0_0 (q := 1) rfl rfl rfl ?_
  refine g_initO w e0_1 (q := 4) rfl rfl (Hw hw 11 rfl) (Hw hw 12 rfl) (Hw hw 13 rfl) (W := 0) (Nat.le_of_eq rfl) (by decide) (by decide) (fun T w => ?_)
  refine g_iloadN w e0_4 (q := 5) rfl rfl ?_
  refine g_ifN w e0_5 (q := 8) rfl (by decide) ?_
  refine g_aloadN w e0_8 (q := 9) rfl rfl rfl ?_
  refine g_ldcS w e0_9 (q := 11) rfl rfl (Hw hw 14 rfl) (own_wS hw) (by decide) (vs := []) (z := 0) ⟨by decide, by decide⟩ (by decide) (by decide) (nn := 0) (by decide) (by decide) (by decide) (by decide) (fun T vm h t2 b_t2 kb_t2 w E X_t2 Fc_t2 Fv_t2 Ab_t2 C Sf => ?_)
  replace s_x := C.safe X_x.lt s_x
  have nb_x_t2 := (Sf _ s_x).2
  have ne_x_t2 := (Sf _ s_x).1
  have ne_x_b_t2 := nb_x_t2
  replace K0 := K0.ext E
  replace X_x := X_x.ext E
  replace F_value_x := F_value_x.ext E
  replace F_coder_x := F_coder_x.ext E
  refine g_getF w e0_11 (q := 14) rfl (host := "") (Or.inl (Hw hw 20 rfl)) Via.refl Fv_t2 (fun T w => ?_)
  have g_ := w.chv
  refine g_putF w e0_14 (q := 17) rfl (Hw hw 20 rfl) Via.refl F_value_x X_x (Or.inr ⟨(Hw hw 16 rfl), rfl, rfl⟩) (Hw hw 2 rfl) (ty := (.array .byte)) (by decide) (v' := (.ref b_t2)) rfl rfl n_x s_x (fun T h w W => ?_)
  replace K0 := K0.wr W (Or.inl (List.mem_singleton.mpr rfl))
  replace s_x := Safe.wr W s_x g_ s_x
  replace X_x := X_x.wr W
  replace F_value_x := F_value_x.same W
  replace F_coder_x := F_coder_x.other W (Or.inr (slot_ne (Or.inr (Hw hw 17 rfl)) (Or.inr (Hw hw 16 rfl)) (by decide) (t := .byte) (t' := (.array .byte)) (by decide) (by decide)))
  replace X_t2 := X_t2.wr W
  replace Fc_t2 := Fc_t2.other W (Or.inl ne_x_t2.symm)
  replace Fv_t2 := Fv_t2.other W (Or.inl ne_x_t2.symm)
  replace Ab_t2 := Ab_t2.other W ne_x_b_t2.symm
  refine g_aloadN w e0_17 (q := 18) rfl rfl rfl ?_
  refine g_ldcS w e0_18 (q := 20) rfl rfl (Hw hw 14 rfl) (own_wS hw) (by decide) (vs := []) (z := 0) ⟨by decide, by decide⟩ (by decide) (by decide) (nn := 0) (by decide) (by decide) (by decide) (by decide) (fun T vm h t3 b_t3 kb_t3 w E X_t3 Fc_t3 Fv_t3 Ab_t3 C Sf => ?_)
  replace s_x := C.safe X_x.lt s_x
  have nb_x_t3 := (Sf _ s_x).2
  have ne_x_t3 := (Sf _ s_x).1
  have ne_x_b_t3 := nb_x_t3
  replace K0 := K0.ext E
  replace X_x := X_x.ext E
  replace F_value_x := F_value_x.ext E
  replace F_coder_x := F_coder_x.ext E
  replace X_t2 := X_t2.ext E
  replace Fc_t2 := Fc_t2.ext E
  replace Fv_t2 := Fv_t2.ext E
  replace Ab_t2 := Ab_t2.ext E
  refine g_getF w e0_20 (q := 23) rfl (host := "") (Or.inl (Hw hw 21 rfl)) Via.refl Fc_t3 (fun T w => ?_)
  have g_ := w.chv
  refine g_putF w e0_23 (q := 26) rfl (Hw hw 21 rfl) Via.refl F_coder_x X_x (Or.inr ⟨(Hw hw 17 rfl), rfl, rfl⟩) (Hw hw 2 rfl) (ty := .byte) (by decide) (v' := (.int (0 : Int32))) rfl rfl n_x s_x (fun T h w W => ?_)
  replace K0 := K0.wr W (Or.inl (List.mem_singleton.mpr rfl))
  replace s_x := Safe.wr W s_x g_ s_x
  replace X_x := X_x.wr W
  replace F_value_x := F_value_x.other W (Or.inr (slot_ne (Or.inr (Hw hw 16 rfl)) (Or.inr (Hw hw 17 rfl)) (by decide) (t := (.array .byte)) (t' := .byte) (by decide) (by decide)))
  replace F_coder_x := F_coder_x.same W
  replace X_t2 := X_t2.wr W
  replace Fc_t2 := Fc_t2.other W (Or.inl ne_x_t2.symm)
  replace Fv_t2 := Fv_t2.other W (Or.inl ne_x_t2.symm)
  replace Ab_t2 := Ab_t2.other W ne_x_b_t2.symm
  replace X_t3 := X_t3.wr W
  replace Fc_t3 := Fc_t3.other W (Or.inl ne_x_t3.symm)
  replace Fv_t3 := Fv_t3.other W (Or.inl ne_x_t3.symm)
  replace Ab_t3 := Ab_t3.other W ne_x_b_t3.symm
  exact g_return w e0_26 rfl (by decide) (by decide) ⟨rfl, K0, ⟨Nat.le_of_ble_eq_true rfl, cs0, X_x, b_t2, kb_t2, F_value_x, F_coder_x, Ab_t2⟩⟩
theorem e1_0 : decode jdk_42_method_3_code 0 = .ok (.aload_n 0, 1) := by decide +kernel
theorem e1_1 : decode jdk_42_method_3_code 1 = .ok (.aload_n 1, 1) := by decide +kernel
theorem e1_2 : decode jdk_42_method_3_code 2 = .ok (.iconst 0, 1) := by decide +kernel
theorem e1_3 : decode jdk_42_method_3_code 3 = .ok (.aload_n 1, 1) := by decide +kernel
theorem e1_4 : decode jdk_42_method_3_code 4 = .ok (.arraylength, 1) := by decide +kernel
theorem e1_5 : decode jdk_42_method_3_code 5 = .ok (.aconst_null, 1) := by decide +kernel
theorem e1_6 : decode jdk_42_method_3_code 6 = .ok (.invokespecial 27, 3) := by decide +kernel
theorem e1_9 : decode jdk_42_method_3_code 9 = .ok (.return_, 1) := by decide +kernel
theorem pd0 : parseMethodDescriptor "([CIILjava/lang/Void;)V" = some ⟨[(.array .char), .int, .int, (.object "java/lang/Void")], none⟩ := by decide +kernel
set_option maxRecDepth 65536 in
set_option maxHeartbeats 40000000 in
theorem con_new1E (l : Launch) (Z : State) (a0 : Array Value) (hw : ∀ d ∈ tables_1, d.before a0 Z = true) (x b : Addr) (h0 : Heap) (O0 : Ext Z.heap h0) (X_x : Exa Z h0 x "java/lang/String") (F_value_x : Fld Z h0 x "java/lang/String" "value" "[B" .null) (F_coder_x : Fld Z h0 x "java/lang/String" "coder" "B" (.int (0 : Int32))) (n_x : Z.heap.size ≤ x) (A_b : Ar Z h0 b .char []) (ne_b_x : b ≠ x) :
    Con l Z consts_1 false (⟨"java/lang/String", "<init>", "([C)V"⟩ : MethodName) jdk_42_method_3_code 2 none [] ({ frames := 2, cells := 4, slots := 8, locals := 29 } : Room) #[(.ref x), (.ref b)] [] h0 (fun v h => v = none ∧ Keep h0 h [x] ∧ Sg Z h x []) := by
  refine Con.intro (Ls := #[.val (.ref x), .val (.ref b)]) (plainFor_of_name pn0) (own_EL hw) O0 (fun m => by first | (simp [entryFrame, mkF, argsToLocals, Value.category]; done) | rfl) (fun p e s m below meth cc_ T w sf_ => ?_)
  have K0 := Keep.refl h0 [x]
  refine g_aloadN w e1_0 (q := 1) rfl rfl rfl ?_
  refine g_aloadN w e1_1 (q := 2) rfl rfl rfl ?_
  refine g_iconst w e1_2 (q := 3) rfl (v := (0 : Int32)) (by decide) ?_
  refine g_aloadN w e1_3 (q := 4) rfl rfl rfl ?_
  refine g_alen w e1_4 (q := 5) rfl A_b ?_
  show Go p e below _ (State.setTop T (mkF m 5 #[.val (.ref x), .val (.ref b)] [(.int (0 : Int32)), (.int (0 : Int32)), (.ref b), (.ref x)]))
  refine g_anull w e1_5 (q := 6) rfl ?_
  refine g_special w (con_new4E l Z a0 hw x b _ w.old X_x F_value_x F_coder_x n_x) no0 e1_6 (q := 9) rfl rfl rfl (Hw hw 7 rfl) (Hw hw 8 rfl) (Hw hw 3 rfl) (Hw hw 10 rfl) (by decide) pd0 rfl rfl (W := 0) (Nat.le_of_eq rfl) (by decide) (by decide) (by decide) (by decide) (fun T h v w gs C q => ?_)
  obtain ⟨rfl, K, S_x⟩ := q
  replace K0 := keep_same K0 K
  have X0 := X_x
  replace X_x := X_x.keep K
  replace A_b := A_b.keep K (not1 ne_b_x)
  show Go p e below _ (State.setTop T (mkF m 9 #[.val (.ref x), .val (.ref b)] []))
  exact g_return w e1_9 rfl (by decide) (by decide) ⟨rfl, K0, S_x⟩
theorem e2_0 : decode jdk_30_method_1_code 0 = .ok (.aload_n 0, 1) := by decide +kernel
theorem e2_1 : decode jdk_30_method_1_code 1 = .ok (.invokespecial 1, 3) := by decide +kernel
theorem e2_4 : decode jdk_30_method_1_code 4 = .ok (.return_, 1) := by decide +kernel
theorem pn1 : plainName "java/lang/Record" = true := by first | (simp [plainName, overriddenIn]; done) | decide +kernel
set_option maxRecDepth 65536 in
set_option maxHeartbeats 40000000 in
theorem con_rec (l : Launch) (Z : State) (a0 : Array Value) (hw : ∀ d ∈ tables_1, d.before a0 Z = true) (x : Addr) (h0 : Heap) (O0 : Ext Z.heap h0) :
    Con l Z consts_1 false (⟨"java/lang/Record", "<init>", "()V"⟩ : MethodName) jdk_30_method_1_code 1 none [] ({ frames := 1, cells := 0, slots := 0, locals := 12 } : Room) #[(.ref x)] [] h0 (fun v h => v = none ∧ h = h0) := by
  refine Con.intro (Ls := #[.val (.ref x)]) (plainFor_of_name pn1) (own_EL hw) O0 (fun m => by first | (simp [entryFrame, mkF, argsToLocals, Value.category]; done) | rfl) (fun p e s m below meth cc_ T w sf_ => ?_)
  have E0 := ext_refl h0
  refine g_aloadN w e2_0 (q := 1) rfl rfl rfl ?_
  refine g_initO w e2_1 (q := 4) rfl rfl (Hw hw 33 rfl) (Hw hw 12 rfl) (Hw hw 13 rfl) (W := 0) (Nat.le_of_eq rfl) (by decide) (by decide) (fun T w => ?_)
  exact g_return w e2_4 rfl (by decide) (by decide) ⟨rfl, rfl⟩
theorem own_lenB {p : Program} {l : Launch} {e : Env} {R : Room} {args : Array Value} {below : List Frame} {W : Nat} {Z : State} {a0 : Array Value} {h : Heap} (hw : ∀ d ∈ tables_1, d.before a0 Z = true) {x : Addr} {cs : List Int32} {z : Int32} (S1 : Sg Z h x cs) (S : Sta Z h "java/lang/String" "COMPACT_STRINGS" "Z" (.int z)) (hz : ¬ z = 0) (hfr : 2 ≤ R.frames) (hlo : W + 25 ≤ R.locals) (s' : State) (hZ' : Z.Warmed39 s'.vm) :
    Back l R p e below s' args (⟨"java/lang/String", "length", "()I"⟩ : MethodName) 3 W (fun P a' => a' = #[.ref x] ∧ P.U.heap = h ∧ P.cells + 0 ≤ R.cells ∧ P.slots + 0 ≤ R.slots) (fun P _ v B => ∃ L, (v = some (.int (Int32.ofNat cs.length)) ∧ L = [] ∧ B.U.heap = h) ∧ B.locs = P.locs ++ L ∧ B.cells = P.cells + 0 ∧ B.slots = P.slots + 0) := by
  obtain ⟨l1, b1, E1, t1, k1, V1, C1, A1⟩ := S1
  exact StrChars.Road.lenW hZ' (own_hLen hw) (kI := 4) (Hw hw 2 rfl) E1 V1 C1 A1 (StrChars.Road.codOf rfl fun c hc => (b1 c hc).2) (fun c hc => (b1 c hc).chr) S hz l1 hfr hlo
theorem own_chB {p : Program} {l : Launch} {e : Env} {R : Room} {args : Array Value} {below : List Frame} {W : Nat} {Z : State} {a0 : Array Value} {h : Heap} (hw : ∀ d ∈ tables_1, d.before a0 Z = true) {x : Addr} {cs : List Int32} {z j : Int32} {i : Nat} {fm : Value} (S1 : Sg Z h x cs) (S : Sta Z h "java/lang/String" "COMPACT_STRINGS" "Z" (.int z)) (hz : ¬ z = 0) (F : Sta Z h "jdk/internal/util/Preconditions" "SIOOBE_FORMATTER" "Ljava/util/function/BiFunction;" fm) (rf : fm.isRef = true) (hi : i < cs.length) (hj : j = Int32.ofNat i) (hfr : 4 ≤ R.frames) (hlo : W + 53 ≤ R.locals) (s' : State) (hZ' : Z.Warmed39 s'.vm) :
    Back l R p e below s' args (⟨"java/lang/String", "charAt", "(I)C"⟩ : MethodName) 3 W (fun P a' => a' = #[.ref x, .int j] ∧ P.U.heap = h ∧ P.cells + 0 ≤ R.cells ∧ P.slots + 0 ≤ R.slots) (fun P _ v B => ∃ L, (v = some (.int (cs.getD i 0)) ∧ L = [] ∧ B.U.heap = h) ∧ B.locs = P.locs ++ L ∧ B.cells = P.cells + 0 ∧ B.slots = P.slots + 0) := by
  obtain ⟨l1, b1, E1, t1, k1, V1, C1, A1⟩ := S1
  exact StrChars.Road.chN hZ' (own_hChN hw) (kI := 4) (Hw hw 2 rfl) E1 V1 C1 A1 (StrChars.Road.codOf rfl fun c hc => (b1 c hc).2) (fun c hc => (b1 c hc).chr) S hz F rf l1 hi hj hfr hlo
/-- the first place of c in a list, counted from i; -1 where there is none -/
def fix (c : Int32) : List Int32 → Nat → Int32
  | [], _ => -1
  | d :: ds, i => if d = c then Int32.ofNat i else fix c ds (i + 1)
theorem drop_at {cs : List Int32} {i : Nat} (h : i < cs.length) : cs.drop i = cs.getD i 0 :: cs.drop (i + 1) := by
  rw [List.drop_eq_getElem_cons h]; simp [List.getD_eq_getElem?_getD, h]
theorem fix_here {cs : List Int32} {c : Int32} {i : Nat} (h : i < cs.length) (e : cs.getD i 0 = c) : fix c (cs.drop i) i = Int32.ofNat i := by rw [drop_at h, fix, if_pos e]
theorem fix_next {cs : List Int32} {c : Int32} {i : Nat} (h : i < cs.length) (e : ¬ cs.getD i 0 = c) : fix c (cs.drop i) i = fix c (cs.drop (i + 1)) (i + 1) := by rw [drop_at h, fix, if_neg e]
theorem fix_end {cs : List Int32} {c : Int32} {i : Nat} (h : i + 0 = cs.length) : fix c (cs.drop i) i = -1 := by rw [List.drop_of_length_le (by omega)]; rfl
/-- the last place of c among the first n -/
def lix (c : Int32) (cs : List Int32) : Nat → Int32
  | 0 => -1
  | n + 1 => if cs.getD n 0 = c then Int32.ofNat n else lix c cs n
theorem lat_at {cs : List Int32} {i : Nat} (h : i < cs.length) : ((cs.map fun c => c.toInt8.toInt32).map Value.int)[i]? = some (.int (cs.getD i 0).toInt8.toInt32) := by
  simp [List.getD_eq_getElem?_getD, h]
theorem lat_all {cs : List Int32} (hl : ∀ c ∈ cs, Lt8 c) {i : Nat} (h : i < cs.length) : Lt8 (cs.getD i 0) := by
  have e : cs.getD i 0 = cs[i] := by simp [List.getD_eq_getElem?_getD, h]
  rw [e]; exact hl _ (List.getElem_mem h)
theorem lo8_inj {x y : Int32} (hx : Lt8 x) (hy : Lt8 y) (h : x.toInt8.toInt32 = y.toInt8.toInt32) : x = y := by
  have a := StrChars.lo8_mask hx.1 hx.2
  have b := StrChars.lo8_mask hy.1 hy.2
  have e : StrChars.lo8 x = StrChars.lo8 y := h
  rw [e] at a; exact a.symm.trans b
theorem lt_ofNat {i n : Nat} (h : i < n) (hn : n ≤ 4000) : Int32.ofNat i < Int32.ofNat n := by
  have e1 : (Int32.ofNat i).toInt = i := Int32.toInt_ofNat_of_lt (by omega)
  have e2 : (Int32.ofNat n).toInt = n := Int32.toInt_ofNat_of_lt (by omega)
  rw [Int32.lt_iff_toInt_lt, e1, e2]; omega
theorem not_lt_ofNat {i n : Nat} (h : n ≤ i) (hn : i ≤ 4000) : ¬ Int32.ofNat i < Int32.ofNat n := by
  have e1 : (Int32.ofNat i).toInt = i := Int32.toInt_ofNat_of_lt (by omega)
  have e2 : (Int32.ofNat n).toInt = n := Int32.toInt_ofNat_of_lt (by omega)
  rw [Int32.lt_iff_toInt_lt, e1, e2]; omega
theorem ofNat_succ (i : Nat) : Int32.ofNat i + 1 = Int32.ofNat (i + 1) := by rw [Int32.ofNat_add]; rfl
theorem ofNat_pred (i : Nat) : Int32.ofNat (i + 1) - 1 = Int32.ofNat i := by rw [← ofNat_succ, Int32.add_sub_cancel]
theorem ofNat_dec (i : Nat) : Int32.ofNat i + (-1) = Int32.ofNat i - 1 := by rw [Int32.sub_eq_add_neg]
theorem fix_none {c : Int32} {cs : List Int32} (h : ¬ (0 : Int32) < Int32.ofNat cs.length) (hn : cs.length ≤ 4000) : fix c cs 0 = -1 := by
  cases cs with
  | nil => rfl
  | cons d ds => exact absurd (lt_ofNat (i := 0) (n := (d :: ds).length) (by simp) hn) h

theorem own_WL {Z : State} {a0 : Array Value} (hw : ∀ d ∈ tables_1, d.before a0 Z = true) : EWL Z a0 consts_1 8 := (EWL.cons (Hw hw 287 rfl) (by decide) (by decide) (EWL.cons (Hw hw 288 rfl) (by decide) (by decide) (EWL.cons (Hw hw 163 rfl) (by decide) (by decide) (EWL.cons (Hw hw 63 rfl) (by decide) (by decide) (EWL.cons (Hw hw 112 rfl) (by decide) (by decide) (EWL.cons (Hw hw 14 rfl) (by decide) (by decide) EWL.nil))))))
theorem e3_0 : decode jdk_29_method_65_code 0 = .ok (.iload_n 0, 1) := by decide +kernel
theorem e3_1 : decode jdk_29_method_65_code 1 = .ok (.iload_n 1, 1) := by decide +kernel
theorem e3_2 : decode jdk_29_method_65_code 2 = .ok (.if_icmp .lt 7, 3) := by decide +kernel
theorem e3_5 : decode jdk_29_method_65_code 5 = .ok (.iload_n 0, 1) := by decide +kernel
theorem e3_6 : decode jdk_29_method_65_code 6 = .ok (.goto 4, 3) := by decide +kernel
theorem e3_9 : decode jdk_29_method_65_code 9 = .ok (.iload_n 1, 1) := by decide +kernel
theorem e3_10 : decode jdk_29_method_65_code 10 = .ok (.ireturn, 1) := by decide +kernel
set_option maxRecDepth 65536 in
set_option maxHeartbeats 40000000 in
theorem con_max (l : Launch) (Z : State) (a0 : Array Value) (hw : ∀ d ∈ tables_1, d.before a0 Z = true) (a b : Int32) (h0 : Heap) (O0 : Ext Z.heap h0) :
    Con l Z consts_1 false (⟨"java/lang/Math", "max", "(II)I"⟩ : MethodName) jdk_29_method_65_code 2 (some .int) [] ({ frames := 0, cells := 0, slots := 0, locals := 0 } : Room) #[(.int a), (.int b)] [] h0 (fun v h => v = some (.int (if a < b then b else a)) ∧ h = h0) := by
  refine Con.intro (Ls := #[.val (.int a), .val (.int b)]) (Jvm.Free.JP.mathPlain rfl (by decide +kernel)) (own_EL hw) O0 (fun m => by first | (simp [entryFrame, mkF, argsToLocals, Value.category]; done) | rfl) (fun p e s m below meth cc_ T w sf_ => ?_)
  have E0 := ext_refl h0
  refine g_iloadN w e3_0 (q := 1) rfl rfl ?_
  refine g_iloadN w e3_1 (q := 2) rfl rfl ?_
  refine g_ic_lt w e3_2 (by decide) (q := 9) (by decide) (q' := 5) rfl (fun cd1 => ?_) (fun cd1 => ?_)
  · refine g_iloadN w e3_9 (q := 10) rfl rfl ?_
    exact g_reti w e3_10 rfl (by decide) (by decide) ⟨by rw [if_pos cd1], rfl⟩
  · refine g_iloadN w e3_5 (q := 6) rfl rfl ?_
    refine g_goto w e3_6 (by decide) (q := 10) (by decide) ?_
    exact g_reti w e3_10 rfl (by decide) (by decide) ⟨by rw [if_neg cd1], rfl⟩
theorem e4_0 : decode jdk_29_method_69_code 0 = .ok (.iload_n 0, 1) := by decide +kernel
theorem e4_1 : decode jdk_29_method_69_code 1 = .ok (.iload_n 1, 1) := by decide +kernel
theorem e4_2 : decode jdk_29_method_69_code 2 = .ok (.if_icmp .gt 7, 3) := by decide +kernel
theorem e4_5 : decode jdk_29_method_69_code 5 = .ok (.iload_n 0, 1) := by decide +kernel
theorem e4_6 : decode jdk_29_method_69_code 6 = .ok (.goto 4, 3) := by decide +kernel
theorem e4_9 : decode jdk_29_method_69_code 9 = .ok (.iload_n 1, 1) := by decide +kernel
theorem e4_10 : decode jdk_29_method_69_code 10 = .ok (.ireturn, 1) := by decide +kernel
set_option maxRecDepth 65536 in
set_option maxHeartbeats 40000000 in
theorem con_min (l : Launch) (Z : State) (a0 : Array Value) (hw : ∀ d ∈ tables_1, d.before a0 Z = true) (a b : Int32) (h0 : Heap) (O0 : Ext Z.heap h0) :
    Con l Z consts_1 false (⟨"java/lang/Math", "min", "(II)I"⟩ : MethodName) jdk_29_method_69_code 2 (some .int) [] ({ frames := 0, cells := 0, slots := 0, locals := 0 } : Room) #[(.int a), (.int b)] [] h0 (fun v h => v = some (.int (if b < a then b else a)) ∧ h = h0) := by
  refine Con.intro (Ls := #[.val (.int a), .val (.int b)]) (Jvm.Free.JP.mathPlain rfl (by decide +kernel)) (own_EL hw) O0 (fun m => by first | (simp [entryFrame, mkF, argsToLocals, Value.category]; done) | rfl) (fun p e s m below meth cc_ T w sf_ => ?_)
  have E0 := ext_refl h0
  refine g_iloadN w e4_0 (q := 1) rfl rfl ?_
  refine g_iloadN w e4_1 (q := 2) rfl rfl ?_
  refine g_ic_gt w e4_2 (by decide) (q := 9) (by decide) (q' := 5) rfl (fun cd1 => ?_) (fun cd1 => ?_)
  · refine g_iloadN w e4_9 (q := 10) rfl rfl ?_
    exact g_reti w e4_10 rfl (by decide) (by decide) ⟨by rw [if_pos cd1], rfl⟩
  · refine g_iloadN w e4_5 (q := 6) rfl rfl ?_
    refine g_goto w e4_6 (by decide) (q := 10) (by decide) ?_
    exact g_reti w e4_10 rfl (by decide) (by decide) ⟨by rw [if_neg cd1], rfl⟩
theorem e5_0 : decode jdk_68_method_2_code 0 = .ok (.aload_n 0, 1) := by decide +kernel
theorem e5_1 : decode jdk_68_method_2_code 1 = .ok (.invokespecial 3, 3) := by decide +kernel
theorem e5_4 : decode jdk_68_method_2_code 4 = .ok (.getstatic 18, 3) := by decide +kernel
theorem e5_7 : decode jdk_68_method_2_code 7 = .ok (.ifCond .eq 18, 3) := by decide +kernel
theorem e5_10 : decode jdk_68_method_2_code 10 = .ok (.aload_n 0, 1) := by decide +kernel
theorem e5_11 : decode jdk_68_method_2_code 11 = .ok (.iload_n 1, 1) := by decide +kernel
theorem e5_12 : decode jdk_68_method_2_code 12 = .ok (.newarray .byte, 2) := by decide +kernel
theorem e5_14 : decode jdk_68_method_2_code 14 = .ok (.putfield 15, 3) := by decide +kernel
theorem e5_17 : decode jdk_68_method_2_code 17 = .ok (.aload_n 0, 1) := by decide +kernel
theorem e5_18 : decode jdk_68_method_2_code 18 = .ok (.iconst 0, 1) := by decide +kernel
theorem e5_19 : decode jdk_68_method_2_code 19 = .ok (.putfield 22, 3) := by decide +kernel
theorem e5_22 : decode jdk_68_method_2_code 22 = .ok (.goto 16, 3) := by decide +kernel
theorem e5_25 : decode jdk_68_method_2_code 25 = .ok (.aload_n 0, 1) := by decide +kernel
theorem e5_26 : decode jdk_68_method_2_code 26 = .ok (.iload_n 1, 1) := by decide +kernel
theorem e5_27 : decode jdk_68_method_2_code 27 = .ok (.invokestatic 26, 3) := by decide +kernel
theorem e5_30 : decode jdk_68_method_2_code 30 = .ok (.putfield 15, 3) := by decide +kernel
theorem e5_33 : decode jdk_68_method_2_code 33 = .ok (.aload_n 0, 1) := by decide +kernel
theorem e5_34 : decode jdk_68_method_2_code 34 = .ok (.iconst 1, 1) := by decide +kernel
theorem e5_35 : decode jdk_68_method_2_code 35 = .ok (.putfield 22, 3) := by decide +kernel
theorem e5_38 : decode jdk_68_method_2_code 38 = .ok (.return_, 1) := by decide +kernel
theorem pn2 : plainName "java/lang/AbstractStringBuilder" = true := by first | (simp [plainName, overriddenIn]; done) | decide +kernel
set_option maxRecDepth 65536 in
set_option maxHeartbeats 40000000 in
theorem con_asbi (l : Launch) (Z : State) (a0 : Array Value) (hw : ∀ d ∈ tables_1, d.before a0 Z = true) (x : Addr) (h0 : Heap) (O0 : Ext Z.heap h0) (X_x : Exa Z h0 x "java/lang/StringBuilder") (F_value_x : Fld Z h0 x "java/lang/AbstractStringBuilder" "value" "[B" .null) (F_coder_x : Fld Z h0 x "java/lang/AbstractStringBuilder" "coder" "B" (.int 0)) (F_count_x : Fld Z h0 x "java/lang/AbstractStringBuilder" "count" "I" (.int 0)) (n_x : Z.heap.size ≤ x) (hcm : Cpt Z) :
    Con l Z consts_1 false (⟨"java/lang/AbstractStringBuilder", "<init>", "(I)V"⟩ : MethodName) jdk_68_method_2_code 2 none [] ({ frames := 1, cells := 1, slots := 16, locals := 12 } : Room) #[(.ref x), (.int (16 : Int32))] [] h0 (fun v h => v = none ∧ Keep h0 h [x] ∧ ∃ b, h0.size ≤ b ∧ Bd Z h x b (List.replicate 16 (.int 0)) []) := by
  refine Con.intro (Ls := #[.val (.ref x), .val (.int (16 : Int32))]) (plainFor_of_name pn2) (own_EL hw) O0 (fun m => by first | (simp [entryFrame, mkF, argsToLocals, Value.category]; done) | rfl) (fun p e s m below meth cc_ T w sf_ => ?_)
  have K0 := Keep.refl h0 [x]
  obtain ⟨z_, hz_, SC_⟩ := id hcm
  refine g_aloadN w e5_0 (q := 1) rfl rfl rfl ?_
  refine g_initO w e5_1 (q := 4) rfl rfl (Hw hw 57 rfl) (Hw hw 12 rfl) (Hw hw 13 rfl) (W := 0) (Nat.le_of_eq rfl) (by decide) (by decide) (fun T w => ?_)
  refine g_getS w e5_4 (q := 7) rfl (Hw hw 58 rfl) Via.refl SC_ (fun T w => ?_)
  refine g_ifN w e5_7 (q := 10) rfl (Jvm.Free.XT.i0_eq_f hz_) ?_
  refine g_aloadN w e5_10 (q := 11) rfl rfl rfl ?_
  refine g_iloadN w e5_11 (q := 12) rfl rfl ?_
  refine g_newarrE w e5_12 (q := 14) rfl (Hw hw 15 rfl) (ad := "[B") (by decide) (len := 16) (cap := 16) (by decide) (by decide) (by decide) (by decide) (by decide) (fun T h b w E g_b n_b A_b X_b s_b => ?_)
  have z_b := Nat.le_trans K0.1 g_b
  have ne_x_b : x ≠ b := Nat.ne_of_lt (Nat.lt_of_lt_of_le X_x.lt g_b)
  replace K0 := K0.ext E
  replace X_x := X_x.ext E
  replace F_value_x := F_value_x.ext E
  replace F_coder_x := F_coder_x.ext E
  replace F_count_x := F_count_x.ext E
  replace A_b : Ar Z h b .byte (List.replicate 16 (.int 0)) := A_b
  have g_ := w.chv
  refine g_putF w e5_14 (q := 17) rfl (Hw hw 59 rfl) Via.refl F_value_x X_x (Or.inl (Hw hw 60 rfl)) (Hw hw 46 rfl) (ty := (.array .byte)) (by decide) (v' := (.ref b)) rfl rfl n_x (w.safe X_x (by decide) (by decide)) (fun T h w W => ?_)
  replace K0 := K0.wr W (Or.inl (List.mem_singleton.mpr rfl))
  replace X_x := X_x.wr W
  replace F_value_x := F_value_x.same W
  replace F_coder_x := F_coder_x.other W (Or.inr (slot_ne (Or.inl (Hw hw 62 rfl)) (Or.inl (Hw hw 60 rfl)) (by decide) (t := .byte) (t' := (.array .byte)) (by decide) (by decide)))
  replace F_count_x := F_count_x.other W (Or.inr (slot_ne (Or.inl (Hw hw 86 rfl)) (Or.inl (Hw hw 60 rfl)) (by decide) (t := .int) (t' := (.array .byte)) (by decide) (by decide)))
  replace A_b := A_b.other W ne_x_b.symm
  replace X_b := X_b.wr W
  refine g_aloadN w e5_17 (q := 18) rfl rfl rfl ?_
  refine g_iconst w e5_18 (q := 19) rfl (v := (0 : Int32)) (by decide) ?_
  have g_ := w.chv
  refine g_putF w e5_19 (q := 22) rfl (Hw hw 61 rfl) Via.refl F_coder_x X_x (Or.inl (Hw hw 62 rfl)) (Hw hw 46 rfl) (ty := .byte) (by decide) (v' := (.int (0 : Int32))) rfl rfl n_x (w.safe X_x (by decide) (by decide)) (fun T h w W => ?_)
  replace K0 := K0.wr W (Or.inl (List.mem_singleton.mpr rfl))
  replace X_x := X_x.wr W
  replace F_value_x := F_value_x.other W (Or.inr (slot_ne (Or.inl (Hw hw 60 rfl)) (Or.inl (Hw hw 62 rfl)) (by decide) (t := (.array .byte)) (t' := .byte) (by decide) (by decide)))
  replace F_coder_x := F_coder_x.same W
  replace F_count_x := F_count_x.other W (Or.inr (slot_ne (Or.inl (Hw hw 86 rfl)) (Or.inl (Hw hw 62 rfl)) (by decide) (t := .int) (t' := .byte) (by decide) (by decide)))
  replace A_b := A_b.other W ne_x_b.symm
  replace X_b := X_b.wr W
  refine g_goto w e5_22 (by decide) (q := 38) (by decide) ?_
  exact g_return w e5_38 rfl (by decide) (by decide) ⟨rfl, K0, b, z_b, X_x, F_value_x, F_coder_x, F_count_x, A_b, X_b, Nat.le_of_ble_eq_true rfl, Nat.le_of_ble_eq_true rfl, _, rfl⟩
theorem e6_0 : decode jdk_67_method_1_code 0 = .ok (.aload_n 0, 1) := by decide +kernel
theorem e6_1 : decode jdk_67_method_1_code 1 = .ok (.bipush 16, 2) := by decide +kernel
theorem e6_3 : decode jdk_67_method_1_code 3 = .ok (.invokespecial 1, 3) := by decide +kernel
theorem e6_6 : decode jdk_67_method_1_code 6 = .ok (.return_, 1) := by decide +kernel
theorem pd1 : parseMethodDescriptor "(I)V" = some ⟨[.int], none⟩ := by decide +kernel
theorem pn3 : plainName "java/lang/StringBuilder" = true := by first | (simp [plainName, overriddenIn]; done) | decide +kernel
set_option maxRecDepth 65536 in
set_option maxHeartbeats 40000000 in
theorem con_sbi (l : Launch) (Z : State) (a0 : Array Value) (hw : ∀ d ∈ tables_1, d.before a0 Z = true) (x : Addr) (h0 : Heap) (O0 : Ext Z.heap h0) (X_x : Exa Z h0 x "java/lang/StringBuilder") (F_value_x : Fld Z h0 x "java/lang/AbstractStringBuilder" "value" "[B" .null) (F_coder_x : Fld Z h0 x "java/lang/AbstractStringBuilder" "coder" "B" (.int 0)) (F_count_x : Fld Z h0 x "java/lang/AbstractStringBuilder" "count" "I" (.int 0)) (n_x : Z.heap.size ≤ x) (hcm : Cpt Z) :
    Con l Z consts_1 false (⟨"java/lang/StringBuilder", "<init>", "()V"⟩ : MethodName) jdk_67_method_1_code 1 none [] ({ frames := 2, cells := 1, slots := 16, locals := 25 } : Room) #[(.ref x)] [] h0 (fun v h => v = none ∧ Keep h0 h [x] ∧ ∃ b, h0.size ≤ b ∧ Bd Z h x b (List.replicate 16 (.int 0)) []) := by
  refine Con.intro (Ls := #[.val (.ref x)]) (plainFor_of_name pn3) (own_EL hw) O0 (fun m => by first | (simp [entryFrame, mkF, argsToLocals, Value.category]; done) | rfl) (fun p e s m below meth cc_ T w sf_ => ?_)
  have K0 := Keep.refl h0 [x]
  refine g_aloadN w e6_0 (q := 1) rfl rfl rfl ?_
  refine g_bipush w e6_1 (q := 3) rfl (v := (16 : Int32)) (by decide) ?_
  refine g_special w (con_asbi l Z a0 hw x _ w.old X_x F_value_x F_coder_x F_count_x n_x hcm) no0 e6_3 (q := 6) rfl rfl rfl (Hw hw 51 rfl) (Hw hw 52 rfl) (Hw hw 55 rfl) (Hw hw 56 rfl) (by decide) pd1 rfl rfl (W := 0) (Nat.le_of_eq rfl) (by decide) (by decide) (by decide) (by decide) (fun T h v w gs C q => ?_)
  obtain ⟨rfl, K, b_x, g_b_x, B_x⟩ := q
  have z_b_x := Nat.le_trans K0.1 g_b_x
  have ne_x_b_x : x ≠ b_x := Nat.ne_of_lt (Nat.lt_of_lt_of_le X_x.lt g_b_x)
  replace K0 := keep_same K0 K
  have X0 := X_x
  replace X_x := X_x.keep K
  have n_b_x := Nat.le_trans O0.1 z_b_x
  show Go p e below _ (State.setTop T (mkF m 6 #[.val (.ref x)] []))
  exact g_return w e6_6 rfl (by decide) (by decide) ⟨rfl, K0, b_x, z_b_x, B_x⟩
theorem e7_0 : decode jdk_42_method_152_code 0 = .ok (.getstatic 38, 3) := by decide +kernel
theorem e7_3 : decode jdk_42_method_152_code 3 = .ok (.ifCond .eq 10, 3) := by decide +kernel
theorem e7_6 : decode jdk_42_method_152_code 6 = .ok (.aload_n 0, 1) := by decide +kernel
theorem e7_7 : decode jdk_42_method_152_code 7 = .ok (.getfield 15, 3) := by decide +kernel
theorem e7_10 : decode jdk_42_method_152_code 10 = .ok (.goto 4, 3) := by decide +kernel
theorem e7_13 : decode jdk_42_method_152_code 13 = .ok (.iconst 1, 1) := by decide +kernel
theorem e7_14 : decode jdk_42_method_152_code 14 = .ok (.ireturn, 1) := by decide +kernel
set_option maxRecDepth 65536 in
set_option maxHeartbeats 40000000 in
theorem con_coder (l : Launch) (Z : State) (a0 : Array Value) (hw : ∀ d ∈ tables_1, d.before a0 Z = true) (x : Addr) (h0 : Heap) (O0 : Ext Z.heap h0) (F_c : Fld Z h0 x "java/lang/String" "coder" "B" (.int 0)) (hcm : Cpt Z) :
    Con l Z consts_1 false (⟨"java/lang/String", "coder", "()B"⟩ : MethodName) jdk_42_method_152_code 1 (some .byte) [] ({ frames := 0, cells := 0, slots := 0, locals := 0 } : Room) #[(.ref x)] [] h0 (fun v h => v = some (.int 0) ∧ h = h0) := by
  refine Con.intro (Ls := #[.val (.ref x)]) (plainFor_of_name pn0) (own_EL hw) O0 (fun m => by first | (simp [entryFrame, mkF, argsToLocals, Value.category]; done) | rfl) (fun p e s m below meth cc_ T w sf_ => ?_)
  have E0 := ext_refl h0
  obtain ⟨z_, hz_, SC_⟩ := id hcm
  refine g_getS w e7_0 (q := 3) rfl (Hw hw 84 rfl) Via.refl SC_ (fun T w => ?_)
  refine g_ifN w e7_3 (q := 6) rfl (Jvm.Free.XT.i0_eq_f hz_) ?_
  refine g_aloadN w e7_6 (q := 7) rfl rfl rfl ?_
  refine g_getF w e7_7 (q := 10) rfl (host := "") (Or.inl (Hw hw 21 rfl)) Via.refl F_c (fun T w => ?_)
  refine g_goto w e7_10 (by decide) (q := 14) (by decide) ?_
  exact g_retn w e7_14 rfl (by simp) rfl (by decide) (by decide) ⟨rfl, rfl⟩
theorem e8_0 : decode jdk_68_method_71_code 0 = .ok (.getstatic 18, 3) := by decide +kernel
theorem e8_3 : decode jdk_68_method_71_code 3 = .ok (.ifCond .eq 18, 3) := by decide +kernel
theorem e8_6 : decode jdk_68_method_71_code 6 = .ok (.aload_n 0, 1) := by decide +kernel
theorem e8_7 : decode jdk_68_method_71_code 7 = .ok (.getfield 22, 3) := by decide +kernel
theorem e8_10 : decode jdk_68_method_71_code 10 = .ok (.aload_n 1, 1) := by decide +kernel
theorem e8_11 : decode jdk_68_method_71_code 11 = .ok (.invokevirtual 40, 3) := by decide +kernel
theorem e8_14 : decode jdk_68_method_71_code 14 = .ok (.if_icmp .eq 7, 3) := by decide +kernel
theorem e8_17 : decode jdk_68_method_71_code 17 = .ok (.aload_n 0, 1) := by decide +kernel
theorem e8_18 : decode jdk_68_method_71_code 18 = .ok (.invokevirtual 195, 3) := by decide +kernel
theorem e8_21 : decode jdk_68_method_71_code 21 = .ok (.return_, 1) := by decide +kernel
theorem pd2 : parseMethodDescriptor "()B" = some ⟨[], some .byte⟩ := by decide +kernel
set_option maxRecDepth 65536 in
set_option maxHeartbeats 40000000 in
theorem con_inf (l : Launch) (Z : State) (a0 : Array Value) (hw : ∀ d ∈ tables_1, d.before a0 Z = true) (x u : Addr) (ds : List Int32) (h0 : Heap) (O0 : Ext Z.heap h0) (F_coder_x : Fld Z h0 x "java/lang/AbstractStringBuilder" "coder" "B" (.int 0)) (S_u : Sg Z h0 u ds) (hcm : Cpt Z) :
    Con l Z consts_1 false (⟨"java/lang/AbstractStringBuilder", "inflateIfNeededFor", "(Ljava/lang/String;)V"⟩ : MethodName) jdk_68_method_71_code 2 none [] ({ frames := 1, cells := 0, slots := 0, locals := 13 } : Room) #[(.ref x), (.ref u)] [] h0 (fun v h => v = none ∧ h = h0) := by
  refine Con.intro (Ls := #[.val (.ref x), .val (.ref u)]) (plainFor_of_name pn2) (own_EL hw) O0 (fun m => by first | (simp [entryFrame, mkF, argsToLocals, Value.category]; done) | rfl) (fun p e s m below meth cc_ T w sf_ => ?_)
  have E0 := ext_refl h0
  obtain ⟨z_, hz_, SC_⟩ := id hcm
  obtain ⟨t_, F_v, F_c, A_t⟩ := S_u.ar
  refine g_getS w e8_0 (q := 3) rfl (Hw hw 58 rfl) Via.refl SC_ (fun T w => ?_)
  refine g_ifN w e8_3 (q := 6) rfl (Jvm.Free.XT.i0_eq_f hz_) ?_
  refine g_aloadN w e8_6 (q := 7) rfl rfl rfl ?_
  refine g_getF w e8_7 (q := 10) rfl (host := "") (Or.inl (Hw hw 61 rfl)) Via.refl F_coder_x (fun T w => ?_)
  refine g_aloadN w e8_10 (q := 11) rfl rfl rfl ?_
  refine g_virtualP w (con_coder l Z a0 hw u _ w.old F_c hcm) no0 S_u.exa e8_11 (q := 14) rfl rfl (Hw hw 102 rfl) (Hw hw 80 rfl) (Hw hw 82 rfl) (Hw hw 81 rfl) (Hw hw 3 rfl) (Hw hw 83 rfl) (by decide) (nf (Hw hw 82 rfl)) pd2 rfl rfl (W := 1) (Nat.le_of_eq rfl) (by decide) (by decide) (by decide) (by decide) (fun T v w C q => ?_)
  obtain rfl := q
  show Go p e below _ (State.setTop T (mkF m 14 #[.val (.ref x), .val (.ref u)] [(.int (0 : Int32)), (.int (0 : Int32))]))
  refine g_icY w e8_14 (by decide) (q := 21) (by decide) (Jvm.Free.XT.ii_eq_t rfl) ?_
  exact g_return w e8_21 rfl (by decide) (by decide) ⟨rfl, rfl⟩
theorem e9_0 : decode jdk_42_method_147_code 0 = .ok (.aload_n 0, 1) := by decide +kernel
theorem e9_1 : decode jdk_42_method_147_code 1 = .ok (.invokevirtual 335, 3) := by decide +kernel
theorem e9_4 : decode jdk_42_method_147_code 4 = .ok (.iload_n 3, 1) := by decide +kernel
theorem e9_5 : decode jdk_42_method_147_code 5 = .ok (.if_icmp .ne 23, 3) := by decide +kernel
theorem e9_8 : decode jdk_42_method_147_code 8 = .ok (.aload_n 0, 1) := by decide +kernel
theorem e9_9 : decode jdk_42_method_147_code 9 = .ok (.getfield 9, 3) := by decide +kernel
theorem e9_12 : decode jdk_42_method_147_code 12 = .ok (.iconst 0, 1) := by decide +kernel
theorem e9_13 : decode jdk_42_method_147_code 13 = .ok (.aload_n 1, 1) := by decide +kernel
theorem e9_14 : decode jdk_42_method_147_code 14 = .ok (.iload_n 2, 1) := by decide +kernel
theorem e9_15 : decode jdk_42_method_147_code 15 = .ok (.iload_n 3, 1) := by decide +kernel
theorem e9_16 : decode jdk_42_method_147_code 16 = .ok (.ishl, 1) := by decide +kernel
theorem e9_17 : decode jdk_42_method_147_code 17 = .ok (.aload_n 0, 1) := by decide +kernel
theorem e9_18 : decode jdk_42_method_147_code 18 = .ok (.getfield 9, 3) := by decide +kernel
theorem e9_21 : decode jdk_42_method_147_code 21 = .ok (.arraylength, 1) := by decide +kernel
theorem e9_22 : decode jdk_42_method_147_code 22 = .ok (.invokestatic 212, 3) := by decide +kernel
theorem e9_25 : decode jdk_42_method_147_code 25 = .ok (.goto 18, 3) := by decide +kernel
theorem e9_28 : decode jdk_42_method_147_code 28 = .ok (.aload_n 0, 1) := by decide +kernel
theorem e9_29 : decode jdk_42_method_147_code 29 = .ok (.getfield 9, 3) := by decide +kernel
theorem e9_32 : decode jdk_42_method_147_code 32 = .ok (.iconst 0, 1) := by decide +kernel
theorem e9_33 : decode jdk_42_method_147_code 33 = .ok (.aload_n 1, 1) := by decide +kernel
theorem e9_34 : decode jdk_42_method_147_code 34 = .ok (.iload_n 2, 1) := by decide +kernel
theorem e9_35 : decode jdk_42_method_147_code 35 = .ok (.aload_n 0, 1) := by decide +kernel
theorem e9_36 : decode jdk_42_method_147_code 36 = .ok (.getfield 9, 3) := by decide +kernel
theorem e9_39 : decode jdk_42_method_147_code 39 = .ok (.arraylength, 1) := by decide +kernel
theorem e9_40 : decode jdk_42_method_147_code 40 = .ok (.invokestatic 106, 3) := by decide +kernel
theorem e9_43 : decode jdk_42_method_147_code 43 = .ok (.return_, 1) := by decide +kernel
set_option maxRecDepth 65536 in
set_option maxHeartbeats 40000000 in
theorem con_gb (l : Launch) (Z : State) (a0 : Array Value) (hw : ∀ d ∈ tables_1, d.before a0 Z = true) (u b : Addr) (k_ : Nat) (ds : List Int32) (vs : List Value) (h0 : Heap) (O0 : Ext Z.heap h0) (S_u : Sg Z h0 u ds) (A_b : Ar Z h0 b .byte vs) (n_b : Z.heap.size ≤ b) (hk : k_ + ds.length ≤ vs.length) (h16 : 16 ≤ vs.length) (h126 : vs.length ≤ 126) (hcm : Cpt Z) :
    Con l Z consts_1 false (⟨"java/lang/String", "getBytes", "([BIB)V"⟩ : MethodName) jdk_42_method_147_code 4 none [] ({ frames := 1, cells := 0, slots := 0, locals := 18 } : Room) #[(.ref u), (.ref b), (.int (Int32.ofNat k_)), (.int (0 : Int32))] [] h0 (fun v h => v = none ∧ Keep h0 h [b] ∧ Ar Z h b .byte (vs.take k_ ++ bys ds ++ vs.drop (k_ + ds.length))) := by
  refine Con.intro (Ls := #[.val (.ref u), .val (.ref b), .val (.int (Int32.ofNat k_)), .val (.int (0 : Int32))]) (plainFor_of_name pn0) (own_EL hw) O0 (fun m => by first | (simp [entryFrame, mkF, argsToLocals, Value.category]; done) | rfl) (fun p e s m below meth cc_ T w sf_ => ?_)
  have K0 := Keep.refl h0 [b]
  obtain ⟨z_, hz_, SC_⟩ := id hcm
  obtain ⟨t_, F_v, F_c, A_t⟩ := S_u.ar
  refine g_aloadN w e9_0 (q := 1) rfl rfl rfl ?_
  refine g_virtualP w (con_coder l Z a0 hw u _ w.old F_c hcm) no0 S_u.exa e9_1 (q := 4) rfl rfl (Hw hw 79 rfl) (Hw hw 80 rfl) (Hw hw 82 rfl) (Hw hw 81 rfl) (Hw hw 3 rfl) (Hw hw 83 rfl) (by decide) (nf (Hw hw 82 rfl)) pd2 rfl rfl (W := 0) (Nat.le_of_eq rfl) (by decide) (by decide) (by decide) (by decide) (fun T v w C q => ?_)
  obtain rfl := q
  show Go p e below _ (State.setTop T (mkF m 4 #[.val (.ref u), .val (.ref b), .val (.int (Int32.ofNat k_)), .val (.int (0 : Int32))] [(.int (0 : Int32))]))
  refine g_iloadN w e9_4 (q := 5) rfl rfl ?_
  refine g_icN w e9_5 (q := 8) rfl (Jvm.Free.XT.ii_ne_f rfl) ?_
  refine g_aloadN w e9_8 (q := 9) rfl rfl rfl ?_
  refine g_getF w e9_9 (q := 12) rfl (host := "") (Or.inl (Hw hw 20 rfl)) Via.refl F_v (fun T w => ?_)
  refine g_iconst w e9_12 (q := 13) rfl (v := (0 : Int32)) (by decide) ?_
  refine g_aloadN w e9_13 (q := 14) rfl rfl rfl ?_
  refine g_iloadN w e9_14 (q := 15) rfl rfl ?_
  refine g_iloadN w e9_15 (q := 16) rfl rfl ?_
  refine g_ishl w e9_16 (q := 17) rfl ?_
  rw [shl0]
  show Go p e below _ (State.setTop T (mkF m 17 #[.val (.ref u), .val (.ref b), .val (.int (Int32.ofNat k_)), .val (.int (0 : Int32))] [(.int (Int32.ofNat k_)), (.ref b), (.int (0 : Int32)), (.ref t_)]))
  refine g_aloadN w e9_17 (q := 18) rfl rfl rfl ?_
  refine g_getF w e9_18 (q := 21) rfl (host := "") (Or.inl (Hw hw 20 rfl)) Via.refl F_v (fun T w => ?_)
  refine g_alen w e9_21 (q := 22) rfl A_t ?_
  rw [List.length_map, List.length_map]
  show Go p e below _ (State.setTop T (mkF m 22 #[.val (.ref u), .val (.ref b), .val (.int (Int32.ofNat k_)), .val (.int (0 : Int32))] [(.int (Int32.ofNat ds.length)), (.int (Int32.ofNat k_)), (.ref b), (.int (0 : Int32)), (.ref t_)]))
  refine g_acopyB w (sp := 0) (dp := k_) (nn := ds.length) A_t A_b (by simp) (by omega) n_b (w.safeL (own_WL hw) A_b (by omega)) e9_22 (q := 25) rfl rfl (Hw hw 108 rfl) (Hw hw 111 rfl) (Hw hw 109 rfl) (Hw hw 110 rfl) (Wd := 0) (Nat.le_of_eq rfl) (by decide) (by decide) (fun T h w K V => ?_)
  rw [cp_in (by simp)] at V
  replace K0 := keep_same K0 K
  replace A_b := V
  show Go p e below _ (State.setTop T (mkF m 25 #[.val (.ref u), .val (.ref b), .val (.int (Int32.ofNat k_)), .val (.int (0 : Int32))] []))
  refine g_goto w e9_25 (by decide) (q := 43) (by decide) ?_
  exact g_return w e9_43 rfl (by decide) (by decide) ⟨rfl, K0, A_b⟩
theorem e10_0 : decode jdk_68_method_73_code 0 = .ok (.aload_n 0, 1) := by decide +kernel
theorem e10_1 : decode jdk_68_method_73_code 1 = .ok (.aload_n 2, 1) := by decide +kernel
theorem e10_2 : decode jdk_68_method_73_code 2 = .ok (.invokevirtual 397, 3) := by decide +kernel
theorem e10_5 : decode jdk_68_method_73_code 5 = .ok (.aload_n 2, 1) := by decide +kernel
theorem e10_6 : decode jdk_68_method_73_code 6 = .ok (.aload_n 0, 1) := by decide +kernel
theorem e10_7 : decode jdk_68_method_73_code 7 = .ok (.getfield 15, 3) := by decide +kernel
theorem e10_10 : decode jdk_68_method_73_code 10 = .ok (.iload_n 1, 1) := by decide +kernel
theorem e10_11 : decode jdk_68_method_73_code 11 = .ok (.aload_n 0, 1) := by decide +kernel
theorem e10_12 : decode jdk_68_method_73_code 12 = .ok (.getfield 22, 3) := by decide +kernel
theorem e10_15 : decode jdk_68_method_73_code 15 = .ok (.invokevirtual 399, 3) := by decide +kernel
theorem e10_18 : decode jdk_68_method_73_code 18 = .ok (.return_, 1) := by decide +kernel
theorem pd3 : parseMethodDescriptor "(Ljava/lang/String;)V" = some ⟨[(.object "java/lang/String")], none⟩ := by decide +kernel
theorem pd4 : parseMethodDescriptor "([BIB)V" = some ⟨[(.array .byte), .int, .byte], none⟩ := by decide +kernel
set_option maxRecDepth 65536 in
set_option maxHeartbeats 40000000 in
theorem con_ps (l : Launch) (Z : State) (a0 : Array Value) (hw : ∀ d ∈ tables_1, d.before a0 Z = true) (x u b : Addr) (k_ : Nat) (ds : List Int32) (vs : List Value) (h0 : Heap) (O0 : Ext Z.heap h0) (X_x : Exa Z h0 x "java/lang/StringBuilder") (F_value_x : Fld Z h0 x "java/lang/AbstractStringBuilder" "value" "[B" (.ref b)) (F_coder_x : Fld Z h0 x "java/lang/AbstractStringBuilder" "coder" "B" (.int 0)) (S_u : Sg Z h0 u ds) (A_b : Ar Z h0 b .byte vs) (n_b : Z.heap.size ≤ b) (hk : k_ + ds.length ≤ vs.length) (h16 : 16 ≤ vs.length) (h126 : vs.length ≤ 126) (hcm : Cpt Z) :
    Con l Z consts_1 false (⟨"java/lang/AbstractStringBuilder", "putStringAt", "(ILjava/lang/String;)V"⟩ : MethodName) jdk_68_method_73_code 3 none [] ({ frames := 2, cells := 0, slots := 0, locals := 33 } : Room) #[(.ref x), (.int (Int32.ofNat k_)), (.ref u)] [] h0 (fun v h => v = none ∧ Keep h0 h [b] ∧ Ar Z h b .byte (vs.take k_ ++ bys ds ++ vs.drop (k_ + ds.length))) := by
  refine Con.intro (Ls := #[.val (.ref x), .val (.int (Int32.ofNat k_)), .val (.ref u)]) (plainFor_of_name pn2) (own_EL hw) O0 (fun m => by first | (simp [entryFrame, mkF, argsToLocals, Value.category]; done) | rfl) (fun p e s m below meth cc_ T w sf_ => ?_)
  have K0 := Keep.refl h0 [b]
  refine g_aloadN w e10_0 (q := 1) rfl rfl rfl ?_
  refine g_aloadN w e10_1 (q := 2) rfl rfl rfl ?_
  refine g_privP w (con_inf l Z a0 hw x u _ _ w.old F_coder_x S_u hcm) no0 X_x e10_2 (q := 5) rfl rfl (Hw hw 97 rfl) (Hw hw 99 rfl) (selOwn (Hw hw 98 rfl) (Hw hw 100 rfl) (Hw hw 99 rfl) (by decide)) (Hw hw 98 rfl) (Hw hw 55 rfl) (Hw hw 101 rfl) (by decide) pd3 rfl rfl (W := 0) (Nat.le_of_eq rfl) (by decide) (by decide) (by decide) (by decide) (fun T v w C q => ?_)
  obtain rfl := q
  show Go p e below _ (State.setTop T (mkF m 5 #[.val (.ref x), .val (.int (Int32.ofNat k_)), .val (.ref u)] []))
  refine g_aloadN w e10_5 (q := 6) rfl rfl rfl ?_
  refine g_aloadN w e10_6 (q := 7) rfl rfl rfl ?_
  refine g_getF w e10_7 (q := 10) rfl (host := "") (Or.inl (Hw hw 59 rfl)) Via.refl F_value_x (fun T w => ?_)
  refine g_iloadN w e10_10 (q := 11) rfl rfl ?_
  refine g_aloadN w e10_11 (q := 12) rfl rfl rfl ?_
  refine g_getF w e10_12 (q := 15) rfl (host := "") (Or.inl (Hw hw 61 rfl)) Via.refl F_coder_x (fun T w => ?_)
  refine g_virtual w (con_gb l Z a0 hw u b k_ ds vs _ w.old S_u A_b n_b hk h16 h126 hcm) no0 S_u.exa e10_15 (q := 18) rfl rfl (Hw hw 103 rfl) (Hw hw 104 rfl) (Hw hw 106 rfl) (Hw hw 105 rfl) (Hw hw 3 rfl) (Hw hw 107 rfl) (by decide) (nf (Hw hw 106 rfl)) pd4 rfl rfl (W := 0) (Nat.le_of_eq rfl) (by decide) (by decide) (by decide) (by decide) (fun T h v w gs C q => ?_)
  obtain ⟨rfl, K, V⟩ := q
  replace K0 := keep_same K0 K
  replace A_b := V
  show Go p e below _ (State.setTop T (mkF m 18 #[.val (.ref x), .val (.int (Int32.ofNat k_)), .val (.ref u)] []))
  exact g_return w e10_18 rfl (by decide) (by decide) ⟨rfl, K0, A_b⟩
theorem e11_0 : decode jdk_48_method_27_code 0 = .ok (.iload_n 0, 1) := by decide +kernel
theorem e11_1 : decode jdk_48_method_27_code 1 = .ok (.iload_n 1, 1) := by decide +kernel
theorem e11_2 : decode jdk_48_method_27_code 2 = .ok (.iload_n 2, 1) := by decide +kernel
theorem e11_3 : decode jdk_48_method_27_code 3 = .ok (.invokestatic 194, 3) := by decide +kernel
theorem e11_6 : decode jdk_48_method_27_code 6 = .ok (.iadd, 1) := by decide +kernel
theorem e11_7 : decode jdk_48_method_27_code 7 = .ok (.istore_n 3, 1) := by decide +kernel
theorem e11_8 : decode jdk_48_method_27_code 8 = .ok (.iconst 0, 1) := by decide +kernel
theorem e11_9 : decode jdk_48_method_27_code 9 = .ok (.iload_n 3, 1) := by decide +kernel
theorem e11_10 : decode jdk_48_method_27_code 10 = .ok (.if_icmp .ge 11, 3) := by decide +kernel
theorem e11_13 : decode jdk_48_method_27_code 13 = .ok (.iload_n 3, 1) := by decide +kernel
theorem e11_14 : decode jdk_48_method_27_code 14 = .ok (.ldc 200, 2) := by decide +kernel
theorem e11_16 : decode jdk_48_method_27_code 16 = .ok (.if_icmp .gt 5, 3) := by decide +kernel
theorem e11_19 : decode jdk_48_method_27_code 19 = .ok (.iload_n 3, 1) := by decide +kernel
theorem e11_20 : decode jdk_48_method_27_code 20 = .ok (.ireturn, 1) := by decide +kernel
theorem e11_21 : decode jdk_48_method_27_code 21 = .ok (.iload_n 0, 1) := by decide +kernel
theorem e11_22 : decode jdk_48_method_27_code 22 = .ok (.iload_n 1, 1) := by decide +kernel
theorem e11_23 : decode jdk_48_method_27_code 23 = .ok (.invokestatic 201, 3) := by decide +kernel
theorem e11_26 : decode jdk_48_method_27_code 26 = .ok (.ireturn, 1) := by decide +kernel
theorem pd5 : parseMethodDescriptor "(II)I" = some ⟨[.int, .int], some .int⟩ := by decide +kernel
theorem pn4 : plainName "jdk/internal/util/ArraysSupport" = true := by first | (simp [plainName, overriddenIn]; done) | decide +kernel
set_option maxRecDepth 65536 in
set_option maxHeartbeats 40000000 in
theorem con_nl (l : Launch) (Z : State) (a0 : Array Value) (hw : ∀ d ∈ tables_1, d.before a0 Z = true) (L_ m_ : Nat) (h0 : Heap) (O0 : Ext Z.heap h0) (hlt : L_ < m_) (hm : m_ ≤ 63) :
    Con l Z consts_1 false (⟨"jdk/internal/util/ArraysSupport", "newLength", "(III)I"⟩ : MethodName) jdk_48_method_27_code 4 (some .int) [] ({ frames := 1, cells := 0, slots := 0, locals := 14 } : Room) #[(.int (Int32.ofNat L_)), (.int (Int32.ofNat (m_ - L_))), (.int (Int32.ofNat (L_ + 2)))] [] h0 (fun v h => v = some (.int (Int32.ofNat (nsz L_ m_))) ∧ h = h0) := by
  refine Con.intro (Ls := #[.val (.int (Int32.ofNat L_)), .val (.int (Int32.ofNat (m_ - L_))), .val (.int (Int32.ofNat (L_ + 2))), .unset]) (plainFor_of_name pn4) (own_EL hw) O0 (fun m => by first | (simp [entryFrame, mkF, argsToLocals, Value.category]; done) | rfl) (fun p e s m below meth cc_ T w sf_ => ?_)
  have E0 := ext_refl h0
  refine g_iloadN w e11_0 (q := 1) rfl rfl ?_
  refine g_iloadN w e11_1 (q := 2) rfl rfl ?_
  refine g_iloadN w e11_2 (q := 3) rfl rfl ?_
  refine g_staticP w (con_max l Z a0 hw (Int32.ofNat (m_ - L_)) (Int32.ofNat (L_ + 2)) _ w.old) no0 e11_3 (q := 6) rfl rfl (Hw hw 270 rfl) (Hw hw 271 rfl) (Hw hw 202 rfl) (Hw hw 272 rfl) (by decide) pd5 rfl rfl (W := 1) (Nat.le_of_eq rfl) (by decide) (by decide) (by decide) (by decide) (fun T v w C q => ?_)
  obtain rfl := q
  show Go p e below _ (State.setTop T (mkF m 6 #[.val (.int (Int32.ofNat L_)), .val (.int (Int32.ofNat (m_ - L_))), .val (.int (Int32.ofNat (L_ + 2))), .unset] [(.int (if (Int32.ofNat (m_ - L_)) < (Int32.ofNat (L_ + 2)) then (Int32.ofNat (L_ + 2)) else (Int32.ofNat (m_ - L_)))), (.int (Int32.ofNat L_))]))
  refine g_iadd w e11_6 (q := 7) rfl ?_
  rw [nl_eq hlt hm]
  show Go p e below _ (State.setTop T (mkF m 7 #[.val (.int (Int32.ofNat L_)), .val (.int (Int32.ofNat (m_ - L_))), .val (.int (Int32.ofNat (L_ + 2))), .unset] [(.int (Int32.ofNat (nsz L_ m_)))]))
  refine g_istoreN w e11_7 (q := 8) rfl (Ls' := #[.val (.int (Int32.ofNat L_)), .val (.int (Int32.ofNat (m_ - L_))), .val (.int (Int32.ofNat (L_ + 2))), .val (.int (Int32.ofNat (nsz L_ m_)))]) rfl ?_
  refine g_iconst w e11_8 (q := 9) rfl (v := (0 : Int32)) (by decide) ?_
  refine g_iloadN w e11_9 (q := 10) rfl rfl ?_
  refine g_icN w e11_10 (q := 13) rfl (Jvm.Free.XT.ii_ge_f (lt0 (Nat.lt_of_le_of_lt (Nat.zero_le _) nsz_gt) (Nat.le_trans (nsz_le hlt hm) (by decide)))) ?_
  refine g_iloadN w e11_13 (q := 14) rfl rfl ?_
  refine g_ldcI w e11_14 (q := 16) rfl (v := (2147483639 : Int32)) (Hw hw 273 rfl) ?_
  refine g_icN w e11_16 (q := 19) rfl (Jvm.Free.XT.ii_gt_f (n_big (Nat.le_trans (nsz_le hlt hm) (by decide)))) ?_
  refine g_iloadN w e11_19 (q := 20) rfl rfl ?_
  exact g_reti w e11_20 rfl (by decide) (by decide) ⟨rfl, rfl⟩
theorem e12_0 : decode jdk_68_method_10_code 0 = .ok (.aload_n 0, 1) := by decide +kernel
theorem e12_1 : decode jdk_68_method_10_code 1 = .ok (.getfield 15, 3) := by decide +kernel
theorem e12_4 : decode jdk_68_method_10_code 4 = .ok (.arraylength, 1) := by decide +kernel
theorem e12_5 : decode jdk_68_method_10_code 5 = .ok (.istore_n 2, 1) := by decide +kernel
theorem e12_6 : decode jdk_68_method_10_code 6 = .ok (.iload_n 1, 1) := by decide +kernel
theorem e12_7 : decode jdk_68_method_10_code 7 = .ok (.aload_n 0, 1) := by decide +kernel
theorem e12_8 : decode jdk_68_method_10_code 8 = .ok (.getfield 22, 3) := by decide +kernel
theorem e12_11 : decode jdk_68_method_10_code 11 = .ok (.ishl, 1) := by decide +kernel
theorem e12_12 : decode jdk_68_method_10_code 12 = .ok (.istore_n 3, 1) := by decide +kernel
theorem e12_13 : decode jdk_68_method_10_code 13 = .ok (.iload_n 3, 1) := by decide +kernel
theorem e12_14 : decode jdk_68_method_10_code 14 = .ok (.iload_n 2, 1) := by decide +kernel
theorem e12_15 : decode jdk_68_method_10_code 15 = .ok (.isub, 1) := by decide +kernel
theorem e12_16 : decode jdk_68_method_10_code 16 = .ok (.istore 4, 2) := by decide +kernel
theorem e12_18 : decode jdk_68_method_10_code 18 = .ok (.iload_n 2, 1) := by decide +kernel
theorem e12_19 : decode jdk_68_method_10_code 19 = .ok (.iload 4, 2) := by decide +kernel
theorem e12_21 : decode jdk_68_method_10_code 21 = .ok (.iload_n 2, 1) := by decide +kernel
theorem e12_22 : decode jdk_68_method_10_code 22 = .ok (.iconst 2, 1) := by decide +kernel
theorem e12_23 : decode jdk_68_method_10_code 23 = .ok (.aload_n 0, 1) := by decide +kernel
theorem e12_24 : decode jdk_68_method_10_code 24 = .ok (.getfield 22, 3) := by decide +kernel
theorem e12_27 : decode jdk_68_method_10_code 27 = .ok (.ishl, 1) := by decide +kernel
theorem e12_28 : decode jdk_68_method_10_code 28 = .ok (.iadd, 1) := by decide +kernel
theorem e12_29 : decode jdk_68_method_10_code 29 = .ok (.invokestatic 114, 3) := by decide +kernel
theorem e12_32 : decode jdk_68_method_10_code 32 = .ok (.istore 5, 2) := by decide +kernel
theorem e12_34 : decode jdk_68_method_10_code 34 = .ok (.iload 5, 2) := by decide +kernel
theorem e12_36 : decode jdk_68_method_10_code 36 = .ok (.ldc 39, 2) := by decide +kernel
theorem e12_38 : decode jdk_68_method_10_code 38 = .ok (.if_icmp .ne 13, 3) := by decide +kernel
theorem e12_41 : decode jdk_68_method_10_code 41 = .ok (.new 120, 3) := by decide +kernel
theorem e12_44 : decode jdk_68_method_10_code 44 = .ok (.dup, 1) := by decide +kernel
theorem e12_45 : decode jdk_68_method_10_code 45 = .ok (.ldc 122, 2) := by decide +kernel
theorem e12_47 : decode jdk_68_method_10_code 47 = .ok (.invokespecial 124, 3) := by decide +kernel
theorem e12_50 : decode jdk_68_method_10_code 50 = .ok (.athrow, 1) := by decide +kernel
theorem e12_51 : decode jdk_68_method_10_code 51 = .ok (.iload 5, 2) := by decide +kernel
theorem e12_53 : decode jdk_68_method_10_code 53 = .ok (.aload_n 0, 1) := by decide +kernel
theorem e12_54 : decode jdk_68_method_10_code 54 = .ok (.getfield 22, 3) := by decide +kernel
theorem e12_57 : decode jdk_68_method_10_code 57 = .ok (.ishr, 1) := by decide +kernel
theorem e12_58 : decode jdk_68_method_10_code 58 = .ok (.ireturn, 1) := by decide +kernel
theorem pd6 : parseMethodDescriptor "(III)I" = some ⟨[.int, .int, .int], some .int⟩ := by decide +kernel
set_option maxRecDepth 65536 in
set_option maxHeartbeats 40000000 in
theorem con_nc (l : Launch) (Z : State) (a0 : Array Value) (hw : ∀ d ∈ tables_1, d.before a0 Z = true) (x b : Addr) (m_ : Nat) (vs : List Value) (h0 : Heap) (O0 : Ext Z.heap h0) (F_value_x : Fld Z h0 x "java/lang/AbstractStringBuilder" "value" "[B" (.ref b)) (F_coder_x : Fld Z h0 x "java/lang/AbstractStringBuilder" "coder" "B" (.int 0)) (A_b : Ar Z h0 b .byte vs) (hlt : vs.length < m_) (hm : m_ ≤ 63) :
    Con l Z consts_1 false (⟨"java/lang/AbstractStringBuilder", "newCapacity", "(I)I"⟩ : MethodName) jdk_68_method_10_code 6 (some .int) [] ({ frames := 2, cells := 0, slots := 0, locals := 29 } : Room) #[(.ref x), (.int (Int32.ofNat m_))] [] h0 (fun v h => v = some (.int (Int32.ofNat (nsz vs.length m_))) ∧ h = h0) := by
  refine Con.intro (Ls := #[.val (.ref x), .val (.int (Int32.ofNat m_)), .unset, .unset, .unset, .unset]) (plainFor_of_name pn2) (own_EL hw) O0 (fun m => by first | (simp [entryFrame, mkF, argsToLocals, Value.category]; done) | rfl) (fun p e s m below meth cc_ T w sf_ => ?_)
  have E0 := ext_refl h0
  refine g_aloadN w e12_0 (q := 1) rfl rfl rfl ?_
  refine g_getF w e12_1 (q := 4) rfl (host := "") (Or.inl (Hw hw 59 rfl)) Via.refl F_value_x (fun T w => ?_)
  refine g_alen w e12_4 (q := 5) rfl A_b ?_
  show Go p e below _ (State.setTop T (mkF m 5 #[.val (.ref x), .val (.int (Int32.ofNat m_)), .unset, .unset, .unset, .unset] [(.int (Int32.ofNat vs.length))]))
  refine g_istoreN w e12_5 (q := 6) rfl (Ls' := #[.val (.ref x), .val (.int (Int32.ofNat m_)), .val (.int (Int32.ofNat vs.length)), .unset, .unset, .unset]) rfl ?_
  refine g_iloadN w e12_6 (q := 7) rfl rfl ?_
  refine g_aloadN w e12_7 (q := 8) rfl rfl rfl ?_
  refine g_getF w e12_8 (q := 11) rfl (host := "") (Or.inl (Hw hw 61 rfl)) Via.refl F_coder_x (fun T w => ?_)
  refine g_ishl w e12_11 (q := 12) rfl ?_
  rw [shl0]
  show Go p e below _ (State.setTop T (mkF m 12 #[.val (.ref x), .val (.int (Int32.ofNat m_)), .val (.int (Int32.ofNat vs.length)), .unset, .unset, .unset] [(.int (Int32.ofNat m_))]))
  refine g_istoreN w e12_12 (q := 13) rfl (Ls' := #[.val (.ref x), .val (.int (Int32.ofNat m_)), .val (.int (Int32.ofNat vs.length)), .val (.int (Int32.ofNat m_)), .unset, .unset]) rfl ?_
  refine g_iloadN w e12_13 (q := 14) rfl rfl ?_
  refine g_iloadN w e12_14 (q := 15) rfl rfl ?_
  refine g_isub w e12_15 (q := 16) rfl ?_
  rw [oN_sub (Nat.le_of_lt hlt)]
  show Go p e below _ (State.setTop T (mkF m 16 #[.val (.ref x), .val (.int (Int32.ofNat m_)), .val (.int (Int32.ofNat vs.length)), .val (.int (Int32.ofNat m_)), .unset, .unset] [(.int (Int32.ofNat (m_ - vs.length)))]))
  refine g_istore w e12_16 (q := 18) rfl (Ls' := #[.val (.ref x), .val (.int (Int32.ofNat m_)), .val (.int (Int32.ofNat vs.length)), .val (.int (Int32.ofNat m_)), .val (.int (Int32.ofNat (m_ - vs.length))), .unset]) rfl ?_
  refine g_iloadN w e12_18 (q := 19) rfl rfl ?_
  refine g_iload w e12_19 (q := 21) rfl rfl ?_
  refine g_iloadN w e12_21 (q := 22) rfl rfl ?_
  refine g_iconst w e12_22 (q := 23) rfl (v := (2 : Int32)) (by decide) ?_
  refine g_aloadN w e12_23 (q := 24) rfl rfl rfl ?_
  refine g_getF w e12_24 (q := 27) rfl (host := "") (Or.inl (Hw hw 61 rfl)) Via.refl F_coder_x (fun T w => ?_)
  refine g_ishl w e12_27 (q := 28) rfl ?_
  rw [shl0]
  show Go p e below _ (State.setTop T (mkF m 28 #[.val (.ref x), .val (.int (Int32.ofNat m_)), .val (.int (Int32.ofNat vs.length)), .val (.int (Int32.ofNat m_)), .val (.int (Int32.ofNat (m_ - vs.length))), .unset] [(.int (2 : Int32)), (.int (Int32.ofNat vs.length)), (.int (Int32.ofNat (m_ - vs.length))), (.int (Int32.ofNat vs.length))]))
  refine g_iadd w e12_28 (q := 29) rfl ?_
  rw [oN_a2]
  show Go p e below _ (State.setTop T (mkF m 29 #[.val (.ref x), .val (.int (Int32.ofNat m_)), .val (.int (Int32.ofNat vs.length)), .val (.int (Int32.ofNat m_)), .val (.int (Int32.ofNat (m_ - vs.length))), .unset] [(.int (Int32.ofNat (vs.length + 2))), (.int (Int32.ofNat (m_ - vs.length))), (.int (Int32.ofNat vs.length))]))
  refine g_staticP w (con_nl l Z a0 hw vs.length m_ _ w.old hlt hm) no0 e12_29 (q := 32) rfl rfl (Hw hw 266 rfl) (Hw hw 267 rfl) (Hw hw 268 rfl) (Hw hw 269 rfl) (by decide) pd6 rfl rfl (W := 0) (Nat.le_of_eq rfl) (by decide) (by decide) (by decide) (by decide) (fun T v w C q => ?_)
  obtain rfl := q
  show Go p e below _ (State.setTop T (mkF m 32 #[.val (.ref x), .val (.int (Int32.ofNat m_)), .val (.int (Int32.ofNat vs.length)), .val (.int (Int32.ofNat m_)), .val (.int (Int32.ofNat (m_ - vs.length))), .unset] [(.int (Int32.ofNat (nsz vs.length m_)))]))
  refine g_istore w e12_32 (q := 34) rfl (Ls' := #[.val (.ref x), .val (.int (Int32.ofNat m_)), .val (.int (Int32.ofNat vs.length)), .val (.int (Int32.ofNat m_)), .val (.int (Int32.ofNat (m_ - vs.length))), .val (.int (Int32.ofNat (nsz vs.length m_)))]) rfl ?_
  refine g_iload w e12_34 (q := 36) rfl rfl ?_
  refine g_ldcI w e12_36 (q := 38) rfl (v := (2147483647 : Int32)) (Hw hw 274 rfl) ?_
  refine g_icY w e12_38 (by decide) (q := 51) (by decide) (Jvm.Free.XT.ii_ne_t (n_ne_max (Nat.le_trans (nsz_le hlt hm) (by decide)))) ?_
  refine g_iload w e12_51 (q := 53) rfl rfl ?_
  refine g_aloadN w e12_53 (q := 54) rfl rfl rfl ?_
  refine g_getF w e12_54 (q := 57) rfl (host := "") (Or.inl (Hw hw 61 rfl)) Via.refl F_coder_x (fun T w => ?_)
  refine g_ishr w e12_57 (q := 58) rfl ?_
  rw [shr0]
  show Go p e below _ (State.setTop T (mkF m 58 #[.val (.ref x), .val (.int (Int32.ofNat m_)), .val (.int (Int32.ofNat vs.length)), .val (.int (Int32.ofNat m_)), .val (.int (Int32.ofNat (m_ - vs.length))), .val (.int (Int32.ofNat (nsz vs.length m_)))] [(.int (Int32.ofNat (nsz vs.length m_)))]))
  exact g_reti w e12_58 rfl (by decide) (by decide) ⟨rfl, rfl⟩
theorem e13_0 : decode jdk_65_method_121_code 0 = .ok (.iload_n 1, 1) := by decide +kernel
theorem e13_1 : decode jdk_65_method_121_code 1 = .ok (.aload_n 0, 1) := by decide +kernel
theorem e13_2 : decode jdk_65_method_121_code 2 = .ok (.arraylength, 1) := by decide +kernel
theorem e13_3 : decode jdk_65_method_121_code 3 = .ok (.if_icmp .ne 11, 3) := by decide +kernel
theorem e13_6 : decode jdk_65_method_121_code 6 = .ok (.aload_n 0, 1) := by decide +kernel
theorem e13_7 : decode jdk_65_method_121_code 7 = .ok (.invokevirtual 310, 3) := by decide +kernel
theorem e13_10 : decode jdk_65_method_121_code 10 = .ok (.checkcast 311, 3) := by decide +kernel
theorem e13_13 : decode jdk_65_method_121_code 13 = .ok (.areturn, 1) := by decide +kernel
theorem e13_14 : decode jdk_65_method_121_code 14 = .ok (.iload_n 1, 1) := by decide +kernel
theorem e13_15 : decode jdk_65_method_121_code 15 = .ok (.newarray .byte, 2) := by decide +kernel
theorem e13_17 : decode jdk_65_method_121_code 17 = .ok (.astore_n 2, 1) := by decide +kernel
theorem e13_18 : decode jdk_65_method_121_code 18 = .ok (.aload_n 0, 1) := by decide +kernel
theorem e13_19 : decode jdk_65_method_121_code 19 = .ok (.iconst 0, 1) := by decide +kernel
theorem e13_20 : decode jdk_65_method_121_code 20 = .ok (.aload_n 2, 1) := by decide +kernel
theorem e13_21 : decode jdk_65_method_121_code 21 = .ok (.iconst 0, 1) := by decide +kernel
theorem e13_22 : decode jdk_65_method_121_code 22 = .ok (.aload_n 0, 1) := by decide +kernel
theorem e13_23 : decode jdk_65_method_121_code 23 = .ok (.arraylength, 1) := by decide +kernel
theorem e13_24 : decode jdk_65_method_121_code 24 = .ok (.iload_n 1, 1) := by decide +kernel
theorem e13_25 : decode jdk_65_method_121_code 25 = .ok (.invokestatic 304, 3) := by decide +kernel
theorem e13_28 : decode jdk_65_method_121_code 28 = .ok (.invokestatic 150, 3) := by decide +kernel
theorem e13_31 : decode jdk_65_method_121_code 31 = .ok (.aload_n 2, 1) := by decide +kernel
theorem e13_32 : decode jdk_65_method_121_code 32 = .ok (.areturn, 1) := by decide +kernel
theorem pn5 : plainName "java/util/Arrays" = true := by first | (simp [plainName, overriddenIn]; done) | decide +kernel
set_option maxRecDepth 65536 in
set_option maxHeartbeats 40000000 in
theorem con_cpb (l : Launch) (Z : State) (a0 : Array Value) (hw : ∀ d ∈ tables_1, d.before a0 Z = true) (b : Addr) (n_ : Nat) (vs : List Value) (h0 : Heap) (O0 : Ext Z.heap h0) (A_b : Ar Z h0 b .byte vs) (hlt : vs.length < n_) (hn : n_ ≤ 126) :
    Con l Z consts_1 false (⟨"java/util/Arrays", "copyOf", "([BI)[B"⟩ : MethodName) jdk_65_method_121_code 3 (some (.array .byte)) [] ({ frames := 1, cells := 1, slots := 126, locals := 18 } : Room) #[(.ref b), (.int (Int32.ofNat n_))] [] h0 (fun v h => ∃ u, v = some (.ref u) ∧ Ext h0 h ∧ h0.size ≤ u ∧ Ar Z h u .byte (vs ++ List.replicate (n_ - vs.length) (.int 0)) ∧ Exa Z h u "[B") := by
  refine Con.intro (Ls := #[.val (.ref b), .val (.int (Int32.ofNat n_)), .unset]) (plainFor_of_name pn5) (own_EL hw) O0 (fun m => by first | (simp [entryFrame, mkF, argsToLocals, Value.category]; done) | rfl) (fun p e s m below meth cc_ T w sf_ => ?_)
  have E0 := ext_refl h0
  refine g_iloadN w e13_0 (q := 1) rfl rfl ?_
  refine g_aloadN w e13_1 (q := 2) rfl rfl rfl ?_
  refine g_alen w e13_2 (q := 3) rfl A_b ?_
  show Go p e below _ (State.setTop T (mkF m 3 #[.val (.ref b), .val (.int (Int32.ofNat n_)), .unset] [(.int (Int32.ofNat vs.length)), (.int (Int32.ofNat n_))]))
  refine g_icY w e13_3 (by decide) (q := 14) (by decide) (Jvm.Free.XT.ii_ne_t (fun q => absurd ((oN_inj (by omega) (by omega)).mp q) (by omega))) ?_
  refine g_iloadN w e13_14 (q := 15) rfl rfl ?_
  refine g_newarrE w e13_15 (q := 17) rfl (Hw hw 15 rfl) (ad := "[B") (by decide) (len := n_) (cap := 126) rfl (by omega) (by decide) (by decide) (by decide) (fun T h u w E g_u n_u A_u X_u s_u => ?_)
  have z_u := Nat.le_trans E0.1 g_u
  have ne_b_u : b ≠ u := Nat.ne_of_lt (Nat.lt_of_lt_of_le A_b.lt g_u)
  replace E0 := ext_trans E0 E
  replace A_b := A_b.ext E
  replace A_u : Ar Z h u .byte (List.replicate n_ (.int 0)) := A_u
  refine g_astoreN w e13_17 (q := 18) rfl rfl (Ls' := #[.val (.ref b), .val (.int (Int32.ofNat n_)), .val (.ref u)]) rfl ?_
  refine g_aloadN w e13_18 (q := 19) rfl rfl rfl ?_
  refine g_iconst w e13_19 (q := 20) rfl (v := (0 : Int32)) (by decide) ?_
  refine g_aloadN w e13_20 (q := 21) rfl rfl rfl ?_
  refine g_iconst w e13_21 (q := 22) rfl (v := (0 : Int32)) (by decide) ?_
  refine g_aloadN w e13_22 (q := 23) rfl rfl rfl ?_
  refine g_alen w e13_23 (q := 24) rfl A_b ?_
  show Go p e below _ (State.setTop T (mkF m 24 #[.val (.ref b), .val (.int (Int32.ofNat n_)), .val (.ref u)] [(.int (Int32.ofNat vs.length)), (.int (0 : Int32)), (.ref u), (.int (0 : Int32)), (.ref b)]))
  refine g_iloadN w e13_24 (q := 25) rfl rfl ?_
  refine g_staticP w (con_min l Z a0 hw (Int32.ofNat vs.length) (Int32.ofNat n_) _ w.old) no0 e13_25 (q := 28) rfl rfl (Hw hw 200 rfl) (Hw hw 201 rfl) (Hw hw 202 rfl) (Hw hw 203 rfl) (by decide) pd5 rfl rfl (W := 4) (Nat.le_of_eq rfl) (by decide) (by decide) (by decide) (by decide) (fun T v w C q => ?_)
  replace s_u := C.safe X_u.lt s_u
  obtain rfl := q
  show Go p e below _ (State.setTop T (mkF m 28 #[.val (.ref b), .val (.int (Int32.ofNat n_)), .val (.ref u)] [(.int (if (Int32.ofNat n_) < (Int32.ofNat vs.length) then (Int32.ofNat n_) else (Int32.ofNat vs.length))), (.int (0 : Int32)), (.ref u), (.int (0 : Int32)), (.ref b)]))
  rw [mn_l (by omega) (by omega)]
  refine g_acopyB w (sp := 0) (dp := 0) (nn := vs.length) A_b A_u (by omega) (by simp; omega) n_u s_u e13_28 (q := 31) rfl rfl (Hw hw 204 rfl) (Hw hw 111 rfl) (Hw hw 109 rfl) (Hw hw 110 rfl) (Wd := 0) (Nat.le_of_eq rfl) (by decide) (by decide) (fun T h w K V => ?_)
  rw [cp_all (by omega)] at V
  replace E0 := ext_keep E0 K z_u
  replace X_u := X_u.keep K
  replace A_u := V
  show Go p e below _ (State.setTop T (mkF m 31 #[.val (.ref b), .val (.int (Int32.ofNat n_)), .val (.ref u)] []))
  refine g_aloadN w e13_31 (q := 32) rfl rfl rfl ?_
  exact g_reta w e13_32 rfl rfl rfl (by decide) (by decide) ⟨u, rfl, E0, z_u, A_u, X_u⟩
theorem e14_0 : decode jdk_68_method_9_code 0 = .ok (.aload_n 0, 1) := by decide +kernel
theorem e14_1 : decode jdk_68_method_9_code 1 = .ok (.getfield 15, 3) := by decide +kernel
theorem e14_4 : decode jdk_68_method_9_code 4 = .ok (.arraylength, 1) := by decide +kernel
theorem e14_5 : decode jdk_68_method_9_code 5 = .ok (.aload_n 0, 1) := by decide +kernel
theorem e14_6 : decode jdk_68_method_9_code 6 = .ok (.getfield 22, 3) := by decide +kernel
theorem e14_9 : decode jdk_68_method_9_code 9 = .ok (.ishr, 1) := by decide +kernel
theorem e14_10 : decode jdk_68_method_9_code 10 = .ok (.istore_n 2, 1) := by decide +kernel
theorem e14_11 : decode jdk_68_method_9_code 11 = .ok (.iload_n 1, 1) := by decide +kernel
theorem e14_12 : decode jdk_68_method_9_code 12 = .ok (.iload_n 2, 1) := by decide +kernel
theorem e14_13 : decode jdk_68_method_9_code 13 = .ok (.isub, 1) := by decide +kernel
theorem e14_14 : decode jdk_68_method_9_code 14 = .ok (.ifCond .le 24, 3) := by decide +kernel
theorem e14_17 : decode jdk_68_method_9_code 17 = .ok (.aload_n 0, 1) := by decide +kernel
theorem e14_18 : decode jdk_68_method_9_code 18 = .ok (.aload_n 0, 1) := by decide +kernel
theorem e14_19 : decode jdk_68_method_9_code 19 = .ok (.getfield 15, 3) := by decide +kernel
theorem e14_22 : decode jdk_68_method_9_code 22 = .ok (.aload_n 0, 1) := by decide +kernel
theorem e14_23 : decode jdk_68_method_9_code 23 = .ok (.iload_n 1, 1) := by decide +kernel
theorem e14_24 : decode jdk_68_method_9_code 24 = .ok (.invokevirtual 104, 3) := by decide +kernel
theorem e14_27 : decode jdk_68_method_9_code 27 = .ok (.aload_n 0, 1) := by decide +kernel
theorem e14_28 : decode jdk_68_method_9_code 28 = .ok (.getfield 22, 3) := by decide +kernel
theorem e14_31 : decode jdk_68_method_9_code 31 = .ok (.ishl, 1) := by decide +kernel
theorem e14_32 : decode jdk_68_method_9_code 32 = .ok (.invokestatic 108, 3) := by decide +kernel
theorem e14_35 : decode jdk_68_method_9_code 35 = .ok (.putfield 15, 3) := by decide +kernel
theorem e14_38 : decode jdk_68_method_9_code 38 = .ok (.return_, 1) := by decide +kernel
theorem pd7 : parseMethodDescriptor "(I)I" = some ⟨[.int], some .int⟩ := by decide +kernel
theorem pd8 : parseMethodDescriptor "([BI)[B" = some ⟨[(.array .byte), .int], some (.array .byte)⟩ := by decide +kernel
set_option maxRecDepth 65536 in
set_option maxHeartbeats 40000000 in
theorem con_ec (l : Launch) (Z : State) (a0 : Array Value) (hw : ∀ d ∈ tables_1, d.before a0 Z = true) (x b : Addr) (m_ : Nat) (ct : Int32) (vs : List Value) (h0 : Heap) (O0 : Ext Z.heap h0) (X_x : Exa Z h0 x "java/lang/StringBuilder") (F_value_x : Fld Z h0 x "java/lang/AbstractStringBuilder" "value" "[B" (.ref b)) (F_coder_x : Fld Z h0 x "java/lang/AbstractStringBuilder" "coder" "B" (.int 0)) (F_count_x : Fld Z h0 x "java/lang/AbstractStringBuilder" "count" "I" (.int ct)) (A_b : Ar Z h0 b .byte vs) (X_b : Exa Z h0 b "[B") (n_x : Z.heap.size ≤ x) (hm : m_ ≤ 63) (h126 : vs.length ≤ 126) :
    Con l Z consts_1 false (⟨"java/lang/AbstractStringBuilder", "ensureCapacityInternal", "(I)V"⟩ : MethodName) jdk_68_method_9_code 3 none [] ({ frames := 3, cells := 1, slots := 126, locals := 48 } : Room) #[(.ref x), (.int (Int32.ofNat m_))] [] h0 (fun v h => v = none ∧ Keep h0 h [x] ∧ Exa Z h x "java/lang/StringBuilder" ∧ ∃ b1 us1, (b1 = b ∨ h0.size ≤ b1) ∧ Fld Z h x "java/lang/AbstractStringBuilder" "value" "[B" (.ref b1) ∧ Fld Z h x "java/lang/AbstractStringBuilder" "coder" "B" (.int 0) ∧ Fld Z h x "java/lang/AbstractStringBuilder" "count" "I" (.int ct) ∧ Ar Z h b1 .byte (vs ++ us1) ∧ Exa Z h b1 "[B" ∧ m_ ≤ (vs ++ us1).length ∧ (vs ++ us1).length ≤ 126) := by
  refine Con.intro (Ls := #[.val (.ref x), .val (.int (Int32.ofNat m_)), .unset]) (plainFor_of_name pn2) (own_EL hw) O0 (fun m => by first | (simp [entryFrame, mkF, argsToLocals, Value.category]; done) | rfl) (fun p e s m below meth cc_ T w sf_ => ?_)
  have K0 := Keep.refl h0 [x]
  have ne_b_x := (ne_xar X_x A_b (Hw hw 46 rfl)).symm
  refine g_aloadN w e14_0 (q := 1) rfl rfl rfl ?_
  refine g_getF w e14_1 (q := 4) rfl (host := "") (Or.inl (Hw hw 59 rfl)) Via.refl F_value_x (fun T w => ?_)
  refine g_alen w e14_4 (q := 5) rfl A_b ?_
  show Go p e below _ (State.setTop T (mkF m 5 #[.val (.ref x), .val (.int (Int32.ofNat m_)), .unset] [(.int (Int32.ofNat vs.length))]))
  refine g_aloadN w e14_5 (q := 6) rfl rfl rfl ?_
  refine g_getF w e14_6 (q := 9) rfl (host := "") (Or.inl (Hw hw 61 rfl)) Via.refl F_coder_x (fun T w => ?_)
  refine g_ishr w e14_9 (q := 10) rfl ?_
  rw [shr0]
  show Go p e below _ (State.setTop T (mkF m 10 #[.val (.ref x), .val (.int (Int32.ofNat m_)), .unset] [(.int (Int32.ofNat vs.length))]))
  refine g_istoreN w e14_10 (q := 11) rfl (Ls' := #[.val (.ref x), .val (.int (Int32.ofNat m_)), .val (.int (Int32.ofNat vs.length))]) rfl ?_
  refine g_iloadN w e14_11 (q := 12) rfl rfl ?_
  refine g_iloadN w e14_12 (q := 13) rfl rfl ?_
  refine g_isub w e14_13 (q := 14) rfl ?_
  rcases Nat.lt_or_ge vs.length m_ with hlt | hge
  · refine g_ifN w e14_14 (q := 17) rfl (Jvm.Free.XT.i0_le_f (sub_pos hlt (by omega))) ?_
    refine g_aloadN w e14_17 (q := 18) rfl rfl rfl ?_
    refine g_aloadN w e14_18 (q := 19) rfl rfl rfl ?_
    refine g_getF w e14_19 (q := 22) rfl (host := "") (Or.inl (Hw hw 59 rfl)) Via.refl F_value_x (fun T w => ?_)
    refine g_aloadN w e14_22 (q := 23) rfl rfl rfl ?_
    refine g_iloadN w e14_23 (q := 24) rfl rfl ?_
    refine g_privP w (con_nc l Z a0 hw x b m_ vs _ w.old F_value_x F_coder_x A_b hlt hm) no0 X_x e14_24 (q := 27) rfl rfl (Hw hw 261 rfl) (Hw hw 263 rfl) (selOwn (Hw hw 262 rfl) (Hw hw 264 rfl) (Hw hw 263 rfl) (by decide)) (Hw hw 262 rfl) (Hw hw 55 rfl) (Hw hw 265 rfl) (by decide) pd7 rfl rfl (W := 2) (Nat.le_of_eq rfl) (by decide) (by decide) (by decide) (by decide) (fun T v w C q => ?_)
    obtain rfl := q
    show Go p e below _ (State.setTop T (mkF m 27 #[.val (.ref x), .val (.int (Int32.ofNat m_)), .val (.int (Int32.ofNat vs.length))] [(.int (Int32.ofNat (nsz vs.length m_))), (.ref b), (.ref x)]))
    refine g_aloadN w e14_27 (q := 28) rfl rfl rfl ?_
    refine g_getF w e14_28 (q := 31) rfl (host := "") (Or.inl (Hw hw 61 rfl)) Via.refl F_coder_x (fun T w => ?_)
    refine g_ishl w e14_31 (q := 32) rfl ?_
    rw [shl0]
    show Go p e below _ (State.setTop T (mkF m 32 #[.val (.ref x), .val (.int (Int32.ofNat m_)), .val (.int (Int32.ofNat vs.length))] [(.int (Int32.ofNat (nsz vs.length m_))), (.ref b), (.ref x)]))
    refine g_static w (con_cpb l Z a0 hw b _ vs _ w.old A_b nsz_gt (nsz_le hlt hm)) no0 e14_32 (q := 35) rfl rfl (Hw hw 275 rfl) (Hw hw 276 rfl) (Hw hw 192 rfl) (Hw hw 277 rfl) (by decide) pd8 rfl rfl (W := 1) (Nat.le_of_eq rfl) (by decide) (by decide) (by decide) (by decide) (fun T h v w gs C q => ?_)
    obtain ⟨u, rfl, E, g_u, A_u, X_u⟩ := q
    have z_u := Nat.le_trans K0.1 g_u
    have ne_b_u : b ≠ u := Nat.ne_of_lt (Nat.lt_of_lt_of_le A_b.lt g_u)
    have ne_x_u : x ≠ u := Nat.ne_of_lt (Nat.lt_of_lt_of_le X_x.lt g_u)
    replace K0 := K0.ext E
    replace X_x := X_x.ext E
    replace F_value_x := F_value_x.ext E
    replace F_coder_x := F_coder_x.ext E
    replace F_count_x := F_count_x.ext E
    replace A_b := A_b.ext E
    replace X_b := X_b.ext E
    show Go p e below _ (State.setTop T (mkF m 35 #[.val (.ref x), .val (.int (Int32.ofNat m_)), .val (.int (Int32.ofNat vs.length))] [(.ref u), (.ref x)]))
    have g_ := w.chv
    refine g_putF w e14_35 (q := 38) rfl (Hw hw 59 rfl) Via.refl F_value_x X_x (Or.inl (Hw hw 60 rfl)) (Hw hw 46 rfl) (ty := (.array .byte)) (by decide) (v' := (.ref u)) rfl rfl n_x (w.safe X_x (by decide) (by decide)) (fun T h w W => ?_)
    replace K0 := K0.wr W (Or.inl (List.mem_singleton.mpr rfl))
    replace X_x := X_x.wr W
    replace F_value_x := F_value_x.same W
    replace F_coder_x := F_coder_x.other W (Or.inr (slot_ne (Or.inl (Hw hw 62 rfl)) (Or.inl (Hw hw 60 rfl)) (by decide) (t := .byte) (t' := (.array .byte)) (by decide) (by decide)))
    replace F_count_x := F_count_x.other W (Or.inr (slot_ne (Or.inl (Hw hw 86 rfl)) (Or.inl (Hw hw 60 rfl)) (by decide) (t := .int) (t' := (.array .byte)) (by decide) (by decide)))
    replace A_b := A_b.other W ne_b_x
    replace X_b := X_b.wr W
    replace A_u := A_u.other W ne_x_u.symm
    replace X_u := X_u.wr W
    exact g_return w e14_38 rfl (by decide) (by decide) ⟨rfl, K0, X_x, u, _, Or.inr z_u, F_value_x, F_coder_x, F_count_x, A_u, X_u, ecl hlt hm _⟩
  · refine g_ifY w e14_14 (by decide) (q := 38) (by decide) (Jvm.Free.XT.i0_le_t (sub_npos hge (by omega))) ?_
    exact g_return w e14_38 rfl (by decide) (by decide) ⟨rfl, K0, X_x, b, [], Or.inl rfl, F_value_x, F_coder_x, F_count_x, by rw [List.append_nil]; exact A_b, X_b, by rw [List.append_nil]; exact hge, by rw [List.append_nil]; exact h126⟩
theorem e15_0 : decode jdk_68_method_22_code 0 = .ok (.aload_n 1, 1) := by decide +kernel
theorem e15_1 : decode jdk_68_method_22_code 1 = .ok (.ifnonnull 8, 3) := by decide +kernel
theorem e15_4 : decode jdk_68_method_22_code 4 = .ok (.aload_n 0, 1) := by decide +kernel
theorem e15_5 : decode jdk_68_method_22_code 5 = .ok (.invokevirtual 204, 3) := by decide +kernel
theorem e15_8 : decode jdk_68_method_22_code 8 = .ok (.areturn, 1) := by decide +kernel
theorem e15_9 : decode jdk_68_method_22_code 9 = .ok (.aload_n 1, 1) := by decide +kernel
theorem e15_10 : decode jdk_68_method_22_code 10 = .ok (.invokevirtual 32, 3) := by decide +kernel
theorem e15_13 : decode jdk_68_method_22_code 13 = .ok (.istore_n 2, 1) := by decide +kernel
theorem e15_14 : decode jdk_68_method_22_code 14 = .ok (.aload_n 0, 1) := by decide +kernel
theorem e15_15 : decode jdk_68_method_22_code 15 = .ok (.aload_n 0, 1) := by decide +kernel
theorem e15_16 : decode jdk_68_method_22_code 16 = .ok (.getfield 79, 3) := by decide +kernel
theorem e15_19 : decode jdk_68_method_22_code 19 = .ok (.iload_n 2, 1) := by decide +kernel
theorem e15_20 : decode jdk_68_method_22_code 20 = .ok (.iadd, 1) := by decide +kernel
theorem e15_21 : decode jdk_68_method_22_code 21 = .ok (.invokevirtual 100, 3) := by decide +kernel
theorem e15_24 : decode jdk_68_method_22_code 24 = .ok (.aload_n 0, 1) := by decide +kernel
theorem e15_25 : decode jdk_68_method_22_code 25 = .ok (.aload_n 0, 1) := by decide +kernel
theorem e15_26 : decode jdk_68_method_22_code 26 = .ok (.getfield 79, 3) := by decide +kernel
theorem e15_29 : decode jdk_68_method_22_code 29 = .ok (.aload_n 1, 1) := by decide +kernel
theorem e15_30 : decode jdk_68_method_22_code 30 = .ok (.invokevirtual 208, 3) := by decide +kernel
theorem e15_33 : decode jdk_68_method_22_code 33 = .ok (.aload_n 0, 1) := by decide +kernel
theorem e15_34 : decode jdk_68_method_22_code 34 = .ok (.dup, 1) := by decide +kernel
theorem e15_35 : decode jdk_68_method_22_code 35 = .ok (.getfield 79, 3) := by decide +kernel
theorem e15_38 : decode jdk_68_method_22_code 38 = .ok (.iload_n 2, 1) := by decide +kernel
theorem e15_39 : decode jdk_68_method_22_code 39 = .ok (.iadd, 1) := by decide +kernel
theorem e15_40 : decode jdk_68_method_22_code 40 = .ok (.putfield 79, 3) := by decide +kernel
theorem e15_43 : decode jdk_68_method_22_code 43 = .ok (.aload_n 0, 1) := by decide +kernel
theorem e15_44 : decode jdk_68_method_22_code 44 = .ok (.areturn, 1) := by decide +kernel
theorem pd9 : parseMethodDescriptor "()I" = some ⟨[], some .int⟩ := by decide +kernel
theorem pd10 : parseMethodDescriptor "(ILjava/lang/String;)V" = some ⟨[.int, (.object "java/lang/String")], none⟩ := by decide +kernel
set_option maxRecDepth 65536 in
set_option maxHeartbeats 40000000 in
theorem con_as (l : Launch) (Z : State) (a0 : Array Value) (hw : ∀ d ∈ tables_1, d.before a0 Z = true) (x u b : Addr) (vs : List Value) (cs ds : List Int32) (h0 : Heap) (O0 : Ext Z.heap h0) (B_x : Bd Z h0 x b vs cs) (S_u : Sg Z h0 u ds) (n_x : Z.heap.size ≤ x) (n_b : Z.heap.size ≤ b) (hm : cs.length + ds.length ≤ 63) (hcm : Cpt Z) :
    Con l Z consts_1 false (⟨"java/lang/AbstractStringBuilder", "append", "(Ljava/lang/String;)Ljava/lang/AbstractStringBuilder;"⟩ : MethodName) jdk_68_method_22_code 3 (some (.object "java/lang/AbstractStringBuilder")) [] ({ frames := 4, cells := 1, slots := 126, locals := 62 } : Room) #[(.ref x), (.ref u)] [] h0 (fun v h => v = some (.ref x) ∧ Keep h0 h [x, b] ∧ ∃ b1 vs1, (b1 = b ∨ h0.size ≤ b1) ∧ Bd Z h x b1 vs1 (cs ++ ds)) := by
  refine Con.intro (Ls := #[.val (.ref x), .val (.ref u), .unset]) (plainFor_of_name pn2) (own_EL hw) O0 (fun m => by first | (simp [entryFrame, mkF, argsToLocals, Value.category]; done) | rfl) (fun p e s m below meth cc_ T w sf_ => ?_)
  have K0 := Keep.refl h0 [x, b]
  obtain ⟨z_, hz_, SC_⟩ := id hcm
  obtain ⟨X_x, F_value_x, F_coder_x, F_count_x, A_b, X_b, h16, h126, us_, hvs⟩ := B_x
  have ne_u_x := Exa.ne S_u.exa X_x (by decide)
  refine g_aloadN w e15_0 (q := 1) rfl rfl rfl ?_
  refine g_nonnullY w e15_1 (by decide) (q := 9) (by decide) ?_
  refine g_aloadN w e15_9 (q := 10) rfl rfl rfl ?_
  refine g_virtualB w (a := u) (argsL := []) (own_lenB hw S_u (w.sta SC_) hz_ (by decide) (by decide)) S_u.exa e15_10 (q := 13) rfl rfl (Hw hw 74 rfl) (Hw hw 75 rfl) (Hw hw 77 rfl) (Hw hw 76 rfl) (by decide) (nf (Hw hw 77 rfl)) pd9 rfl rfl (W := 0) (Nat.le_of_eq rfl) (by decide) (by decide) (fun T v w hq => ?_)
  obtain rfl := hq
  show Go p e below _ (State.setTop T (mkF m 13 #[.val (.ref x), .val (.ref u), .unset] [(.int (Int32.ofNat (ds).length))]))
  refine g_istoreN w e15_13 (q := 14) rfl (Ls' := #[.val (.ref x), .val (.ref u), .val (.int (Int32.ofNat (ds).length))]) rfl ?_
  refine g_aloadN w e15_14 (q := 15) rfl rfl rfl ?_
  refine g_aloadN w e15_15 (q := 16) rfl rfl rfl ?_
  refine g_getF w e15_16 (q := 19) rfl (host := "") (Or.inl (Hw hw 85 rfl)) Via.refl F_count_x (fun T w => ?_)
  refine g_iloadN w e15_19 (q := 20) rfl rfl ?_
  refine g_iadd w e15_20 (q := 21) rfl ?_
  rw [oN_add]
  show Go p e below _ (State.setTop T (mkF m 21 #[.val (.ref x), .val (.ref u), .val (.int (Int32.ofNat (ds).length))] [(.int (Int32.ofNat (cs.length + ds.length))), (.ref x)]))
  refine g_priv w (con_ec l Z a0 hw x b (cs.length + ds.length) _ vs _ w.old X_x F_value_x F_coder_x F_count_x A_b X_b n_x (by omega) h126) no0 X_x e15_21 (q := 24) rfl rfl (Hw hw 87 rfl) (Hw hw 89 rfl) (selOwn (Hw hw 88 rfl) (Hw hw 90 rfl) (Hw hw 89 rfl) (by decide)) (Hw hw 88 rfl) (Hw hw 55 rfl) (Hw hw 91 rfl) (by decide) pd1 rfl rfl (W := 0) (Nat.le_of_eq rfl) (by decide) (by decide) (by decide) (by decide) (fun T h v w gs C q => ?_)
  obtain ⟨rfl, K, G_X, b1, us1, hb1, G_v, G_c, G_n, A_b1, X_b1, hc1, hc2⟩ := q
  have zb1 : b1 ∈ [x, b] ∨ h0.size ≤ b1 := hb1.elim (fun e_ => by rw [e_]; exact Or.inl m2) (fun g_ => Or.inr (Nat.le_trans K0.1 g_))
  have n_b1 : Z.heap.size ≤ b1 := hb1.elim (fun e_ => by rw [e_]; exact n_b) (fun g_ => Nat.le_trans (Nat.le_trans O0.1 K0.1) g_)
  have hz1 : b1 = b ∨ h0.size ≤ b1 := hb1.imp id (fun g_ => Nat.le_trans K0.1 g_)
  replace K0 := K0.trans K (in1 (Or.inl m1))
  replace S_u := S_u.keepO K ne_u_x X_x (Hw hw 46 rfl)
  replace X_x := G_X
  replace F_value_x := G_v
  replace F_coder_x := G_c
  replace F_count_x := G_n
  have ne_x_b1 := ne_xar X_x A_b1 (Hw hw 46 rfl)
  show Go p e below _ (State.setTop T (mkF m 24 #[.val (.ref x), .val (.ref u), .val (.int (Int32.ofNat (ds).length))] []))
  refine g_aloadN w e15_24 (q := 25) rfl rfl rfl ?_
  refine g_aloadN w e15_25 (q := 26) rfl rfl rfl ?_
  refine g_getF w e15_26 (q := 29) rfl (host := "") (Or.inl (Hw hw 85 rfl)) Via.refl F_count_x (fun T w => ?_)
  refine g_aloadN w e15_29 (q := 30) rfl rfl rfl ?_
  refine g_priv w (con_ps l Z a0 hw x u b1 cs.length ds _ _ w.old X_x F_value_x F_coder_x S_u A_b1 n_b1 hc1 (by rw [List.length_append]; omega) hc2 hcm) no0 X_x e15_30 (q := 33) rfl rfl (Hw hw 92 rfl) (Hw hw 94 rfl) (selOwn (Hw hw 93 rfl) (Hw hw 95 rfl) (Hw hw 94 rfl) (by decide)) (Hw hw 93 rfl) (Hw hw 55 rfl) (Hw hw 96 rfl) (by decide) pd10 rfl rfl (W := 0) (Nat.le_of_eq rfl) (by decide) (by decide) (by decide) (by decide) (fun T h v w gs C q => ?_)
  obtain ⟨rfl, K, V⟩ := q
  replace K0 := K0.trans K (in1 zb1)
  replace X_x := X_x.keep K
  replace X_b1 := X_b1.keep K
  replace F_value_x := F_value_x.keep K (not1 ne_x_b1)
  replace F_coder_x := F_coder_x.keep K (not1 ne_x_b1)
  replace F_count_x := F_count_x.keep K (not1 ne_x_b1)
  replace A_b1 := V
  show Go p e below _ (State.setTop T (mkF m 33 #[.val (.ref x), .val (.ref u), .val (.int (Int32.ofNat (ds).length))] []))
  refine g_aloadN w e15_33 (q := 34) rfl rfl rfl ?_
  refine g_dup w e15_34 (q := 35) rfl rfl ?_
  refine g_getF w e15_35 (q := 38) rfl (host := "") (Or.inl (Hw hw 85 rfl)) Via.refl F_count_x (fun T w => ?_)
  refine g_iloadN w e15_38 (q := 39) rfl rfl ?_
  refine g_iadd w e15_39 (q := 40) rfl ?_
  rw [oN_add]
  show Go p e below _ (State.setTop T (mkF m 40 #[.val (.ref x), .val (.ref u), .val (.int (Int32.ofNat (ds).length))] [(.int (Int32.ofNat (cs.length + ds.length))), (.ref x)]))
  have g_ := w.chv
  refine g_putF w e15_40 (q := 43) rfl (Hw hw 85 rfl) Via.refl F_count_x X_x (Or.inl (Hw hw 86 rfl)) (Hw hw 46 rfl) (ty := .int) (by decide) (v' := (.int (Int32.ofNat (cs.length + ds.length)))) rfl rfl n_x (w.safe X_x (by decide) (by decide)) (fun T h w W => ?_)
  replace K0 := K0.wr W (Or.inl m1)
  replace X_x := X_x.wr W
  replace F_value_x := F_value_x.other W (Or.inr (slot_ne (Or.inl (Hw hw 60 rfl)) (Or.inl (Hw hw 86 rfl)) (by decide) (t := (.array .byte)) (t' := .int) (by decide) (by decide)))
  replace F_coder_x := F_coder_x.other W (Or.inr (slot_ne (Or.inl (Hw hw 62 rfl)) (Or.inl (Hw hw 86 rfl)) (by decide) (t := .byte) (t' := .int) (by decide) (by decide)))
  replace F_count_x := F_count_x.same W
  replace A_b1 := A_b1.other W ne_x_b1.symm
  replace X_b1 := X_b1.wr W
  refine g_aloadN w e15_43 (q := 44) rfl rfl rfl ?_
  exact g_reta w e15_44 rfl rfl rfl (by decide) (by decide) ⟨rfl, K0, b1, _, hz1, X_x, F_value_x, F_coder_x, by rw [List.length_append]; exact F_count_x, A_b1, X_b1, by rw [put_len (bys_len _) hc1, List.length_append]; omega, by rw [put_len (bys_len _) hc1]; exact hc2, pre_put (us := us_ ++ us1) (by rw [hvs, List.append_assoc]) ds _⟩
theorem e16_0 : decode jdk_67_method_7_code 0 = .ok (.aload_n 0, 1) := by decide +kernel
theorem e16_1 : decode jdk_67_method_7_code 1 = .ok (.aload_n 1, 1) := by decide +kernel
theorem e16_2 : decode jdk_67_method_7_code 2 = .ok (.invokespecial 29, 3) := by decide +kernel
theorem e16_5 : decode jdk_67_method_7_code 5 = .ok (.pop, 1) := by decide +kernel
theorem e16_6 : decode jdk_67_method_7_code 6 = .ok (.aload_n 0, 1) := by decide +kernel
theorem e16_7 : decode jdk_67_method_7_code 7 = .ok (.areturn, 1) := by decide +kernel
theorem pd11 : parseMethodDescriptor "(Ljava/lang/String;)Ljava/lang/AbstractStringBuilder;" = some ⟨[(.object "java/lang/String")], some (.object "java/lang/AbstractStringBuilder")⟩ := by decide +kernel
set_option maxRecDepth 65536 in
set_option maxHeartbeats 40000000 in
theorem con_sas (l : Launch) (Z : State) (a0 : Array Value) (hw : ∀ d ∈ tables_1, d.before a0 Z = true) (x u b : Addr) (vs : List Value) (cs ds : List Int32) (h0 : Heap) (O0 : Ext Z.heap h0) (B_x : Bd Z h0 x b vs cs) (S_u : Sg Z h0 u ds) (n_x : Z.heap.size ≤ x) (n_b : Z.heap.size ≤ b) (hm : cs.length + ds.length ≤ 63) (hcm : Cpt Z) :
    Con l Z consts_1 false (⟨"java/lang/StringBuilder", "append", "(Ljava/lang/String;)Ljava/lang/StringBuilder;"⟩ : MethodName) jdk_67_method_7_code 2 (some (.object "java/lang/StringBuilder")) [] ({ frames := 5, cells := 1, slots := 126, locals := 76 } : Room) #[(.ref x), (.ref u)] [] h0 (fun v h => v = some (.ref x) ∧ Keep h0 h [x, b] ∧ ∃ b1 vs1, (b1 = b ∨ h0.size ≤ b1) ∧ Bd Z h x b1 vs1 (cs ++ ds)) := by
  refine Con.intro (Ls := #[.val (.ref x), .val (.ref u)]) (plainFor_of_name pn3) (own_EL hw) O0 (fun m => by first | (simp [entryFrame, mkF, argsToLocals, Value.category]; done) | rfl) (fun p e s m below meth cc_ T w sf_ => ?_)
  have K0 := Keep.refl h0 [x, b]
  refine g_aloadN w e16_0 (q := 1) rfl rfl rfl ?_
  refine g_aloadN w e16_1 (q := 2) rfl rfl rfl ?_
  refine g_super w (con_as l Z a0 hw x u b vs cs ds _ w.old B_x S_u n_x n_b hm hcm) no0 e16_2 (q := 5) rfl rfl B_x.exa (by decide) (Hw hw 69 rfl) (Hw hw 71 rfl) (Hw hw 90 rfl) rfl (Hw hw 70 rfl) (Hw hw 55 rfl) (Hw hw 73 rfl) (by decide) pd11 rfl rfl (W := 0) (Nat.le_of_eq rfl) (by decide) (by decide) (by decide) (by decide) (fun T h v w gs C q => ?_)
  obtain ⟨rfl, K, b1, vs1, hb1, B1⟩ := q
  replace K0 := K0.trans K (in2 (Or.inl m1) (Or.inl m2))
  show Go p e below _ (State.setTop T (mkF m 5 #[.val (.ref x), .val (.ref u)] [(.ref x)]))
  refine g_pop w e16_5 (q := 6) rfl rfl ?_
  refine g_aloadN w e16_6 (q := 7) rfl rfl rfl ?_
  exact g_reta w e16_7 rfl rfl rfl (by decide) (by decide) ⟨rfl, K0, b1, vs1, hb1, B1⟩
theorem e17_0 : decode jdk_68_method_68_code 0 = .ok (.getstatic 18, 3) := by decide +kernel
theorem e17_3 : decode jdk_68_method_68_code 3 = .ok (.ifCond .eq 14, 3) := by decide +kernel
theorem e17_6 : decode jdk_68_method_68_code 6 = .ok (.aload_n 0, 1) := by decide +kernel
theorem e17_7 : decode jdk_68_method_68_code 7 = .ok (.getfield 22, 3) := by decide +kernel
theorem e17_10 : decode jdk_68_method_68_code 10 = .ok (.ifCond .ne 7, 3) := by decide +kernel
theorem e17_13 : decode jdk_68_method_68_code 13 = .ok (.iconst 1, 1) := by decide +kernel
theorem e17_14 : decode jdk_68_method_68_code 14 = .ok (.goto 4, 3) := by decide +kernel
theorem e17_17 : decode jdk_68_method_68_code 17 = .ok (.iconst 0, 1) := by decide +kernel
theorem e17_18 : decode jdk_68_method_68_code 18 = .ok (.ireturn, 1) := by decide +kernel
set_option maxRecDepth 65536 in
set_option maxHeartbeats 40000000 in
theorem con_aisl (l : Launch) (Z : State) (a0 : Array Value) (hw : ∀ d ∈ tables_1, d.before a0 Z = true) (x : Addr) (h0 : Heap) (O0 : Ext Z.heap h0) (F_coder_x : Fld Z h0 x "java/lang/AbstractStringBuilder" "coder" "B" (.int 0)) (hcm : Cpt Z) :
    Con l Z consts_1 false (⟨"java/lang/AbstractStringBuilder", "isLatin1", "()Z"⟩ : MethodName) jdk_68_method_68_code 1 (some .boolean) [] ({ frames := 0, cells := 0, slots := 0, locals := 0 } : Room) #[(.ref x)] [] h0 (fun v h => v = some (.int 1) ∧ h = h0) := by
  refine Con.intro (Ls := #[.val (.ref x)]) (plainFor_of_name pn2) (own_EL hw) O0 (fun m => by first | (simp [entryFrame, mkF, argsToLocals, Value.category]; done) | rfl) (fun p e s m below meth cc_ T w sf_ => ?_)
  have E0 := ext_refl h0
  obtain ⟨z_, hz_, SC_⟩ := id hcm
  refine g_getS w e17_0 (q := 3) rfl (Hw hw 58 rfl) Via.refl SC_ (fun T w => ?_)
  refine g_ifN w e17_3 (q := 6) rfl (Jvm.Free.XT.i0_eq_f hz_) ?_
  refine g_aloadN w e17_6 (q := 7) rfl rfl rfl ?_
  refine g_getF w e17_7 (q := 10) rfl (host := "") (Or.inl (Hw hw 61 rfl)) Via.refl F_coder_x (fun T w => ?_)
  refine g_ifN w e17_10 (q := 13) rfl (by decide) ?_
  refine g_iconst w e17_13 (q := 14) rfl (v := (1 : Int32)) (by decide) ?_
  refine g_goto w e17_14 (by decide) (q := 18) (by decide) ?_
  exact g_retn w e17_18 rfl (by simp) rfl (by decide) (by decide) ⟨rfl, rfl⟩
theorem e18_0 : decode jdk_68_method_64_code 0 = .ok (.aload_n 0, 1) := by decide +kernel
theorem e18_1 : decode jdk_68_method_64_code 1 = .ok (.getfield 15, 3) := by decide +kernel
theorem e18_4 : decode jdk_68_method_64_code 4 = .ok (.areturn, 1) := by decide +kernel
set_option maxRecDepth 65536 in
set_option maxHeartbeats 40000000 in
theorem con_gv (l : Launch) (Z : State) (a0 : Array Value) (hw : ∀ d ∈ tables_1, d.before a0 Z = true) (x b : Addr) (h0 : Heap) (O0 : Ext Z.heap h0) (F_value_x : Fld Z h0 x "java/lang/AbstractStringBuilder" "value" "[B" (.ref b)) :
    Con l Z consts_1 false (⟨"java/lang/AbstractStringBuilder", "getValue", "()[B"⟩ : MethodName) jdk_68_method_64_code 1 (some (.array .byte)) [] ({ frames := 0, cells := 0, slots := 0, locals := 0 } : Room) #[(.ref x)] [] h0 (fun v h => v = some (.ref b) ∧ h = h0) := by
  refine Con.intro (Ls := #[.val (.ref x)]) (plainFor_of_name pn2) (own_EL hw) O0 (fun m => by first | (simp [entryFrame, mkF, argsToLocals, Value.category]; done) | rfl) (fun p e s m below meth cc_ T w sf_ => ?_)
  have E0 := ext_refl h0
  refine g_aloadN w e18_0 (q := 1) rfl rfl rfl ?_
  refine g_getF w e18_1 (q := 4) rfl (host := "") (Or.inl (Hw hw 59 rfl)) Via.refl F_value_x (fun T w => ?_)
  exact g_reta w e18_4 rfl rfl rfl (by decide) (by decide) ⟨rfl, rfl⟩
theorem e19_0 : decode jdk_68_method_6_code 0 = .ok (.aload_n 0, 1) := by decide +kernel
theorem e19_1 : decode jdk_68_method_6_code 1 = .ok (.getfield 79, 3) := by decide +kernel
theorem e19_4 : decode jdk_68_method_6_code 4 = .ok (.ireturn, 1) := by decide +kernel
set_option maxRecDepth 65536 in
set_option maxHeartbeats 40000000 in
theorem con_alen (l : Launch) (Z : State) (a0 : Array Value) (hw : ∀ d ∈ tables_1, d.before a0 Z = true) (x : Addr) (ct : Int32) (h0 : Heap) (O0 : Ext Z.heap h0) (F_count_x : Fld Z h0 x "java/lang/AbstractStringBuilder" "count" "I" (.int ct)) :
    Con l Z consts_1 false (⟨"java/lang/AbstractStringBuilder", "length", "()I"⟩ : MethodName) jdk_68_method_6_code 1 (some .int) [] ({ frames := 0, cells := 0, slots := 0, locals := 0 } : Room) #[(.ref x)] [] h0 (fun v h => v = some (.int ct) ∧ h = h0) := by
  refine Con.intro (Ls := #[.val (.ref x)]) (plainFor_of_name pn2) (own_EL hw) O0 (fun m => by first | (simp [entryFrame, mkF, argsToLocals, Value.category]; done) | rfl) (fun p e s m below meth cc_ T w sf_ => ?_)
  have E0 := ext_refl h0
  refine g_aloadN w e19_0 (q := 1) rfl rfl rfl ?_
  refine g_getF w e19_1 (q := 4) rfl (host := "") (Or.inl (Hw hw 85 rfl)) Via.refl F_count_x (fun T w => ?_)
  exact g_reti w e19_4 rfl (by decide) (by decide) ⟨rfl, rfl⟩
theorem e20_0 : decode jdk_67_method_93_code 0 = .ok (.aload_n 0, 1) := by decide +kernel
theorem e20_1 : decode jdk_67_method_93_code 1 = .ok (.invokespecial 343, 3) := by decide +kernel
theorem e20_4 : decode jdk_67_method_93_code 4 = .ok (.ireturn, 1) := by decide +kernel
set_option maxRecDepth 65536 in
set_option maxHeartbeats 40000000 in
theorem con_slen (l : Launch) (Z : State) (a0 : Array Value) (hw : ∀ d ∈ tables_1, d.before a0 Z = true) (x : Addr) (ct : Int32) (h0 : Heap) (O0 : Ext Z.heap h0) (X_x : Exa Z h0 x "java/lang/StringBuilder") (F_count_x : Fld Z h0 x "java/lang/AbstractStringBuilder" "count" "I" (.int ct)) :
    Con l Z consts_1 false (⟨"java/lang/StringBuilder", "length", "()I"⟩ : MethodName) jdk_67_method_93_code 1 (some .int) [] ({ frames := 1, cells := 0, slots := 0, locals := 12 } : Room) #[(.ref x)] [] h0 (fun v h => v = some (.int ct) ∧ h = h0) := by
  refine Con.intro (Ls := #[.val (.ref x)]) (plainFor_of_name pn3) (own_EL hw) O0 (fun m => by first | (simp [entryFrame, mkF, argsToLocals, Value.category]; done) | rfl) (fun p e s m below meth cc_ T w sf_ => ?_)
  have E0 := ext_refl h0
  refine g_aloadN w e20_0 (q := 1) rfl rfl rfl ?_
  refine g_superP w (con_alen l Z a0 hw x ct _ w.old F_count_x) no0 e20_1 (q := 4) rfl rfl X_x (by decide) (Hw hw 187 rfl) (Hw hw 71 rfl) (Hw hw 90 rfl) rfl (Hw hw 183 rfl) (Hw hw 55 rfl) (Hw hw 188 rfl) (by decide) pd9 rfl rfl (W := 0) (Nat.le_of_eq rfl) (by decide) (by decide) (by decide) (by decide) (fun T v w C q => ?_)
  obtain rfl := q
  show Go p e below _ (State.setTop T (mkF m 4 #[.val (.ref x)] [(.int ct)]))
  exact g_reti w e20_4 rfl (by decide) (by decide) ⟨rfl, rfl⟩
theorem e21_0 : decode jdk_65_method_131_code 0 = .ok (.iload_n 1, 1) := by decide +kernel
theorem e21_1 : decode jdk_65_method_131_code 1 = .ok (.iload_n 0, 1) := by decide +kernel
theorem e21_2 : decode jdk_65_method_131_code 2 = .ok (.if_icmp .ge 35, 3) := by decide +kernel
theorem e21_5 : decode jdk_65_method_131_code 5 = .ok (.new 43, 3) := by decide +kernel
theorem e21_8 : decode jdk_65_method_131_code 8 = .ok (.dup, 1) := by decide +kernel
theorem e21_9 : decode jdk_65_method_131_code 9 = .ok (.new 45, 3) := by decide +kernel
theorem e21_12 : decode jdk_65_method_131_code 12 = .ok (.dup, 1) := by decide +kernel
theorem e21_13 : decode jdk_65_method_131_code 13 = .ok (.invokespecial 47, 3) := by decide +kernel
theorem e21_16 : decode jdk_65_method_131_code 16 = .ok (.iload_n 0, 1) := by decide +kernel
theorem e21_17 : decode jdk_65_method_131_code 17 = .ok (.invokevirtual 54, 3) := by decide +kernel
theorem e21_20 : decode jdk_65_method_131_code 20 = .ok (.ldc_w 337, 3) := by decide +kernel
theorem e21_23 : decode jdk_65_method_131_code 23 = .ok (.invokevirtual 50, 3) := by decide +kernel
theorem e21_26 : decode jdk_65_method_131_code 26 = .ok (.iload_n 1, 1) := by decide +kernel
theorem e21_27 : decode jdk_65_method_131_code 27 = .ok (.invokevirtual 54, 3) := by decide +kernel
theorem e21_30 : decode jdk_65_method_131_code 30 = .ok (.invokevirtual 61, 3) := by decide +kernel
theorem e21_33 : decode jdk_65_method_131_code 33 = .ok (.invokespecial 65, 3) := by decide +kernel
theorem e21_36 : decode jdk_65_method_131_code 36 = .ok (.athrow, 1) := by decide +kernel
theorem e21_37 : decode jdk_65_method_131_code 37 = .ok (.return_, 1) := by decide +kernel
set_option maxRecDepth 65536 in
set_option maxHeartbeats 40000000 in
theorem con_cl (l : Launch) (Z : State) (a0 : Array Value) (hw : ∀ d ∈ tables_1, d.before a0 Z = true) (n_ : Nat) (h0 : Heap) (O0 : Ext Z.heap h0) (hn : n_ ≤ 126) :
    Con l Z consts_1 false (⟨"java/util/Arrays", "checkLength", "(II)V"⟩ : MethodName) jdk_65_method_131_code 2 none [] ({ frames := 0, cells := 0, slots := 0, locals := 0 } : Room) #[(.int (0 : Int32)), (.int (Int32.ofNat n_))] [] h0 (fun v h => v = none ∧ h = h0) := by
  refine Con.intro (Ls := #[.val (.int (0 : Int32)), .val (.int (Int32.ofNat n_))]) (plainFor_of_name pn5) (own_EL hw) O0 (fun m => by first | (simp [entryFrame, mkF, argsToLocals, Value.category]; done) | rfl) (fun p e s m below meth cc_ T w sf_ => ?_)
  have E0 := ext_refl h0
  refine g_iloadN w e21_0 (q := 1) rfl rfl ?_
  refine g_iloadN w e21_1 (q := 2) rfl rfl ?_
  refine g_icY w e21_2 (by decide) (q := 37) (by decide) (Jvm.Free.XT.ii_ge_t (ofNat_nonneg (by omega))) ?_
  exact g_return w e21_37 rfl (by decide) (by decide) ⟨rfl, rfl⟩
theorem e22_0 : decode jdk_65_method_133_code 0 = .ok (.iload_n 1, 1) := by decide +kernel
theorem e22_1 : decode jdk_65_method_133_code 1 = .ok (.iload_n 2, 1) := by decide +kernel
theorem e22_2 : decode jdk_65_method_133_code 2 = .ok (.invokestatic 343, 3) := by decide +kernel
theorem e22_5 : decode jdk_65_method_133_code 5 = .ok (.iload_n 2, 1) := by decide +kernel
theorem e22_6 : decode jdk_65_method_133_code 6 = .ok (.iload_n 1, 1) := by decide +kernel
theorem e22_7 : decode jdk_65_method_133_code 7 = .ok (.isub, 1) := by decide +kernel
theorem e22_8 : decode jdk_65_method_133_code 8 = .ok (.istore_n 3, 1) := by decide +kernel
theorem e22_9 : decode jdk_65_method_133_code 9 = .ok (.iload_n 3, 1) := by decide +kernel
theorem e22_10 : decode jdk_65_method_133_code 10 = .ok (.newarray .byte, 2) := by decide +kernel
theorem e22_12 : decode jdk_65_method_133_code 12 = .ok (.astore 4, 2) := by decide +kernel
theorem e22_14 : decode jdk_65_method_133_code 14 = .ok (.aload_n 0, 1) := by decide +kernel
theorem e22_15 : decode jdk_65_method_133_code 15 = .ok (.iload_n 1, 1) := by decide +kernel
theorem e22_16 : decode jdk_65_method_133_code 16 = .ok (.aload 4, 2) := by decide +kernel
theorem e22_18 : decode jdk_65_method_133_code 18 = .ok (.iconst 0, 1) := by decide +kernel
theorem e22_19 : decode jdk_65_method_133_code 19 = .ok (.aload_n 0, 1) := by decide +kernel
theorem e22_20 : decode jdk_65_method_133_code 20 = .ok (.arraylength, 1) := by decide +kernel
theorem e22_21 : decode jdk_65_method_133_code 21 = .ok (.iload_n 1, 1) := by decide +kernel
theorem e22_22 : decode jdk_65_method_133_code 22 = .ok (.isub, 1) := by decide +kernel
theorem e22_23 : decode jdk_65_method_133_code 23 = .ok (.iload_n 3, 1) := by decide +kernel
theorem e22_24 : decode jdk_65_method_133_code 24 = .ok (.invokestatic 304, 3) := by decide +kernel
theorem e22_27 : decode jdk_65_method_133_code 27 = .ok (.invokestatic 150, 3) := by decide +kernel
theorem e22_30 : decode jdk_65_method_133_code 30 = .ok (.aload 4, 2) := by decide +kernel
theorem e22_32 : decode jdk_65_method_133_code 32 = .ok (.areturn, 1) := by decide +kernel
theorem pd12 : parseMethodDescriptor "(II)V" = some ⟨[.int, .int], none⟩ := by decide +kernel
set_option maxRecDepth 65536 in
set_option maxHeartbeats 40000000 in
theorem con_crb (l : Launch) (Z : State) (a0 : Array Value) (hw : ∀ d ∈ tables_1, d.before a0 Z = true) (b : Addr) (n_ : Nat) (vs : List Value) (h0 : Heap) (O0 : Ext Z.heap h0) (A_b : Ar Z h0 b .byte vs) (hn : n_ ≤ vs.length) (h126 : vs.length ≤ 126) :
    Con l Z consts_1 false (⟨"java/util/Arrays", "copyOfRangeByte", "([BII)[B"⟩ : MethodName) jdk_65_method_133_code 5 (some (.array .byte)) [] ({ frames := 1, cells := 1, slots := 126, locals := 18 } : Room) #[(.ref b), (.int (0 : Int32)), (.int (Int32.ofNat n_))] [] h0 (fun v h => ∃ u, v = some (.ref u) ∧ Ext h0 h ∧ h0.size ≤ u ∧ Ar Z h u .byte (vs.take n_)) := by
  refine Con.intro (Ls := #[.val (.ref b), .val (.int (0 : Int32)), .val (.int (Int32.ofNat n_)), .unset, .unset]) (plainFor_of_name pn5) (own_EL hw) O0 (fun m => by first | (simp [entryFrame, mkF, argsToLocals, Value.category]; done) | rfl) (fun p e s m below meth cc_ T w sf_ => ?_)
  have E0 := ext_refl h0
  refine g_iloadN w e22_0 (q := 1) rfl rfl ?_
  refine g_iloadN w e22_1 (q := 2) rfl rfl ?_
  refine g_staticP w (con_cl l Z a0 hw n_ _ w.old (by omega)) no0 e22_2 (q := 5) rfl rfl (Hw hw 197 rfl) (Hw hw 198 rfl) (Hw hw 192 rfl) (Hw hw 199 rfl) (by decide) pd12 rfl rfl (W := 0) (Nat.le_of_eq rfl) (by decide) (by decide) (by decide) (by decide) (fun T v w C q => ?_)
  obtain rfl := q
  show Go p e below _ (State.setTop T (mkF m 5 #[.val (.ref b), .val (.int (0 : Int32)), .val (.int (Int32.ofNat n_)), .unset, .unset] []))
  refine g_iloadN w e22_5 (q := 6) rfl rfl ?_
  refine g_iloadN w e22_6 (q := 7) rfl rfl ?_
  refine g_isub w e22_7 (q := 8) rfl ?_
  rw [sub0]
  show Go p e below _ (State.setTop T (mkF m 8 #[.val (.ref b), .val (.int (0 : Int32)), .val (.int (Int32.ofNat n_)), .unset, .unset] [(.int (Int32.ofNat n_))]))
  refine g_istoreN w e22_8 (q := 9) rfl (Ls' := #[.val (.ref b), .val (.int (0 : Int32)), .val (.int (Int32.ofNat n_)), .val (.int (Int32.ofNat n_)), .unset]) rfl ?_
  refine g_iloadN w e22_9 (q := 10) rfl rfl ?_
  refine g_newarrE w e22_10 (q := 12) rfl (Hw hw 15 rfl) (ad := "[B") (by decide) (len := n_) (cap := 126) rfl (by omega) (by decide) (by decide) (by decide) (fun T h u w E g_u n_u A_u X_u s_u => ?_)
  have z_u := Nat.le_trans E0.1 g_u
  have ne_b_u : b ≠ u := Nat.ne_of_lt (Nat.lt_of_lt_of_le A_b.lt g_u)
  replace E0 := ext_trans E0 E
  replace A_b := A_b.ext E
  replace A_u : Ar Z h u .byte (List.replicate n_ (.int 0)) := A_u
  refine g_astore w e22_12 (q := 14) rfl rfl (Ls' := #[.val (.ref b), .val (.int (0 : Int32)), .val (.int (Int32.ofNat n_)), .val (.int (Int32.ofNat n_)), .val (.ref u)]) rfl ?_
  refine g_aloadN w e22_14 (q := 15) rfl rfl rfl ?_
  refine g_iloadN w e22_15 (q := 16) rfl rfl ?_
  refine g_aload w e22_16 (q := 18) rfl rfl rfl ?_
  refine g_iconst w e22_18 (q := 19) rfl (v := (0 : Int32)) (by decide) ?_
  refine g_aloadN w e22_19 (q := 20) rfl rfl rfl ?_
  refine g_alen w e22_20 (q := 21) rfl A_b ?_
  show Go p e below _ (State.setTop T (mkF m 21 #[.val (.ref b), .val (.int (0 : Int32)), .val (.int (Int32.ofNat n_)), .val (.int (Int32.ofNat n_)), .val (.ref u)] [(.int (Int32.ofNat vs.length)), (.int (0 : Int32)), (.ref u), (.int (0 : Int32)), (.ref b)]))
  refine g_iloadN w e22_21 (q := 22) rfl rfl ?_
  refine g_isub w e22_22 (q := 23) rfl ?_
  rw [sub0]
  show Go p e below _ (State.setTop T (mkF m 23 #[.val (.ref b), .val (.int (0 : Int32)), .val (.int (Int32.ofNat n_)), .val (.int (Int32.ofNat n_)), .val (.ref u)] [(.int (Int32.ofNat vs.length)), (.int (0 : Int32)), (.ref u), (.int (0 : Int32)), (.ref b)]))
  refine g_iloadN w e22_23 (q := 24) rfl rfl ?_
  refine g_staticP w (con_min l Z a0 hw (Int32.ofNat vs.length) (Int32.ofNat n_) _ w.old) no0 e22_24 (q := 27) rfl rfl (Hw hw 200 rfl) (Hw hw 201 rfl) (Hw hw 202 rfl) (Hw hw 203 rfl) (by decide) pd5 rfl rfl (W := 4) (Nat.le_of_eq rfl) (by decide) (by decide) (by decide) (by decide) (fun T v w C q => ?_)
  replace s_u := C.safe X_u.lt s_u
  obtain rfl := q
  show Go p e below _ (State.setTop T (mkF m 27 #[.val (.ref b), .val (.int (0 : Int32)), .val (.int (Int32.ofNat n_)), .val (.int (Int32.ofNat n_)), .val (.ref u)] [(.int (if (Int32.ofNat n_) < (Int32.ofNat vs.length) then (Int32.ofNat n_) else (Int32.ofNat vs.length))), (.int (0 : Int32)), (.ref u), (.int (0 : Int32)), (.ref b)]))
  rw [mn_r (by omega) (by omega)]
  refine g_acopyB w (sp := 0) (dp := 0) (nn := n_) A_b A_u (by omega) (by simp) n_u s_u e22_27 (q := 30) rfl rfl (Hw hw 204 rfl) (Hw hw 111 rfl) (Hw hw 109 rfl) (Hw hw 110 rfl) (Wd := 0) (Nat.le_of_eq rfl) (by decide) (by decide) (fun T h w K V => ?_)
  rw [cp_pre (by omega)] at V
  replace E0 := ext_keep E0 K z_u
  replace X_u := X_u.keep K
  replace A_u := V
  show Go p e below _ (State.setTop T (mkF m 30 #[.val (.ref b), .val (.int (0 : Int32)), .val (.int (Int32.ofNat n_)), .val (.int (Int32.ofNat n_)), .val (.ref u)] []))
  refine g_aload w e22_30 (q := 32) rfl rfl rfl ?_
  exact g_reta w e22_32 rfl rfl rfl (by decide) (by decide) ⟨u, rfl, E0, z_u, A_u⟩
theorem e23_0 : decode jdk_65_method_132_code 0 = .ok (.iload_n 1, 1) := by decide +kernel
theorem e23_1 : decode jdk_65_method_132_code 1 = .ok (.ifCond .ne 9, 3) := by decide +kernel
theorem e23_4 : decode jdk_65_method_132_code 4 = .ok (.iload_n 2, 1) := by decide +kernel
theorem e23_5 : decode jdk_65_method_132_code 5 = .ok (.aload_n 0, 1) := by decide +kernel
theorem e23_6 : decode jdk_65_method_132_code 6 = .ok (.arraylength, 1) := by decide +kernel
theorem e23_7 : decode jdk_65_method_132_code 7 = .ok (.if_icmp .eq 10, 3) := by decide +kernel
theorem e23_10 : decode jdk_65_method_132_code 10 = .ok (.aload_n 0, 1) := by decide +kernel
theorem e23_11 : decode jdk_65_method_132_code 11 = .ok (.iload_n 1, 1) := by decide +kernel
theorem e23_12 : decode jdk_65_method_132_code 12 = .ok (.iload_n 2, 1) := by decide +kernel
theorem e23_13 : decode jdk_65_method_132_code 13 = .ok (.invokestatic 339, 3) := by decide +kernel
theorem e23_16 : decode jdk_65_method_132_code 16 = .ok (.areturn, 1) := by decide +kernel
theorem e23_17 : decode jdk_65_method_132_code 17 = .ok (.aload_n 0, 1) := by decide +kernel
theorem e23_18 : decode jdk_65_method_132_code 18 = .ok (.invokevirtual 310, 3) := by decide +kernel
theorem e23_21 : decode jdk_65_method_132_code 21 = .ok (.checkcast 311, 3) := by decide +kernel
theorem e23_24 : decode jdk_65_method_132_code 24 = .ok (.areturn, 1) := by decide +kernel
theorem pd13 : parseMethodDescriptor "([BII)[B" = some ⟨[(.array .byte), .int, .int], some (.array .byte)⟩ := by decide +kernel
set_option maxRecDepth 65536 in
set_option maxHeartbeats 40000000 in
theorem con_cr (l : Launch) (Z : State) (a0 : Array Value) (hw : ∀ d ∈ tables_1, d.before a0 Z = true) (b : Addr) (n_ : Nat) (vs : List Value) (h0 : Heap) (O0 : Ext Z.heap h0) (A_b : Ar Z h0 b .byte vs) (hn : n_ ≤ vs.length) (h126 : vs.length ≤ 126) (X_b : Exa Z h0 b "[B") :
    Con l Z consts_1 false (⟨"java/util/Arrays", "copyOfRange", "([BII)[B"⟩ : MethodName) jdk_65_method_132_code 3 (some (.array .byte)) [] ({ frames := 2, cells := 1, slots := 126, locals := 34 } : Room) #[(.ref b), (.int (0 : Int32)), (.int (Int32.ofNat n_))] [] h0 (fun v h => ∃ u, v = some (.ref u) ∧ Ext h0 h ∧ h0.size ≤ u ∧ Ar Z h u .byte (vs.take n_)) := by
  refine Con.intro (Ls := #[.val (.ref b), .val (.int (0 : Int32)), .val (.int (Int32.ofNat n_))]) (plainFor_of_name pn5) (own_EL hw) O0 (fun m => by first | (simp [entryFrame, mkF, argsToLocals, Value.category]; done) | rfl) (fun p e s m below meth cc_ T w sf_ => ?_)
  have E0 := ext_refl h0
  refine g_iloadN w e23_0 (q := 1) rfl rfl ?_
  refine g_ifN w e23_1 (q := 4) rfl (by decide) ?_
  refine g_iloadN w e23_4 (q := 5) rfl rfl ?_
  refine g_aloadN w e23_5 (q := 6) rfl rfl rfl ?_
  refine g_alen w e23_6 (q := 7) rfl A_b ?_
  show Go p e below _ (State.setTop T (mkF m 7 #[.val (.ref b), .val (.int (0 : Int32)), .val (.int (Int32.ofNat n_))] [(.int (Int32.ofNat vs.length)), (.int (Int32.ofNat n_))]))
  rcases Nat.decEq n_ vs.length with hq_ | hq_
  · refine g_icN w e23_7 (q := 10) rfl (Jvm.Free.XT.ii_eq_f (fun q => hq_ ((oN_inj (by omega) (by omega)).mp q))) ?_
    refine g_aloadN w e23_10 (q := 11) rfl rfl rfl ?_
    refine g_iloadN w e23_11 (q := 12) rfl rfl ?_
    refine g_iloadN w e23_12 (q := 13) rfl rfl ?_
    refine g_static w (con_crb l Z a0 hw b n_ vs _ w.old A_b hn h126) no0 e23_13 (q := 16) rfl rfl (Hw hw 194 rfl) (Hw hw 195 rfl) (Hw hw 192 rfl) (Hw hw 196 rfl) (by decide) pd13 rfl rfl (W := 0) (Nat.le_of_eq rfl) (by decide) (by decide) (by decide) (by decide) (fun T h v w gs C q => ?_)
    obtain ⟨u, rfl, E, g_u, A_u⟩ := q
    have z_u := Nat.le_trans E0.1 g_u
    have ne_b_u : b ≠ u := Nat.ne_of_lt (Nat.lt_of_lt_of_le A_b.lt g_u)
    replace E0 := ext_trans E0 E
    replace A_b := A_b.ext E
    replace X_b := X_b.ext E
    show Go p e below _ (State.setTop T (mkF m 16 #[.val (.ref b), .val (.int (0 : Int32)), .val (.int (Int32.ofNat n_))] [(.ref u)]))
    exact g_reta w e23_16 rfl rfl rfl (by decide) (by decide) ⟨u, rfl, E0, z_u, A_u⟩
  · refine g_icY w e23_7 (by decide) (q := 17) (by decide) (Jvm.Free.XT.ii_eq_t (by rw [hq_])) ?_
    refine g_aloadN w e23_17 (q := 18) rfl rfl rfl ?_
    refine g_clone w A_b X_b e23_18 (q := 21) rfl rfl (Hw hw 278 rfl) (Hw hw 279 rfl) (Hw hw 283 rfl) (Hw hw 281 rfl) (Hw hw 282 rfl) (Hw hw 284 rfl) (Wd := 0) (Nat.le_of_eq rfl) (by decide) (by decide) (cap := 126) h126 (by decide) (by decide) (fun T h u w E g_u n_u A_u X_u => ?_)
    have z_u := Nat.le_trans E0.1 g_u
    have ne_b_u : b ≠ u := Nat.ne_of_lt (Nat.lt_of_lt_of_le A_b.lt g_u)
    replace E0 := ext_trans E0 E
    replace A_b := A_b.ext E
    replace X_b := X_b.ext E
    refine g_cast w e23_21 (q := 24) rfl (Hw hw 285 rfl) (Ins.self X_u) (fun T w => ?_)
    exact g_reta w e23_24 rfl rfl rfl (by decide) (by decide) ⟨u, rfl, E0, z_u, by rw [hq_, List.take_length]; exact A_u⟩
theorem e24_0 : decode jdk_42_method_150_code 0 = .ok (.aload_n 0, 1) := by decide +kernel
theorem e24_1 : decode jdk_42_method_150_code 1 = .ok (.invokespecial 1, 3) := by decide +kernel
theorem e24_4 : decode jdk_42_method_150_code 4 = .ok (.aload_n 1, 1) := by decide +kernel
theorem e24_5 : decode jdk_42_method_150_code 5 = .ok (.invokevirtual 552, 3) := by decide +kernel
theorem e24_8 : decode jdk_42_method_150_code 8 = .ok (.astore_n 3, 1) := by decide +kernel
theorem e24_9 : decode jdk_42_method_150_code 9 = .ok (.aload_n 1, 1) := by decide +kernel
theorem e24_10 : decode jdk_42_method_150_code 10 = .ok (.invokevirtual 549, 3) := by decide +kernel
theorem e24_13 : decode jdk_42_method_150_code 13 = .ok (.istore 4, 2) := by decide +kernel
theorem e24_15 : decode jdk_42_method_150_code 15 = .ok (.aload_n 1, 1) := by decide +kernel
theorem e24_16 : decode jdk_42_method_150_code 16 = .ok (.invokevirtual 1047, 3) := by decide +kernel
theorem e24_19 : decode jdk_42_method_150_code 19 = .ok (.ifCond .eq 22, 3) := by decide +kernel
theorem e24_22 : decode jdk_42_method_150_code 22 = .ok (.aload_n 0, 1) := by decide +kernel
theorem e24_23 : decode jdk_42_method_150_code 23 = .ok (.iconst 0, 1) := by decide +kernel
theorem e24_24 : decode jdk_42_method_150_code 24 = .ok (.putfield 15, 3) := by decide +kernel
theorem e24_27 : decode jdk_42_method_150_code 27 = .ok (.aload_n 0, 1) := by decide +kernel
theorem e24_28 : decode jdk_42_method_150_code 28 = .ok (.aload_n 3, 1) := by decide +kernel
theorem e24_29 : decode jdk_42_method_150_code 29 = .ok (.iconst 0, 1) := by decide +kernel
theorem e24_30 : decode jdk_42_method_150_code 30 = .ok (.iload 4, 2) := by decide +kernel
theorem e24_32 : decode jdk_42_method_150_code 32 = .ok (.invokestatic 54, 3) := by decide +kernel
theorem e24_35 : decode jdk_42_method_150_code 35 = .ok (.putfield 9, 3) := by decide +kernel
theorem e24_38 : decode jdk_42_method_150_code 38 = .ok (.goto 59, 3) := by decide +kernel
theorem e24_41 : decode jdk_42_method_150_code 41 = .ok (.getstatic 38, 3) := by decide +kernel
theorem e24_44 : decode jdk_42_method_150_code 44 = .ok (.ifCond .eq 35, 3) := by decide +kernel
theorem e24_47 : decode jdk_42_method_150_code 47 = .ok (.aload_n 1, 1) := by decide +kernel
theorem e24_48 : decode jdk_42_method_150_code 48 = .ok (.getfield 1048, 3) := by decide +kernel
theorem e24_51 : decode jdk_42_method_150_code 51 = .ok (.ifCond .eq 28, 3) := by decide +kernel
theorem e24_54 : decode jdk_42_method_150_code 54 = .ok (.aload_n 0, 1) := by decide +kernel
theorem e24_55 : decode jdk_42_method_150_code 55 = .ok (.aload_n 3, 1) := by decide +kernel
theorem e24_56 : decode jdk_42_method_150_code 56 = .ok (.iconst 0, 1) := by decide +kernel
theorem e24_57 : decode jdk_42_method_150_code 57 = .ok (.iload 4, 2) := by decide +kernel
theorem e24_59 : decode jdk_42_method_150_code 59 = .ok (.invokestatic 1051, 3) := by decide +kernel
theorem e24_62 : decode jdk_42_method_150_code 62 = .ok (.putfield 9, 3) := by decide +kernel
theorem e24_65 : decode jdk_42_method_150_code 65 = .ok (.aload_n 0, 1) := by decide +kernel
theorem e24_66 : decode jdk_42_method_150_code 66 = .ok (.aload_n 0, 1) := by decide +kernel
theorem e24_67 : decode jdk_42_method_150_code 67 = .ok (.getfield 9, 3) := by decide +kernel
theorem e24_70 : decode jdk_42_method_150_code 70 = .ok (.iload 4, 2) := by decide +kernel
theorem e24_72 : decode jdk_42_method_150_code 72 = .ok (.invokestatic 47, 3) := by decide +kernel
theorem e24_75 : decode jdk_42_method_150_code 75 = .ok (.putfield 15, 3) := by decide +kernel
theorem e24_78 : decode jdk_42_method_150_code 78 = .ok (.return_, 1) := by decide +kernel
theorem e24_79 : decode jdk_42_method_150_code 79 = .ok (.aload_n 0, 1) := by decide +kernel
theorem e24_80 : decode jdk_42_method_150_code 80 = .ok (.iconst 1, 1) := by decide +kernel
theorem e24_81 : decode jdk_42_method_150_code 81 = .ok (.putfield 15, 3) := by decide +kernel
theorem e24_84 : decode jdk_42_method_150_code 84 = .ok (.aload_n 0, 1) := by decide +kernel
theorem e24_85 : decode jdk_42_method_150_code 85 = .ok (.aload_n 3, 1) := by decide +kernel
theorem e24_86 : decode jdk_42_method_150_code 86 = .ok (.iconst 0, 1) := by decide +kernel
theorem e24_87 : decode jdk_42_method_150_code 87 = .ok (.iload 4, 2) := by decide +kernel
theorem e24_89 : decode jdk_42_method_150_code 89 = .ok (.iconst 1, 1) := by decide +kernel
theorem e24_90 : decode jdk_42_method_150_code 90 = .ok (.ishl, 1) := by decide +kernel
theorem e24_91 : decode jdk_42_method_150_code 91 = .ok (.invokestatic 54, 3) := by decide +kernel
theorem e24_94 : decode jdk_42_method_150_code 94 = .ok (.putfield 9, 3) := by decide +kernel
theorem e24_97 : decode jdk_42_method_150_code 97 = .ok (.return_, 1) := by decide +kernel
theorem pd14 : parseMethodDescriptor "()[B" = some ⟨[], some (.array .byte)⟩ := by decide +kernel
theorem pd15 : parseMethodDescriptor "()Z" = some ⟨[], some .boolean⟩ := by decide +kernel
set_option maxRecDepth 65536 in
set_option maxHeartbeats 40000000 in
theorem con_isa (l : Launch) (Z : State) (a0 : Array Value) (hw : ∀ d ∈ tables_1, d.before a0 Z = true) (y x b : Addr) (vs : List Value) (cs : List Int32) (h0 : Heap) (O0 : Ext Z.heap h0) (X_y : Exa Z h0 y "java/lang/String") (F_value_y : Fld Z h0 y "java/lang/String" "value" "[B" .null) (F_coder_y : Fld Z h0 y "java/lang/String" "coder" "B" (.int (0 : Int32))) (n_y : Z.heap.size ≤ y) (ne_x_y : x ≠ y) (ne_b_y : b ≠ y) (B_x : Bd Z h0 x b vs cs) (hl : ∀ c ∈ cs, Lt8 c) (hn : cs.length ≤ 4000) (hcm : Cpt Z) :
    Con l Z consts_1 false (⟨"java/lang/String", "<init>", "(Ljava/lang/AbstractStringBuilder;Ljava/lang/Void;)V"⟩ : MethodName) jdk_42_method_150_code 5 none [] ({ frames := 3, cells := 1, slots := 126, locals := 49 } : Room) #[(.ref y), (.ref x), .null] [] h0 (fun v h => v = none ∧ Keep h0 h [y] ∧ Sg Z h y cs) := by
  refine Con.intro (Ls := #[.val (.ref y), .val (.ref x), .val .null, .unset, .unset]) (plainFor_of_name pn0) (own_EL hw) O0 (fun m => by first | (simp [entryFrame, mkF, argsToLocals, Value.category]; done) | rfl) (fun p e s m below meth cc_ T w sf_ => ?_)
  have K0 := Keep.refl h0 [y]
  obtain ⟨z_, hz_, SC_⟩ := id hcm
  have s_y := safe_null (EL := consts_1) (vm := s.vm) w.wz.alike (Hw hw 2 rfl) X_y F_value_y
  obtain ⟨X_x, F_value_x, F_coder_x, F_count_x, A_b, X_b, h16, h126, us_, hvs⟩ := B_x
  refine g_aloadN w e24_0 (q := 1) rfl rfl rfl ?_
  refine g_initO w e24_1 (q := 4) rfl rfl (Hw hw 11 rfl) (Hw hw 12 rfl) (Hw hw 13 rfl) (W := 0) (Nat.le_of_eq rfl) (by decide) (by decide) (fun T w => ?_)
  refine g_aloadN w e24_4 (q := 5) rfl rfl rfl ?_
  refine g_virtualP w (con_gv l Z a0 hw x b _ w.old F_value_x) no0 X_x e24_5 (q := 8) rfl rfl (Hw hw 176 rfl) (Hw hw 177 rfl) (Hw hw 179 rfl) (Hw hw 178 rfl) (Hw hw 55 rfl) (Hw hw 180 rfl) (by decide) (nf (Hw hw 179 rfl)) pd14 rfl rfl (W := 0) (Nat.le_of_eq rfl) (by decide) (by decide) (by decide) (by decide) (fun T v w C q => ?_)
  replace s_y := C.safe X_y.lt s_y
  obtain rfl := q
  show Go p e below _ (State.setTop T (mkF m 8 #[.val (.ref y), .val (.ref x), .val .null, .unset, .unset] [(.ref b)]))
  refine g_astoreN w e24_8 (q := 9) rfl rfl (Ls' := #[.val (.ref y), .val (.ref x), .val .null, .val (.ref b), .unset]) rfl ?_
  refine g_aloadN w e24_9 (q := 10) rfl rfl rfl ?_
  refine g_virtualP w (con_slen l Z a0 hw x (Int32.ofNat cs.length) _ w.old X_x F_count_x) no0 X_x e24_10 (q := 13) rfl rfl (Hw hw 181 rfl) (Hw hw 182 rfl) (Hw hw 184 rfl) (Hw hw 185 rfl) (Hw hw 47 rfl) (Hw hw 186 rfl) (by decide) (nfC (Hw hw 90 rfl) rfl) pd9 rfl rfl (W := 0) (Nat.le_of_eq rfl) (by decide) (by decide) (by decide) (by decide) (fun T v w C q => ?_)
  replace s_y := C.safe X_y.lt s_y
  obtain rfl := q
  show Go p e below _ (State.setTop T (mkF m 13 #[.val (.ref y), .val (.ref x), .val .null, .val (.ref b), .unset] [(.int (Int32.ofNat cs.length))]))
  refine g_istore w e24_13 (q := 15) rfl (Ls' := #[.val (.ref y), .val (.ref x), .val .null, .val (.ref b), .val (.int (Int32.ofNat cs.length))]) rfl ?_
  refine g_aloadN w e24_15 (q := 16) rfl rfl rfl ?_
  refine g_virtualP w (con_aisl l Z a0 hw x _ w.old F_coder_x hcm) no0 X_x e24_16 (q := 19) rfl rfl (Hw hw 189 rfl) (Hw hw 155 rfl) (Hw hw 157 rfl) (Hw hw 156 rfl) (Hw hw 55 rfl) (Hw hw 158 rfl) (by decide) (nf (Hw hw 157 rfl)) pd15 rfl rfl (W := 0) (Nat.le_of_eq rfl) (by decide) (by decide) (by decide) (by decide) (fun T v w C q => ?_)
  replace s_y := C.safe X_y.lt s_y
  obtain rfl := q
  show Go p e below _ (State.setTop T (mkF m 19 #[.val (.ref y), .val (.ref x), .val .null, .val (.ref b), .val (.int (Int32.ofNat cs.length))] [(.int (1 : Int32))]))
  refine g_ifN w e24_19 (q := 22) rfl (by decide) ?_
  refine g_aloadN w e24_22 (q := 23) rfl rfl rfl ?_
  refine g_iconst w e24_23 (q := 24) rfl (v := (0 : Int32)) (by decide) ?_
  have g_ := w.chv
  refine g_putF w e24_24 (q := 27) rfl (Hw hw 21 rfl) Via.refl F_coder_y X_y (Or.inr ⟨(Hw hw 17 rfl), rfl, rfl⟩) (Hw hw 2 rfl) (ty := .byte) (by decide) (v' := (.int (0 : Int32))) rfl rfl n_y s_y (fun T h w W => ?_)
  replace K0 := K0.wr W (Or.inl (List.mem_singleton.mpr rfl))
  replace s_y := Safe.wr W s_y g_ s_y
  replace X_y := X_y.wr W
  replace F_value_y := F_value_y.other W (Or.inr (slot_ne (Or.inr (Hw hw 16 rfl)) (Or.inr (Hw hw 17 rfl)) (by decide) (t := (.array .byte)) (t' := .byte) (by decide) (by decide)))
  replace F_coder_y := F_coder_y.same W
  replace X_x := X_x.wr W
  replace F_value_x := F_value_x.other W (Or.inl ne_x_y)
  replace F_coder_x := F_coder_x.other W (Or.inl ne_x_y)
  replace F_count_x := F_count_x.other W (Or.inl ne_x_y)
  replace A_b := A_b.other W ne_b_y
  replace X_b := X_b.wr W
  refine g_aloadN w e24_27 (q := 28) rfl rfl rfl ?_
  refine g_aloadN w e24_28 (q := 29) rfl rfl rfl ?_
  refine g_iconst w e24_29 (q := 30) rfl (v := (0 : Int32)) (by decide) ?_
  refine g_iload w e24_30 (q := 32) rfl rfl ?_
  refine g_static w (con_cr l Z a0 hw b cs.length vs _ w.old A_b (by rw [hvs, List.length_append, bys_len]; omega) h126 X_b) no0 e24_32 (q := 35) rfl rfl (Hw hw 190 rfl) (Hw hw 191 rfl) (Hw hw 192 rfl) (Hw hw 193 rfl) (by decide) pd13 rfl rfl (W := 1) (Nat.le_of_eq rfl) (by decide) (by decide) (by decide) (by decide) (fun T h v w gs C q => ?_)
  replace s_y := C.safe X_y.lt s_y
  obtain ⟨u, rfl, E, g_u, A_u⟩ := q
  have z_u := Nat.le_trans K0.1 g_u
  have ne_b_u : b ≠ u := Nat.ne_of_lt (Nat.lt_of_lt_of_le A_b.lt g_u)
  have ne_x_u : x ≠ u := Nat.ne_of_lt (Nat.lt_of_lt_of_le X_x.lt g_u)
  have ne_y_u : y ≠ u := Nat.ne_of_lt (Nat.lt_of_lt_of_le X_y.lt g_u)
  replace K0 := K0.ext E
  replace X_y := X_y.ext E
  replace F_value_y := F_value_y.ext E
  replace F_coder_y := F_coder_y.ext E
  replace X_x := X_x.ext E
  replace F_value_x := F_value_x.ext E
  replace F_coder_x := F_coder_x.ext E
  replace F_count_x := F_count_x.ext E
  replace A_b := A_b.ext E
  replace X_b := X_b.ext E
  show Go p e below _ (State.setTop T (mkF m 35 #[.val (.ref y), .val (.ref x), .val .null, .val (.ref b), .val (.int (Int32.ofNat cs.length))] [(.ref u), (.ref y)]))
  have g_ := w.chv
  refine g_putF w e24_35 (q := 38) rfl (Hw hw 20 rfl) Via.refl F_value_y X_y (Or.inr ⟨(Hw hw 16 rfl), rfl, rfl⟩) (Hw hw 2 rfl) (ty := (.array .byte)) (by decide) (v' := (.ref u)) rfl rfl n_y s_y (fun T h w W => ?_)
  replace K0 := K0.wr W (Or.inl (List.mem_singleton.mpr rfl))
  replace s_y := Safe.wr W s_y g_ s_y
  replace X_y := X_y.wr W
  replace F_value_y := F_value_y.same W
  replace F_coder_y := F_coder_y.other W (Or.inr (slot_ne (Or.inr (Hw hw 17 rfl)) (Or.inr (Hw hw 16 rfl)) (by decide) (t := .byte) (t' := (.array .byte)) (by decide) (by decide)))
  replace X_x := X_x.wr W
  replace F_value_x := F_value_x.other W (Or.inl ne_x_y)
  replace F_coder_x := F_coder_x.other W (Or.inl ne_x_y)
  replace F_count_x := F_count_x.other W (Or.inl ne_x_y)
  replace A_b := A_b.other W ne_b_y
  replace X_b := X_b.wr W
  replace A_u := A_u.other W ne_y_u.symm
  refine g_goto w e24_38 (by decide) (q := 97) (by decide) ?_
  exact g_return w e24_97 rfl (by decide) (by decide) ⟨rfl, K0, sg_of' hn hl X_y F_value_y F_coder_y (by rw [pre_take hvs] at A_u; exact A_u)⟩
theorem e25_0 : decode jdk_42_method_53_code 0 = .ok (.aload_n 0, 1) := by decide +kernel
theorem e25_1 : decode jdk_42_method_53_code 1 = .ok (.aload_n 1, 1) := by decide +kernel
theorem e25_2 : decode jdk_42_method_53_code 2 = .ok (.aconst_null, 1) := by decide +kernel
theorem e25_3 : decode jdk_42_method_53_code 3 = .ok (.invokespecial 489, 3) := by decide +kernel
theorem e25_6 : decode jdk_42_method_53_code 6 = .ok (.return_, 1) := by decide +kernel
theorem pd16 : parseMethodDescriptor "(Ljava/lang/AbstractStringBuilder;Ljava/lang/Void;)V" = some ⟨[(.object "java/lang/AbstractStringBuilder"), (.object "java/lang/Void")], none⟩ := by decide +kernel
set_option maxRecDepth 65536 in
set_option maxHeartbeats 40000000 in
theorem con_iss (l : Launch) (Z : State) (a0 : Array Value) (hw : ∀ d ∈ tables_1, d.before a0 Z = true) (y x b : Addr) (vs : List Value) (cs : List Int32) (h0 : Heap) (O0 : Ext Z.heap h0) (X_y : Exa Z h0 y "java/lang/String") (F_value_y : Fld Z h0 y "java/lang/String" "value" "[B" .null) (F_coder_y : Fld Z h0 y "java/lang/String" "coder" "B" (.int (0 : Int32))) (n_y : Z.heap.size ≤ y) (ne_x_y : x ≠ y) (ne_b_y : b ≠ y) (B_x : Bd Z h0 x b vs cs) (hl : ∀ c ∈ cs, Lt8 c) (hn : cs.length ≤ 4000) (hcm : Cpt Z) :
    Con l Z consts_1 false (⟨"java/lang/String", "<init>", "(Ljava/lang/StringBuilder;)V"⟩ : MethodName) jdk_42_method_53_code 2 none [] ({ frames := 4, cells := 1, slots := 126, locals := 65 } : Room) #[(.ref y), (.ref x)] [] h0 (fun v h => v = none ∧ Keep h0 h [y] ∧ Sg Z h y cs) := by
  refine Con.intro (Ls := #[.val (.ref y), .val (.ref x)]) (plainFor_of_name pn0) (own_EL hw) O0 (fun m => by first | (simp [entryFrame, mkF, argsToLocals, Value.category]; done) | rfl) (fun p e s m below meth cc_ T w sf_ => ?_)
  have K0 := Keep.refl h0 [y]
  refine g_aloadN w e25_0 (q := 1) rfl rfl rfl ?_
  refine g_aloadN w e25_1 (q := 2) rfl rfl rfl ?_
  refine g_anull w e25_2 (q := 3) rfl ?_
  refine g_special w (con_isa l Z a0 hw y x b vs cs _ w.old X_y F_value_y F_coder_y n_y ne_x_y ne_b_y B_x hl hn hcm) no0 e25_3 (q := 6) rfl rfl rfl (Hw hw 173 rfl) (Hw hw 174 rfl) (Hw hw 3 rfl) (Hw hw 175 rfl) (by decide) pd16 rfl rfl (W := 0) (Nat.le_of_eq rfl) (by decide) (by decide) (by decide) (by decide) (fun T h v w gs C q => ?_)
  obtain ⟨rfl, K, S_y⟩ := q
  replace K0 := keep_same K0 K
  show Go p e below _ (State.setTop T (mkF m 6 #[.val (.ref y), .val (.ref x)] []))
  exact g_return w e25_6 rfl (by decide) (by decide) ⟨rfl, K0, S_y⟩
theorem e26_0 : decode jdk_67_method_42_code 0 = .ok (.new 18, 3) := by decide +kernel
theorem e26_3 : decode jdk_67_method_42_code 3 = .ok (.dup, 1) := by decide +kernel
theorem e26_4 : decode jdk_67_method_42_code 4 = .ok (.aload_n 0, 1) := by decide +kernel
theorem e26_5 : decode jdk_67_method_42_code 5 = .ok (.invokespecial 137, 3) := by decide +kernel
theorem e26_8 : decode jdk_67_method_42_code 8 = .ok (.areturn, 1) := by decide +kernel
theorem pd17 : parseMethodDescriptor "(Ljava/lang/StringBuilder;)V" = some ⟨[(.object "java/lang/StringBuilder")], none⟩ := by decide +kernel
set_option maxRecDepth 65536 in
set_option maxHeartbeats 40000000 in
theorem con_ts (l : Launch) (Z : State) (a0 : Array Value) (hw : ∀ d ∈ tables_1, d.before a0 Z = true) (x b : Addr) (vs : List Value) (cs : List Int32) (h0 : Heap) (O0 : Ext Z.heap h0) (B_x : Bd Z h0 x b vs cs) (hl : ∀ c ∈ cs, Lt8 c) (hn : cs.length ≤ 4000) (hcm : Cpt Z) :
    Con l Z consts_1 false (⟨"java/lang/StringBuilder", "toString", "()Ljava/lang/String;"⟩ : MethodName) jdk_67_method_42_code 1 (some (.object "java/lang/String")) [] ({ frames := 5, cells := 2, slots := 130, locals := 79 } : Room) #[(.ref x)] [] h0 (fun v h => ∃ r, v = some (.ref r) ∧ Ext h0 h ∧ h0.size ≤ r ∧ Sg Z h r cs) := by
  refine Con.intro (Ls := #[.val (.ref x)]) (plainFor_of_name pn3) (own_EL hw) O0 (fun m => by first | (simp [entryFrame, mkF, argsToLocals, Value.category]; done) | rfl) (fun p e s m below meth cc_ T w sf_ => ?_)
  have E0 := ext_refl h0
  refine g_new w e26_0 (q := 3) rfl (Hw hw 169 rfl) (Hw hw 2 rfl) (Hw hw 3 rfl) (by decide) (by decide) (fun T h a1 w E g_a1 n_a1 X_a1 D_a1 s_a1 => ?_)
  have z_a1 := Nat.le_trans E0.1 g_a1
  have ne_x_a1 : x ≠ a1 := Nat.ne_of_lt (Nat.lt_of_lt_of_le B_x.lt g_a1)
  have ne_b_a1 : b ≠ a1 := Nat.ne_of_lt (Nat.lt_of_lt_of_le B_x.ltb g_a1)
  replace E0 := ext_trans E0 E
  replace B_x := B_x.ext E
  have F_value_a1 := D_a1 (Or.inr (Hw hw 16 rfl)) (ty := (.array .byte)) (by decide)
  replace F_value_a1 : Fld Z h a1 "java/lang/String" "value" "[B" .null := F_value_a1
  have F_coder_a1 := D_a1 (Or.inr (Hw hw 17 rfl)) (ty := .byte) (by decide)
  replace F_coder_a1 : Fld Z h a1 "java/lang/String" "coder" "B" (.int (0 : Int32)) := F_coder_a1
  refine g_dup w e26_3 (q := 4) rfl rfl ?_
  refine g_aloadN w e26_4 (q := 5) rfl rfl rfl ?_
  refine g_special w (con_iss l Z a0 hw a1 x b vs cs _ w.old X_a1 F_value_a1 F_coder_a1 n_a1 ne_x_a1 ne_b_a1 B_x hl hn hcm) no0 e26_5 (q := 8) rfl rfl rfl (Hw hw 170 rfl) (Hw hw 171 rfl) (Hw hw 3 rfl) (Hw hw 172 rfl) (by decide) pd17 rfl rfl (W := 1) (Nat.le_of_eq rfl) (by decide) (by decide) (by decide) (by decide) (fun T h v w gs C q => ?_)
  obtain ⟨rfl, K, S_a1⟩ := q
  replace E0 := ext_keep E0 K z_a1
  show Go p e below _ (State.setTop T (mkF m 8 #[.val (.ref x)] [(.ref a1)]))
  exact g_reta w e26_8 rfl rfl rfl (by decide) (by decide) ⟨_, rfl, E0, z_a1, S_a1⟩
theorem e27_0 : decode jdk_33_method_13_code 0 = .ok (.iconst 1, 1) := by decide +kernel
theorem e27_1 : decode jdk_33_method_13_code 1 = .ok (.istore_n 1, 1) := by decide +kernel
theorem e27_2 : decode jdk_33_method_13_code 2 = .ok (.iload_n 0, 1) := by decide +kernel
theorem e27_3 : decode jdk_33_method_13_code 3 = .ok (.ifCond .lt 8, 3) := by decide +kernel
theorem e27_6 : decode jdk_33_method_13_code 6 = .ok (.iconst 0, 1) := by decide +kernel
theorem e27_7 : decode jdk_33_method_13_code 7 = .ok (.istore_n 1, 1) := by decide +kernel
theorem e27_8 : decode jdk_33_method_13_code 8 = .ok (.iload_n 0, 1) := by decide +kernel
theorem e27_9 : decode jdk_33_method_13_code 9 = .ok (.ineg, 1) := by decide +kernel
theorem e27_10 : decode jdk_33_method_13_code 10 = .ok (.istore_n 0, 1) := by decide +kernel
theorem e27_11 : decode jdk_33_method_13_code 11 = .ok (.bipush (-10), 2) := by decide +kernel
theorem e27_13 : decode jdk_33_method_13_code 13 = .ok (.istore_n 2, 1) := by decide +kernel
theorem e27_14 : decode jdk_33_method_13_code 14 = .ok (.iconst 1, 1) := by decide +kernel
theorem e27_15 : decode jdk_33_method_13_code 15 = .ok (.istore_n 3, 1) := by decide +kernel
theorem e27_16 : decode jdk_33_method_13_code 16 = .ok (.iload_n 3, 1) := by decide +kernel
theorem e27_17 : decode jdk_33_method_13_code 17 = .ok (.bipush 10, 2) := by decide +kernel
theorem e27_19 : decode jdk_33_method_13_code 19 = .ok (.if_icmp .ge 23, 3) := by decide +kernel
theorem e27_22 : decode jdk_33_method_13_code 22 = .ok (.iload_n 0, 1) := by decide +kernel
theorem e27_23 : decode jdk_33_method_13_code 23 = .ok (.iload_n 2, 1) := by decide +kernel
theorem e27_24 : decode jdk_33_method_13_code 24 = .ok (.if_icmp .le 7, 3) := by decide +kernel
theorem e27_27 : decode jdk_33_method_13_code 27 = .ok (.iload_n 3, 1) := by decide +kernel
theorem e27_28 : decode jdk_33_method_13_code 28 = .ok (.iload_n 1, 1) := by decide +kernel
theorem e27_29 : decode jdk_33_method_13_code 29 = .ok (.iadd, 1) := by decide +kernel
theorem e27_30 : decode jdk_33_method_13_code 30 = .ok (.ireturn, 1) := by decide +kernel
theorem e27_31 : decode jdk_33_method_13_code 31 = .ok (.bipush 10, 2) := by decide +kernel
theorem e27_33 : decode jdk_33_method_13_code 33 = .ok (.iload_n 2, 1) := by decide +kernel
theorem e27_34 : decode jdk_33_method_13_code 34 = .ok (.imul, 1) := by decide +kernel
theorem e27_35 : decode jdk_33_method_13_code 35 = .ok (.istore_n 2, 1) := by decide +kernel
theorem e27_36 : decode jdk_33_method_13_code 36 = .ok (.iinc 3 1, 3) := by decide +kernel
theorem e27_39 : decode jdk_33_method_13_code 39 = .ok (.goto (-23), 3) := by decide +kernel
theorem e27_42 : decode jdk_33_method_13_code 42 = .ok (.bipush 10, 2) := by decide +kernel
theorem e27_44 : decode jdk_33_method_13_code 44 = .ok (.iload_n 1, 1) := by decide +kernel
theorem e27_45 : decode jdk_33_method_13_code 45 = .ok (.iadd, 1) := by decide +kernel
theorem e27_46 : decode jdk_33_method_13_code 46 = .ok (.ireturn, 1) := by decide +kernel
theorem pn6 : plainName "java/lang/Integer" = true := by first | (simp [plainName, overriddenIn]; done) | decide +kernel
set_option maxRecDepth 65536 in
set_option maxHeartbeats 40000000 in
theorem con_ss (l : Launch) (Z : State) (a0 : Array Value) (hw : ∀ d ∈ tables_1, d.before a0 Z = true) (i_ : Int32) (h0 : Heap) (O0 : Ext Z.heap h0) :
    Con l Z consts_1 false (⟨"java/lang/Integer", "stringSize", "(I)I"⟩ : MethodName) jdk_33_method_13_code 4 (some .int) [] ({ frames := 0, cells := 0, slots := 0, locals := 0 } : Room) #[(.int i_)] [] h0 (fun v h => v = some (.int (Int32.ofNat (dec i_).length)) ∧ h = h0) := by
  refine Con.intro (Ls := #[.val (.int i_), .unset, .unset, .unset]) (plainFor_of_name pn6) (own_EL hw) O0 (fun m => by first | (simp [entryFrame, mkF, argsToLocals, Value.category]; done) | rfl) (fun p e s m below meth cc_ T w sf_ => ?_)
  have E0 := ext_refl h0
  refine g_iconst w e27_0 (q := 1) rfl (v := (1 : Int32)) (by decide) ?_
  refine g_istoreN w e27_1 (q := 2) rfl (Ls' := #[.val (.int i_), .val (.int (1 : Int32)), .unset, .unset]) rfl ?_
  refine g_iloadN w e27_2 (q := 3) rfl rfl ?_
  rcases (Decidable.em (i_ < 0)) with hs_ | hs_
  · refine g_ifY w e27_3 (by decide) (q := 11) (by decide) (Jvm.Free.XT.i0_lt_t hs_) ?_
    refine g_bipush w e27_11 (q := 13) rfl (v := (-10 : Int32)) (by decide) ?_
    refine g_istoreN w e27_13 (q := 14) rfl (Ls' := #[.val (.int i_), .val (.int (1 : Int32)), .val (.int (-10 : Int32)), .unset]) rfl ?_
    refine g_iconst w e27_14 (q := 15) rfl (v := (1 : Int32)) (by decide) ?_
    refine g_istoreN w e27_15 (q := 16) rfl (Ls' := #[.val (.int i_), .val (.int (1 : Int32)), .val (.int (-10 : Int32)), .val (.int (1 : Int32))]) rfl ?_
    refine g_iloadN w e27_16 (q := 17) rfl rfl ?_
    refine g_bipush w e27_17 (q := 19) rfl (v := (10 : Int32)) (by decide) ?_
    refine g_icN w e27_19 (q := 22) rfl (by decide) ?_
    refine g_iloadN w e27_22 (q := 23) rfl rfl ?_
    refine g_iloadN w e27_23 (q := 24) rfl rfl ?_
    refine g_ic_le w e27_24 (by decide) (q := 31) (by decide) (q' := 27) rfl (fun cd2 => ?_) (fun cd2 => ?_)
    · refine g_bipush w e27_31 (q := 33) rfl (v := (10 : Int32)) (by decide) ?_
      refine g_iloadN w e27_33 (q := 34) rfl rfl ?_
      refine g_imul w e27_34 (q := 35) rfl ?_
      rw [show (10 : Int32) * (-10 : Int32) = (-100 : Int32) from by decide]
      show Go p e below _ (State.setTop T (mkF m 35 #[.val (.int i_), .val (.int (1 : Int32)), .val (.int (-10 : Int32)), .val (.int (1 : Int32))] [(.int (-100 : Int32))]))
      refine g_istoreN w e27_35 (q := 36) rfl (Ls' := #[.val (.int i_), .val (.int (1 : Int32)), .val (.int (-100 : Int32)), .val (.int (1 : Int32))]) rfl ?_
      refine g_iinc w e27_36 (q := 39) rfl (v := (1 : Int32)) (by decide) rfl rfl ?_
      rw [show (1 : Int32) + (1 : Int32) = (2 : Int32) from by decide]
      show Go p e below _ (State.setTop T (mkF m 39 #[.val (.int i_), .val (.int (1 : Int32)), .val (.int (-100 : Int32)), .val (.int (2 : Int32))] []))
      refine g_goto w e27_39 (by decide) (q := 16) (by decide) ?_
      refine g_iloadN w e27_16 (q := 17) rfl rfl ?_
      refine g_bipush w e27_17 (q := 19) rfl (v := (10 : Int32)) (by decide) ?_
      refine g_icN w e27_19 (q := 22) rfl (by decide) ?_
      refine g_iloadN w e27_22 (q := 23) rfl rfl ?_
      refine g_iloadN w e27_23 (q := 24) rfl rfl ?_
      refine g_ic_le w e27_24 (by decide) (q := 31) (by decide) (q' := 27) rfl (fun cd4 => ?_) (fun cd4 => ?_)
      · refine g_bipush w e27_31 (q := 33) rfl (v := (10 : Int32)) (by decide) ?_
        refine g_iloadN w e27_33 (q := 34) rfl rfl ?_
        refine g_imul w e27_34 (q := 35) rfl ?_
        rw [show (10 : Int32) * (-100 : Int32) = (-1000 : Int32) from by decide]
        show Go p e below _ (State.setTop T (mkF m 35 #[.val (.int i_), .val (.int (1 : Int32)), .val (.int (-100 : Int32)), .val (.int (2 : Int32))] [(.int (-1000 : Int32))]))
        refine g_istoreN w e27_35 (q := 36) rfl (Ls' := #[.val (.int i_), .val (.int (1 : Int32)), .val (.int (-1000 : Int32)), .val (.int (2 : Int32))]) rfl ?_
        refine g_iinc w e27_36 (q := 39) rfl (v := (1 : Int32)) (by decide) rfl rfl ?_
        rw [show (2 : Int32) + (1 : Int32) = (3 : Int32) from by decide]
        show Go p e below _ (State.setTop T (mkF m 39 #[.val (.int i_), .val (.int (1 : Int32)), .val (.int (-1000 : Int32)), .val (.int (3 : Int32))] []))
        refine g_goto w e27_39 (by decide) (q := 16) (by decide) ?_
        refine g_iloadN w e27_16 (q := 17) rfl rfl ?_
        refine g_bipush w e27_17 (q := 19) rfl (v := (10 : Int32)) (by decide) ?_
        refine g_icN w e27_19 (q := 22) rfl (by decide) ?_
        refine g_iloadN w e27_22 (q := 23) rfl rfl ?_
        refine g_iloadN w e27_23 (q := 24) rfl rfl ?_
        refine g_ic_le w e27_24 (by decide) (q := 31) (by decide) (q' := 27) rfl (fun cd6 => ?_) (fun cd6 => ?_)
        · refine g_bipush w e27_31 (q := 33) rfl (v := (10 : Int32)) (by decide) ?_
          refine g_iloadN w e27_33 (q := 34) rfl rfl ?_
          refine g_imul w e27_34 (q := 35) rfl ?_
          rw [show (10 : Int32) * (-1000 : Int32) = (-10000 : Int32) from by decide]
          show Go p e below _ (State.setTop T (mkF m 35 #[.val (.int i_), .val (.int (1 : Int32)), .val (.int (-1000 : Int32)), .val (.int (3 : Int32))] [(.int (-10000 : Int32))]))
          refine g_istoreN w e27_35 (q := 36) rfl (Ls' := #[.val (.int i_), .val (.int (1 : Int32)), .val (.int (-10000 : Int32)), .val (.int (3 : Int32))]) rfl ?_
          refine g_iinc w e27_36 (q := 39) rfl (v := (1 : Int32)) (by decide) rfl rfl ?_
          rw [show (3 : Int32) + (1 : Int32) = (4 : Int32) from by decide]
          show Go p e below _ (State.setTop T (mkF m 39 #[.val (.int i_), .val (.int (1 : Int32)), .val (.int (-10000 : Int32)), .val (.int (4 : Int32))] []))
          refine g_goto w e27_39 (by decide) (q := 16) (by decide) ?_
          refine g_iloadN w e27_16 (q := 17) rfl rfl ?_
          refine g_bipush w e27_17 (q := 19) rfl (v := (10 : Int32)) (by decide) ?_
          refine g_icN w e27_19 (q := 22) rfl (by decide) ?_
          refine g_iloadN w e27_22 (q := 23) rfl rfl ?_
          refine g_iloadN w e27_23 (q := 24) rfl rfl ?_
          refine g_ic_le w e27_24 (by decide) (q := 31) (by decide) (q' := 27) rfl (fun cd8 => ?_) (fun cd8 => ?_)
          · refine g_bipush w e27_31 (q := 33) rfl (v := (10 : Int32)) (by decide) ?_
            refine g_iloadN w e27_33 (q := 34) rfl rfl ?_
            refine g_imul w e27_34 (q := 35) rfl ?_
            rw [show (10 : Int32) * (-10000 : Int32) = (-100000 : Int32) from by decide]
            show Go p e below _ (State.setTop T (mkF m 35 #[.val (.int i_), .val (.int (1 : Int32)), .val (.int (-10000 : Int32)), .val (.int (4 : Int32))] [(.int (-100000 : Int32))]))
            refine g_istoreN w e27_35 (q := 36) rfl (Ls' := #[.val (.int i_), .val (.int (1 : Int32)), .val (.int (-100000 : Int32)), .val (.int (4 : Int32))]) rfl ?_
            refine g_iinc w e27_36 (q := 39) rfl (v := (1 : Int32)) (by decide) rfl rfl ?_
            rw [show (4 : Int32) + (1 : Int32) = (5 : Int32) from by decide]
            show Go p e below _ (State.setTop T (mkF m 39 #[.val (.int i_), .val (.int (1 : Int32)), .val (.int (-100000 : Int32)), .val (.int (5 : Int32))] []))
            refine g_goto w e27_39 (by decide) (q := 16) (by decide) ?_
            refine g_iloadN w e27_16 (q := 17) rfl rfl ?_
            refine g_bipush w e27_17 (q := 19) rfl (v := (10 : Int32)) (by decide) ?_
            refine g_icN w e27_19 (q := 22) rfl (by decide) ?_
            refine g_iloadN w e27_22 (q := 23) rfl rfl ?_
            refine g_iloadN w e27_23 (q := 24) rfl rfl ?_
            refine g_ic_le w e27_24 (by decide) (q := 31) (by decide) (q' := 27) rfl (fun cd10 => ?_) (fun cd10 => ?_)
            · refine g_bipush w e27_31 (q := 33) rfl (v := (10 : Int32)) (by decide) ?_
              refine g_iloadN w e27_33 (q := 34) rfl rfl ?_
              refine g_imul w e27_34 (q := 35) rfl ?_
              rw [show (10 : Int32) * (-100000 : Int32) = (-1000000 : Int32) from by decide]
              show Go p e below _ (State.setTop T (mkF m 35 #[.val (.int i_), .val (.int (1 : Int32)), .val (.int (-100000 : Int32)), .val (.int (5 : Int32))] [(.int (-1000000 : Int32))]))
              refine g_istoreN w e27_35 (q := 36) rfl (Ls' := #[.val (.int i_), .val (.int (1 : Int32)), .val (.int (-1000000 : Int32)), .val (.int (5 : Int32))]) rfl ?_
              refine g_iinc w e27_36 (q := 39) rfl (v := (1 : Int32)) (by decide) rfl rfl ?_
              rw [show (5 : Int32) + (1 : Int32) = (6 : Int32) from by decide]
              show Go p e below _ (State.setTop T (mkF m 39 #[.val (.int i_), .val (.int (1 : Int32)), .val (.int (-1000000 : Int32)), .val (.int (6 : Int32))] []))
              refine g_goto w e27_39 (by decide) (q := 16) (by decide) ?_
              refine g_iloadN w e27_16 (q := 17) rfl rfl ?_
              refine g_bipush w e27_17 (q := 19) rfl (v := (10 : Int32)) (by decide) ?_
              refine g_icN w e27_19 (q := 22) rfl (by decide) ?_
              refine g_iloadN w e27_22 (q := 23) rfl rfl ?_
              refine g_iloadN w e27_23 (q := 24) rfl rfl ?_
              refine g_ic_le w e27_24 (by decide) (q := 31) (by decide) (q' := 27) rfl (fun cd12 => ?_) (fun cd12 => ?_)
              · refine g_bipush w e27_31 (q := 33) rfl (v := (10 : Int32)) (by decide) ?_
                refine g_iloadN w e27_33 (q := 34) rfl rfl ?_
                refine g_imul w e27_34 (q := 35) rfl ?_
                rw [show (10 : Int32) * (-1000000 : Int32) = (-10000000 : Int32) from by decide]
                show Go p e below _ (State.setTop T (mkF m 35 #[.val (.int i_), .val (.int (1 : Int32)), .val (.int (-1000000 : Int32)), .val (.int (6 : Int32))] [(.int (-10000000 : Int32))]))
                refine g_istoreN w e27_35 (q := 36) rfl (Ls' := #[.val (.int i_), .val (.int (1 : Int32)), .val (.int (-10000000 : Int32)), .val (.int (6 : Int32))]) rfl ?_
                refine g_iinc w e27_36 (q := 39) rfl (v := (1 : Int32)) (by decide) rfl rfl ?_
                rw [show (6 : Int32) + (1 : Int32) = (7 : Int32) from by decide]
                show Go p e below _ (State.setTop T (mkF m 39 #[.val (.int i_), .val (.int (1 : Int32)), .val (.int (-10000000 : Int32)), .val (.int (7 : Int32))] []))
                refine g_goto w e27_39 (by decide) (q := 16) (by decide) ?_
                refine g_iloadN w e27_16 (q := 17) rfl rfl ?_
                refine g_bipush w e27_17 (q := 19) rfl (v := (10 : Int32)) (by decide) ?_
                refine g_icN w e27_19 (q := 22) rfl (by decide) ?_
                refine g_iloadN w e27_22 (q := 23) rfl rfl ?_
                refine g_iloadN w e27_23 (q := 24) rfl rfl ?_
                refine g_ic_le w e27_24 (by decide) (q := 31) (by decide) (q' := 27) rfl (fun cd14 => ?_) (fun cd14 => ?_)
                · refine g_bipush w e27_31 (q := 33) rfl (v := (10 : Int32)) (by decide) ?_
                  refine g_iloadN w e27_33 (q := 34) rfl rfl ?_
                  refine g_imul w e27_34 (q := 35) rfl ?_
                  rw [show (10 : Int32) * (-10000000 : Int32) = (-100000000 : Int32) from by decide]
                  show Go p e below _ (State.setTop T (mkF m 35 #[.val (.int i_), .val (.int (1 : Int32)), .val (.int (-10000000 : Int32)), .val (.int (7 : Int32))] [(.int (-100000000 : Int32))]))
                  refine g_istoreN w e27_35 (q := 36) rfl (Ls' := #[.val (.int i_), .val (.int (1 : Int32)), .val (.int (-100000000 : Int32)), .val (.int (7 : Int32))]) rfl ?_
                  refine g_iinc w e27_36 (q := 39) rfl (v := (1 : Int32)) (by decide) rfl rfl ?_
                  rw [show (7 : Int32) + (1 : Int32) = (8 : Int32) from by decide]
                  show Go p e below _ (State.setTop T (mkF m 39 #[.val (.int i_), .val (.int (1 : Int32)), .val (.int (-100000000 : Int32)), .val (.int (8 : Int32))] []))
                  refine g_goto w e27_39 (by decide) (q := 16) (by decide) ?_
                  refine g_iloadN w e27_16 (q := 17) rfl rfl ?_
                  refine g_bipush w e27_17 (q := 19) rfl (v := (10 : Int32)) (by decide) ?_
                  refine g_icN w e27_19 (q := 22) rfl (by decide) ?_
                  refine g_iloadN w e27_22 (q := 23) rfl rfl ?_
                  refine g_iloadN w e27_23 (q := 24) rfl rfl ?_
                  refine g_ic_le w e27_24 (by decide) (q := 31) (by decide) (q' := 27) rfl (fun cd16 => ?_) (fun cd16 => ?_)
                  · refine g_bipush w e27_31 (q := 33) rfl (v := (10 : Int32)) (by decide) ?_
                    refine g_iloadN w e27_33 (q := 34) rfl rfl ?_
                    refine g_imul w e27_34 (q := 35) rfl ?_
                    rw [show (10 : Int32) * (-100000000 : Int32) = (-1000000000 : Int32) from by decide]
                    show Go p e below _ (State.setTop T (mkF m 35 #[.val (.int i_), .val (.int (1 : Int32)), .val (.int (-100000000 : Int32)), .val (.int (8 : Int32))] [(.int (-1000000000 : Int32))]))
                    refine g_istoreN w e27_35 (q := 36) rfl (Ls' := #[.val (.int i_), .val (.int (1 : Int32)), .val (.int (-1000000000 : Int32)), .val (.int (8 : Int32))]) rfl ?_
                    refine g_iinc w e27_36 (q := 39) rfl (v := (1 : Int32)) (by decide) rfl rfl ?_
                    rw [show (8 : Int32) + (1 : Int32) = (9 : Int32) from by decide]
                    show Go p e below _ (State.setTop T (mkF m 39 #[.val (.int i_), .val (.int (1 : Int32)), .val (.int (-1000000000 : Int32)), .val (.int (9 : Int32))] []))
                    refine g_goto w e27_39 (by decide) (q := 16) (by decide) ?_
                    refine g_iloadN w e27_16 (q := 17) rfl rfl ?_
                    refine g_bipush w e27_17 (q := 19) rfl (v := (10 : Int32)) (by decide) ?_
                    refine g_icN w e27_19 (q := 22) rfl (by decide) ?_
                    refine g_iloadN w e27_22 (q := 23) rfl rfl ?_
                    refine g_iloadN w e27_23 (q := 24) rfl rfl ?_
                    refine g_ic_le w e27_24 (by decide) (q := 31) (by decide) (q' := 27) rfl (fun cd18 => ?_) (fun cd18 => ?_)
                    · refine g_bipush w e27_31 (q := 33) rfl (v := (10 : Int32)) (by decide) ?_
                      refine g_iloadN w e27_33 (q := 34) rfl rfl ?_
                      refine g_imul w e27_34 (q := 35) rfl ?_
                      rw [show (10 : Int32) * (-1000000000 : Int32) = (-1410065408 : Int32) from by decide]
                      show Go p e below _ (State.setTop T (mkF m 35 #[.val (.int i_), .val (.int (1 : Int32)), .val (.int (-1000000000 : Int32)), .val (.int (9 : Int32))] [(.int (-1410065408 : Int32))]))
                      refine g_istoreN w e27_35 (q := 36) rfl (Ls' := #[.val (.int i_), .val (.int (1 : Int32)), .val (.int (-1410065408 : Int32)), .val (.int (9 : Int32))]) rfl ?_
                      refine g_iinc w e27_36 (q := 39) rfl (v := (1 : Int32)) (by decide) rfl rfl ?_
                      rw [show (9 : Int32) + (1 : Int32) = (10 : Int32) from by decide]
                      show Go p e below _ (State.setTop T (mkF m 39 #[.val (.int i_), .val (.int (1 : Int32)), .val (.int (-1410065408 : Int32)), .val (.int (10 : Int32))] []))
                      refine g_goto w e27_39 (by decide) (q := 16) (by decide) ?_
                      refine g_iloadN w e27_16 (q := 17) rfl rfl ?_
                      refine g_bipush w e27_17 (q := 19) rfl (v := (10 : Int32)) (by decide) ?_
                      refine g_icY w e27_19 (by decide) (q := 42) (by decide) (Jvm.Free.XT.ii_ge_t Int32.lt_irrefl) ?_
                      refine g_bipush w e27_42 (q := 44) rfl (v := (10 : Int32)) (by decide) ?_
                      refine g_iloadN w e27_44 (q := 45) rfl rfl ?_
                      refine g_iadd w e27_45 (q := 46) rfl ?_
                      exact g_reti w e27_46 rfl (by decide) (by decide) ⟨congrArg (fun z => some (Value.int z)) (by have n1 := mt (ss_n hs_ (K := 10) (by decide)).mpr cd2; have n2 := mt (ss_n hs_ (K := 100) (by decide)).mpr cd4; have n3 := mt (ss_n hs_ (K := 1000) (by decide)).mpr cd6; have n4 := mt (ss_n hs_ (K := 10000) (by decide)).mpr cd8; have n5 := mt (ss_n hs_ (K := 100000) (by decide)).mpr cd10; have n6 := mt (ss_n hs_ (K := 1000000) (by decide)).mpr cd12; have n7 := mt (ss_n hs_ (K := 10000000) (by decide)).mpr cd14; have n8 := mt (ss_n hs_ (K := 100000000) (by decide)).mpr cd16; have n9 := mt (ss_n hs_ (K := 1000000000) (by decide)).mpr cd18; have hd : dl (mag i_) = 10 := (by unfold dl; (repeat' split) <;> omega); rw [dec_len, if_pos hs_, hd]; decide), rfl⟩
                    · refine g_iloadN w e27_27 (q := 28) rfl rfl ?_
                      refine g_iloadN w e27_28 (q := 29) rfl rfl ?_
                      refine g_iadd w e27_29 (q := 30) rfl ?_
                      exact g_reti w e27_30 rfl (by decide) (by decide) ⟨congrArg (fun z => some (Value.int z)) (by have n1 := mt (ss_n hs_ (K := 10) (by decide)).mpr cd2; have n2 := mt (ss_n hs_ (K := 100) (by decide)).mpr cd4; have n3 := mt (ss_n hs_ (K := 1000) (by decide)).mpr cd6; have n4 := mt (ss_n hs_ (K := 10000) (by decide)).mpr cd8; have n5 := mt (ss_n hs_ (K := 100000) (by decide)).mpr cd10; have n6 := mt (ss_n hs_ (K := 1000000) (by decide)).mpr cd12; have n7 := mt (ss_n hs_ (K := 10000000) (by decide)).mpr cd14; have n8 := mt (ss_n hs_ (K := 100000000) (by decide)).mpr cd16; have n9 := (ss_n hs_ (K := 1000000000) (by decide)).mp cd18; have hd : dl (mag i_) = 9 := (by unfold dl; (repeat' split) <;> omega); rw [dec_len, if_pos hs_, hd]; decide), rfl⟩
                  · refine g_iloadN w e27_27 (q := 28) rfl rfl ?_
                    refine g_iloadN w e27_28 (q := 29) rfl rfl ?_
                    refine g_iadd w e27_29 (q := 30) rfl ?_
                    exact g_reti w e27_30 rfl (by decide) (by decide) ⟨congrArg (fun z => some (Value.int z)) (by have n1 := mt (ss_n hs_ (K := 10) (by decide)).mpr cd2; have n2 := mt (ss_n hs_ (K := 100) (by decide)).mpr cd4; have n3 := mt (ss_n hs_ (K := 1000) (by decide)).mpr cd6; have n4 := mt (ss_n hs_ (K := 10000) (by decide)).mpr cd8; have n5 := mt (ss_n hs_ (K := 100000) (by decide)).mpr cd10; have n6 := mt (ss_n hs_ (K := 1000000) (by decide)).mpr cd12; have n7 := mt (ss_n hs_ (K := 10000000) (by decide)).mpr cd14; have n8 := (ss_n hs_ (K := 100000000) (by decide)).mp cd16; have hd : dl (mag i_) = 8 := (by unfold dl; (repeat' split) <;> omega); rw [dec_len, if_pos hs_, hd]; decide), rfl⟩
                · refine g_iloadN w e27_27 (q := 28) rfl rfl ?_
                  refine g_iloadN w e27_28 (q := 29) rfl rfl ?_
                  refine g_iadd w e27_29 (q := 30) rfl ?_
                  exact g_reti w e27_30 rfl (by decide) (by decide) ⟨congrArg (fun z => some (Value.int z)) (by have n1 := mt (ss_n hs_ (K := 10) (by decide)).mpr cd2; have n2 := mt (ss_n hs_ (K := 100) (by decide)).mpr cd4; have n3 := mt (ss_n hs_ (K := 1000) (by decide)).mpr cd6; have n4 := mt (ss_n hs_ (K := 10000) (by decide)).mpr cd8; have n5 := mt (ss_n hs_ (K := 100000) (by decide)).mpr cd10; have n6 := mt (ss_n hs_ (K := 1000000) (by decide)).mpr cd12; have n7 := (ss_n hs_ (K := 10000000) (by decide)).mp cd14; have hd : dl (mag i_) = 7 := (by unfold dl; (repeat' split) <;> omega); rw [dec_len, if_pos hs_, hd]; decide), rfl⟩
              · refine g_iloadN w e27_27 (q := 28) rfl rfl ?_
                refine g_iloadN w e27_28 (q := 29) rfl rfl ?_
                refine g_iadd w e27_29 (q := 30) rfl ?_
                exact g_reti w e27_30 rfl (by decide) (by decide) ⟨congrArg (fun z => some (Value.int z)) (by have n1 := mt (ss_n hs_ (K := 10) (by decide)).mpr cd2; have n2 := mt (ss_n hs_ (K := 100) (by decide)).mpr cd4; have n3 := mt (ss_n hs_ (K := 1000) (by decide)).mpr cd6; have n4 := mt (ss_n hs_ (K := 10000) (by decide)).mpr cd8; have n5 := mt (ss_n hs_ (K := 100000) (by decide)).mpr cd10; have n6 := (ss_n hs_ (K := 1000000) (by decide)).mp cd12; have hd : dl (mag i_) = 6 := (by unfold dl; (repeat' split) <;> omega); rw [dec_len, if_pos hs_, hd]; decide), rfl⟩
            · refine g_iloadN w e27_27 (q := 28) rfl rfl ?_
              refine g_iloadN w e27_28 (q := 29) rfl rfl ?_
              refine g_iadd w e27_29 (q := 30) rfl ?_
              exact g_reti w e27_30 rfl (by decide) (by decide) ⟨congrArg (fun z => some (Value.int z)) (by have n1 := mt (ss_n hs_ (K := 10) (by decide)).mpr cd2; have n2 := mt (ss_n hs_ (K := 100) (by decide)).mpr cd4; have n3 := mt (ss_n hs_ (K := 1000) (by decide)).mpr cd6; have n4 := mt (ss_n hs_ (K := 10000) (by decide)).mpr cd8; have n5 := (ss_n hs_ (K := 100000) (by decide)).mp cd10; have hd : dl (mag i_) = 5 := (by unfold dl; (repeat' split) <;> omega); rw [dec_len, if_pos hs_, hd]; decide), rfl⟩
          · refine g_iloadN w e27_27 (q := 28) rfl rfl ?_
            refine g_iloadN w e27_28 (q := 29) rfl rfl ?_
            refine g_iadd w e27_29 (q := 30) rfl ?_
            exact g_reti w e27_30 rfl (by decide) (by decide) ⟨congrArg (fun z => some (Value.int z)) (by have n1 := mt (ss_n hs_ (K := 10) (by decide)).mpr cd2; have n2 := mt (ss_n hs_ (K := 100) (by decide)).mpr cd4; have n3 := mt (ss_n hs_ (K := 1000) (by decide)).mpr cd6; have n4 := (ss_n hs_ (K := 10000) (by decide)).mp cd8; have hd : dl (mag i_) = 4 := (by unfold dl; (repeat' split) <;> omega); rw [dec_len, if_pos hs_, hd]; decide), rfl⟩
        · refine g_iloadN w e27_27 (q := 28) rfl rfl ?_
          refine g_iloadN w e27_28 (q := 29) rfl rfl ?_
          refine g_iadd w e27_29 (q := 30) rfl ?_
          exact g_reti w e27_30 rfl (by decide) (by decide) ⟨congrArg (fun z => some (Value.int z)) (by have n1 := mt (ss_n hs_ (K := 10) (by decide)).mpr cd2; have n2 := mt (ss_n hs_ (K := 100) (by decide)).mpr cd4; have n3 := (ss_n hs_ (K := 1000) (by decide)).mp cd6; have hd : dl (mag i_) = 3 := (by unfold dl; (repeat' split) <;> omega); rw [dec_len, if_pos hs_, hd]; decide), rfl⟩
      · refine g_iloadN w e27_27 (q := 28) rfl rfl ?_
        refine g_iloadN w e27_28 (q := 29) rfl rfl ?_
        refine g_iadd w e27_29 (q := 30) rfl ?_
        exact g_reti w e27_30 rfl (by decide) (by decide) ⟨congrArg (fun z => some (Value.int z)) (by have n1 := mt (ss_n hs_ (K := 10) (by decide)).mpr cd2; have n2 := (ss_n hs_ (K := 100) (by decide)).mp cd4; have hd : dl (mag i_) = 2 := (by unfold dl; (repeat' split) <;> omega); rw [dec_len, if_pos hs_, hd]; decide), rfl⟩
    · refine g_iloadN w e27_27 (q := 28) rfl rfl ?_
      refine g_iloadN w e27_28 (q := 29) rfl rfl ?_
      refine g_iadd w e27_29 (q := 30) rfl ?_
      exact g_reti w e27_30 rfl (by decide) (by decide) ⟨congrArg (fun z => some (Value.int z)) (by have n1 := (ss_n hs_ (K := 10) (by decide)).mp cd2; have hd : dl (mag i_) = 1 := (by unfold dl; (repeat' split) <;> omega); rw [dec_len, if_pos hs_, hd]; decide), rfl⟩
  · refine g_ifN w e27_3 (q := 6) rfl (Jvm.Free.XT.i0_lt_f hs_) ?_
    refine g_iconst w e27_6 (q := 7) rfl (v := (0 : Int32)) (by decide) ?_
    refine g_istoreN w e27_7 (q := 8) rfl (Ls' := #[.val (.int i_), .val (.int (0 : Int32)), .unset, .unset]) rfl ?_
    refine g_iloadN w e27_8 (q := 9) rfl rfl ?_
    refine g_ineg w e27_9 (q := 10) rfl ?_
    refine g_istoreN w e27_10 (q := 11) rfl (Ls' := #[.val (.int (-i_)), .val (.int (0 : Int32)), .unset, .unset]) rfl ?_
    refine g_bipush w e27_11 (q := 13) rfl (v := (-10 : Int32)) (by decide) ?_
    refine g_istoreN w e27_13 (q := 14) rfl (Ls' := #[.val (.int (-i_)), .val (.int (0 : Int32)), .val (.int (-10 : Int32)), .unset]) rfl ?_
    refine g_iconst w e27_14 (q := 15) rfl (v := (1 : Int32)) (by decide) ?_
    refine g_istoreN w e27_15 (q := 16) rfl (Ls' := #[.val (.int (-i_)), .val (.int (0 : Int32)), .val (.int (-10 : Int32)), .val (.int (1 : Int32))]) rfl ?_
    refine g_iloadN w e27_16 (q := 17) rfl rfl ?_
    refine g_bipush w e27_17 (q := 19) rfl (v := (10 : Int32)) (by decide) ?_
    refine g_icN w e27_19 (q := 22) rfl (by decide) ?_
    refine g_iloadN w e27_22 (q := 23) rfl rfl ?_
    refine g_iloadN w e27_23 (q := 24) rfl rfl ?_
    refine g_ic_le w e27_24 (by decide) (q := 31) (by decide) (q' := 27) rfl (fun cd21 => ?_) (fun cd21 => ?_)
    · refine g_bipush w e27_31 (q := 33) rfl (v := (10 : Int32)) (by decide) ?_
      refine g_iloadN w e27_33 (q := 34) rfl rfl ?_
      refine g_imul w e27_34 (q := 35) rfl ?_
      rw [show (10 : Int32) * (-10 : Int32) = (-100 : Int32) from by decide]
      show Go p e below _ (State.setTop T (mkF m 35 #[.val (.int (-i_)), .val (.int (0 : Int32)), .val (.int (-10 : Int32)), .val (.int (1 : Int32))] [(.int (-100 : Int32))]))
      refine g_istoreN w e27_35 (q := 36) rfl (Ls' := #[.val (.int (-i_)), .val (.int (0 : Int32)), .val (.int (-100 : Int32)), .val (.int (1 : Int32))]) rfl ?_
      refine g_iinc w e27_36 (q := 39) rfl (v := (1 : Int32)) (by decide) rfl rfl ?_
      rw [show (1 : Int32) + (1 : Int32) = (2 : Int32) from by decide]
      show Go p e below _ (State.setTop T (mkF m 39 #[.val (.int (-i_)), .val (.int (0 : Int32)), .val (.int (-100 : Int32)), .val (.int (2 : Int32))] []))
      refine g_goto w e27_39 (by decide) (q := 16) (by decide) ?_
      refine g_iloadN w e27_16 (q := 17) rfl rfl ?_
      refine g_bipush w e27_17 (q := 19) rfl (v := (10 : Int32)) (by decide) ?_
      refine g_icN w e27_19 (q := 22) rfl (by decide) ?_
      refine g_iloadN w e27_22 (q := 23) rfl rfl ?_
      refine g_iloadN w e27_23 (q := 24) rfl rfl ?_
      refine g_ic_le w e27_24 (by decide) (q := 31) (by decide) (q' := 27) rfl (fun cd23 => ?_) (fun cd23 => ?_)
      · refine g_bipush w e27_31 (q := 33) rfl (v := (10 : Int32)) (by decide) ?_
        refine g_iloadN w e27_33 (q := 34) rfl rfl ?_
        refine g_imul w e27_34 (q := 35) rfl ?_
        rw [show (10 : Int32) * (-100 : Int32) = (-1000 : Int32) from by decide]
        show Go p e below _ (State.setTop T (mkF m 35 #[.val (.int (-i_)), .val (.int (0 : Int32)), .val (.int (-100 : Int32)), .val (.int (2 : Int32))] [(.int (-1000 : Int32))]))
        refine g_istoreN w e27_35 (q := 36) rfl (Ls' := #[.val (.int (-i_)), .val (.int (0 : Int32)), .val (.int (-1000 : Int32)), .val (.int (2 : Int32))]) rfl ?_
        refine g_iinc w e27_36 (q := 39) rfl (v := (1 : Int32)) (by decide) rfl rfl ?_
        rw [show (2 : Int32) + (1 : Int32) = (3 : Int32) from by decide]
        show Go p e below _ (State.setTop T (mkF m 39 #[.val (.int (-i_)), .val (.int (0 : Int32)), .val (.int (-1000 : Int32)), .val (.int (3 : Int32))] []))
        refine g_goto w e27_39 (by decide) (q := 16) (by decide) ?_
        refine g_iloadN w e27_16 (q := 17) rfl rfl ?_
        refine g_bipush w e27_17 (q := 19) rfl (v := (10 : Int32)) (by decide) ?_
        refine g_icN w e27_19 (q := 22) rfl (by decide) ?_
        refine g_iloadN w e27_22 (q := 23) rfl rfl ?_
        refine g_iloadN w e27_23 (q := 24) rfl rfl ?_
        refine g_ic_le w e27_24 (by decide) (q := 31) (by decide) (q' := 27) rfl (fun cd25 => ?_) (fun cd25 => ?_)
        · refine g_bipush w e27_31 (q := 33) rfl (v := (10 : Int32)) (by decide) ?_
          refine g_iloadN w e27_33 (q := 34) rfl rfl ?_
          refine g_imul w e27_34 (q := 35) rfl ?_
          rw [show (10 : Int32) * (-1000 : Int32) = (-10000 : Int32) from by decide]
          show Go p e below _ (State.setTop T (mkF m 35 #[.val (.int (-i_)), .val (.int (0 : Int32)), .val (.int (-1000 : Int32)), .val (.int (3 : Int32))] [(.int (-10000 : Int32))]))
          refine g_istoreN w e27_35 (q := 36) rfl (Ls' := #[.val (.int (-i_)), .val (.int (0 : Int32)), .val (.int (-10000 : Int32)), .val (.int (3 : Int32))]) rfl ?_
          refine g_iinc w e27_36 (q := 39) rfl (v := (1 : Int32)) (by decide) rfl rfl ?_
          rw [show (3 : Int32) + (1 : Int32) = (4 : Int32) from by decide]
          show Go p e below _ (State.setTop T (mkF m 39 #[.val (.int (-i_)), .val (.int (0 : Int32)), .val (.int (-10000 : Int32)), .val (.int (4 : Int32))] []))
          refine g_goto w e27_39 (by decide) (q := 16) (by decide) ?_
          refine g_iloadN w e27_16 (q := 17) rfl rfl ?_
          refine g_bipush w e27_17 (q := 19) rfl (v := (10 : Int32)) (by decide) ?_
          refine g_icN w e27_19 (q := 22) rfl (by decide) ?_
          refine g_iloadN w e27_22 (q := 23) rfl rfl ?_
          refine g_iloadN w e27_23 (q := 24) rfl rfl ?_
          refine g_ic_le w e27_24 (by decide) (q := 31) (by decide) (q' := 27) rfl (fun cd27 => ?_) (fun cd27 => ?_)
          · refine g_bipush w e27_31 (q := 33) rfl (v := (10 : Int32)) (by decide) ?_
            refine g_iloadN w e27_33 (q := 34) rfl rfl ?_
            refine g_imul w e27_34 (q := 35) rfl ?_
            rw [show (10 : Int32) * (-10000 : Int32) = (-100000 : Int32) from by decide]
            show Go p e below _ (State.setTop T (mkF m 35 #[.val (.int (-i_)), .val (.int (0 : Int32)), .val (.int (-10000 : Int32)), .val (.int (4 : Int32))] [(.int (-100000 : Int32))]))
            refine g_istoreN w e27_35 (q := 36) rfl (Ls' := #[.val (.int (-i_)), .val (.int (0 : Int32)), .val (.int (-100000 : Int32)), .val (.int (4 : Int32))]) rfl ?_
            refine g_iinc w e27_36 (q := 39) rfl (v := (1 : Int32)) (by decide) rfl rfl ?_
            rw [show (4 : Int32) + (1 : Int32) = (5 : Int32) from by decide]
            show Go p e below _ (State.setTop T (mkF m 39 #[.val (.int (-i_)), .val (.int (0 : Int32)), .val (.int (-100000 : Int32)), .val (.int (5 : Int32))] []))
            refine g_goto w e27_39 (by decide) (q := 16) (by decide) ?_
            refine g_iloadN w e27_16 (q := 17) rfl rfl ?_
            refine g_bipush w e27_17 (q := 19) rfl (v := (10 : Int32)) (by decide) ?_
            refine g_icN w e27_19 (q := 22) rfl (by decide) ?_
            refine g_iloadN w e27_22 (q := 23) rfl rfl ?_
            refine g_iloadN w e27_23 (q := 24) rfl rfl ?_
            refine g_ic_le w e27_24 (by decide) (q := 31) (by decide) (q' := 27) rfl (fun cd29 => ?_) (fun cd29 => ?_)
            · refine g_bipush w e27_31 (q := 33) rfl (v := (10 : Int32)) (by decide) ?_
              refine g_iloadN w e27_33 (q := 34) rfl rfl ?_
              refine g_imul w e27_34 (q := 35) rfl ?_
              rw [show (10 : Int32) * (-100000 : Int32) = (-1000000 : Int32) from by decide]
              show Go p e below _ (State.setTop T (mkF m 35 #[.val (.int (-i_)), .val (.int (0 : Int32)), .val (.int (-100000 : Int32)), .val (.int (5 : Int32))] [(.int (-1000000 : Int32))]))
              refine g_istoreN w e27_35 (q := 36) rfl (Ls' := #[.val (.int (-i_)), .val (.int (0 : Int32)), .val (.int (-1000000 : Int32)), .val (.int (5 : Int32))]) rfl ?_
              refine g_iinc w e27_36 (q := 39) rfl (v := (1 : Int32)) (by decide) rfl rfl ?_
              rw [show (5 : Int32) + (1 : Int32) = (6 : Int32) from by decide]
              show Go p e below _ (State.setTop T (mkF m 39 #[.val (.int (-i_)), .val (.int (0 : Int32)), .val (.int (-1000000 : Int32)), .val (.int (6 : Int32))] []))
              refine g_goto w e27_39 (by decide) (q := 16) (by decide) ?_
              refine g_iloadN w e27_16 (q := 17) rfl rfl ?_
              refine g_bipush w e27_17 (q := 19) rfl (v := (10 : Int32)) (by decide) ?_
              refine g_icN w e27_19 (q := 22) rfl (by decide) ?_
              refine g_iloadN w e27_22 (q := 23) rfl rfl ?_
              refine g_iloadN w e27_23 (q := 24) rfl rfl ?_
              refine g_ic_le w e27_24 (by decide) (q := 31) (by decide) (q' := 27) rfl (fun cd31 => ?_) (fun cd31 => ?_)
              · refine g_bipush w e27_31 (q := 33) rfl (v := (10 : Int32)) (by decide) ?_
                refine g_iloadN w e27_33 (q := 34) rfl rfl ?_
                refine g_imul w e27_34 (q := 35) rfl ?_
                rw [show (10 : Int32) * (-1000000 : Int32) = (-10000000 : Int32) from by decide]
                show Go p e below _ (State.setTop T (mkF m 35 #[.val (.int (-i_)), .val (.int (0 : Int32)), .val (.int (-1000000 : Int32)), .val (.int (6 : Int32))] [(.int (-10000000 : Int32))]))
                refine g_istoreN w e27_35 (q := 36) rfl (Ls' := #[.val (.int (-i_)), .val (.int (0 : Int32)), .val (.int (-10000000 : Int32)), .val (.int (6 : Int32))]) rfl ?_
                refine g_iinc w e27_36 (q := 39) rfl (v := (1 : Int32)) (by decide) rfl rfl ?_
                rw [show (6 : Int32) + (1 : Int32) = (7 : Int32) from by decide]
                show Go p e below _ (State.setTop T (mkF m 39 #[.val (.int (-i_)), .val (.int (0 : Int32)), .val (.int (-10000000 : Int32)), .val (.int (7 : Int32))] []))
                refine g_goto w e27_39 (by decide) (q := 16) (by decide) ?_
                refine g_iloadN w e27_16 (q := 17) rfl rfl ?_
                refine g_bipush w e27_17 (q := 19) rfl (v := (10 : Int32)) (by decide) ?_
                refine g_icN w e27_19 (q := 22) rfl (by decide) ?_
                refine g_iloadN w e27_22 (q := 23) rfl rfl ?_
                refine g_iloadN w e27_23 (q := 24) rfl rfl ?_
                refine g_ic_le w e27_24 (by decide) (q := 31) (by decide) (q' := 27) rfl (fun cd33 => ?_) (fun cd33 => ?_)
                · refine g_bipush w e27_31 (q := 33) rfl (v := (10 : Int32)) (by decide) ?_
                  refine g_iloadN w e27_33 (q := 34) rfl rfl ?_
                  refine g_imul w e27_34 (q := 35) rfl ?_
                  rw [show (10 : Int32) * (-10000000 : Int32) = (-100000000 : Int32) from by decide]
                  show Go p e below _ (State.setTop T (mkF m 35 #[.val (.int (-i_)), .val (.int (0 : Int32)), .val (.int (-10000000 : Int32)), .val (.int (7 : Int32))] [(.int (-100000000 : Int32))]))
                  refine g_istoreN w e27_35 (q := 36) rfl (Ls' := #[.val (.int (-i_)), .val (.int (0 : Int32)), .val (.int (-100000000 : Int32)), .val (.int (7 : Int32))]) rfl ?_
                  refine g_iinc w e27_36 (q := 39) rfl (v := (1 : Int32)) (by decide) rfl rfl ?_
                  rw [show (7 : Int32) + (1 : Int32) = (8 : Int32) from by decide]
                  show Go p e below _ (State.setTop T (mkF m 39 #[.val (.int (-i_)), .val (.int (0 : Int32)), .val (.int (-100000000 : Int32)), .val (.int (8 : Int32))] []))
                  refine g_goto w e27_39 (by decide) (q := 16) (by decide) ?_
                  refine g_iloadN w e27_16 (q := 17) rfl rfl ?_
                  refine g_bipush w e27_17 (q := 19) rfl (v := (10 : Int32)) (by decide) ?_
                  refine g_icN w e27_19 (q := 22) rfl (by decide) ?_
                  refine g_iloadN w e27_22 (q := 23) rfl rfl ?_
                  refine g_iloadN w e27_23 (q := 24) rfl rfl ?_
                  refine g_ic_le w e27_24 (by decide) (q := 31) (by decide) (q' := 27) rfl (fun cd35 => ?_) (fun cd35 => ?_)
                  · refine g_bipush w e27_31 (q := 33) rfl (v := (10 : Int32)) (by decide) ?_
                    refine g_iloadN w e27_33 (q := 34) rfl rfl ?_
                    refine g_imul w e27_34 (q := 35) rfl ?_
                    rw [show (10 : Int32) * (-100000000 : Int32) = (-1000000000 : Int32) from by decide]
                    show Go p e below _ (State.setTop T (mkF m 35 #[.val (.int (-i_)), .val (.int (0 : Int32)), .val (.int (-100000000 : Int32)), .val (.int (8 : Int32))] [(.int (-1000000000 : Int32))]))
                    refine g_istoreN w e27_35 (q := 36) rfl (Ls' := #[.val (.int (-i_)), .val (.int (0 : Int32)), .val (.int (-1000000000 : Int32)), .val (.int (8 : Int32))]) rfl ?_
                    refine g_iinc w e27_36 (q := 39) rfl (v := (1 : Int32)) (by decide) rfl rfl ?_
                    rw [show (8 : Int32) + (1 : Int32) = (9 : Int32) from by decide]
                    show Go p e below _ (State.setTop T (mkF m 39 #[.val (.int (-i_)), .val (.int (0 : Int32)), .val (.int (-1000000000 : Int32)), .val (.int (9 : Int32))] []))
                    refine g_goto w e27_39 (by decide) (q := 16) (by decide) ?_
                    refine g_iloadN w e27_16 (q := 17) rfl rfl ?_
                    refine g_bipush w e27_17 (q := 19) rfl (v := (10 : Int32)) (by decide) ?_
                    refine g_icN w e27_19 (q := 22) rfl (by decide) ?_
                    refine g_iloadN w e27_22 (q := 23) rfl rfl ?_
                    refine g_iloadN w e27_23 (q := 24) rfl rfl ?_
                    refine g_ic_le w e27_24 (by decide) (q := 31) (by decide) (q' := 27) rfl (fun cd37 => ?_) (fun cd37 => ?_)
                    · refine g_bipush w e27_31 (q := 33) rfl (v := (10 : Int32)) (by decide) ?_
                      refine g_iloadN w e27_33 (q := 34) rfl rfl ?_
                      refine g_imul w e27_34 (q := 35) rfl ?_
                      rw [show (10 : Int32) * (-1000000000 : Int32) = (-1410065408 : Int32) from by decide]
                      show Go p e below _ (State.setTop T (mkF m 35 #[.val (.int (-i_)), .val (.int (0 : Int32)), .val (.int (-1000000000 : Int32)), .val (.int (9 : Int32))] [(.int (-1410065408 : Int32))]))
                      refine g_istoreN w e27_35 (q := 36) rfl (Ls' := #[.val (.int (-i_)), .val (.int (0 : Int32)), .val (.int (-1410065408 : Int32)), .val (.int (9 : Int32))]) rfl ?_
                      refine g_iinc w e27_36 (q := 39) rfl (v := (1 : Int32)) (by decide) rfl rfl ?_
                      rw [show (9 : Int32) + (1 : Int32) = (10 : Int32) from by decide]
                      show Go p e below _ (State.setTop T (mkF m 39 #[.val (.int (-i_)), .val (.int (0 : Int32)), .val (.int (-1410065408 : Int32)), .val (.int (10 : Int32))] []))
                      refine g_goto w e27_39 (by decide) (q := 16) (by decide) ?_
                      refine g_iloadN w e27_16 (q := 17) rfl rfl ?_
                      refine g_bipush w e27_17 (q := 19) rfl (v := (10 : Int32)) (by decide) ?_
                      refine g_icY w e27_19 (by decide) (q := 42) (by decide) (Jvm.Free.XT.ii_ge_t Int32.lt_irrefl) ?_
                      refine g_bipush w e27_42 (q := 44) rfl (v := (10 : Int32)) (by decide) ?_
                      refine g_iloadN w e27_44 (q := 45) rfl rfl ?_
                      refine g_iadd w e27_45 (q := 46) rfl ?_
                      exact g_reti w e27_46 rfl (by decide) (by decide) ⟨congrArg (fun z => some (Value.int z)) (by have n1 := mt (ss_p hs_ (K := 10) (by decide)).mpr cd21; have n2 := mt (ss_p hs_ (K := 100) (by decide)).mpr cd23; have n3 := mt (ss_p hs_ (K := 1000) (by decide)).mpr cd25; have n4 := mt (ss_p hs_ (K := 10000) (by decide)).mpr cd27; have n5 := mt (ss_p hs_ (K := 100000) (by decide)).mpr cd29; have n6 := mt (ss_p hs_ (K := 1000000) (by decide)).mpr cd31; have n7 := mt (ss_p hs_ (K := 10000000) (by decide)).mpr cd33; have n8 := mt (ss_p hs_ (K := 100000000) (by decide)).mpr cd35; have n9 := mt (ss_p hs_ (K := 1000000000) (by decide)).mpr cd37; have hd : dl (mag i_) = 10 := (by unfold dl; (repeat' split) <;> omega); rw [dec_len, if_neg hs_, hd]; decide), rfl⟩
                    · refine g_iloadN w e27_27 (q := 28) rfl rfl ?_
                      refine g_iloadN w e27_28 (q := 29) rfl rfl ?_
                      refine g_iadd w e27_29 (q := 30) rfl ?_
                      exact g_reti w e27_30 rfl (by decide) (by decide) ⟨congrArg (fun z => some (Value.int z)) (by have n1 := mt (ss_p hs_ (K := 10) (by decide)).mpr cd21; have n2 := mt (ss_p hs_ (K := 100) (by decide)).mpr cd23; have n3 := mt (ss_p hs_ (K := 1000) (by decide)).mpr cd25; have n4 := mt (ss_p hs_ (K := 10000) (by decide)).mpr cd27; have n5 := mt (ss_p hs_ (K := 100000) (by decide)).mpr cd29; have n6 := mt (ss_p hs_ (K := 1000000) (by decide)).mpr cd31; have n7 := mt (ss_p hs_ (K := 10000000) (by decide)).mpr cd33; have n8 := mt (ss_p hs_ (K := 100000000) (by decide)).mpr cd35; have n9 := (ss_p hs_ (K := 1000000000) (by decide)).mp cd37; have hd : dl (mag i_) = 9 := (by unfold dl; (repeat' split) <;> omega); rw [dec_len, if_neg hs_, hd]; decide), rfl⟩
                  · refine g_iloadN w e27_27 (q := 28) rfl rfl ?_
                    refine g_iloadN w e27_28 (q := 29) rfl rfl ?_
                    refine g_iadd w e27_29 (q := 30) rfl ?_
                    exact g_reti w e27_30 rfl (by decide) (by decide) ⟨congrArg (fun z => some (Value.int z)) (by have n1 := mt (ss_p hs_ (K := 10) (by decide)).mpr cd21; have n2 := mt (ss_p hs_ (K := 100) (by decide)).mpr cd23; have n3 := mt (ss_p hs_ (K := 1000) (by decide)).mpr cd25; have n4 := mt (ss_p hs_ (K := 10000) (by decide)).mpr cd27; have n5 := mt (ss_p hs_ (K := 100000) (by decide)).mpr cd29; have n6 := mt (ss_p hs_ (K := 1000000) (by decide)).mpr cd31; have n7 := mt (ss_p hs_ (K := 10000000) (by decide)).mpr cd33; have n8 := (ss_p hs_ (K := 100000000) (by decide)).mp cd35; have hd : dl (mag i_) = 8 := (by unfold dl; (repeat' split) <;> omega); rw [dec_len, if_neg hs_, hd]; decide), rfl⟩
                · refine g_iloadN w e27_27 (q := 28) rfl rfl ?_
                  refine g_iloadN w e27_28 (q := 29) rfl rfl ?_
                  refine g_iadd w e27_29 (q := 30) rfl ?_
                  exact g_reti w e27_30 rfl (by decide) (by decide) ⟨congrArg (fun z => some (Value.int z)) (by have n1 := mt (ss_p hs_ (K := 10) (by decide)).mpr cd21; have n2 := mt (ss_p hs_ (K := 100) (by decide)).mpr cd23; have n3 := mt (ss_p hs_ (K := 1000) (by decide)).mpr cd25; have n4 := mt (ss_p hs_ (K := 10000) (by decide)).mpr cd27; have n5 := mt (ss_p hs_ (K := 100000) (by decide)).mpr cd29; have n6 := mt (ss_p hs_ (K := 1000000) (by decide)).mpr cd31; have n7 := (ss_p hs_ (K := 10000000) (by decide)).mp cd33; have hd : dl (mag i_) = 7 := (by unfold dl; (repeat' split) <;> omega); rw [dec_len, if_neg hs_, hd]; decide), rfl⟩
              · refine g_iloadN w e27_27 (q := 28) rfl rfl ?_
                refine g_iloadN w e27_28 (q := 29) rfl rfl ?_
                refine g_iadd w e27_29 (q := 30) rfl ?_
                exact g_reti w e27_30 rfl (by decide) (by decide) ⟨congrArg (fun z => some (Value.int z)) (by have n1 := mt (ss_p hs_ (K := 10) (by decide)).mpr cd21; have n2 := mt (ss_p hs_ (K := 100) (by decide)).mpr cd23; have n3 := mt (ss_p hs_ (K := 1000) (by decide)).mpr cd25; have n4 := mt (ss_p hs_ (K := 10000) (by decide)).mpr cd27; have n5 := mt (ss_p hs_ (K := 100000) (by decide)).mpr cd29; have n6 := (ss_p hs_ (K := 1000000) (by decide)).mp cd31; have hd : dl (mag i_) = 6 := (by unfold dl; (repeat' split) <;> omega); rw [dec_len, if_neg hs_, hd]; decide), rfl⟩
            · refine g_iloadN w e27_27 (q := 28) rfl rfl ?_
              refine g_iloadN w e27_28 (q := 29) rfl rfl ?_
              refine g_iadd w e27_29 (q := 30) rfl ?_
              exact g_reti w e27_30 rfl (by decide) (by decide) ⟨congrArg (fun z => some (Value.int z)) (by have n1 := mt (ss_p hs_ (K := 10) (by decide)).mpr cd21; have n2 := mt (ss_p hs_ (K := 100) (by decide)).mpr cd23; have n3 := mt (ss_p hs_ (K := 1000) (by decide)).mpr cd25; have n4 := mt (ss_p hs_ (K := 10000) (by decide)).mpr cd27; have n5 := (ss_p hs_ (K := 100000) (by decide)).mp cd29; have hd : dl (mag i_) = 5 := (by unfold dl; (repeat' split) <;> omega); rw [dec_len, if_neg hs_, hd]; decide), rfl⟩
          · refine g_iloadN w e27_27 (q := 28) rfl rfl ?_
            refine g_iloadN w e27_28 (q := 29) rfl rfl ?_
            refine g_iadd w e27_29 (q := 30) rfl ?_
            exact g_reti w e27_30 rfl (by decide) (by decide) ⟨congrArg (fun z => some (Value.int z)) (by have n1 := mt (ss_p hs_ (K := 10) (by decide)).mpr cd21; have n2 := mt (ss_p hs_ (K := 100) (by decide)).mpr cd23; have n3 := mt (ss_p hs_ (K := 1000) (by decide)).mpr cd25; have n4 := (ss_p hs_ (K := 10000) (by decide)).mp cd27; have hd : dl (mag i_) = 4 := (by unfold dl; (repeat' split) <;> omega); rw [dec_len, if_neg hs_, hd]; decide), rfl⟩
        · refine g_iloadN w e27_27 (q := 28) rfl rfl ?_
          refine g_iloadN w e27_28 (q := 29) rfl rfl ?_
          refine g_iadd w e27_29 (q := 30) rfl ?_
          exact g_reti w e27_30 rfl (by decide) (by decide) ⟨congrArg (fun z => some (Value.int z)) (by have n1 := mt (ss_p hs_ (K := 10) (by decide)).mpr cd21; have n2 := mt (ss_p hs_ (K := 100) (by decide)).mpr cd23; have n3 := (ss_p hs_ (K := 1000) (by decide)).mp cd25; have hd : dl (mag i_) = 3 := (by unfold dl; (repeat' split) <;> omega); rw [dec_len, if_neg hs_, hd]; decide), rfl⟩
      · refine g_iloadN w e27_27 (q := 28) rfl rfl ?_
        refine g_iloadN w e27_28 (q := 29) rfl rfl ?_
        refine g_iadd w e27_29 (q := 30) rfl ?_
        exact g_reti w e27_30 rfl (by decide) (by decide) ⟨congrArg (fun z => some (Value.int z)) (by have n1 := mt (ss_p hs_ (K := 10) (by decide)).mpr cd21; have n2 := (ss_p hs_ (K := 100) (by decide)).mp cd23; have hd : dl (mag i_) = 2 := (by unfold dl; (repeat' split) <;> omega); rw [dec_len, if_neg hs_, hd]; decide), rfl⟩
    · refine g_iloadN w e27_27 (q := 28) rfl rfl ?_
      refine g_iloadN w e27_28 (q := 29) rfl rfl ?_
      refine g_iadd w e27_29 (q := 30) rfl ?_
      exact g_reti w e27_30 rfl (by decide) (by decide) ⟨congrArg (fun z => some (Value.int z)) (by have n1 := (ss_p hs_ (K := 10) (by decide)).mp cd21; have hd : dl (mag i_) = 1 := (by unfold dl; (repeat' split) <;> omega); rw [dec_len, if_neg hs_, hd]; decide), rfl⟩
theorem e28_0 : decode jdk_33_method_12_code 0 = .ok (.iload_n 1, 1) := by decide +kernel
theorem e28_1 : decode jdk_33_method_12_code 1 = .ok (.istore 5, 2) := by decide +kernel
theorem e28_3 : decode jdk_33_method_12_code 3 = .ok (.iload_n 0, 1) := by decide +kernel
theorem e28_4 : decode jdk_33_method_12_code 4 = .ok (.ifCond .ge 7, 3) := by decide +kernel
theorem e28_7 : decode jdk_33_method_12_code 7 = .ok (.iconst 1, 1) := by decide +kernel
theorem e28_8 : decode jdk_33_method_12_code 8 = .ok (.goto 4, 3) := by decide +kernel
theorem e28_11 : decode jdk_33_method_12_code 11 = .ok (.iconst 0, 1) := by decide +kernel
theorem e28_12 : decode jdk_33_method_12_code 12 = .ok (.istore 6, 2) := by decide +kernel
theorem e28_14 : decode jdk_33_method_12_code 14 = .ok (.iload 6, 2) := by decide +kernel
theorem e28_16 : decode jdk_33_method_12_code 16 = .ok (.ifCond .ne 6, 3) := by decide +kernel
theorem e28_19 : decode jdk_33_method_12_code 19 = .ok (.iload_n 0, 1) := by decide +kernel
theorem e28_20 : decode jdk_33_method_12_code 20 = .ok (.ineg, 1) := by decide +kernel
theorem e28_21 : decode jdk_33_method_12_code 21 = .ok (.istore_n 0, 1) := by decide +kernel
theorem e28_22 : decode jdk_33_method_12_code 22 = .ok (.iload_n 0, 1) := by decide +kernel
theorem e28_23 : decode jdk_33_method_12_code 23 = .ok (.bipush (-100), 2) := by decide +kernel
theorem e28_25 : decode jdk_33_method_12_code 25 = .ok (.if_icmp .gt 47, 3) := by decide +kernel
theorem e28_28 : decode jdk_33_method_12_code 28 = .ok (.iload_n 0, 1) := by decide +kernel
theorem e28_29 : decode jdk_33_method_12_code 29 = .ok (.bipush 100, 2) := by decide +kernel
theorem e28_31 : decode jdk_33_method_12_code 31 = .ok (.idiv, 1) := by decide +kernel
theorem e28_32 : decode jdk_33_method_12_code 32 = .ok (.istore_n 3, 1) := by decide +kernel
theorem e28_33 : decode jdk_33_method_12_code 33 = .ok (.iload_n 3, 1) := by decide +kernel
theorem e28_34 : decode jdk_33_method_12_code 34 = .ok (.bipush 100, 2) := by decide +kernel
theorem e28_36 : decode jdk_33_method_12_code 36 = .ok (.imul, 1) := by decide +kernel
theorem e28_37 : decode jdk_33_method_12_code 37 = .ok (.iload_n 0, 1) := by decide +kernel
theorem e28_38 : decode jdk_33_method_12_code 38 = .ok (.isub, 1) := by decide +kernel
theorem e28_39 : decode jdk_33_method_12_code 39 = .ok (.istore 4, 2) := by decide +kernel
theorem e28_41 : decode jdk_33_method_12_code 41 = .ok (.iload_n 3, 1) := by decide +kernel
theorem e28_42 : decode jdk_33_method_12_code 42 = .ok (.istore_n 0, 1) := by decide +kernel
theorem e28_43 : decode jdk_33_method_12_code 43 = .ok (.aload_n 2, 1) := by decide +kernel
theorem e28_44 : decode jdk_33_method_12_code 44 = .ok (.iinc 5 (-1), 3) := by decide +kernel
theorem e28_47 : decode jdk_33_method_12_code 47 = .ok (.iload 5, 2) := by decide +kernel
theorem e28_49 : decode jdk_33_method_12_code 49 = .ok (.getstatic 83, 3) := by decide +kernel
theorem e28_52 : decode jdk_33_method_12_code 52 = .ok (.iload 4, 2) := by decide +kernel
theorem e28_54 : decode jdk_33_method_12_code 54 = .ok (.baload, 1) := by decide +kernel
theorem e28_55 : decode jdk_33_method_12_code 55 = .ok (.bastore, 1) := by decide +kernel
theorem e28_56 : decode jdk_33_method_12_code 56 = .ok (.aload_n 2, 1) := by decide +kernel
theorem e28_57 : decode jdk_33_method_12_code 57 = .ok (.iinc 5 (-1), 3) := by decide +kernel
theorem e28_60 : decode jdk_33_method_12_code 60 = .ok (.iload 5, 2) := by decide +kernel
theorem e28_62 : decode jdk_33_method_12_code 62 = .ok (.getstatic 87, 3) := by decide +kernel
theorem e28_65 : decode jdk_33_method_12_code 65 = .ok (.iload 4, 2) := by decide +kernel
theorem e28_67 : decode jdk_33_method_12_code 67 = .ok (.baload, 1) := by decide +kernel
theorem e28_68 : decode jdk_33_method_12_code 68 = .ok (.bastore, 1) := by decide +kernel
theorem e28_69 : decode jdk_33_method_12_code 69 = .ok (.goto (-47), 3) := by decide +kernel
theorem e28_72 : decode jdk_33_method_12_code 72 = .ok (.aload_n 2, 1) := by decide +kernel
theorem e28_73 : decode jdk_33_method_12_code 73 = .ok (.iinc 5 (-1), 3) := by decide +kernel
theorem e28_76 : decode jdk_33_method_12_code 76 = .ok (.iload 5, 2) := by decide +kernel
theorem e28_78 : decode jdk_33_method_12_code 78 = .ok (.getstatic 83, 3) := by decide +kernel
theorem e28_81 : decode jdk_33_method_12_code 81 = .ok (.iload_n 0, 1) := by decide +kernel
theorem e28_82 : decode jdk_33_method_12_code 82 = .ok (.ineg, 1) := by decide +kernel
theorem e28_83 : decode jdk_33_method_12_code 83 = .ok (.baload, 1) := by decide +kernel
theorem e28_84 : decode jdk_33_method_12_code 84 = .ok (.bastore, 1) := by decide +kernel
theorem e28_85 : decode jdk_33_method_12_code 85 = .ok (.iload_n 0, 1) := by decide +kernel
theorem e28_86 : decode jdk_33_method_12_code 86 = .ok (.bipush (-9), 2) := by decide +kernel
theorem e28_88 : decode jdk_33_method_12_code 88 = .ok (.if_icmp .ge 16, 3) := by decide +kernel
theorem e28_91 : decode jdk_33_method_12_code 91 = .ok (.aload_n 2, 1) := by decide +kernel
theorem e28_92 : decode jdk_33_method_12_code 92 = .ok (.iinc 5 (-1), 3) := by decide +kernel
theorem e28_95 : decode jdk_33_method_12_code 95 = .ok (.iload 5, 2) := by decide +kernel
theorem e28_97 : decode jdk_33_method_12_code 97 = .ok (.getstatic 87, 3) := by decide +kernel
theorem e28_100 : decode jdk_33_method_12_code 100 = .ok (.iload_n 0, 1) := by decide +kernel
theorem e28_101 : decode jdk_33_method_12_code 101 = .ok (.ineg, 1) := by decide +kernel
theorem e28_102 : decode jdk_33_method_12_code 102 = .ok (.baload, 1) := by decide +kernel
theorem e28_103 : decode jdk_33_method_12_code 103 = .ok (.bastore, 1) := by decide +kernel
theorem e28_104 : decode jdk_33_method_12_code 104 = .ok (.iload 6, 2) := by decide +kernel
theorem e28_106 : decode jdk_33_method_12_code 106 = .ok (.ifCond .eq 12, 3) := by decide +kernel
theorem e28_109 : decode jdk_33_method_12_code 109 = .ok (.aload_n 2, 1) := by decide +kernel
theorem e28_110 : decode jdk_33_method_12_code 110 = .ok (.iinc 5 (-1), 3) := by decide +kernel
theorem e28_113 : decode jdk_33_method_12_code 113 = .ok (.iload 5, 2) := by decide +kernel
theorem e28_115 : decode jdk_33_method_12_code 115 = .ok (.bipush 45, 2) := by decide +kernel
theorem e28_117 : decode jdk_33_method_12_code 117 = .ok (.bastore, 1) := by decide +kernel
theorem e28_118 : decode jdk_33_method_12_code 118 = .ok (.iload 5, 2) := by decide +kernel
theorem e28_120 : decode jdk_33_method_12_code 120 = .ok (.ireturn, 1) := by decide +kernel
set_option maxRecDepth 65536 in
set_option maxHeartbeats 40000000 in
theorem con_gc (l : Launch) (Z : State) (a0 : Array Value) (hw : ∀ d ∈ tables_1, d.before a0 Z = true) (b d1 d10 : Addr) (i_ : Int32) (k_ c0 : Nat) (vs : List Value) (h0 : Heap) (O0 : Ext Z.heap h0) (A_b : Ar Z h0 b .byte vs) (n_b : Z.heap.size ≤ b) (hc0 : c0 = k_ + (dec i_).length) (hcv : c0 ≤ vs.length) (h16 : 16 ≤ vs.length) (h126 : vs.length ≤ 126) (SO_ : Sta Z Z.heap "java/lang/Integer" "DigitOnes" "[B" (.ref d1)) (SX_ : Sta Z Z.heap "java/lang/Integer" "DigitTens" "[B" (.ref d10)) (D1_ : Dg Z d1 100 (fun j => Int32.ofNat (48 + j % 10))) (D10_ : Dg Z d10 100 (fun j => Int32.ofNat (48 + j / 10))) :
    Con l Z consts_1 false (⟨"java/lang/Integer", "getChars", "(II[B)I"⟩ : MethodName) jdk_33_method_12_code 7 (some .int) [] ({ frames := 0, cells := 0, slots := 0, locals := 0 } : Room) #[(.int i_), (.int (Int32.ofNat c0)), (.ref b)] [] h0 (fun v h => (∃ z, v = some (.int z)) ∧ Keep h0 h [b] ∧ Ar Z h b .byte (put vs k_ (bys (dec i_)))) := by
  refine Con.intro (Ls := #[.val (.int i_), .val (.int (Int32.ofNat c0)), .val (.ref b), .unset, .unset, .unset, .unset]) (plainFor_of_name pn6) (own_EL hw) O0 (fun m => by first | (simp [entryFrame, mkF, argsToLocals, Value.category]; done) | rfl) (fun p e s m below meth cc_ T w sf_ => ?_)
  have K0 := Keep.refl h0 [b]
  refine g_iloadN w e28_0 (q := 1) rfl rfl ?_
  refine g_istore w e28_1 (q := 3) rfl (Ls' := #[.val (.int i_), .val (.int (Int32.ofNat c0)), .val (.ref b), .unset, .unset, .val (.int (Int32.ofNat c0)), .unset]) rfl ?_
  refine g_iloadN w e28_3 (q := 4) rfl rfl ?_
  rcases (Decidable.em (i_ < 0)) with hs_ | hs_
  · refine g_ifN w e28_4 (q := 7) rfl (Jvm.Free.XT.i0_ge_f hs_) ?_
    refine g_iconst w e28_7 (q := 8) rfl (v := (1 : Int32)) (by decide) ?_
    refine g_goto w e28_8 (by decide) (q := 12) (by decide) ?_
    refine g_istore w e28_12 (q := 14) rfl (Ls' := #[.val (.int i_), .val (.int (Int32.ofNat c0)), .val (.ref b), .unset, .unset, .val (.int (Int32.ofNat c0)), .val (.int (1 : Int32))]) rfl ?_
    refine g_iload w e28_14 (q := 16) rfl rfl ?_
    refine g_ifY w e28_16 (by decide) (q := 22) (by decide) (by decide) ?_
    have hL := dec_len i_
    rw [if_pos hs_] at hL
    have LP : ∀ (r : Nat) (j : Nat) (cp : Nat) (x0 : Int32) (l3 : Slot) (l4 : Slot) (T : State) (vm : Vm) (h : Heap), (x0 = -(Int32.ofNat (mag i_ / 10 ^ j))) → (j = 0 ∨ 10 ^ j ≤ mag i_) → (mag i_ / 10 ^ j < 100 ^ (r + 1)) → (cp + j = c0) → (l3 = .unset ∨ ∃ w, l3 = .val w ∧ w.category = 1) → (l4 = .unset ∨ ∃ w, l4 = .val w ∧ w.category = 1) → (Keep h0 h [b]) → (Ar Z h b .byte (put vs cp (bys (dgs (mag i_) j)))) → Wk p l e ({ frames := 0, cells := 0, slots := 0, locals := 0 } : Room) s m #[(.int i_), (.int (Int32.ofNat c0)), (.ref b)] below meth cc_ Z a0 consts_1 false (⟨"java/lang/Integer", "getChars", "(II[B)I"⟩ : MethodName) jdk_33_method_12_code 7 (some .int) T vm h 0 0 → Go p e below (Fini Z consts_1 false ({ frames := 0, cells := 0, slots := 0, locals := 0 } : Room).cells ({ frames := 0, cells := 0, slots := 0, locals := 0 } : Room).slots (fun v h => (∃ z, v = some (.int z)) ∧ Keep h0 h [b] ∧ Ar Z h b .byte (put vs k_ (bys (dec i_)))) s) (State.setTop T (mkF m 22 #[.val (.int x0), .val (.int (Int32.ofNat c0)), .val (.ref b), l3, l4, .val (.int (Int32.ofNat cp)), .val (.int (1 : Int32))] [])) := by
      intro r
      induction r with
      | zero =>
        intro j cp x0 l3 l4 T vm h hx0 hj hr hcp hl3 hl4 K0 A_b  w
        subst hx0
        have hm_ := Nat.le_trans (Nat.div_le_self (mag i_) (10 ^ j)) (mag_le i_)
        have hd0 : j < dl (mag i_) := hj.elim (fun e_ => by rw [e_]; exact (dl_range _).1) (dl_gt (mag_le i_))
        have hm100 : mag i_ / 10 ^ j < 100 := by simpa using hr
        refine g_iloadN w e28_22 (q := 23) rfl rfl ?_
        refine g_bipush w e28_23 (q := 25) rfl (v := (-100 : Int32)) (by decide) ?_
        refine g_icY w e28_25 (by decide) (q := 72) (by decide) (Jvm.Free.XT.ii_gt_t ((gt_neg (K := 100) hm_ (by decide)).mpr hm100)) ?_
        refine g_aloadN w e28_72 (q := 73) rfl rfl rfl ?_
        obtain ⟨c2, rfl⟩ : ∃ c_, cp = c_ + 1 := ⟨cp - 1, by omega⟩
        refine g_iinc w e28_73 (q := 76) rfl (v := (-1 : Int32)) (by decide) rfl rfl ?_
        rw [ofNat_dec, ofNat_pred]
        show Go p e below _ (State.setTop T (mkF m 76 #[.val (.int (-(Int32.ofNat (mag i_ / 10 ^ j)))), .val (.int (Int32.ofNat c0)), .val (.ref b), l3, l4, .val (.int (Int32.ofNat c2)), .val (.int (1 : Int32))] [(.ref b)]))
        refine g_iload w e28_76 (q := 78) rfl rfl ?_
        refine g_getS w e28_78 (q := 81) rfl (Hw hw 162 rfl) Via.refl SO_ (fun T w => ?_)
        refine g_iloadN w e28_81 (q := 82) rfl rfl ?_
        refine g_ineg w e28_82 (q := 83) rfl ?_
        rw [Int32.neg_neg]
        show Go p e below _ (State.setTop T (mkF m 83 #[.val (.int (-(Int32.ofNat (mag i_ / 10 ^ j)))), .val (.int (Int32.ofNat c0)), .val (.ref b), l3, l4, .val (.int (Int32.ofNat c2)), .val (.int (1 : Int32))] [(.int (Int32.ofNat (mag i_ / 10 ^ j))), (.ref d1), (.int (Int32.ofNat c2)), (.ref b)]))
        refine g_baloadD w e28_83 (q := 84) rfl D1_ (i := mag i_ / 10 ^ j) rfl hm100 (by decide) ?_
        show Go p e below _ (State.setTop T (mkF m 84 #[.val (.int (-(Int32.ofNat (mag i_ / 10 ^ j)))), .val (.int (Int32.ofNat c0)), .val (.ref b), l3, l4, .val (.int (Int32.ofNat c2)), .val (.int (1 : Int32))] [(.int (Int32.ofNat (48 + mag i_ / 10 ^ j % 10))), (.int (Int32.ofNat c2)), (.ref b)]))
        show Go p e below _ (State.setTop T (mkF m 84 #[.val (.int (-(Int32.ofNat (mag i_ / 10 ^ j)))), .val (.int (Int32.ofNat c0)), .val (.ref b), l3, l4, .val (.int (Int32.ofNat c2)), .val (.int (1 : Int32))] [(.int (dg (mag i_) j)), (.int (Int32.ofNat c2)), (.ref b)]))
        refine g_bastore w e28_84 (q := 85) rfl A_b (i := c2) rfl (by rw [put_length (by rw [bys_len, dgs_len]; omega)]; omega) (x' := dg (mag i_) (j)) (nar_dg _ _) n_b (w.safeL (own_WL hw) A_b (by rw [put_length (by rw [bys_len, dgs_len]; omega)]; omega)) (fun T h w W V => ?_)
        replace K0 := K0.wr W (Or.inl (List.mem_singleton.mpr rfl))
        rw [put_set (by rw [bys_len, dgs_len]; omega), ← bys_dgs] at V
        replace A_b := V
        refine g_iloadN w e28_85 (q := 86) rfl rfl ?_
        refine g_bipush w e28_86 (q := 88) rfl (v := (-9 : Int32)) (by decide) ?_
        rcases Nat.lt_or_ge (mag i_ / 10 ^ j) 10 with h10 | h10
        · refine g_icY w e28_88 (by decide) (q := 104) (by decide) (Jvm.Free.XT.ii_ge_t (fun q => absurd ((gt_neg (m := 9) (by decide) hm_).mp q) (by omega))) ?_
          have hdl : dl (mag i_) = j + 1 := dl_eq (mag_le i_) h10 hj
          refine g_iload w e28_104 (q := 106) rfl rfl ?_
          refine g_ifN w e28_106 (q := 109) rfl (by decide) ?_
          refine g_aloadN w e28_109 (q := 110) rfl rfl rfl ?_
          obtain ⟨c4, rfl⟩ : ∃ c_, c2 = c_ + 1 := ⟨c2 - 1, by omega⟩
          refine g_iinc w e28_110 (q := 113) rfl (v := (-1 : Int32)) (by decide) rfl rfl ?_
          rw [ofNat_dec, ofNat_pred]
          show Go p e below _ (State.setTop T (mkF m 113 #[.val (.int (-(Int32.ofNat (mag i_ / 10 ^ j)))), .val (.int (Int32.ofNat c0)), .val (.ref b), l3, l4, .val (.int (Int32.ofNat c4)), .val (.int (1 : Int32))] [(.ref b)]))
          refine g_iload w e28_113 (q := 115) rfl rfl ?_
          refine g_bipush w e28_115 (q := 117) rfl (v := (45 : Int32)) (by decide) ?_
          refine g_bastore w e28_117 (q := 118) rfl A_b (i := c4) rfl (by rw [put_length (by rw [bys_len, dgs_len]; omega)]; omega) (x' := (45 : Int32)) (by decide) n_b (w.safeL (own_WL hw) A_b (by rw [put_length (by rw [bys_len, dgs_len]; omega)]; omega)) (fun T h w W V => ?_)
          replace K0 := K0.wr W (Or.inl (List.mem_singleton.mpr rfl))
          rw [put_set (by rw [bys_len, dgs_len]; omega)] at V
          replace A_b := V
          refine g_iload w e28_118 (q := 120) rfl rfl ?_
          exact g_reti w e28_120 rfl (by decide) (by decide) ⟨⟨_, rfl⟩, K0, by obtain rfl : c4 = k_ := (by omega); rw [dec, if_pos hs_, hdl]; exact A_b⟩
        · refine g_icN w e28_88 (q := 91) rfl (Jvm.Free.XT.ii_ge_f ((gt_neg (m := 9) (by decide) hm_).mpr (by omega))) ?_
          have hdl : dl (mag i_) = j + 1 + 1 := dl_eq (mag_le i_) (div10 hm100) (Or.inr (pow_ge (K := 10) (d := 1) rfl h10))
          refine g_aloadN w e28_91 (q := 92) rfl rfl rfl ?_
          obtain ⟨c5, rfl⟩ : ∃ c_, c2 = c_ + 1 := ⟨c2 - 1, by omega⟩
          refine g_iinc w e28_92 (q := 95) rfl (v := (-1 : Int32)) (by decide) rfl rfl ?_
          rw [ofNat_dec, ofNat_pred]
          show Go p e below _ (State.setTop T (mkF m 95 #[.val (.int (-(Int32.ofNat (mag i_ / 10 ^ j)))), .val (.int (Int32.ofNat c0)), .val (.ref b), l3, l4, .val (.int (Int32.ofNat c5)), .val (.int (1 : Int32))] [(.ref b)]))
          refine g_iload w e28_95 (q := 97) rfl rfl ?_
          refine g_getS w e28_97 (q := 100) rfl (Hw hw 260 rfl) Via.refl SX_ (fun T w => ?_)
          refine g_iloadN w e28_100 (q := 101) rfl rfl ?_
          refine g_ineg w e28_101 (q := 102) rfl ?_
          rw [Int32.neg_neg]
          show Go p e below _ (State.setTop T (mkF m 102 #[.val (.int (-(Int32.ofNat (mag i_ / 10 ^ j)))), .val (.int (Int32.ofNat c0)), .val (.ref b), l3, l4, .val (.int (Int32.ofNat c5)), .val (.int (1 : Int32))] [(.int (Int32.ofNat (mag i_ / 10 ^ j))), (.ref d10), (.int (Int32.ofNat c5)), (.ref b)]))
          refine g_baloadD w e28_102 (q := 103) rfl D10_ (i := mag i_ / 10 ^ j) rfl hm100 (by decide) ?_
          show Go p e below _ (State.setTop T (mkF m 103 #[.val (.int (-(Int32.ofNat (mag i_ / 10 ^ j)))), .val (.int (Int32.ofNat c0)), .val (.ref b), l3, l4, .val (.int (Int32.ofNat c5)), .val (.int (1 : Int32))] [(.int (Int32.ofNat (48 + mag i_ / 10 ^ j / 10))), (.int (Int32.ofNat c5)), (.ref b)]))
          rw [dg_hi' hm100]
          show Go p e below _ (State.setTop T (mkF m 103 #[.val (.int (-(Int32.ofNat (mag i_ / 10 ^ j)))), .val (.int (Int32.ofNat c0)), .val (.ref b), l3, l4, .val (.int (Int32.ofNat c5)), .val (.int (1 : Int32))] [(.int (dg (mag i_) (j + 1))), (.int (Int32.ofNat c5)), (.ref b)]))
          refine g_bastore w e28_103 (q := 104) rfl A_b (i := c5) rfl (by rw [put_length (by rw [bys_len, dgs_len]; omega)]; omega) (x' := dg (mag i_) (j + 1)) (nar_dg _ _) n_b (w.safeL (own_WL hw) A_b (by rw [put_length (by rw [bys_len, dgs_len]; omega)]; omega)) (fun T h w W V => ?_)
          replace K0 := K0.wr W (Or.inl (List.mem_singleton.mpr rfl))
          rw [put_set (by rw [bys_len, dgs_len]; omega), ← bys_dgs] at V
          replace A_b := V
          refine g_iload w e28_104 (q := 106) rfl rfl ?_
          refine g_ifN w e28_106 (q := 109) rfl (by decide) ?_
          refine g_aloadN w e28_109 (q := 110) rfl rfl rfl ?_
          obtain ⟨c7, rfl⟩ : ∃ c_, c5 = c_ + 1 := ⟨c5 - 1, by omega⟩
          refine g_iinc w e28_110 (q := 113) rfl (v := (-1 : Int32)) (by decide) rfl rfl ?_
          rw [ofNat_dec, ofNat_pred]
          show Go p e below _ (State.setTop T (mkF m 113 #[.val (.int (-(Int32.ofNat (mag i_ / 10 ^ j)))), .val (.int (Int32.ofNat c0)), .val (.ref b), l3, l4, .val (.int (Int32.ofNat c7)), .val (.int (1 : Int32))] [(.ref b)]))
          refine g_iload w e28_113 (q := 115) rfl rfl ?_
          refine g_bipush w e28_115 (q := 117) rfl (v := (45 : Int32)) (by decide) ?_
          refine g_bastore w e28_117 (q := 118) rfl A_b (i := c7) rfl (by rw [put_length (by rw [bys_len, dgs_len]; omega)]; omega) (x' := (45 : Int32)) (by decide) n_b (w.safeL (own_WL hw) A_b (by rw [put_length (by rw [bys_len, dgs_len]; omega)]; omega)) (fun T h w W V => ?_)
          replace K0 := K0.wr W (Or.inl (List.mem_singleton.mpr rfl))
          rw [put_set (by rw [bys_len, dgs_len]; omega)] at V
          replace A_b := V
          refine g_iload w e28_118 (q := 120) rfl rfl ?_
          exact g_reti w e28_120 rfl (by decide) (by decide) ⟨⟨_, rfl⟩, K0, by obtain rfl : c7 = k_ := (by omega); rw [dec, if_pos hs_, hdl]; exact A_b⟩
      | succ r ih =>
        intro j cp x0 l3 l4 T vm h hx0 hj hr hcp hl3 hl4 K0 A_b  w
        subst hx0
        have hm_ := Nat.le_trans (Nat.div_le_self (mag i_) (10 ^ j)) (mag_le i_)
        have hd0 : j < dl (mag i_) := hj.elim (fun e_ => by rw [e_]; exact (dl_range _).1) (dl_gt (mag_le i_))
        refine g_iloadN w e28_22 (q := 23) rfl rfl ?_
        refine g_bipush w e28_23 (q := 25) rfl (v := (-100 : Int32)) (by decide) ?_
        rcases Nat.lt_or_ge (mag i_ / 10 ^ j) 100 with hm100 | hm100
        · refine g_icY w e28_25 (by decide) (q := 72) (by decide) (Jvm.Free.XT.ii_gt_t ((gt_neg (K := 100) hm_ (by decide)).mpr hm100)) ?_
          refine g_aloadN w e28_72 (q := 73) rfl rfl rfl ?_
          obtain ⟨c8, rfl⟩ : ∃ c_, cp = c_ + 1 := ⟨cp - 1, by omega⟩
          refine g_iinc w e28_73 (q := 76) rfl (v := (-1 : Int32)) (by decide) rfl rfl ?_
          rw [ofNat_dec, ofNat_pred]
          show Go p e below _ (State.setTop T (mkF m 76 #[.val (.int (-(Int32.ofNat (mag i_ / 10 ^ j)))), .val (.int (Int32.ofNat c0)), .val (.ref b), l3, l4, .val (.int (Int32.ofNat c8)), .val (.int (1 : Int32))] [(.ref b)]))
          refine g_iload w e28_76 (q := 78) rfl rfl ?_
          refine g_getS w e28_78 (q := 81) rfl (Hw hw 162 rfl) Via.refl SO_ (fun T w => ?_)
          refine g_iloadN w e28_81 (q := 82) rfl rfl ?_
          refine g_ineg w e28_82 (q := 83) rfl ?_
          rw [Int32.neg_neg]
          show Go p e below _ (State.setTop T (mkF m 83 #[.val (.int (-(Int32.ofNat (mag i_ / 10 ^ j)))), .val (.int (Int32.ofNat c0)), .val (.ref b), l3, l4, .val (.int (Int32.ofNat c8)), .val (.int (1 : Int32))] [(.int (Int32.ofNat (mag i_ / 10 ^ j))), (.ref d1), (.int (Int32.ofNat c8)), (.ref b)]))
          refine g_baloadD w e28_83 (q := 84) rfl D1_ (i := mag i_ / 10 ^ j) rfl hm100 (by decide) ?_
          show Go p e below _ (State.setTop T (mkF m 84 #[.val (.int (-(Int32.ofNat (mag i_ / 10 ^ j)))), .val (.int (Int32.ofNat c0)), .val (.ref b), l3, l4, .val (.int (Int32.ofNat c8)), .val (.int (1 : Int32))] [(.int (Int32.ofNat (48 + mag i_ / 10 ^ j % 10))), (.int (Int32.ofNat c8)), (.ref b)]))
          show Go p e below _ (State.setTop T (mkF m 84 #[.val (.int (-(Int32.ofNat (mag i_ / 10 ^ j)))), .val (.int (Int32.ofNat c0)), .val (.ref b), l3, l4, .val (.int (Int32.ofNat c8)), .val (.int (1 : Int32))] [(.int (dg (mag i_) j)), (.int (Int32.ofNat c8)), (.ref b)]))
          refine g_bastore w e28_84 (q := 85) rfl A_b (i := c8) rfl (by rw [put_length (by rw [bys_len, dgs_len]; omega)]; omega) (x' := dg (mag i_) (j)) (nar_dg _ _) n_b (w.safeL (own_WL hw) A_b (by rw [put_length (by rw [bys_len, dgs_len]; omega)]; omega)) (fun T h w W V => ?_)
          replace K0 := K0.wr W (Or.inl (List.mem_singleton.mpr rfl))
          rw [put_set (by rw [bys_len, dgs_len]; omega), ← bys_dgs] at V
          replace A_b := V
          refine g_iloadN w e28_85 (q := 86) rfl rfl ?_
          refine g_bipush w e28_86 (q := 88) rfl (v := (-9 : Int32)) (by decide) ?_
          rcases Nat.lt_or_ge (mag i_ / 10 ^ j) 10 with h10 | h10
          · refine g_icY w e28_88 (by decide) (q := 104) (by decide) (Jvm.Free.XT.ii_ge_t (fun q => absurd ((gt_neg (m := 9) (by decide) hm_).mp q) (by omega))) ?_
            have hdl : dl (mag i_) = j + 1 := dl_eq (mag_le i_) h10 hj
            refine g_iload w e28_104 (q := 106) rfl rfl ?_
            refine g_ifN w e28_106 (q := 109) rfl (by decide) ?_
            refine g_aloadN w e28_109 (q := 110) rfl rfl rfl ?_
            obtain ⟨c10, rfl⟩ : ∃ c_, c8 = c_ + 1 := ⟨c8 - 1, by omega⟩
            refine g_iinc w e28_110 (q := 113) rfl (v := (-1 : Int32)) (by decide) rfl rfl ?_
            rw [ofNat_dec, ofNat_pred]
            show Go p e below _ (State.setTop T (mkF m 113 #[.val (.int (-(Int32.ofNat (mag i_ / 10 ^ j)))), .val (.int (Int32.ofNat c0)), .val (.ref b), l3, l4, .val (.int (Int32.ofNat c10)), .val (.int (1 : Int32))] [(.ref b)]))
            refine g_iload w e28_113 (q := 115) rfl rfl ?_
            refine g_bipush w e28_115 (q := 117) rfl (v := (45 : Int32)) (by decide) ?_
            refine g_bastore w e28_117 (q := 118) rfl A_b (i := c10) rfl (by rw [put_length (by rw [bys_len, dgs_len]; omega)]; omega) (x' := (45 : Int32)) (by decide) n_b (w.safeL (own_WL hw) A_b (by rw [put_length (by rw [bys_len, dgs_len]; omega)]; omega)) (fun T h w W V => ?_)
            replace K0 := K0.wr W (Or.inl (List.mem_singleton.mpr rfl))
            rw [put_set (by rw [bys_len, dgs_len]; omega)] at V
            replace A_b := V
            refine g_iload w e28_118 (q := 120) rfl rfl ?_
            exact g_reti w e28_120 rfl (by decide) (by decide) ⟨⟨_, rfl⟩, K0, by obtain rfl : c10 = k_ := (by omega); rw [dec, if_pos hs_, hdl]; exact A_b⟩
          · refine g_icN w e28_88 (q := 91) rfl (Jvm.Free.XT.ii_ge_f ((gt_neg (m := 9) (by decide) hm_).mpr (by omega))) ?_
            have hdl : dl (mag i_) = j + 1 + 1 := dl_eq (mag_le i_) (div10 hm100) (Or.inr (pow_ge (K := 10) (d := 1) rfl h10))
            refine g_aloadN w e28_91 (q := 92) rfl rfl rfl ?_
            obtain ⟨c11, rfl⟩ : ∃ c_, c8 = c_ + 1 := ⟨c8 - 1, by omega⟩
            refine g_iinc w e28_92 (q := 95) rfl (v := (-1 : Int32)) (by decide) rfl rfl ?_
            rw [ofNat_dec, ofNat_pred]
            show Go p e below _ (State.setTop T (mkF m 95 #[.val (.int (-(Int32.ofNat (mag i_ / 10 ^ j)))), .val (.int (Int32.ofNat c0)), .val (.ref b), l3, l4, .val (.int (Int32.ofNat c11)), .val (.int (1 : Int32))] [(.ref b)]))
            refine g_iload w e28_95 (q := 97) rfl rfl ?_
            refine g_getS w e28_97 (q := 100) rfl (Hw hw 260 rfl) Via.refl SX_ (fun T w => ?_)
            refine g_iloadN w e28_100 (q := 101) rfl rfl ?_
            refine g_ineg w e28_101 (q := 102) rfl ?_
            rw [Int32.neg_neg]
            show Go p e below _ (State.setTop T (mkF m 102 #[.val (.int (-(Int32.ofNat (mag i_ / 10 ^ j)))), .val (.int (Int32.ofNat c0)), .val (.ref b), l3, l4, .val (.int (Int32.ofNat c11)), .val (.int (1 : Int32))] [(.int (Int32.ofNat (mag i_ / 10 ^ j))), (.ref d10), (.int (Int32.ofNat c11)), (.ref b)]))
            refine g_baloadD w e28_102 (q := 103) rfl D10_ (i := mag i_ / 10 ^ j) rfl hm100 (by decide) ?_
            show Go p e below _ (State.setTop T (mkF m 103 #[.val (.int (-(Int32.ofNat (mag i_ / 10 ^ j)))), .val (.int (Int32.ofNat c0)), .val (.ref b), l3, l4, .val (.int (Int32.ofNat c11)), .val (.int (1 : Int32))] [(.int (Int32.ofNat (48 + mag i_ / 10 ^ j / 10))), (.int (Int32.ofNat c11)), (.ref b)]))
            rw [dg_hi' hm100]
            show Go p e below _ (State.setTop T (mkF m 103 #[.val (.int (-(Int32.ofNat (mag i_ / 10 ^ j)))), .val (.int (Int32.ofNat c0)), .val (.ref b), l3, l4, .val (.int (Int32.ofNat c11)), .val (.int (1 : Int32))] [(.int (dg (mag i_) (j + 1))), (.int (Int32.ofNat c11)), (.ref b)]))
            refine g_bastore w e28_103 (q := 104) rfl A_b (i := c11) rfl (by rw [put_length (by rw [bys_len, dgs_len]; omega)]; omega) (x' := dg (mag i_) (j + 1)) (nar_dg _ _) n_b (w.safeL (own_WL hw) A_b (by rw [put_length (by rw [bys_len, dgs_len]; omega)]; omega)) (fun T h w W V => ?_)
            replace K0 := K0.wr W (Or.inl (List.mem_singleton.mpr rfl))
            rw [put_set (by rw [bys_len, dgs_len]; omega), ← bys_dgs] at V
            replace A_b := V
            refine g_iload w e28_104 (q := 106) rfl rfl ?_
            refine g_ifN w e28_106 (q := 109) rfl (by decide) ?_
            refine g_aloadN w e28_109 (q := 110) rfl rfl rfl ?_
            obtain ⟨c13, rfl⟩ : ∃ c_, c11 = c_ + 1 := ⟨c11 - 1, by omega⟩
            refine g_iinc w e28_110 (q := 113) rfl (v := (-1 : Int32)) (by decide) rfl rfl ?_
            rw [ofNat_dec, ofNat_pred]
            show Go p e below _ (State.setTop T (mkF m 113 #[.val (.int (-(Int32.ofNat (mag i_ / 10 ^ j)))), .val (.int (Int32.ofNat c0)), .val (.ref b), l3, l4, .val (.int (Int32.ofNat c13)), .val (.int (1 : Int32))] [(.ref b)]))
            refine g_iload w e28_113 (q := 115) rfl rfl ?_
            refine g_bipush w e28_115 (q := 117) rfl (v := (45 : Int32)) (by decide) ?_
            refine g_bastore w e28_117 (q := 118) rfl A_b (i := c13) rfl (by rw [put_length (by rw [bys_len, dgs_len]; omega)]; omega) (x' := (45 : Int32)) (by decide) n_b (w.safeL (own_WL hw) A_b (by rw [put_length (by rw [bys_len, dgs_len]; omega)]; omega)) (fun T h w W V => ?_)
            replace K0 := K0.wr W (Or.inl (List.mem_singleton.mpr rfl))
            rw [put_set (by rw [bys_len, dgs_len]; omega)] at V
            replace A_b := V
            refine g_iload w e28_118 (q := 120) rfl rfl ?_
            exact g_reti w e28_120 rfl (by decide) (by decide) ⟨⟨_, rfl⟩, K0, by obtain rfl : c13 = k_ := (by omega); rw [dec, if_pos hs_, hdl]; exact A_b⟩
        · refine g_icN w e28_25 (q := 28) rfl (Jvm.Free.XT.ii_gt_f (fun q => absurd ((gt_neg (K := 100) hm_ (by decide)).mp q) (by omega))) ?_
          have hd2 : j + 2 < dl (mag i_) := dl_gt (mag_le i_) (pow_ge (K := 100) (d := 2) rfl hm100)
          refine g_iloadN w e28_28 (q := 29) rfl rfl ?_
          refine g_bipush w e28_29 (q := 31) rfl (v := (100 : Int32)) (by decide) ?_
          refine g_idiv w e28_31 (q := 32) rfl (by decide) ?_
          rw [gc_div hm_]
          show Go p e below _ (State.setTop T (mkF m 32 #[.val (.int (-(Int32.ofNat (mag i_ / 10 ^ j)))), .val (.int (Int32.ofNat c0)), .val (.ref b), l3, l4, .val (.int (Int32.ofNat cp)), .val (.int (1 : Int32))] [(.int (-(Int32.ofNat (mag i_ / 10 ^ j / 100))))]))
          refine g_istoreN w e28_32 (q := 33) rfl (Ls' := #[.val (.int (-(Int32.ofNat (mag i_ / 10 ^ j)))), .val (.int (Int32.ofNat c0)), .val (.ref b), .val (.int (-(Int32.ofNat (mag i_ / 10 ^ j / 100)))), l4, .val (.int (Int32.ofNat cp)), .val (.int (1 : Int32))]) ((Jvm.Free.XS.store1 rfl hl3 rfl).trans rfl) ?_
          refine g_iloadN w e28_33 (q := 34) rfl rfl ?_
          refine g_bipush w e28_34 (q := 36) rfl (v := (100 : Int32)) (by decide) ?_
          refine g_imul w e28_36 (q := 37) rfl ?_
          refine g_iloadN w e28_37 (q := 38) rfl rfl ?_
          refine g_isub w e28_38 (q := 39) rfl ?_
          rw [gc_rem hm_]
          show Go p e below _ (State.setTop T (mkF m 39 #[.val (.int (-(Int32.ofNat (mag i_ / 10 ^ j)))), .val (.int (Int32.ofNat c0)), .val (.ref b), .val (.int (-(Int32.ofNat (mag i_ / 10 ^ j / 100)))), l4, .val (.int (Int32.ofNat cp)), .val (.int (1 : Int32))] [(.int (Int32.ofNat (mag i_ / 10 ^ j % 100)))]))
          refine g_istore w e28_39 (q := 41) rfl (Ls' := #[.val (.int (-(Int32.ofNat (mag i_ / 10 ^ j)))), .val (.int (Int32.ofNat c0)), .val (.ref b), .val (.int (-(Int32.ofNat (mag i_ / 10 ^ j / 100)))), .val (.int (Int32.ofNat (mag i_ / 10 ^ j % 100))), .val (.int (Int32.ofNat cp)), .val (.int (1 : Int32))]) ((Jvm.Free.XS.store1 rfl hl4 rfl).trans rfl) ?_
          refine g_iloadN w e28_41 (q := 42) rfl rfl ?_
          refine g_istoreN w e28_42 (q := 43) rfl (Ls' := #[.val (.int (-(Int32.ofNat (mag i_ / 10 ^ j / 100)))), .val (.int (Int32.ofNat c0)), .val (.ref b), .val (.int (-(Int32.ofNat (mag i_ / 10 ^ j / 100)))), .val (.int (Int32.ofNat (mag i_ / 10 ^ j % 100))), .val (.int (Int32.ofNat cp)), .val (.int (1 : Int32))]) rfl ?_
          refine g_aloadN w e28_43 (q := 44) rfl rfl rfl ?_
          obtain ⟨c14, rfl⟩ : ∃ c_, cp = c_ + 1 := ⟨cp - 1, by omega⟩
          refine g_iinc w e28_44 (q := 47) rfl (v := (-1 : Int32)) (by decide) rfl rfl ?_
          rw [ofNat_dec, ofNat_pred]
          show Go p e below _ (State.setTop T (mkF m 47 #[.val (.int (-(Int32.ofNat (mag i_ / 10 ^ j / 100)))), .val (.int (Int32.ofNat c0)), .val (.ref b), .val (.int (-(Int32.ofNat (mag i_ / 10 ^ j / 100)))), .val (.int (Int32.ofNat (mag i_ / 10 ^ j % 100))), .val (.int (Int32.ofNat c14)), .val (.int (1 : Int32))] [(.ref b)]))
          refine g_iload w e28_47 (q := 49) rfl rfl ?_
          refine g_getS w e28_49 (q := 52) rfl (Hw hw 162 rfl) Via.refl SO_ (fun T w => ?_)
          refine g_iload w e28_52 (q := 54) rfl rfl ?_
          refine g_baloadD w e28_54 (q := 55) rfl D1_ (i := mag i_ / 10 ^ j % 100) rfl (Nat.mod_lt _ (by decide)) (by decide) ?_
          show Go p e below _ (State.setTop T (mkF m 55 #[.val (.int (-(Int32.ofNat (mag i_ / 10 ^ j / 100)))), .val (.int (Int32.ofNat c0)), .val (.ref b), .val (.int (-(Int32.ofNat (mag i_ / 10 ^ j / 100)))), .val (.int (Int32.ofNat (mag i_ / 10 ^ j % 100))), .val (.int (Int32.ofNat c14)), .val (.int (1 : Int32))] [(.int (Int32.ofNat (48 + mag i_ / 10 ^ j % 100 % 10))), (.int (Int32.ofNat c14)), (.ref b)]))
          rw [dg_lo]
          show Go p e below _ (State.setTop T (mkF m 55 #[.val (.int (-(Int32.ofNat (mag i_ / 10 ^ j / 100)))), .val (.int (Int32.ofNat c0)), .val (.ref b), .val (.int (-(Int32.ofNat (mag i_ / 10 ^ j / 100)))), .val (.int (Int32.ofNat (mag i_ / 10 ^ j % 100))), .val (.int (Int32.ofNat c14)), .val (.int (1 : Int32))] [(.int (dg (mag i_) j)), (.int (Int32.ofNat c14)), (.ref b)]))
          refine g_bastore w e28_55 (q := 56) rfl A_b (i := c14) rfl (by rw [put_length (by rw [bys_len, dgs_len]; omega)]; omega) (x' := dg (mag i_) (j)) (nar_dg _ _) n_b (w.safeL (own_WL hw) A_b (by rw [put_length (by rw [bys_len, dgs_len]; omega)]; omega)) (fun T h w W V => ?_)
          replace K0 := K0.wr W (Or.inl (List.mem_singleton.mpr rfl))
          rw [put_set (by rw [bys_len, dgs_len]; omega), ← bys_dgs] at V
          replace A_b := V
          refine g_aloadN w e28_56 (q := 57) rfl rfl rfl ?_
          obtain ⟨c15, rfl⟩ : ∃ c_, c14 = c_ + 1 := ⟨c14 - 1, by omega⟩
          refine g_iinc w e28_57 (q := 60) rfl (v := (-1 : Int32)) (by decide) rfl rfl ?_
          rw [ofNat_dec, ofNat_pred]
          show Go p e below _ (State.setTop T (mkF m 60 #[.val (.int (-(Int32.ofNat (mag i_ / 10 ^ j / 100)))), .val (.int (Int32.ofNat c0)), .val (.ref b), .val (.int (-(Int32.ofNat (mag i_ / 10 ^ j / 100)))), .val (.int (Int32.ofNat (mag i_ / 10 ^ j % 100))), .val (.int (Int32.ofNat c15)), .val (.int (1 : Int32))] [(.ref b)]))
          refine g_iload w e28_60 (q := 62) rfl rfl ?_
          refine g_getS w e28_62 (q := 65) rfl (Hw hw 260 rfl) Via.refl SX_ (fun T w => ?_)
          refine g_iload w e28_65 (q := 67) rfl rfl ?_
          refine g_baloadD w e28_67 (q := 68) rfl D10_ (i := mag i_ / 10 ^ j % 100) rfl (Nat.mod_lt _ (by decide)) (by decide) ?_
          show Go p e below _ (State.setTop T (mkF m 68 #[.val (.int (-(Int32.ofNat (mag i_ / 10 ^ j / 100)))), .val (.int (Int32.ofNat c0)), .val (.ref b), .val (.int (-(Int32.ofNat (mag i_ / 10 ^ j / 100)))), .val (.int (Int32.ofNat (mag i_ / 10 ^ j % 100))), .val (.int (Int32.ofNat c15)), .val (.int (1 : Int32))] [(.int (Int32.ofNat (48 + mag i_ / 10 ^ j % 100 / 10))), (.int (Int32.ofNat c15)), (.ref b)]))
          rw [dg_hi]
          show Go p e below _ (State.setTop T (mkF m 68 #[.val (.int (-(Int32.ofNat (mag i_ / 10 ^ j / 100)))), .val (.int (Int32.ofNat c0)), .val (.ref b), .val (.int (-(Int32.ofNat (mag i_ / 10 ^ j / 100)))), .val (.int (Int32.ofNat (mag i_ / 10 ^ j % 100))), .val (.int (Int32.ofNat c15)), .val (.int (1 : Int32))] [(.int (dg (mag i_) (j + 1))), (.int (Int32.ofNat c15)), (.ref b)]))
          refine g_bastore w e28_68 (q := 69) rfl A_b (i := c15) rfl (by rw [put_length (by rw [bys_len, dgs_len]; omega)]; omega) (x' := dg (mag i_) (j + 1)) (nar_dg _ _) n_b (w.safeL (own_WL hw) A_b (by rw [put_length (by rw [bys_len, dgs_len]; omega)]; omega)) (fun T h w W V => ?_)
          replace K0 := K0.wr W (Or.inl (List.mem_singleton.mpr rfl))
          rw [put_set (by rw [bys_len, dgs_len]; omega), ← bys_dgs] at V
          replace A_b := V
          refine g_goto w e28_69 (by decide) (q := 22) (by decide) ?_
          exact ih (j + 2) c15 _ _ _ T _ _ (by rw [div_step]) (Or.inr (pow_ge (K := 100) (d := 2) rfl hm100)) (hr_next hr) (by omega) (Or.inr ⟨_, rfl, rfl⟩) (Or.inr ⟨_, rfl, rfl⟩) K0 A_b w
    exact LP 5 0 c0 _ _ _ T _ _ (by rw [Nat.pow_zero, Nat.div_one]; exact mag_neg hs_) (Or.inl rfl) (hr_start i_) (by omega) (Or.inl rfl) (Or.inl rfl) K0 (by rw [show bys (dgs (mag i_) 0) = [] from rfl, put_nil]; exact A_b) w
  · refine g_ifY w e28_4 (by decide) (q := 11) (by decide) (Jvm.Free.XT.i0_ge_t hs_) ?_
    refine g_iconst w e28_11 (q := 12) rfl (v := (0 : Int32)) (by decide) ?_
    refine g_istore w e28_12 (q := 14) rfl (Ls' := #[.val (.int i_), .val (.int (Int32.ofNat c0)), .val (.ref b), .unset, .unset, .val (.int (Int32.ofNat c0)), .val (.int (0 : Int32))]) rfl ?_
    refine g_iload w e28_14 (q := 16) rfl rfl ?_
    refine g_ifN w e28_16 (q := 19) rfl (by decide) ?_
    refine g_iloadN w e28_19 (q := 20) rfl rfl ?_
    refine g_ineg w e28_20 (q := 21) rfl ?_
    refine g_istoreN w e28_21 (q := 22) rfl (Ls' := #[.val (.int (-i_)), .val (.int (Int32.ofNat c0)), .val (.ref b), .unset, .unset, .val (.int (Int32.ofNat c0)), .val (.int (0 : Int32))]) rfl ?_
    have hL := dec_len i_
    rw [if_neg hs_] at hL
    have LP : ∀ (r : Nat) (j : Nat) (cp : Nat) (x0 : Int32) (l3 : Slot) (l4 : Slot) (T : State) (vm : Vm) (h : Heap), (x0 = -(Int32.ofNat (mag i_ / 10 ^ j))) → (j = 0 ∨ 10 ^ j ≤ mag i_) → (mag i_ / 10 ^ j < 100 ^ (r + 1)) → (cp + j = c0) → (l3 = .unset ∨ ∃ w, l3 = .val w ∧ w.category = 1) → (l4 = .unset ∨ ∃ w, l4 = .val w ∧ w.category = 1) → (Keep h0 h [b]) → (Ar Z h b .byte (put vs cp (bys (dgs (mag i_) j)))) → Wk p l e ({ frames := 0, cells := 0, slots := 0, locals := 0 } : Room) s m #[(.int i_), (.int (Int32.ofNat c0)), (.ref b)] below meth cc_ Z a0 consts_1 false (⟨"java/lang/Integer", "getChars", "(II[B)I"⟩ : MethodName) jdk_33_method_12_code 7 (some .int) T vm h 0 0 → Go p e below (Fini Z consts_1 false ({ frames := 0, cells := 0, slots := 0, locals := 0 } : Room).cells ({ frames := 0, cells := 0, slots := 0, locals := 0 } : Room).slots (fun v h => (∃ z, v = some (.int z)) ∧ Keep h0 h [b] ∧ Ar Z h b .byte (put vs k_ (bys (dec i_)))) s) (State.setTop T (mkF m 22 #[.val (.int x0), .val (.int (Int32.ofNat c0)), .val (.ref b), l3, l4, .val (.int (Int32.ofNat cp)), .val (.int (0 : Int32))] [])) := by
      intro r
      induction r with
      | zero =>
        intro j cp x0 l3 l4 T vm h hx0 hj hr hcp hl3 hl4 K0 A_b  w
        subst hx0
        have hm_ := Nat.le_trans (Nat.div_le_self (mag i_) (10 ^ j)) (mag_le i_)
        have hd0 : j < dl (mag i_) := hj.elim (fun e_ => by rw [e_]; exact (dl_range _).1) (dl_gt (mag_le i_))
        have hm100 : mag i_ / 10 ^ j < 100 := by simpa using hr
        refine g_iloadN w e28_22 (q := 23) rfl rfl ?_
        refine g_bipush w e28_23 (q := 25) rfl (v := (-100 : Int32)) (by decide) ?_
        refine g_icY w e28_25 (by decide) (q := 72) (by decide) (Jvm.Free.XT.ii_gt_t ((gt_neg (K := 100) hm_ (by decide)).mpr hm100)) ?_
        refine g_aloadN w e28_72 (q := 73) rfl rfl rfl ?_
        obtain ⟨c17, rfl⟩ : ∃ c_, cp = c_ + 1 := ⟨cp - 1, by omega⟩
        refine g_iinc w e28_73 (q := 76) rfl (v := (-1 : Int32)) (by decide) rfl rfl ?_
        rw [ofNat_dec, ofNat_pred]
        show Go p e below _ (State.setTop T (mkF m 76 #[.val (.int (-(Int32.ofNat (mag i_ / 10 ^ j)))), .val (.int (Int32.ofNat c0)), .val (.ref b), l3, l4, .val (.int (Int32.ofNat c17)), .val (.int (0 : Int32))] [(.ref b)]))
        refine g_iload w e28_76 (q := 78) rfl rfl ?_
        refine g_getS w e28_78 (q := 81) rfl (Hw hw 162 rfl) Via.refl SO_ (fun T w => ?_)
        refine g_iloadN w e28_81 (q := 82) rfl rfl ?_
        refine g_ineg w e28_82 (q := 83) rfl ?_
        rw [Int32.neg_neg]
        show Go p e below _ (State.setTop T (mkF m 83 #[.val (.int (-(Int32.ofNat (mag i_ / 10 ^ j)))), .val (.int (Int32.ofNat c0)), .val (.ref b), l3, l4, .val (.int (Int32.ofNat c17)), .val (.int (0 : Int32))] [(.int (Int32.ofNat (mag i_ / 10 ^ j))), (.ref d1), (.int (Int32.ofNat c17)), (.ref b)]))
        refine g_baloadD w e28_83 (q := 84) rfl D1_ (i := mag i_ / 10 ^ j) rfl hm100 (by decide) ?_
        show Go p e below _ (State.setTop T (mkF m 84 #[.val (.int (-(Int32.ofNat (mag i_ / 10 ^ j)))), .val (.int (Int32.ofNat c0)), .val (.ref b), l3, l4, .val (.int (Int32.ofNat c17)), .val (.int (0 : Int32))] [(.int (Int32.ofNat (48 + mag i_ / 10 ^ j % 10))), (.int (Int32.ofNat c17)), (.ref b)]))
        show Go p e below _ (State.setTop T (mkF m 84 #[.val (.int (-(Int32.ofNat (mag i_ / 10 ^ j)))), .val (.int (Int32.ofNat c0)), .val (.ref b), l3, l4, .val (.int (Int32.ofNat c17)), .val (.int (0 : Int32))] [(.int (dg (mag i_) j)), (.int (Int32.ofNat c17)), (.ref b)]))
        refine g_bastore w e28_84 (q := 85) rfl A_b (i := c17) rfl (by rw [put_length (by rw [bys_len, dgs_len]; omega)]; omega) (x' := dg (mag i_) (j)) (nar_dg _ _) n_b (w.safeL (own_WL hw) A_b (by rw [put_length (by rw [bys_len, dgs_len]; omega)]; omega)) (fun T h w W V => ?_)
        replace K0 := K0.wr W (Or.inl (List.mem_singleton.mpr rfl))
        rw [put_set (by rw [bys_len, dgs_len]; omega), ← bys_dgs] at V
        replace A_b := V
        refine g_iloadN w e28_85 (q := 86) rfl rfl ?_
        refine g_bipush w e28_86 (q := 88) rfl (v := (-9 : Int32)) (by decide) ?_
        rcases Nat.lt_or_ge (mag i_ / 10 ^ j) 10 with h10 | h10
        · refine g_icY w e28_88 (by decide) (q := 104) (by decide) (Jvm.Free.XT.ii_ge_t (fun q => absurd ((gt_neg (m := 9) (by decide) hm_).mp q) (by omega))) ?_
          have hdl : dl (mag i_) = j + 1 := dl_eq (mag_le i_) h10 hj
          refine g_iload w e28_104 (q := 106) rfl rfl ?_
          refine g_ifY w e28_106 (by decide) (q := 118) (by decide) (by decide) ?_
          refine g_iload w e28_118 (q := 120) rfl rfl ?_
          exact g_reti w e28_120 rfl (by decide) (by decide) ⟨⟨_, rfl⟩, K0, by obtain rfl : c17 = k_ := (by omega); rw [dec, if_neg hs_, hdl]; exact A_b⟩
        · refine g_icN w e28_88 (q := 91) rfl (Jvm.Free.XT.ii_ge_f ((gt_neg (m := 9) (by decide) hm_).mpr (by omega))) ?_
          have hdl : dl (mag i_) = j + 1 + 1 := dl_eq (mag_le i_) (div10 hm100) (Or.inr (pow_ge (K := 10) (d := 1) rfl h10))
          refine g_aloadN w e28_91 (q := 92) rfl rfl rfl ?_
          obtain ⟨c19, rfl⟩ : ∃ c_, c17 = c_ + 1 := ⟨c17 - 1, by omega⟩
          refine g_iinc w e28_92 (q := 95) rfl (v := (-1 : Int32)) (by decide) rfl rfl ?_
          rw [ofNat_dec, ofNat_pred]
          show Go p e below _ (State.setTop T (mkF m 95 #[.val (.int (-(Int32.ofNat (mag i_ / 10 ^ j)))), .val (.int (Int32.ofNat c0)), .val (.ref b), l3, l4, .val (.int (Int32.ofNat c19)), .val (.int (0 : Int32))] [(.ref b)]))
          refine g_iload w e28_95 (q := 97) rfl rfl ?_
          refine g_getS w e28_97 (q := 100) rfl (Hw hw 260 rfl) Via.refl SX_ (fun T w => ?_)
          refine g_iloadN w e28_100 (q := 101) rfl rfl ?_
          refine g_ineg w e28_101 (q := 102) rfl ?_
          rw [Int32.neg_neg]
          show Go p e below _ (State.setTop T (mkF m 102 #[.val (.int (-(Int32.ofNat (mag i_ / 10 ^ j)))), .val (.int (Int32.ofNat c0)), .val (.ref b), l3, l4, .val (.int (Int32.ofNat c19)), .val (.int (0 : Int32))] [(.int (Int32.ofNat (mag i_ / 10 ^ j))), (.ref d10), (.int (Int32.ofNat c19)), (.ref b)]))
          refine g_baloadD w e28_102 (q := 103) rfl D10_ (i := mag i_ / 10 ^ j) rfl hm100 (by decide) ?_
          show Go p e below _ (State.setTop T (mkF m 103 #[.val (.int (-(Int32.ofNat (mag i_ / 10 ^ j)))), .val (.int (Int32.ofNat c0)), .val (.ref b), l3, l4, .val (.int (Int32.ofNat c19)), .val (.int (0 : Int32))] [(.int (Int32.ofNat (48 + mag i_ / 10 ^ j / 10))), (.int (Int32.ofNat c19)), (.ref b)]))
          rw [dg_hi' hm100]
          show Go p e below _ (State.setTop T (mkF m 103 #[.val (.int (-(Int32.ofNat (mag i_ / 10 ^ j)))), .val (.int (Int32.ofNat c0)), .val (.ref b), l3, l4, .val (.int (Int32.ofNat c19)), .val (.int (0 : Int32))] [(.int (dg (mag i_) (j + 1))), (.int (Int32.ofNat c19)), (.ref b)]))
          refine g_bastore w e28_103 (q := 104) rfl A_b (i := c19) rfl (by rw [put_length (by rw [bys_len, dgs_len]; omega)]; omega) (x' := dg (mag i_) (j + 1)) (nar_dg _ _) n_b (w.safeL (own_WL hw) A_b (by rw [put_length (by rw [bys_len, dgs_len]; omega)]; omega)) (fun T h w W V => ?_)
          replace K0 := K0.wr W (Or.inl (List.mem_singleton.mpr rfl))
          rw [put_set (by rw [bys_len, dgs_len]; omega), ← bys_dgs] at V
          replace A_b := V
          refine g_iload w e28_104 (q := 106) rfl rfl ?_
          refine g_ifY w e28_106 (by decide) (q := 118) (by decide) (by decide) ?_
          refine g_iload w e28_118 (q := 120) rfl rfl ?_
          exact g_reti w e28_120 rfl (by decide) (by decide) ⟨⟨_, rfl⟩, K0, by obtain rfl : c19 = k_ := (by omega); rw [dec, if_neg hs_, hdl]; exact A_b⟩
      | succ r ih =>
        intro j cp x0 l3 l4 T vm h hx0 hj hr hcp hl3 hl4 K0 A_b  w
        subst hx0
        have hm_ := Nat.le_trans (Nat.div_le_self (mag i_) (10 ^ j)) (mag_le i_)
        have hd0 : j < dl (mag i_) := hj.elim (fun e_ => by rw [e_]; exact (dl_range _).1) (dl_gt (mag_le i_))
        refine g_iloadN w e28_22 (q := 23) rfl rfl ?_
        refine g_bipush w e28_23 (q := 25) rfl (v := (-100 : Int32)) (by decide) ?_
        rcases Nat.lt_or_ge (mag i_ / 10 ^ j) 100 with hm100 | hm100
        · refine g_icY w e28_25 (by decide) (q := 72) (by decide) (Jvm.Free.XT.ii_gt_t ((gt_neg (K := 100) hm_ (by decide)).mpr hm100)) ?_
          refine g_aloadN w e28_72 (q := 73) rfl rfl rfl ?_
          obtain ⟨c21, rfl⟩ : ∃ c_, cp = c_ + 1 := ⟨cp - 1, by omega⟩
          refine g_iinc w e28_73 (q := 76) rfl (v := (-1 : Int32)) (by decide) rfl rfl ?_
          rw [ofNat_dec, ofNat_pred]
          show Go p e below _ (State.setTop T (mkF m 76 #[.val (.int (-(Int32.ofNat (mag i_ / 10 ^ j)))), .val (.int (Int32.ofNat c0)), .val (.ref b), l3, l4, .val (.int (Int32.ofNat c21)), .val (.int (0 : Int32))] [(.ref b)]))
          refine g_iload w e28_76 (q := 78) rfl rfl ?_
          refine g_getS w e28_78 (q := 81) rfl (Hw hw 162 rfl) Via.refl SO_ (fun T w => ?_)
          refine g_iloadN w e28_81 (q := 82) rfl rfl ?_
          refine g_ineg w e28_82 (q := 83) rfl ?_
          rw [Int32.neg_neg]
          show Go p e below _ (State.setTop T (mkF m 83 #[.val (.int (-(Int32.ofNat (mag i_ / 10 ^ j)))), .val (.int (Int32.ofNat c0)), .val (.ref b), l3, l4, .val (.int (Int32.ofNat c21)), .val (.int (0 : Int32))] [(.int (Int32.ofNat (mag i_ / 10 ^ j))), (.ref d1), (.int (Int32.ofNat c21)), (.ref b)]))
          refine g_baloadD w e28_83 (q := 84) rfl D1_ (i := mag i_ / 10 ^ j) rfl hm100 (by decide) ?_
          show Go p e below _ (State.setTop T (mkF m 84 #[.val (.int (-(Int32.ofNat (mag i_ / 10 ^ j)))), .val (.int (Int32.ofNat c0)), .val (.ref b), l3, l4, .val (.int (Int32.ofNat c21)), .val (.int (0 : Int32))] [(.int (Int32.ofNat (48 + mag i_ / 10 ^ j % 10))), (.int (Int32.ofNat c21)), (.ref b)]))
          show Go p e below _ (State.setTop T (mkF m 84 #[.val (.int (-(Int32.ofNat (mag i_ / 10 ^ j)))), .val (.int (Int32.ofNat c0)), .val (.ref b), l3, l4, .val (.int (Int32.ofNat c21)), .val (.int (0 : Int32))] [(.int (dg (mag i_) j)), (.int (Int32.ofNat c21)), (.ref b)]))
          refine g_bastore w e28_84 (q := 85) rfl A_b (i := c21) rfl (by rw [put_length (by rw [bys_len, dgs_len]; omega)]; omega) (x' := dg (mag i_) (j)) (nar_dg _ _) n_b (w.safeL (own_WL hw) A_b (by rw [put_length (by rw [bys_len, dgs_len]; omega)]; omega)) (fun T h w W V => ?_)
          replace K0 := K0.wr W (Or.inl (List.mem_singleton.mpr rfl))
          rw [put_set (by rw [bys_len, dgs_len]; omega), ← bys_dgs] at V
          replace A_b := V
          refine g_iloadN w e28_85 (q := 86) rfl rfl ?_
          refine g_bipush w e28_86 (q := 88) rfl (v := (-9 : Int32)) (by decide) ?_
          rcases Nat.lt_or_ge (mag i_ / 10 ^ j) 10 with h10 | h10
          · refine g_icY w e28_88 (by decide) (q := 104) (by decide) (Jvm.Free.XT.ii_ge_t (fun q => absurd ((gt_neg (m := 9) (by decide) hm_).mp q) (by omega))) ?_
            have hdl : dl (mag i_) = j + 1 := dl_eq (mag_le i_) h10 hj
            refine g_iload w e28_104 (q := 106) rfl rfl ?_
            refine g_ifY w e28_106 (by decide) (q := 118) (by decide) (by decide) ?_
            refine g_iload w e28_118 (q := 120) rfl rfl ?_
            exact g_reti w e28_120 rfl (by decide) (by decide) ⟨⟨_, rfl⟩, K0, by obtain rfl : c21 = k_ := (by omega); rw [dec, if_neg hs_, hdl]; exact A_b⟩
          · refine g_icN w e28_88 (q := 91) rfl (Jvm.Free.XT.ii_ge_f ((gt_neg (m := 9) (by decide) hm_).mpr (by omega))) ?_
            have hdl : dl (mag i_) = j + 1 + 1 := dl_eq (mag_le i_) (div10 hm100) (Or.inr (pow_ge (K := 10) (d := 1) rfl h10))
            refine g_aloadN w e28_91 (q := 92) rfl rfl rfl ?_
            obtain ⟨c23, rfl⟩ : ∃ c_, c21 = c_ + 1 := ⟨c21 - 1, by omega⟩
            refine g_iinc w e28_92 (q := 95) rfl (v := (-1 : Int32)) (by decide) rfl rfl ?_
            rw [ofNat_dec, ofNat_pred]
            show Go p e below _ (State.setTop T (mkF m 95 #[.val (.int (-(Int32.ofNat (mag i_ / 10 ^ j)))), .val (.int (Int32.ofNat c0)), .val (.ref b), l3, l4, .val (.int (Int32.ofNat c23)), .val (.int (0 : Int32))] [(.ref b)]))
            refine g_iload w e28_95 (q := 97) rfl rfl ?_
            refine g_getS w e28_97 (q := 100) rfl (Hw hw 260 rfl) Via.refl SX_ (fun T w => ?_)
            refine g_iloadN w e28_100 (q := 101) rfl rfl ?_
            refine g_ineg w e28_101 (q := 102) rfl ?_
            rw [Int32.neg_neg]
            show Go p e below _ (State.setTop T (mkF m 102 #[.val (.int (-(Int32.ofNat (mag i_ / 10 ^ j)))), .val (.int (Int32.ofNat c0)), .val (.ref b), l3, l4, .val (.int (Int32.ofNat c23)), .val (.int (0 : Int32))] [(.int (Int32.ofNat (mag i_ / 10 ^ j))), (.ref d10), (.int (Int32.ofNat c23)), (.ref b)]))
            refine g_baloadD w e28_102 (q := 103) rfl D10_ (i := mag i_ / 10 ^ j) rfl hm100 (by decide) ?_
            show Go p e below _ (State.setTop T (mkF m 103 #[.val (.int (-(Int32.ofNat (mag i_ / 10 ^ j)))), .val (.int (Int32.ofNat c0)), .val (.ref b), l3, l4, .val (.int (Int32.ofNat c23)), .val (.int (0 : Int32))] [(.int (Int32.ofNat (48 + mag i_ / 10 ^ j / 10))), (.int (Int32.ofNat c23)), (.ref b)]))
            rw [dg_hi' hm100]
            show Go p e below _ (State.setTop T (mkF m 103 #[.val (.int (-(Int32.ofNat (mag i_ / 10 ^ j)))), .val (.int (Int32.ofNat c0)), .val (.ref b), l3, l4, .val (.int (Int32.ofNat c23)), .val (.int (0 : Int32))] [(.int (dg (mag i_) (j + 1))), (.int (Int32.ofNat c23)), (.ref b)]))
            refine g_bastore w e28_103 (q := 104) rfl A_b (i := c23) rfl (by rw [put_length (by rw [bys_len, dgs_len]; omega)]; omega) (x' := dg (mag i_) (j + 1)) (nar_dg _ _) n_b (w.safeL (own_WL hw) A_b (by rw [put_length (by rw [bys_len, dgs_len]; omega)]; omega)) (fun T h w W V => ?_)
            replace K0 := K0.wr W (Or.inl (List.mem_singleton.mpr rfl))
            rw [put_set (by rw [bys_len, dgs_len]; omega), ← bys_dgs] at V
            replace A_b := V
            refine g_iload w e28_104 (q := 106) rfl rfl ?_
            refine g_ifY w e28_106 (by decide) (q := 118) (by decide) (by decide) ?_
            refine g_iload w e28_118 (q := 120) rfl rfl ?_
            exact g_reti w e28_120 rfl (by decide) (by decide) ⟨⟨_, rfl⟩, K0, by obtain rfl : c23 = k_ := (by omega); rw [dec, if_neg hs_, hdl]; exact A_b⟩
        · refine g_icN w e28_25 (q := 28) rfl (Jvm.Free.XT.ii_gt_f (fun q => absurd ((gt_neg (K := 100) hm_ (by decide)).mp q) (by omega))) ?_
          have hd2 : j + 2 < dl (mag i_) := dl_gt (mag_le i_) (pow_ge (K := 100) (d := 2) rfl hm100)
          refine g_iloadN w e28_28 (q := 29) rfl rfl ?_
          refine g_bipush w e28_29 (q := 31) rfl (v := (100 : Int32)) (by decide) ?_
          refine g_idiv w e28_31 (q := 32) rfl (by decide) ?_
          rw [gc_div hm_]
          show Go p e below _ (State.setTop T (mkF m 32 #[.val (.int (-(Int32.ofNat (mag i_ / 10 ^ j)))), .val (.int (Int32.ofNat c0)), .val (.ref b), l3, l4, .val (.int (Int32.ofNat cp)), .val (.int (0 : Int32))] [(.int (-(Int32.ofNat (mag i_ / 10 ^ j / 100))))]))
          refine g_istoreN w e28_32 (q := 33) rfl (Ls' := #[.val (.int (-(Int32.ofNat (mag i_ / 10 ^ j)))), .val (.int (Int32.ofNat c0)), .val (.ref b), .val (.int (-(Int32.ofNat (mag i_ / 10 ^ j / 100)))), l4, .val (.int (Int32.ofNat cp)), .val (.int (0 : Int32))]) ((Jvm.Free.XS.store1 rfl hl3 rfl).trans rfl) ?_
          refine g_iloadN w e28_33 (q := 34) rfl rfl ?_
          refine g_bipush w e28_34 (q := 36) rfl (v := (100 : Int32)) (by decide) ?_
          refine g_imul w e28_36 (q := 37) rfl ?_
          refine g_iloadN w e28_37 (q := 38) rfl rfl ?_
          refine g_isub w e28_38 (q := 39) rfl ?_
          rw [gc_rem hm_]
          show Go p e below _ (State.setTop T (mkF m 39 #[.val (.int (-(Int32.ofNat (mag i_ / 10 ^ j)))), .val (.int (Int32.ofNat c0)), .val (.ref b), .val (.int (-(Int32.ofNat (mag i_ / 10 ^ j / 100)))), l4, .val (.int (Int32.ofNat cp)), .val (.int (0 : Int32))] [(.int (Int32.ofNat (mag i_ / 10 ^ j % 100)))]))
          refine g_istore w e28_39 (q := 41) rfl (Ls' := #[.val (.int (-(Int32.ofNat (mag i_ / 10 ^ j)))), .val (.int (Int32.ofNat c0)), .val (.ref b), .val (.int (-(Int32.ofNat (mag i_ / 10 ^ j / 100)))), .val (.int (Int32.ofNat (mag i_ / 10 ^ j % 100))), .val (.int (Int32.ofNat cp)), .val (.int (0 : Int32))]) ((Jvm.Free.XS.store1 rfl hl4 rfl).trans rfl) ?_
          refine g_iloadN w e28_41 (q := 42) rfl rfl ?_
          refine g_istoreN w e28_42 (q := 43) rfl (Ls' := #[.val (.int (-(Int32.ofNat (mag i_ / 10 ^ j / 100)))), .val (.int (Int32.ofNat c0)), .val (.ref b), .val (.int (-(Int32.ofNat (mag i_ / 10 ^ j / 100)))), .val (.int (Int32.ofNat (mag i_ / 10 ^ j % 100))), .val (.int (Int32.ofNat cp)), .val (.int (0 : Int32))]) rfl ?_
          refine g_aloadN w e28_43 (q := 44) rfl rfl rfl ?_
          obtain ⟨c25, rfl⟩ : ∃ c_, cp = c_ + 1 := ⟨cp - 1, by omega⟩
          refine g_iinc w e28_44 (q := 47) rfl (v := (-1 : Int32)) (by decide) rfl rfl ?_
          rw [ofNat_dec, ofNat_pred]
          show Go p e below _ (State.setTop T (mkF m 47 #[.val (.int (-(Int32.ofNat (mag i_ / 10 ^ j / 100)))), .val (.int (Int32.ofNat c0)), .val (.ref b), .val (.int (-(Int32.ofNat (mag i_ / 10 ^ j / 100)))), .val (.int (Int32.ofNat (mag i_ / 10 ^ j % 100))), .val (.int (Int32.ofNat c25)), .val (.int (0 : Int32))] [(.ref b)]))
          refine g_iload w e28_47 (q := 49) rfl rfl ?_
          refine g_getS w e28_49 (q := 52) rfl (Hw hw 162 rfl) Via.refl SO_ (fun T w => ?_)
          refine g_iload w e28_52 (q := 54) rfl rfl ?_
          refine g_baloadD w e28_54 (q := 55) rfl D1_ (i := mag i_ / 10 ^ j % 100) rfl (Nat.mod_lt _ (by decide)) (by decide) ?_
          show Go p e below _ (State.setTop T (mkF m 55 #[.val (.int (-(Int32.ofNat (mag i_ / 10 ^ j / 100)))), .val (.int (Int32.ofNat c0)), .val (.ref b), .val (.int (-(Int32.ofNat (mag i_ / 10 ^ j / 100)))), .val (.int (Int32.ofNat (mag i_ / 10 ^ j % 100))), .val (.int (Int32.ofNat c25)), .val (.int (0 : Int32))] [(.int (Int32.ofNat (48 + mag i_ / 10 ^ j % 100 % 10))), (.int (Int32.ofNat c25)), (.ref b)]))
          rw [dg_lo]
          show Go p e below _ (State.setTop T (mkF m 55 #[.val (.int (-(Int32.ofNat (mag i_ / 10 ^ j / 100)))), .val (.int (Int32.ofNat c0)), .val (.ref b), .val (.int (-(Int32.ofNat (mag i_ / 10 ^ j / 100)))), .val (.int (Int32.ofNat (mag i_ / 10 ^ j % 100))), .val (.int (Int32.ofNat c25)), .val (.int (0 : Int32))] [(.int (dg (mag i_) j)), (.int (Int32.ofNat c25)), (.ref b)]))
          refine g_bastore w e28_55 (q := 56) rfl A_b (i := c25) rfl (by rw [put_length (by rw [bys_len, dgs_len]; omega)]; omega) (x' := dg (mag i_) (j)) (nar_dg _ _) n_b (w.safeL (own_WL hw) A_b (by rw [put_length (by rw [bys_len, dgs_len]; omega)]; omega)) (fun T h w W V => ?_)
          replace K0 := K0.wr W (Or.inl (List.mem_singleton.mpr rfl))
          rw [put_set (by rw [bys_len, dgs_len]; omega), ← bys_dgs] at V
          replace A_b := V
          refine g_aloadN w e28_56 (q := 57) rfl rfl rfl ?_
          obtain ⟨c26, rfl⟩ : ∃ c_, c25 = c_ + 1 := ⟨c25 - 1, by omega⟩
          refine g_iinc w e28_57 (q := 60) rfl (v := (-1 : Int32)) (by decide) rfl rfl ?_
          rw [ofNat_dec, ofNat_pred]
          show Go p e below _ (State.setTop T (mkF m 60 #[.val (.int (-(Int32.ofNat (mag i_ / 10 ^ j / 100)))), .val (.int (Int32.ofNat c0)), .val (.ref b), .val (.int (-(Int32.ofNat (mag i_ / 10 ^ j / 100)))), .val (.int (Int32.ofNat (mag i_ / 10 ^ j % 100))), .val (.int (Int32.ofNat c26)), .val (.int (0 : Int32))] [(.ref b)]))
          refine g_iload w e28_60 (q := 62) rfl rfl ?_
          refine g_getS w e28_62 (q := 65) rfl (Hw hw 260 rfl) Via.refl SX_ (fun T w => ?_)
          refine g_iload w e28_65 (q := 67) rfl rfl ?_
          refine g_baloadD w e28_67 (q := 68) rfl D10_ (i := mag i_ / 10 ^ j % 100) rfl (Nat.mod_lt _ (by decide)) (by decide) ?_
          show Go p e below _ (State.setTop T (mkF m 68 #[.val (.int (-(Int32.ofNat (mag i_ / 10 ^ j / 100)))), .val (.int (Int32.ofNat c0)), .val (.ref b), .val (.int (-(Int32.ofNat (mag i_ / 10 ^ j / 100)))), .val (.int (Int32.ofNat (mag i_ / 10 ^ j % 100))), .val (.int (Int32.ofNat c26)), .val (.int (0 : Int32))] [(.int (Int32.ofNat (48 + mag i_ / 10 ^ j % 100 / 10))), (.int (Int32.ofNat c26)), (.ref b)]))
          rw [dg_hi]
          show Go p e below _ (State.setTop T (mkF m 68 #[.val (.int (-(Int32.ofNat (mag i_ / 10 ^ j / 100)))), .val (.int (Int32.ofNat c0)), .val (.ref b), .val (.int (-(Int32.ofNat (mag i_ / 10 ^ j / 100)))), .val (.int (Int32.ofNat (mag i_ / 10 ^ j % 100))), .val (.int (Int32.ofNat c26)), .val (.int (0 : Int32))] [(.int (dg (mag i_) (j + 1))), (.int (Int32.ofNat c26)), (.ref b)]))
          refine g_bastore w e28_68 (q := 69) rfl A_b (i := c26) rfl (by rw [put_length (by rw [bys_len, dgs_len]; omega)]; omega) (x' := dg (mag i_) (j + 1)) (nar_dg _ _) n_b (w.safeL (own_WL hw) A_b (by rw [put_length (by rw [bys_len, dgs_len]; omega)]; omega)) (fun T h w W V => ?_)
          replace K0 := K0.wr W (Or.inl (List.mem_singleton.mpr rfl))
          rw [put_set (by rw [bys_len, dgs_len]; omega), ← bys_dgs] at V
          replace A_b := V
          refine g_goto w e28_69 (by decide) (q := 22) (by decide) ?_
          exact ih (j + 2) c26 _ _ _ T _ _ (by rw [div_step]) (Or.inr (pow_ge (K := 100) (d := 2) rfl hm100)) (hr_next hr) (by omega) (Or.inr ⟨_, rfl, rfl⟩) (Or.inr ⟨_, rfl, rfl⟩) K0 A_b w
    exact LP 5 0 c0 _ _ _ T _ _ (by rw [Nat.pow_zero, Nat.div_one]; exact mag_pos hs_) (Or.inl rfl) (hr_start i_) (by omega) (Or.inl rfl) (Or.inl rfl) K0 (by rw [show bys (dgs (mag i_) 0) = [] from rfl, put_nil]; exact A_b) w
theorem e29_0 : decode jdk_68_method_32_code 0 = .ok (.aload_n 0, 1) := by decide +kernel
theorem e29_1 : decode jdk_68_method_32_code 1 = .ok (.getfield 79, 3) := by decide +kernel
theorem e29_4 : decode jdk_68_method_32_code 4 = .ok (.istore_n 2, 1) := by decide +kernel
theorem e29_5 : decode jdk_68_method_32_code 5 = .ok (.iload_n 2, 1) := by decide +kernel
theorem e29_6 : decode jdk_68_method_32_code 6 = .ok (.iload_n 1, 1) := by decide +kernel
theorem e29_7 : decode jdk_68_method_32_code 7 = .ok (.invokestatic 245, 3) := by decide +kernel
theorem e29_10 : decode jdk_68_method_32_code 10 = .ok (.iadd, 1) := by decide +kernel
theorem e29_11 : decode jdk_68_method_32_code 11 = .ok (.istore_n 3, 1) := by decide +kernel
theorem e29_12 : decode jdk_68_method_32_code 12 = .ok (.aload_n 0, 1) := by decide +kernel
theorem e29_13 : decode jdk_68_method_32_code 13 = .ok (.iload_n 3, 1) := by decide +kernel
theorem e29_14 : decode jdk_68_method_32_code 14 = .ok (.invokevirtual 100, 3) := by decide +kernel
theorem e29_17 : decode jdk_68_method_32_code 17 = .ok (.aload_n 0, 1) := by decide +kernel
theorem e29_18 : decode jdk_68_method_32_code 18 = .ok (.invokevirtual 83, 3) := by decide +kernel
theorem e29_21 : decode jdk_68_method_32_code 21 = .ok (.ifCond .eq 16, 3) := by decide +kernel
theorem e29_24 : decode jdk_68_method_32_code 24 = .ok (.iload_n 1, 1) := by decide +kernel
theorem e29_25 : decode jdk_68_method_32_code 25 = .ok (.iload_n 3, 1) := by decide +kernel
theorem e29_26 : decode jdk_68_method_32_code 26 = .ok (.aload_n 0, 1) := by decide +kernel
theorem e29_27 : decode jdk_68_method_32_code 27 = .ok (.getfield 15, 3) := by decide +kernel
theorem e29_30 : decode jdk_68_method_32_code 30 = .ok (.invokestatic 248, 3) := by decide +kernel
theorem e29_33 : decode jdk_68_method_32_code 33 = .ok (.pop, 1) := by decide +kernel
theorem e29_34 : decode jdk_68_method_32_code 34 = .ok (.goto 14, 3) := by decide +kernel
theorem e29_37 : decode jdk_68_method_32_code 37 = .ok (.iload_n 1, 1) := by decide +kernel
theorem e29_38 : decode jdk_68_method_32_code 38 = .ok (.iload_n 2, 1) := by decide +kernel
theorem e29_39 : decode jdk_68_method_32_code 39 = .ok (.iload_n 3, 1) := by decide +kernel
theorem e29_40 : decode jdk_68_method_32_code 40 = .ok (.aload_n 0, 1) := by decide +kernel
theorem e29_41 : decode jdk_68_method_32_code 41 = .ok (.getfield 15, 3) := by decide +kernel
theorem e29_44 : decode jdk_68_method_32_code 44 = .ok (.invokestatic 251, 3) := by decide +kernel
theorem e29_47 : decode jdk_68_method_32_code 47 = .ok (.pop, 1) := by decide +kernel
theorem e29_48 : decode jdk_68_method_32_code 48 = .ok (.aload_n 0, 1) := by decide +kernel
theorem e29_49 : decode jdk_68_method_32_code 49 = .ok (.iload_n 3, 1) := by decide +kernel
theorem e29_50 : decode jdk_68_method_32_code 50 = .ok (.putfield 79, 3) := by decide +kernel
theorem e29_53 : decode jdk_68_method_32_code 53 = .ok (.aload_n 0, 1) := by decide +kernel
theorem e29_54 : decode jdk_68_method_32_code 54 = .ok (.areturn, 1) := by decide +kernel
theorem pd18 : parseMethodDescriptor "(II[B)I" = some ⟨[.int, .int, (.array .byte)], some .int⟩ := by decide +kernel
set_option maxRecDepth 65536 in
set_option maxHeartbeats 40000000 in
theorem con_ai (l : Launch) (Z : State) (a0 : Array Value) (hw : ∀ d ∈ tables_1, d.before a0 Z = true) (x b d1 d10 : Addr) (i_ : Int32) (vs : List Value) (cs : List Int32) (h0 : Heap) (O0 : Ext Z.heap h0) (B_x : Bd Z h0 x b vs cs) (n_x : Z.heap.size ≤ x) (n_b : Z.heap.size ≤ b) (hm : cs.length + (dec i_).length ≤ 63) (hcm : Cpt Z) (SO_ : Sta Z Z.heap "java/lang/Integer" "DigitOnes" "[B" (.ref d1)) (SX_ : Sta Z Z.heap "java/lang/Integer" "DigitTens" "[B" (.ref d10)) (D1_ : Dg Z d1 100 (fun j => Int32.ofNat (48 + j % 10))) (D10_ : Dg Z d10 100 (fun j => Int32.ofNat (48 + j / 10))) :
    Con l Z consts_1 false (⟨"java/lang/AbstractStringBuilder", "append", "(I)Ljava/lang/AbstractStringBuilder;"⟩ : MethodName) jdk_68_method_32_code 4 (some (.object "java/lang/AbstractStringBuilder")) [] ({ frames := 4, cells := 1, slots := 126, locals := 62 } : Room) #[(.ref x), (.int i_)] [] h0 (fun v h => v = some (.ref x) ∧ Keep h0 h [x, b] ∧ ∃ b1 vs1, (b1 = b ∨ h0.size ≤ b1) ∧ Bd Z h x b1 vs1 (cs ++ dec i_)) := by
  refine Con.intro (Ls := #[.val (.ref x), .val (.int i_), .unset, .unset]) (plainFor_of_name pn2) (own_EL hw) O0 (fun m => by first | (simp [entryFrame, mkF, argsToLocals, Value.category]; done) | rfl) (fun p e s m below meth cc_ T w sf_ => ?_)
  have K0 := Keep.refl h0 [x, b]
  obtain ⟨z_, hz_, SC_⟩ := id hcm
  obtain ⟨X_x, F_value_x, F_coder_x, F_count_x, A_b, X_b, h16, h126, us_, hvs⟩ := B_x
  refine g_aloadN w e29_0 (q := 1) rfl rfl rfl ?_
  refine g_getF w e29_1 (q := 4) rfl (host := "") (Or.inl (Hw hw 85 rfl)) Via.refl F_count_x (fun T w => ?_)
  refine g_istoreN w e29_4 (q := 5) rfl (Ls' := #[.val (.ref x), .val (.int i_), .val (.int (Int32.ofNat cs.length)), .unset]) rfl ?_
  refine g_iloadN w e29_5 (q := 6) rfl rfl ?_
  refine g_iloadN w e29_6 (q := 7) rfl rfl ?_
  refine g_staticP w (con_ss l Z a0 hw i_ _ w.old) no0 e29_7 (q := 10) rfl rfl (Hw hw 150 rfl) (Hw hw 151 rfl) (Hw hw 152 rfl) (Hw hw 153 rfl) (by decide) pd7 rfl rfl (W := 1) (Nat.le_of_eq rfl) (by decide) (by decide) (by decide) (by decide) (fun T v w C q => ?_)
  obtain rfl := q
  show Go p e below _ (State.setTop T (mkF m 10 #[.val (.ref x), .val (.int i_), .val (.int (Int32.ofNat cs.length)), .unset] [(.int (Int32.ofNat (dec i_).length)), (.int (Int32.ofNat cs.length))]))
  refine g_iadd w e29_10 (q := 11) rfl ?_
  rw [oN_add]
  show Go p e below _ (State.setTop T (mkF m 11 #[.val (.ref x), .val (.int i_), .val (.int (Int32.ofNat cs.length)), .unset] [(.int (Int32.ofNat (cs.length + (dec i_).length)))]))
  refine g_istoreN w e29_11 (q := 12) rfl (Ls' := #[.val (.ref x), .val (.int i_), .val (.int (Int32.ofNat cs.length)), .val (.int (Int32.ofNat (cs.length + (dec i_).length)))]) rfl ?_
  refine g_aloadN w e29_12 (q := 13) rfl rfl rfl ?_
  refine g_iloadN w e29_13 (q := 14) rfl rfl ?_
  refine g_priv w (con_ec l Z a0 hw x b (cs.length + (dec i_).length) _ vs _ w.old X_x F_value_x F_coder_x F_count_x A_b X_b n_x (by omega) h126) no0 X_x e29_14 (q := 17) rfl rfl (Hw hw 87 rfl) (Hw hw 89 rfl) (selOwn (Hw hw 88 rfl) (Hw hw 90 rfl) (Hw hw 89 rfl) (by decide)) (Hw hw 88 rfl) (Hw hw 55 rfl) (Hw hw 91 rfl) (by decide) pd1 rfl rfl (W := 0) (Nat.le_of_eq rfl) (by decide) (by decide) (by decide) (by decide) (fun T h v w gs C q => ?_)
  obtain ⟨rfl, K, G_X, b1, us1, hb1, G_v, G_c, G_n, A_b1, X_b1, hc1, hc2⟩ := q
  have zb1 : b1 ∈ [x, b] ∨ h0.size ≤ b1 := hb1.elim (fun e_ => by rw [e_]; exact Or.inl m2) (fun g_ => Or.inr (Nat.le_trans K0.1 g_))
  have n_b1 : Z.heap.size ≤ b1 := hb1.elim (fun e_ => by rw [e_]; exact n_b) (fun g_ => Nat.le_trans (Nat.le_trans O0.1 K0.1) g_)
  have hz1 : b1 = b ∨ h0.size ≤ b1 := hb1.imp id (fun g_ => Nat.le_trans K0.1 g_)
  replace K0 := K0.trans K (in1 (Or.inl m1))
  replace X_x := G_X
  replace F_value_x := G_v
  replace F_coder_x := G_c
  replace F_count_x := G_n
  have ne_x_b1 := ne_xar X_x A_b1 (Hw hw 46 rfl)
  show Go p e below _ (State.setTop T (mkF m 17 #[.val (.ref x), .val (.int i_), .val (.int (Int32.ofNat cs.length)), .val (.int (Int32.ofNat (cs.length + (dec i_).length)))] []))
  refine g_aloadN w e29_17 (q := 18) rfl rfl rfl ?_
  refine g_virtualP w (con_aisl l Z a0 hw x _ w.old F_coder_x hcm) no0 X_x e29_18 (q := 21) rfl rfl (Hw hw 154 rfl) (Hw hw 155 rfl) (Hw hw 157 rfl) (Hw hw 156 rfl) (Hw hw 55 rfl) (Hw hw 158 rfl) (by decide) (nf (Hw hw 157 rfl)) pd15 rfl rfl (W := 0) (Nat.le_of_eq rfl) (by decide) (by decide) (by decide) (by decide) (fun T v w C q => ?_)
  obtain rfl := q
  show Go p e below _ (State.setTop T (mkF m 21 #[.val (.ref x), .val (.int i_), .val (.int (Int32.ofNat cs.length)), .val (.int (Int32.ofNat (cs.length + (dec i_).length)))] [(.int (1 : Int32))]))
  refine g_ifN w e29_21 (q := 24) rfl (by decide) ?_
  refine g_iloadN w e29_24 (q := 25) rfl rfl ?_
  refine g_iloadN w e29_25 (q := 26) rfl rfl ?_
  refine g_aloadN w e29_26 (q := 27) rfl rfl rfl ?_
  refine g_getF w e29_27 (q := 30) rfl (host := "") (Or.inl (Hw hw 59 rfl)) Via.refl F_value_x (fun T w => ?_)
  refine g_static w (con_gc l Z a0 hw b1 d1 d10 i_ cs.length _ _ _ w.old A_b1 n_b1 rfl hc1 (by rw [List.length_append]; omega) hc2 SO_ SX_ D1_ D10_) no0 e29_30 (q := 33) rfl rfl (Hw hw 159 rfl) (Hw hw 160 rfl) (Hw hw 152 rfl) (Hw hw 161 rfl) (by decide) pd18 rfl rfl (W := 0) (Nat.le_of_eq rfl) (by decide) (by decide) (by decide) (by decide) (fun T h v w gs C q => ?_)
  obtain ⟨⟨zz, rfl⟩, K, V⟩ := q
  replace K0 := K0.trans K (in1 zb1)
  replace X_x := X_x.keep K
  replace X_b1 := X_b1.keep K
  replace F_value_x := F_value_x.keep K (not1 ne_x_b1)
  replace F_coder_x := F_coder_x.keep K (not1 ne_x_b1)
  replace F_count_x := F_count_x.keep K (not1 ne_x_b1)
  replace A_b1 := V
  show Go p e below _ (State.setTop T (mkF m 33 #[.val (.ref x), .val (.int i_), .val (.int (Int32.ofNat cs.length)), .val (.int (Int32.ofNat (cs.length + (dec i_).length)))] [(.int zz)]))
  refine g_pop w e29_33 (q := 34) rfl rfl ?_
  refine g_goto w e29_34 (by decide) (q := 48) (by decide) ?_
  refine g_aloadN w e29_48 (q := 49) rfl rfl rfl ?_
  refine g_iloadN w e29_49 (q := 50) rfl rfl ?_
  have g_ := w.chv
  refine g_putF w e29_50 (q := 53) rfl (Hw hw 85 rfl) Via.refl F_count_x X_x (Or.inl (Hw hw 86 rfl)) (Hw hw 46 rfl) (ty := .int) (by decide) (v' := (.int (Int32.ofNat (cs.length + (dec i_).length)))) rfl rfl n_x (w.safe X_x (by decide) (by decide)) (fun T h w W => ?_)
  replace K0 := K0.wr W (Or.inl m1)
  replace X_x := X_x.wr W
  replace F_value_x := F_value_x.other W (Or.inr (slot_ne (Or.inl (Hw hw 60 rfl)) (Or.inl (Hw hw 86 rfl)) (by decide) (t := (.array .byte)) (t' := .int) (by decide) (by decide)))
  replace F_coder_x := F_coder_x.other W (Or.inr (slot_ne (Or.inl (Hw hw 62 rfl)) (Or.inl (Hw hw 86 rfl)) (by decide) (t := .byte) (t' := .int) (by decide) (by decide)))
  replace F_count_x := F_count_x.same W
  replace A_b1 := A_b1.other W ne_x_b1.symm
  replace X_b1 := X_b1.wr W
  refine g_aloadN w e29_53 (q := 54) rfl rfl rfl ?_
  exact g_reta w e29_54 rfl rfl rfl (by decide) (by decide) ⟨rfl, K0, b1, _, hz1, X_x, F_value_x, F_coder_x, by rw [List.length_append]; exact F_count_x, A_b1, X_b1, by rw [put_length (by rw [bys_len]; exact hc1), List.length_append]; omega, by rw [put_length (by rw [bys_len]; exact hc1)]; exact hc2, put_pre (us := us_ ++ us1) (by rw [hvs, List.append_assoc])⟩
theorem e30_0 : decode jdk_67_method_15_code 0 = .ok (.aload_n 0, 1) := by decide +kernel
theorem e30_1 : decode jdk_67_method_15_code 1 = .ok (.iload_n 1, 1) := by decide +kernel
theorem e30_2 : decode jdk_67_method_15_code 2 = .ok (.invokespecial 53, 3) := by decide +kernel
theorem e30_5 : decode jdk_67_method_15_code 5 = .ok (.pop, 1) := by decide +kernel
theorem e30_6 : decode jdk_67_method_15_code 6 = .ok (.aload_n 0, 1) := by decide +kernel
theorem e30_7 : decode jdk_67_method_15_code 7 = .ok (.areturn, 1) := by decide +kernel
theorem pd19 : parseMethodDescriptor "(I)Ljava/lang/AbstractStringBuilder;" = some ⟨[.int], some (.object "java/lang/AbstractStringBuilder")⟩ := by decide +kernel
set_option maxRecDepth 65536 in
set_option maxHeartbeats 40000000 in
theorem con_sai (l : Launch) (Z : State) (a0 : Array Value) (hw : ∀ d ∈ tables_1, d.before a0 Z = true) (x b d1 d10 : Addr) (i_ : Int32) (vs : List Value) (cs : List Int32) (h0 : Heap) (O0 : Ext Z.heap h0) (B_x : Bd Z h0 x b vs cs) (n_x : Z.heap.size ≤ x) (n_b : Z.heap.size ≤ b) (hm : cs.length + (dec i_).length ≤ 63) (hcm : Cpt Z) (SO_ : Sta Z Z.heap "java/lang/Integer" "DigitOnes" "[B" (.ref d1)) (SX_ : Sta Z Z.heap "java/lang/Integer" "DigitTens" "[B" (.ref d10)) (D1_ : Dg Z d1 100 (fun j => Int32.ofNat (48 + j % 10))) (D10_ : Dg Z d10 100 (fun j => Int32.ofNat (48 + j / 10))) :
    Con l Z consts_1 false (⟨"java/lang/StringBuilder", "append", "(I)Ljava/lang/StringBuilder;"⟩ : MethodName) jdk_67_method_15_code 2 (some (.object "java/lang/StringBuilder")) [] ({ frames := 5, cells := 1, slots := 126, locals := 77 } : Room) #[(.ref x), (.int i_)] [] h0 (fun v h => v = some (.ref x) ∧ Keep h0 h [x, b] ∧ ∃ b1 vs1, (b1 = b ∨ h0.size ≤ b1) ∧ Bd Z h x b1 vs1 (cs ++ dec i_)) := by
  refine Con.intro (Ls := #[.val (.ref x), .val (.int i_)]) (plainFor_of_name pn3) (own_EL hw) O0 (fun m => by first | (simp [entryFrame, mkF, argsToLocals, Value.category]; done) | rfl) (fun p e s m below meth cc_ T w sf_ => ?_)
  have K0 := Keep.refl h0 [x, b]
  refine g_aloadN w e30_0 (q := 1) rfl rfl rfl ?_
  refine g_iloadN w e30_1 (q := 2) rfl rfl ?_
  refine g_super w (con_ai l Z a0 hw x b d1 d10 i_ vs cs _ w.old B_x n_x n_b hm hcm SO_ SX_ D1_ D10_) no0 e30_2 (q := 5) rfl rfl B_x.exa (by decide) (Hw hw 146 rfl) (Hw hw 71 rfl) (Hw hw 90 rfl) rfl (Hw hw 147 rfl) (Hw hw 55 rfl) (Hw hw 149 rfl) (by decide) pd19 rfl rfl (W := 0) (Nat.le_of_eq rfl) (by decide) (by decide) (by decide) (by decide) (fun T h v w gs C q => ?_)
  obtain ⟨rfl, K, b1, vs1, hb1, B1⟩ := q
  replace K0 := K0.trans K (in2 (Or.inl m1) (Or.inl m2))
  show Go p e below _ (State.setTop T (mkF m 5 #[.val (.ref x), .val (.int i_)] [(.ref x)]))
  refine g_pop w e30_5 (q := 6) rfl rfl ?_
  refine g_aloadN w e30_6 (q := 7) rfl rfl rfl ?_
  exact g_reta w e30_7 rfl rfl rfl (by decide) (by decide) ⟨rfl, K0, b1, vs1, hb1, B1⟩
theorem bys58 : bys [58] = [Value.int 58] := by
  show [Value.int ((58 : Int32).toInt8.toInt32)] = _
  rw [show (58 : Int32).toInt8.toInt32 = 58 from by decide]
theorem lo58 {x : Int32} (hx : Lt8 x) (h : x.toInt8.toInt32 = 58) : x = 58 := lo8_inj hx (by constructor <;> decide) (by rw [h]; decide)
def hp (hs : List Int32) : List Int32 := if fix 58 hs 0 < 0 then hs else 91 :: (hs ++ [93])
abbrev RED : List Int32 := [114, 101, 100, 105, 115, 58, 47, 47]
def full (hs : List Int32) (a b : Int32) : List Int32 := RED ++ (hp hs ++ (58 :: (dec a ++ (47 :: dec b))))
theorem app_lat {as bs : List Int32} (h1 : ∀ c ∈ as, Lt8 c) (h2 : ∀ c ∈ bs, Lt8 c) : ∀ c ∈ as ++ bs, Lt8 c := fun c hc => (List.mem_append.mp hc).elim (h1 c) (h2 c)
theorem in_lat {hs : List Int32} (h : ∀ c ∈ hs, Lt8 c) : ∀ c ∈ 91 :: (hs ++ [93]), Lt8 c := csS (by constructor <;> decide) (app_lat h (csS (by constructor <;> decide) cs0))
theorem hp_lat {hs : List Int32} (h : ∀ c ∈ hs, Lt8 c) : ∀ c ∈ hp hs, Lt8 c := by
  unfold hp; split
  · exact h
  · exact in_lat h
theorem full_lat {hs : List Int32} (h : ∀ c ∈ hs, Lt8 c) (a b : Int32) : ∀ c ∈ full hs a b, Lt8 c :=
  app_lat (by unfold Lt8; decide) (app_lat (hp_lat h) (csS (by constructor <;> decide) (app_lat (dec_lat a) (csS (by constructor <;> decide) (dec_lat b)))))
theorem hp_len (hs : List Int32) : (hp hs).length ≤ hs.length + 2 := by unfold hp; split <;> simp
theorem full_len (hs : List Int32) (a b : Int32) : (full hs a b).length = 8 + (hp hs).length + 1 + (dec a).length + 1 + (dec b).length := by simp [full, RED]; omega
theorem full_no {hs : List Int32} {a b : Int32} (h : fix 58 hs 0 < 0) : [] ++ RED ++ hs ++ [58] ++ dec a ++ [47] ++ dec b = full hs a b := by simp [full, hp, h]
theorem full_yes {hs : List Int32} {a b : Int32} (h : ¬ fix 58 hs 0 < 0) : [] ++ RED ++ (91 :: (hs ++ [93])) ++ [58] ++ dec a ++ [47] ++ dec b = full hs a b := by simp [full, hp, h]
theorem getD_mid {A B C : List Int32} {t k : Nat} (h : t < B.length) (hk : k = A.length + t) : (A ++ (B ++ C)).getD k 0 = B.getD t 0 := by
  subst hk; rw [List.getD_eq_getElem?_getD, List.getElem?_append_right (by omega), Nat.add_sub_cancel_left, List.getElem?_append_left h, ← List.getD_eq_getElem?_getD]
theorem f_host {hs : List Int32} {a b : Int32} (h : fix 58 hs 0 < 0) {t : Nat} (ht : t < hs.length) : (full hs a b).getD (8 + t) 0 = hs.getD t 0 := by
  unfold full hp; rw [if_pos h]; exact getD_mid ht rfl
theorem f_hostB {hs : List Int32} {a b : Int32} (h : ¬ fix 58 hs 0 < 0) {t : Nat} (ht : t < hs.length) : (full hs a b).getD (9 + t) 0 = hs.getD t 0 := by
  unfold full hp; rw [if_neg h, show RED ++ ((91 :: (hs ++ [93])) ++ (58 :: (dec a ++ (47 :: dec b)))) = (RED ++ [91]) ++ (hs ++ ([93] ++ (58 :: (dec a ++ (47 :: dec b))))) from by simp]; exact getD_mid ht rfl
theorem f_open {hs : List Int32} {a b : Int32} (h : ¬ fix 58 hs 0 < 0) : (full hs a b).getD 8 0 = 91 := by unfold full hp; rw [if_neg h]; rfl
theorem f_close {hs : List Int32} {a b : Int32} (h : ¬ fix 58 hs 0 < 0) : (full hs a b).getD (9 + hs.length) 0 = 93 := by
  unfold full hp; rw [if_neg h, show RED ++ ((91 :: (hs ++ [93])) ++ (58 :: (dec a ++ (47 :: dec b)))) = (RED ++ [91] ++ hs) ++ ([93] ++ (58 :: (dec a ++ (47 :: dec b)))) from by simp]
  rw [getD_mid (t := 0) (by decide) (by simp [RED]; omega)]; rfl
theorem hp_no {hs : List Int32} (h : fix 58 hs 0 < 0) : (hp hs).length = hs.length := by unfold hp; rw [if_pos h]
theorem hp_yes {hs : List Int32} (h : ¬ fix 58 hs 0 < 0) : (hp hs).length = hs.length + 2 := by unfold hp; rw [if_neg h]; simp
theorem f_colon {hs : List Int32} {a b : Int32} {k : Nat} (hk : k = 8 + (hp hs).length) : (full hs a b).getD k 0 = 58 := by
  unfold full
  rw [show RED ++ (hp hs ++ (58 :: (dec a ++ (47 :: dec b)))) = (RED ++ hp hs) ++ ([58] ++ (dec a ++ (47 :: dec b))) from by simp, getD_mid (t := 0) (by decide) (by simp [RED]; omega)]; rfl
theorem f_port {hs : List Int32} {a b : Int32} {k t : Nat} (ht : t < (dec a).length) (hk : k = 8 + (hp hs).length + 1 + t) : (full hs a b).getD k 0 = (dec a).getD t 0 := by
  unfold full
  rw [show RED ++ (hp hs ++ (58 :: (dec a ++ (47 :: dec b)))) = (RED ++ hp hs ++ [58]) ++ (dec a ++ (47 :: dec b)) from by simp, getD_mid ht (by simp [RED]; omega)]
theorem f_slash {hs : List Int32} {a b : Int32} {k : Nat} (hk : k = 8 + (hp hs).length + 1 + (dec a).length) : (full hs a b).getD k 0 = 47 := by
  unfold full
  rw [show RED ++ (hp hs ++ (58 :: (dec a ++ (47 :: dec b)))) = (RED ++ hp hs ++ [58] ++ dec a) ++ ([47] ++ dec b) from by simp, getD_mid (t := 0) (by decide) (by simp [RED]; omega)]; rfl
theorem f_db {hs : List Int32} {a b : Int32} {k t : Nat} (ht : t < (dec b).length) (hk : k = 8 + (hp hs).length + 2 + (dec a).length + t) : (full hs a b).getD k 0 = (dec b).getD t 0 := by
  unfold full
  rw [show RED ++ (hp hs ++ (58 :: (dec a ++ (47 :: dec b)))) = (RED ++ hp hs ++ [58] ++ dec a ++ [47]) ++ (dec b ++ []) from by simp, getD_mid ht (by simp [RED]; omega)]
def sg3 (n a b c : Int32) : List Int32 := if n = 0 then [] else if n = 1 then [a] else if n = 2 then [a, b] else [a, b, c]
def In4 (n : Int32) : Prop := n = 0 ∨ n = 1 ∨ n = 2 ∨ n = 3
theorem sg3_len {n a b c : Int32} : (sg3 n a b c).length ≤ 3 := by unfold sg3; (repeat' split) <;> simp
theorem sg3_n {n a b c : Int32} (h : In4 n) : n = Int32.ofNat (sg3 n a b c).length := by rcases h with rfl | rfl | rfl | rfl <;> rfl
theorem sg3_fix {n a b c : Int32} (h : In4 n) : ¬ fix 58 (sg3 n a b c) 0 < 0 ↔ ((¬ n < 1 ∧ a = 58) ∨ (¬ n < 2 ∧ b = 58) ∨ (¬ n < 3 ∧ c = 58)) := by
  rcases h with rfl | rfl | rfl | rfl
  · simp [sg3, fix]
  · by_cases ha : a = 58 <;> simp [sg3, fix, ha]
  · by_cases ha : a = 58 <;> by_cases hb : b = 58 <;> simp [sg3, fix, ha, hb]
  · by_cases ha : a = 58 <;> by_cases hb : b = 58 <;> by_cases hc : c = 58 <;> simp [sg3, fix, ha, hb, hc]
theorem sg3_at0 {n a b c : Int32} (h : In4 n) (q : ¬ n < 1) : 0 < (sg3 n a b c).length ∧ (sg3 n a b c).getD 0 0 = a := by rcases h with rfl | rfl | rfl | rfl <;> first | exact absurd (by decide) q | exact ⟨Nat.le_of_ble_eq_true rfl, rfl⟩
theorem sg3_at1 {n a b c : Int32} (h : In4 n) (q : ¬ n < 2) : 1 < (sg3 n a b c).length ∧ (sg3 n a b c).getD 1 0 = b := by rcases h with rfl | rfl | rfl | rfl <;> first | exact absurd (by decide) q | exact ⟨Nat.le_of_ble_eq_true rfl, rfl⟩
theorem sg3_at2 {n a b c : Int32} (h : In4 n) (q : ¬ n < 3) : 2 < (sg3 n a b c).length ∧ (sg3 n a b c).getD 2 0 = c := by rcases h with rfl | rfl | rfl | rfl <;> first | exact absurd (by decide) q | exact ⟨Nat.le_of_ble_eq_true rfl, rfl⟩
/-- the long side -/
abbrev absL (i : Int32) : Int64 := if i.toInt64 < 0 then -i.toInt64 else i.toInt64
theorem absL_int (i : Int32) : (absL i).toInt = (mag i : Int) := by
  have e := Jvm.RoadKit.c_i2l i; have r := Jvm.RoadKit.rng32 i
  unfold mag
  by_cases q : i.toInt64 < 0
  · rw [absL, if_pos q]
    have q' : i.toInt < 0 := by rw [Int64.lt_iff_toInt_lt, e] at q; simpa using q
    have c := Jvm.RoadKit.c_lneg i.toInt64; have r2 := Jvm.RoadKit.rng64 (-i.toInt64); rw [e] at c; omega
  · rw [absL, if_neg q, e]
    have q' : ¬ i.toInt < 0 := by rw [Int64.lt_iff_toInt_lt, e] at q; simpa using q
    omega
theorem abs_lt {i : Int32} {P : Int64} {K : Nat} (hP : P.toInt = K) : absL i < P ↔ mag i < K := by rw [Int64.lt_iff_toInt_lt, absL_int, hP]; omega
theorem dd_n {i : Int32} (h : i < 0) : Int32.ofNat (dec i).length - 1 = Int32.ofNat (dl (mag i)) := by rw [dec_len, if_pos h, Nat.add_comm, ofNat_pred]
theorem dd_p {i : Int32} (h : ¬ i < 0) : Int32.ofNat (dec i).length - 0 = Int32.ofNat (dl (mag i)) := by rw [dec_len, if_neg h, sub0, Nat.zero_add]
theorem oN_s1 {a : Nat} (h : 1 ≤ a) : Int32.ofNat a - 1 = Int32.ofNat (a - 1) := oN_sub h
theorem add0 (x : Int32) : x + 0 = x := Int32.add_zero x
theorem oN_8 (k : Nat) : 8 + Int32.ofNat k = Int32.ofNat (8 + k) := oN_add 8 k
theorem oN_9 (k : Nat) : 9 + Int32.ofNat k = Int32.ofNat (9 + k) := oN_add 9 k
/-- the digit that the law asks for -/
theorem dig_val {A P : Int64} {n k : Nat} (hA : A.toInt = n) (hP : P.toInt = ((10 ^ k : Nat) : Int)) (hP1 : P ≠ -1) (hn : n ≤ 2147483648) (hk : k < 10) : (48 + ((A / P) - ((A / P) / 10) * 10).toInt32).toUInt32.toUInt16.toUInt32.toInt32 = dg n k := by
  have p0 : 0 < 10 ^ k := Nat.pow_pos (by decide)
  have d := (Jvm.RoadKit.c_ldiv A P _ hP hP1).1 (by omega)
  rw [hA] at d
  have d' : (A / P).toInt = ((n / 10 ^ k : Nat) : Int) := by rw [d]; exact (Int.natCast_ediv n (10 ^ k)).symm
  have rm := (Jvm.RoadKit.c_lrem (A / P) 10 10 rfl).1 (by rw [d']; exact Int.natCast_nonneg _)
  rw [d'] at rm
  have e1 : (n / 10 ^ k) % 10 < 10 := Nat.mod_lt _ (by decide)
  have e2 : ((A / P) - ((A / P) / 10) * 10).toInt32.toInt = ((n / 10 ^ k % 10 : Nat) : Int) := by
    have c := Jvm.RoadKit.c_l2i ((A / P) - ((A / P) / 10) * 10)
    have r := Jvm.RoadKit.rng32 ((A / P) - ((A / P) / 10) * 10).toInt32
    rw [rm] at c; omega
  have e3 : (48 + ((A / P) - ((A / P) / 10) * 10).toInt32) = dg n k := by
    apply ofInt_eq; unfold dg; rw [oN_int (by omega)]
    have c := Jvm.RoadKit.c_iadd 48 ((A / P) - ((A / P) / 10) * 10).toInt32
    have r := Jvm.RoadKit.rng32 (48 + ((A / P) - ((A / P) / 10) * 10).toInt32)
    rw [e2, show (48 : Int32).toInt = 48 from rfl] at c; omega
  rw [e3]; exact nar_lat (dg_lat n k)
/-- where the digits of dec stand -/
theorem dec_dig {i : Int32} {k : Nat} (hk : k < dl (mag i)) : (dec i).getD ((dec i).length - 1 - k) 0 = dg (mag i) k := by
  have r := dl_range (mag i)
  by_cases q : i < 0
  · have e := dgs_at (mag i) (dl (mag i)) k hk
    rw [show (dec i).length - 1 - k = (dl (mag i) - 1 - k) + 1 from by rw [dec_len, if_pos q]; omega]
    unfold dec; rw [if_pos q]; simpa using e
  · have e := dgs_at (mag i) (dl (mag i)) k hk
    rw [show (dec i).length - 1 - k = (dl (mag i) - 1 - k) from by rw [dec_len, if_neg q]; omega]
    unfold dec; rw [if_neg q]; exact e
theorem dec_sign {i : Int32} (h : i < 0) : (dec i).getD 0 0 = 45 := by unfold dec; rw [if_pos h]; rfl

theorem e31_0 : decode jdk_42_method_126_code 0 = .ok (.aload_n 0, 1) := by decide +kernel
theorem e31_1 : decode jdk_42_method_126_code 1 = .ok (.areturn, 1) := by decide +kernel
set_option maxRecDepth 65536 in
set_option maxHeartbeats 40000000 in
theorem con_sts (l : Launch) (Z : State) (a0 : Array Value) (hw : ∀ d ∈ tables_1, d.before a0 Z = true) (x : Addr) (h0 : Heap) (O0 : Ext Z.heap h0) :
    Con l Z consts_1 false (⟨"java/lang/String", "toString", "()Ljava/lang/String;"⟩ : MethodName) jdk_42_method_126_code 1 (some (.object "java/lang/String")) [] ({ frames := 0, cells := 0, slots := 0, locals := 0 } : Room) #[(.ref x)] [] h0 (fun v h => v = some (.ref x) ∧ h = h0) := by
  refine Con.intro (Ls := #[.val (.ref x)]) (plainFor_of_name pn0) (own_EL hw) O0 (fun m => by first | (simp [entryFrame, mkF, argsToLocals, Value.category]; done) | rfl) (fun p e s m below meth cc_ T w sf_ => ?_)
  have E0 := ext_refl h0
  refine g_aloadN w e31_0 (q := 1) rfl rfl rfl ?_
  exact g_reta w e31_1 rfl rfl rfl (by decide) (by decide) ⟨rfl, rfl⟩
theorem e32_0 : decode jdk_42_method_154_code 0 = .ok (.getstatic 38, 3) := by decide +kernel
theorem e32_3 : decode jdk_42_method_154_code 3 = .ok (.ifCond .eq 14, 3) := by decide +kernel
theorem e32_6 : decode jdk_42_method_154_code 6 = .ok (.aload_n 0, 1) := by decide +kernel
theorem e32_7 : decode jdk_42_method_154_code 7 = .ok (.getfield 15, 3) := by decide +kernel
theorem e32_10 : decode jdk_42_method_154_code 10 = .ok (.ifCond .ne 7, 3) := by decide +kernel
theorem e32_13 : decode jdk_42_method_154_code 13 = .ok (.iconst 1, 1) := by decide +kernel
theorem e32_14 : decode jdk_42_method_154_code 14 = .ok (.goto 4, 3) := by decide +kernel
theorem e32_17 : decode jdk_42_method_154_code 17 = .ok (.iconst 0, 1) := by decide +kernel
theorem e32_18 : decode jdk_42_method_154_code 18 = .ok (.ireturn, 1) := by decide +kernel
set_option maxRecDepth 65536 in
set_option maxHeartbeats 40000000 in
theorem con_isl (l : Launch) (Z : State) (a0 : Array Value) (hw : ∀ d ∈ tables_1, d.before a0 Z = true) (x : Addr) (cs : List Int32) (h0 : Heap) (O0 : Ext Z.heap h0) (S_x : Sg Z h0 x cs) (hcm : Cpt Z) :
    Con l Z consts_1 false (⟨"java/lang/String", "isLatin1", "()Z"⟩ : MethodName) jdk_42_method_154_code 1 (some .boolean) [] ({ frames := 0, cells := 0, slots := 0, locals := 0 } : Room) #[(.ref x)] [] h0 (fun v h => v = some (.int 1) ∧ h = h0) := by
  refine Con.intro (Ls := #[.val (.ref x)]) (plainFor_of_name pn0) (own_EL hw) O0 (fun m => by first | (simp [entryFrame, mkF, argsToLocals, Value.category]; done) | rfl) (fun p e s m below meth cc_ T w sf_ => ?_)
  have E0 := ext_refl h0
  obtain ⟨z_, hz_, SC_⟩ := id hcm
  obtain ⟨t_, F_v, F_c, A_t⟩ := S_x.ar
  refine g_getS w e32_0 (q := 3) rfl (Hw hw 84 rfl) Via.refl SC_ (fun T w => ?_)
  refine g_ifN w e32_3 (q := 6) rfl (Jvm.Free.XT.i0_eq_f hz_) ?_
  refine g_aloadN w e32_6 (q := 7) rfl rfl rfl ?_
  refine g_getF w e32_7 (q := 10) rfl (host := "") (Or.inl (Hw hw 21 rfl)) Via.refl F_c (fun T w => ?_)
  refine g_ifN w e32_10 (q := 13) rfl (by decide) ?_
  refine g_iconst w e32_13 (q := 14) rfl (v := (1 : Int32)) (by decide) ?_
  refine g_goto w e32_14 (by decide) (q := 18) (by decide) ?_
  exact g_retn w e32_18 rfl (by simp) rfl (by decide) (by decide) ⟨rfl, rfl⟩
theorem e33_0 : decode jdk_43_method_25_code 0 = .ok (.aload_n 2, 1) := by decide +kernel
theorem e33_1 : decode jdk_43_method_25_code 1 = .ok (.iconst 0, 1) := by decide +kernel
theorem e33_2 : decode jdk_43_method_25_code 2 = .ok (.baload, 1) := by decide +kernel
theorem e33_3 : decode jdk_43_method_25_code 3 = .ok (.istore 5, 2) := by decide +kernel
theorem e33_5 : decode jdk_43_method_25_code 5 = .ok (.iload_n 1, 1) := by decide +kernel
theorem e33_6 : decode jdk_43_method_25_code 6 = .ok (.iload_n 3, 1) := by decide +kernel
theorem e33_7 : decode jdk_43_method_25_code 7 = .ok (.isub, 1) := by decide +kernel
theorem e33_8 : decode jdk_43_method_25_code 8 = .ok (.istore 6, 2) := by decide +kernel
theorem e33_10 : decode jdk_43_method_25_code 10 = .ok (.iload 4, 2) := by decide +kernel
theorem e33_12 : decode jdk_43_method_25_code 12 = .ok (.istore 7, 2) := by decide +kernel
theorem e33_14 : decode jdk_43_method_25_code 14 = .ok (.iload 7, 2) := by decide +kernel
theorem e33_16 : decode jdk_43_method_25_code 16 = .ok (.iload 6, 2) := by decide +kernel
theorem e33_18 : decode jdk_43_method_25_code 18 = .ok (.if_icmp .gt 101, 3) := by decide +kernel
theorem e33_21 : decode jdk_43_method_25_code 21 = .ok (.aload_n 0, 1) := by decide +kernel
theorem e33_22 : decode jdk_43_method_25_code 22 = .ok (.iload 7, 2) := by decide +kernel
theorem e33_24 : decode jdk_43_method_25_code 24 = .ok (.baload, 1) := by decide +kernel
theorem e33_25 : decode jdk_43_method_25_code 25 = .ok (.iload 5, 2) := by decide +kernel
theorem e33_27 : decode jdk_43_method_25_code 27 = .ok (.if_icmp .eq 25, 3) := by decide +kernel
theorem e33_30 : decode jdk_43_method_25_code 30 = .ok (.iinc 7 1, 3) := by decide +kernel
theorem e33_33 : decode jdk_43_method_25_code 33 = .ok (.iload 7, 2) := by decide +kernel
theorem e33_35 : decode jdk_43_method_25_code 35 = .ok (.iload 6, 2) := by decide +kernel
theorem e33_37 : decode jdk_43_method_25_code 37 = .ok (.if_icmp .gt 15, 3) := by decide +kernel
theorem e33_40 : decode jdk_43_method_25_code 40 = .ok (.aload_n 0, 1) := by decide +kernel
theorem e33_41 : decode jdk_43_method_25_code 41 = .ok (.iload 7, 2) := by decide +kernel
theorem e33_43 : decode jdk_43_method_25_code 43 = .ok (.baload, 1) := by decide +kernel
theorem e33_44 : decode jdk_43_method_25_code 44 = .ok (.iload 5, 2) := by decide +kernel
theorem e33_46 : decode jdk_43_method_25_code 46 = .ok (.if_icmp .eq 6, 3) := by decide +kernel
theorem e33_49 : decode jdk_43_method_25_code 49 = .ok (.goto (-19), 3) := by decide +kernel
theorem e33_52 : decode jdk_43_method_25_code 52 = .ok (.iload 7, 2) := by decide +kernel
theorem e33_54 : decode jdk_43_method_25_code 54 = .ok (.iload 6, 2) := by decide +kernel
theorem e33_56 : decode jdk_43_method_25_code 56 = .ok (.if_icmp .gt 57, 3) := by decide +kernel
theorem e33_59 : decode jdk_43_method_25_code 59 = .ok (.iload 7, 2) := by decide +kernel
theorem e33_61 : decode jdk_43_method_25_code 61 = .ok (.iconst 1, 1) := by decide +kernel
theorem e33_62 : decode jdk_43_method_25_code 62 = .ok (.iadd, 1) := by decide +kernel
theorem e33_63 : decode jdk_43_method_25_code 63 = .ok (.istore 8, 2) := by decide +kernel
theorem e33_65 : decode jdk_43_method_25_code 65 = .ok (.iload 8, 2) := by decide +kernel
theorem e33_67 : decode jdk_43_method_25_code 67 = .ok (.iload_n 3, 1) := by decide +kernel
theorem e33_68 : decode jdk_43_method_25_code 68 = .ok (.iadd, 1) := by decide +kernel
theorem e33_69 : decode jdk_43_method_25_code 69 = .ok (.iconst 1, 1) := by decide +kernel
theorem e33_70 : decode jdk_43_method_25_code 70 = .ok (.isub, 1) := by decide +kernel
theorem e33_71 : decode jdk_43_method_25_code 71 = .ok (.istore 9, 2) := by decide +kernel
theorem e33_73 : decode jdk_43_method_25_code 73 = .ok (.iconst 1, 1) := by decide +kernel
theorem e33_74 : decode jdk_43_method_25_code 74 = .ok (.istore 10, 2) := by decide +kernel
theorem e33_76 : decode jdk_43_method_25_code 76 = .ok (.iload 8, 2) := by decide +kernel
theorem e33_78 : decode jdk_43_method_25_code 78 = .ok (.iload 9, 2) := by decide +kernel
theorem e33_80 : decode jdk_43_method_25_code 80 = .ok (.if_icmp .ge 23, 3) := by decide +kernel
theorem e33_83 : decode jdk_43_method_25_code 83 = .ok (.aload_n 0, 1) := by decide +kernel
theorem e33_84 : decode jdk_43_method_25_code 84 = .ok (.iload 8, 2) := by decide +kernel
theorem e33_86 : decode jdk_43_method_25_code 86 = .ok (.baload, 1) := by decide +kernel
theorem e33_87 : decode jdk_43_method_25_code 87 = .ok (.aload_n 2, 1) := by decide +kernel
theorem e33_88 : decode jdk_43_method_25_code 88 = .ok (.iload 10, 2) := by decide +kernel
theorem e33_90 : decode jdk_43_method_25_code 90 = .ok (.baload, 1) := by decide +kernel
theorem e33_91 : decode jdk_43_method_25_code 91 = .ok (.if_icmp .ne 12, 3) := by decide +kernel
theorem e33_94 : decode jdk_43_method_25_code 94 = .ok (.iinc 8 1, 3) := by decide +kernel
theorem e33_97 : decode jdk_43_method_25_code 97 = .ok (.iinc 10 1, 3) := by decide +kernel
theorem e33_100 : decode jdk_43_method_25_code 100 = .ok (.goto (-24), 3) := by decide +kernel
theorem e33_103 : decode jdk_43_method_25_code 103 = .ok (.iload 8, 2) := by decide +kernel
theorem e33_105 : decode jdk_43_method_25_code 105 = .ok (.iload 9, 2) := by decide +kernel
theorem e33_107 : decode jdk_43_method_25_code 107 = .ok (.if_icmp .ne 6, 3) := by decide +kernel
theorem e33_110 : decode jdk_43_method_25_code 110 = .ok (.iload 7, 2) := by decide +kernel
theorem e33_112 : decode jdk_43_method_25_code 112 = .ok (.ireturn, 1) := by decide +kernel
theorem e33_113 : decode jdk_43_method_25_code 113 = .ok (.iinc 7 1, 3) := by decide +kernel
theorem e33_116 : decode jdk_43_method_25_code 116 = .ok (.goto (-102), 3) := by decide +kernel
theorem e33_119 : decode jdk_43_method_25_code 119 = .ok (.iconst (-1), 1) := by decide +kernel
theorem e33_120 : decode jdk_43_method_25_code 120 = .ok (.ireturn, 1) := by decide +kernel
theorem pn7 : plainName "java/lang/StringLatin1" = true := by first | (simp [plainName, overriddenIn]; done) | decide +kernel
set_option maxRecDepth 65536 in
set_option maxHeartbeats 40000000 in
theorem con_ix5 (l : Launch) (Z : State) (a0 : Array Value) (hw : ∀ d ∈ tables_1, d.before a0 Z = true) (t u : Addr) (cs : List Int32) (n_ : Nat) (h0 : Heap) (O0 : Ext Z.heap h0) (A_t : Ar Z h0 t .byte ((cs.map fun c => c.toInt8.toInt32).map Value.int)) (A_u : Ar Z h0 u .byte [.int 58]) (hl : ∀ c ∈ cs, Lt8 c) (hn : cs.length ≤ 4000) (hn_ : cs.length = n_ + 1) :
    Con l Z consts_1 false (⟨"java/lang/StringLatin1", "indexOf", "([BI[BII)I"⟩ : MethodName) jdk_43_method_25_code 11 (some .int) [] ({ frames := 0, cells := 0, slots := 0, locals := 0 } : Room) #[(.ref t), (.int (Int32.ofNat cs.length)), (.ref u), (.int (1 : Int32)), (.int (0 : Int32))] [] h0 (fun v h => v = some (.int (fix 58 cs 0)) ∧ h = h0) := by
  refine Con.intro (Ls := #[.val (.ref t), .val (.int (Int32.ofNat cs.length)), .val (.ref u), .val (.int (1 : Int32)), .val (.int (0 : Int32)), .unset, .unset, .unset, .unset, .unset, .unset]) (plainFor_of_name pn7) (own_EL hw) O0 (fun m => by first | (simp [entryFrame, mkF, argsToLocals, Value.category]; done) | rfl) (fun p e s m below meth cc_ T w sf_ => ?_)
  have E0 := ext_refl h0
  refine g_aloadN w e33_0 (q := 1) rfl rfl rfl ?_
  refine g_iconst w e33_1 (q := 2) rfl (v := (0 : Int32)) (by decide) ?_
  refine g_baload w e33_2 (q := 3) rfl A_u (i := 0) rfl (Nat.le_of_ble_eq_true rfl) rfl ?_
  refine g_istore w e33_3 (q := 5) rfl (Ls' := #[.val (.ref t), .val (.int (Int32.ofNat cs.length)), .val (.ref u), .val (.int (1 : Int32)), .val (.int (0 : Int32)), .val (.int (58 : Int32)), .unset, .unset, .unset, .unset, .unset]) rfl ?_
  refine g_iloadN w e33_5 (q := 6) rfl rfl ?_
  refine g_iloadN w e33_6 (q := 7) rfl rfl ?_
  refine g_isub w e33_7 (q := 8) rfl ?_
  rw [show Int32.ofNat cs.length - 1 = Int32.ofNat n_ from by rw [hn_, ofNat_pred]]
  show Go p e below _ (State.setTop T (mkF m 8 #[.val (.ref t), .val (.int (Int32.ofNat cs.length)), .val (.ref u), .val (.int (1 : Int32)), .val (.int (0 : Int32)), .val (.int (58 : Int32)), .unset, .unset, .unset, .unset, .unset] [(.int (Int32.ofNat n_))]))
  refine g_istore w e33_8 (q := 10) rfl (Ls' := #[.val (.ref t), .val (.int (Int32.ofNat cs.length)), .val (.ref u), .val (.int (1 : Int32)), .val (.int (0 : Int32)), .val (.int (58 : Int32)), .val (.int (Int32.ofNat n_)), .unset, .unset, .unset, .unset]) rfl ?_
  refine g_iload w e33_10 (q := 12) rfl rfl ?_
  refine g_istore w e33_12 (q := 14) rfl (Ls' := #[.val (.ref t), .val (.int (Int32.ofNat cs.length)), .val (.ref u), .val (.int (1 : Int32)), .val (.int (0 : Int32)), .val (.int (58 : Int32)), .val (.int (Int32.ofNat n_)), .val (.int (0 : Int32)), .unset, .unset, .unset]) rfl ?_
  refine g_iload w e33_14 (q := 16) rfl rfl ?_
  refine g_iload w e33_16 (q := 18) rfl rfl ?_
  refine g_icN w e33_18 (q := 21) rfl (Jvm.Free.XT.ii_gt_f (ofNat_nonneg (by omega))) ?_
  refine g_aloadN w e33_21 (q := 22) rfl rfl rfl ?_
  refine g_iload w e33_22 (q := 24) rfl rfl ?_
  refine g_baload w e33_24 (q := 25) rfl A_t (i := 0) rfl (by simp; omega) (lat_at (by omega)) ?_
  refine g_iload w e33_25 (q := 27) rfl rfl ?_
  refine g_ic_eq w e33_27 (by decide) (q := 52) (by decide) (q' := 30) rfl (fun cd1 => ?_) (fun cd1 => ?_)
  · refine g_iload w e33_52 (q := 54) rfl rfl ?_
    refine g_iload w e33_54 (q := 56) rfl rfl ?_
    refine g_icN w e33_56 (q := 59) rfl (Jvm.Free.XT.ii_gt_f (ofNat_nonneg (by omega))) ?_
    refine g_iload w e33_59 (q := 61) rfl rfl ?_
    refine g_iconst w e33_61 (q := 62) rfl (v := (1 : Int32)) (by decide) ?_
    refine g_iadd w e33_62 (q := 63) rfl ?_
    refine g_istore w e33_63 (q := 65) rfl (Ls' := #[.val (.ref t), .val (.int (Int32.ofNat cs.length)), .val (.ref u), .val (.int (1 : Int32)), .val (.int (0 : Int32)), .val (.int (58 : Int32)), .val (.int (Int32.ofNat n_)), .val (.int (0 : Int32)), .val (.int ((0 : Int32) + (1 : Int32))), .unset, .unset]) rfl ?_
    refine g_iload w e33_65 (q := 67) rfl rfl ?_
    refine g_iloadN w e33_67 (q := 68) rfl rfl ?_
    refine g_iadd w e33_68 (q := 69) rfl ?_
    refine g_iconst w e33_69 (q := 70) rfl (v := (1 : Int32)) (by decide) ?_
    refine g_isub w e33_70 (q := 71) rfl ?_
    rw [Int32.add_sub_cancel]
    show Go p e below _ (State.setTop T (mkF m 71 #[.val (.ref t), .val (.int (Int32.ofNat cs.length)), .val (.ref u), .val (.int (1 : Int32)), .val (.int (0 : Int32)), .val (.int (58 : Int32)), .val (.int (Int32.ofNat n_)), .val (.int (0 : Int32)), .val (.int ((0 : Int32) + (1 : Int32))), .unset, .unset] [(.int ((0 : Int32) + (1 : Int32)))]))
    refine g_istore w e33_71 (q := 73) rfl (Ls' := #[.val (.ref t), .val (.int (Int32.ofNat cs.length)), .val (.ref u), .val (.int (1 : Int32)), .val (.int (0 : Int32)), .val (.int (58 : Int32)), .val (.int (Int32.ofNat n_)), .val (.int (0 : Int32)), .val (.int ((0 : Int32) + (1 : Int32))), .val (.int ((0 : Int32) + (1 : Int32))), .unset]) rfl ?_
    refine g_iconst w e33_73 (q := 74) rfl (v := (1 : Int32)) (by decide) ?_
    refine g_istore w e33_74 (q := 76) rfl (Ls' := #[.val (.ref t), .val (.int (Int32.ofNat cs.length)), .val (.ref u), .val (.int (1 : Int32)), .val (.int (0 : Int32)), .val (.int (58 : Int32)), .val (.int (Int32.ofNat n_)), .val (.int (0 : Int32)), .val (.int ((0 : Int32) + (1 : Int32))), .val (.int ((0 : Int32) + (1 : Int32))), .val (.int (1 : Int32))]) rfl ?_
    refine g_iload w e33_76 (q := 78) rfl rfl ?_
    refine g_iload w e33_78 (q := 80) rfl rfl ?_
    refine g_icY w e33_80 (by decide) (q := 103) (by decide) (Jvm.Free.XT.ii_ge_t Int32.lt_irrefl) ?_
    refine g_iload w e33_103 (q := 105) rfl rfl ?_
    refine g_iload w e33_105 (q := 107) rfl rfl ?_
    refine g_icN w e33_107 (q := 110) rfl (Jvm.Free.XT.ii_ne_f rfl) ?_
    refine g_iload w e33_110 (q := 112) rfl rfl ?_
    exact g_reti w e33_112 rfl (by decide) (by decide) ⟨by rw [show fix 58 cs 0 = Int32.ofNat 0 from by have q := fix_here (cs := cs) (c := 58) (i := 0) (by omega) (lo58 (lat_all hl (by omega)) cd1); simpa using q]; rfl, rfl⟩
  · have LP : ∀ (r : Nat) (i : Nat) (T : State) (vm : Vm), (i + 1 + r = cs.length) → (fix 58 cs 0 = fix 58 (cs.drop (i + 1)) (i + 1)) → Wk p l e ({ frames := 0, cells := 0, slots := 0, locals := 0 } : Room) s m #[(.ref t), (.int (Int32.ofNat cs.length)), (.ref u), (.int (1 : Int32)), (.int (0 : Int32))] below meth cc_ Z a0 consts_1 false (⟨"java/lang/StringLatin1", "indexOf", "([BI[BII)I"⟩ : MethodName) jdk_43_method_25_code 11 (some .int) T vm h0 0 0 → Go p e below (Fini Z consts_1 false ({ frames := 0, cells := 0, slots := 0, locals := 0 } : Room).cells ({ frames := 0, cells := 0, slots := 0, locals := 0 } : Room).slots (fun v h => v = some (.int (fix 58 cs 0)) ∧ h = h0) s) (State.setTop T (mkF m 30 #[.val (.ref t), .val (.int (Int32.ofNat cs.length)), .val (.ref u), .val (.int (1 : Int32)), .val (.int (0 : Int32)), .val (.int (58 : Int32)), .val (.int (Int32.ofNat n_)), .val (.int (Int32.ofNat i)), .unset, .unset, .unset] [])) := by
      intro r
      induction r with
      | zero =>
        intro i T vm hi hf  w
        refine g_iinc w e33_30 (q := 33) rfl (v := (1 : Int32)) (by decide) rfl rfl ?_
        rw [ofNat_succ]
        show Go p e below _ (State.setTop T (mkF m 33 #[.val (.ref t), .val (.int (Int32.ofNat cs.length)), .val (.ref u), .val (.int (1 : Int32)), .val (.int (0 : Int32)), .val (.int (58 : Int32)), .val (.int (Int32.ofNat n_)), .val (.int (Int32.ofNat (i + 1))), .unset, .unset, .unset] []))
        refine g_iload w e33_33 (q := 35) rfl rfl ?_
        refine g_iload w e33_35 (q := 37) rfl rfl ?_
        refine g_icY w e33_37 (by decide) (q := 52) (by decide) (Jvm.Free.XT.ii_gt_t ((oN_lt (by omega) (by omega)).mpr (by omega))) ?_
        refine g_iload w e33_52 (q := 54) rfl rfl ?_
        refine g_iload w e33_54 (q := 56) rfl rfl ?_
        refine g_icY w e33_56 (by decide) (q := 113) (by decide) (Jvm.Free.XT.ii_gt_t ((oN_lt (by omega) (by omega)).mpr (by omega))) ?_
        refine g_iinc w e33_113 (q := 116) rfl (v := (1 : Int32)) (by decide) rfl rfl ?_
        rw [ofNat_succ]
        show Go p e below _ (State.setTop T (mkF m 116 #[.val (.ref t), .val (.int (Int32.ofNat cs.length)), .val (.ref u), .val (.int (1 : Int32)), .val (.int (0 : Int32)), .val (.int (58 : Int32)), .val (.int (Int32.ofNat n_)), .val (.int (Int32.ofNat ((i + 1) + 1))), .unset, .unset, .unset] []))
        refine g_goto w e33_116 (by decide) (q := 14) (by decide) ?_
        refine g_iload w e33_14 (q := 16) rfl rfl ?_
        refine g_iload w e33_16 (q := 18) rfl rfl ?_
        refine g_icY w e33_18 (by decide) (q := 119) (by decide) (Jvm.Free.XT.ii_gt_t ((oN_lt (by omega) (by omega)).mpr (by omega))) ?_
        refine g_iconst w e33_119 (q := 120) rfl (v := (-1 : Int32)) (by decide) ?_
        exact g_reti w e33_120 rfl (by decide) (by decide) ⟨by rw [hf, fix_end (by omega)], rfl⟩
      | succ r ih =>
        intro i T vm hi hf  w
        refine g_iinc w e33_30 (q := 33) rfl (v := (1 : Int32)) (by decide) rfl rfl ?_
        rw [ofNat_succ]
        show Go p e below _ (State.setTop T (mkF m 33 #[.val (.ref t), .val (.int (Int32.ofNat cs.length)), .val (.ref u), .val (.int (1 : Int32)), .val (.int (0 : Int32)), .val (.int (58 : Int32)), .val (.int (Int32.ofNat n_)), .val (.int (Int32.ofNat (i + 1))), .unset, .unset, .unset] []))
        refine g_iload w e33_33 (q := 35) rfl rfl ?_
        refine g_iload w e33_35 (q := 37) rfl rfl ?_
        refine g_icN w e33_37 (q := 40) rfl (Jvm.Free.XT.ii_gt_f (not_lt_ofNat (by omega) (by omega))) ?_
        refine g_aloadN w e33_40 (q := 41) rfl rfl rfl ?_
        refine g_iload w e33_41 (q := 43) rfl rfl ?_
        refine g_baload w e33_43 (q := 44) rfl A_t (i := i + 1) rfl (by simp; omega) (lat_at (by omega)) ?_
        refine g_iload w e33_44 (q := 46) rfl rfl ?_
        refine g_ic_eq w e33_46 (by decide) (q := 52) (by decide) (q' := 49) rfl (fun cd4 => ?_) (fun cd4 => ?_)
        · refine g_iload w e33_52 (q := 54) rfl rfl ?_
          refine g_iload w e33_54 (q := 56) rfl rfl ?_
          refine g_icN w e33_56 (q := 59) rfl (Jvm.Free.XT.ii_gt_f (not_lt_ofNat (by omega) (by omega))) ?_
          refine g_iload w e33_59 (q := 61) rfl rfl ?_
          refine g_iconst w e33_61 (q := 62) rfl (v := (1 : Int32)) (by decide) ?_
          refine g_iadd w e33_62 (q := 63) rfl ?_
          refine g_istore w e33_63 (q := 65) rfl (Ls' := #[.val (.ref t), .val (.int (Int32.ofNat cs.length)), .val (.ref u), .val (.int (1 : Int32)), .val (.int (0 : Int32)), .val (.int (58 : Int32)), .val (.int (Int32.ofNat n_)), .val (.int (Int32.ofNat (i + 1))), .val (.int ((Int32.ofNat (i + 1)) + (1 : Int32))), .unset, .unset]) rfl ?_
          refine g_iload w e33_65 (q := 67) rfl rfl ?_
          refine g_iloadN w e33_67 (q := 68) rfl rfl ?_
          refine g_iadd w e33_68 (q := 69) rfl ?_
          refine g_iconst w e33_69 (q := 70) rfl (v := (1 : Int32)) (by decide) ?_
          refine g_isub w e33_70 (q := 71) rfl ?_
          rw [Int32.add_sub_cancel]
          show Go p e below _ (State.setTop T (mkF m 71 #[.val (.ref t), .val (.int (Int32.ofNat cs.length)), .val (.ref u), .val (.int (1 : Int32)), .val (.int (0 : Int32)), .val (.int (58 : Int32)), .val (.int (Int32.ofNat n_)), .val (.int (Int32.ofNat (i + 1))), .val (.int ((Int32.ofNat (i + 1)) + (1 : Int32))), .unset, .unset] [(.int ((Int32.ofNat (i + 1)) + (1 : Int32)))]))
          refine g_istore w e33_71 (q := 73) rfl (Ls' := #[.val (.ref t), .val (.int (Int32.ofNat cs.length)), .val (.ref u), .val (.int (1 : Int32)), .val (.int (0 : Int32)), .val (.int (58 : Int32)), .val (.int (Int32.ofNat n_)), .val (.int (Int32.ofNat (i + 1))), .val (.int ((Int32.ofNat (i + 1)) + (1 : Int32))), .val (.int ((Int32.ofNat (i + 1)) + (1 : Int32))), .unset]) rfl ?_
          refine g_iconst w e33_73 (q := 74) rfl (v := (1 : Int32)) (by decide) ?_
          refine g_istore w e33_74 (q := 76) rfl (Ls' := #[.val (.ref t), .val (.int (Int32.ofNat cs.length)), .val (.ref u), .val (.int (1 : Int32)), .val (.int (0 : Int32)), .val (.int (58 : Int32)), .val (.int (Int32.ofNat n_)), .val (.int (Int32.ofNat (i + 1))), .val (.int ((Int32.ofNat (i + 1)) + (1 : Int32))), .val (.int ((Int32.ofNat (i + 1)) + (1 : Int32))), .val (.int (1 : Int32))]) rfl ?_
          refine g_iload w e33_76 (q := 78) rfl rfl ?_
          refine g_iload w e33_78 (q := 80) rfl rfl ?_
          refine g_icY w e33_80 (by decide) (q := 103) (by decide) (Jvm.Free.XT.ii_ge_t Int32.lt_irrefl) ?_
          refine g_iload w e33_103 (q := 105) rfl rfl ?_
          refine g_iload w e33_105 (q := 107) rfl rfl ?_
          refine g_icN w e33_107 (q := 110) rfl (Jvm.Free.XT.ii_ne_f rfl) ?_
          refine g_iload w e33_110 (q := 112) rfl rfl ?_
          exact g_reti w e33_112 rfl (by decide) (by decide) ⟨by rw [hf, fix_here (by omega) (lo58 (lat_all hl (by omega)) cd4)], rfl⟩
        · refine g_goto w e33_49 (by decide) (q := 30) (by decide) ?_
          exact ih (i + 1) T _ (by omega) (by rw [hf, fix_next (by omega) (fun e => cd4 (by rw [e]; decide))]) w
    exact LP n_ 0 T _ (by omega) (by have q := fix_next (cs := cs) (c := 58) (i := 0) (by omega) (fun e => cd1 (by rw [e]; decide)); simpa using q) w
theorem e34_0 : decode jdk_43_method_24_code 0 = .ok (.aload_n 1, 1) := by decide +kernel
theorem e34_1 : decode jdk_43_method_24_code 1 = .ok (.arraylength, 1) := by decide +kernel
theorem e34_2 : decode jdk_43_method_24_code 2 = .ok (.ifCond .ne 5, 3) := by decide +kernel
theorem e34_5 : decode jdk_43_method_24_code 5 = .ok (.iconst 0, 1) := by decide +kernel
theorem e34_6 : decode jdk_43_method_24_code 6 = .ok (.ireturn, 1) := by decide +kernel
theorem e34_7 : decode jdk_43_method_24_code 7 = .ok (.aload_n 0, 1) := by decide +kernel
theorem e34_8 : decode jdk_43_method_24_code 8 = .ok (.arraylength, 1) := by decide +kernel
theorem e34_9 : decode jdk_43_method_24_code 9 = .ok (.ifCond .ne 5, 3) := by decide +kernel
theorem e34_12 : decode jdk_43_method_24_code 12 = .ok (.iconst (-1), 1) := by decide +kernel
theorem e34_13 : decode jdk_43_method_24_code 13 = .ok (.ireturn, 1) := by decide +kernel
theorem e34_14 : decode jdk_43_method_24_code 14 = .ok (.aload_n 0, 1) := by decide +kernel
theorem e34_15 : decode jdk_43_method_24_code 15 = .ok (.aload_n 0, 1) := by decide +kernel
theorem e34_16 : decode jdk_43_method_24_code 16 = .ok (.arraylength, 1) := by decide +kernel
theorem e34_17 : decode jdk_43_method_24_code 17 = .ok (.aload_n 1, 1) := by decide +kernel
theorem e34_18 : decode jdk_43_method_24_code 18 = .ok (.aload_n 1, 1) := by decide +kernel
theorem e34_19 : decode jdk_43_method_24_code 19 = .ok (.arraylength, 1) := by decide +kernel
theorem e34_20 : decode jdk_43_method_24_code 20 = .ok (.iconst 0, 1) := by decide +kernel
theorem e34_21 : decode jdk_43_method_24_code 21 = .ok (.invokestatic 99, 3) := by decide +kernel
theorem e34_24 : decode jdk_43_method_24_code 24 = .ok (.ireturn, 1) := by decide +kernel
theorem pd20 : parseMethodDescriptor "([BI[BII)I" = some ⟨[(.array .byte), .int, (.array .byte), .int, .int], some .int⟩ := by decide +kernel
set_option maxRecDepth 65536 in
set_option maxHeartbeats 40000000 in
theorem con_ixb (l : Launch) (Z : State) (a0 : Array Value) (hw : ∀ d ∈ tables_1, d.before a0 Z = true) (t u : Addr) (cs : List Int32) (h0 : Heap) (O0 : Ext Z.heap h0) (A_t : Ar Z h0 t .byte ((cs.map fun c => c.toInt8.toInt32).map Value.int)) (A_u : Ar Z h0 u .byte [.int 58]) (hl : ∀ c ∈ cs, Lt8 c) (hn : cs.length ≤ 4000) :
    Con l Z consts_1 false (⟨"java/lang/StringLatin1", "indexOf", "([B[B)I"⟩ : MethodName) jdk_43_method_24_code 2 (some .int) [] ({ frames := 1, cells := 0, slots := 0, locals := 22 } : Room) #[(.ref t), (.ref u)] [] h0 (fun v h => v = some (.int (fix 58 cs 0)) ∧ h = h0) := by
  refine Con.intro (Ls := #[.val (.ref t), .val (.ref u)]) (plainFor_of_name pn7) (own_EL hw) O0 (fun m => by first | (simp [entryFrame, mkF, argsToLocals, Value.category]; done) | rfl) (fun p e s m below meth cc_ T w sf_ => ?_)
  have E0 := ext_refl h0
  refine g_aloadN w e34_0 (q := 1) rfl rfl rfl ?_
  refine g_alen w e34_1 (q := 2) rfl A_u ?_
  show Go p e below _ (State.setTop T (mkF m 2 #[.val (.ref t), .val (.ref u)] [(.int (1 : Int32))]))
  refine g_ifY w e34_2 (by decide) (q := 7) (by decide) (by decide) ?_
  refine g_aloadN w e34_7 (q := 8) rfl rfl rfl ?_
  refine g_alen w e34_8 (q := 9) rfl A_t ?_
  rw [List.length_map, List.length_map]
  show Go p e below _ (State.setTop T (mkF m 9 #[.val (.ref t), .val (.ref u)] [(.int (Int32.ofNat cs.length))]))
  rcases Nat.eq_zero_or_pos cs.length with hq_ | hq_
  · refine g_ifN w e34_9 (q := 12) rfl (Jvm.Free.XT.i0_ne_f (by rw [hq_]; rfl)) ?_
    refine g_iconst w e34_12 (q := 13) rfl (v := (-1 : Int32)) (by decide) ?_
    exact g_reti w e34_13 rfl (by decide) (by decide) ⟨by rw [List.eq_nil_of_length_eq_zero hq_]; rfl, rfl⟩
  · refine g_ifY w e34_9 (by decide) (q := 14) (by decide) (Jvm.Free.XT.i0_ne_t (fun q => absurd ((oN_inj (b := 0) (by omega) (by decide)).mp q) (by omega))) ?_
    refine g_aloadN w e34_14 (q := 15) rfl rfl rfl ?_
    refine g_aloadN w e34_15 (q := 16) rfl rfl rfl ?_
    refine g_alen w e34_16 (q := 17) rfl A_t ?_
    rw [List.length_map, List.length_map]
    show Go p e below _ (State.setTop T (mkF m 17 #[.val (.ref t), .val (.ref u)] [(.int (Int32.ofNat cs.length)), (.ref t)]))
    refine g_aloadN w e34_17 (q := 18) rfl rfl rfl ?_
    refine g_aloadN w e34_18 (q := 19) rfl rfl rfl ?_
    refine g_alen w e34_19 (q := 20) rfl A_u ?_
    show Go p e below _ (State.setTop T (mkF m 20 #[.val (.ref t), .val (.ref u)] [(.int (1 : Int32)), (.ref u), (.int (Int32.ofNat cs.length)), (.ref t)]))
    refine g_iconst w e34_20 (q := 21) rfl (v := (0 : Int32)) (by decide) ?_
    refine g_staticP w (con_ix5 l Z a0 hw t u cs (cs.length - 1) _ w.old A_t A_u hl hn (by omega)) no0 e34_21 (q := 24) rfl rfl (Hw hw 257 rfl) (Hw hw 258 rfl) (Hw hw 139 rfl) (Hw hw 259 rfl) (by decide) pd20 rfl rfl (W := 0) (Nat.le_of_eq rfl) (by decide) (by decide) (by decide) (by decide) (fun T v w C q => ?_)
    obtain rfl := q
    show Go p e below _ (State.setTop T (mkF m 24 #[.val (.ref t), .val (.ref u)] [(.int (fix 58 cs 0))]))
    exact g_reti w e34_24 rfl (by decide) (by decide) ⟨rfl, rfl⟩
theorem e35_0 : decode jdk_42_method_84_code 0 = .ok (.aload_n 0, 1) := by decide +kernel
theorem e35_1 : decode jdk_42_method_84_code 1 = .ok (.invokevirtual 335, 3) := by decide +kernel
theorem e35_4 : decode jdk_42_method_84_code 4 = .ok (.istore_n 2, 1) := by decide +kernel
theorem e35_5 : decode jdk_42_method_84_code 5 = .ok (.iload_n 2, 1) := by decide +kernel
theorem e35_6 : decode jdk_42_method_84_code 6 = .ok (.aload_n 1, 1) := by decide +kernel
theorem e35_7 : decode jdk_42_method_84_code 7 = .ok (.invokevirtual 335, 3) := by decide +kernel
theorem e35_10 : decode jdk_42_method_84_code 10 = .ok (.if_icmp .ne 36, 3) := by decide +kernel
theorem e35_13 : decode jdk_42_method_84_code 13 = .ok (.aload_n 0, 1) := by decide +kernel
theorem e35_14 : decode jdk_42_method_84_code 14 = .ok (.invokevirtual 492, 3) := by decide +kernel
theorem e35_17 : decode jdk_42_method_84_code 17 = .ok (.ifCond .eq 17, 3) := by decide +kernel
theorem e35_20 : decode jdk_42_method_84_code 20 = .ok (.aload_n 0, 1) := by decide +kernel
theorem e35_21 : decode jdk_42_method_84_code 21 = .ok (.getfield 9, 3) := by decide +kernel
theorem e35_24 : decode jdk_42_method_84_code 24 = .ok (.aload_n 1, 1) := by decide +kernel
theorem e35_25 : decode jdk_42_method_84_code 25 = .ok (.getfield 9, 3) := by decide +kernel
theorem e35_28 : decode jdk_42_method_84_code 28 = .ok (.invokestatic 647, 3) := by decide +kernel
theorem e35_31 : decode jdk_42_method_84_code 31 = .ok (.goto 14, 3) := by decide +kernel
theorem e35_34 : decode jdk_42_method_84_code 34 = .ok (.aload_n 0, 1) := by decide +kernel
theorem e35_35 : decode jdk_42_method_84_code 35 = .ok (.getfield 9, 3) := by decide +kernel
theorem e35_38 : decode jdk_42_method_84_code 38 = .ok (.aload_n 1, 1) := by decide +kernel
theorem e35_39 : decode jdk_42_method_84_code 39 = .ok (.getfield 9, 3) := by decide +kernel
theorem e35_42 : decode jdk_42_method_84_code 42 = .ok (.invokestatic 649, 3) := by decide +kernel
theorem e35_45 : decode jdk_42_method_84_code 45 = .ok (.ireturn, 1) := by decide +kernel
theorem e35_46 : decode jdk_42_method_84_code 46 = .ok (.iload_n 2, 1) := by decide +kernel
theorem e35_47 : decode jdk_42_method_84_code 47 = .ok (.ifCond .ne 5, 3) := by decide +kernel
theorem e35_50 : decode jdk_42_method_84_code 50 = .ok (.iconst (-1), 1) := by decide +kernel
theorem e35_51 : decode jdk_42_method_84_code 51 = .ok (.ireturn, 1) := by decide +kernel
theorem e35_52 : decode jdk_42_method_84_code 52 = .ok (.aload_n 0, 1) := by decide +kernel
theorem e35_53 : decode jdk_42_method_84_code 53 = .ok (.getfield 9, 3) := by decide +kernel
theorem e35_56 : decode jdk_42_method_84_code 56 = .ok (.aload_n 1, 1) := by decide +kernel
theorem e35_57 : decode jdk_42_method_84_code 57 = .ok (.getfield 9, 3) := by decide +kernel
theorem e35_60 : decode jdk_42_method_84_code 60 = .ok (.invokestatic 650, 3) := by decide +kernel
theorem e35_63 : decode jdk_42_method_84_code 63 = .ok (.ireturn, 1) := by decide +kernel
theorem pd21 : parseMethodDescriptor "([B[B)I" = some ⟨[(.array .byte), (.array .byte)], some .int⟩ := by decide +kernel
set_option maxRecDepth 65536 in
set_option maxHeartbeats 40000000 in
theorem con_ixs (l : Launch) (Z : State) (a0 : Array Value) (hw : ∀ d ∈ tables_1, d.before a0 Z = true) (x u : Addr) (cs : List Int32) (h0 : Heap) (O0 : Ext Z.heap h0) (S_x : Sg Z h0 x cs) (S_u : Sg Z h0 u [58]) (hcm : Cpt Z) :
    Con l Z consts_1 false (⟨"java/lang/String", "indexOf", "(Ljava/lang/String;)I"⟩ : MethodName) jdk_42_method_84_code 3 (some .int) [] ({ frames := 2, cells := 0, slots := 0, locals := 35 } : Room) #[(.ref x), (.ref u)] [] h0 (fun v h => v = some (.int (fix 58 cs 0)) ∧ h = h0) := by
  refine Con.intro (Ls := #[.val (.ref x), .val (.ref u), .unset]) (plainFor_of_name pn0) (own_EL hw) O0 (fun m => by first | (simp [entryFrame, mkF, argsToLocals, Value.category]; done) | rfl) (fun p e s m below meth cc_ T w sf_ => ?_)
  have E0 := ext_refl h0
  obtain ⟨z_, hz_, SC_⟩ := id hcm
  obtain ⟨t_, F_v, F_c, A_t⟩ := S_x.ar
  obtain ⟨tu, F_vu, F_cu, A_u⟩ := S_u.ar
  replace A_u : Ar Z h0 tu .byte [.int 58] := by rw [← bys58]; exact A_u
  refine g_aloadN w e35_0 (q := 1) rfl rfl rfl ?_
  refine g_virtualP w (con_coder l Z a0 hw x _ w.old F_c hcm) no0 S_x.exa e35_1 (q := 4) rfl rfl (Hw hw 79 rfl) (Hw hw 80 rfl) (Hw hw 82 rfl) (Hw hw 81 rfl) (Hw hw 3 rfl) (Hw hw 83 rfl) (by decide) (nf (Hw hw 82 rfl)) pd2 rfl rfl (W := 0) (Nat.le_of_eq rfl) (by decide) (by decide) (by decide) (by decide) (fun T v w C q => ?_)
  obtain rfl := q
  show Go p e below _ (State.setTop T (mkF m 4 #[.val (.ref x), .val (.ref u), .unset] [(.int (0 : Int32))]))
  refine g_istoreN w e35_4 (q := 5) rfl (Ls' := #[.val (.ref x), .val (.ref u), .val (.int (0 : Int32))]) rfl ?_
  refine g_iloadN w e35_5 (q := 6) rfl rfl ?_
  refine g_aloadN w e35_6 (q := 7) rfl rfl rfl ?_
  refine g_virtualP w (con_coder l Z a0 hw u _ w.old F_cu hcm) no0 S_u.exa e35_7 (q := 10) rfl rfl (Hw hw 79 rfl) (Hw hw 80 rfl) (Hw hw 82 rfl) (Hw hw 81 rfl) (Hw hw 3 rfl) (Hw hw 83 rfl) (by decide) (nf (Hw hw 82 rfl)) pd2 rfl rfl (W := 1) (Nat.le_of_eq rfl) (by decide) (by decide) (by decide) (by decide) (fun T v w C q => ?_)
  obtain rfl := q
  show Go p e below _ (State.setTop T (mkF m 10 #[.val (.ref x), .val (.ref u), .val (.int (0 : Int32))] [(.int (0 : Int32)), (.int (0 : Int32))]))
  refine g_icN w e35_10 (q := 13) rfl (Jvm.Free.XT.ii_ne_f rfl) ?_
  refine g_aloadN w e35_13 (q := 14) rfl rfl rfl ?_
  refine g_virtualP w (con_isl l Z a0 hw x _ _ w.old S_x hcm) no0 S_x.exa e35_14 (q := 17) rfl rfl (Hw hw 132 rfl) (Hw hw 133 rfl) (Hw hw 135 rfl) (Hw hw 134 rfl) (Hw hw 3 rfl) (Hw hw 136 rfl) (by decide) (nf (Hw hw 135 rfl)) pd15 rfl rfl (W := 0) (Nat.le_of_eq rfl) (by decide) (by decide) (by decide) (by decide) (fun T v w C q => ?_)
  obtain rfl := q
  show Go p e below _ (State.setTop T (mkF m 17 #[.val (.ref x), .val (.ref u), .val (.int (0 : Int32))] [(.int (1 : Int32))]))
  refine g_ifN w e35_17 (q := 20) rfl (by decide) ?_
  refine g_aloadN w e35_20 (q := 21) rfl rfl rfl ?_
  refine g_getF w e35_21 (q := 24) rfl (host := "") (Or.inl (Hw hw 20 rfl)) Via.refl F_v (fun T w => ?_)
  refine g_aloadN w e35_24 (q := 25) rfl rfl rfl ?_
  refine g_getF w e35_25 (q := 28) rfl (host := "") (Or.inl (Hw hw 20 rfl)) Via.refl F_vu (fun T w => ?_)
  refine g_staticP w (con_ixb l Z a0 hw t_ tu cs _ w.old A_t A_u S_x.2.1 S_x.1) no0 e35_28 (q := 31) rfl rfl (Hw hw 137 rfl) (Hw hw 138 rfl) (Hw hw 139 rfl) (Hw hw 140 rfl) (by decide) pd21 rfl rfl (W := 0) (Nat.le_of_eq rfl) (by decide) (by decide) (by decide) (by decide) (fun T v w C q => ?_)
  obtain rfl := q
  show Go p e below _ (State.setTop T (mkF m 31 #[.val (.ref x), .val (.ref u), .val (.int (0 : Int32))] [(.int (fix 58 cs 0))]))
  refine g_goto w e35_31 (by decide) (q := 45) (by decide) ?_
  exact g_reti w e35_45 rfl (by decide) (by decide) ⟨rfl, rfl⟩
theorem e36_0 : decode jdk_42_method_97_code 0 = .ok (.aload_n 0, 1) := by decide +kernel
theorem e36_1 : decode jdk_42_method_97_code 1 = .ok (.aload_n 1, 1) := by decide +kernel
theorem e36_2 : decode jdk_42_method_97_code 2 = .ok (.invokeinterface 710 1, 5) := by decide +kernel
theorem e36_7 : decode jdk_42_method_97_code 7 = .ok (.invokevirtual 711, 3) := by decide +kernel
theorem e36_10 : decode jdk_42_method_97_code 10 = .ok (.ifCond .lt 7, 3) := by decide +kernel
theorem e36_13 : decode jdk_42_method_97_code 13 = .ok (.iconst 1, 1) := by decide +kernel
theorem e36_14 : decode jdk_42_method_97_code 14 = .ok (.goto 4, 3) := by decide +kernel
theorem e36_17 : decode jdk_42_method_97_code 17 = .ok (.iconst 0, 1) := by decide +kernel
theorem e36_18 : decode jdk_42_method_97_code 18 = .ok (.ireturn, 1) := by decide +kernel
theorem pd22 : parseMethodDescriptor "()Ljava/lang/String;" = some ⟨[], some (.object "java/lang/String")⟩ := by decide +kernel
theorem pd23 : parseMethodDescriptor "(Ljava/lang/String;)I" = some ⟨[(.object "java/lang/String")], some .int⟩ := by decide +kernel
set_option maxRecDepth 65536 in
set_option maxHeartbeats 40000000 in
theorem con_cont (l : Launch) (Z : State) (a0 : Array Value) (hw : ∀ d ∈ tables_1, d.before a0 Z = true) (x u : Addr) (cs : List Int32) (h0 : Heap) (O0 : Ext Z.heap h0) (S_x : Sg Z h0 x cs) (S_u : Sg Z h0 u [58]) (hcm : Cpt Z) :
    Con l Z consts_1 false (⟨"java/lang/String", "contains", "(Ljava/lang/CharSequence;)Z"⟩ : MethodName) jdk_42_method_97_code 2 (some .boolean) [] ({ frames := 3, cells := 0, slots := 0, locals := 49 } : Room) #[(.ref x), (.ref u)] [] h0 (fun v h => v = some (.int (if fix 58 cs 0 < 0 then 0 else 1)) ∧ h = h0) := by
  refine Con.intro (Ls := #[.val (.ref x), .val (.ref u)]) (plainFor_of_name pn0) (own_EL hw) O0 (fun m => by first | (simp [entryFrame, mkF, argsToLocals, Value.category]; done) | rfl) (fun p e s m below meth cc_ T w sf_ => ?_)
  have E0 := ext_refl h0
  refine g_aloadN w e36_0 (q := 1) rfl rfl rfl ?_
  refine g_aloadN w e36_1 (q := 2) rfl rfl rfl ?_
  refine g_ifaceP w (con_sts l Z a0 hw u _ w.old) no0 S_u.exa e36_2 (q := 7) rfl rfl (Hw hw 118 rfl) (Hw hw 119 rfl) (Hw hw 120 rfl) (by decide) (Hw hw 123 rfl) (Hw hw 124 rfl) (Hw hw 125 rfl) (Hw hw 121 rfl) (Hw hw 122 rfl) (Hw hw 3 rfl) (Hw hw 126 rfl) (by decide) pd22 rfl rfl (W := 1) (Nat.le_of_eq rfl) (by decide) (by decide) (by decide) (by decide) (fun T v w C q => ?_)
  obtain rfl := q
  show Go p e below _ (State.setTop T (mkF m 7 #[.val (.ref x), .val (.ref u)] [(.ref u), (.ref x)]))
  refine g_virtualP w (con_ixs l Z a0 hw x u _ _ w.old S_x S_u hcm) no0 S_x.exa e36_7 (q := 10) rfl rfl (Hw hw 127 rfl) (Hw hw 128 rfl) (Hw hw 130 rfl) (Hw hw 129 rfl) (Hw hw 3 rfl) (Hw hw 131 rfl) (by decide) (nf (Hw hw 130 rfl)) pd23 rfl rfl (W := 0) (Nat.le_of_eq rfl) (by decide) (by decide) (by decide) (by decide) (fun T v w C q => ?_)
  obtain rfl := q
  show Go p e below _ (State.setTop T (mkF m 10 #[.val (.ref x), .val (.ref u)] [(.int (fix 58 cs 0))]))
  refine g_if_lt w e36_10 (by decide) (q := 17) (by decide) (q' := 13) rfl (fun cd1 => ?_) (fun cd1 => ?_)
  · refine g_iconst w e36_17 (q := 18) rfl (v := (0 : Int32)) (by decide) ?_
    exact g_retn w e36_18 rfl (by simp) rfl (by decide) (by decide) ⟨by rw [if_pos cd1]; rfl, rfl⟩
  · refine g_iconst w e36_13 (q := 14) rfl (v := (1 : Int32)) (by decide) ?_
    refine g_goto w e36_14 (by decide) (q := 18) (by decide) ?_
    exact g_retn w e36_18 rfl (by simp) rfl (by decide) (by decide) ⟨by rw [if_neg cd1]; rfl, rfl⟩
theorem e37_0 : decode prog_17_method_1_code 0 = .ok (.aload_n 0, 1) := by decide +kernel
theorem e37_1 : decode prog_17_method_1_code 1 = .ok (.invokespecial 1, 3) := by decide +kernel
theorem e37_4 : decode prog_17_method_1_code 4 = .ok (.aload_n 0, 1) := by decide +kernel
theorem e37_5 : decode prog_17_method_1_code 5 = .ok (.aload_n 1, 1) := by decide +kernel
theorem e37_6 : decode prog_17_method_1_code 6 = .ok (.putfield 7, 3) := by decide +kernel
theorem e37_9 : decode prog_17_method_1_code 9 = .ok (.aload_n 0, 1) := by decide +kernel
theorem e37_10 : decode prog_17_method_1_code 10 = .ok (.iload_n 2, 1) := by decide +kernel
theorem e37_11 : decode prog_17_method_1_code 11 = .ok (.putfield 13, 3) := by decide +kernel
theorem e37_14 : decode prog_17_method_1_code 14 = .ok (.aload_n 0, 1) := by decide +kernel
theorem e37_15 : decode prog_17_method_1_code 15 = .ok (.iload_n 3, 1) := by decide +kernel
theorem e37_16 : decode prog_17_method_1_code 16 = .ok (.putfield 17, 3) := by decide +kernel
theorem e37_19 : decode prog_17_method_1_code 19 = .ok (.return_, 1) := by decide +kernel
theorem pd24 : parseMethodDescriptor "()V" = some ⟨[], none⟩ := by decide +kernel
theorem pn8 : plainName "com/example/devizes/devizes/redis/RedisAddress" = true := by first | (simp [plainName, overriddenIn]; done) | decide +kernel
set_option maxRecDepth 65536 in
set_option maxHeartbeats 40000000 in
theorem con_rai (l : Launch) (Z : State) (a0 : Array Value) (hw : ∀ d ∈ tables_1, d.before a0 Z = true) (x : Addr) (f1 : Addr) (f2 : Int32) (f3 : Int32) (h0 : Heap) (O0 : Ext Z.heap h0) (X_x : Exa Z h0 x "com/example/devizes/devizes/redis/RedisAddress") (F_host_x : Fld Z h0 x "com/example/devizes/devizes/redis/RedisAddress" "host" "Ljava/lang/String;" .null) (F_port_x : Fld Z h0 x "com/example/devizes/devizes/redis/RedisAddress" "port" "I" (.int (0 : Int32))) (F_database_x : Fld Z h0 x "com/example/devizes/devizes/redis/RedisAddress" "database" "I" (.int (0 : Int32))) (n_x : Z.heap.size ≤ x) :
    Con l Z consts_1 false (⟨"com/example/devizes/devizes/redis/RedisAddress", "<init>", "(Ljava/lang/String;II)V"⟩ : MethodName) prog_17_method_1_code 4 none [] ({ frames := 2, cells := 0, slots := 0, locals := 24 } : Room) #[(.ref x), (.ref f1), (.int f2), (.int f3)] [] h0 (fun v h => v = none ∧ Keep h0 h [x] ∧ Fld Z h x "com/example/devizes/devizes/redis/RedisAddress" "host" "Ljava/lang/String;" (.ref f1) ∧ Fld Z h x "com/example/devizes/devizes/redis/RedisAddress" "port" "I" (.int f2) ∧ Fld Z h x "com/example/devizes/devizes/redis/RedisAddress" "database" "I" (.int f3)) := by
  refine Con.intro (Ls := #[.val (.ref x), .val (.ref f1), .val (.int f2), .val (.int f3)]) (plainFor_of_name pn8) (own_EL hw) O0 (fun m => by first | (simp [entryFrame, mkF, argsToLocals, Value.category]; done) | rfl) (fun p e s m below meth cc_ T w sf_ => ?_)
  have K0 := Keep.refl h0 [x]
  refine g_aloadN w e37_0 (q := 1) rfl rfl rfl ?_
  refine g_specialP w (con_rec l Z a0 hw x _ w.old) no0 e37_1 (q := 4) rfl rfl rfl (Hw hw 28 rfl) (Hw hw 29 rfl) (Hw hw 31 rfl) (Hw hw 32 rfl) (by decide) pd24 rfl rfl (W := 0) (Nat.le_of_eq rfl) (by decide) (by decide) (by decide) (by decide) (fun T v w C q => ?_)
  obtain rfl := q
  show Go p e below _ (State.setTop T (mkF m 4 #[.val (.ref x), .val (.ref f1), .val (.int f2), .val (.int f3)] []))
  refine g_aloadN w e37_4 (q := 5) rfl rfl rfl ?_
  refine g_aloadN w e37_5 (q := 6) rfl rfl rfl ?_
  have g_ := w.chv
  refine g_putF w e37_6 (q := 9) rfl (Hw hw 34 rfl) Via.refl F_host_x X_x (Or.inr ⟨(Hw hw 35 rfl), rfl, rfl⟩) (Hw hw 23 rfl) (ty := (.object "java/lang/String")) (by decide) (v' := (.ref f1)) rfl rfl n_x (w.safe X_x (by decide) (by decide)) (fun T h w W => ?_)
  replace K0 := K0.wr W (Or.inl (List.mem_singleton.mpr rfl))
  replace X_x := X_x.wr W
  replace F_host_x := F_host_x.same W
  replace F_port_x := F_port_x.other W (Or.inr (slot_ne (Or.inr (Hw hw 37 rfl)) (Or.inr (Hw hw 35 rfl)) (by decide) (t := .int) (t' := (.object "java/lang/String")) (by decide) (by decide)))
  replace F_database_x := F_database_x.other W (Or.inr (slot_ne (Or.inr (Hw hw 39 rfl)) (Or.inr (Hw hw 35 rfl)) (by decide) (t := .int) (t' := (.object "java/lang/String")) (by decide) (by decide)))
  refine g_aloadN w e37_9 (q := 10) rfl rfl rfl ?_
  refine g_iloadN w e37_10 (q := 11) rfl rfl ?_
  have g_ := w.chv
  refine g_putF w e37_11 (q := 14) rfl (Hw hw 36 rfl) Via.refl F_port_x X_x (Or.inr ⟨(Hw hw 37 rfl), rfl, rfl⟩) (Hw hw 23 rfl) (ty := .int) (by decide) (v' := (.int f2)) rfl rfl n_x (w.safe X_x (by decide) (by decide)) (fun T h w W => ?_)
  replace K0 := K0.wr W (Or.inl (List.mem_singleton.mpr rfl))
  replace X_x := X_x.wr W
  replace F_host_x := F_host_x.other W (Or.inr (slot_ne (Or.inr (Hw hw 35 rfl)) (Or.inr (Hw hw 37 rfl)) (by decide) (t := (.object "java/lang/String")) (t' := .int) (by decide) (by decide)))
  replace F_port_x := F_port_x.same W
  replace F_database_x := F_database_x.other W (Or.inr (slot_ne (Or.inr (Hw hw 39 rfl)) (Or.inr (Hw hw 37 rfl)) (by decide) (t := .int) (t' := .int) (by decide) (by decide)))
  refine g_aloadN w e37_14 (q := 15) rfl rfl rfl ?_
  refine g_iloadN w e37_15 (q := 16) rfl rfl ?_
  have g_ := w.chv
  refine g_putF w e37_16 (q := 19) rfl (Hw hw 38 rfl) Via.refl F_database_x X_x (Or.inr ⟨(Hw hw 39 rfl), rfl, rfl⟩) (Hw hw 23 rfl) (ty := .int) (by decide) (v' := (.int f3)) rfl rfl n_x (w.safe X_x (by decide) (by decide)) (fun T h w W => ?_)
  replace K0 := K0.wr W (Or.inl (List.mem_singleton.mpr rfl))
  replace X_x := X_x.wr W
  replace F_host_x := F_host_x.other W (Or.inr (slot_ne (Or.inr (Hw hw 35 rfl)) (Or.inr (Hw hw 39 rfl)) (by decide) (t := (.object "java/lang/String")) (t' := .int) (by decide) (by decide)))
  replace F_port_x := F_port_x.other W (Or.inr (slot_ne (Or.inr (Hw hw 37 rfl)) (Or.inr (Hw hw 39 rfl)) (by decide) (t := .int) (t' := .int) (by decide) (by decide)))
  replace F_database_x := F_database_x.same W
  exact g_return w e37_19 rfl (by decide) (by decide) ⟨rfl, K0, F_host_x, F_port_x, F_database_x⟩
theorem e38_0 : decode prog_17_method_4_code 0 = .ok (.new 29, 3) := by decide +kernel
theorem e38_3 : decode prog_17_method_4_code 3 = .ok (.dup, 1) := by decide +kernel
theorem e38_4 : decode prog_17_method_4_code 4 = .ok (.invokespecial 31, 3) := by decide +kernel
theorem e38_7 : decode prog_17_method_4_code 7 = .ok (.ldc 139, 2) := by decide +kernel
theorem e38_9 : decode prog_17_method_4_code 9 = .ok (.invokevirtual 34, 3) := by decide +kernel
theorem e38_12 : decode prog_17_method_4_code 12 = .ok (.aload_n 0, 1) := by decide +kernel
theorem e38_13 : decode prog_17_method_4_code 13 = .ok (.getfield 7, 3) := by decide +kernel
theorem e38_16 : decode prog_17_method_4_code 16 = .ok (.ldc 141, 2) := by decide +kernel
theorem e38_18 : decode prog_17_method_4_code 18 = .ok (.invokevirtual 143, 3) := by decide +kernel
theorem e38_21 : decode prog_17_method_4_code 21 = .ok (.ifCond .eq 33, 3) := by decide +kernel
theorem e38_24 : decode prog_17_method_4_code 24 = .ok (.new 29, 3) := by decide +kernel
theorem e38_27 : decode prog_17_method_4_code 27 = .ok (.dup, 1) := by decide +kernel
theorem e38_28 : decode prog_17_method_4_code 28 = .ok (.invokespecial 31, 3) := by decide +kernel
theorem e38_31 : decode prog_17_method_4_code 31 = .ok (.ldc 80, 2) := by decide +kernel
theorem e38_33 : decode prog_17_method_4_code 33 = .ok (.invokevirtual 34, 3) := by decide +kernel
theorem e38_36 : decode prog_17_method_4_code 36 = .ok (.aload_n 0, 1) := by decide +kernel
theorem e38_37 : decode prog_17_method_4_code 37 = .ok (.getfield 7, 3) := by decide +kernel
theorem e38_40 : decode prog_17_method_4_code 40 = .ok (.invokevirtual 34, 3) := by decide +kernel
theorem e38_43 : decode prog_17_method_4_code 43 = .ok (.ldc 85, 2) := by decide +kernel
theorem e38_45 : decode prog_17_method_4_code 45 = .ok (.invokevirtual 34, 3) := by decide +kernel
theorem e38_48 : decode prog_17_method_4_code 48 = .ok (.invokevirtual 44, 3) := by decide +kernel
theorem e38_51 : decode prog_17_method_4_code 51 = .ok (.goto 7, 3) := by decide +kernel
theorem e38_54 : decode prog_17_method_4_code 54 = .ok (.aload_n 0, 1) := by decide +kernel
theorem e38_55 : decode prog_17_method_4_code 55 = .ok (.getfield 7, 3) := by decide +kernel
theorem e38_58 : decode prog_17_method_4_code 58 = .ok (.invokevirtual 34, 3) := by decide +kernel
theorem e38_61 : decode prog_17_method_4_code 61 = .ok (.ldc 141, 2) := by decide +kernel
theorem e38_63 : decode prog_17_method_4_code 63 = .ok (.invokevirtual 34, 3) := by decide +kernel
theorem e38_66 : decode prog_17_method_4_code 66 = .ok (.aload_n 0, 1) := by decide +kernel
theorem e38_67 : decode prog_17_method_4_code 67 = .ok (.getfield 13, 3) := by decide +kernel
theorem e38_70 : decode prog_17_method_4_code 70 = .ok (.invokevirtual 147, 3) := by decide +kernel
theorem e38_73 : decode prog_17_method_4_code 73 = .ok (.ldc 115, 2) := by decide +kernel
theorem e38_75 : decode prog_17_method_4_code 75 = .ok (.invokevirtual 34, 3) := by decide +kernel
theorem e38_78 : decode prog_17_method_4_code 78 = .ok (.aload_n 0, 1) := by decide +kernel
theorem e38_79 : decode prog_17_method_4_code 79 = .ok (.getfield 17, 3) := by decide +kernel
theorem e38_82 : decode prog_17_method_4_code 82 = .ok (.invokevirtual 147, 3) := by decide +kernel
theorem e38_85 : decode prog_17_method_4_code 85 = .ok (.invokevirtual 44, 3) := by decide +kernel
theorem e38_88 : decode prog_17_method_4_code 88 = .ok (.areturn, 1) := by decide +kernel
theorem pd25 : parseMethodDescriptor "(Ljava/lang/String;)Ljava/lang/StringBuilder;" = some ⟨[(.object "java/lang/String")], some (.object "java/lang/StringBuilder")⟩ := by decide +kernel
theorem pd26 : parseMethodDescriptor "(Ljava/lang/CharSequence;)Z" = some ⟨[(.object "java/lang/CharSequence")], some .boolean⟩ := by decide +kernel
theorem pd27 : parseMethodDescriptor "(I)Ljava/lang/StringBuilder;" = some ⟨[.int], some (.object "java/lang/StringBuilder")⟩ := by decide +kernel
set_option maxRecDepth 65536 in
set_option maxHeartbeats 40000000 in
theorem con_rts (l : Launch) (Z : State) (a0 : Array Value) (hw : ∀ d ∈ tables_1, d.before a0 Z = true) (x hst d1 d10 : Addr) (port db : Int32) (hs : List Int32) (h0 : Heap) (O0 : Ext Z.heap h0) (F_host : Fld Z h0 x "com/example/devizes/devizes/redis/RedisAddress" "host" "Ljava/lang/String;" (.ref hst)) (F_port : Fld Z h0 x "com/example/devizes/devizes/redis/RedisAddress" "port" "I" (.int port)) (F_db : Fld Z h0 x "com/example/devizes/devizes/redis/RedisAddress" "database" "I" (.int db)) (S_h : Sg Z h0 hst hs) (hhl : hs.length ≤ 3) (hcm : Cpt Z) (SO_ : Sta Z Z.heap "java/lang/Integer" "DigitOnes" "[B" (.ref d1)) (SX_ : Sta Z Z.heap "java/lang/Integer" "DigitTens" "[B" (.ref d10)) (D1_ : Dg Z d1 100 (fun j => Int32.ofNat (48 + j % 10))) (D10_ : Dg Z d10 100 (fun j => Int32.ofNat (48 + j / 10))) :
    Con l Z consts_1 false (⟨"com/example/devizes/devizes/redis/RedisAddress", "toString", "()Ljava/lang/String;"⟩ : MethodName) prog_17_method_4_code 1 (some (.object "java/lang/String")) [] ({ frames := 6, cells := 29, slots := 1510, locals := 92 } : Room) #[(.ref x)] [] h0 (fun v h => ∃ r, v = some (.ref r) ∧ Ext h0 h ∧ h0.size ≤ r ∧ Sg Z h r (full hs port db)) := by
  refine Con.intro (Ls := #[.val (.ref x)]) (plainFor_of_name pn8) (own_EL hw) O0 (fun m => by first | (simp [entryFrame, mkF, argsToLocals, Value.category]; done) | rfl) (fun p e s m below meth cc_ T w sf_ => ?_)
  have E0 := ext_refl h0
  have l1_ := dec_le port
  have l2_ := dec_le db
  refine g_new w e38_0 (q := 3) rfl (Hw hw 45 rfl) (Hw hw 46 rfl) (Hw hw 47 rfl) (by decide) (by decide) (fun T h a1 w E g_a1 n_a1 X_a1 D_a1 s_a1 => ?_)
  have z_a1 := Nat.le_trans E0.1 g_a1
  replace E0 := ext_trans E0 E
  have F_value_a1 := D_a1 (Or.inl (Hw hw 60 rfl)) (ty := (.array .byte)) (by decide)
  replace F_value_a1 : Fld Z h a1 "java/lang/AbstractStringBuilder" "value" "[B" .null := F_value_a1
  have F_coder_a1 := D_a1 (Or.inl (Hw hw 62 rfl)) (ty := .byte) (by decide)
  replace F_coder_a1 : Fld Z h a1 "java/lang/AbstractStringBuilder" "coder" "B" (.int (0 : Int32)) := F_coder_a1
  have F_count_a1 := D_a1 (Or.inl (Hw hw 86 rfl)) (ty := .int) (by decide)
  replace F_count_a1 : Fld Z h a1 "java/lang/AbstractStringBuilder" "count" "I" (.int (0 : Int32)) := F_count_a1
  refine g_dup w e38_3 (q := 4) rfl rfl ?_
  refine g_special w (con_sbi l Z a0 hw a1 _ w.old X_a1 F_value_a1 F_coder_a1 F_count_a1 n_a1 hcm) no0 e38_4 (q := 7) rfl rfl rfl (Hw hw 48 rfl) (Hw hw 49 rfl) (Hw hw 47 rfl) (Hw hw 50 rfl) (by decide) pd24 rfl rfl (W := 1) (Nat.le_of_eq rfl) (by decide) (by decide) (by decide) (by decide) (fun T h v w gs C q => ?_)
  obtain ⟨rfl, K, b_a1, g_b_a1, B_a1⟩ := q
  have z_b_a1 := Nat.le_trans E0.1 g_b_a1
  have ne_a1_b_a1 : a1 ≠ b_a1 := Nat.ne_of_lt (Nat.lt_of_lt_of_le X_a1.lt g_b_a1)
  replace E0 := ext_keep E0 K z_a1
  have X0 := X_a1
  replace X_a1 := X_a1.keep K
  have n_b_a1 := Nat.le_trans O0.1 z_b_a1
  show Go p e below _ (State.setTop T (mkF m 7 #[.val (.ref x)] [(.ref a1)]))
  refine g_ldcS w e38_7 (q := 9) rfl rfl (Hw hw 63 rfl) (own_wS hw) (by decide) (vs := [.int (114 : Int32), .int (101 : Int32), .int (100 : Int32), .int (105 : Int32), .int (115 : Int32), .int (58 : Int32), .int (47 : Int32), .int (47 : Int32)]) (z := 8) ⟨by decide, by decide⟩ (by decide) (by decide) (nn := 32) (by decide) (by decide) (by decide) (by decide) (fun T vm h t2 b_t2 kb_t2 w E X_t2 Fc_t2 Fv_t2 Ab_t2 C Sf => ?_)
  replace E0 := ext_trans E0 E
  replace B_a1 := B_a1.ext E
  have S_t2 : Sg Z h t2 [(114 : Int32), (101 : Int32), (100 : Int32), (105 : Int32), (115 : Int32), (58 : Int32), (47 : Int32), (47 : Int32)] := ⟨Nat.le_of_ble_eq_true rfl, by unfold Lt8; decide, X_t2, b_t2, kb_t2, Fv_t2, Fc_t2, Ab_t2⟩
  refine g_virtual w (con_sas l Z a0 hw a1 t2 b_a1 (List.replicate 16 (.int 0)) [] [(114 : Int32), (101 : Int32), (100 : Int32), (105 : Int32), (115 : Int32), (58 : Int32), (47 : Int32), (47 : Int32)] _ w.old B_a1 S_t2 n_a1 n_b_a1 (by simp only [List.length_append, List.length_cons, List.length_nil]; omega) hcm) no0 B_a1.exa e38_9 (q := 12) rfl rfl (Hw hw 64 rfl) (Hw hw 65 rfl) (Hw hw 67 rfl) (Hw hw 66 rfl) (Hw hw 47 rfl) (Hw hw 68 rfl) (by decide) (nf (Hw hw 67 rfl)) pd25 rfl rfl (W := 0) (Nat.le_of_eq rfl) (by decide) (by decide) (by decide) (by decide) (fun T h v w gs C q => ?_)
  obtain ⟨rfl, K, b3, v4, hb_, G_a1⟩ := q
  have z_b3 : h0.size ≤ b3 := hb_.elim (fun e_ => by rw [e_]; exact z_b_a1) (fun g_ => Nat.le_trans E0.1 g_)
  have n_b3 := Nat.le_trans O0.1 z_b3
  replace E0 := ext_keep2 E0 K z_a1 z_b_a1
  replace B_a1 := G_a1
  show Go p e below _ (State.setTop T (mkF m 12 #[.val (.ref x)] [(.ref a1)]))
  refine g_aloadN w e38_12 (q := 13) rfl rfl rfl ?_
  refine g_getF w e38_13 (q := 16) rfl (host := "") (Or.inl (Hw hw 34 rfl)) Via.refl (F_host.ext E0) (fun T w => ?_)
  have S_now := S_h.ext E0
  refine g_ldcS w e38_16 (q := 18) rfl rfl (Hw hw 112 rfl) (own_wS hw) (by decide) (vs := [.int (58 : Int32)]) (z := 1) ⟨by decide, by decide⟩ (by decide) (by decide) (nn := 4) (by decide) (by decide) (by decide) (by decide) (fun T vm h t5 b_t5 kb_t5 w E X_t5 Fc_t5 Fv_t5 Ab_t5 C Sf => ?_)
  replace E0 := ext_trans E0 E
  replace B_a1 := B_a1.ext E
  replace S_now := S_now.ext E
  have S_t5 : Sg Z h t5 [(58 : Int32)] := ⟨Nat.le_of_ble_eq_true rfl, by unfold Lt8; decide, X_t5, b_t5, kb_t5, Fv_t5, Fc_t5, Ab_t5⟩
  refine g_virtualP w (con_cont l Z a0 hw hst t5 _ _ w.old S_now S_t5 hcm) no0 S_now.exa e38_18 (q := 21) rfl rfl (Hw hw 113 rfl) (Hw hw 114 rfl) (Hw hw 116 rfl) (Hw hw 115 rfl) (Hw hw 3 rfl) (Hw hw 117 rfl) (by decide) (nf (Hw hw 116 rfl)) pd26 rfl rfl (W := 1) (Nat.le_of_eq rfl) (by decide) (by decide) (by decide) (by decide) (fun T v w C q => ?_)
  obtain rfl := q
  rcases (Decidable.em (fix 58 hs 0 < 0)) with hfx | hfx
  · rw [if_pos hfx]
    show Go p e below _ (State.setTop T (mkF m 21 #[.val (.ref x)] [(.int (0 : Int32)), (.ref a1)]))
    refine g_ifY w e38_21 (by decide) (q := 54) (by decide) (by decide) ?_
    refine g_aloadN w e38_54 (q := 55) rfl rfl rfl ?_
    refine g_getF w e38_55 (q := 58) rfl (host := "") (Or.inl (Hw hw 34 rfl)) Via.refl (F_host.ext E0) (fun T w => ?_)
    have S_now := S_h.ext E0
    refine g_virtual w (con_sas l Z a0 hw a1 hst b3 v4 ([] ++ [(114 : Int32), (101 : Int32), (100 : Int32), (105 : Int32), (115 : Int32), (58 : Int32), (47 : Int32), (47 : Int32)]) hs _ w.old B_a1 S_now n_a1 n_b3 (by simp only [List.length_append, List.length_cons, List.length_nil]; omega) hcm) no0 B_a1.exa e38_58 (q := 61) rfl rfl (Hw hw 64 rfl) (Hw hw 65 rfl) (Hw hw 67 rfl) (Hw hw 66 rfl) (Hw hw 47 rfl) (Hw hw 68 rfl) (by decide) (nf (Hw hw 67 rfl)) pd25 rfl rfl (W := 0) (Nat.le_of_eq rfl) (by decide) (by decide) (by decide) (by decide) (fun T h v w gs C q => ?_)
    obtain ⟨rfl, K, b7, v8, hb_, G_a1⟩ := q
    have z_b7 : h0.size ≤ b7 := hb_.elim (fun e_ => by rw [e_]; exact z_b3) (fun g_ => Nat.le_trans E0.1 g_)
    have n_b7 := Nat.le_trans O0.1 z_b7
    replace E0 := ext_keep2 E0 K z_a1 z_b3
    replace B_a1 := G_a1
    show Go p e below _ (State.setTop T (mkF m 61 #[.val (.ref x)] [(.ref a1)]))
    refine g_ldcS w e38_61 (q := 63) rfl rfl (Hw hw 112 rfl) (own_wS hw) (by decide) (vs := [.int (58 : Int32)]) (z := 1) ⟨by decide, by decide⟩ (by decide) (by decide) (nn := 4) (by decide) (by decide) (by decide) (by decide) (fun T vm h t9 b_t9 kb_t9 w E X_t9 Fc_t9 Fv_t9 Ab_t9 C Sf => ?_)
    replace E0 := ext_trans E0 E
    replace B_a1 := B_a1.ext E
    have S_t9 : Sg Z h t9 [(58 : Int32)] := ⟨Nat.le_of_ble_eq_true rfl, by unfold Lt8; decide, X_t9, b_t9, kb_t9, Fv_t9, Fc_t9, Ab_t9⟩
    refine g_virtual w (con_sas l Z a0 hw a1 t9 b7 v8 (([] ++ [(114 : Int32), (101 : Int32), (100 : Int32), (105 : Int32), (115 : Int32), (58 : Int32), (47 : Int32), (47 : Int32)]) ++ hs) [(58 : Int32)] _ w.old B_a1 S_t9 n_a1 n_b7 (by simp only [List.length_append, List.length_cons, List.length_nil]; omega) hcm) no0 B_a1.exa e38_63 (q := 66) rfl rfl (Hw hw 64 rfl) (Hw hw 65 rfl) (Hw hw 67 rfl) (Hw hw 66 rfl) (Hw hw 47 rfl) (Hw hw 68 rfl) (by decide) (nf (Hw hw 67 rfl)) pd25 rfl rfl (W := 0) (Nat.le_of_eq rfl) (by decide) (by decide) (by decide) (by decide) (fun T h v w gs C q => ?_)
    obtain ⟨rfl, K, b10, v11, hb_, G_a1⟩ := q
    have z_b10 : h0.size ≤ b10 := hb_.elim (fun e_ => by rw [e_]; exact z_b7) (fun g_ => Nat.le_trans E0.1 g_)
    have n_b10 := Nat.le_trans O0.1 z_b10
    replace E0 := ext_keep2 E0 K z_a1 z_b7
    replace B_a1 := G_a1
    show Go p e below _ (State.setTop T (mkF m 66 #[.val (.ref x)] [(.ref a1)]))
    refine g_aloadN w e38_66 (q := 67) rfl rfl rfl ?_
    refine g_getF w e38_67 (q := 70) rfl (host := "") (Or.inl (Hw hw 36 rfl)) Via.refl (F_port.ext E0) (fun T w => ?_)
    refine g_virtual w (con_sai l Z a0 hw a1 b10 d1 d10 port v11 ((([] ++ [(114 : Int32), (101 : Int32), (100 : Int32), (105 : Int32), (115 : Int32), (58 : Int32), (47 : Int32), (47 : Int32)]) ++ hs) ++ [(58 : Int32)]) _ w.old B_a1 n_a1 n_b10 (by simp only [List.length_append, List.length_cons, List.length_nil]; omega) hcm SO_ SX_ D1_ D10_) no0 B_a1.exa e38_70 (q := 73) rfl rfl (Hw hw 141 rfl) (Hw hw 142 rfl) (Hw hw 144 rfl) (Hw hw 143 rfl) (Hw hw 47 rfl) (Hw hw 145 rfl) (by decide) (nf (Hw hw 144 rfl)) pd27 rfl rfl (W := 0) (Nat.le_of_eq rfl) (by decide) (by decide) (by decide) (by decide) (fun T h v w gs C q => ?_)
    obtain ⟨rfl, K, b12, v13, hb_, G_a1⟩ := q
    have z_b12 : h0.size ≤ b12 := hb_.elim (fun e_ => by rw [e_]; exact z_b10) (fun g_ => Nat.le_trans E0.1 g_)
    have n_b12 := Nat.le_trans O0.1 z_b12
    replace E0 := ext_keep2 E0 K z_a1 z_b10
    replace B_a1 := G_a1
    show Go p e below _ (State.setTop T (mkF m 73 #[.val (.ref x)] [(.ref a1)]))
    refine g_ldcS w e38_73 (q := 75) rfl rfl (Hw hw 163 rfl) (own_wS hw) (by decide) (vs := [.int (47 : Int32)]) (z := 1) ⟨by decide, by decide⟩ (by decide) (by decide) (nn := 4) (by decide) (by decide) (by decide) (by decide) (fun T vm h t14 b_t14 kb_t14 w E X_t14 Fc_t14 Fv_t14 Ab_t14 C Sf => ?_)
    replace E0 := ext_trans E0 E
    replace B_a1 := B_a1.ext E
    have S_t14 : Sg Z h t14 [(47 : Int32)] := ⟨Nat.le_of_ble_eq_true rfl, by unfold Lt8; decide, X_t14, b_t14, kb_t14, Fv_t14, Fc_t14, Ab_t14⟩
    refine g_virtual w (con_sas l Z a0 hw a1 t14 b12 v13 (((([] ++ [(114 : Int32), (101 : Int32), (100 : Int32), (105 : Int32), (115 : Int32), (58 : Int32), (47 : Int32), (47 : Int32)]) ++ hs) ++ [(58 : Int32)]) ++ dec port) [(47 : Int32)] _ w.old B_a1 S_t14 n_a1 n_b12 (by simp only [List.length_append, List.length_cons, List.length_nil]; omega) hcm) no0 B_a1.exa e38_75 (q := 78) rfl rfl (Hw hw 64 rfl) (Hw hw 65 rfl) (Hw hw 67 rfl) (Hw hw 66 rfl) (Hw hw 47 rfl) (Hw hw 68 rfl) (by decide) (nf (Hw hw 67 rfl)) pd25 rfl rfl (W := 0) (Nat.le_of_eq rfl) (by decide) (by decide) (by decide) (by decide) (fun T h v w gs C q => ?_)
    obtain ⟨rfl, K, b15, v16, hb_, G_a1⟩ := q
    have z_b15 : h0.size ≤ b15 := hb_.elim (fun e_ => by rw [e_]; exact z_b12) (fun g_ => Nat.le_trans E0.1 g_)
    have n_b15 := Nat.le_trans O0.1 z_b15
    replace E0 := ext_keep2 E0 K z_a1 z_b12
    replace B_a1 := G_a1
    show Go p e below _ (State.setTop T (mkF m 78 #[.val (.ref x)] [(.ref a1)]))
    refine g_aloadN w e38_78 (q := 79) rfl rfl rfl ?_
    refine g_getF w e38_79 (q := 82) rfl (host := "") (Or.inl (Hw hw 38 rfl)) Via.refl (F_db.ext E0) (fun T w => ?_)
    refine g_virtual w (con_sai l Z a0 hw a1 b15 d1 d10 db v16 ((((([] ++ [(114 : Int32), (101 : Int32), (100 : Int32), (105 : Int32), (115 : Int32), (58 : Int32), (47 : Int32), (47 : Int32)]) ++ hs) ++ [(58 : Int32)]) ++ dec port) ++ [(47 : Int32)]) _ w.old B_a1 n_a1 n_b15 (by simp only [List.length_append, List.length_cons, List.length_nil]; omega) hcm SO_ SX_ D1_ D10_) no0 B_a1.exa e38_82 (q := 85) rfl rfl (Hw hw 141 rfl) (Hw hw 142 rfl) (Hw hw 144 rfl) (Hw hw 143 rfl) (Hw hw 47 rfl) (Hw hw 145 rfl) (by decide) (nf (Hw hw 144 rfl)) pd27 rfl rfl (W := 0) (Nat.le_of_eq rfl) (by decide) (by decide) (by decide) (by decide) (fun T h v w gs C q => ?_)
    obtain ⟨rfl, K, b17, v18, hb_, G_a1⟩ := q
    have z_b17 : h0.size ≤ b17 := hb_.elim (fun e_ => by rw [e_]; exact z_b15) (fun g_ => Nat.le_trans E0.1 g_)
    have n_b17 := Nat.le_trans O0.1 z_b17
    replace E0 := ext_keep2 E0 K z_a1 z_b15
    replace B_a1 := G_a1
    show Go p e below _ (State.setTop T (mkF m 85 #[.val (.ref x)] [(.ref a1)]))
    rw [show (((((([] ++ [(114 : Int32), (101 : Int32), (100 : Int32), (105 : Int32), (115 : Int32), (58 : Int32), (47 : Int32), (47 : Int32)]) ++ hs) ++ [(58 : Int32)]) ++ dec port) ++ [(47 : Int32)]) ++ dec db) = (full hs port db) from full_no hfx] at B_a1
    refine g_virtual w (con_ts l Z a0 hw a1 b17 v18 (full hs port db) _ w.old B_a1 (full_lat S_h.2.1 port db) (by rw [full_len]; have := hp_len hs; omega) hcm) no0 B_a1.exa e38_85 (q := 88) rfl rfl (Hw hw 164 rfl) (Hw hw 165 rfl) (Hw hw 167 rfl) (Hw hw 166 rfl) (Hw hw 47 rfl) (Hw hw 168 rfl) (by decide) (nf (Hw hw 167 rfl)) pd22 rfl rfl (W := 0) (Nat.le_of_eq rfl) (by decide) (by decide) (by decide) (by decide) (fun T h v w gs C q => ?_)
    obtain ⟨r19, rfl, E, g_r19, S_r19⟩ := q
    have z_r19 := Nat.le_trans E0.1 g_r19
    have ne_a1_r19 : a1 ≠ r19 := Nat.ne_of_lt (Nat.lt_of_lt_of_le B_a1.lt g_r19)
    have ne_b17_r19 : b17 ≠ r19 := Nat.ne_of_lt (Nat.lt_of_lt_of_le B_a1.ltb g_r19)
    replace E0 := ext_trans E0 E
    replace B_a1 := B_a1.ext E
    show Go p e below _ (State.setTop T (mkF m 88 #[.val (.ref x)] [(.ref r19)]))
    exact g_reta w e38_88 rfl rfl rfl (by decide) (by decide) ⟨_, rfl, E0, z_r19, S_r19⟩
  · rw [if_neg hfx]
    show Go p e below _ (State.setTop T (mkF m 21 #[.val (.ref x)] [(.int (1 : Int32)), (.ref a1)]))
    refine g_ifN w e38_21 (q := 24) rfl (by decide) ?_
    refine g_new w e38_24 (q := 27) rfl (Hw hw 45 rfl) (Hw hw 46 rfl) (Hw hw 47 rfl) (by decide) (by decide) (fun T h a21 w E g_a21 n_a21 X_a21 D_a21 s_a21 => ?_)
    have z_a21 := Nat.le_trans E0.1 g_a21
    have ne_a1_a21 : a1 ≠ a21 := Nat.ne_of_lt (Nat.lt_of_lt_of_le B_a1.lt g_a21)
    have ne_b3_a21 : b3 ≠ a21 := Nat.ne_of_lt (Nat.lt_of_lt_of_le B_a1.ltb g_a21)
    replace E0 := ext_trans E0 E
    replace B_a1 := B_a1.ext E
    have F_value_a21 := D_a21 (Or.inl (Hw hw 60 rfl)) (ty := (.array .byte)) (by decide)
    replace F_value_a21 : Fld Z h a21 "java/lang/AbstractStringBuilder" "value" "[B" .null := F_value_a21
    have F_coder_a21 := D_a21 (Or.inl (Hw hw 62 rfl)) (ty := .byte) (by decide)
    replace F_coder_a21 : Fld Z h a21 "java/lang/AbstractStringBuilder" "coder" "B" (.int (0 : Int32)) := F_coder_a21
    have F_count_a21 := D_a21 (Or.inl (Hw hw 86 rfl)) (ty := .int) (by decide)
    replace F_count_a21 : Fld Z h a21 "java/lang/AbstractStringBuilder" "count" "I" (.int (0 : Int32)) := F_count_a21
    refine g_dup w e38_27 (q := 28) rfl rfl ?_
    refine g_special w (con_sbi l Z a0 hw a21 _ w.old X_a21 F_value_a21 F_coder_a21 F_count_a21 n_a21 hcm) no0 e38_28 (q := 31) rfl rfl rfl (Hw hw 48 rfl) (Hw hw 49 rfl) (Hw hw 47 rfl) (Hw hw 50 rfl) (by decide) pd24 rfl rfl (W := 2) (Nat.le_of_eq rfl) (by decide) (by decide) (by decide) (by decide) (fun T h v w gs C q => ?_)
    obtain ⟨rfl, K, b_a21, g_b_a21, B_a21⟩ := q
    have z_b_a21 := Nat.le_trans E0.1 g_b_a21
    have ne_a1_b_a21 : a1 ≠ b_a21 := Nat.ne_of_lt (Nat.lt_of_lt_of_le B_a1.lt g_b_a21)
    have ne_b3_b_a21 : b3 ≠ b_a21 := Nat.ne_of_lt (Nat.lt_of_lt_of_le B_a1.ltb g_b_a21)
    have ne_a21_b_a21 : a21 ≠ b_a21 := Nat.ne_of_lt (Nat.lt_of_lt_of_le X_a21.lt g_b_a21)
    replace E0 := ext_keep E0 K z_a21
    have X0 := X_a21
    replace B_a1 := B_a1.keep K (not1 ne_a1_a21) (not1 ne_b3_a21)
    replace X_a21 := X_a21.keep K
    have n_b_a21 := Nat.le_trans O0.1 z_b_a21
    show Go p e below _ (State.setTop T (mkF m 31 #[.val (.ref x)] [(.ref a21), (.ref a1)]))
    refine g_ldcS w e38_31 (q := 33) rfl rfl (Hw hw 287 rfl) (own_wS hw) (by decide) (vs := [.int (91 : Int32)]) (z := 1) ⟨by decide, by decide⟩ (by decide) (by decide) (nn := 4) (by decide) (by decide) (by decide) (by decide) (fun T vm h t22 b_t22 kb_t22 w E X_t22 Fc_t22 Fv_t22 Ab_t22 C Sf => ?_)
    replace E0 := ext_trans E0 E
    replace B_a1 := B_a1.ext E
    replace B_a21 := B_a21.ext E
    have S_t22 : Sg Z h t22 [(91 : Int32)] := ⟨Nat.le_of_ble_eq_true rfl, by unfold Lt8; decide, X_t22, b_t22, kb_t22, Fv_t22, Fc_t22, Ab_t22⟩
    refine g_virtual w (con_sas l Z a0 hw a21 t22 b_a21 (List.replicate 16 (.int 0)) [] [(91 : Int32)] _ w.old B_a21 S_t22 n_a21 n_b_a21 (by simp only [List.length_append, List.length_cons, List.length_nil]; omega) hcm) no0 B_a21.exa e38_33 (q := 36) rfl rfl (Hw hw 64 rfl) (Hw hw 65 rfl) (Hw hw 67 rfl) (Hw hw 66 rfl) (Hw hw 47 rfl) (Hw hw 68 rfl) (by decide) (nf (Hw hw 67 rfl)) pd25 rfl rfl (W := 1) (Nat.le_of_eq rfl) (by decide) (by decide) (by decide) (by decide) (fun T h v w gs C q => ?_)
    obtain ⟨rfl, K, b23, v24, hb_, G_a21⟩ := q
    have z_b23 : h0.size ≤ b23 := hb_.elim (fun e_ => by rw [e_]; exact z_b_a21) (fun g_ => Nat.le_trans E0.1 g_)
    have n_b23 := Nat.le_trans O0.1 z_b23
    have ne_a1_b23 : a1 ≠ b23 := hb_.elim (fun e_ => by rw [e_]; exact ne_a1_b_a21) (fun g_ => Nat.ne_of_lt (Nat.lt_of_lt_of_le B_a1.lt g_))
    have ne_b3_b23 : b3 ≠ b23 := hb_.elim (fun e_ => by rw [e_]; exact ne_b3_b_a21) (fun g_ => Nat.ne_of_lt (Nat.lt_of_lt_of_le B_a1.ltb g_))
    replace E0 := ext_keep2 E0 K z_a21 z_b_a21
    replace B_a1 := B_a1.keep K (not2 ne_a1_a21 ne_a1_b_a21) (not2 ne_b3_a21 ne_b3_b_a21)
    replace B_a21 := G_a21
    show Go p e below _ (State.setTop T (mkF m 36 #[.val (.ref x)] [(.ref a21), (.ref a1)]))
    refine g_aloadN w e38_36 (q := 37) rfl rfl rfl ?_
    refine g_getF w e38_37 (q := 40) rfl (host := "") (Or.inl (Hw hw 34 rfl)) Via.refl (F_host.ext E0) (fun T w => ?_)
    have S_now := S_h.ext E0
    refine g_virtual w (con_sas l Z a0 hw a21 hst b23 v24 ([] ++ [(91 : Int32)]) hs _ w.old B_a21 S_now n_a21 n_b23 (by simp only [List.length_append, List.length_cons, List.length_nil]; omega) hcm) no0 B_a21.exa e38_40 (q := 43) rfl rfl (Hw hw 64 rfl) (Hw hw 65 rfl) (Hw hw 67 rfl) (Hw hw 66 rfl) (Hw hw 47 rfl) (Hw hw 68 rfl) (by decide) (nf (Hw hw 67 rfl)) pd25 rfl rfl (W := 1) (Nat.le_of_eq rfl) (by decide) (by decide) (by decide) (by decide) (fun T h v w gs C q => ?_)
    obtain ⟨rfl, K, b25, v26, hb_, G_a21⟩ := q
    have z_b25 : h0.size ≤ b25 := hb_.elim (fun e_ => by rw [e_]; exact z_b23) (fun g_ => Nat.le_trans E0.1 g_)
    have n_b25 := Nat.le_trans O0.1 z_b25
    have ne_a1_b25 : a1 ≠ b25 := hb_.elim (fun e_ => by rw [e_]; exact ne_a1_b23) (fun g_ => Nat.ne_of_lt (Nat.lt_of_lt_of_le B_a1.lt g_))
    have ne_b3_b25 : b3 ≠ b25 := hb_.elim (fun e_ => by rw [e_]; exact ne_b3_b23) (fun g_ => Nat.ne_of_lt (Nat.lt_of_lt_of_le B_a1.ltb g_))
    replace E0 := ext_keep2 E0 K z_a21 z_b23
    replace B_a1 := B_a1.keep K (not2 ne_a1_a21 ne_a1_b23) (not2 ne_b3_a21 ne_b3_b23)
    replace B_a21 := G_a21
    show Go p e below _ (State.setTop T (mkF m 43 #[.val (.ref x)] [(.ref a21), (.ref a1)]))
    refine g_ldcS w e38_43 (q := 45) rfl rfl (Hw hw 288 rfl) (own_wS hw) (by decide) (vs := [.int (93 : Int32)]) (z := 1) ⟨by decide, by decide⟩ (by decide) (by decide) (nn := 4) (by decide) (by decide) (by decide) (by decide) (fun T vm h t27 b_t27 kb_t27 w E X_t27 Fc_t27 Fv_t27 Ab_t27 C Sf => ?_)
    replace E0 := ext_trans E0 E
    replace B_a1 := B_a1.ext E
    replace B_a21 := B_a21.ext E
    have S_t27 : Sg Z h t27 [(93 : Int32)] := ⟨Nat.le_of_ble_eq_true rfl, by unfold Lt8; decide, X_t27, b_t27, kb_t27, Fv_t27, Fc_t27, Ab_t27⟩
    refine g_virtual w (con_sas l Z a0 hw a21 t27 b25 v26 (([] ++ [(91 : Int32)]) ++ hs) [(93 : Int32)] _ w.old B_a21 S_t27 n_a21 n_b25 (by simp only [List.length_append, List.length_cons, List.length_nil]; omega) hcm) no0 B_a21.exa e38_45 (q := 48) rfl rfl (Hw hw 64 rfl) (Hw hw 65 rfl) (Hw hw 67 rfl) (Hw hw 66 rfl) (Hw hw 47 rfl) (Hw hw 68 rfl) (by decide) (nf (Hw hw 67 rfl)) pd25 rfl rfl (W := 1) (Nat.le_of_eq rfl) (by decide) (by decide) (by decide) (by decide) (fun T h v w gs C q => ?_)
    obtain ⟨rfl, K, b28, v29, hb_, G_a21⟩ := q
    have z_b28 : h0.size ≤ b28 := hb_.elim (fun e_ => by rw [e_]; exact z_b25) (fun g_ => Nat.le_trans E0.1 g_)
    have n_b28 := Nat.le_trans O0.1 z_b28
    have ne_a1_b28 : a1 ≠ b28 := hb_.elim (fun e_ => by rw [e_]; exact ne_a1_b25) (fun g_ => Nat.ne_of_lt (Nat.lt_of_lt_of_le B_a1.lt g_))
    have ne_b3_b28 : b3 ≠ b28 := hb_.elim (fun e_ => by rw [e_]; exact ne_b3_b25) (fun g_ => Nat.ne_of_lt (Nat.lt_of_lt_of_le B_a1.ltb g_))
    replace E0 := ext_keep2 E0 K z_a21 z_b25
    replace B_a1 := B_a1.keep K (not2 ne_a1_a21 ne_a1_b25) (not2 ne_b3_a21 ne_b3_b25)
    replace B_a21 := G_a21
    show Go p e below _ (State.setTop T (mkF m 48 #[.val (.ref x)] [(.ref a21), (.ref a1)]))
    rw [show ((([] ++ [(91 : Int32)]) ++ hs) ++ [(93 : Int32)]) = (91 :: (hs ++ [93])) from by simp] at B_a21
    refine g_virtual w (con_ts l Z a0 hw a21 b28 v29 (91 :: (hs ++ [93])) _ w.old B_a21 (in_lat S_h.2.1) (by simp; omega) hcm) no0 B_a21.exa e38_48 (q := 51) rfl rfl (Hw hw 164 rfl) (Hw hw 165 rfl) (Hw hw 167 rfl) (Hw hw 166 rfl) (Hw hw 47 rfl) (Hw hw 168 rfl) (by decide) (nf (Hw hw 167 rfl)) pd22 rfl rfl (W := 1) (Nat.le_of_eq rfl) (by decide) (by decide) (by decide) (by decide) (fun T h v w gs C q => ?_)
    obtain ⟨r30, rfl, E, g_r30, S_r30⟩ := q
    have z_r30 := Nat.le_trans E0.1 g_r30
    have ne_a1_r30 : a1 ≠ r30 := Nat.ne_of_lt (Nat.lt_of_lt_of_le B_a1.lt g_r30)
    have ne_b3_r30 : b3 ≠ r30 := Nat.ne_of_lt (Nat.lt_of_lt_of_le B_a1.ltb g_r30)
    have ne_a21_r30 : a21 ≠ r30 := Nat.ne_of_lt (Nat.lt_of_lt_of_le B_a21.lt g_r30)
    have ne_b28_r30 : b28 ≠ r30 := Nat.ne_of_lt (Nat.lt_of_lt_of_le B_a21.ltb g_r30)
    replace E0 := ext_trans E0 E
    replace B_a1 := B_a1.ext E
    replace B_a21 := B_a21.ext E
    show Go p e below _ (State.setTop T (mkF m 51 #[.val (.ref x)] [(.ref r30), (.ref a1)]))
    refine g_goto w e38_51 (by decide) (q := 58) (by decide) ?_
    refine g_virtual w (con_sas l Z a0 hw a1 r30 b3 v4 ([] ++ [(114 : Int32), (101 : Int32), (100 : Int32), (105 : Int32), (115 : Int32), (58 : Int32), (47 : Int32), (47 : Int32)]) (91 :: (hs ++ [93])) _ w.old B_a1 S_r30 n_a1 n_b3 (by simp only [List.length_append, List.length_cons, List.length_nil]; omega) hcm) no0 B_a1.exa e38_58 (q := 61) rfl rfl (Hw hw 64 rfl) (Hw hw 65 rfl) (Hw hw 67 rfl) (Hw hw 66 rfl) (Hw hw 47 rfl) (Hw hw 68 rfl) (by decide) (nf (Hw hw 67 rfl)) pd25 rfl rfl (W := 0) (Nat.le_of_eq rfl) (by decide) (by decide) (by decide) (by decide) (fun T h v w gs C q => ?_)
    obtain ⟨rfl, K, b31, v32, hb_, G_a1⟩ := q
    have z_b31 : h0.size ≤ b31 := hb_.elim (fun e_ => by rw [e_]; exact z_b3) (fun g_ => Nat.le_trans E0.1 g_)
    have n_b31 := Nat.le_trans O0.1 z_b31
    replace E0 := ext_keep2 E0 K z_a1 z_b3
    replace B_a1 := G_a1
    show Go p e below _ (State.setTop T (mkF m 61 #[.val (.ref x)] [(.ref a1)]))
    refine g_ldcS w e38_61 (q := 63) rfl rfl (Hw hw 112 rfl) (own_wS hw) (by decide) (vs := [.int (58 : Int32)]) (z := 1) ⟨by decide, by decide⟩ (by decide) (by decide) (nn := 4) (by decide) (by decide) (by decide) (by decide) (fun T vm h t33 b_t33 kb_t33 w E X_t33 Fc_t33 Fv_t33 Ab_t33 C Sf => ?_)
    replace E0 := ext_trans E0 E
    replace B_a1 := B_a1.ext E
    have S_t33 : Sg Z h t33 [(58 : Int32)] := ⟨Nat.le_of_ble_eq_true rfl, by unfold Lt8; decide, X_t33, b_t33, kb_t33, Fv_t33, Fc_t33, Ab_t33⟩
    refine g_virtual w (con_sas l Z a0 hw a1 t33 b31 v32 (([] ++ [(114 : Int32), (101 : Int32), (100 : Int32), (105 : Int32), (115 : Int32), (58 : Int32), (47 : Int32), (47 : Int32)]) ++ (91 :: (hs ++ [93]))) [(58 : Int32)] _ w.old B_a1 S_t33 n_a1 n_b31 (by simp only [List.length_append, List.length_cons, List.length_nil]; omega) hcm) no0 B_a1.exa e38_63 (q := 66) rfl rfl (Hw hw 64 rfl) (Hw hw 65 rfl) (Hw hw 67 rfl) (Hw hw 66 rfl) (Hw hw 47 rfl) (Hw hw 68 rfl) (by decide) (nf (Hw hw 67 rfl)) pd25 rfl rfl (W := 0) (Nat.le_of_eq rfl) (by decide) (by decide) (by decide) (by decide) (fun T h v w gs C q => ?_)
    obtain ⟨rfl, K, b34, v35, hb_, G_a1⟩ := q
    have z_b34 : h0.size ≤ b34 := hb_.elim (fun e_ => by rw [e_]; exact z_b31) (fun g_ => Nat.le_trans E0.1 g_)
    have n_b34 := Nat.le_trans O0.1 z_b34
    replace E0 := ext_keep2 E0 K z_a1 z_b31
    replace B_a1 := G_a1
    show Go p e below _ (State.setTop T (mkF m 66 #[.val (.ref x)] [(.ref a1)]))
    refine g_aloadN w e38_66 (q := 67) rfl rfl rfl ?_
    refine g_getF w e38_67 (q := 70) rfl (host := "") (Or.inl (Hw hw 36 rfl)) Via.refl (F_port.ext E0) (fun T w => ?_)
    refine g_virtual w (con_sai l Z a0 hw a1 b34 d1 d10 port v35 ((([] ++ [(114 : Int32), (101 : Int32), (100 : Int32), (105 : Int32), (115 : Int32), (58 : Int32), (47 : Int32), (47 : Int32)]) ++ (91 :: (hs ++ [93]))) ++ [(58 : Int32)]) _ w.old B_a1 n_a1 n_b34 (by simp only [List.length_append, List.length_cons, List.length_nil]; omega) hcm SO_ SX_ D1_ D10_) no0 B_a1.exa e38_70 (q := 73) rfl rfl (Hw hw 141 rfl) (Hw hw 142 rfl) (Hw hw 144 rfl) (Hw hw 143 rfl) (Hw hw 47 rfl) (Hw hw 145 rfl) (by decide) (nf (Hw hw 144 rfl)) pd27 rfl rfl (W := 0) (Nat.le_of_eq rfl) (by decide) (by decide) (by decide) (by decide) (fun T h v w gs C q => ?_)
    obtain ⟨rfl, K, b36, v37, hb_, G_a1⟩ := q
    have z_b36 : h0.size ≤ b36 := hb_.elim (fun e_ => by rw [e_]; exact z_b34) (fun g_ => Nat.le_trans E0.1 g_)
    have n_b36 := Nat.le_trans O0.1 z_b36
    replace E0 := ext_keep2 E0 K z_a1 z_b34
    replace B_a1 := G_a1
    show Go p e below _ (State.setTop T (mkF m 73 #[.val (.ref x)] [(.ref a1)]))
    refine g_ldcS w e38_73 (q := 75) rfl rfl (Hw hw 163 rfl) (own_wS hw) (by decide) (vs := [.int (47 : Int32)]) (z := 1) ⟨by decide, by decide⟩ (by decide) (by decide) (nn := 4) (by decide) (by decide) (by decide) (by decide) (fun T vm h t38 b_t38 kb_t38 w E X_t38 Fc_t38 Fv_t38 Ab_t38 C Sf => ?_)
    replace E0 := ext_trans E0 E
    replace B_a1 := B_a1.ext E
    have S_t38 : Sg Z h t38 [(47 : Int32)] := ⟨Nat.le_of_ble_eq_true rfl, by unfold Lt8; decide, X_t38, b_t38, kb_t38, Fv_t38, Fc_t38, Ab_t38⟩
    refine g_virtual w (con_sas l Z a0 hw a1 t38 b36 v37 (((([] ++ [(114 : Int32), (101 : Int32), (100 : Int32), (105 : Int32), (115 : Int32), (58 : Int32), (47 : Int32), (47 : Int32)]) ++ (91 :: (hs ++ [93]))) ++ [(58 : Int32)]) ++ dec port) [(47 : Int32)] _ w.old B_a1 S_t38 n_a1 n_b36 (by simp only [List.length_append, List.length_cons, List.length_nil]; omega) hcm) no0 B_a1.exa e38_75 (q := 78) rfl rfl (Hw hw 64 rfl) (Hw hw 65 rfl) (Hw hw 67 rfl) (Hw hw 66 rfl) (Hw hw 47 rfl) (Hw hw 68 rfl) (by decide) (nf (Hw hw 67 rfl)) pd25 rfl rfl (W := 0) (Nat.le_of_eq rfl) (by decide) (by decide) (by decide) (by decide) (fun T h v w gs C q => ?_)
    obtain ⟨rfl, K, b39, v40, hb_, G_a1⟩ := q
    have z_b39 : h0.size ≤ b39 := hb_.elim (fun e_ => by rw [e_]; exact z_b36) (fun g_ => Nat.le_trans E0.1 g_)
    have n_b39 := Nat.le_trans O0.1 z_b39
    replace E0 := ext_keep2 E0 K z_a1 z_b36
    replace B_a1 := G_a1
    show Go p e below _ (State.setTop T (mkF m 78 #[.val (.ref x)] [(.ref a1)]))
    refine g_aloadN w e38_78 (q := 79) rfl rfl rfl ?_
    refine g_getF w e38_79 (q := 82) rfl (host := "") (Or.inl (Hw hw 38 rfl)) Via.refl (F_db.ext E0) (fun T w => ?_)
    refine g_virtual w (con_sai l Z a0 hw a1 b39 d1 d10 db v40 ((((([] ++ [(114 : Int32), (101 : Int32), (100 : Int32), (105 : Int32), (115 : Int32), (58 : Int32), (47 : Int32), (47 : Int32)]) ++ (91 :: (hs ++ [93]))) ++ [(58 : Int32)]) ++ dec port) ++ [(47 : Int32)]) _ w.old B_a1 n_a1 n_b39 (by simp only [List.length_append, List.length_cons, List.length_nil]; omega) hcm SO_ SX_ D1_ D10_) no0 B_a1.exa e38_82 (q := 85) rfl rfl (Hw hw 141 rfl) (Hw hw 142 rfl) (Hw hw 144 rfl) (Hw hw 143 rfl) (Hw hw 47 rfl) (Hw hw 145 rfl) (by decide) (nf (Hw hw 144 rfl)) pd27 rfl rfl (W := 0) (Nat.le_of_eq rfl) (by decide) (by decide) (by decide) (by decide) (fun T h v w gs C q => ?_)
    obtain ⟨rfl, K, b41, v42, hb_, G_a1⟩ := q
    have z_b41 : h0.size ≤ b41 := hb_.elim (fun e_ => by rw [e_]; exact z_b39) (fun g_ => Nat.le_trans E0.1 g_)
    have n_b41 := Nat.le_trans O0.1 z_b41
    replace E0 := ext_keep2 E0 K z_a1 z_b39
    replace B_a1 := G_a1
    show Go p e below _ (State.setTop T (mkF m 85 #[.val (.ref x)] [(.ref a1)]))
    rw [show (((((([] ++ [(114 : Int32), (101 : Int32), (100 : Int32), (105 : Int32), (115 : Int32), (58 : Int32), (47 : Int32), (47 : Int32)]) ++ (91 :: (hs ++ [93]))) ++ [(58 : Int32)]) ++ dec port) ++ [(47 : Int32)]) ++ dec db) = (full hs port db) from full_yes hfx] at B_a1
    refine g_virtual w (con_ts l Z a0 hw a1 b41 v42 (full hs port db) _ w.old B_a1 (full_lat S_h.2.1 port db) (by rw [full_len]; have := hp_len hs; omega) hcm) no0 B_a1.exa e38_85 (q := 88) rfl rfl (Hw hw 164 rfl) (Hw hw 165 rfl) (Hw hw 167 rfl) (Hw hw 166 rfl) (Hw hw 47 rfl) (Hw hw 168 rfl) (by decide) (nf (Hw hw 167 rfl)) pd22 rfl rfl (W := 0) (Nat.le_of_eq rfl) (by decide) (by decide) (by decide) (by decide) (fun T h v w gs C q => ?_)
    obtain ⟨r43, rfl, E, g_r43, S_r43⟩ := q
    have z_r43 := Nat.le_trans E0.1 g_r43
    have ne_a1_r43 : a1 ≠ r43 := Nat.ne_of_lt (Nat.lt_of_lt_of_le B_a1.lt g_r43)
    have ne_b41_r43 : b41 ≠ r43 := Nat.ne_of_lt (Nat.lt_of_lt_of_le B_a1.ltb g_r43)
    replace E0 := ext_trans E0 E
    replace B_a1 := B_a1.ext E
    show Go p e below _ (State.setTop T (mkF m 88 #[.val (.ref x)] [(.ref r43)]))
    exact g_reta w e38_88 rfl rfl rfl (by decide) (by decide) ⟨_, rfl, E0, z_r43, S_r43⟩
theorem e39_0 : decode jdk_29_method_61_code 0 = .ok (.lload_n 0, 1) := by decide +kernel
theorem e39_1 : decode jdk_29_method_61_code 1 = .ok (.lconst 0, 1) := by decide +kernel
theorem e39_2 : decode jdk_29_method_61_code 2 = .ok (.lcmp, 1) := by decide +kernel
theorem e39_3 : decode jdk_29_method_61_code 3 = .ok (.ifCond .ge 8, 3) := by decide +kernel
theorem e39_6 : decode jdk_29_method_61_code 6 = .ok (.lload_n 0, 1) := by decide +kernel
theorem e39_7 : decode jdk_29_method_61_code 7 = .ok (.lneg, 1) := by decide +kernel
theorem e39_8 : decode jdk_29_method_61_code 8 = .ok (.goto 4, 3) := by decide +kernel
theorem e39_11 : decode jdk_29_method_61_code 11 = .ok (.lload_n 0, 1) := by decide +kernel
theorem e39_12 : decode jdk_29_method_61_code 12 = .ok (.lreturn, 1) := by decide +kernel
set_option maxRecDepth 65536 in
set_option maxHeartbeats 40000000 in
theorem con_abs (l : Launch) (Z : State) (a0 : Array Value) (hw : ∀ d ∈ tables_1, d.before a0 Z = true) (a_ : Int64) (h0 : Heap) (O0 : Ext Z.heap h0) :
    Con l Z consts_1 false (⟨"java/lang/Math", "abs", "(J)J"⟩ : MethodName) jdk_29_method_61_code 2 (some .long) [] ({ frames := 0, cells := 0, slots := 0, locals := 0 } : Room) #[(.long a_)] [] h0 (fun v h => v = some (.long (if a_ < 0 then -a_ else a_)) ∧ h = h0) := by
  refine Con.intro (Ls := #[.val (.long a_), .second]) (Jvm.Free.JP.mathPlain rfl (by decide +kernel)) (own_EL hw) O0 (fun m => by first | (simp [entryFrame, mkF, argsToLocals, Value.category]; done) | rfl) (fun p e s m below meth cc_ T w sf_ => ?_)
  have E0 := ext_refl h0
  refine g_lloadN w e39_0 (q := 1) rfl rfl ?_
  refine g_lconst w e39_1 (q := 2) rfl (v := (0 : Int64)) (by decide) ?_
  refine g_lcmp w e39_2 (q := 3) rfl ?_
  refine g_lc_ge w e39_3 (by decide) (q := 11) (by decide) (q' := 6) rfl (fun cd1 => ?_) (fun cd1 => ?_)
  · refine g_lloadN w e39_11 (q := 12) rfl rfl ?_
    exact g_retl w e39_12 rfl (by decide) (by decide) ⟨by rw [if_neg cd1], rfl⟩
  · refine g_lloadN w e39_6 (q := 7) rfl rfl ?_
    refine g_lneg w e39_7 (q := 8) rfl ?_
    refine g_goto w e39_8 (by decide) (q := 12) (by decide) ?_
    exact g_retl w e39_12 rfl (by decide) (by decide) ⟨by rw [if_pos cd1], rfl⟩
theorem e40_0 : decode method_4_code 0 = .ok (.iload_n 0, 1) := by decide +kernel
theorem e40_1 : decode method_4_code 1 = .ok (.i2l, 1) := by decide +kernel
theorem e40_2 : decode method_4_code 2 = .ok (.invokestatic 43, 3) := by decide +kernel
theorem e40_5 : decode method_4_code 5 = .ok (.lstore_n 1, 1) := by decide +kernel
theorem e40_6 : decode method_4_code 6 = .ok (.lload_n 1, 1) := by decide +kernel
theorem e40_7 : decode method_4_code 7 = .ok (.ldc2_w 49, 3) := by decide +kernel
theorem e40_10 : decode method_4_code 10 = .ok (.lcmp, 1) := by decide +kernel
theorem e40_11 : decode method_4_code 11 = .ok (.ifCond .ge 8, 3) := by decide +kernel
theorem e40_14 : decode method_4_code 14 = .ok (.iconst 1, 1) := by decide +kernel
theorem e40_15 : decode method_4_code 15 = .ok (.istore_n 3, 1) := by decide +kernel
theorem e40_16 : decode method_4_code 16 = .ok (.goto 114, 3) := by decide +kernel
theorem e40_19 : decode method_4_code 19 = .ok (.lload_n 1, 1) := by decide +kernel
theorem e40_20 : decode method_4_code 20 = .ok (.ldc2_w 51, 3) := by decide +kernel
theorem e40_23 : decode method_4_code 23 = .ok (.lcmp, 1) := by decide +kernel
theorem e40_24 : decode method_4_code 24 = .ok (.ifCond .ge 8, 3) := by decide +kernel
theorem e40_27 : decode method_4_code 27 = .ok (.iconst 2, 1) := by decide +kernel
theorem e40_28 : decode method_4_code 28 = .ok (.istore_n 3, 1) := by decide +kernel
theorem e40_29 : decode method_4_code 29 = .ok (.goto 101, 3) := by decide +kernel
theorem e40_32 : decode method_4_code 32 = .ok (.lload_n 1, 1) := by decide +kernel
theorem e40_33 : decode method_4_code 33 = .ok (.ldc2_w 53, 3) := by decide +kernel
theorem e40_36 : decode method_4_code 36 = .ok (.lcmp, 1) := by decide +kernel
theorem e40_37 : decode method_4_code 37 = .ok (.ifCond .ge 8, 3) := by decide +kernel
theorem e40_40 : decode method_4_code 40 = .ok (.iconst 3, 1) := by decide +kernel
theorem e40_41 : decode method_4_code 41 = .ok (.istore_n 3, 1) := by decide +kernel
theorem e40_42 : decode method_4_code 42 = .ok (.goto 88, 3) := by decide +kernel
theorem e40_45 : decode method_4_code 45 = .ok (.lload_n 1, 1) := by decide +kernel
theorem e40_46 : decode method_4_code 46 = .ok (.ldc2_w 55, 3) := by decide +kernel
theorem e40_49 : decode method_4_code 49 = .ok (.lcmp, 1) := by decide +kernel
theorem e40_50 : decode method_4_code 50 = .ok (.ifCond .ge 8, 3) := by decide +kernel
theorem e40_53 : decode method_4_code 53 = .ok (.iconst 4, 1) := by decide +kernel
theorem e40_54 : decode method_4_code 54 = .ok (.istore_n 3, 1) := by decide +kernel
theorem e40_55 : decode method_4_code 55 = .ok (.goto 75, 3) := by decide +kernel
theorem e40_58 : decode method_4_code 58 = .ok (.lload_n 1, 1) := by decide +kernel
theorem e40_59 : decode method_4_code 59 = .ok (.ldc2_w 57, 3) := by decide +kernel
theorem e40_62 : decode method_4_code 62 = .ok (.lcmp, 1) := by decide +kernel
theorem e40_63 : decode method_4_code 63 = .ok (.ifCond .ge 8, 3) := by decide +kernel
theorem e40_66 : decode method_4_code 66 = .ok (.iconst 5, 1) := by decide +kernel
theorem e40_67 : decode method_4_code 67 = .ok (.istore_n 3, 1) := by decide +kernel
theorem e40_68 : decode method_4_code 68 = .ok (.goto 62, 3) := by decide +kernel
theorem e40_71 : decode method_4_code 71 = .ok (.lload_n 1, 1) := by decide +kernel
theorem e40_72 : decode method_4_code 72 = .ok (.ldc2_w 59, 3) := by decide +kernel
theorem e40_75 : decode method_4_code 75 = .ok (.lcmp, 1) := by decide +kernel
theorem e40_76 : decode method_4_code 76 = .ok (.ifCond .ge 9, 3) := by decide +kernel
theorem e40_79 : decode method_4_code 79 = .ok (.bipush 6, 2) := by decide +kernel
theorem e40_81 : decode method_4_code 81 = .ok (.istore_n 3, 1) := by decide +kernel
theorem e40_82 : decode method_4_code 82 = .ok (.goto 48, 3) := by decide +kernel
theorem e40_85 : decode method_4_code 85 = .ok (.lload_n 1, 1) := by decide +kernel
theorem e40_86 : decode method_4_code 86 = .ok (.ldc2_w 61, 3) := by decide +kernel
theorem e40_89 : decode method_4_code 89 = .ok (.lcmp, 1) := by decide +kernel
theorem e40_90 : decode method_4_code 90 = .ok (.ifCond .ge 9, 3) := by decide +kernel
theorem e40_93 : decode method_4_code 93 = .ok (.bipush 7, 2) := by decide +kernel
theorem e40_95 : decode method_4_code 95 = .ok (.istore_n 3, 1) := by decide +kernel
theorem e40_96 : decode method_4_code 96 = .ok (.goto 34, 3) := by decide +kernel
theorem e40_99 : decode method_4_code 99 = .ok (.lload_n 1, 1) := by decide +kernel
theorem e40_100 : decode method_4_code 100 = .ok (.ldc2_w 63, 3) := by decide +kernel
theorem e40_103 : decode method_4_code 103 = .ok (.lcmp, 1) := by decide +kernel
theorem e40_104 : decode method_4_code 104 = .ok (.ifCond .ge 9, 3) := by decide +kernel
theorem e40_107 : decode method_4_code 107 = .ok (.bipush 8, 2) := by decide +kernel
theorem e40_109 : decode method_4_code 109 = .ok (.istore_n 3, 1) := by decide +kernel
theorem e40_110 : decode method_4_code 110 = .ok (.goto 20, 3) := by decide +kernel
theorem e40_113 : decode method_4_code 113 = .ok (.lload_n 1, 1) := by decide +kernel
theorem e40_114 : decode method_4_code 114 = .ok (.ldc2_w 65, 3) := by decide +kernel
theorem e40_117 : decode method_4_code 117 = .ok (.lcmp, 1) := by decide +kernel
theorem e40_118 : decode method_4_code 118 = .ok (.ifCond .ge 9, 3) := by decide +kernel
theorem e40_121 : decode method_4_code 121 = .ok (.bipush 9, 2) := by decide +kernel
theorem e40_123 : decode method_4_code 123 = .ok (.istore_n 3, 1) := by decide +kernel
theorem e40_124 : decode method_4_code 124 = .ok (.goto 6, 3) := by decide +kernel
theorem e40_127 : decode method_4_code 127 = .ok (.bipush 10, 2) := by decide +kernel
theorem e40_129 : decode method_4_code 129 = .ok (.istore_n 3, 1) := by decide +kernel
theorem e40_130 : decode method_4_code 130 = .ok (.iload_n 0, 1) := by decide +kernel
theorem e40_131 : decode method_4_code 131 = .ok (.ifCond .ge 9, 3) := by decide +kernel
theorem e40_134 : decode method_4_code 134 = .ok (.iload_n 3, 1) := by decide +kernel
theorem e40_135 : decode method_4_code 135 = .ok (.iconst 1, 1) := by decide +kernel
theorem e40_136 : decode method_4_code 136 = .ok (.iadd, 1) := by decide +kernel
theorem e40_137 : decode method_4_code 137 = .ok (.goto 4, 3) := by decide +kernel
theorem e40_140 : decode method_4_code 140 = .ok (.iload_n 3, 1) := by decide +kernel
theorem e40_141 : decode method_4_code 141 = .ok (.ireturn, 1) := by decide +kernel
theorem pd28 : parseMethodDescriptor "(J)J" = some ⟨[.long], some .long⟩ := by decide +kernel
theorem pn9 : plainName "com/example/devizes/devizes/redis/RedisAddressToStringPinLaw" = true := by first | (simp [plainName, overriddenIn]; done) | decide +kernel
set_option maxRecDepth 65536 in
set_option maxHeartbeats 40000000 in
theorem con_dlen (l : Launch) (Z : State) (a0 : Array Value) (hw : ∀ d ∈ tables_1, d.before a0 Z = true) (i_ : Int32) (h0 : Heap) (O0 : Ext Z.heap h0) :
    Con l Z consts_1 false (⟨"com/example/devizes/devizes/redis/RedisAddressToStringPinLaw", "decLen", "(I)I"⟩ : MethodName) method_4_code 4 (some .int) [] ({ frames := 1, cells := 0, slots := 0, locals := 13 } : Room) #[(.int i_)] [] h0 (fun v h => v = some (.int (Int32.ofNat (dec i_).length)) ∧ h = h0) := by
  refine Con.intro (Ls := #[.val (.int i_), .unset, .unset, .unset]) (plainFor_of_name pn9) (own_EL hw) O0 (fun m => by first | (simp [entryFrame, mkF, argsToLocals, Value.category]; done) | rfl) (fun p e s m below meth cc_ T w sf_ => ?_)
  have E0 := ext_refl h0
  refine g_iloadN w e40_0 (q := 1) rfl rfl ?_
  refine g_i2l w e40_1 (q := 2) rfl ?_
  refine g_staticP w (con_abs l Z a0 hw i_.toInt64 _ w.old) no0 e40_2 (q := 5) rfl rfl (Hw hw 209 rfl) (Hw hw 210 rfl) (Hw hw 202 rfl) (Hw hw 211 rfl) (by decide) pd28 rfl rfl (W := 0) (Nat.le_of_eq rfl) (by decide) (by decide) (by decide) (by decide) (fun T v w C q => ?_)
  obtain rfl := q
  show Go p e below _ (State.setTop T (mkF m 5 #[.val (.int i_), .unset, .unset, .unset] [(.long (absL i_))]))
  refine g_lstoreN w e40_5 (q := 6) rfl (Ls' := #[.val (.int i_), .val (.long (absL i_)), .second, .unset]) rfl ?_
  have J130 : ∀ (t3 : Int32), (t3 = Int32.ofNat (dl (mag i_))) → Go p e below (Fini Z consts_1 false ({ frames := 1, cells := 0, slots := 0, locals := 13 } : Room).cells ({ frames := 1, cells := 0, slots := 0, locals := 13 } : Room).slots (fun v h => v = some (.int (Int32.ofNat (dec i_).length)) ∧ h = h0) s) (State.setTop T (mkF m 130 #[.val (.int i_), .val (.long (absL i_)), .second, .val (.int t3)] [])) := by
    intro t3 hj130_0
    subst hj130_0
    refine g_iloadN w e40_130 (q := 131) rfl rfl ?_
    refine g_if_ge w e40_131 (by decide) (q := 140) (by decide) (q' := 134) rfl (fun cd1 => ?_) (fun cd1 => ?_)
    · refine g_iloadN w e40_140 (q := 141) rfl rfl ?_
      exact g_reti w e40_141 rfl (by decide) (by decide) ⟨congrArg (fun z => some (Value.int z)) (by rw [dec_len, if_neg cd1]; rw [Nat.zero_add]), rfl⟩
    · refine g_iloadN w e40_134 (q := 135) rfl rfl ?_
      refine g_iconst w e40_135 (q := 136) rfl (v := (1 : Int32)) (by decide) ?_
      refine g_iadd w e40_136 (q := 137) rfl ?_
      refine g_goto w e40_137 (by decide) (q := 141) (by decide) ?_
      exact g_reti w e40_141 rfl (by decide) (by decide) ⟨congrArg (fun z => some (Value.int z)) (by rw [dec_len, if_pos cd1]; rw [Nat.add_comm]; exact oN_a1 _), rfl⟩
  refine g_lloadN w e40_6 (q := 7) rfl rfl ?_
  refine g_ldc2J w e40_7 (q := 10) rfl (v := (10 : Int64)) (Hw hw 212 rfl) ?_
  refine g_lcmp w e40_10 (q := 11) rfl ?_
  refine g_lc_ge w e40_11 (by decide) (q := 19) (by decide) (q' := 14) rfl (fun cd2 => ?_) (fun cd2 => ?_)
  · refine g_lloadN w e40_19 (q := 20) rfl rfl ?_
    refine g_ldc2J w e40_20 (q := 23) rfl (v := (100 : Int64)) (Hw hw 239 rfl) ?_
    refine g_lcmp w e40_23 (q := 24) rfl ?_
    refine g_lc_ge w e40_24 (by decide) (q := 32) (by decide) (q' := 27) rfl (fun cd3 => ?_) (fun cd3 => ?_)
    · refine g_lloadN w e40_32 (q := 33) rfl rfl ?_
      refine g_ldc2J w e40_33 (q := 36) rfl (v := (1000 : Int64)) (Hw hw 240 rfl) ?_
      refine g_lcmp w e40_36 (q := 37) rfl ?_
      refine g_lc_ge w e40_37 (by decide) (q := 45) (by decide) (q' := 40) rfl (fun cd4 => ?_) (fun cd4 => ?_)
      · refine g_lloadN w e40_45 (q := 46) rfl rfl ?_
        refine g_ldc2J w e40_46 (q := 49) rfl (v := (10000 : Int64)) (Hw hw 241 rfl) ?_
        refine g_lcmp w e40_49 (q := 50) rfl ?_
        refine g_lc_ge w e40_50 (by decide) (q := 58) (by decide) (q' := 53) rfl (fun cd5 => ?_) (fun cd5 => ?_)
        · refine g_lloadN w e40_58 (q := 59) rfl rfl ?_
          refine g_ldc2J w e40_59 (q := 62) rfl (v := (100000 : Int64)) (Hw hw 242 rfl) ?_
          refine g_lcmp w e40_62 (q := 63) rfl ?_
          refine g_lc_ge w e40_63 (by decide) (q := 71) (by decide) (q' := 66) rfl (fun cd6 => ?_) (fun cd6 => ?_)
          · refine g_lloadN w e40_71 (q := 72) rfl rfl ?_
            refine g_ldc2J w e40_72 (q := 75) rfl (v := (1000000 : Int64)) (Hw hw 243 rfl) ?_
            refine g_lcmp w e40_75 (q := 76) rfl ?_
            refine g_lc_ge w e40_76 (by decide) (q := 85) (by decide) (q' := 79) rfl (fun cd7 => ?_) (fun cd7 => ?_)
            · refine g_lloadN w e40_85 (q := 86) rfl rfl ?_
              refine g_ldc2J w e40_86 (q := 89) rfl (v := (10000000 : Int64)) (Hw hw 244 rfl) ?_
              refine g_lcmp w e40_89 (q := 90) rfl ?_
              refine g_lc_ge w e40_90 (by decide) (q := 99) (by decide) (q' := 93) rfl (fun cd8 => ?_) (fun cd8 => ?_)
              · refine g_lloadN w e40_99 (q := 100) rfl rfl ?_
                refine g_ldc2J w e40_100 (q := 103) rfl (v := (100000000 : Int64)) (Hw hw 245 rfl) ?_
                refine g_lcmp w e40_103 (q := 104) rfl ?_
                refine g_lc_ge w e40_104 (by decide) (q := 113) (by decide) (q' := 107) rfl (fun cd9 => ?_) (fun cd9 => ?_)
                · refine g_lloadN w e40_113 (q := 114) rfl rfl ?_
                  refine g_ldc2J w e40_114 (q := 117) rfl (v := (1000000000 : Int64)) (Hw hw 246 rfl) ?_
                  refine g_lcmp w e40_117 (q := 118) rfl ?_
                  refine g_lc_ge w e40_118 (by decide) (q := 127) (by decide) (q' := 121) rfl (fun cd10 => ?_) (fun cd10 => ?_)
                  · refine g_bipush w e40_127 (q := 129) rfl (v := (10 : Int32)) (by decide) ?_
                    refine g_istoreN w e40_129 (q := 130) rfl (Ls' := #[.val (.int i_), .val (.long (absL i_)), .second, .val (.int (10 : Int32))]) rfl ?_
                    exact J130 _ (by have n1 := mt (abs_lt (K := 10) rfl).mpr cd2; have n2 := mt (abs_lt (K := 100) rfl).mpr cd3; have n3 := mt (abs_lt (K := 1000) rfl).mpr cd4; have n4 := mt (abs_lt (K := 10000) rfl).mpr cd5; have n5 := mt (abs_lt (K := 100000) rfl).mpr cd6; have n6 := mt (abs_lt (K := 1000000) rfl).mpr cd7; have n7 := mt (abs_lt (K := 10000000) rfl).mpr cd8; have n8 := mt (abs_lt (K := 100000000) rfl).mpr cd9; have n9 := mt (abs_lt (K := 1000000000) rfl).mpr cd10; rw [show dl (mag i_) = 10 from by unfold dl; (repeat' split) <;> omega]; rfl)
                  · refine g_bipush w e40_121 (q := 123) rfl (v := (9 : Int32)) (by decide) ?_
                    refine g_istoreN w e40_123 (q := 124) rfl (Ls' := #[.val (.int i_), .val (.long (absL i_)), .second, .val (.int (9 : Int32))]) rfl ?_
                    refine g_goto w e40_124 (by decide) (q := 130) (by decide) ?_
                    exact J130 _ (by have n1 := mt (abs_lt (K := 10) rfl).mpr cd2; have n2 := mt (abs_lt (K := 100) rfl).mpr cd3; have n3 := mt (abs_lt (K := 1000) rfl).mpr cd4; have n4 := mt (abs_lt (K := 10000) rfl).mpr cd5; have n5 := mt (abs_lt (K := 100000) rfl).mpr cd6; have n6 := mt (abs_lt (K := 1000000) rfl).mpr cd7; have n7 := mt (abs_lt (K := 10000000) rfl).mpr cd8; have n8 := mt (abs_lt (K := 100000000) rfl).mpr cd9; have n9 := (abs_lt (K := 1000000000) rfl).mp cd10; rw [show dl (mag i_) = 9 from by unfold dl; (repeat' split) <;> omega]; rfl)
                · refine g_bipush w e40_107 (q := 109) rfl (v := (8 : Int32)) (by decide) ?_
                  refine g_istoreN w e40_109 (q := 110) rfl (Ls' := #[.val (.int i_), .val (.long (absL i_)), .second, .val (.int (8 : Int32))]) rfl ?_
                  refine g_goto w e40_110 (by decide) (q := 130) (by decide) ?_
                  exact J130 _ (by have n1 := mt (abs_lt (K := 10) rfl).mpr cd2; have n2 := mt (abs_lt (K := 100) rfl).mpr cd3; have n3 := mt (abs_lt (K := 1000) rfl).mpr cd4; have n4 := mt (abs_lt (K := 10000) rfl).mpr cd5; have n5 := mt (abs_lt (K := 100000) rfl).mpr cd6; have n6 := mt (abs_lt (K := 1000000) rfl).mpr cd7; have n7 := mt (abs_lt (K := 10000000) rfl).mpr cd8; have n8 := (abs_lt (K := 100000000) rfl).mp cd9; rw [show dl (mag i_) = 8 from by unfold dl; (repeat' split) <;> omega]; rfl)
              · refine g_bipush w e40_93 (q := 95) rfl (v := (7 : Int32)) (by decide) ?_
                refine g_istoreN w e40_95 (q := 96) rfl (Ls' := #[.val (.int i_), .val (.long (absL i_)), .second, .val (.int (7 : Int32))]) rfl ?_
                refine g_goto w e40_96 (by decide) (q := 130) (by decide) ?_
                exact J130 _ (by have n1 := mt (abs_lt (K := 10) rfl).mpr cd2; have n2 := mt (abs_lt (K := 100) rfl).mpr cd3; have n3 := mt (abs_lt (K := 1000) rfl).mpr cd4; have n4 := mt (abs_lt (K := 10000) rfl).mpr cd5; have n5 := mt (abs_lt (K := 100000) rfl).mpr cd6; have n6 := mt (abs_lt (K := 1000000) rfl).mpr cd7; have n7 := (abs_lt (K := 10000000) rfl).mp cd8; rw [show dl (mag i_) = 7 from by unfold dl; (repeat' split) <;> omega]; rfl)
            · refine g_bipush w e40_79 (q := 81) rfl (v := (6 : Int32)) (by decide) ?_
              refine g_istoreN w e40_81 (q := 82) rfl (Ls' := #[.val (.int i_), .val (.long (absL i_)), .second, .val (.int (6 : Int32))]) rfl ?_
              refine g_goto w e40_82 (by decide) (q := 130) (by decide) ?_
              exact J130 _ (by have n1 := mt (abs_lt (K := 10) rfl).mpr cd2; have n2 := mt (abs_lt (K := 100) rfl).mpr cd3; have n3 := mt (abs_lt (K := 1000) rfl).mpr cd4; have n4 := mt (abs_lt (K := 10000) rfl).mpr cd5; have n5 := mt (abs_lt (K := 100000) rfl).mpr cd6; have n6 := (abs_lt (K := 1000000) rfl).mp cd7; rw [show dl (mag i_) = 6 from by unfold dl; (repeat' split) <;> omega]; rfl)
          · refine g_iconst w e40_66 (q := 67) rfl (v := (5 : Int32)) (by decide) ?_
            refine g_istoreN w e40_67 (q := 68) rfl (Ls' := #[.val (.int i_), .val (.long (absL i_)), .second, .val (.int (5 : Int32))]) rfl ?_
            refine g_goto w e40_68 (by decide) (q := 130) (by decide) ?_
            exact J130 _ (by have n1 := mt (abs_lt (K := 10) rfl).mpr cd2; have n2 := mt (abs_lt (K := 100) rfl).mpr cd3; have n3 := mt (abs_lt (K := 1000) rfl).mpr cd4; have n4 := mt (abs_lt (K := 10000) rfl).mpr cd5; have n5 := (abs_lt (K := 100000) rfl).mp cd6; rw [show dl (mag i_) = 5 from by unfold dl; (repeat' split) <;> omega]; rfl)
        · refine g_iconst w e40_53 (q := 54) rfl (v := (4 : Int32)) (by decide) ?_
          refine g_istoreN w e40_54 (q := 55) rfl (Ls' := #[.val (.int i_), .val (.long (absL i_)), .second, .val (.int (4 : Int32))]) rfl ?_
          refine g_goto w e40_55 (by decide) (q := 130) (by decide) ?_
          exact J130 _ (by have n1 := mt (abs_lt (K := 10) rfl).mpr cd2; have n2 := mt (abs_lt (K := 100) rfl).mpr cd3; have n3 := mt (abs_lt (K := 1000) rfl).mpr cd4; have n4 := (abs_lt (K := 10000) rfl).mp cd5; rw [show dl (mag i_) = 4 from by unfold dl; (repeat' split) <;> omega]; rfl)
      · refine g_iconst w e40_40 (q := 41) rfl (v := (3 : Int32)) (by decide) ?_
        refine g_istoreN w e40_41 (q := 42) rfl (Ls' := #[.val (.int i_), .val (.long (absL i_)), .second, .val (.int (3 : Int32))]) rfl ?_
        refine g_goto w e40_42 (by decide) (q := 130) (by decide) ?_
        exact J130 _ (by have n1 := mt (abs_lt (K := 10) rfl).mpr cd2; have n2 := mt (abs_lt (K := 100) rfl).mpr cd3; have n3 := (abs_lt (K := 1000) rfl).mp cd4; rw [show dl (mag i_) = 3 from by unfold dl; (repeat' split) <;> omega]; rfl)
    · refine g_iconst w e40_27 (q := 28) rfl (v := (2 : Int32)) (by decide) ?_
      refine g_istoreN w e40_28 (q := 29) rfl (Ls' := #[.val (.int i_), .val (.long (absL i_)), .second, .val (.int (2 : Int32))]) rfl ?_
      refine g_goto w e40_29 (by decide) (q := 130) (by decide) ?_
      exact J130 _ (by have n1 := mt (abs_lt (K := 10) rfl).mpr cd2; have n2 := (abs_lt (K := 100) rfl).mp cd3; rw [show dl (mag i_) = 2 from by unfold dl; (repeat' split) <;> omega]; rfl)
  · refine g_iconst w e40_14 (q := 15) rfl (v := (1 : Int32)) (by decide) ?_
    refine g_istoreN w e40_15 (q := 16) rfl (Ls' := #[.val (.int i_), .val (.long (absL i_)), .second, .val (.int (1 : Int32))]) rfl ?_
    refine g_goto w e40_16 (by decide) (q := 130) (by decide) ?_
    exact J130 _ (by have n1 := (abs_lt (K := 10) rfl).mp cd2; rw [show dl (mag i_) = 1 from by unfold dl; (repeat' split) <;> omega]; rfl)
theorem e41_0 : decode method_3_code 0 = .ok (.iload_n 2, 1) := by decide +kernel
theorem e41_1 : decode method_3_code 1 = .ok (.iconst 1, 1) := by decide +kernel
theorem e41_2 : decode method_3_code 2 = .ok (.if_icmp .lt 12, 3) := by decide +kernel
theorem e41_5 : decode method_3_code 5 = .ok (.aload_n 0, 1) := by decide +kernel
theorem e41_6 : decode method_3_code 6 = .ok (.iload_n 1, 1) := by decide +kernel
theorem e41_7 : decode method_3_code 7 = .ok (.invokevirtual 31, 3) := by decide +kernel
theorem e41_10 : decode method_3_code 10 = .ok (.iload_n 3, 1) := by decide +kernel
theorem e41_11 : decode method_3_code 11 = .ok (.if_icmp .ne 41, 3) := by decide +kernel
theorem e41_14 : decode method_3_code 14 = .ok (.iload_n 2, 1) := by decide +kernel
theorem e41_15 : decode method_3_code 15 = .ok (.iconst 2, 1) := by decide +kernel
theorem e41_16 : decode method_3_code 16 = .ok (.if_icmp .lt 15, 3) := by decide +kernel
theorem e41_19 : decode method_3_code 19 = .ok (.aload_n 0, 1) := by decide +kernel
theorem e41_20 : decode method_3_code 20 = .ok (.iload_n 1, 1) := by decide +kernel
theorem e41_21 : decode method_3_code 21 = .ok (.iconst 1, 1) := by decide +kernel
theorem e41_22 : decode method_3_code 22 = .ok (.iadd, 1) := by decide +kernel
theorem e41_23 : decode method_3_code 23 = .ok (.invokevirtual 31, 3) := by decide +kernel
theorem e41_26 : decode method_3_code 26 = .ok (.iload 4, 2) := by decide +kernel
theorem e41_28 : decode method_3_code 28 = .ok (.if_icmp .ne 24, 3) := by decide +kernel
theorem e41_31 : decode method_3_code 31 = .ok (.iload_n 2, 1) := by decide +kernel
theorem e41_32 : decode method_3_code 32 = .ok (.iconst 3, 1) := by decide +kernel
theorem e41_33 : decode method_3_code 33 = .ok (.if_icmp .lt 15, 3) := by decide +kernel
theorem e41_36 : decode method_3_code 36 = .ok (.aload_n 0, 1) := by decide +kernel
theorem e41_37 : decode method_3_code 37 = .ok (.iload_n 1, 1) := by decide +kernel
theorem e41_38 : decode method_3_code 38 = .ok (.iconst 2, 1) := by decide +kernel
theorem e41_39 : decode method_3_code 39 = .ok (.iadd, 1) := by decide +kernel
theorem e41_40 : decode method_3_code 40 = .ok (.invokevirtual 31, 3) := by decide +kernel
theorem e41_43 : decode method_3_code 43 = .ok (.iload 5, 2) := by decide +kernel
theorem e41_45 : decode method_3_code 45 = .ok (.if_icmp .ne 7, 3) := by decide +kernel
theorem e41_48 : decode method_3_code 48 = .ok (.iconst 1, 1) := by decide +kernel
theorem e41_49 : decode method_3_code 49 = .ok (.goto 4, 3) := by decide +kernel
theorem e41_52 : decode method_3_code 52 = .ok (.iconst 0, 1) := by decide +kernel
theorem e41_53 : decode method_3_code 53 = .ok (.ireturn, 1) := by decide +kernel
theorem pd29 : parseMethodDescriptor "(I)C" = some ⟨[.int], some .char⟩ := by decide +kernel
set_option maxRecDepth 65536 in
set_option maxHeartbeats 40000000 in
theorem con_host (l : Launch) (Z : State) (a0 : Array Value) (hw : ∀ d ∈ tables_1, d.before a0 Z = true) (u : Addr) (fm : Value) (at_ : Nat) (nn_ c0 c1 c2 : Int32) (hs cs : List Int32) (h0 : Heap) (O0 : Ext Z.heap h0) (S_u : Sg Z h0 u cs) (hh : hs = sg3 nn_ c0 c1 c2) (hn4 : In4 nn_) (hat : ∀ t, t < hs.length → cs.getD (at_ + t) 0 = hs.getD t 0) (hle : at_ + hs.length ≤ cs.length) (SFm : Sta Z Z.heap "jdk/internal/util/Preconditions" "SIOOBE_FORMATTER" "Ljava/util/function/BiFunction;" fm) (rfm : fm.isRef = true) (hcm : Cpt Z) :
    Con l Z consts_1 false (⟨"com/example/devizes/devizes/redis/RedisAddressToStringPinLaw", "hostAt", "(Ljava/lang/String;IICCC)Z"⟩ : MethodName) method_3_code 6 (some .boolean) [] ({ frames := 4, cells := 0, slots := 0, locals := 53 } : Room) #[(.ref u), (.int (Int32.ofNat at_)), (.int nn_), (.int c0), (.int c1), (.int c2)] [] h0 (fun v h => v = some (.int 1) ∧ h = h0) := by
  refine Con.intro (Ls := #[.val (.ref u), .val (.int (Int32.ofNat at_)), .val (.int nn_), .val (.int c0), .val (.int c1), .val (.int c2)]) (plainFor_of_name pn9) (own_EL hw) O0 (fun m => by first | (simp [entryFrame, mkF, argsToLocals, Value.category]; done) | rfl) (fun p e s m below meth cc_ T w sf_ => ?_)
  have E0 := ext_refl h0
  obtain ⟨z_, hz_, SC_⟩ := id hcm
  refine g_iloadN w e41_0 (q := 1) rfl rfl ?_
  refine g_iconst w e41_1 (q := 2) rfl (v := (1 : Int32)) (by decide) ?_
  refine g_ic_lt w e41_2 (by decide) (q := 14) (by decide) (q' := 5) rfl (fun cd1 => ?_) (fun cd1 => ?_)
  · refine g_iloadN w e41_14 (q := 15) rfl rfl ?_
    refine g_iconst w e41_15 (q := 16) rfl (v := (2 : Int32)) (by decide) ?_
    refine g_ic_lt w e41_16 (by decide) (q := 31) (by decide) (q' := 19) rfl (fun cd2 => ?_) (fun cd2 => ?_)
    · refine g_iloadN w e41_31 (q := 32) rfl rfl ?_
      refine g_iconst w e41_32 (q := 33) rfl (v := (3 : Int32)) (by decide) ?_
      refine g_ic_lt w e41_33 (by decide) (q := 48) (by decide) (q' := 36) rfl (fun cd3 => ?_) (fun cd3 => ?_)
      · refine g_iconst w e41_48 (q := 49) rfl (v := (1 : Int32)) (by decide) ?_
        refine g_goto w e41_49 (by decide) (q := 53) (by decide) ?_
        exact g_retn w e41_53 rfl (by simp) rfl (by decide) (by decide) ⟨rfl, rfl⟩
      · refine g_aloadN w e41_36 (q := 37) rfl rfl rfl ?_
        refine g_iloadN w e41_37 (q := 38) rfl rfl ?_
        refine g_iconst w e41_38 (q := 39) rfl (v := (2 : Int32)) (by decide) ?_
        refine g_iadd w e41_39 (q := 40) rfl ?_
        have g2 := sg3_at2 (a := c0) (b := c1) (c := c2) hn4 cd3
        rw [← hh] at g2
        refine g_virtualB w (a := u) (argsL := [(.int ((Int32.ofNat at_) + (2 : Int32)))]) (own_chB hw (i := at_ + 2) S_u (w.sta SC_) hz_ (w.sta SFm) rfm (by omega) (oN_a2 _) (by decide) (by decide)) S_u.exa e41_40 (q := 43) rfl rfl (Hw hw 214 rfl) (Hw hw 215 rfl) (Hw hw 217 rfl) (Hw hw 216 rfl) (by decide) (nf (Hw hw 217 rfl)) pd29 rfl rfl (W := 0) (Nat.le_of_eq rfl) (by decide) (by decide) (fun T v w hq => ?_)
        obtain rfl := hq
        show Go p e below _ (State.setTop T (mkF m 43 #[.val (.ref u), .val (.int (Int32.ofNat at_)), .val (.int nn_), .val (.int c0), .val (.int c1), .val (.int c2)] [(.int (cs.getD (at_ + 2) 0))]))
        refine g_iload w e41_43 (q := 45) rfl rfl ?_
        refine g_icN w e41_45 (q := 48) rfl (Jvm.Free.XT.ii_ne_f ((hat 2 g2.1).trans g2.2)) ?_
        refine g_iconst w e41_48 (q := 49) rfl (v := (1 : Int32)) (by decide) ?_
        refine g_goto w e41_49 (by decide) (q := 53) (by decide) ?_
        exact g_retn w e41_53 rfl (by simp) rfl (by decide) (by decide) ⟨rfl, rfl⟩
    · refine g_aloadN w e41_19 (q := 20) rfl rfl rfl ?_
      refine g_iloadN w e41_20 (q := 21) rfl rfl ?_
      refine g_iconst w e41_21 (q := 22) rfl (v := (1 : Int32)) (by decide) ?_
      refine g_iadd w e41_22 (q := 23) rfl ?_
      have g1 := sg3_at1 (a := c0) (b := c1) (c := c2) hn4 cd2
      rw [← hh] at g1
      refine g_virtualB w (a := u) (argsL := [(.int ((Int32.ofNat at_) + (1 : Int32)))]) (own_chB hw (i := at_ + 1) S_u (w.sta SC_) hz_ (w.sta SFm) rfm (by omega) (oN_a1 _) (by decide) (by decide)) S_u.exa e41_23 (q := 26) rfl rfl (Hw hw 214 rfl) (Hw hw 215 rfl) (Hw hw 217 rfl) (Hw hw 216 rfl) (by decide) (nf (Hw hw 217 rfl)) pd29 rfl rfl (W := 0) (Nat.le_of_eq rfl) (by decide) (by decide) (fun T v w hq => ?_)
      obtain rfl := hq
      show Go p e below _ (State.setTop T (mkF m 26 #[.val (.ref u), .val (.int (Int32.ofNat at_)), .val (.int nn_), .val (.int c0), .val (.int c1), .val (.int c2)] [(.int (cs.getD (at_ + 1) 0))]))
      refine g_iload w e41_26 (q := 28) rfl rfl ?_
      refine g_icN w e41_28 (q := 31) rfl (Jvm.Free.XT.ii_ne_f ((hat 1 g1.1).trans g1.2)) ?_
      refine g_iloadN w e41_31 (q := 32) rfl rfl ?_
      refine g_iconst w e41_32 (q := 33) rfl (v := (3 : Int32)) (by decide) ?_
      refine g_ic_lt w e41_33 (by decide) (q := 48) (by decide) (q' := 36) rfl (fun cd4 => ?_) (fun cd4 => ?_)
      · refine g_iconst w e41_48 (q := 49) rfl (v := (1 : Int32)) (by decide) ?_
        refine g_goto w e41_49 (by decide) (q := 53) (by decide) ?_
        exact g_retn w e41_53 rfl (by simp) rfl (by decide) (by decide) ⟨rfl, rfl⟩
      · refine g_aloadN w e41_36 (q := 37) rfl rfl rfl ?_
        refine g_iloadN w e41_37 (q := 38) rfl rfl ?_
        refine g_iconst w e41_38 (q := 39) rfl (v := (2 : Int32)) (by decide) ?_
        refine g_iadd w e41_39 (q := 40) rfl ?_
        have g2 := sg3_at2 (a := c0) (b := c1) (c := c2) hn4 cd4
        rw [← hh] at g2
        refine g_virtualB w (a := u) (argsL := [(.int ((Int32.ofNat at_) + (2 : Int32)))]) (own_chB hw (i := at_ + 2) S_u (w.sta SC_) hz_ (w.sta SFm) rfm (by omega) (oN_a2 _) (by decide) (by decide)) S_u.exa e41_40 (q := 43) rfl rfl (Hw hw 214 rfl) (Hw hw 215 rfl) (Hw hw 217 rfl) (Hw hw 216 rfl) (by decide) (nf (Hw hw 217 rfl)) pd29 rfl rfl (W := 0) (Nat.le_of_eq rfl) (by decide) (by decide) (fun T v w hq => ?_)
        obtain rfl := hq
        show Go p e below _ (State.setTop T (mkF m 43 #[.val (.ref u), .val (.int (Int32.ofNat at_)), .val (.int nn_), .val (.int c0), .val (.int c1), .val (.int c2)] [(.int (cs.getD (at_ + 2) 0))]))
        refine g_iload w e41_43 (q := 45) rfl rfl ?_
        refine g_icN w e41_45 (q := 48) rfl (Jvm.Free.XT.ii_ne_f ((hat 2 g2.1).trans g2.2)) ?_
        refine g_iconst w e41_48 (q := 49) rfl (v := (1 : Int32)) (by decide) ?_
        refine g_goto w e41_49 (by decide) (q := 53) (by decide) ?_
        exact g_retn w e41_53 rfl (by simp) rfl (by decide) (by decide) ⟨rfl, rfl⟩
  · refine g_aloadN w e41_5 (q := 6) rfl rfl rfl ?_
    refine g_iloadN w e41_6 (q := 7) rfl rfl ?_
    have g0 := sg3_at0 (a := c0) (b := c1) (c := c2) hn4 cd1
    rw [← hh] at g0
    refine g_virtualB w (a := u) (argsL := [(.int (Int32.ofNat at_))]) (own_chB hw (i := at_ + 0) S_u (w.sta SC_) hz_ (w.sta SFm) rfm (by omega) rfl (by decide) (by decide)) S_u.exa e41_7 (q := 10) rfl rfl (Hw hw 214 rfl) (Hw hw 215 rfl) (Hw hw 217 rfl) (Hw hw 216 rfl) (by decide) (nf (Hw hw 217 rfl)) pd29 rfl rfl (W := 0) (Nat.le_of_eq rfl) (by decide) (by decide) (fun T v w hq => ?_)
    obtain rfl := hq
    show Go p e below _ (State.setTop T (mkF m 10 #[.val (.ref u), .val (.int (Int32.ofNat at_)), .val (.int nn_), .val (.int c0), .val (.int c1), .val (.int c2)] [(.int (cs.getD (at_ + 0) 0))]))
    refine g_iloadN w e41_10 (q := 11) rfl rfl ?_
    refine g_icN w e41_11 (q := 14) rfl (Jvm.Free.XT.ii_ne_f ((hat 0 g0.1).trans g0.2)) ?_
    refine g_iloadN w e41_14 (q := 15) rfl rfl ?_
    refine g_iconst w e41_15 (q := 16) rfl (v := (2 : Int32)) (by decide) ?_
    refine g_ic_lt w e41_16 (by decide) (q := 31) (by decide) (q' := 19) rfl (fun cd5 => ?_) (fun cd5 => ?_)
    · refine g_iloadN w e41_31 (q := 32) rfl rfl ?_
      refine g_iconst w e41_32 (q := 33) rfl (v := (3 : Int32)) (by decide) ?_
      refine g_ic_lt w e41_33 (by decide) (q := 48) (by decide) (q' := 36) rfl (fun cd6 => ?_) (fun cd6 => ?_)
      · refine g_iconst w e41_48 (q := 49) rfl (v := (1 : Int32)) (by decide) ?_
        refine g_goto w e41_49 (by decide) (q := 53) (by decide) ?_
        exact g_retn w e41_53 rfl (by simp) rfl (by decide) (by decide) ⟨rfl, rfl⟩
      · refine g_aloadN w e41_36 (q := 37) rfl rfl rfl ?_
        refine g_iloadN w e41_37 (q := 38) rfl rfl ?_
        refine g_iconst w e41_38 (q := 39) rfl (v := (2 : Int32)) (by decide) ?_
        refine g_iadd w e41_39 (q := 40) rfl ?_
        have g2 := sg3_at2 (a := c0) (b := c1) (c := c2) hn4 cd6
        rw [← hh] at g2
        refine g_virtualB w (a := u) (argsL := [(.int ((Int32.ofNat at_) + (2 : Int32)))]) (own_chB hw (i := at_ + 2) S_u (w.sta SC_) hz_ (w.sta SFm) rfm (by omega) (oN_a2 _) (by decide) (by decide)) S_u.exa e41_40 (q := 43) rfl rfl (Hw hw 214 rfl) (Hw hw 215 rfl) (Hw hw 217 rfl) (Hw hw 216 rfl) (by decide) (nf (Hw hw 217 rfl)) pd29 rfl rfl (W := 0) (Nat.le_of_eq rfl) (by decide) (by decide) (fun T v w hq => ?_)
        obtain rfl := hq
        show Go p e below _ (State.setTop T (mkF m 43 #[.val (.ref u), .val (.int (Int32.ofNat at_)), .val (.int nn_), .val (.int c0), .val (.int c1), .val (.int c2)] [(.int (cs.getD (at_ + 2) 0))]))
        refine g_iload w e41_43 (q := 45) rfl rfl ?_
        refine g_icN w e41_45 (q := 48) rfl (Jvm.Free.XT.ii_ne_f ((hat 2 g2.1).trans g2.2)) ?_
        refine g_iconst w e41_48 (q := 49) rfl (v := (1 : Int32)) (by decide) ?_
        refine g_goto w e41_49 (by decide) (q := 53) (by decide) ?_
        exact g_retn w e41_53 rfl (by simp) rfl (by decide) (by decide) ⟨rfl, rfl⟩
    · refine g_aloadN w e41_19 (q := 20) rfl rfl rfl ?_
      refine g_iloadN w e41_20 (q := 21) rfl rfl ?_
      refine g_iconst w e41_21 (q := 22) rfl (v := (1 : Int32)) (by decide) ?_
      refine g_iadd w e41_22 (q := 23) rfl ?_
      have g1 := sg3_at1 (a := c0) (b := c1) (c := c2) hn4 cd5
      rw [← hh] at g1
      refine g_virtualB w (a := u) (argsL := [(.int ((Int32.ofNat at_) + (1 : Int32)))]) (own_chB hw (i := at_ + 1) S_u (w.sta SC_) hz_ (w.sta SFm) rfm (by omega) (oN_a1 _) (by decide) (by decide)) S_u.exa e41_23 (q := 26) rfl rfl (Hw hw 214 rfl) (Hw hw 215 rfl) (Hw hw 217 rfl) (Hw hw 216 rfl) (by decide) (nf (Hw hw 217 rfl)) pd29 rfl rfl (W := 0) (Nat.le_of_eq rfl) (by decide) (by decide) (fun T v w hq => ?_)
      obtain rfl := hq
      show Go p e below _ (State.setTop T (mkF m 26 #[.val (.ref u), .val (.int (Int32.ofNat at_)), .val (.int nn_), .val (.int c0), .val (.int c1), .val (.int c2)] [(.int (cs.getD (at_ + 1) 0))]))
      refine g_iload w e41_26 (q := 28) rfl rfl ?_
      refine g_icN w e41_28 (q := 31) rfl (Jvm.Free.XT.ii_ne_f ((hat 1 g1.1).trans g1.2)) ?_
      refine g_iloadN w e41_31 (q := 32) rfl rfl ?_
      refine g_iconst w e41_32 (q := 33) rfl (v := (3 : Int32)) (by decide) ?_
      refine g_ic_lt w e41_33 (by decide) (q := 48) (by decide) (q' := 36) rfl (fun cd7 => ?_) (fun cd7 => ?_)
      · refine g_iconst w e41_48 (q := 49) rfl (v := (1 : Int32)) (by decide) ?_
        refine g_goto w e41_49 (by decide) (q := 53) (by decide) ?_
        exact g_retn w e41_53 rfl (by simp) rfl (by decide) (by decide) ⟨rfl, rfl⟩
      · refine g_aloadN w e41_36 (q := 37) rfl rfl rfl ?_
        refine g_iloadN w e41_37 (q := 38) rfl rfl ?_
        refine g_iconst w e41_38 (q := 39) rfl (v := (2 : Int32)) (by decide) ?_
        refine g_iadd w e41_39 (q := 40) rfl ?_
        have g2 := sg3_at2 (a := c0) (b := c1) (c := c2) hn4 cd7
        rw [← hh] at g2
        refine g_virtualB w (a := u) (argsL := [(.int ((Int32.ofNat at_) + (2 : Int32)))]) (own_chB hw (i := at_ + 2) S_u (w.sta SC_) hz_ (w.sta SFm) rfm (by omega) (oN_a2 _) (by decide) (by decide)) S_u.exa e41_40 (q := 43) rfl rfl (Hw hw 214 rfl) (Hw hw 215 rfl) (Hw hw 217 rfl) (Hw hw 216 rfl) (by decide) (nf (Hw hw 217 rfl)) pd29 rfl rfl (W := 0) (Nat.le_of_eq rfl) (by decide) (by decide) (fun T v w hq => ?_)
        obtain rfl := hq
        show Go p e below _ (State.setTop T (mkF m 43 #[.val (.ref u), .val (.int (Int32.ofNat at_)), .val (.int nn_), .val (.int c0), .val (.int c1), .val (.int c2)] [(.int (cs.getD (at_ + 2) 0))]))
        refine g_iload w e41_43 (q := 45) rfl rfl ?_
        refine g_icN w e41_45 (q := 48) rfl (Jvm.Free.XT.ii_ne_f ((hat 2 g2.1).trans g2.2)) ?_
        refine g_iconst w e41_48 (q := 49) rfl (v := (1 : Int32)) (by decide) ?_
        refine g_goto w e41_49 (by decide) (q := 53) (by decide) ?_
        exact g_retn w e41_53 rfl (by simp) rfl (by decide) (by decide) ⟨rfl, rfl⟩
theorem e42_0 : decode method_6_code 0 = .ok (.iload 4, 2) := by decide +kernel
theorem e42_2 : decode method_6_code 2 = .ok (.iload 5, 2) := by decide +kernel
theorem e42_4 : decode method_6_code 4 = .ok (.if_icmp .le 27, 3) := by decide +kernel
theorem e42_7 : decode method_6_code 7 = .ok (.aload_n 0, 1) := by decide +kernel
theorem e42_8 : decode method_6_code 8 = .ok (.iload_n 1, 1) := by decide +kernel
theorem e42_9 : decode method_6_code 9 = .ok (.iload 5, 2) := by decide +kernel
theorem e42_11 : decode method_6_code 11 = .ok (.isub, 1) := by decide +kernel
theorem e42_12 : decode method_6_code 12 = .ok (.invokevirtual 31, 3) := by decide +kernel
theorem e42_15 : decode method_6_code 15 = .ok (.bipush 48, 2) := by decide +kernel
theorem e42_17 : decode method_6_code 17 = .ok (.lload_n 2, 1) := by decide +kernel
theorem e42_18 : decode method_6_code 18 = .ok (.lload 6, 2) := by decide +kernel
theorem e42_20 : decode method_6_code 20 = .ok (.ldiv, 1) := by decide +kernel
theorem e42_21 : decode method_6_code 21 = .ok (.ldc2_w 49, 3) := by decide +kernel
theorem e42_24 : decode method_6_code 24 = .ok (.lrem, 1) := by decide +kernel
theorem e42_25 : decode method_6_code 25 = .ok (.l2i, 1) := by decide +kernel
theorem e42_26 : decode method_6_code 26 = .ok (.iadd, 1) := by decide +kernel
theorem e42_27 : decode method_6_code 27 = .ok (.i2c, 1) := by decide +kernel
theorem e42_28 : decode method_6_code 28 = .ok (.if_icmp .ne 7, 3) := by decide +kernel
theorem e42_31 : decode method_6_code 31 = .ok (.iconst 1, 1) := by decide +kernel
theorem e42_32 : decode method_6_code 32 = .ok (.goto 4, 3) := by decide +kernel
theorem e42_35 : decode method_6_code 35 = .ok (.iconst 0, 1) := by decide +kernel
theorem e42_36 : decode method_6_code 36 = .ok (.ireturn, 1) := by decide +kernel
set_option maxRecDepth 65536 in
set_option maxHeartbeats 40000000 in
theorem con_dig (l : Launch) (Z : State) (a0 : Array Value) (hw : ∀ d ∈ tables_1, d.before a0 Z = true) (u : Addr) (fm : Value) (lp D_ k_ n_ : Nat) (A_ P_ : Int64) (cs : List Int32) (h0 : Heap) (O0 : Ext Z.heap h0) (S_u : Sg Z h0 u cs) (hA : A_.toInt = n_) (hP : P_.toInt = ((10 ^ k_ : Nat) : Int)) (hP0 : P_ ≠ 0) (hP1 : P_ ≠ -1) (hn : n_ ≤ 2147483648) (hk : k_ < 10) (hD : D_ ≤ 10) (hd : k_ < D_ → k_ ≤ lp ∧ lp - k_ < cs.length ∧ cs.getD (lp - k_) 0 = dg n_ k_) (SFm : Sta Z Z.heap "jdk/internal/util/Preconditions" "SIOOBE_FORMATTER" "Ljava/util/function/BiFunction;" fm) (rfm : fm.isRef = true) (hcm : Cpt Z) :
    Con l Z consts_1 false (⟨"com/example/devizes/devizes/redis/RedisAddressToStringPinLaw", "dig", "(Ljava/lang/String;IJIIJ)Z"⟩ : MethodName) method_6_code 8 (some .boolean) [] ({ frames := 4, cells := 0, slots := 0, locals := 53 } : Room) #[(.ref u), (.int (Int32.ofNat lp)), (.long A_), (.int (Int32.ofNat D_)), (.int (Int32.ofNat k_)), (.long P_)] [] h0 (fun v h => v = some (.int 1) ∧ h = h0) := by
  refine Con.intro (Ls := #[.val (.ref u), .val (.int (Int32.ofNat lp)), .val (.long A_), .second, .val (.int (Int32.ofNat D_)), .val (.int (Int32.ofNat k_)), .val (.long P_), .second]) (plainFor_of_name pn9) (own_EL hw) O0 (fun m => by first | (simp [entryFrame, mkF, argsToLocals, Value.category]; done) | rfl) (fun p e s m below meth cc_ T w sf_ => ?_)
  have E0 := ext_refl h0
  obtain ⟨z_, hz_, SC_⟩ := id hcm
  refine g_iload w e42_0 (q := 2) rfl rfl ?_
  refine g_iload w e42_2 (q := 4) rfl rfl ?_
  refine g_ic_le w e42_4 (by decide) (q := 31) (by decide) (q' := 7) rfl (fun cd1 => ?_) (fun cd1 => ?_)
  · refine g_iconst w e42_31 (q := 32) rfl (v := (1 : Int32)) (by decide) ?_
    refine g_goto w e42_32 (by decide) (q := 36) (by decide) ?_
    exact g_retn w e42_36 rfl (by simp) rfl (by decide) (by decide) ⟨rfl, rfl⟩
  · refine g_aloadN w e42_7 (q := 8) rfl rfl rfl ?_
    refine g_iloadN w e42_8 (q := 9) rfl rfl ?_
    refine g_iload w e42_9 (q := 11) rfl rfl ?_
    refine g_isub w e42_11 (q := 12) rfl ?_
    obtain ⟨q1, q2, q3⟩ := hd (by have q := cd1; exact (oN_lt (by omega) (by omega)).mp q)
    refine g_virtualB w (a := u) (argsL := [(.int ((Int32.ofNat lp) - (Int32.ofNat k_)))]) (own_chB hw (i := lp - k_) S_u (w.sta SC_) hz_ (w.sta SFm) rfm q2 (oN_sub q1) (by decide) (by decide)) S_u.exa e42_12 (q := 15) rfl rfl (Hw hw 214 rfl) (Hw hw 215 rfl) (Hw hw 217 rfl) (Hw hw 216 rfl) (by decide) (nf (Hw hw 217 rfl)) pd29 rfl rfl (W := 0) (Nat.le_of_eq rfl) (by decide) (by decide) (fun T v w hq => ?_)
    obtain rfl := hq
    show Go p e below _ (State.setTop T (mkF m 15 #[.val (.ref u), .val (.int (Int32.ofNat lp)), .val (.long A_), .second, .val (.int (Int32.ofNat D_)), .val (.int (Int32.ofNat k_)), .val (.long P_), .second] [(.int (cs.getD (lp - k_) 0))]))
    refine g_bipush w e42_15 (q := 17) rfl (v := (48 : Int32)) (by decide) ?_
    refine g_lloadN w e42_17 (q := 18) rfl rfl ?_
    refine g_lload w e42_18 (q := 20) rfl rfl ?_
    refine g_ldiv w e42_20 (q := 21) rfl hP0 ?_
    refine g_ldc2J w e42_21 (q := 24) rfl (v := (10 : Int64)) (Hw hw 212 rfl) ?_
    refine g_lrem w e42_24 (q := 25) rfl (by decide) ?_
    refine g_l2i w e42_25 (q := 26) rfl ?_
    refine g_iadd w e42_26 (q := 27) rfl ?_
    refine g_i2c w e42_27 (q := 28) rfl ?_
    rw [show (48 + ((A_ / P_) - ((A_ / P_) / 10) * 10).toInt32).toUInt32.toUInt16.toUInt32.toInt32 = dg n_ k_ from dig_val hA hP hP1 hn hk]
    show Go p e below _ (State.setTop T (mkF m 28 #[.val (.ref u), .val (.int (Int32.ofNat lp)), .val (.long A_), .second, .val (.int (Int32.ofNat D_)), .val (.int (Int32.ofNat k_)), .val (.long P_), .second] [(.int (dg n_ k_)), (.int (cs.getD (lp - k_) 0))]))
    refine g_icN w e42_28 (q := 31) rfl (Jvm.Free.XT.ii_ne_f q3) ?_
    refine g_iconst w e42_31 (q := 32) rfl (v := (1 : Int32)) (by decide) ?_
    refine g_goto w e42_32 (by decide) (q := 36) (by decide) ?_
    exact g_retn w e42_36 rfl (by simp) rfl (by decide) (by decide) ⟨rfl, rfl⟩
theorem e43_0 : decode method_5_code 0 = .ok (.iload_n 2, 1) := by decide +kernel
theorem e43_1 : decode method_5_code 1 = .ok (.i2l, 1) := by decide +kernel
theorem e43_2 : decode method_5_code 2 = .ok (.invokestatic 43, 3) := by decide +kernel
theorem e43_5 : decode method_5_code 5 = .ok (.lstore_n 3, 1) := by decide +kernel
theorem e43_6 : decode method_5_code 6 = .ok (.iload_n 2, 1) := by decide +kernel
theorem e43_7 : decode method_5_code 7 = .ok (.ifCond .ge 7, 3) := by decide +kernel
theorem e43_10 : decode method_5_code 10 = .ok (.iconst 1, 1) := by decide +kernel
theorem e43_11 : decode method_5_code 11 = .ok (.goto 4, 3) := by decide +kernel
theorem e43_14 : decode method_5_code 14 = .ok (.iconst 0, 1) := by decide +kernel
theorem e43_15 : decode method_5_code 15 = .ok (.istore 5, 2) := by decide +kernel
theorem e43_17 : decode method_5_code 17 = .ok (.iload_n 2, 1) := by decide +kernel
theorem e43_18 : decode method_5_code 18 = .ok (.invokestatic 21, 3) := by decide +kernel
theorem e43_21 : decode method_5_code 21 = .ok (.iload 5, 2) := by decide +kernel
theorem e43_23 : decode method_5_code 23 = .ok (.isub, 1) := by decide +kernel
theorem e43_24 : decode method_5_code 24 = .ok (.istore 6, 2) := by decide +kernel
theorem e43_26 : decode method_5_code 26 = .ok (.iload_n 1, 1) := by decide +kernel
theorem e43_27 : decode method_5_code 27 = .ok (.iload 5, 2) := by decide +kernel
theorem e43_29 : decode method_5_code 29 = .ok (.iadd, 1) := by decide +kernel
theorem e43_30 : decode method_5_code 30 = .ok (.iload 6, 2) := by decide +kernel
theorem e43_32 : decode method_5_code 32 = .ok (.iadd, 1) := by decide +kernel
theorem e43_33 : decode method_5_code 33 = .ok (.iconst 1, 1) := by decide +kernel
theorem e43_34 : decode method_5_code 34 = .ok (.isub, 1) := by decide +kernel
theorem e43_35 : decode method_5_code 35 = .ok (.istore 7, 2) := by decide +kernel
theorem e43_37 : decode method_5_code 37 = .ok (.iload_n 2, 1) := by decide +kernel
theorem e43_38 : decode method_5_code 38 = .ok (.ifCond .ge 15, 3) := by decide +kernel
theorem e43_41 : decode method_5_code 41 = .ok (.aload_n 0, 1) := by decide +kernel
theorem e43_42 : decode method_5_code 42 = .ok (.iload_n 1, 1) := by decide +kernel
theorem e43_43 : decode method_5_code 43 = .ok (.invokevirtual 31, 3) := by decide +kernel
theorem e43_46 : decode method_5_code 46 = .ok (.bipush 45, 2) := by decide +kernel
theorem e43_48 : decode method_5_code 48 = .ok (.if_icmp .eq 5, 3) := by decide +kernel
theorem e43_51 : decode method_5_code 51 = .ok (.iconst 0, 1) := by decide +kernel
theorem e43_52 : decode method_5_code 52 = .ok (.ireturn, 1) := by decide +kernel
theorem e43_53 : decode method_5_code 53 = .ok (.aload_n 0, 1) := by decide +kernel
theorem e43_54 : decode method_5_code 54 = .ok (.iload 7, 2) := by decide +kernel
theorem e43_56 : decode method_5_code 56 = .ok (.lload_n 3, 1) := by decide +kernel
theorem e43_57 : decode method_5_code 57 = .ok (.iload 6, 2) := by decide +kernel
theorem e43_59 : decode method_5_code 59 = .ok (.iconst 0, 1) := by decide +kernel
theorem e43_60 : decode method_5_code 60 = .ok (.lconst 1, 1) := by decide +kernel
theorem e43_61 : decode method_5_code 61 = .ok (.invokestatic 67, 3) := by decide +kernel
theorem e43_64 : decode method_5_code 64 = .ok (.ifCond .eq 155, 3) := by decide +kernel
theorem e43_67 : decode method_5_code 67 = .ok (.aload_n 0, 1) := by decide +kernel
theorem e43_68 : decode method_5_code 68 = .ok (.iload 7, 2) := by decide +kernel
theorem e43_70 : decode method_5_code 70 = .ok (.lload_n 3, 1) := by decide +kernel
theorem e43_71 : decode method_5_code 71 = .ok (.iload 6, 2) := by decide +kernel
theorem e43_73 : decode method_5_code 73 = .ok (.iconst 1, 1) := by decide +kernel
theorem e43_74 : decode method_5_code 74 = .ok (.ldc2_w 49, 3) := by decide +kernel
theorem e43_77 : decode method_5_code 77 = .ok (.invokestatic 67, 3) := by decide +kernel
theorem e43_80 : decode method_5_code 80 = .ok (.ifCond .eq 139, 3) := by decide +kernel
theorem e43_83 : decode method_5_code 83 = .ok (.aload_n 0, 1) := by decide +kernel
theorem e43_84 : decode method_5_code 84 = .ok (.iload 7, 2) := by decide +kernel
theorem e43_86 : decode method_5_code 86 = .ok (.lload_n 3, 1) := by decide +kernel
theorem e43_87 : decode method_5_code 87 = .ok (.iload 6, 2) := by decide +kernel
theorem e43_89 : decode method_5_code 89 = .ok (.iconst 2, 1) := by decide +kernel
theorem e43_90 : decode method_5_code 90 = .ok (.ldc2_w 51, 3) := by decide +kernel
theorem e43_93 : decode method_5_code 93 = .ok (.invokestatic 67, 3) := by decide +kernel
theorem e43_96 : decode method_5_code 96 = .ok (.ifCond .eq 123, 3) := by decide +kernel
theorem e43_99 : decode method_5_code 99 = .ok (.aload_n 0, 1) := by decide +kernel
theorem e43_100 : decode method_5_code 100 = .ok (.iload 7, 2) := by decide +kernel
theorem e43_102 : decode method_5_code 102 = .ok (.lload_n 3, 1) := by decide +kernel
theorem e43_103 : decode method_5_code 103 = .ok (.iload 6, 2) := by decide +kernel
theorem e43_105 : decode method_5_code 105 = .ok (.iconst 3, 1) := by decide +kernel
theorem e43_106 : decode method_5_code 106 = .ok (.ldc2_w 53, 3) := by decide +kernel
theorem e43_109 : decode method_5_code 109 = .ok (.invokestatic 67, 3) := by decide +kernel
theorem e43_112 : decode method_5_code 112 = .ok (.ifCond .eq 107, 3) := by decide +kernel
theorem e43_115 : decode method_5_code 115 = .ok (.aload_n 0, 1) := by decide +kernel
theorem e43_116 : decode method_5_code 116 = .ok (.iload 7, 2) := by decide +kernel
theorem e43_118 : decode method_5_code 118 = .ok (.lload_n 3, 1) := by decide +kernel
theorem e43_119 : decode method_5_code 119 = .ok (.iload 6, 2) := by decide +kernel
theorem e43_121 : decode method_5_code 121 = .ok (.iconst 4, 1) := by decide +kernel
theorem e43_122 : decode method_5_code 122 = .ok (.ldc2_w 55, 3) := by decide +kernel
theorem e43_125 : decode method_5_code 125 = .ok (.invokestatic 67, 3) := by decide +kernel
theorem e43_128 : decode method_5_code 128 = .ok (.ifCond .eq 91, 3) := by decide +kernel
theorem e43_131 : decode method_5_code 131 = .ok (.aload_n 0, 1) := by decide +kernel
theorem e43_132 : decode method_5_code 132 = .ok (.iload 7, 2) := by decide +kernel
theorem e43_134 : decode method_5_code 134 = .ok (.lload_n 3, 1) := by decide +kernel
theorem e43_135 : decode method_5_code 135 = .ok (.iload 6, 2) := by decide +kernel
theorem e43_137 : decode method_5_code 137 = .ok (.iconst 5, 1) := by decide +kernel
theorem e43_138 : decode method_5_code 138 = .ok (.ldc2_w 57, 3) := by decide +kernel
theorem e43_141 : decode method_5_code 141 = .ok (.invokestatic 67, 3) := by decide +kernel
theorem e43_144 : decode method_5_code 144 = .ok (.ifCond .eq 75, 3) := by decide +kernel
theorem e43_147 : decode method_5_code 147 = .ok (.aload_n 0, 1) := by decide +kernel
theorem e43_148 : decode method_5_code 148 = .ok (.iload 7, 2) := by decide +kernel
theorem e43_150 : decode method_5_code 150 = .ok (.lload_n 3, 1) := by decide +kernel
theorem e43_151 : decode method_5_code 151 = .ok (.iload 6, 2) := by decide +kernel
theorem e43_153 : decode method_5_code 153 = .ok (.bipush 6, 2) := by decide +kernel
theorem e43_155 : decode method_5_code 155 = .ok (.ldc2_w 59, 3) := by decide +kernel
theorem e43_158 : decode method_5_code 158 = .ok (.invokestatic 67, 3) := by decide +kernel
theorem e43_161 : decode method_5_code 161 = .ok (.ifCond .eq 58, 3) := by decide +kernel
theorem e43_164 : decode method_5_code 164 = .ok (.aload_n 0, 1) := by decide +kernel
theorem e43_165 : decode method_5_code 165 = .ok (.iload 7, 2) := by decide +kernel
theorem e43_167 : decode method_5_code 167 = .ok (.lload_n 3, 1) := by decide +kernel
theorem e43_168 : decode method_5_code 168 = .ok (.iload 6, 2) := by decide +kernel
theorem e43_170 : decode method_5_code 170 = .ok (.bipush 7, 2) := by decide +kernel
theorem e43_172 : decode method_5_code 172 = .ok (.ldc2_w 61, 3) := by decide +kernel
theorem e43_175 : decode method_5_code 175 = .ok (.invokestatic 67, 3) := by decide +kernel
theorem e43_178 : decode method_5_code 178 = .ok (.ifCond .eq 41, 3) := by decide +kernel
theorem e43_181 : decode method_5_code 181 = .ok (.aload_n 0, 1) := by decide +kernel
theorem e43_182 : decode method_5_code 182 = .ok (.iload 7, 2) := by decide +kernel
theorem e43_184 : decode method_5_code 184 = .ok (.lload_n 3, 1) := by decide +kernel
theorem e43_185 : decode method_5_code 185 = .ok (.iload 6, 2) := by decide +kernel
theorem e43_187 : decode method_5_code 187 = .ok (.bipush 8, 2) := by decide +kernel
theorem e43_189 : decode method_5_code 189 = .ok (.ldc2_w 63, 3) := by decide +kernel
theorem e43_192 : decode method_5_code 192 = .ok (.invokestatic 67, 3) := by decide +kernel
theorem e43_195 : decode method_5_code 195 = .ok (.ifCond .eq 24, 3) := by decide +kernel
theorem e43_198 : decode method_5_code 198 = .ok (.aload_n 0, 1) := by decide +kernel
theorem e43_199 : decode method_5_code 199 = .ok (.iload 7, 2) := by decide +kernel
theorem e43_201 : decode method_5_code 201 = .ok (.lload_n 3, 1) := by decide +kernel
theorem e43_202 : decode method_5_code 202 = .ok (.iload 6, 2) := by decide +kernel
theorem e43_204 : decode method_5_code 204 = .ok (.bipush 9, 2) := by decide +kernel
theorem e43_206 : decode method_5_code 206 = .ok (.ldc2_w 65, 3) := by decide +kernel
theorem e43_209 : decode method_5_code 209 = .ok (.invokestatic 67, 3) := by decide +kernel
theorem e43_212 : decode method_5_code 212 = .ok (.ifCond .eq 7, 3) := by decide +kernel
theorem e43_215 : decode method_5_code 215 = .ok (.iconst 1, 1) := by decide +kernel
theorem e43_216 : decode method_5_code 216 = .ok (.goto 4, 3) := by decide +kernel
theorem e43_219 : decode method_5_code 219 = .ok (.iconst 0, 1) := by decide +kernel
theorem e43_220 : decode method_5_code 220 = .ok (.ireturn, 1) := by decide +kernel
theorem pd30 : parseMethodDescriptor "(Ljava/lang/String;IJIIJ)Z" = some ⟨[(.object "java/lang/String"), .int, .long, .int, .int, .long], some .boolean⟩ := by decide +kernel
set_option maxRecDepth 65536 in
set_option maxHeartbeats 40000000 in
theorem con_das (l : Launch) (Z : State) (a0 : Array Value) (hw : ∀ d ∈ tables_1, d.before a0 Z = true) (u : Addr) (fm : Value) (p_ : Nat) (i_ : Int32) (cs : List Int32) (h0 : Heap) (O0 : Ext Z.heap h0) (S_u : Sg Z h0 u cs) (hd : ∀ t, t < (dec i_).length → cs.getD (p_ + t) 0 = (dec i_).getD t 0) (hle : p_ + (dec i_).length ≤ cs.length) (hp4 : p_ ≤ 400) (SFm : Sta Z Z.heap "jdk/internal/util/Preconditions" "SIOOBE_FORMATTER" "Ljava/util/function/BiFunction;" fm) (rfm : fm.isRef = true) (hcm : Cpt Z) :
    Con l Z consts_1 false (⟨"com/example/devizes/devizes/redis/RedisAddressToStringPinLaw", "digitsAt", "(Ljava/lang/String;II)Z"⟩ : MethodName) method_5_code 8 (some .boolean) [] ({ frames := 5, cells := 0, slots := 0, locals := 72 } : Room) #[(.ref u), (.int (Int32.ofNat p_)), (.int i_)] [] h0 (fun v h => v = some (.int 1) ∧ h = h0) := by
  refine Con.intro (Ls := #[.val (.ref u), .val (.int (Int32.ofNat p_)), .val (.int i_), .unset, .unset, .unset, .unset, .unset]) (plainFor_of_name pn9) (own_EL hw) O0 (fun m => by first | (simp [entryFrame, mkF, argsToLocals, Value.category]; done) | rfl) (fun p e s m below meth cc_ T w sf_ => ?_)
  have E0 := ext_refl h0
  obtain ⟨z_, hz_, SC_⟩ := id hcm
  refine g_iloadN w e43_0 (q := 1) rfl rfl ?_
  refine g_i2l w e43_1 (q := 2) rfl ?_
  refine g_staticP w (con_abs l Z a0 hw i_.toInt64 _ w.old) no0 e43_2 (q := 5) rfl rfl (Hw hw 209 rfl) (Hw hw 210 rfl) (Hw hw 202 rfl) (Hw hw 211 rfl) (by decide) pd28 rfl rfl (W := 0) (Nat.le_of_eq rfl) (by decide) (by decide) (by decide) (by decide) (fun T v w C q => ?_)
  obtain rfl := q
  show Go p e below _ (State.setTop T (mkF m 5 #[.val (.ref u), .val (.int (Int32.ofNat p_)), .val (.int i_), .unset, .unset, .unset, .unset, .unset] [(.long (absL i_))]))
  refine g_lstoreN w e43_5 (q := 6) rfl (Ls' := #[.val (.ref u), .val (.int (Int32.ofNat p_)), .val (.int i_), .val (.long (absL i_)), .second, .unset, .unset, .unset]) rfl ?_
  refine g_iloadN w e43_6 (q := 7) rfl rfl ?_
  refine g_if_ge w e43_7 (by decide) (q := 14) (by decide) (q' := 10) rfl (fun cd1 => ?_) (fun cd1 => ?_)
  · refine g_iconst w e43_14 (q := 15) rfl (v := (0 : Int32)) (by decide) ?_
    refine g_istore w e43_15 (q := 17) rfl (Ls' := #[.val (.ref u), .val (.int (Int32.ofNat p_)), .val (.int i_), .val (.long (absL i_)), .second, .val (.int (0 : Int32)), .unset, .unset]) rfl ?_
    refine g_iloadN w e43_17 (q := 18) rfl rfl ?_
    refine g_staticP w (con_dlen l Z a0 hw i_ _ w.old) no0 e43_18 (q := 21) rfl rfl (Hw hw 205 rfl) (Hw hw 206 rfl) (Hw hw 207 rfl) (Hw hw 208 rfl) (by decide) pd7 rfl rfl (W := 0) (Nat.le_of_eq rfl) (by decide) (by decide) (by decide) (by decide) (fun T v w C q => ?_)
    obtain rfl := q
    show Go p e below _ (State.setTop T (mkF m 21 #[.val (.ref u), .val (.int (Int32.ofNat p_)), .val (.int i_), .val (.long (absL i_)), .second, .val (.int (0 : Int32)), .unset, .unset] [(.int (Int32.ofNat (dec i_).length))]))
    refine g_iload w e43_21 (q := 23) rfl rfl ?_
    refine g_isub w e43_23 (q := 24) rfl ?_
    rw [dd_p cd1]
    show Go p e below _ (State.setTop T (mkF m 24 #[.val (.ref u), .val (.int (Int32.ofNat p_)), .val (.int i_), .val (.long (absL i_)), .second, .val (.int (0 : Int32)), .unset, .unset] [(.int (Int32.ofNat (dl (mag i_))))]))
    have hL := dec_len i_
    rw [if_neg cd1] at hL
    have hR := dl_range (mag i_)
    refine g_istore w e43_24 (q := 26) rfl (Ls' := #[.val (.ref u), .val (.int (Int32.ofNat p_)), .val (.int i_), .val (.long (absL i_)), .second, .val (.int (0 : Int32)), .val (.int (Int32.ofNat (dl (mag i_)))), .unset]) rfl ?_
    refine g_iloadN w e43_26 (q := 27) rfl rfl ?_
    refine g_iload w e43_27 (q := 29) rfl rfl ?_
    refine g_iadd w e43_29 (q := 30) rfl ?_
    rw [add0]
    show Go p e below _ (State.setTop T (mkF m 30 #[.val (.ref u), .val (.int (Int32.ofNat p_)), .val (.int i_), .val (.long (absL i_)), .second, .val (.int (0 : Int32)), .val (.int (Int32.ofNat (dl (mag i_)))), .unset] [(.int (Int32.ofNat p_))]))
    refine g_iload w e43_30 (q := 32) rfl rfl ?_
    refine g_iadd w e43_32 (q := 33) rfl ?_
    rw [oN_add]
    show Go p e below _ (State.setTop T (mkF m 33 #[.val (.ref u), .val (.int (Int32.ofNat p_)), .val (.int i_), .val (.long (absL i_)), .second, .val (.int (0 : Int32)), .val (.int (Int32.ofNat (dl (mag i_)))), .unset] [(.int (Int32.ofNat (p_ + dl (mag i_))))]))
    refine g_iconst w e43_33 (q := 34) rfl (v := (1 : Int32)) (by decide) ?_
    refine g_isub w e43_34 (q := 35) rfl ?_
    rw [oN_s1 (by omega)]
    show Go p e below _ (State.setTop T (mkF m 35 #[.val (.ref u), .val (.int (Int32.ofNat p_)), .val (.int i_), .val (.long (absL i_)), .second, .val (.int (0 : Int32)), .val (.int (Int32.ofNat (dl (mag i_)))), .unset] [(.int (Int32.ofNat (p_ + dl (mag i_) - 1)))]))
    refine g_istore w e43_35 (q := 37) rfl (Ls' := #[.val (.ref u), .val (.int (Int32.ofNat p_)), .val (.int i_), .val (.long (absL i_)), .second, .val (.int (0 : Int32)), .val (.int (Int32.ofNat (dl (mag i_)))), .val (.int (Int32.ofNat (p_ + dl (mag i_) - 1)))]) rfl ?_
    refine g_iloadN w e43_37 (q := 38) rfl rfl ?_
    refine g_ifY w e43_38 (by decide) (q := 53) (by decide) (Jvm.Free.XT.i0_ge_t cd1) ?_
    refine g_aloadN w e43_53 (q := 54) rfl rfl rfl ?_
    refine g_iload w e43_54 (q := 56) rfl rfl ?_
    refine g_lloadN w e43_56 (q := 57) rfl rfl ?_
    refine g_iload w e43_57 (q := 59) rfl rfl ?_
    refine g_iconst w e43_59 (q := 60) rfl (v := (0 : Int32)) (by decide) ?_
    refine g_lconst w e43_60 (q := 61) rfl (v := (1 : Int64)) (by decide) ?_
    refine g_staticP w (con_dig l Z a0 hw u fm (p_ + dl (mag i_) - 1) (dl (mag i_)) 0 (mag i_) (absL i_) (1 : Int64) cs _ w.old S_u (absL_int i_) rfl (by decide) (by decide) (mag_le i_) (by decide) (dl_range _).2 (fun hk => ⟨by omega, by omega, by have q := hd ((dec i_).length - 1 - 0) (by omega); rw [dec_dig hk] at q; rw [← q]; congr 1; omega⟩) SFm rfm hcm) no0 e43_61 (q := 64) rfl rfl (Hw hw 236 rfl) (Hw hw 237 rfl) (Hw hw 207 rfl) (Hw hw 238 rfl) (by decide) pd30 rfl rfl (W := 0) (Nat.le_of_eq rfl) (by decide) (by decide) (by decide) (by decide) (fun T v w C q => ?_)
    obtain rfl := q
    show Go p e below _ (State.setTop T (mkF m 64 #[.val (.ref u), .val (.int (Int32.ofNat p_)), .val (.int i_), .val (.long (absL i_)), .second, .val (.int (0 : Int32)), .val (.int (Int32.ofNat (dl (mag i_)))), .val (.int (Int32.ofNat (p_ + dl (mag i_) - 1)))] [(.int (1 : Int32))]))
    refine g_ifN w e43_64 (q := 67) rfl (by decide) ?_
    refine g_aloadN w e43_67 (q := 68) rfl rfl rfl ?_
    refine g_iload w e43_68 (q := 70) rfl rfl ?_
    refine g_lloadN w e43_70 (q := 71) rfl rfl ?_
    refine g_iload w e43_71 (q := 73) rfl rfl ?_
    refine g_iconst w e43_73 (q := 74) rfl (v := (1 : Int32)) (by decide) ?_
    refine g_ldc2J w e43_74 (q := 77) rfl (v := (10 : Int64)) (Hw hw 212 rfl) ?_
    refine g_staticP w (con_dig l Z a0 hw u fm (p_ + dl (mag i_) - 1) (dl (mag i_)) 1 (mag i_) (absL i_) (10 : Int64) cs _ w.old S_u (absL_int i_) rfl (by decide) (by decide) (mag_le i_) (by decide) (dl_range _).2 (fun hk => ⟨by omega, by omega, by have q := hd ((dec i_).length - 1 - 1) (by omega); rw [dec_dig hk] at q; rw [← q]; congr 1; omega⟩) SFm rfm hcm) no0 e43_77 (q := 80) rfl rfl (Hw hw 236 rfl) (Hw hw 237 rfl) (Hw hw 207 rfl) (Hw hw 238 rfl) (by decide) pd30 rfl rfl (W := 0) (Nat.le_of_eq rfl) (by decide) (by decide) (by decide) (by decide) (fun T v w C q => ?_)
    obtain rfl := q
    show Go p e below _ (State.setTop T (mkF m 80 #[.val (.ref u), .val (.int (Int32.ofNat p_)), .val (.int i_), .val (.long (absL i_)), .second, .val (.int (0 : Int32)), .val (.int (Int32.ofNat (dl (mag i_)))), .val (.int (Int32.ofNat (p_ + dl (mag i_) - 1)))] [(.int (1 : Int32))]))
    refine g_ifN w e43_80 (q := 83) rfl (by decide) ?_
    refine g_aloadN w e43_83 (q := 84) rfl rfl rfl ?_
    refine g_iload w e43_84 (q := 86) rfl rfl ?_
    refine g_lloadN w e43_86 (q := 87) rfl rfl ?_
    refine g_iload w e43_87 (q := 89) rfl rfl ?_
    refine g_iconst w e43_89 (q := 90) rfl (v := (2 : Int32)) (by decide) ?_
    refine g_ldc2J w e43_90 (q := 93) rfl (v := (100 : Int64)) (Hw hw 239 rfl) ?_
    refine g_staticP w (con_dig l Z a0 hw u fm (p_ + dl (mag i_) - 1) (dl (mag i_)) 2 (mag i_) (absL i_) (100 : Int64) cs _ w.old S_u (absL_int i_) rfl (by decide) (by decide) (mag_le i_) (by decide) (dl_range _).2 (fun hk => ⟨by omega, by omega, by have q := hd ((dec i_).length - 1 - 2) (by omega); rw [dec_dig hk] at q; rw [← q]; congr 1; omega⟩) SFm rfm hcm) no0 e43_93 (q := 96) rfl rfl (Hw hw 236 rfl) (Hw hw 237 rfl) (Hw hw 207 rfl) (Hw hw 238 rfl) (by decide) pd30 rfl rfl (W := 0) (Nat.le_of_eq rfl) (by decide) (by decide) (by decide) (by decide) (fun T v w C q => ?_)
    obtain rfl := q
    show Go p e below _ (State.setTop T (mkF m 96 #[.val (.ref u), .val (.int (Int32.ofNat p_)), .val (.int i_), .val (.long (absL i_)), .second, .val (.int (0 : Int32)), .val (.int (Int32.ofNat (dl (mag i_)))), .val (.int (Int32.ofNat (p_ + dl (mag i_) - 1)))] [(.int (1 : Int32))]))
    refine g_ifN w e43_96 (q := 99) rfl (by decide) ?_
    refine g_aloadN w e43_99 (q := 100) rfl rfl rfl ?_
    refine g_iload w e43_100 (q := 102) rfl rfl ?_
    refine g_lloadN w e43_102 (q := 103) rfl rfl ?_
    refine g_iload w e43_103 (q := 105) rfl rfl ?_
    refine g_iconst w e43_105 (q := 106) rfl (v := (3 : Int32)) (by decide) ?_
    refine g_ldc2J w e43_106 (q := 109) rfl (v := (1000 : Int64)) (Hw hw 240 rfl) ?_
    refine g_staticP w (con_dig l Z a0 hw u fm (p_ + dl (mag i_) - 1) (dl (mag i_)) 3 (mag i_) (absL i_) (1000 : Int64) cs _ w.old S_u (absL_int i_) rfl (by decide) (by decide) (mag_le i_) (by decide) (dl_range _).2 (fun hk => ⟨by omega, by omega, by have q := hd ((dec i_).length - 1 - 3) (by omega); rw [dec_dig hk] at q; rw [← q]; congr 1; omega⟩) SFm rfm hcm) no0 e43_109 (q := 112) rfl rfl (Hw hw 236 rfl) (Hw hw 237 rfl) (Hw hw 207 rfl) (Hw hw 238 rfl) (by decide) pd30 rfl rfl (W := 0) (Nat.le_of_eq rfl) (by decide) (by decide) (by decide) (by decide) (fun T v w C q => ?_)
    obtain rfl := q
    show Go p e below _ (State.setTop T (mkF m 112 #[.val (.ref u), .val (.int (Int32.ofNat p_)), .val (.int i_), .val (.long (absL i_)), .second, .val (.int (0 : Int32)), .val (.int (Int32.ofNat (dl (mag i_)))), .val (.int (Int32.ofNat (p_ + dl (mag i_) - 1)))] [(.int (1 : Int32))]))
    refine g_ifN w e43_112 (q := 115) rfl (by decide) ?_
    refine g_aloadN w e43_115 (q := 116) rfl rfl rfl ?_
    refine g_iload w e43_116 (q := 118) rfl rfl ?_
    refine g_lloadN w e43_118 (q := 119) rfl rfl ?_
    refine g_iload w e43_119 (q := 121) rfl rfl ?_
    refine g_iconst w e43_121 (q := 122) rfl (v := (4 : Int32)) (by decide) ?_
    refine g_ldc2J w e43_122 (q := 125) rfl (v := (10000 : Int64)) (Hw hw 241 rfl) ?_
    refine g_staticP w (con_dig l Z a0 hw u fm (p_ + dl (mag i_) - 1) (dl (mag i_)) 4 (mag i_) (absL i_) (10000 : Int64) cs _ w.old S_u (absL_int i_) rfl (by decide) (by decide) (mag_le i_) (by decide) (dl_range _).2 (fun hk => ⟨by omega, by omega, by have q := hd ((dec i_).length - 1 - 4) (by omega); rw [dec_dig hk] at q; rw [← q]; congr 1; omega⟩) SFm rfm hcm) no0 e43_125 (q := 128) rfl rfl (Hw hw 236 rfl) (Hw hw 237 rfl) (Hw hw 207 rfl) (Hw hw 238 rfl) (by decide) pd30 rfl rfl (W := 0) (Nat.le_of_eq rfl) (by decide) (by decide) (by decide) (by decide) (fun T v w C q => ?_)
    obtain rfl := q
    show Go p e below _ (State.setTop T (mkF m 128 #[.val (.ref u), .val (.int (Int32.ofNat p_)), .val (.int i_), .val (.long (absL i_)), .second, .val (.int (0 : Int32)), .val (.int (Int32.ofNat (dl (mag i_)))), .val (.int (Int32.ofNat (p_ + dl (mag i_) - 1)))] [(.int (1 : Int32))]))
    refine g_ifN w e43_128 (q := 131) rfl (by decide) ?_
    refine g_aloadN w e43_131 (q := 132) rfl rfl rfl ?_
    refine g_iload w e43_132 (q := 134) rfl rfl ?_
    refine g_lloadN w e43_134 (q := 135) rfl rfl ?_
    refine g_iload w e43_135 (q := 137) rfl rfl ?_
    refine g_iconst w e43_137 (q := 138) rfl (v := (5 : Int32)) (by decide) ?_
    refine g_ldc2J w e43_138 (q := 141) rfl (v := (100000 : Int64)) (Hw hw 242 rfl) ?_
    refine g_staticP w (con_dig l Z a0 hw u fm (p_ + dl (mag i_) - 1) (dl (mag i_)) 5 (mag i_) (absL i_) (100000 : Int64) cs _ w.old S_u (absL_int i_) rfl (by decide) (by decide) (mag_le i_) (by decide) (dl_range _).2 (fun hk => ⟨by omega, by omega, by have q := hd ((dec i_).length - 1 - 5) (by omega); rw [dec_dig hk] at q; rw [← q]; congr 1; omega⟩) SFm rfm hcm) no0 e43_141 (q := 144) rfl rfl (Hw hw 236 rfl) (Hw hw 237 rfl) (Hw hw 207 rfl) (Hw hw 238 rfl) (by decide) pd30 rfl rfl (W := 0) (Nat.le_of_eq rfl) (by decide) (by decide) (by decide) (by decide) (fun T v w C q => ?_)
    obtain rfl := q
    show Go p e below _ (State.setTop T (mkF m 144 #[.val (.ref u), .val (.int (Int32.ofNat p_)), .val (.int i_), .val (.long (absL i_)), .second, .val (.int (0 : Int32)), .val (.int (Int32.ofNat (dl (mag i_)))), .val (.int (Int32.ofNat (p_ + dl (mag i_) - 1)))] [(.int (1 : Int32))]))
    refine g_ifN w e43_144 (q := 147) rfl (by decide) ?_
    refine g_aloadN w e43_147 (q := 148) rfl rfl rfl ?_
    refine g_iload w e43_148 (q := 150) rfl rfl ?_
    refine g_lloadN w e43_150 (q := 151) rfl rfl ?_
    refine g_iload w e43_151 (q := 153) rfl rfl ?_
    refine g_bipush w e43_153 (q := 155) rfl (v := (6 : Int32)) (by decide) ?_
    refine g_ldc2J w e43_155 (q := 158) rfl (v := (1000000 : Int64)) (Hw hw 243 rfl) ?_
    refine g_staticP w (con_dig l Z a0 hw u fm (p_ + dl (mag i_) - 1) (dl (mag i_)) 6 (mag i_) (absL i_) (1000000 : Int64) cs _ w.old S_u (absL_int i_) rfl (by decide) (by decide) (mag_le i_) (by decide) (dl_range _).2 (fun hk => ⟨by omega, by omega, by have q := hd ((dec i_).length - 1 - 6) (by omega); rw [dec_dig hk] at q; rw [← q]; congr 1; omega⟩) SFm rfm hcm) no0 e43_158 (q := 161) rfl rfl (Hw hw 236 rfl) (Hw hw 237 rfl) (Hw hw 207 rfl) (Hw hw 238 rfl) (by decide) pd30 rfl rfl (W := 0) (Nat.le_of_eq rfl) (by decide) (by decide) (by decide) (by decide) (fun T v w C q => ?_)
    obtain rfl := q
    show Go p e below _ (State.setTop T (mkF m 161 #[.val (.ref u), .val (.int (Int32.ofNat p_)), .val (.int i_), .val (.long (absL i_)), .second, .val (.int (0 : Int32)), .val (.int (Int32.ofNat (dl (mag i_)))), .val (.int (Int32.ofNat (p_ + dl (mag i_) - 1)))] [(.int (1 : Int32))]))
    refine g_ifN w e43_161 (q := 164) rfl (by decide) ?_
    refine g_aloadN w e43_164 (q := 165) rfl rfl rfl ?_
    refine g_iload w e43_165 (q := 167) rfl rfl ?_
    refine g_lloadN w e43_167 (q := 168) rfl rfl ?_
    refine g_iload w e43_168 (q := 170) rfl rfl ?_
    refine g_bipush w e43_170 (q := 172) rfl (v := (7 : Int32)) (by decide) ?_
    refine g_ldc2J w e43_172 (q := 175) rfl (v := (10000000 : Int64)) (Hw hw 244 rfl) ?_
    refine g_staticP w (con_dig l Z a0 hw u fm (p_ + dl (mag i_) - 1) (dl (mag i_)) 7 (mag i_) (absL i_) (10000000 : Int64) cs _ w.old S_u (absL_int i_) rfl (by decide) (by decide) (mag_le i_) (by decide) (dl_range _).2 (fun hk => ⟨by omega, by omega, by have q := hd ((dec i_).length - 1 - 7) (by omega); rw [dec_dig hk] at q; rw [← q]; congr 1; omega⟩) SFm rfm hcm) no0 e43_175 (q := 178) rfl rfl (Hw hw 236 rfl) (Hw hw 237 rfl) (Hw hw 207 rfl) (Hw hw 238 rfl) (by decide) pd30 rfl rfl (W := 0) (Nat.le_of_eq rfl) (by decide) (by decide) (by decide) (by decide) (fun T v w C q => ?_)
    obtain rfl := q
    show Go p e below _ (State.setTop T (mkF m 178 #[.val (.ref u), .val (.int (Int32.ofNat p_)), .val (.int i_), .val (.long (absL i_)), .second, .val (.int (0 : Int32)), .val (.int (Int32.ofNat (dl (mag i_)))), .val (.int (Int32.ofNat (p_ + dl (mag i_) - 1)))] [(.int (1 : Int32))]))
    refine g_ifN w e43_178 (q := 181) rfl (by decide) ?_
    refine g_aloadN w e43_181 (q := 182) rfl rfl rfl ?_
    refine g_iload w e43_182 (q := 184) rfl rfl ?_
    refine g_lloadN w e43_184 (q := 185) rfl rfl ?_
    refine g_iload w e43_185 (q := 187) rfl rfl ?_
    refine g_bipush w e43_187 (q := 189) rfl (v := (8 : Int32)) (by decide) ?_
    refine g_ldc2J w e43_189 (q := 192) rfl (v := (100000000 : Int64)) (Hw hw 245 rfl) ?_
    refine g_staticP w (con_dig l Z a0 hw u fm (p_ + dl (mag i_) - 1) (dl (mag i_)) 8 (mag i_) (absL i_) (100000000 : Int64) cs _ w.old S_u (absL_int i_) rfl (by decide) (by decide) (mag_le i_) (by decide) (dl_range _).2 (fun hk => ⟨by omega, by omega, by have q := hd ((dec i_).length - 1 - 8) (by omega); rw [dec_dig hk] at q; rw [← q]; congr 1; omega⟩) SFm rfm hcm) no0 e43_192 (q := 195) rfl rfl (Hw hw 236 rfl) (Hw hw 237 rfl) (Hw hw 207 rfl) (Hw hw 238 rfl) (by decide) pd30 rfl rfl (W := 0) (Nat.le_of_eq rfl) (by decide) (by decide) (by decide) (by decide) (fun T v w C q => ?_)
    obtain rfl := q
    show Go p e below _ (State.setTop T (mkF m 195 #[.val (.ref u), .val (.int (Int32.ofNat p_)), .val (.int i_), .val (.long (absL i_)), .second, .val (.int (0 : Int32)), .val (.int (Int32.ofNat (dl (mag i_)))), .val (.int (Int32.ofNat (p_ + dl (mag i_) - 1)))] [(.int (1 : Int32))]))
    refine g_ifN w e43_195 (q := 198) rfl (by decide) ?_
    refine g_aloadN w e43_198 (q := 199) rfl rfl rfl ?_
    refine g_iload w e43_199 (q := 201) rfl rfl ?_
    refine g_lloadN w e43_201 (q := 202) rfl rfl ?_
    refine g_iload w e43_202 (q := 204) rfl rfl ?_
    refine g_bipush w e43_204 (q := 206) rfl (v := (9 : Int32)) (by decide) ?_
    refine g_ldc2J w e43_206 (q := 209) rfl (v := (1000000000 : Int64)) (Hw hw 246 rfl) ?_
    refine g_staticP w (con_dig l Z a0 hw u fm (p_ + dl (mag i_) - 1) (dl (mag i_)) 9 (mag i_) (absL i_) (1000000000 : Int64) cs _ w.old S_u (absL_int i_) rfl (by decide) (by decide) (mag_le i_) (by decide) (dl_range _).2 (fun hk => ⟨by omega, by omega, by have q := hd ((dec i_).length - 1 - 9) (by omega); rw [dec_dig hk] at q; rw [← q]; congr 1; omega⟩) SFm rfm hcm) no0 e43_209 (q := 212) rfl rfl (Hw hw 236 rfl) (Hw hw 237 rfl) (Hw hw 207 rfl) (Hw hw 238 rfl) (by decide) pd30 rfl rfl (W := 0) (Nat.le_of_eq rfl) (by decide) (by decide) (by decide) (by decide) (fun T v w C q => ?_)
    obtain rfl := q
    show Go p e below _ (State.setTop T (mkF m 212 #[.val (.ref u), .val (.int (Int32.ofNat p_)), .val (.int i_), .val (.long (absL i_)), .second, .val (.int (0 : Int32)), .val (.int (Int32.ofNat (dl (mag i_)))), .val (.int (Int32.ofNat (p_ + dl (mag i_) - 1)))] [(.int (1 : Int32))]))
    refine g_ifN w e43_212 (q := 215) rfl (by decide) ?_
    refine g_iconst w e43_215 (q := 216) rfl (v := (1 : Int32)) (by decide) ?_
    refine g_goto w e43_216 (by decide) (q := 220) (by decide) ?_
    exact g_retn w e43_220 rfl (by simp) rfl (by decide) (by decide) ⟨rfl, rfl⟩
  · refine g_iconst w e43_10 (q := 11) rfl (v := (1 : Int32)) (by decide) ?_
    refine g_goto w e43_11 (by decide) (q := 15) (by decide) ?_
    refine g_istore w e43_15 (q := 17) rfl (Ls' := #[.val (.ref u), .val (.int (Int32.ofNat p_)), .val (.int i_), .val (.long (absL i_)), .second, .val (.int (1 : Int32)), .unset, .unset]) rfl ?_
    refine g_iloadN w e43_17 (q := 18) rfl rfl ?_
    refine g_staticP w (con_dlen l Z a0 hw i_ _ w.old) no0 e43_18 (q := 21) rfl rfl (Hw hw 205 rfl) (Hw hw 206 rfl) (Hw hw 207 rfl) (Hw hw 208 rfl) (by decide) pd7 rfl rfl (W := 0) (Nat.le_of_eq rfl) (by decide) (by decide) (by decide) (by decide) (fun T v w C q => ?_)
    obtain rfl := q
    show Go p e below _ (State.setTop T (mkF m 21 #[.val (.ref u), .val (.int (Int32.ofNat p_)), .val (.int i_), .val (.long (absL i_)), .second, .val (.int (1 : Int32)), .unset, .unset] [(.int (Int32.ofNat (dec i_).length))]))
    refine g_iload w e43_21 (q := 23) rfl rfl ?_
    refine g_isub w e43_23 (q := 24) rfl ?_
    rw [dd_n cd1]
    show Go p e below _ (State.setTop T (mkF m 24 #[.val (.ref u), .val (.int (Int32.ofNat p_)), .val (.int i_), .val (.long (absL i_)), .second, .val (.int (1 : Int32)), .unset, .unset] [(.int (Int32.ofNat (dl (mag i_))))]))
    have hL := dec_len i_
    rw [if_pos cd1] at hL
    have hR := dl_range (mag i_)
    refine g_istore w e43_24 (q := 26) rfl (Ls' := #[.val (.ref u), .val (.int (Int32.ofNat p_)), .val (.int i_), .val (.long (absL i_)), .second, .val (.int (1 : Int32)), .val (.int (Int32.ofNat (dl (mag i_)))), .unset]) rfl ?_
    refine g_iloadN w e43_26 (q := 27) rfl rfl ?_
    refine g_iload w e43_27 (q := 29) rfl rfl ?_
    refine g_iadd w e43_29 (q := 30) rfl ?_
    rw [oN_a1]
    show Go p e below _ (State.setTop T (mkF m 30 #[.val (.ref u), .val (.int (Int32.ofNat p_)), .val (.int i_), .val (.long (absL i_)), .second, .val (.int (1 : Int32)), .val (.int (Int32.ofNat (dl (mag i_)))), .unset] [(.int (Int32.ofNat (p_ + 1)))]))
    refine g_iload w e43_30 (q := 32) rfl rfl ?_
    refine g_iadd w e43_32 (q := 33) rfl ?_
    rw [oN_add]
    show Go p e below _ (State.setTop T (mkF m 33 #[.val (.ref u), .val (.int (Int32.ofNat p_)), .val (.int i_), .val (.long (absL i_)), .second, .val (.int (1 : Int32)), .val (.int (Int32.ofNat (dl (mag i_)))), .unset] [(.int (Int32.ofNat (p_ + 1 + dl (mag i_))))]))
    refine g_iconst w e43_33 (q := 34) rfl (v := (1 : Int32)) (by decide) ?_
    refine g_isub w e43_34 (q := 35) rfl ?_
    rw [oN_s1 (by omega)]
    show Go p e below _ (State.setTop T (mkF m 35 #[.val (.ref u), .val (.int (Int32.ofNat p_)), .val (.int i_), .val (.long (absL i_)), .second, .val (.int (1 : Int32)), .val (.int (Int32.ofNat (dl (mag i_)))), .unset] [(.int (Int32.ofNat (p_ + 1 + dl (mag i_) - 1)))]))
    refine g_istore w e43_35 (q := 37) rfl (Ls' := #[.val (.ref u), .val (.int (Int32.ofNat p_)), .val (.int i_), .val (.long (absL i_)), .second, .val (.int (1 : Int32)), .val (.int (Int32.ofNat (dl (mag i_)))), .val (.int (Int32.ofNat (p_ + 1 + dl (mag i_) - 1)))]) rfl ?_
    refine g_iloadN w e43_37 (q := 38) rfl rfl ?_
    refine g_ifN w e43_38 (q := 41) rfl (Jvm.Free.XT.i0_ge_f cd1) ?_
    have hneg := cd1
    refine g_aloadN w e43_41 (q := 42) rfl rfl rfl ?_
    refine g_iloadN w e43_42 (q := 43) rfl rfl ?_
    refine g_virtualB w (a := u) (argsL := [(.int (Int32.ofNat p_))]) (own_chB hw (i := p_) S_u (w.sta SC_) hz_ (w.sta SFm) rfm (by omega) rfl (by decide) (by decide)) S_u.exa e43_43 (q := 46) rfl rfl (Hw hw 214 rfl) (Hw hw 215 rfl) (Hw hw 217 rfl) (Hw hw 216 rfl) (by decide) (nf (Hw hw 217 rfl)) pd29 rfl rfl (W := 0) (Nat.le_of_eq rfl) (by decide) (by decide) (fun T v w hq => ?_)
    obtain rfl := hq
    show Go p e below _ (State.setTop T (mkF m 46 #[.val (.ref u), .val (.int (Int32.ofNat p_)), .val (.int i_), .val (.long (absL i_)), .second, .val (.int (1 : Int32)), .val (.int (Int32.ofNat (dl (mag i_)))), .val (.int (Int32.ofNat (p_ + 1 + dl (mag i_) - 1)))] [(.int (cs.getD p_ 0))]))
    refine g_bipush w e43_46 (q := 48) rfl (v := (45 : Int32)) (by decide) ?_
    refine g_icY w e43_48 (by decide) (q := 53) (by decide) (Jvm.Free.XT.ii_eq_t (by have q := hd 0 (by omega); rw [Nat.add_zero] at q; rw [q]; exact dec_sign hneg)) ?_
    refine g_aloadN w e43_53 (q := 54) rfl rfl rfl ?_
    refine g_iload w e43_54 (q := 56) rfl rfl ?_
    refine g_lloadN w e43_56 (q := 57) rfl rfl ?_
    refine g_iload w e43_57 (q := 59) rfl rfl ?_
    refine g_iconst w e43_59 (q := 60) rfl (v := (0 : Int32)) (by decide) ?_
    refine g_lconst w e43_60 (q := 61) rfl (v := (1 : Int64)) (by decide) ?_
    refine g_staticP w (con_dig l Z a0 hw u fm (p_ + 1 + dl (mag i_) - 1) (dl (mag i_)) 0 (mag i_) (absL i_) (1 : Int64) cs _ w.old S_u (absL_int i_) rfl (by decide) (by decide) (mag_le i_) (by decide) (dl_range _).2 (fun hk => ⟨by omega, by omega, by have q := hd ((dec i_).length - 1 - 0) (by omega); rw [dec_dig hk] at q; rw [← q]; congr 1; omega⟩) SFm rfm hcm) no0 e43_61 (q := 64) rfl rfl (Hw hw 236 rfl) (Hw hw 237 rfl) (Hw hw 207 rfl) (Hw hw 238 rfl) (by decide) pd30 rfl rfl (W := 0) (Nat.le_of_eq rfl) (by decide) (by decide) (by decide) (by decide) (fun T v w C q => ?_)
    obtain rfl := q
    show Go p e below _ (State.setTop T (mkF m 64 #[.val (.ref u), .val (.int (Int32.ofNat p_)), .val (.int i_), .val (.long (absL i_)), .second, .val (.int (1 : Int32)), .val (.int (Int32.ofNat (dl (mag i_)))), .val (.int (Int32.ofNat (p_ + 1 + dl (mag i_) - 1)))] [(.int (1 : Int32))]))
    refine g_ifN w e43_64 (q := 67) rfl (by decide) ?_
    refine g_aloadN w e43_67 (q := 68) rfl rfl rfl ?_
    refine g_iload w e43_68 (q := 70) rfl rfl ?_
    refine g_lloadN w e43_70 (q := 71) rfl rfl ?_
    refine g_iload w e43_71 (q := 73) rfl rfl ?_
    refine g_iconst w e43_73 (q := 74) rfl (v := (1 : Int32)) (by decide) ?_
    refine g_ldc2J w e43_74 (q := 77) rfl (v := (10 : Int64)) (Hw hw 212 rfl) ?_
    refine g_staticP w (con_dig l Z a0 hw u fm (p_ + 1 + dl (mag i_) - 1) (dl (mag i_)) 1 (mag i_) (absL i_) (10 : Int64) cs _ w.old S_u (absL_int i_) rfl (by decide) (by decide) (mag_le i_) (by decide) (dl_range _).2 (fun hk => ⟨by omega, by omega, by have q := hd ((dec i_).length - 1 - 1) (by omega); rw [dec_dig hk] at q; rw [← q]; congr 1; omega⟩) SFm rfm hcm) no0 e43_77 (q := 80) rfl rfl (Hw hw 236 rfl) (Hw hw 237 rfl) (Hw hw 207 rfl) (Hw hw 238 rfl) (by decide) pd30 rfl rfl (W := 0) (Nat.le_of_eq rfl) (by decide) (by decide) (by decide) (by decide) (fun T v w C q => ?_)
    obtain rfl := q
    show Go p e below _ (State.setTop T (mkF m 80 #[.val (.ref u), .val (.int (Int32.ofNat p_)), .val (.int i_), .val (.long (absL i_)), .second, .val (.int (1 : Int32)), .val (.int (Int32.ofNat (dl (mag i_)))), .val (.int (Int32.ofNat (p_ + 1 + dl (mag i_) - 1)))] [(.int (1 : Int32))]))
    refine g_ifN w e43_80 (q := 83) rfl (by decide) ?_
    refine g_aloadN w e43_83 (q := 84) rfl rfl rfl ?_
    refine g_iload w e43_84 (q := 86) rfl rfl ?_
    refine g_lloadN w e43_86 (q := 87) rfl rfl ?_
    refine g_iload w e43_87 (q := 89) rfl rfl ?_
    refine g_iconst w e43_89 (q := 90) rfl (v := (2 : Int32)) (by decide) ?_
    refine g_ldc2J w e43_90 (q := 93) rfl (v := (100 : Int64)) (Hw hw 239 rfl) ?_
    refine g_staticP w (con_dig l Z a0 hw u fm (p_ + 1 + dl (mag i_) - 1) (dl (mag i_)) 2 (mag i_) (absL i_) (100 : Int64) cs _ w.old S_u (absL_int i_) rfl (by decide) (by decide) (mag_le i_) (by decide) (dl_range _).2 (fun hk => ⟨by omega, by omega, by have q := hd ((dec i_).length - 1 - 2) (by omega); rw [dec_dig hk] at q; rw [← q]; congr 1; omega⟩) SFm rfm hcm) no0 e43_93 (q := 96) rfl rfl (Hw hw 236 rfl) (Hw hw 237 rfl) (Hw hw 207 rfl) (Hw hw 238 rfl) (by decide) pd30 rfl rfl (W := 0) (Nat.le_of_eq rfl) (by decide) (by decide) (by decide) (by decide) (fun T v w C q => ?_)
    obtain rfl := q
    show Go p e below _ (State.setTop T (mkF m 96 #[.val (.ref u), .val (.int (Int32.ofNat p_)), .val (.int i_), .val (.long (absL i_)), .second, .val (.int (1 : Int32)), .val (.int (Int32.ofNat (dl (mag i_)))), .val (.int (Int32.ofNat (p_ + 1 + dl (mag i_) - 1)))] [(.int (1 : Int32))]))
    refine g_ifN w e43_96 (q := 99) rfl (by decide) ?_
    refine g_aloadN w e43_99 (q := 100) rfl rfl rfl ?_
    refine g_iload w e43_100 (q := 102) rfl rfl ?_
    refine g_lloadN w e43_102 (q := 103) rfl rfl ?_
    refine g_iload w e43_103 (q := 105) rfl rfl ?_
    refine g_iconst w e43_105 (q := 106) rfl (v := (3 : Int32)) (by decide) ?_
    refine g_ldc2J w e43_106 (q := 109) rfl (v := (1000 : Int64)) (Hw hw 240 rfl) ?_
    refine g_staticP w (con_dig l Z a0 hw u fm (p_ + 1 + dl (mag i_) - 1) (dl (mag i_)) 3 (mag i_) (absL i_) (1000 : Int64) cs _ w.old S_u (absL_int i_) rfl (by decide) (by decide) (mag_le i_) (by decide) (dl_range _).2 (fun hk => ⟨by omega, by omega, by have q := hd ((dec i_).length - 1 - 3) (by omega); rw [dec_dig hk] at q; rw [← q]; congr 1; omega⟩) SFm rfm hcm) no0 e43_109 (q := 112) rfl rfl (Hw hw 236 rfl) (Hw hw 237 rfl) (Hw hw 207 rfl) (Hw hw 238 rfl) (by decide) pd30 rfl rfl (W := 0) (Nat.le_of_eq rfl) (by decide) (by decide) (by decide) (by decide) (fun T v w C q => ?_)
    obtain rfl := q
    show Go p e below _ (State.setTop T (mkF m 112 #[.val (.ref u), .val (.int (Int32.ofNat p_)), .val (.int i_), .val (.long (absL i_)), .second, .val (.int (1 : Int32)), .val (.int (Int32.ofNat (dl (mag i_)))), .val (.int (Int32.ofNat (p_ + 1 + dl (mag i_) - 1)))] [(.int (1 : Int32))]))
    refine g_ifN w e43_112 (q := 115) rfl (by decide) ?_
    refine g_aloadN w e43_115 (q := 116) rfl rfl rfl ?_
    refine g_iload w e43_116 (q := 118) rfl rfl ?_
    refine g_lloadN w e43_118 (q := 119) rfl rfl ?_
    refine g_iload w e43_119 (q := 121) rfl rfl ?_
    refine g_iconst w e43_121 (q := 122) rfl (v := (4 : Int32)) (by decide) ?_
    refine g_ldc2J w e43_122 (q := 125) rfl (v := (10000 : Int64)) (Hw hw 241 rfl) ?_
    refine g_staticP w (con_dig l Z a0 hw u fm (p_ + 1 + dl (mag i_) - 1) (dl (mag i_)) 4 (mag i_) (absL i_) (10000 : Int64) cs _ w.old S_u (absL_int i_) rfl (by decide) (by decide) (mag_le i_) (by decide) (dl_range _).2 (fun hk => ⟨by omega, by omega, by have q := hd ((dec i_).length - 1 - 4) (by omega); rw [dec_dig hk] at q; rw [← q]; congr 1; omega⟩) SFm rfm hcm) no0 e43_125 (q := 128) rfl rfl (Hw hw 236 rfl) (Hw hw 237 rfl) (Hw hw 207 rfl) (Hw hw 238 rfl) (by decide) pd30 rfl rfl (W := 0) (Nat.le_of_eq rfl) (by decide) (by decide) (by decide) (by decide) (fun T v w C q => ?_)
    obtain rfl := q
    show Go p e below _ (State.setTop T (mkF m 128 #[.val (.ref u), .val (.int (Int32.ofNat p_)), .val (.int i_), .val (.long (absL i_)), .second, .val (.int (1 : Int32)), .val (.int (Int32.ofNat (dl (mag i_)))), .val (.int (Int32.ofNat (p_ + 1 + dl (mag i_) - 1)))] [(.int (1 : Int32))]))
    refine g_ifN w e43_128 (q := 131) rfl (by decide) ?_
    refine g_aloadN w e43_131 (q := 132) rfl rfl rfl ?_
    refine g_iload w e43_132 (q := 134) rfl rfl ?_
    refine g_lloadN w e43_134 (q := 135) rfl rfl ?_
    refine g_iload w e43_135 (q := 137) rfl rfl ?_
    refine g_iconst w e43_137 (q := 138) rfl (v := (5 : Int32)) (by decide) ?_
    refine g_ldc2J w e43_138 (q := 141) rfl (v := (100000 : Int64)) (Hw hw 242 rfl) ?_
    refine g_staticP w (con_dig l Z a0 hw u fm (p_ + 1 + dl (mag i_) - 1) (dl (mag i_)) 5 (mag i_) (absL i_) (100000 : Int64) cs _ w.old S_u (absL_int i_) rfl (by decide) (by decide) (mag_le i_) (by decide) (dl_range _).2 (fun hk => ⟨by omega, by omega, by have q := hd ((dec i_).length - 1 - 5) (by omega); rw [dec_dig hk] at q; rw [← q]; congr 1; omega⟩) SFm rfm hcm) no0 e43_141 (q := 144) rfl rfl (Hw hw 236 rfl) (Hw hw 237 rfl) (Hw hw 207 rfl) (Hw hw 238 rfl) (by decide) pd30 rfl rfl (W := 0) (Nat.le_of_eq rfl) (by decide) (by decide) (by decide) (by decide) (fun T v w C q => ?_)
    obtain rfl := q
    show Go p e below _ (State.setTop T (mkF m 144 #[.val (.ref u), .val (.int (Int32.ofNat p_)), .val (.int i_), .val (.long (absL i_)), .second, .val (.int (1 : Int32)), .val (.int (Int32.ofNat (dl (mag i_)))), .val (.int (Int32.ofNat (p_ + 1 + dl (mag i_) - 1)))] [(.int (1 : Int32))]))
    refine g_ifN w e43_144 (q := 147) rfl (by decide) ?_
    refine g_aloadN w e43_147 (q := 148) rfl rfl rfl ?_
    refine g_iload w e43_148 (q := 150) rfl rfl ?_
    refine g_lloadN w e43_150 (q := 151) rfl rfl ?_
    refine g_iload w e43_151 (q := 153) rfl rfl ?_
    refine g_bipush w e43_153 (q := 155) rfl (v := (6 : Int32)) (by decide) ?_
    refine g_ldc2J w e43_155 (q := 158) rfl (v := (1000000 : Int64)) (Hw hw 243 rfl) ?_
    refine g_staticP w (con_dig l Z a0 hw u fm (p_ + 1 + dl (mag i_) - 1) (dl (mag i_)) 6 (mag i_) (absL i_) (1000000 : Int64) cs _ w.old S_u (absL_int i_) rfl (by decide) (by decide) (mag_le i_) (by decide) (dl_range _).2 (fun hk => ⟨by omega, by omega, by have q := hd ((dec i_).length - 1 - 6) (by omega); rw [dec_dig hk] at q; rw [← q]; congr 1; omega⟩) SFm rfm hcm) no0 e43_158 (q := 161) rfl rfl (Hw hw 236 rfl) (Hw hw 237 rfl) (Hw hw 207 rfl) (Hw hw 238 rfl) (by decide) pd30 rfl rfl (W := 0) (Nat.le_of_eq rfl) (by decide) (by decide) (by decide) (by decide) (fun T v w C q => ?_)
    obtain rfl := q
    show Go p e below _ (State.setTop T (mkF m 161 #[.val (.ref u), .val (.int (Int32.ofNat p_)), .val (.int i_), .val (.long (absL i_)), .second, .val (.int (1 : Int32)), .val (.int (Int32.ofNat (dl (mag i_)))), .val (.int (Int32.ofNat (p_ + 1 + dl (mag i_) - 1)))] [(.int (1 : Int32))]))
    refine g_ifN w e43_161 (q := 164) rfl (by decide) ?_
    refine g_aloadN w e43_164 (q := 165) rfl rfl rfl ?_
    refine g_iload w e43_165 (q := 167) rfl rfl ?_
    refine g_lloadN w e43_167 (q := 168) rfl rfl ?_
    refine g_iload w e43_168 (q := 170) rfl rfl ?_
    refine g_bipush w e43_170 (q := 172) rfl (v := (7 : Int32)) (by decide) ?_
    refine g_ldc2J w e43_172 (q := 175) rfl (v := (10000000 : Int64)) (Hw hw 244 rfl) ?_
    refine g_staticP w (con_dig l Z a0 hw u fm (p_ + 1 + dl (mag i_) - 1) (dl (mag i_)) 7 (mag i_) (absL i_) (10000000 : Int64) cs _ w.old S_u (absL_int i_) rfl (by decide) (by decide) (mag_le i_) (by decide) (dl_range _).2 (fun hk => ⟨by omega, by omega, by have q := hd ((dec i_).length - 1 - 7) (by omega); rw [dec_dig hk] at q; rw [← q]; congr 1; omega⟩) SFm rfm hcm) no0 e43_175 (q := 178) rfl rfl (Hw hw 236 rfl) (Hw hw 237 rfl) (Hw hw 207 rfl) (Hw hw 238 rfl) (by decide) pd30 rfl rfl (W := 0) (Nat.le_of_eq rfl) (by decide) (by decide) (by decide) (by decide) (fun T v w C q => ?_)
    obtain rfl := q
    show Go p e below _ (State.setTop T (mkF m 178 #[.val (.ref u), .val (.int (Int32.ofNat p_)), .val (.int i_), .val (.long (absL i_)), .second, .val (.int (1 : Int32)), .val (.int (Int32.ofNat (dl (mag i_)))), .val (.int (Int32.ofNat (p_ + 1 + dl (mag i_) - 1)))] [(.int (1 : Int32))]))
    refine g_ifN w e43_178 (q := 181) rfl (by decide) ?_
    refine g_aloadN w e43_181 (q := 182) rfl rfl rfl ?_
    refine g_iload w e43_182 (q := 184) rfl rfl ?_
    refine g_lloadN w e43_184 (q := 185) rfl rfl ?_
    refine g_iload w e43_185 (q := 187) rfl rfl ?_
    refine g_bipush w e43_187 (q := 189) rfl (v := (8 : Int32)) (by decide) ?_
    refine g_ldc2J w e43_189 (q := 192) rfl (v := (100000000 : Int64)) (Hw hw 245 rfl) ?_
    refine g_staticP w (con_dig l Z a0 hw u fm (p_ + 1 + dl (mag i_) - 1) (dl (mag i_)) 8 (mag i_) (absL i_) (100000000 : Int64) cs _ w.old S_u (absL_int i_) rfl (by decide) (by decide) (mag_le i_) (by decide) (dl_range _).2 (fun hk => ⟨by omega, by omega, by have q := hd ((dec i_).length - 1 - 8) (by omega); rw [dec_dig hk] at q; rw [← q]; congr 1; omega⟩) SFm rfm hcm) no0 e43_192 (q := 195) rfl rfl (Hw hw 236 rfl) (Hw hw 237 rfl) (Hw hw 207 rfl) (Hw hw 238 rfl) (by decide) pd30 rfl rfl (W := 0) (Nat.le_of_eq rfl) (by decide) (by decide) (by decide) (by decide) (fun T v w C q => ?_)
    obtain rfl := q
    show Go p e below _ (State.setTop T (mkF m 195 #[.val (.ref u), .val (.int (Int32.ofNat p_)), .val (.int i_), .val (.long (absL i_)), .second, .val (.int (1 : Int32)), .val (.int (Int32.ofNat (dl (mag i_)))), .val (.int (Int32.ofNat (p_ + 1 + dl (mag i_) - 1)))] [(.int (1 : Int32))]))
    refine g_ifN w e43_195 (q := 198) rfl (by decide) ?_
    refine g_aloadN w e43_198 (q := 199) rfl rfl rfl ?_
    refine g_iload w e43_199 (q := 201) rfl rfl ?_
    refine g_lloadN w e43_201 (q := 202) rfl rfl ?_
    refine g_iload w e43_202 (q := 204) rfl rfl ?_
    refine g_bipush w e43_204 (q := 206) rfl (v := (9 : Int32)) (by decide) ?_
    refine g_ldc2J w e43_206 (q := 209) rfl (v := (1000000000 : Int64)) (Hw hw 246 rfl) ?_
    refine g_staticP w (con_dig l Z a0 hw u fm (p_ + 1 + dl (mag i_) - 1) (dl (mag i_)) 9 (mag i_) (absL i_) (1000000000 : Int64) cs _ w.old S_u (absL_int i_) rfl (by decide) (by decide) (mag_le i_) (by decide) (dl_range _).2 (fun hk => ⟨by omega, by omega, by have q := hd ((dec i_).length - 1 - 9) (by omega); rw [dec_dig hk] at q; rw [← q]; congr 1; omega⟩) SFm rfm hcm) no0 e43_209 (q := 212) rfl rfl (Hw hw 236 rfl) (Hw hw 237 rfl) (Hw hw 207 rfl) (Hw hw 238 rfl) (by decide) pd30 rfl rfl (W := 0) (Nat.le_of_eq rfl) (by decide) (by decide) (by decide) (by decide) (fun T v w C q => ?_)
    obtain rfl := q
    show Go p e below _ (State.setTop T (mkF m 212 #[.val (.ref u), .val (.int (Int32.ofNat p_)), .val (.int i_), .val (.long (absL i_)), .second, .val (.int (1 : Int32)), .val (.int (Int32.ofNat (dl (mag i_)))), .val (.int (Int32.ofNat (p_ + 1 + dl (mag i_) - 1)))] [(.int (1 : Int32))]))
    refine g_ifN w e43_212 (q := 215) rfl (by decide) ?_
    refine g_iconst w e43_215 (q := 216) rfl (v := (1 : Int32)) (by decide) ?_
    refine g_goto w e43_216 (by decide) (q := 220) (by decide) ?_
    exact g_retn w e43_220 rfl (by simp) rfl (by decide) (by decide) ⟨rfl, rfl⟩
theorem pd31 : parseMethodDescriptor "(Ljava/lang/String;II)V" = some ⟨[(.object "java/lang/String"), .int, .int], none⟩ := by decide +kernel
theorem pd32 : parseMethodDescriptor "(Ljava/lang/String;IICCC)Z" = some ⟨[(.object "java/lang/String"), .int, .int, .char, .char, .char], some .boolean⟩ := by decide +kernel
theorem pd33 : parseMethodDescriptor "(Ljava/lang/String;II)Z" = some ⟨[(.object "java/lang/String"), .int, .int], some .boolean⟩ := by decide +kernel
theorem pd34 : parseMethodDescriptor "([C)V" = some ⟨[(.array .char)], none⟩ := by decide +kernel
set_option maxRecDepth 65536 in
set_option maxHeartbeats 40000000 in
theorem con_law (l : Launch) (Z : State) (a0 : Array Value) (hw : ∀ d ∈ tables_1, d.before a0 Z = true) (d1 d10 : Addr) (fm : Value) (fl port db : Int32) (h0 : Heap) (O0 : Ext Z.heap h0) (hcm : Cpt Z) (SO_ : Sta Z Z.heap "java/lang/Integer" "DigitOnes" "[B" (.ref d1)) (SX_ : Sta Z Z.heap "java/lang/Integer" "DigitTens" "[B" (.ref d10)) (D1_ : Dg Z d1 100 (fun j => Int32.ofNat (48 + j % 10))) (D10_ : Dg Z d10 100 (fun j => Int32.ofNat (48 + j / 10))) (SFm : Sta Z Z.heap "jdk/internal/util/Preconditions" "SIOOBE_FORMATTER" "Ljava/util/function/BiFunction;" fm) (rfm : fm.isRef = true) :
    Con l Z consts_1 false x code maxLocals ret tables_1 room_1 #[(.int fl), (.int port), (.int db)] [] h0 (fun v h => v = some (.int 1)) := by
  refine Con.intro (Ls := #[.val (.int fl), .val (.int port), .val (.int db), .unset, .unset, .unset, .unset, .unset, .unset, .unset, .unset, .unset, .unset, .unset, .unset, .unset, .unset]) (plainFor_of_name pn9) (own_EL hw) O0 (fun m => by first | (simp [entryFrame, mkF, argsToLocals, Value.category, maxLocals]; done) | rfl) (fun p e s m below meth cc_ T w sf_ => ?_)
  have E0 := ext_refl h0
  obtain ⟨z_, hz_, SC_⟩ := id hcm
  refine g_iloadN w at_0 (q := 1) rfl rfl ?_
  refine g_iconst w at_1 (q := 2) rfl (v := (3 : Int32)) (by decide) ?_
  refine g_iand w at_2 (q := 3) rfl ?_
  refine g_istoreN w at_3 (q := 4) rfl (Ls' := #[.val (.int fl), .val (.int port), .val (.int db), .val (.int (fl &&& (3 : Int32))), .unset, .unset, .unset, .unset, .unset, .unset, .unset, .unset, .unset, .unset, .unset, .unset, .unset]) rfl ?_
  refine g_iloadN w at_4 (q := 5) rfl rfl ?_
  refine g_iconst w at_5 (q := 6) rfl (v := (2 : Int32)) (by decide) ?_
  refine g_iushr w at_6 (q := 7) rfl ?_
  refine g_sipush w at_7 (q := 10) rfl (v := (255 : Int32)) (by decide) ?_
  refine g_iand w at_10 (q := 11) rfl ?_
  refine g_i2cM w at_11 (q := 12) rfl ?_
  refine g_istore w at_12 (q := 14) rfl (Ls' := #[.val (.int fl), .val (.int port), .val (.int db), .val (.int (fl &&& (3 : Int32))), .val (.int ((Jvm.Free.XT.ushr fl (2 : Int32)) &&& (255 : Int32))), .unset, .unset, .unset, .unset, .unset, .unset, .unset, .unset, .unset, .unset, .unset, .unset]) rfl ?_
  refine g_iloadN w at_14 (q := 15) rfl rfl ?_
  refine g_bipush w at_15 (q := 17) rfl (v := (10 : Int32)) (by decide) ?_
  refine g_iushr w at_17 (q := 18) rfl ?_
  refine g_sipush w at_18 (q := 21) rfl (v := (255 : Int32)) (by decide) ?_
  refine g_iand w at_21 (q := 22) rfl ?_
  refine g_i2cM w at_22 (q := 23) rfl ?_
  refine g_istore w at_23 (q := 25) rfl (Ls' := #[.val (.int fl), .val (.int port), .val (.int db), .val (.int (fl &&& (3 : Int32))), .val (.int ((Jvm.Free.XT.ushr fl (2 : Int32)) &&& (255 : Int32))), .val (.int ((Jvm.Free.XT.ushr fl (10 : Int32)) &&& (255 : Int32))), .unset, .unset, .unset, .unset, .unset, .unset, .unset, .unset, .unset, .unset, .unset]) rfl ?_
  refine g_iloadN w at_25 (q := 26) rfl rfl ?_
  refine g_bipush w at_26 (q := 28) rfl (v := (18 : Int32)) (by decide) ?_
  refine g_iushr w at_28 (q := 29) rfl ?_
  refine g_sipush w at_29 (q := 32) rfl (v := (255 : Int32)) (by decide) ?_
  refine g_iand w at_32 (q := 33) rfl ?_
  refine g_i2cM w at_33 (q := 34) rfl ?_
  refine g_istore w at_34 (q := 36) rfl (Ls' := #[.val (.int fl), .val (.int port), .val (.int db), .val (.int (fl &&& (3 : Int32))), .val (.int ((Jvm.Free.XT.ushr fl (2 : Int32)) &&& (255 : Int32))), .val (.int ((Jvm.Free.XT.ushr fl (10 : Int32)) &&& (255 : Int32))), .val (.int ((Jvm.Free.XT.ushr fl (18 : Int32)) &&& (255 : Int32))), .unset, .unset, .unset, .unset, .unset, .unset, .unset, .unset, .unset, .unset]) rfl ?_
  have JH : ∀ (x7 x8 : Addr) (hs : List Int32) (T : State) (vm : Vm) (h : Heap), Sg Z h x8 hs → hs = sg3 (fl &&& (3 : Int32)) ((Jvm.Free.XT.ushr fl (2 : Int32)) &&& (255 : Int32)) ((Jvm.Free.XT.ushr fl (10 : Int32)) &&& (255 : Int32)) ((Jvm.Free.XT.ushr fl (18 : Int32)) &&& (255 : Int32)) → Ext h0 h → Wk p l e room_1 s m #[(.int fl), (.int port), (.int db)] below meth cc_ Z a0 consts_1 false x code maxLocals ret T vm h 8 40 → Go p e below (Fini Z consts_1 false room_1.cells room_1.slots (fun v h => v = some (.int 1)) s) (State.setTop T (mkF m 120 #[.val (.int fl), .val (.int port), .val (.int db), .val (.int (fl &&& (3 : Int32))), .val (.int ((Jvm.Free.XT.ushr fl (2 : Int32)) &&& (255 : Int32))), .val (.int ((Jvm.Free.XT.ushr fl (10 : Int32)) &&& (255 : Int32))), .val (.int ((Jvm.Free.XT.ushr fl (18 : Int32)) &&& (255 : Int32))), .val (.ref x7), .val (.ref x8), .unset, .unset, .unset, .unset, .unset, .unset, .unset, .unset] [])) := by
    intro x7 x8 hs T vm h S_x8 hh E0 w
    have hn4 : In4 (fl &&& (3 : Int32)) := mask3 fl
    have hhl : hs.length ≤ 3 := by rw [hh]; exact sg3_len
    have hN : (fl &&& (3 : Int32)) = Int32.ofNat hs.length := by rw [hh]; exact sg3_n hn4
    have hN2 : (fl &&& (3 : Int32)) + 2 = Int32.ofNat (hs.length + 2) := by rw [hN]; exact oN_a2 _
    have hN8 : 8 + (fl &&& (3 : Int32)) = Int32.ofNat (8 + hs.length) := by rw [hN]; exact oN_8 _
    have hN9 : 9 + (fl &&& (3 : Int32)) = Int32.ofNat (9 + hs.length) := by rw [hN]; exact oN_9 _
    have l1_ := dec_le port
    have l2_ := dec_le db
    have J163 : ∀ (f9 : Int32), ((f9 = 1 ∧ ¬ fix 58 hs 0 < 0) ∨ (f9 = 0 ∧ fix 58 hs 0 < 0)) → Go p e below (Fini Z consts_1 false room_1.cells room_1.slots (fun v h => v = some (.int 1)) s) (State.setTop T (mkF m 163 #[.val (.int fl), .val (.int port), .val (.int db), .val (.int (fl &&& (3 : Int32))), .val (.int ((Jvm.Free.XT.ushr fl (2 : Int32)) &&& (255 : Int32))), .val (.int ((Jvm.Free.XT.ushr fl (10 : Int32)) &&& (255 : Int32))), .val (.int ((Jvm.Free.XT.ushr fl (18 : Int32)) &&& (255 : Int32))), .val (.ref x7), .val (.ref x8), .val (.int f9), .unset, .unset, .unset, .unset, .unset, .unset, .unset] [])) := by
      intro f9 hj163_0
      rcases hj163_0 with ⟨rfl, hfx⟩ | ⟨rfl, hfx⟩
      · have hpl := hp_yes hfx
        refine g_new w at_163 (q := 166) rfl (Hw hw 22 rfl) (Hw hw 23 rfl) (Hw hw 24 rfl) (by decide) (by decide) (fun T h a1 w E g_a1 n_a1 X_a1 D_a1 s_a1 => ?_)
        have z_a1 := Nat.le_trans E0.1 g_a1
        have ne_x8_a1 : x8 ≠ a1 := Nat.ne_of_lt (Nat.lt_of_lt_of_le S_x8.lt g_a1)
        replace E0 := ext_trans E0 E
        replace S_x8 := S_x8.ext E
        have F_host_a1 := D_a1 (Or.inr (Hw hw 35 rfl)) (ty := (.object "java/lang/String")) (by decide)
        replace F_host_a1 : Fld Z h a1 "com/example/devizes/devizes/redis/RedisAddress" "host" "Ljava/lang/String;" .null := F_host_a1
        have F_port_a1 := D_a1 (Or.inr (Hw hw 37 rfl)) (ty := .int) (by decide)
        replace F_port_a1 : Fld Z h a1 "com/example/devizes/devizes/redis/RedisAddress" "port" "I" (.int (0 : Int32)) := F_port_a1
        have F_database_a1 := D_a1 (Or.inr (Hw hw 39 rfl)) (ty := .int) (by decide)
        replace F_database_a1 : Fld Z h a1 "com/example/devizes/devizes/redis/RedisAddress" "database" "I" (.int (0 : Int32)) := F_database_a1
        refine g_dup w at_166 (q := 167) rfl rfl ?_
        refine g_aload w at_167 (q := 169) rfl rfl rfl ?_
        refine g_iloadN w at_169 (q := 170) rfl rfl ?_
        refine g_iloadN w at_170 (q := 171) rfl rfl ?_
        refine g_special w (con_rai l Z a0 hw a1 x8 port db _ w.old X_a1 F_host_a1 F_port_a1 F_database_a1 n_a1) no0 at_171 (q := 174) rfl rfl rfl (Hw hw 25 rfl) (Hw hw 26 rfl) (Hw hw 24 rfl) (Hw hw 27 rfl) (by decide) pd31 rfl rfl (W := 1) (Nat.le_of_eq rfl) (by decide) (by decide) (by decide) (by decide) (fun T h v w gs C q => ?_)
        obtain ⟨rfl, K, G_host, G_port, G_database⟩ := q
        replace E0 := ext_keep E0 K z_a1
        have X0 := X_a1
        replace S_x8 := S_x8.keepO K ne_x8_a1 X0 (Hw hw 23 rfl)
        replace X_a1 := X_a1.keep K
        replace F_host_a1 := G_host
        replace F_port_a1 := G_port
        replace F_database_a1 := G_database
        show Go p e below _ (State.setTop T (mkF m 174 #[.val (.int fl), .val (.int port), .val (.int db), .val (.int (fl &&& (3 : Int32))), .val (.int ((Jvm.Free.XT.ushr fl (2 : Int32)) &&& (255 : Int32))), .val (.int ((Jvm.Free.XT.ushr fl (10 : Int32)) &&& (255 : Int32))), .val (.int ((Jvm.Free.XT.ushr fl (18 : Int32)) &&& (255 : Int32))), .val (.ref x7), .val (.ref x8), .val (.int (1 : Int32)), .unset, .unset, .unset, .unset, .unset, .unset, .unset] [(.ref a1)]))
        refine g_virtual w (con_rts l Z a0 hw a1 x8 d1 d10 port db hs _ w.old F_host_a1 F_port_a1 F_database_a1 S_x8 hhl hcm SO_ SX_ D1_ D10_) no0 X_a1 at_174 (q := 177) rfl rfl (Hw hw 40 rfl) (Hw hw 41 rfl) (Hw hw 43 rfl) (Hw hw 42 rfl) (Hw hw 24 rfl) (Hw hw 44 rfl) (by decide) (nf (Hw hw 43 rfl)) pd22 rfl rfl (W := 0) (Nat.le_of_eq rfl) (by decide) (by decide) (by decide) (by decide) (fun T h v w gs C q => ?_)
        obtain ⟨r2, rfl, E, g_r2, S_r2⟩ := q
        have z_r2 := Nat.le_trans E0.1 g_r2
        have ne_a1_r2 : a1 ≠ r2 := Nat.ne_of_lt (Nat.lt_of_lt_of_le X_a1.lt g_r2)
        have ne_x8_r2 : x8 ≠ r2 := Nat.ne_of_lt (Nat.lt_of_lt_of_le S_x8.lt g_r2)
        replace E0 := ext_trans E0 E
        replace S_x8 := S_x8.ext E
        replace X_a1 := X_a1.ext E
        replace F_host_a1 := F_host_a1.ext E
        replace F_port_a1 := F_port_a1.ext E
        replace F_database_a1 := F_database_a1.ext E
        show Go p e below _ (State.setTop T (mkF m 177 #[.val (.int fl), .val (.int port), .val (.int db), .val (.int (fl &&& (3 : Int32))), .val (.int ((Jvm.Free.XT.ushr fl (2 : Int32)) &&& (255 : Int32))), .val (.int ((Jvm.Free.XT.ushr fl (10 : Int32)) &&& (255 : Int32))), .val (.int ((Jvm.Free.XT.ushr fl (18 : Int32)) &&& (255 : Int32))), .val (.ref x7), .val (.ref x8), .val (.int (1 : Int32)), .unset, .unset, .unset, .unset, .unset, .unset, .unset] [(.ref r2)]))
        refine g_astore w at_177 (q := 179) rfl rfl (Ls' := #[.val (.int fl), .val (.int port), .val (.int db), .val (.int (fl &&& (3 : Int32))), .val (.int ((Jvm.Free.XT.ushr fl (2 : Int32)) &&& (255 : Int32))), .val (.int ((Jvm.Free.XT.ushr fl (10 : Int32)) &&& (255 : Int32))), .val (.int ((Jvm.Free.XT.ushr fl (18 : Int32)) &&& (255 : Int32))), .val (.ref x7), .val (.ref x8), .val (.int (1 : Int32)), .val (.ref r2), .unset, .unset, .unset, .unset, .unset, .unset]) rfl ?_
        refine g_iload w at_179 (q := 181) rfl rfl ?_
        refine g_ifN w at_181 (q := 184) rfl (by decide) ?_
        refine g_iloadN w at_184 (q := 185) rfl rfl ?_
        refine g_iconst w at_185 (q := 186) rfl (v := (2 : Int32)) (by decide) ?_
        refine g_iadd w at_186 (q := 187) rfl ?_
        rw [hN2]
        show Go p e below _ (State.setTop T (mkF m 187 #[.val (.int fl), .val (.int port), .val (.int db), .val (.int (fl &&& (3 : Int32))), .val (.int ((Jvm.Free.XT.ushr fl (2 : Int32)) &&& (255 : Int32))), .val (.int ((Jvm.Free.XT.ushr fl (10 : Int32)) &&& (255 : Int32))), .val (.int ((Jvm.Free.XT.ushr fl (18 : Int32)) &&& (255 : Int32))), .val (.ref x7), .val (.ref x8), .val (.int (1 : Int32)), .val (.ref r2), .unset, .unset, .unset, .unset, .unset, .unset] [(.int (Int32.ofNat (hs.length + 2)))]))
        refine g_goto w at_187 (by decide) (q := 191) (by decide) ?_
        refine g_istore w at_191 (q := 193) rfl (Ls' := #[.val (.int fl), .val (.int port), .val (.int db), .val (.int (fl &&& (3 : Int32))), .val (.int ((Jvm.Free.XT.ushr fl (2 : Int32)) &&& (255 : Int32))), .val (.int ((Jvm.Free.XT.ushr fl (10 : Int32)) &&& (255 : Int32))), .val (.int ((Jvm.Free.XT.ushr fl (18 : Int32)) &&& (255 : Int32))), .val (.ref x7), .val (.ref x8), .val (.int (1 : Int32)), .val (.ref r2), .val (.int (Int32.ofNat (hs.length + 2))), .unset, .unset, .unset, .unset, .unset]) rfl ?_
        refine g_iloadN w at_193 (q := 194) rfl rfl ?_
        refine g_staticP w (con_dlen l Z a0 hw port _ w.old) no0 at_194 (q := 197) rfl rfl (Hw hw 205 rfl) (Hw hw 206 rfl) (Hw hw 207 rfl) (Hw hw 208 rfl) (by decide) pd7 rfl rfl (W := 0) (Nat.le_of_eq rfl) (by decide) (by decide) (by decide) (by decide) (fun T v w C q => ?_)
        obtain rfl := q
        show Go p e below _ (State.setTop T (mkF m 197 #[.val (.int fl), .val (.int port), .val (.int db), .val (.int (fl &&& (3 : Int32))), .val (.int ((Jvm.Free.XT.ushr fl (2 : Int32)) &&& (255 : Int32))), .val (.int ((Jvm.Free.XT.ushr fl (10 : Int32)) &&& (255 : Int32))), .val (.int ((Jvm.Free.XT.ushr fl (18 : Int32)) &&& (255 : Int32))), .val (.ref x7), .val (.ref x8), .val (.int (1 : Int32)), .val (.ref r2), .val (.int (Int32.ofNat (hs.length + 2))), .unset, .unset, .unset, .unset, .unset] [(.int (Int32.ofNat (dec port).length))]))
        refine g_istore w at_197 (q := 199) rfl (Ls' := #[.val (.int fl), .val (.int port), .val (.int db), .val (.int (fl &&& (3 : Int32))), .val (.int ((Jvm.Free.XT.ushr fl (2 : Int32)) &&& (255 : Int32))), .val (.int ((Jvm.Free.XT.ushr fl (10 : Int32)) &&& (255 : Int32))), .val (.int ((Jvm.Free.XT.ushr fl (18 : Int32)) &&& (255 : Int32))), .val (.ref x7), .val (.ref x8), .val (.int (1 : Int32)), .val (.ref r2), .val (.int (Int32.ofNat (hs.length + 2))), .val (.int (Int32.ofNat (dec port).length)), .unset, .unset, .unset, .unset]) rfl ?_
        refine g_iloadN w at_199 (q := 200) rfl rfl ?_
        refine g_staticP w (con_dlen l Z a0 hw db _ w.old) no0 at_200 (q := 203) rfl rfl (Hw hw 205 rfl) (Hw hw 206 rfl) (Hw hw 207 rfl) (Hw hw 208 rfl) (by decide) pd7 rfl rfl (W := 0) (Nat.le_of_eq rfl) (by decide) (by decide) (by decide) (by decide) (fun T v w C q => ?_)
        obtain rfl := q
        show Go p e below _ (State.setTop T (mkF m 203 #[.val (.int fl), .val (.int port), .val (.int db), .val (.int (fl &&& (3 : Int32))), .val (.int ((Jvm.Free.XT.ushr fl (2 : Int32)) &&& (255 : Int32))), .val (.int ((Jvm.Free.XT.ushr fl (10 : Int32)) &&& (255 : Int32))), .val (.int ((Jvm.Free.XT.ushr fl (18 : Int32)) &&& (255 : Int32))), .val (.ref x7), .val (.ref x8), .val (.int (1 : Int32)), .val (.ref r2), .val (.int (Int32.ofNat (hs.length + 2))), .val (.int (Int32.ofNat (dec port).length)), .unset, .unset, .unset, .unset] [(.int (Int32.ofNat (dec db).length))]))
        refine g_istore w at_203 (q := 205) rfl (Ls' := #[.val (.int fl), .val (.int port), .val (.int db), .val (.int (fl &&& (3 : Int32))), .val (.int ((Jvm.Free.XT.ushr fl (2 : Int32)) &&& (255 : Int32))), .val (.int ((Jvm.Free.XT.ushr fl (10 : Int32)) &&& (255 : Int32))), .val (.int ((Jvm.Free.XT.ushr fl (18 : Int32)) &&& (255 : Int32))), .val (.ref x7), .val (.ref x8), .val (.int (1 : Int32)), .val (.ref r2), .val (.int (Int32.ofNat (hs.length + 2))), .val (.int (Int32.ofNat (dec port).length)), .val (.int (Int32.ofNat (dec db).length)), .unset, .unset, .unset]) rfl ?_
        refine g_bipush w at_205 (q := 207) rfl (v := (8 : Int32)) (by decide) ?_
        refine g_iload w at_207 (q := 209) rfl rfl ?_
        refine g_iadd w at_209 (q := 210) rfl ?_
        rw [oN_8]
        show Go p e below _ (State.setTop T (mkF m 210 #[.val (.int fl), .val (.int port), .val (.int db), .val (.int (fl &&& (3 : Int32))), .val (.int ((Jvm.Free.XT.ushr fl (2 : Int32)) &&& (255 : Int32))), .val (.int ((Jvm.Free.XT.ushr fl (10 : Int32)) &&& (255 : Int32))), .val (.int ((Jvm.Free.XT.ushr fl (18 : Int32)) &&& (255 : Int32))), .val (.ref x7), .val (.ref x8), .val (.int (1 : Int32)), .val (.ref r2), .val (.int (Int32.ofNat (hs.length + 2))), .val (.int (Int32.ofNat (dec port).length)), .val (.int (Int32.ofNat (dec db).length)), .unset, .unset, .unset] [(.int (Int32.ofNat (8 + (hs.length + 2))))]))
        refine g_istore w at_210 (q := 212) rfl (Ls' := #[.val (.int fl), .val (.int port), .val (.int db), .val (.int (fl &&& (3 : Int32))), .val (.int ((Jvm.Free.XT.ushr fl (2 : Int32)) &&& (255 : Int32))), .val (.int ((Jvm.Free.XT.ushr fl (10 : Int32)) &&& (255 : Int32))), .val (.int ((Jvm.Free.XT.ushr fl (18 : Int32)) &&& (255 : Int32))), .val (.ref x7), .val (.ref x8), .val (.int (1 : Int32)), .val (.ref r2), .val (.int (Int32.ofNat (hs.length + 2))), .val (.int (Int32.ofNat (dec port).length)), .val (.int (Int32.ofNat (dec db).length)), .val (.int (Int32.ofNat (8 + (hs.length + 2)))), .unset, .unset]) rfl ?_
        refine g_aload w at_212 (q := 214) rfl rfl rfl ?_
        refine g_virtualB w (a := r2) (argsL := []) (own_lenB hw S_r2 (w.sta SC_) hz_ (by decide) (by decide)) S_r2.exa at_214 (q := 217) rfl rfl (Hw hw 213 rfl) (Hw hw 75 rfl) (Hw hw 77 rfl) (Hw hw 76 rfl) (by decide) (nf (Hw hw 77 rfl)) pd9 rfl rfl (W := 0) (Nat.le_of_eq rfl) (by decide) (by decide) (fun T v w hq => ?_)
        obtain rfl := hq
        show Go p e below _ (State.setTop T (mkF m 217 #[.val (.int fl), .val (.int port), .val (.int db), .val (.int (fl &&& (3 : Int32))), .val (.int ((Jvm.Free.XT.ushr fl (2 : Int32)) &&& (255 : Int32))), .val (.int ((Jvm.Free.XT.ushr fl (10 : Int32)) &&& (255 : Int32))), .val (.int ((Jvm.Free.XT.ushr fl (18 : Int32)) &&& (255 : Int32))), .val (.ref x7), .val (.ref x8), .val (.int (1 : Int32)), .val (.ref r2), .val (.int (Int32.ofNat (hs.length + 2))), .val (.int (Int32.ofNat (dec port).length)), .val (.int (Int32.ofNat (dec db).length)), .val (.int (Int32.ofNat (8 + (hs.length + 2)))), .unset, .unset] [(.int (Int32.ofNat ((full hs port db)).length))]))
        refine g_iload w at_217 (q := 219) rfl rfl ?_
        refine g_iconst w at_219 (q := 220) rfl (v := (1 : Int32)) (by decide) ?_
        refine g_iadd w at_220 (q := 221) rfl ?_
        rw [oN_a1]
        show Go p e below _ (State.setTop T (mkF m 221 #[.val (.int fl), .val (.int port), .val (.int db), .val (.int (fl &&& (3 : Int32))), .val (.int ((Jvm.Free.XT.ushr fl (2 : Int32)) &&& (255 : Int32))), .val (.int ((Jvm.Free.XT.ushr fl (10 : Int32)) &&& (255 : Int32))), .val (.int ((Jvm.Free.XT.ushr fl (18 : Int32)) &&& (255 : Int32))), .val (.ref x7), .val (.ref x8), .val (.int (1 : Int32)), .val (.ref r2), .val (.int (Int32.ofNat (hs.length + 2))), .val (.int (Int32.ofNat (dec port).length)), .val (.int (Int32.ofNat (dec db).length)), .val (.int (Int32.ofNat (8 + (hs.length + 2)))), .unset, .unset] [(.int (Int32.ofNat (8 + (hs.length + 2) + 1))), (.int (Int32.ofNat ((full hs port db)).length))]))
        refine g_iload w at_221 (q := 223) rfl rfl ?_
        refine g_iadd w at_223 (q := 224) rfl ?_
        rw [oN_add]
        show Go p e below _ (State.setTop T (mkF m 224 #[.val (.int fl), .val (.int port), .val (.int db), .val (.int (fl &&& (3 : Int32))), .val (.int ((Jvm.Free.XT.ushr fl (2 : Int32)) &&& (255 : Int32))), .val (.int ((Jvm.Free.XT.ushr fl (10 : Int32)) &&& (255 : Int32))), .val (.int ((Jvm.Free.XT.ushr fl (18 : Int32)) &&& (255 : Int32))), .val (.ref x7), .val (.ref x8), .val (.int (1 : Int32)), .val (.ref r2), .val (.int (Int32.ofNat (hs.length + 2))), .val (.int (Int32.ofNat (dec port).length)), .val (.int (Int32.ofNat (dec db).length)), .val (.int (Int32.ofNat (8 + (hs.length + 2)))), .unset, .unset] [(.int (Int32.ofNat (8 + (hs.length + 2) + 1 + (dec port).length))), (.int (Int32.ofNat ((full hs port db)).length))]))
        refine g_iconst w at_224 (q := 225) rfl (v := (1 : Int32)) (by decide) ?_
        refine g_iadd w at_225 (q := 226) rfl ?_
        rw [oN_a1]
        show Go p e below _ (State.setTop T (mkF m 226 #[.val (.int fl), .val (.int port), .val (.int db), .val (.int (fl &&& (3 : Int32))), .val (.int ((Jvm.Free.XT.ushr fl (2 : Int32)) &&& (255 : Int32))), .val (.int ((Jvm.Free.XT.ushr fl (10 : Int32)) &&& (255 : Int32))), .val (.int ((Jvm.Free.XT.ushr fl (18 : Int32)) &&& (255 : Int32))), .val (.ref x7), .val (.ref x8), .val (.int (1 : Int32)), .val (.ref r2), .val (.int (Int32.ofNat (hs.length + 2))), .val (.int (Int32.ofNat (dec port).length)), .val (.int (Int32.ofNat (dec db).length)), .val (.int (Int32.ofNat (8 + (hs.length + 2)))), .unset, .unset] [(.int (Int32.ofNat (8 + (hs.length + 2) + 1 + (dec port).length + 1))), (.int (Int32.ofNat ((full hs port db)).length))]))
        refine g_iload w at_226 (q := 228) rfl rfl ?_
        refine g_iadd w at_228 (q := 229) rfl ?_
        rw [oN_add]
        show Go p e below _ (State.setTop T (mkF m 229 #[.val (.int fl), .val (.int port), .val (.int db), .val (.int (fl &&& (3 : Int32))), .val (.int ((Jvm.Free.XT.ushr fl (2 : Int32)) &&& (255 : Int32))), .val (.int ((Jvm.Free.XT.ushr fl (10 : Int32)) &&& (255 : Int32))), .val (.int ((Jvm.Free.XT.ushr fl (18 : Int32)) &&& (255 : Int32))), .val (.ref x7), .val (.ref x8), .val (.int (1 : Int32)), .val (.ref r2), .val (.int (Int32.ofNat (hs.length + 2))), .val (.int (Int32.ofNat (dec port).length)), .val (.int (Int32.ofNat (dec db).length)), .val (.int (Int32.ofNat (8 + (hs.length + 2)))), .unset, .unset] [(.int (Int32.ofNat (8 + (hs.length + 2) + 1 + (dec port).length + 1 + (dec db).length))), (.int (Int32.ofNat ((full hs port db)).length))]))
        refine g_icY w at_229 (by decide) (q := 234) (by decide) (Jvm.Free.XT.ii_eq_t (congrArg Int32.ofNat (by rw [full_len]; omega))) ?_
        refine g_aload w at_234 (q := 236) rfl rfl rfl ?_
        refine g_iconst w at_236 (q := 237) rfl (v := (0 : Int32)) (by decide) ?_
        refine g_virtualB w (a := r2) (argsL := [(.int (0 : Int32))]) (own_chB hw (i := 0) S_r2 (w.sta SC_) hz_ (w.sta SFm) rfm (by rw [full_len]; omega) rfl (by decide) (by decide)) S_r2.exa at_237 (q := 240) rfl rfl (Hw hw 214 rfl) (Hw hw 215 rfl) (Hw hw 217 rfl) (Hw hw 216 rfl) (by decide) (nf (Hw hw 217 rfl)) pd29 rfl rfl (W := 0) (Nat.le_of_eq rfl) (by decide) (by decide) (fun T v w hq => ?_)
        obtain rfl := hq
        show Go p e below _ (State.setTop T (mkF m 240 #[.val (.int fl), .val (.int port), .val (.int db), .val (.int (fl &&& (3 : Int32))), .val (.int ((Jvm.Free.XT.ushr fl (2 : Int32)) &&& (255 : Int32))), .val (.int ((Jvm.Free.XT.ushr fl (10 : Int32)) &&& (255 : Int32))), .val (.int ((Jvm.Free.XT.ushr fl (18 : Int32)) &&& (255 : Int32))), .val (.ref x7), .val (.ref x8), .val (.int (1 : Int32)), .val (.ref r2), .val (.int (Int32.ofNat (hs.length + 2))), .val (.int (Int32.ofNat (dec port).length)), .val (.int (Int32.ofNat (dec db).length)), .val (.int (Int32.ofNat (8 + (hs.length + 2)))), .unset, .unset] [(.int ((full hs port db).getD 0 0))]))
        refine g_bipush w at_240 (q := 242) rfl (v := (114 : Int32)) (by decide) ?_
        refine g_icN w at_242 (q := 245) rfl (Jvm.Free.XT.ii_ne_f rfl) ?_
        refine g_aload w at_245 (q := 247) rfl rfl rfl ?_
        refine g_iconst w at_247 (q := 248) rfl (v := (1 : Int32)) (by decide) ?_
        refine g_virtualB w (a := r2) (argsL := [(.int (1 : Int32))]) (own_chB hw (i := 1) S_r2 (w.sta SC_) hz_ (w.sta SFm) rfm (by rw [full_len]; omega) rfl (by decide) (by decide)) S_r2.exa at_248 (q := 251) rfl rfl (Hw hw 214 rfl) (Hw hw 215 rfl) (Hw hw 217 rfl) (Hw hw 216 rfl) (by decide) (nf (Hw hw 217 rfl)) pd29 rfl rfl (W := 0) (Nat.le_of_eq rfl) (by decide) (by decide) (fun T v w hq => ?_)
        obtain rfl := hq
        show Go p e below _ (State.setTop T (mkF m 251 #[.val (.int fl), .val (.int port), .val (.int db), .val (.int (fl &&& (3 : Int32))), .val (.int ((Jvm.Free.XT.ushr fl (2 : Int32)) &&& (255 : Int32))), .val (.int ((Jvm.Free.XT.ushr fl (10 : Int32)) &&& (255 : Int32))), .val (.int ((Jvm.Free.XT.ushr fl (18 : Int32)) &&& (255 : Int32))), .val (.ref x7), .val (.ref x8), .val (.int (1 : Int32)), .val (.ref r2), .val (.int (Int32.ofNat (hs.length + 2))), .val (.int (Int32.ofNat (dec port).length)), .val (.int (Int32.ofNat (dec db).length)), .val (.int (Int32.ofNat (8 + (hs.length + 2)))), .unset, .unset] [(.int ((full hs port db).getD 1 0))]))
        refine g_bipush w at_251 (q := 253) rfl (v := (101 : Int32)) (by decide) ?_
        refine g_icN w at_253 (q := 256) rfl (Jvm.Free.XT.ii_ne_f rfl) ?_
        refine g_aload w at_256 (q := 258) rfl rfl rfl ?_
        refine g_iconst w at_258 (q := 259) rfl (v := (2 : Int32)) (by decide) ?_
        refine g_virtualB w (a := r2) (argsL := [(.int (2 : Int32))]) (own_chB hw (i := 2) S_r2 (w.sta SC_) hz_ (w.sta SFm) rfm (by rw [full_len]; omega) rfl (by decide) (by decide)) S_r2.exa at_259 (q := 262) rfl rfl (Hw hw 214 rfl) (Hw hw 215 rfl) (Hw hw 217 rfl) (Hw hw 216 rfl) (by decide) (nf (Hw hw 217 rfl)) pd29 rfl rfl (W := 0) (Nat.le_of_eq rfl) (by decide) (by decide) (fun T v w hq => ?_)
        obtain rfl := hq
        show Go p e below _ (State.setTop T (mkF m 262 #[.val (.int fl), .val (.int port), .val (.int db), .val (.int (fl &&& (3 : Int32))), .val (.int ((Jvm.Free.XT.ushr fl (2 : Int32)) &&& (255 : Int32))), .val (.int ((Jvm.Free.XT.ushr fl (10 : Int32)) &&& (255 : Int32))), .val (.int ((Jvm.Free.XT.ushr fl (18 : Int32)) &&& (255 : Int32))), .val (.ref x7), .val (.ref x8), .val (.int (1 : Int32)), .val (.ref r2), .val (.int (Int32.ofNat (hs.length + 2))), .val (.int (Int32.ofNat (dec port).length)), .val (.int (Int32.ofNat (dec db).length)), .val (.int (Int32.ofNat (8 + (hs.length + 2)))), .unset, .unset] [(.int ((full hs port db).getD 2 0))]))
        refine g_bipush w at_262 (q := 264) rfl (v := (100 : Int32)) (by decide) ?_
        refine g_icN w at_264 (q := 267) rfl (Jvm.Free.XT.ii_ne_f rfl) ?_
        refine g_aload w at_267 (q := 269) rfl rfl rfl ?_
        refine g_iconst w at_269 (q := 270) rfl (v := (3 : Int32)) (by decide) ?_
        refine g_virtualB w (a := r2) (argsL := [(.int (3 : Int32))]) (own_chB hw (i := 3) S_r2 (w.sta SC_) hz_ (w.sta SFm) rfm (by rw [full_len]; omega) rfl (by decide) (by decide)) S_r2.exa at_270 (q := 273) rfl rfl (Hw hw 214 rfl) (Hw hw 215 rfl) (Hw hw 217 rfl) (Hw hw 216 rfl) (by decide) (nf (Hw hw 217 rfl)) pd29 rfl rfl (W := 0) (Nat.le_of_eq rfl) (by decide) (by decide) (fun T v w hq => ?_)
        obtain rfl := hq
        show Go p e below _ (State.setTop T (mkF m 273 #[.val (.int fl), .val (.int port), .val (.int db), .val (.int (fl &&& (3 : Int32))), .val (.int ((Jvm.Free.XT.ushr fl (2 : Int32)) &&& (255 : Int32))), .val (.int ((Jvm.Free.XT.ushr fl (10 : Int32)) &&& (255 : Int32))), .val (.int ((Jvm.Free.XT.ushr fl (18 : Int32)) &&& (255 : Int32))), .val (.ref x7), .val (.ref x8), .val (.int (1 : Int32)), .val (.ref r2), .val (.int (Int32.ofNat (hs.length + 2))), .val (.int (Int32.ofNat (dec port).length)), .val (.int (Int32.ofNat (dec db).length)), .val (.int (Int32.ofNat (8 + (hs.length + 2)))), .unset, .unset] [(.int ((full hs port db).getD 3 0))]))
        refine g_bipush w at_273 (q := 275) rfl (v := (105 : Int32)) (by decide) ?_
        refine g_icN w at_275 (q := 278) rfl (Jvm.Free.XT.ii_ne_f rfl) ?_
        refine g_aload w at_278 (q := 280) rfl rfl rfl ?_
        refine g_iconst w at_280 (q := 281) rfl (v := (4 : Int32)) (by decide) ?_
        refine g_virtualB w (a := r2) (argsL := [(.int (4 : Int32))]) (own_chB hw (i := 4) S_r2 (w.sta SC_) hz_ (w.sta SFm) rfm (by rw [full_len]; omega) rfl (by decide) (by decide)) S_r2.exa at_281 (q := 284) rfl rfl (Hw hw 214 rfl) (Hw hw 215 rfl) (Hw hw 217 rfl) (Hw hw 216 rfl) (by decide) (nf (Hw hw 217 rfl)) pd29 rfl rfl (W := 0) (Nat.le_of_eq rfl) (by decide) (by decide) (fun T v w hq => ?_)
        obtain rfl := hq
        show Go p e below _ (State.setTop T (mkF m 284 #[.val (.int fl), .val (.int port), .val (.int db), .val (.int (fl &&& (3 : Int32))), .val (.int ((Jvm.Free.XT.ushr fl (2 : Int32)) &&& (255 : Int32))), .val (.int ((Jvm.Free.XT.ushr fl (10 : Int32)) &&& (255 : Int32))), .val (.int ((Jvm.Free.XT.ushr fl (18 : Int32)) &&& (255 : Int32))), .val (.ref x7), .val (.ref x8), .val (.int (1 : Int32)), .val (.ref r2), .val (.int (Int32.ofNat (hs.length + 2))), .val (.int (Int32.ofNat (dec port).length)), .val (.int (Int32.ofNat (dec db).length)), .val (.int (Int32.ofNat (8 + (hs.length + 2)))), .unset, .unset] [(.int ((full hs port db).getD 4 0))]))
        refine g_bipush w at_284 (q := 286) rfl (v := (115 : Int32)) (by decide) ?_
        refine g_icN w at_286 (q := 289) rfl (Jvm.Free.XT.ii_ne_f rfl) ?_
        refine g_aload w at_289 (q := 291) rfl rfl rfl ?_
        refine g_iconst w at_291 (q := 292) rfl (v := (5 : Int32)) (by decide) ?_
        refine g_virtualB w (a := r2) (argsL := [(.int (5 : Int32))]) (own_chB hw (i := 5) S_r2 (w.sta SC_) hz_ (w.sta SFm) rfm (by rw [full_len]; omega) rfl (by decide) (by decide)) S_r2.exa at_292 (q := 295) rfl rfl (Hw hw 214 rfl) (Hw hw 215 rfl) (Hw hw 217 rfl) (Hw hw 216 rfl) (by decide) (nf (Hw hw 217 rfl)) pd29 rfl rfl (W := 0) (Nat.le_of_eq rfl) (by decide) (by decide) (fun T v w hq => ?_)
        obtain rfl := hq
        show Go p e below _ (State.setTop T (mkF m 295 #[.val (.int fl), .val (.int port), .val (.int db), .val (.int (fl &&& (3 : Int32))), .val (.int ((Jvm.Free.XT.ushr fl (2 : Int32)) &&& (255 : Int32))), .val (.int ((Jvm.Free.XT.ushr fl (10 : Int32)) &&& (255 : Int32))), .val (.int ((Jvm.Free.XT.ushr fl (18 : Int32)) &&& (255 : Int32))), .val (.ref x7), .val (.ref x8), .val (.int (1 : Int32)), .val (.ref r2), .val (.int (Int32.ofNat (hs.length + 2))), .val (.int (Int32.ofNat (dec port).length)), .val (.int (Int32.ofNat (dec db).length)), .val (.int (Int32.ofNat (8 + (hs.length + 2)))), .unset, .unset] [(.int ((full hs port db).getD 5 0))]))
        refine g_bipush w at_295 (q := 297) rfl (v := (58 : Int32)) (by decide) ?_
        refine g_icN w at_297 (q := 300) rfl (Jvm.Free.XT.ii_ne_f rfl) ?_
        refine g_aload w at_300 (q := 302) rfl rfl rfl ?_
        refine g_bipush w at_302 (q := 304) rfl (v := (6 : Int32)) (by decide) ?_
        refine g_virtualB w (a := r2) (argsL := [(.int (6 : Int32))]) (own_chB hw (i := 6) S_r2 (w.sta SC_) hz_ (w.sta SFm) rfm (by rw [full_len]; omega) rfl (by decide) (by decide)) S_r2.exa at_304 (q := 307) rfl rfl (Hw hw 214 rfl) (Hw hw 215 rfl) (Hw hw 217 rfl) (Hw hw 216 rfl) (by decide) (nf (Hw hw 217 rfl)) pd29 rfl rfl (W := 0) (Nat.le_of_eq rfl) (by decide) (by decide) (fun T v w hq => ?_)
        obtain rfl := hq
        show Go p e below _ (State.setTop T (mkF m 307 #[.val (.int fl), .val (.int port), .val (.int db), .val (.int (fl &&& (3 : Int32))), .val (.int ((Jvm.Free.XT.ushr fl (2 : Int32)) &&& (255 : Int32))), .val (.int ((Jvm.Free.XT.ushr fl (10 : Int32)) &&& (255 : Int32))), .val (.int ((Jvm.Free.XT.ushr fl (18 : Int32)) &&& (255 : Int32))), .val (.ref x7), .val (.ref x8), .val (.int (1 : Int32)), .val (.ref r2), .val (.int (Int32.ofNat (hs.length + 2))), .val (.int (Int32.ofNat (dec port).length)), .val (.int (Int32.ofNat (dec db).length)), .val (.int (Int32.ofNat (8 + (hs.length + 2)))), .unset, .unset] [(.int ((full hs port db).getD 6 0))]))
        refine g_bipush w at_307 (q := 309) rfl (v := (47 : Int32)) (by decide) ?_
        refine g_icN w at_309 (q := 312) rfl (Jvm.Free.XT.ii_ne_f rfl) ?_
        refine g_aload w at_312 (q := 314) rfl rfl rfl ?_
        refine g_bipush w at_314 (q := 316) rfl (v := (7 : Int32)) (by decide) ?_
        refine g_virtualB w (a := r2) (argsL := [(.int (7 : Int32))]) (own_chB hw (i := 7) S_r2 (w.sta SC_) hz_ (w.sta SFm) rfm (by rw [full_len]; omega) rfl (by decide) (by decide)) S_r2.exa at_316 (q := 319) rfl rfl (Hw hw 214 rfl) (Hw hw 215 rfl) (Hw hw 217 rfl) (Hw hw 216 rfl) (by decide) (nf (Hw hw 217 rfl)) pd29 rfl rfl (W := 0) (Nat.le_of_eq rfl) (by decide) (by decide) (fun T v w hq => ?_)
        obtain rfl := hq
        show Go p e below _ (State.setTop T (mkF m 319 #[.val (.int fl), .val (.int port), .val (.int db), .val (.int (fl &&& (3 : Int32))), .val (.int ((Jvm.Free.XT.ushr fl (2 : Int32)) &&& (255 : Int32))), .val (.int ((Jvm.Free.XT.ushr fl (10 : Int32)) &&& (255 : Int32))), .val (.int ((Jvm.Free.XT.ushr fl (18 : Int32)) &&& (255 : Int32))), .val (.ref x7), .val (.ref x8), .val (.int (1 : Int32)), .val (.ref r2), .val (.int (Int32.ofNat (hs.length + 2))), .val (.int (Int32.ofNat (dec port).length)), .val (.int (Int32.ofNat (dec db).length)), .val (.int (Int32.ofNat (8 + (hs.length + 2)))), .unset, .unset] [(.int ((full hs port db).getD 7 0))]))
        refine g_bipush w at_319 (q := 321) rfl (v := (47 : Int32)) (by decide) ?_
        refine g_icN w at_321 (q := 324) rfl (Jvm.Free.XT.ii_ne_f rfl) ?_
        refine g_iconst w at_324 (q := 325) rfl (v := (1 : Int32)) (by decide) ?_
        refine g_goto w at_325 (by decide) (q := 329) (by decide) ?_
        refine g_istore w at_329 (q := 331) rfl (Ls' := #[.val (.int fl), .val (.int port), .val (.int db), .val (.int (fl &&& (3 : Int32))), .val (.int ((Jvm.Free.XT.ushr fl (2 : Int32)) &&& (255 : Int32))), .val (.int ((Jvm.Free.XT.ushr fl (10 : Int32)) &&& (255 : Int32))), .val (.int ((Jvm.Free.XT.ushr fl (18 : Int32)) &&& (255 : Int32))), .val (.ref x7), .val (.ref x8), .val (.int (1 : Int32)), .val (.ref r2), .val (.int (Int32.ofNat (hs.length + 2))), .val (.int (Int32.ofNat (dec port).length)), .val (.int (Int32.ofNat (dec db).length)), .val (.int (Int32.ofNat (8 + (hs.length + 2)))), .val (.int (1 : Int32)), .unset]) rfl ?_
        refine g_iload w at_331 (q := 333) rfl rfl ?_
        refine g_ifN w at_333 (q := 336) rfl (by decide) ?_
        refine g_aload w at_336 (q := 338) rfl rfl rfl ?_
        refine g_bipush w at_338 (q := 340) rfl (v := (8 : Int32)) (by decide) ?_
        refine g_virtualB w (a := r2) (argsL := [(.int (8 : Int32))]) (own_chB hw (i := 8) S_r2 (w.sta SC_) hz_ (w.sta SFm) rfm (by rw [full_len]; omega) rfl (by decide) (by decide)) S_r2.exa at_340 (q := 343) rfl rfl (Hw hw 214 rfl) (Hw hw 215 rfl) (Hw hw 217 rfl) (Hw hw 216 rfl) (by decide) (nf (Hw hw 217 rfl)) pd29 rfl rfl (W := 0) (Nat.le_of_eq rfl) (by decide) (by decide) (fun T v w hq => ?_)
        obtain rfl := hq
        show Go p e below _ (State.setTop T (mkF m 343 #[.val (.int fl), .val (.int port), .val (.int db), .val (.int (fl &&& (3 : Int32))), .val (.int ((Jvm.Free.XT.ushr fl (2 : Int32)) &&& (255 : Int32))), .val (.int ((Jvm.Free.XT.ushr fl (10 : Int32)) &&& (255 : Int32))), .val (.int ((Jvm.Free.XT.ushr fl (18 : Int32)) &&& (255 : Int32))), .val (.ref x7), .val (.ref x8), .val (.int (1 : Int32)), .val (.ref r2), .val (.int (Int32.ofNat (hs.length + 2))), .val (.int (Int32.ofNat (dec port).length)), .val (.int (Int32.ofNat (dec db).length)), .val (.int (Int32.ofNat (8 + (hs.length + 2)))), .val (.int (1 : Int32)), .unset] [(.int ((full hs port db).getD 8 0))]))
        refine g_bipush w at_343 (q := 345) rfl (v := (91 : Int32)) (by decide) ?_
        refine g_icN w at_345 (q := 348) rfl (Jvm.Free.XT.ii_ne_f (f_open hfx)) ?_
        refine g_aload w at_348 (q := 350) rfl rfl rfl ?_
        refine g_bipush w at_350 (q := 352) rfl (v := (9 : Int32)) (by decide) ?_
        refine g_iloadN w at_352 (q := 353) rfl rfl ?_
        refine g_iload w at_353 (q := 355) rfl rfl ?_
        refine g_iload w at_355 (q := 357) rfl rfl ?_
        refine g_iload w at_357 (q := 359) rfl rfl ?_
        refine g_staticP w (con_host l Z a0 hw r2 fm 9 (fl &&& (3 : Int32)) ((Jvm.Free.XT.ushr fl (2 : Int32)) &&& (255 : Int32)) ((Jvm.Free.XT.ushr fl (10 : Int32)) &&& (255 : Int32)) ((Jvm.Free.XT.ushr fl (18 : Int32)) &&& (255 : Int32)) hs (full hs port db) _ w.old S_r2 hh hn4 (fun t ht => f_hostB hfx ht) (by rw [full_len]; omega) SFm rfm hcm) no0 at_359 (q := 362) rfl rfl (Hw hw 230 rfl) (Hw hw 231 rfl) (Hw hw 207 rfl) (Hw hw 232 rfl) (by decide) pd32 rfl rfl (W := 0) (Nat.le_of_eq rfl) (by decide) (by decide) (by decide) (by decide) (fun T v w C q => ?_)
        obtain rfl := q
        show Go p e below _ (State.setTop T (mkF m 362 #[.val (.int fl), .val (.int port), .val (.int db), .val (.int (fl &&& (3 : Int32))), .val (.int ((Jvm.Free.XT.ushr fl (2 : Int32)) &&& (255 : Int32))), .val (.int ((Jvm.Free.XT.ushr fl (10 : Int32)) &&& (255 : Int32))), .val (.int ((Jvm.Free.XT.ushr fl (18 : Int32)) &&& (255 : Int32))), .val (.ref x7), .val (.ref x8), .val (.int (1 : Int32)), .val (.ref r2), .val (.int (Int32.ofNat (hs.length + 2))), .val (.int (Int32.ofNat (dec port).length)), .val (.int (Int32.ofNat (dec db).length)), .val (.int (Int32.ofNat (8 + (hs.length + 2)))), .val (.int (1 : Int32)), .unset] [(.int (1 : Int32))]))
        refine g_ifN w at_362 (q := 365) rfl (by decide) ?_
        refine g_aload w at_365 (q := 367) rfl rfl rfl ?_
        refine g_bipush w at_367 (q := 369) rfl (v := (9 : Int32)) (by decide) ?_
        refine g_iloadN w at_369 (q := 370) rfl rfl ?_
        refine g_iadd w at_370 (q := 371) rfl ?_
        rw [hN9]
        show Go p e below _ (State.setTop T (mkF m 371 #[.val (.int fl), .val (.int port), .val (.int db), .val (.int (fl &&& (3 : Int32))), .val (.int ((Jvm.Free.XT.ushr fl (2 : Int32)) &&& (255 : Int32))), .val (.int ((Jvm.Free.XT.ushr fl (10 : Int32)) &&& (255 : Int32))), .val (.int ((Jvm.Free.XT.ushr fl (18 : Int32)) &&& (255 : Int32))), .val (.ref x7), .val (.ref x8), .val (.int (1 : Int32)), .val (.ref r2), .val (.int (Int32.ofNat (hs.length + 2))), .val (.int (Int32.ofNat (dec port).length)), .val (.int (Int32.ofNat (dec db).length)), .val (.int (Int32.ofNat (8 + (hs.length + 2)))), .val (.int (1 : Int32)), .unset] [(.int (Int32.ofNat (9 + hs.length))), (.ref r2)]))
        refine g_virtualB w (a := r2) (argsL := [(.int (Int32.ofNat (9 + hs.length)))]) (own_chB hw (i := (9 + hs.length)) S_r2 (w.sta SC_) hz_ (w.sta SFm) rfm (by rw [full_len]; omega) rfl (by decide) (by decide)) S_r2.exa at_371 (q := 374) rfl rfl (Hw hw 214 rfl) (Hw hw 215 rfl) (Hw hw 217 rfl) (Hw hw 216 rfl) (by decide) (nf (Hw hw 217 rfl)) pd29 rfl rfl (W := 0) (Nat.le_of_eq rfl) (by decide) (by decide) (fun T v w hq => ?_)
        obtain rfl := hq
        show Go p e below _ (State.setTop T (mkF m 374 #[.val (.int fl), .val (.int port), .val (.int db), .val (.int (fl &&& (3 : Int32))), .val (.int ((Jvm.Free.XT.ushr fl (2 : Int32)) &&& (255 : Int32))), .val (.int ((Jvm.Free.XT.ushr fl (10 : Int32)) &&& (255 : Int32))), .val (.int ((Jvm.Free.XT.ushr fl (18 : Int32)) &&& (255 : Int32))), .val (.ref x7), .val (.ref x8), .val (.int (1 : Int32)), .val (.ref r2), .val (.int (Int32.ofNat (hs.length + 2))), .val (.int (Int32.ofNat (dec port).length)), .val (.int (Int32.ofNat (dec db).length)), .val (.int (Int32.ofNat (8 + (hs.length + 2)))), .val (.int (1 : Int32)), .unset] [(.int ((full hs port db).getD (9 + hs.length) 0))]))
        refine g_bipush w at_374 (q := 376) rfl (v := (93 : Int32)) (by decide) ?_
        refine g_icN w at_376 (q := 379) rfl (Jvm.Free.XT.ii_ne_f (f_close hfx)) ?_
        refine g_iconst w at_379 (q := 380) rfl (v := (1 : Int32)) (by decide) ?_
        refine g_goto w at_380 (by decide) (q := 384) (by decide) ?_
        refine g_istore w at_384 (q := 386) rfl (Ls' := #[.val (.int fl), .val (.int port), .val (.int db), .val (.int (fl &&& (3 : Int32))), .val (.int ((Jvm.Free.XT.ushr fl (2 : Int32)) &&& (255 : Int32))), .val (.int ((Jvm.Free.XT.ushr fl (10 : Int32)) &&& (255 : Int32))), .val (.int ((Jvm.Free.XT.ushr fl (18 : Int32)) &&& (255 : Int32))), .val (.ref x7), .val (.ref x8), .val (.int (1 : Int32)), .val (.ref r2), .val (.int (Int32.ofNat (hs.length + 2))), .val (.int (Int32.ofNat (dec port).length)), .val (.int (Int32.ofNat (dec db).length)), .val (.int (Int32.ofNat (8 + (hs.length + 2)))), .val (.int (1 : Int32)), .val (.int (1 : Int32))]) rfl ?_
        refine g_goto w at_386 (by decide) (q := 405) (by decide) ?_
        refine g_iload w at_405 (q := 407) rfl rfl ?_
        refine g_ifN w at_407 (q := 410) rfl (by decide) ?_
        refine g_iload w at_410 (q := 412) rfl rfl ?_
        refine g_ifN w at_412 (q := 415) rfl (by decide) ?_
        refine g_aload w at_415 (q := 417) rfl rfl rfl ?_
        refine g_iload w at_417 (q := 419) rfl rfl ?_
        refine g_virtualB w (a := r2) (argsL := [(.int (Int32.ofNat (8 + (hs.length + 2))))]) (own_chB hw (i := (8 + (hs.length + 2))) S_r2 (w.sta SC_) hz_ (w.sta SFm) rfm (by rw [full_len]; omega) rfl (by decide) (by decide)) S_r2.exa at_419 (q := 422) rfl rfl (Hw hw 214 rfl) (Hw hw 215 rfl) (Hw hw 217 rfl) (Hw hw 216 rfl) (by decide) (nf (Hw hw 217 rfl)) pd29 rfl rfl (W := 0) (Nat.le_of_eq rfl) (by decide) (by decide) (fun T v w hq => ?_)
        obtain rfl := hq
        show Go p e below _ (State.setTop T (mkF m 422 #[.val (.int fl), .val (.int port), .val (.int db), .val (.int (fl &&& (3 : Int32))), .val (.int ((Jvm.Free.XT.ushr fl (2 : Int32)) &&& (255 : Int32))), .val (.int ((Jvm.Free.XT.ushr fl (10 : Int32)) &&& (255 : Int32))), .val (.int ((Jvm.Free.XT.ushr fl (18 : Int32)) &&& (255 : Int32))), .val (.ref x7), .val (.ref x8), .val (.int (1 : Int32)), .val (.ref r2), .val (.int (Int32.ofNat (hs.length + 2))), .val (.int (Int32.ofNat (dec port).length)), .val (.int (Int32.ofNat (dec db).length)), .val (.int (Int32.ofNat (8 + (hs.length + 2)))), .val (.int (1 : Int32)), .val (.int (1 : Int32))] [(.int ((full hs port db).getD (8 + (hs.length + 2)) 0))]))
        refine g_bipush w at_422 (q := 424) rfl (v := (58 : Int32)) (by decide) ?_
        refine g_icN w at_424 (q := 427) rfl (Jvm.Free.XT.ii_ne_f (f_colon (by omega))) ?_
        refine g_aload w at_427 (q := 429) rfl rfl rfl ?_
        refine g_iload w at_429 (q := 431) rfl rfl ?_
        refine g_iconst w at_431 (q := 432) rfl (v := (1 : Int32)) (by decide) ?_
        refine g_iadd w at_432 (q := 433) rfl ?_
        rw [oN_a1]
        show Go p e below _ (State.setTop T (mkF m 433 #[.val (.int fl), .val (.int port), .val (.int db), .val (.int (fl &&& (3 : Int32))), .val (.int ((Jvm.Free.XT.ushr fl (2 : Int32)) &&& (255 : Int32))), .val (.int ((Jvm.Free.XT.ushr fl (10 : Int32)) &&& (255 : Int32))), .val (.int ((Jvm.Free.XT.ushr fl (18 : Int32)) &&& (255 : Int32))), .val (.ref x7), .val (.ref x8), .val (.int (1 : Int32)), .val (.ref r2), .val (.int (Int32.ofNat (hs.length + 2))), .val (.int (Int32.ofNat (dec port).length)), .val (.int (Int32.ofNat (dec db).length)), .val (.int (Int32.ofNat (8 + (hs.length + 2)))), .val (.int (1 : Int32)), .val (.int (1 : Int32))] [(.int (Int32.ofNat (8 + (hs.length + 2) + 1))), (.ref r2)]))
        refine g_iloadN w at_433 (q := 434) rfl rfl ?_
        refine g_staticP w (con_das l Z a0 hw r2 fm (8 + (hs.length + 2) + 1) port (full hs port db) _ w.old S_r2 (fun t ht => f_port ht (by omega)) (by rw [full_len]; omega) (by omega) SFm rfm hcm) no0 at_434 (q := 437) rfl rfl (Hw hw 233 rfl) (Hw hw 234 rfl) (Hw hw 207 rfl) (Hw hw 235 rfl) (by decide) pd33 rfl rfl (W := 0) (Nat.le_of_eq rfl) (by decide) (by decide) (by decide) (by decide) (fun T v w C q => ?_)
        obtain rfl := q
        show Go p e below _ (State.setTop T (mkF m 437 #[.val (.int fl), .val (.int port), .val (.int db), .val (.int (fl &&& (3 : Int32))), .val (.int ((Jvm.Free.XT.ushr fl (2 : Int32)) &&& (255 : Int32))), .val (.int ((Jvm.Free.XT.ushr fl (10 : Int32)) &&& (255 : Int32))), .val (.int ((Jvm.Free.XT.ushr fl (18 : Int32)) &&& (255 : Int32))), .val (.ref x7), .val (.ref x8), .val (.int (1 : Int32)), .val (.ref r2), .val (.int (Int32.ofNat (hs.length + 2))), .val (.int (Int32.ofNat (dec port).length)), .val (.int (Int32.ofNat (dec db).length)), .val (.int (Int32.ofNat (8 + (hs.length + 2)))), .val (.int (1 : Int32)), .val (.int (1 : Int32))] [(.int (1 : Int32))]))
        refine g_ifN w at_437 (q := 440) rfl (by decide) ?_
        refine g_aload w at_440 (q := 442) rfl rfl rfl ?_
        refine g_iload w at_442 (q := 444) rfl rfl ?_
        refine g_iconst w at_444 (q := 445) rfl (v := (1 : Int32)) (by decide) ?_
        refine g_iadd w at_445 (q := 446) rfl ?_
        rw [oN_a1]
        show Go p e below _ (State.setTop T (mkF m 446 #[.val (.int fl), .val (.int port), .val (.int db), .val (.int (fl &&& (3 : Int32))), .val (.int ((Jvm.Free.XT.ushr fl (2 : Int32)) &&& (255 : Int32))), .val (.int ((Jvm.Free.XT.ushr fl (10 : Int32)) &&& (255 : Int32))), .val (.int ((Jvm.Free.XT.ushr fl (18 : Int32)) &&& (255 : Int32))), .val (.ref x7), .val (.ref x8), .val (.int (1 : Int32)), .val (.ref r2), .val (.int (Int32.ofNat (hs.length + 2))), .val (.int (Int32.ofNat (dec port).length)), .val (.int (Int32.ofNat (dec db).length)), .val (.int (Int32.ofNat (8 + (hs.length + 2)))), .val (.int (1 : Int32)), .val (.int (1 : Int32))] [(.int (Int32.ofNat (8 + (hs.length + 2) + 1))), (.ref r2)]))
        refine g_iload w at_446 (q := 448) rfl rfl ?_
        refine g_iadd w at_448 (q := 449) rfl ?_
        rw [oN_add]
        show Go p e below _ (State.setTop T (mkF m 449 #[.val (.int fl), .val (.int port), .val (.int db), .val (.int (fl &&& (3 : Int32))), .val (.int ((Jvm.Free.XT.ushr fl (2 : Int32)) &&& (255 : Int32))), .val (.int ((Jvm.Free.XT.ushr fl (10 : Int32)) &&& (255 : Int32))), .val (.int ((Jvm.Free.XT.ushr fl (18 : Int32)) &&& (255 : Int32))), .val (.ref x7), .val (.ref x8), .val (.int (1 : Int32)), .val (.ref r2), .val (.int (Int32.ofNat (hs.length + 2))), .val (.int (Int32.ofNat (dec port).length)), .val (.int (Int32.ofNat (dec db).length)), .val (.int (Int32.ofNat (8 + (hs.length + 2)))), .val (.int (1 : Int32)), .val (.int (1 : Int32))] [(.int (Int32.ofNat (8 + (hs.length + 2) + 1 + (dec port).length))), (.ref r2)]))
        refine g_virtualB w (a := r2) (argsL := [(.int (Int32.ofNat (8 + (hs.length + 2) + 1 + (dec port).length)))]) (own_chB hw (i := (8 + (hs.length + 2) + 1 + (dec port).length)) S_r2 (w.sta SC_) hz_ (w.sta SFm) rfm (by rw [full_len]; omega) rfl (by decide) (by decide)) S_r2.exa at_449 (q := 452) rfl rfl (Hw hw 214 rfl) (Hw hw 215 rfl) (Hw hw 217 rfl) (Hw hw 216 rfl) (by decide) (nf (Hw hw 217 rfl)) pd29 rfl rfl (W := 0) (Nat.le_of_eq rfl) (by decide) (by decide) (fun T v w hq => ?_)
        obtain rfl := hq
        show Go p e below _ (State.setTop T (mkF m 452 #[.val (.int fl), .val (.int port), .val (.int db), .val (.int (fl &&& (3 : Int32))), .val (.int ((Jvm.Free.XT.ushr fl (2 : Int32)) &&& (255 : Int32))), .val (.int ((Jvm.Free.XT.ushr fl (10 : Int32)) &&& (255 : Int32))), .val (.int ((Jvm.Free.XT.ushr fl (18 : Int32)) &&& (255 : Int32))), .val (.ref x7), .val (.ref x8), .val (.int (1 : Int32)), .val (.ref r2), .val (.int (Int32.ofNat (hs.length + 2))), .val (.int (Int32.ofNat (dec port).length)), .val (.int (Int32.ofNat (dec db).length)), .val (.int (Int32.ofNat (8 + (hs.length + 2)))), .val (.int (1 : Int32)), .val (.int (1 : Int32))] [(.int ((full hs port db).getD (8 + (hs.length + 2) + 1 + (dec port).length) 0))]))
        refine g_bipush w at_452 (q := 454) rfl (v := (47 : Int32)) (by decide) ?_
        refine g_icN w at_454 (q := 457) rfl (Jvm.Free.XT.ii_ne_f (f_slash (by omega))) ?_
        refine g_aload w at_457 (q := 459) rfl rfl rfl ?_
        refine g_iload w at_459 (q := 461) rfl rfl ?_
        refine g_iconst w at_461 (q := 462) rfl (v := (2 : Int32)) (by decide) ?_
        refine g_iadd w at_462 (q := 463) rfl ?_
        rw [oN_a2]
        show Go p e below _ (State.setTop T (mkF m 463 #[.val (.int fl), .val (.int port), .val (.int db), .val (.int (fl &&& (3 : Int32))), .val (.int ((Jvm.Free.XT.ushr fl (2 : Int32)) &&& (255 : Int32))), .val (.int ((Jvm.Free.XT.ushr fl (10 : Int32)) &&& (255 : Int32))), .val (.int ((Jvm.Free.XT.ushr fl (18 : Int32)) &&& (255 : Int32))), .val (.ref x7), .val (.ref x8), .val (.int (1 : Int32)), .val (.ref r2), .val (.int (Int32.ofNat (hs.length + 2))), .val (.int (Int32.ofNat (dec port).length)), .val (.int (Int32.ofNat (dec db).length)), .val (.int (Int32.ofNat (8 + (hs.length + 2)))), .val (.int (1 : Int32)), .val (.int (1 : Int32))] [(.int (Int32.ofNat (8 + (hs.length + 2) + 2))), (.ref r2)]))
        refine g_iload w at_463 (q := 465) rfl rfl ?_
        refine g_iadd w at_465 (q := 466) rfl ?_
        rw [oN_add]
        show Go p e below _ (State.setTop T (mkF m 466 #[.val (.int fl), .val (.int port), .val (.int db), .val (.int (fl &&& (3 : Int32))), .val (.int ((Jvm.Free.XT.ushr fl (2 : Int32)) &&& (255 : Int32))), .val (.int ((Jvm.Free.XT.ushr fl (10 : Int32)) &&& (255 : Int32))), .val (.int ((Jvm.Free.XT.ushr fl (18 : Int32)) &&& (255 : Int32))), .val (.ref x7), .val (.ref x8), .val (.int (1 : Int32)), .val (.ref r2), .val (.int (Int32.ofNat (hs.length + 2))), .val (.int (Int32.ofNat (dec port).length)), .val (.int (Int32.ofNat (dec db).length)), .val (.int (Int32.ofNat (8 + (hs.length + 2)))), .val (.int (1 : Int32)), .val (.int (1 : Int32))] [(.int (Int32.ofNat (8 + (hs.length + 2) + 2 + (dec port).length))), (.ref r2)]))
        refine g_iloadN w at_466 (q := 467) rfl rfl ?_
        refine g_staticP w (con_das l Z a0 hw r2 fm (8 + (hs.length + 2) + 2 + (dec port).length) db (full hs port db) _ w.old S_r2 (fun t ht => f_db ht (by omega)) (by rw [full_len]; omega) (by omega) SFm rfm hcm) no0 at_467 (q := 470) rfl rfl (Hw hw 233 rfl) (Hw hw 234 rfl) (Hw hw 207 rfl) (Hw hw 235 rfl) (by decide) pd33 rfl rfl (W := 0) (Nat.le_of_eq rfl) (by decide) (by decide) (by decide) (by decide) (fun T v w C q => ?_)
        obtain rfl := q
        show Go p e below _ (State.setTop T (mkF m 470 #[.val (.int fl), .val (.int port), .val (.int db), .val (.int (fl &&& (3 : Int32))), .val (.int ((Jvm.Free.XT.ushr fl (2 : Int32)) &&& (255 : Int32))), .val (.int ((Jvm.Free.XT.ushr fl (10 : Int32)) &&& (255 : Int32))), .val (.int ((Jvm.Free.XT.ushr fl (18 : Int32)) &&& (255 : Int32))), .val (.ref x7), .val (.ref x8), .val (.int (1 : Int32)), .val (.ref r2), .val (.int (Int32.ofNat (hs.length + 2))), .val (.int (Int32.ofNat (dec port).length)), .val (.int (Int32.ofNat (dec db).length)), .val (.int (Int32.ofNat (8 + (hs.length + 2)))), .val (.int (1 : Int32)), .val (.int (1 : Int32))] [(.int (1 : Int32))]))
        refine g_ifN w at_470 (q := 473) rfl (by decide) ?_
        refine g_iconst w at_473 (q := 474) rfl (v := (1 : Int32)) (by decide) ?_
        refine g_goto w at_474 (by decide) (q := 478) (by decide) ?_
        exact g_retn w at_478 rfl (by simp) rfl (by decide) (by decide) rfl
      · have hpl := hp_no hfx
        refine g_new w at_163 (q := 166) rfl (Hw hw 22 rfl) (Hw hw 23 rfl) (Hw hw 24 rfl) (by decide) (by decide) (fun T h a10 w E g_a10 n_a10 X_a10 D_a10 s_a10 => ?_)
        have z_a10 := Nat.le_trans E0.1 g_a10
        have ne_x8_a10 : x8 ≠ a10 := Nat.ne_of_lt (Nat.lt_of_lt_of_le S_x8.lt g_a10)
        replace E0 := ext_trans E0 E
        replace S_x8 := S_x8.ext E
        have F_host_a10 := D_a10 (Or.inr (Hw hw 35 rfl)) (ty := (.object "java/lang/String")) (by decide)
        replace F_host_a10 : Fld Z h a10 "com/example/devizes/devizes/redis/RedisAddress" "host" "Ljava/lang/String;" .null := F_host_a10
        have F_port_a10 := D_a10 (Or.inr (Hw hw 37 rfl)) (ty := .int) (by decide)
        replace F_port_a10 : Fld Z h a10 "com/example/devizes/devizes/redis/RedisAddress" "port" "I" (.int (0 : Int32)) := F_port_a10
        have F_database_a10 := D_a10 (Or.inr (Hw hw 39 rfl)) (ty := .int) (by decide)
        replace F_database_a10 : Fld Z h a10 "com/example/devizes/devizes/redis/RedisAddress" "database" "I" (.int (0 : Int32)) := F_database_a10
        refine g_dup w at_166 (q := 167) rfl rfl ?_
        refine g_aload w at_167 (q := 169) rfl rfl rfl ?_
        refine g_iloadN w at_169 (q := 170) rfl rfl ?_
        refine g_iloadN w at_170 (q := 171) rfl rfl ?_
        refine g_special w (con_rai l Z a0 hw a10 x8 port db _ w.old X_a10 F_host_a10 F_port_a10 F_database_a10 n_a10) no0 at_171 (q := 174) rfl rfl rfl (Hw hw 25 rfl) (Hw hw 26 rfl) (Hw hw 24 rfl) (Hw hw 27 rfl) (by decide) pd31 rfl rfl (W := 1) (Nat.le_of_eq rfl) (by decide) (by decide) (by decide) (by decide) (fun T h v w gs C q => ?_)
        obtain ⟨rfl, K, G_host, G_port, G_database⟩ := q
        replace E0 := ext_keep E0 K z_a10
        have X0 := X_a10
        replace S_x8 := S_x8.keepO K ne_x8_a10 X0 (Hw hw 23 rfl)
        replace X_a10 := X_a10.keep K
        replace F_host_a10 := G_host
        replace F_port_a10 := G_port
        replace F_database_a10 := G_database
        show Go p e below _ (State.setTop T (mkF m 174 #[.val (.int fl), .val (.int port), .val (.int db), .val (.int (fl &&& (3 : Int32))), .val (.int ((Jvm.Free.XT.ushr fl (2 : Int32)) &&& (255 : Int32))), .val (.int ((Jvm.Free.XT.ushr fl (10 : Int32)) &&& (255 : Int32))), .val (.int ((Jvm.Free.XT.ushr fl (18 : Int32)) &&& (255 : Int32))), .val (.ref x7), .val (.ref x8), .val (.int (0 : Int32)), .unset, .unset, .unset, .unset, .unset, .unset, .unset] [(.ref a10)]))
        refine g_virtual w (con_rts l Z a0 hw a10 x8 d1 d10 port db hs _ w.old F_host_a10 F_port_a10 F_database_a10 S_x8 hhl hcm SO_ SX_ D1_ D10_) no0 X_a10 at_174 (q := 177) rfl rfl (Hw hw 40 rfl) (Hw hw 41 rfl) (Hw hw 43 rfl) (Hw hw 42 rfl) (Hw hw 24 rfl) (Hw hw 44 rfl) (by decide) (nf (Hw hw 43 rfl)) pd22 rfl rfl (W := 0) (Nat.le_of_eq rfl) (by decide) (by decide) (by decide) (by decide) (fun T h v w gs C q => ?_)
        obtain ⟨r11, rfl, E, g_r11, S_r11⟩ := q
        have z_r11 := Nat.le_trans E0.1 g_r11
        have ne_a10_r11 : a10 ≠ r11 := Nat.ne_of_lt (Nat.lt_of_lt_of_le X_a10.lt g_r11)
        have ne_x8_r11 : x8 ≠ r11 := Nat.ne_of_lt (Nat.lt_of_lt_of_le S_x8.lt g_r11)
        replace E0 := ext_trans E0 E
        replace S_x8 := S_x8.ext E
        replace X_a10 := X_a10.ext E
        replace F_host_a10 := F_host_a10.ext E
        replace F_port_a10 := F_port_a10.ext E
        replace F_database_a10 := F_database_a10.ext E
        show Go p e below _ (State.setTop T (mkF m 177 #[.val (.int fl), .val (.int port), .val (.int db), .val (.int (fl &&& (3 : Int32))), .val (.int ((Jvm.Free.XT.ushr fl (2 : Int32)) &&& (255 : Int32))), .val (.int ((Jvm.Free.XT.ushr fl (10 : Int32)) &&& (255 : Int32))), .val (.int ((Jvm.Free.XT.ushr fl (18 : Int32)) &&& (255 : Int32))), .val (.ref x7), .val (.ref x8), .val (.int (0 : Int32)), .unset, .unset, .unset, .unset, .unset, .unset, .unset] [(.ref r11)]))
        refine g_astore w at_177 (q := 179) rfl rfl (Ls' := #[.val (.int fl), .val (.int port), .val (.int db), .val (.int (fl &&& (3 : Int32))), .val (.int ((Jvm.Free.XT.ushr fl (2 : Int32)) &&& (255 : Int32))), .val (.int ((Jvm.Free.XT.ushr fl (10 : Int32)) &&& (255 : Int32))), .val (.int ((Jvm.Free.XT.ushr fl (18 : Int32)) &&& (255 : Int32))), .val (.ref x7), .val (.ref x8), .val (.int (0 : Int32)), .val (.ref r11), .unset, .unset, .unset, .unset, .unset, .unset]) rfl ?_
        refine g_iload w at_179 (q := 181) rfl rfl ?_
        refine g_ifY w at_181 (by decide) (q := 190) (by decide) (by decide) ?_
        refine g_iloadN w at_190 (q := 191) rfl rfl ?_
        refine g_istore w at_191 (q := 193) rfl (Ls' := #[.val (.int fl), .val (.int port), .val (.int db), .val (.int (fl &&& (3 : Int32))), .val (.int ((Jvm.Free.XT.ushr fl (2 : Int32)) &&& (255 : Int32))), .val (.int ((Jvm.Free.XT.ushr fl (10 : Int32)) &&& (255 : Int32))), .val (.int ((Jvm.Free.XT.ushr fl (18 : Int32)) &&& (255 : Int32))), .val (.ref x7), .val (.ref x8), .val (.int (0 : Int32)), .val (.ref r11), .val (.int (fl &&& (3 : Int32))), .unset, .unset, .unset, .unset, .unset]) rfl ?_
        refine g_iloadN w at_193 (q := 194) rfl rfl ?_
        refine g_staticP w (con_dlen l Z a0 hw port _ w.old) no0 at_194 (q := 197) rfl rfl (Hw hw 205 rfl) (Hw hw 206 rfl) (Hw hw 207 rfl) (Hw hw 208 rfl) (by decide) pd7 rfl rfl (W := 0) (Nat.le_of_eq rfl) (by decide) (by decide) (by decide) (by decide) (fun T v w C q => ?_)
        obtain rfl := q
        show Go p e below _ (State.setTop T (mkF m 197 #[.val (.int fl), .val (.int port), .val (.int db), .val (.int (fl &&& (3 : Int32))), .val (.int ((Jvm.Free.XT.ushr fl (2 : Int32)) &&& (255 : Int32))), .val (.int ((Jvm.Free.XT.ushr fl (10 : Int32)) &&& (255 : Int32))), .val (.int ((Jvm.Free.XT.ushr fl (18 : Int32)) &&& (255 : Int32))), .val (.ref x7), .val (.ref x8), .val (.int (0 : Int32)), .val (.ref r11), .val (.int (fl &&& (3 : Int32))), .unset, .unset, .unset, .unset, .unset] [(.int (Int32.ofNat (dec port).length))]))
        refine g_istore w at_197 (q := 199) rfl (Ls' := #[.val (.int fl), .val (.int port), .val (.int db), .val (.int (fl &&& (3 : Int32))), .val (.int ((Jvm.Free.XT.ushr fl (2 : Int32)) &&& (255 : Int32))), .val (.int ((Jvm.Free.XT.ushr fl (10 : Int32)) &&& (255 : Int32))), .val (.int ((Jvm.Free.XT.ushr fl (18 : Int32)) &&& (255 : Int32))), .val (.ref x7), .val (.ref x8), .val (.int (0 : Int32)), .val (.ref r11), .val (.int (fl &&& (3 : Int32))), .val (.int (Int32.ofNat (dec port).length)), .unset, .unset, .unset, .unset]) rfl ?_
        refine g_iloadN w at_199 (q := 200) rfl rfl ?_
        refine g_staticP w (con_dlen l Z a0 hw db _ w.old) no0 at_200 (q := 203) rfl rfl (Hw hw 205 rfl) (Hw hw 206 rfl) (Hw hw 207 rfl) (Hw hw 208 rfl) (by decide) pd7 rfl rfl (W := 0) (Nat.le_of_eq rfl) (by decide) (by decide) (by decide) (by decide) (fun T v w C q => ?_)
        obtain rfl := q
        show Go p e below _ (State.setTop T (mkF m 203 #[.val (.int fl), .val (.int port), .val (.int db), .val (.int (fl &&& (3 : Int32))), .val (.int ((Jvm.Free.XT.ushr fl (2 : Int32)) &&& (255 : Int32))), .val (.int ((Jvm.Free.XT.ushr fl (10 : Int32)) &&& (255 : Int32))), .val (.int ((Jvm.Free.XT.ushr fl (18 : Int32)) &&& (255 : Int32))), .val (.ref x7), .val (.ref x8), .val (.int (0 : Int32)), .val (.ref r11), .val (.int (fl &&& (3 : Int32))), .val (.int (Int32.ofNat (dec port).length)), .unset, .unset, .unset, .unset] [(.int (Int32.ofNat (dec db).length))]))
        refine g_istore w at_203 (q := 205) rfl (Ls' := #[.val (.int fl), .val (.int port), .val (.int db), .val (.int (fl &&& (3 : Int32))), .val (.int ((Jvm.Free.XT.ushr fl (2 : Int32)) &&& (255 : Int32))), .val (.int ((Jvm.Free.XT.ushr fl (10 : Int32)) &&& (255 : Int32))), .val (.int ((Jvm.Free.XT.ushr fl (18 : Int32)) &&& (255 : Int32))), .val (.ref x7), .val (.ref x8), .val (.int (0 : Int32)), .val (.ref r11), .val (.int (fl &&& (3 : Int32))), .val (.int (Int32.ofNat (dec port).length)), .val (.int (Int32.ofNat (dec db).length)), .unset, .unset, .unset]) rfl ?_
        refine g_bipush w at_205 (q := 207) rfl (v := (8 : Int32)) (by decide) ?_
        refine g_iload w at_207 (q := 209) rfl rfl ?_
        refine g_iadd w at_209 (q := 210) rfl ?_
        rw [hN8]
        show Go p e below _ (State.setTop T (mkF m 210 #[.val (.int fl), .val (.int port), .val (.int db), .val (.int (fl &&& (3 : Int32))), .val (.int ((Jvm.Free.XT.ushr fl (2 : Int32)) &&& (255 : Int32))), .val (.int ((Jvm.Free.XT.ushr fl (10 : Int32)) &&& (255 : Int32))), .val (.int ((Jvm.Free.XT.ushr fl (18 : Int32)) &&& (255 : Int32))), .val (.ref x7), .val (.ref x8), .val (.int (0 : Int32)), .val (.ref r11), .val (.int (fl &&& (3 : Int32))), .val (.int (Int32.ofNat (dec port).length)), .val (.int (Int32.ofNat (dec db).length)), .unset, .unset, .unset] [(.int (Int32.ofNat (8 + hs.length)))]))
        refine g_istore w at_210 (q := 212) rfl (Ls' := #[.val (.int fl), .val (.int port), .val (.int db), .val (.int (fl &&& (3 : Int32))), .val (.int ((Jvm.Free.XT.ushr fl (2 : Int32)) &&& (255 : Int32))), .val (.int ((Jvm.Free.XT.ushr fl (10 : Int32)) &&& (255 : Int32))), .val (.int ((Jvm.Free.XT.ushr fl (18 : Int32)) &&& (255 : Int32))), .val (.ref x7), .val (.ref x8), .val (.int (0 : Int32)), .val (.ref r11), .val (.int (fl &&& (3 : Int32))), .val (.int (Int32.ofNat (dec port).length)), .val (.int (Int32.ofNat (dec db).length)), .val (.int (Int32.ofNat (8 + hs.length))), .unset, .unset]) rfl ?_
        refine g_aload w at_212 (q := 214) rfl rfl rfl ?_
        refine g_virtualB w (a := r11) (argsL := []) (own_lenB hw S_r11 (w.sta SC_) hz_ (by decide) (by decide)) S_r11.exa at_214 (q := 217) rfl rfl (Hw hw 213 rfl) (Hw hw 75 rfl) (Hw hw 77 rfl) (Hw hw 76 rfl) (by decide) (nf (Hw hw 77 rfl)) pd9 rfl rfl (W := 0) (Nat.le_of_eq rfl) (by decide) (by decide) (fun T v w hq => ?_)
        obtain rfl := hq
        show Go p e below _ (State.setTop T (mkF m 217 #[.val (.int fl), .val (.int port), .val (.int db), .val (.int (fl &&& (3 : Int32))), .val (.int ((Jvm.Free.XT.ushr fl (2 : Int32)) &&& (255 : Int32))), .val (.int ((Jvm.Free.XT.ushr fl (10 : Int32)) &&& (255 : Int32))), .val (.int ((Jvm.Free.XT.ushr fl (18 : Int32)) &&& (255 : Int32))), .val (.ref x7), .val (.ref x8), .val (.int (0 : Int32)), .val (.ref r11), .val (.int (fl &&& (3 : Int32))), .val (.int (Int32.ofNat (dec port).length)), .val (.int (Int32.ofNat (dec db).length)), .val (.int (Int32.ofNat (8 + hs.length))), .unset, .unset] [(.int (Int32.ofNat ((full hs port db)).length))]))
        refine g_iload w at_217 (q := 219) rfl rfl ?_
        refine g_iconst w at_219 (q := 220) rfl (v := (1 : Int32)) (by decide) ?_
        refine g_iadd w at_220 (q := 221) rfl ?_
        rw [oN_a1]
        show Go p e below _ (State.setTop T (mkF m 221 #[.val (.int fl), .val (.int port), .val (.int db), .val (.int (fl &&& (3 : Int32))), .val (.int ((Jvm.Free.XT.ushr fl (2 : Int32)) &&& (255 : Int32))), .val (.int ((Jvm.Free.XT.ushr fl (10 : Int32)) &&& (255 : Int32))), .val (.int ((Jvm.Free.XT.ushr fl (18 : Int32)) &&& (255 : Int32))), .val (.ref x7), .val (.ref x8), .val (.int (0 : Int32)), .val (.ref r11), .val (.int (fl &&& (3 : Int32))), .val (.int (Int32.ofNat (dec port).length)), .val (.int (Int32.ofNat (dec db).length)), .val (.int (Int32.ofNat (8 + hs.length))), .unset, .unset] [(.int (Int32.ofNat (8 + hs.length + 1))), (.int (Int32.ofNat ((full hs port db)).length))]))
        refine g_iload w at_221 (q := 223) rfl rfl ?_
        refine g_iadd w at_223 (q := 224) rfl ?_
        rw [oN_add]
        show Go p e below _ (State.setTop T (mkF m 224 #[.val (.int fl), .val (.int port), .val (.int db), .val (.int (fl &&& (3 : Int32))), .val (.int ((Jvm.Free.XT.ushr fl (2 : Int32)) &&& (255 : Int32))), .val (.int ((Jvm.Free.XT.ushr fl (10 : Int32)) &&& (255 : Int32))), .val (.int ((Jvm.Free.XT.ushr fl (18 : Int32)) &&& (255 : Int32))), .val (.ref x7), .val (.ref x8), .val (.int (0 : Int32)), .val (.ref r11), .val (.int (fl &&& (3 : Int32))), .val (.int (Int32.ofNat (dec port).length)), .val (.int (Int32.ofNat (dec db).length)), .val (.int (Int32.ofNat (8 + hs.length))), .unset, .unset] [(.int (Int32.ofNat (8 + hs.length + 1 + (dec port).length))), (.int (Int32.ofNat ((full hs port db)).length))]))
        refine g_iconst w at_224 (q := 225) rfl (v := (1 : Int32)) (by decide) ?_
        refine g_iadd w at_225 (q := 226) rfl ?_
        rw [oN_a1]
        show Go p e below _ (State.setTop T (mkF m 226 #[.val (.int fl), .val (.int port), .val (.int db), .val (.int (fl &&& (3 : Int32))), .val (.int ((Jvm.Free.XT.ushr fl (2 : Int32)) &&& (255 : Int32))), .val (.int ((Jvm.Free.XT.ushr fl (10 : Int32)) &&& (255 : Int32))), .val (.int ((Jvm.Free.XT.ushr fl (18 : Int32)) &&& (255 : Int32))), .val (.ref x7), .val (.ref x8), .val (.int (0 : Int32)), .val (.ref r11), .val (.int (fl &&& (3 : Int32))), .val (.int (Int32.ofNat (dec port).length)), .val (.int (Int32.ofNat (dec db).length)), .val (.int (Int32.ofNat (8 + hs.length))), .unset, .unset] [(.int (Int32.ofNat (8 + hs.length + 1 + (dec port).length + 1))), (.int (Int32.ofNat ((full hs port db)).length))]))
        refine g_iload w at_226 (q := 228) rfl rfl ?_
        refine g_iadd w at_228 (q := 229) rfl ?_
        rw [oN_add]
        show Go p e below _ (State.setTop T (mkF m 229 #[.val (.int fl), .val (.int port), .val (.int db), .val (.int (fl &&& (3 : Int32))), .val (.int ((Jvm.Free.XT.ushr fl (2 : Int32)) &&& (255 : Int32))), .val (.int ((Jvm.Free.XT.ushr fl (10 : Int32)) &&& (255 : Int32))), .val (.int ((Jvm.Free.XT.ushr fl (18 : Int32)) &&& (255 : Int32))), .val (.ref x7), .val (.ref x8), .val (.int (0 : Int32)), .val (.ref r11), .val (.int (fl &&& (3 : Int32))), .val (.int (Int32.ofNat (dec port).length)), .val (.int (Int32.ofNat (dec db).length)), .val (.int (Int32.ofNat (8 + hs.length))), .unset, .unset] [(.int (Int32.ofNat (8 + hs.length + 1 + (dec port).length + 1 + (dec db).length))), (.int (Int32.ofNat ((full hs port db)).length))]))
        refine g_icY w at_229 (by decide) (q := 234) (by decide) (Jvm.Free.XT.ii_eq_t (congrArg Int32.ofNat (by rw [full_len]; omega))) ?_
        refine g_aload w at_234 (q := 236) rfl rfl rfl ?_
        refine g_iconst w at_236 (q := 237) rfl (v := (0 : Int32)) (by decide) ?_
        refine g_virtualB w (a := r11) (argsL := [(.int (0 : Int32))]) (own_chB hw (i := 0) S_r11 (w.sta SC_) hz_ (w.sta SFm) rfm (by rw [full_len]; omega) rfl (by decide) (by decide)) S_r11.exa at_237 (q := 240) rfl rfl (Hw hw 214 rfl) (Hw hw 215 rfl) (Hw hw 217 rfl) (Hw hw 216 rfl) (by decide) (nf (Hw hw 217 rfl)) pd29 rfl rfl (W := 0) (Nat.le_of_eq rfl) (by decide) (by decide) (fun T v w hq => ?_)
        obtain rfl := hq
        show Go p e below _ (State.setTop T (mkF m 240 #[.val (.int fl), .val (.int port), .val (.int db), .val (.int (fl &&& (3 : Int32))), .val (.int ((Jvm.Free.XT.ushr fl (2 : Int32)) &&& (255 : Int32))), .val (.int ((Jvm.Free.XT.ushr fl (10 : Int32)) &&& (255 : Int32))), .val (.int ((Jvm.Free.XT.ushr fl (18 : Int32)) &&& (255 : Int32))), .val (.ref x7), .val (.ref x8), .val (.int (0 : Int32)), .val (.ref r11), .val (.int (fl &&& (3 : Int32))), .val (.int (Int32.ofNat (dec port).length)), .val (.int (Int32.ofNat (dec db).length)), .val (.int (Int32.ofNat (8 + hs.length))), .unset, .unset] [(.int ((full hs port db).getD 0 0))]))
        refine g_bipush w at_240 (q := 242) rfl (v := (114 : Int32)) (by decide) ?_
        refine g_icN w at_242 (q := 245) rfl (Jvm.Free.XT.ii_ne_f rfl) ?_
        refine g_aload w at_245 (q := 247) rfl rfl rfl ?_
        refine g_iconst w at_247 (q := 248) rfl (v := (1 : Int32)) (by decide) ?_
        refine g_virtualB w (a := r11) (argsL := [(.int (1 : Int32))]) (own_chB hw (i := 1) S_r11 (w.sta SC_) hz_ (w.sta SFm) rfm (by rw [full_len]; omega) rfl (by decide) (by decide)) S_r11.exa at_248 (q := 251) rfl rfl (Hw hw 214 rfl) (Hw hw 215 rfl) (Hw hw 217 rfl) (Hw hw 216 rfl) (by decide) (nf (Hw hw 217 rfl)) pd29 rfl rfl (W := 0) (Nat.le_of_eq rfl) (by decide) (by decide) (fun T v w hq => ?_)
        obtain rfl := hq
        show Go p e below _ (State.setTop T (mkF m 251 #[.val (.int fl), .val (.int port), .val (.int db), .val (.int (fl &&& (3 : Int32))), .val (.int ((Jvm.Free.XT.ushr fl (2 : Int32)) &&& (255 : Int32))), .val (.int ((Jvm.Free.XT.ushr fl (10 : Int32)) &&& (255 : Int32))), .val (.int ((Jvm.Free.XT.ushr fl (18 : Int32)) &&& (255 : Int32))), .val (.ref x7), .val (.ref x8), .val (.int (0 : Int32)), .val (.ref r11), .val (.int (fl &&& (3 : Int32))), .val (.int (Int32.ofNat (dec port).length)), .val (.int (Int32.ofNat (dec db).length)), .val (.int (Int32.ofNat (8 + hs.length))), .unset, .unset] [(.int ((full hs port db).getD 1 0))]))
        refine g_bipush w at_251 (q := 253) rfl (v := (101 : Int32)) (by decide) ?_
        refine g_icN w at_253 (q := 256) rfl (Jvm.Free.XT.ii_ne_f rfl) ?_
        refine g_aload w at_256 (q := 258) rfl rfl rfl ?_
        refine g_iconst w at_258 (q := 259) rfl (v := (2 : Int32)) (by decide) ?_
        refine g_virtualB w (a := r11) (argsL := [(.int (2 : Int32))]) (own_chB hw (i := 2) S_r11 (w.sta SC_) hz_ (w.sta SFm) rfm (by rw [full_len]; omega) rfl (by decide) (by decide)) S_r11.exa at_259 (q := 262) rfl rfl (Hw hw 214 rfl) (Hw hw 215 rfl) (Hw hw 217 rfl) (Hw hw 216 rfl) (by decide) (nf (Hw hw 217 rfl)) pd29 rfl rfl (W := 0) (Nat.le_of_eq rfl) (by decide) (by decide) (fun T v w hq => ?_)
        obtain rfl := hq
        show Go p e below _ (State.setTop T (mkF m 262 #[.val (.int fl), .val (.int port), .val (.int db), .val (.int (fl &&& (3 : Int32))), .val (.int ((Jvm.Free.XT.ushr fl (2 : Int32)) &&& (255 : Int32))), .val (.int ((Jvm.Free.XT.ushr fl (10 : Int32)) &&& (255 : Int32))), .val (.int ((Jvm.Free.XT.ushr fl (18 : Int32)) &&& (255 : Int32))), .val (.ref x7), .val (.ref x8), .val (.int (0 : Int32)), .val (.ref r11), .val (.int (fl &&& (3 : Int32))), .val (.int (Int32.ofNat (dec port).length)), .val (.int (Int32.ofNat (dec db).length)), .val (.int (Int32.ofNat (8 + hs.length))), .unset, .unset] [(.int ((full hs port db).getD 2 0))]))
        refine g_bipush w at_262 (q := 264) rfl (v := (100 : Int32)) (by decide) ?_
        refine g_icN w at_264 (q := 267) rfl (Jvm.Free.XT.ii_ne_f rfl) ?_
        refine g_aload w at_267 (q := 269) rfl rfl rfl ?_
        refine g_iconst w at_269 (q := 270) rfl (v := (3 : Int32)) (by decide) ?_
        refine g_virtualB w (a := r11) (argsL := [(.int (3 : Int32))]) (own_chB hw (i := 3) S_r11 (w.sta SC_) hz_ (w.sta SFm) rfm (by rw [full_len]; omega) rfl (by decide) (by decide)) S_r11.exa at_270 (q := 273) rfl rfl (Hw hw 214 rfl) (Hw hw 215 rfl) (Hw hw 217 rfl) (Hw hw 216 rfl) (by decide) (nf (Hw hw 217 rfl)) pd29 rfl rfl (W := 0) (Nat.le_of_eq rfl) (by decide) (by decide) (fun T v w hq => ?_)
        obtain rfl := hq
        show Go p e below _ (State.setTop T (mkF m 273 #[.val (.int fl), .val (.int port), .val (.int db), .val (.int (fl &&& (3 : Int32))), .val (.int ((Jvm.Free.XT.ushr fl (2 : Int32)) &&& (255 : Int32))), .val (.int ((Jvm.Free.XT.ushr fl (10 : Int32)) &&& (255 : Int32))), .val (.int ((Jvm.Free.XT.ushr fl (18 : Int32)) &&& (255 : Int32))), .val (.ref x7), .val (.ref x8), .val (.int (0 : Int32)), .val (.ref r11), .val (.int (fl &&& (3 : Int32))), .val (.int (Int32.ofNat (dec port).length)), .val (.int (Int32.ofNat (dec db).length)), .val (.int (Int32.ofNat (8 + hs.length))), .unset, .unset] [(.int ((full hs port db).getD 3 0))]))
        refine g_bipush w at_273 (q := 275) rfl (v := (105 : Int32)) (by decide) ?_
        refine g_icN w at_275 (q := 278) rfl (Jvm.Free.XT.ii_ne_f rfl) ?_
        refine g_aload w at_278 (q := 280) rfl rfl rfl ?_
        refine g_iconst w at_280 (q := 281) rfl (v := (4 : Int32)) (by decide) ?_
        refine g_virtualB w (a := r11) (argsL := [(.int (4 : Int32))]) (own_chB hw (i := 4) S_r11 (w.sta SC_) hz_ (w.sta SFm) rfm (by rw [full_len]; omega) rfl (by decide) (by decide)) S_r11.exa at_281 (q := 284) rfl rfl (Hw hw 214 rfl) (Hw hw 215 rfl) (Hw hw 217 rfl) (Hw hw 216 rfl) (by decide) (nf (Hw hw 217 rfl)) pd29 rfl rfl (W := 0) (Nat.le_of_eq rfl) (by decide) (by decide) (fun T v w hq => ?_)
        obtain rfl := hq
        show Go p e below _ (State.setTop T (mkF m 284 #[.val (.int fl), .val (.int port), .val (.int db), .val (.int (fl &&& (3 : Int32))), .val (.int ((Jvm.Free.XT.ushr fl (2 : Int32)) &&& (255 : Int32))), .val (.int ((Jvm.Free.XT.ushr fl (10 : Int32)) &&& (255 : Int32))), .val (.int ((Jvm.Free.XT.ushr fl (18 : Int32)) &&& (255 : Int32))), .val (.ref x7), .val (.ref x8), .val (.int (0 : Int32)), .val (.ref r11), .val (.int (fl &&& (3 : Int32))), .val (.int (Int32.ofNat (dec port).length)), .val (.int (Int32.ofNat (dec db).length)), .val (.int (Int32.ofNat (8 + hs.length))), .unset, .unset] [(.int ((full hs port db).getD 4 0))]))
        refine g_bipush w at_284 (q := 286) rfl (v := (115 : Int32)) (by decide) ?_
        refine g_icN w at_286 (q := 289) rfl (Jvm.Free.XT.ii_ne_f rfl) ?_
        refine g_aload w at_289 (q := 291) rfl rfl rfl ?_
        refine g_iconst w at_291 (q := 292) rfl (v := (5 : Int32)) (by decide) ?_
        refine g_virtualB w (a := r11) (argsL := [(.int (5 : Int32))]) (own_chB hw (i := 5) S_r11 (w.sta SC_) hz_ (w.sta SFm) rfm (by rw [full_len]; omega) rfl (by decide) (by decide)) S_r11.exa at_292 (q := 295) rfl rfl (Hw hw 214 rfl) (Hw hw 215 rfl) (Hw hw 217 rfl) (Hw hw 216 rfl) (by decide) (nf (Hw hw 217 rfl)) pd29 rfl rfl (W := 0) (Nat.le_of_eq rfl) (by decide) (by decide) (fun T v w hq => ?_)
        obtain rfl := hq
        show Go p e below _ (State.setTop T (mkF m 295 #[.val (.int fl), .val (.int port), .val (.int db), .val (.int (fl &&& (3 : Int32))), .val (.int ((Jvm.Free.XT.ushr fl (2 : Int32)) &&& (255 : Int32))), .val (.int ((Jvm.Free.XT.ushr fl (10 : Int32)) &&& (255 : Int32))), .val (.int ((Jvm.Free.XT.ushr fl (18 : Int32)) &&& (255 : Int32))), .val (.ref x7), .val (.ref x8), .val (.int (0 : Int32)), .val (.ref r11), .val (.int (fl &&& (3 : Int32))), .val (.int (Int32.ofNat (dec port).length)), .val (.int (Int32.ofNat (dec db).length)), .val (.int (Int32.ofNat (8 + hs.length))), .unset, .unset] [(.int ((full hs port db).getD 5 0))]))
        refine g_bipush w at_295 (q := 297) rfl (v := (58 : Int32)) (by decide) ?_
        refine g_icN w at_297 (q := 300) rfl (Jvm.Free.XT.ii_ne_f rfl) ?_
        refine g_aload w at_300 (q := 302) rfl rfl rfl ?_
        refine g_bipush w at_302 (q := 304) rfl (v := (6 : Int32)) (by decide) ?_
        refine g_virtualB w (a := r11) (argsL := [(.int (6 : Int32))]) (own_chB hw (i := 6) S_r11 (w.sta SC_) hz_ (w.sta SFm) rfm (by rw [full_len]; omega) rfl (by decide) (by decide)) S_r11.exa at_304 (q := 307) rfl rfl (Hw hw 214 rfl) (Hw hw 215 rfl) (Hw hw 217 rfl) (Hw hw 216 rfl) (by decide) (nf (Hw hw 217 rfl)) pd29 rfl rfl (W := 0) (Nat.le_of_eq rfl) (by decide) (by decide) (fun T v w hq => ?_)
        obtain rfl := hq
        show Go p e below _ (State.setTop T (mkF m 307 #[.val (.int fl), .val (.int port), .val (.int db), .val (.int (fl &&& (3 : Int32))), .val (.int ((Jvm.Free.XT.ushr fl (2 : Int32)) &&& (255 : Int32))), .val (.int ((Jvm.Free.XT.ushr fl (10 : Int32)) &&& (255 : Int32))), .val (.int ((Jvm.Free.XT.ushr fl (18 : Int32)) &&& (255 : Int32))), .val (.ref x7), .val (.ref x8), .val (.int (0 : Int32)), .val (.ref r11), .val (.int (fl &&& (3 : Int32))), .val (.int (Int32.ofNat (dec port).length)), .val (.int (Int32.ofNat (dec db).length)), .val (.int (Int32.ofNat (8 + hs.length))), .unset, .unset] [(.int ((full hs port db).getD 6 0))]))
        refine g_bipush w at_307 (q := 309) rfl (v := (47 : Int32)) (by decide) ?_
        refine g_icN w at_309 (q := 312) rfl (Jvm.Free.XT.ii_ne_f rfl) ?_
        refine g_aload w at_312 (q := 314) rfl rfl rfl ?_
        refine g_bipush w at_314 (q := 316) rfl (v := (7 : Int32)) (by decide) ?_
        refine g_virtualB w (a := r11) (argsL := [(.int (7 : Int32))]) (own_chB hw (i := 7) S_r11 (w.sta SC_) hz_ (w.sta SFm) rfm (by rw [full_len]; omega) rfl (by decide) (by decide)) S_r11.exa at_316 (q := 319) rfl rfl (Hw hw 214 rfl) (Hw hw 215 rfl) (Hw hw 217 rfl) (Hw hw 216 rfl) (by decide) (nf (Hw hw 217 rfl)) pd29 rfl rfl (W := 0) (Nat.le_of_eq rfl) (by decide) (by decide) (fun T v w hq => ?_)
        obtain rfl := hq
        show Go p e below _ (State.setTop T (mkF m 319 #[.val (.int fl), .val (.int port), .val (.int db), .val (.int (fl &&& (3 : Int32))), .val (.int ((Jvm.Free.XT.ushr fl (2 : Int32)) &&& (255 : Int32))), .val (.int ((Jvm.Free.XT.ushr fl (10 : Int32)) &&& (255 : Int32))), .val (.int ((Jvm.Free.XT.ushr fl (18 : Int32)) &&& (255 : Int32))), .val (.ref x7), .val (.ref x8), .val (.int (0 : Int32)), .val (.ref r11), .val (.int (fl &&& (3 : Int32))), .val (.int (Int32.ofNat (dec port).length)), .val (.int (Int32.ofNat (dec db).length)), .val (.int (Int32.ofNat (8 + hs.length))), .unset, .unset] [(.int ((full hs port db).getD 7 0))]))
        refine g_bipush w at_319 (q := 321) rfl (v := (47 : Int32)) (by decide) ?_
        refine g_icN w at_321 (q := 324) rfl (Jvm.Free.XT.ii_ne_f rfl) ?_
        refine g_iconst w at_324 (q := 325) rfl (v := (1 : Int32)) (by decide) ?_
        refine g_goto w at_325 (by decide) (q := 329) (by decide) ?_
        refine g_istore w at_329 (q := 331) rfl (Ls' := #[.val (.int fl), .val (.int port), .val (.int db), .val (.int (fl &&& (3 : Int32))), .val (.int ((Jvm.Free.XT.ushr fl (2 : Int32)) &&& (255 : Int32))), .val (.int ((Jvm.Free.XT.ushr fl (10 : Int32)) &&& (255 : Int32))), .val (.int ((Jvm.Free.XT.ushr fl (18 : Int32)) &&& (255 : Int32))), .val (.ref x7), .val (.ref x8), .val (.int (0 : Int32)), .val (.ref r11), .val (.int (fl &&& (3 : Int32))), .val (.int (Int32.ofNat (dec port).length)), .val (.int (Int32.ofNat (dec db).length)), .val (.int (Int32.ofNat (8 + hs.length))), .val (.int (1 : Int32)), .unset]) rfl ?_
        refine g_iload w at_331 (q := 333) rfl rfl ?_
        refine g_ifY w at_333 (by decide) (q := 389) (by decide) (by decide) ?_
        refine g_aload w at_389 (q := 391) rfl rfl rfl ?_
        refine g_bipush w at_391 (q := 393) rfl (v := (8 : Int32)) (by decide) ?_
        refine g_iloadN w at_393 (q := 394) rfl rfl ?_
        refine g_iload w at_394 (q := 396) rfl rfl ?_
        refine g_iload w at_396 (q := 398) rfl rfl ?_
        refine g_iload w at_398 (q := 400) rfl rfl ?_
        refine g_staticP w (con_host l Z a0 hw r11 fm 8 (fl &&& (3 : Int32)) ((Jvm.Free.XT.ushr fl (2 : Int32)) &&& (255 : Int32)) ((Jvm.Free.XT.ushr fl (10 : Int32)) &&& (255 : Int32)) ((Jvm.Free.XT.ushr fl (18 : Int32)) &&& (255 : Int32)) hs (full hs port db) _ w.old S_r11 hh hn4 (fun t ht => f_host hfx ht) (by rw [full_len]; omega) SFm rfm hcm) no0 at_400 (q := 403) rfl rfl (Hw hw 230 rfl) (Hw hw 231 rfl) (Hw hw 207 rfl) (Hw hw 232 rfl) (by decide) pd32 rfl rfl (W := 0) (Nat.le_of_eq rfl) (by decide) (by decide) (by decide) (by decide) (fun T v w C q => ?_)
        obtain rfl := q
        show Go p e below _ (State.setTop T (mkF m 403 #[.val (.int fl), .val (.int port), .val (.int db), .val (.int (fl &&& (3 : Int32))), .val (.int ((Jvm.Free.XT.ushr fl (2 : Int32)) &&& (255 : Int32))), .val (.int ((Jvm.Free.XT.ushr fl (10 : Int32)) &&& (255 : Int32))), .val (.int ((Jvm.Free.XT.ushr fl (18 : Int32)) &&& (255 : Int32))), .val (.ref x7), .val (.ref x8), .val (.int (0 : Int32)), .val (.ref r11), .val (.int (fl &&& (3 : Int32))), .val (.int (Int32.ofNat (dec port).length)), .val (.int (Int32.ofNat (dec db).length)), .val (.int (Int32.ofNat (8 + hs.length))), .val (.int (1 : Int32)), .unset] [(.int (1 : Int32))]))
        refine g_istore w at_403 (q := 405) rfl (Ls' := #[.val (.int fl), .val (.int port), .val (.int db), .val (.int (fl &&& (3 : Int32))), .val (.int ((Jvm.Free.XT.ushr fl (2 : Int32)) &&& (255 : Int32))), .val (.int ((Jvm.Free.XT.ushr fl (10 : Int32)) &&& (255 : Int32))), .val (.int ((Jvm.Free.XT.ushr fl (18 : Int32)) &&& (255 : Int32))), .val (.ref x7), .val (.ref x8), .val (.int (0 : Int32)), .val (.ref r11), .val (.int (fl &&& (3 : Int32))), .val (.int (Int32.ofNat (dec port).length)), .val (.int (Int32.ofNat (dec db).length)), .val (.int (Int32.ofNat (8 + hs.length))), .val (.int (1 : Int32)), .val (.int (1 : Int32))]) rfl ?_
        refine g_iload w at_405 (q := 407) rfl rfl ?_
        refine g_ifN w at_407 (q := 410) rfl (by decide) ?_
        refine g_iload w at_410 (q := 412) rfl rfl ?_
        refine g_ifN w at_412 (q := 415) rfl (by decide) ?_
        refine g_aload w at_415 (q := 417) rfl rfl rfl ?_
        refine g_iload w at_417 (q := 419) rfl rfl ?_
        refine g_virtualB w (a := r11) (argsL := [(.int (Int32.ofNat (8 + hs.length)))]) (own_chB hw (i := (8 + hs.length)) S_r11 (w.sta SC_) hz_ (w.sta SFm) rfm (by rw [full_len]; omega) rfl (by decide) (by decide)) S_r11.exa at_419 (q := 422) rfl rfl (Hw hw 214 rfl) (Hw hw 215 rfl) (Hw hw 217 rfl) (Hw hw 216 rfl) (by decide) (nf (Hw hw 217 rfl)) pd29 rfl rfl (W := 0) (Nat.le_of_eq rfl) (by decide) (by decide) (fun T v w hq => ?_)
        obtain rfl := hq
        show Go p e below _ (State.setTop T (mkF m 422 #[.val (.int fl), .val (.int port), .val (.int db), .val (.int (fl &&& (3 : Int32))), .val (.int ((Jvm.Free.XT.ushr fl (2 : Int32)) &&& (255 : Int32))), .val (.int ((Jvm.Free.XT.ushr fl (10 : Int32)) &&& (255 : Int32))), .val (.int ((Jvm.Free.XT.ushr fl (18 : Int32)) &&& (255 : Int32))), .val (.ref x7), .val (.ref x8), .val (.int (0 : Int32)), .val (.ref r11), .val (.int (fl &&& (3 : Int32))), .val (.int (Int32.ofNat (dec port).length)), .val (.int (Int32.ofNat (dec db).length)), .val (.int (Int32.ofNat (8 + hs.length))), .val (.int (1 : Int32)), .val (.int (1 : Int32))] [(.int ((full hs port db).getD (8 + hs.length) 0))]))
        refine g_bipush w at_422 (q := 424) rfl (v := (58 : Int32)) (by decide) ?_
        refine g_icN w at_424 (q := 427) rfl (Jvm.Free.XT.ii_ne_f (f_colon (by omega))) ?_
        refine g_aload w at_427 (q := 429) rfl rfl rfl ?_
        refine g_iload w at_429 (q := 431) rfl rfl ?_
        refine g_iconst w at_431 (q := 432) rfl (v := (1 : Int32)) (by decide) ?_
        refine g_iadd w at_432 (q := 433) rfl ?_
        rw [oN_a1]
        show Go p e below _ (State.setTop T (mkF m 433 #[.val (.int fl), .val (.int port), .val (.int db), .val (.int (fl &&& (3 : Int32))), .val (.int ((Jvm.Free.XT.ushr fl (2 : Int32)) &&& (255 : Int32))), .val (.int ((Jvm.Free.XT.ushr fl (10 : Int32)) &&& (255 : Int32))), .val (.int ((Jvm.Free.XT.ushr fl (18 : Int32)) &&& (255 : Int32))), .val (.ref x7), .val (.ref x8), .val (.int (0 : Int32)), .val (.ref r11), .val (.int (fl &&& (3 : Int32))), .val (.int (Int32.ofNat (dec port).length)), .val (.int (Int32.ofNat (dec db).length)), .val (.int (Int32.ofNat (8 + hs.length))), .val (.int (1 : Int32)), .val (.int (1 : Int32))] [(.int (Int32.ofNat (8 + hs.length + 1))), (.ref r11)]))
        refine g_iloadN w at_433 (q := 434) rfl rfl ?_
        refine g_staticP w (con_das l Z a0 hw r11 fm (8 + hs.length + 1) port (full hs port db) _ w.old S_r11 (fun t ht => f_port ht (by omega)) (by rw [full_len]; omega) (by omega) SFm rfm hcm) no0 at_434 (q := 437) rfl rfl (Hw hw 233 rfl) (Hw hw 234 rfl) (Hw hw 207 rfl) (Hw hw 235 rfl) (by decide) pd33 rfl rfl (W := 0) (Nat.le_of_eq rfl) (by decide) (by decide) (by decide) (by decide) (fun T v w C q => ?_)
        obtain rfl := q
        show Go p e below _ (State.setTop T (mkF m 437 #[.val (.int fl), .val (.int port), .val (.int db), .val (.int (fl &&& (3 : Int32))), .val (.int ((Jvm.Free.XT.ushr fl (2 : Int32)) &&& (255 : Int32))), .val (.int ((Jvm.Free.XT.ushr fl (10 : Int32)) &&& (255 : Int32))), .val (.int ((Jvm.Free.XT.ushr fl (18 : Int32)) &&& (255 : Int32))), .val (.ref x7), .val (.ref x8), .val (.int (0 : Int32)), .val (.ref r11), .val (.int (fl &&& (3 : Int32))), .val (.int (Int32.ofNat (dec port).length)), .val (.int (Int32.ofNat (dec db).length)), .val (.int (Int32.ofNat (8 + hs.length))), .val (.int (1 : Int32)), .val (.int (1 : Int32))] [(.int (1 : Int32))]))
        refine g_ifN w at_437 (q := 440) rfl (by decide) ?_
        refine g_aload w at_440 (q := 442) rfl rfl rfl ?_
        refine g_iload w at_442 (q := 444) rfl rfl ?_
        refine g_iconst w at_444 (q := 445) rfl (v := (1 : Int32)) (by decide) ?_
        refine g_iadd w at_445 (q := 446) rfl ?_
        rw [oN_a1]
        show Go p e below _ (State.setTop T (mkF m 446 #[.val (.int fl), .val (.int port), .val (.int db), .val (.int (fl &&& (3 : Int32))), .val (.int ((Jvm.Free.XT.ushr fl (2 : Int32)) &&& (255 : Int32))), .val (.int ((Jvm.Free.XT.ushr fl (10 : Int32)) &&& (255 : Int32))), .val (.int ((Jvm.Free.XT.ushr fl (18 : Int32)) &&& (255 : Int32))), .val (.ref x7), .val (.ref x8), .val (.int (0 : Int32)), .val (.ref r11), .val (.int (fl &&& (3 : Int32))), .val (.int (Int32.ofNat (dec port).length)), .val (.int (Int32.ofNat (dec db).length)), .val (.int (Int32.ofNat (8 + hs.length))), .val (.int (1 : Int32)), .val (.int (1 : Int32))] [(.int (Int32.ofNat (8 + hs.length + 1))), (.ref r11)]))
        refine g_iload w at_446 (q := 448) rfl rfl ?_
        refine g_iadd w at_448 (q := 449) rfl ?_
        rw [oN_add]
        show Go p e below _ (State.setTop T (mkF m 449 #[.val (.int fl), .val (.int port), .val (.int db), .val (.int (fl &&& (3 : Int32))), .val (.int ((Jvm.Free.XT.ushr fl (2 : Int32)) &&& (255 : Int32))), .val (.int ((Jvm.Free.XT.ushr fl (10 : Int32)) &&& (255 : Int32))), .val (.int ((Jvm.Free.XT.ushr fl (18 : Int32)) &&& (255 : Int32))), .val (.ref x7), .val (.ref x8), .val (.int (0 : Int32)), .val (.ref r11), .val (.int (fl &&& (3 : Int32))), .val (.int (Int32.ofNat (dec port).length)), .val (.int (Int32.ofNat (dec db).length)), .val (.int (Int32.ofNat (8 + hs.length))), .val (.int (1 : Int32)), .val (.int (1 : Int32))] [(.int (Int32.ofNat (8 + hs.length + 1 + (dec port).length))), (.ref r11)]))
        refine g_virtualB w (a := r11) (argsL := [(.int (Int32.ofNat (8 + hs.length + 1 + (dec port).length)))]) (own_chB hw (i := (8 + hs.length + 1 + (dec port).length)) S_r11 (w.sta SC_) hz_ (w.sta SFm) rfm (by rw [full_len]; omega) rfl (by decide) (by decide)) S_r11.exa at_449 (q := 452) rfl rfl (Hw hw 214 rfl) (Hw hw 215 rfl) (Hw hw 217 rfl) (Hw hw 216 rfl) (by decide) (nf (Hw hw 217 rfl)) pd29 rfl rfl (W := 0) (Nat.le_of_eq rfl) (by decide) (by decide) (fun T v w hq => ?_)
        obtain rfl := hq
        show Go p e below _ (State.setTop T (mkF m 452 #[.val (.int fl), .val (.int port), .val (.int db), .val (.int (fl &&& (3 : Int32))), .val (.int ((Jvm.Free.XT.ushr fl (2 : Int32)) &&& (255 : Int32))), .val (.int ((Jvm.Free.XT.ushr fl (10 : Int32)) &&& (255 : Int32))), .val (.int ((Jvm.Free.XT.ushr fl (18 : Int32)) &&& (255 : Int32))), .val (.ref x7), .val (.ref x8), .val (.int (0 : Int32)), .val (.ref r11), .val (.int (fl &&& (3 : Int32))), .val (.int (Int32.ofNat (dec port).length)), .val (.int (Int32.ofNat (dec db).length)), .val (.int (Int32.ofNat (8 + hs.length))), .val (.int (1 : Int32)), .val (.int (1 : Int32))] [(.int ((full hs port db).getD (8 + hs.length + 1 + (dec port).length) 0))]))
        refine g_bipush w at_452 (q := 454) rfl (v := (47 : Int32)) (by decide) ?_
        refine g_icN w at_454 (q := 457) rfl (Jvm.Free.XT.ii_ne_f (f_slash (by omega))) ?_
        refine g_aload w at_457 (q := 459) rfl rfl rfl ?_
        refine g_iload w at_459 (q := 461) rfl rfl ?_
        refine g_iconst w at_461 (q := 462) rfl (v := (2 : Int32)) (by decide) ?_
        refine g_iadd w at_462 (q := 463) rfl ?_
        rw [oN_a2]
        show Go p e below _ (State.setTop T (mkF m 463 #[.val (.int fl), .val (.int port), .val (.int db), .val (.int (fl &&& (3 : Int32))), .val (.int ((Jvm.Free.XT.ushr fl (2 : Int32)) &&& (255 : Int32))), .val (.int ((Jvm.Free.XT.ushr fl (10 : Int32)) &&& (255 : Int32))), .val (.int ((Jvm.Free.XT.ushr fl (18 : Int32)) &&& (255 : Int32))), .val (.ref x7), .val (.ref x8), .val (.int (0 : Int32)), .val (.ref r11), .val (.int (fl &&& (3 : Int32))), .val (.int (Int32.ofNat (dec port).length)), .val (.int (Int32.ofNat (dec db).length)), .val (.int (Int32.ofNat (8 + hs.length))), .val (.int (1 : Int32)), .val (.int (1 : Int32))] [(.int (Int32.ofNat (8 + hs.length + 2))), (.ref r11)]))
        refine g_iload w at_463 (q := 465) rfl rfl ?_
        refine g_iadd w at_465 (q := 466) rfl ?_
        rw [oN_add]
        show Go p e below _ (State.setTop T (mkF m 466 #[.val (.int fl), .val (.int port), .val (.int db), .val (.int (fl &&& (3 : Int32))), .val (.int ((Jvm.Free.XT.ushr fl (2 : Int32)) &&& (255 : Int32))), .val (.int ((Jvm.Free.XT.ushr fl (10 : Int32)) &&& (255 : Int32))), .val (.int ((Jvm.Free.XT.ushr fl (18 : Int32)) &&& (255 : Int32))), .val (.ref x7), .val (.ref x8), .val (.int (0 : Int32)), .val (.ref r11), .val (.int (fl &&& (3 : Int32))), .val (.int (Int32.ofNat (dec port).length)), .val (.int (Int32.ofNat (dec db).length)), .val (.int (Int32.ofNat (8 + hs.length))), .val (.int (1 : Int32)), .val (.int (1 : Int32))] [(.int (Int32.ofNat (8 + hs.length + 2 + (dec port).length))), (.ref r11)]))
        refine g_iloadN w at_466 (q := 467) rfl rfl ?_
        refine g_staticP w (con_das l Z a0 hw r11 fm (8 + hs.length + 2 + (dec port).length) db (full hs port db) _ w.old S_r11 (fun t ht => f_db ht (by omega)) (by rw [full_len]; omega) (by omega) SFm rfm hcm) no0 at_467 (q := 470) rfl rfl (Hw hw 233 rfl) (Hw hw 234 rfl) (Hw hw 207 rfl) (Hw hw 235 rfl) (by decide) pd33 rfl rfl (W := 0) (Nat.le_of_eq rfl) (by decide) (by decide) (by decide) (by decide) (fun T v w C q => ?_)
        obtain rfl := q
        show Go p e below _ (State.setTop T (mkF m 470 #[.val (.int fl), .val (.int port), .val (.int db), .val (.int (fl &&& (3 : Int32))), .val (.int ((Jvm.Free.XT.ushr fl (2 : Int32)) &&& (255 : Int32))), .val (.int ((Jvm.Free.XT.ushr fl (10 : Int32)) &&& (255 : Int32))), .val (.int ((Jvm.Free.XT.ushr fl (18 : Int32)) &&& (255 : Int32))), .val (.ref x7), .val (.ref x8), .val (.int (0 : Int32)), .val (.ref r11), .val (.int (fl &&& (3 : Int32))), .val (.int (Int32.ofNat (dec port).length)), .val (.int (Int32.ofNat (dec db).length)), .val (.int (Int32.ofNat (8 + hs.length))), .val (.int (1 : Int32)), .val (.int (1 : Int32))] [(.int (1 : Int32))]))
        refine g_ifN w at_470 (q := 473) rfl (by decide) ?_
        refine g_iconst w at_473 (q := 474) rfl (v := (1 : Int32)) (by decide) ?_
        refine g_goto w at_474 (by decide) (q := 478) (by decide) ?_
        exact g_retn w at_478 rfl (by simp) rfl (by decide) (by decide) rfl
    refine g_iloadN w at_120 (q := 121) rfl rfl ?_
    refine g_iconst w at_121 (q := 122) rfl (v := (1 : Int32)) (by decide) ?_
    refine g_ic_lt w at_122 (by decide) (q := 132) (by decide) (q' := 125) rfl (fun cd18 => ?_) (fun cd18 => ?_)
    · refine g_iloadN w at_132 (q := 133) rfl rfl ?_
      refine g_iconst w at_133 (q := 134) rfl (v := (2 : Int32)) (by decide) ?_
      refine g_ic_lt w at_134 (by decide) (q := 144) (by decide) (q' := 137) rfl (fun cd19 => ?_) (fun cd19 => ?_)
      · refine g_iloadN w at_144 (q := 145) rfl rfl ?_
        refine g_iconst w at_145 (q := 146) rfl (v := (3 : Int32)) (by decide) ?_
        refine g_ic_lt w at_146 (by decide) (q := 160) (by decide) (q' := 149) rfl (fun cd20 => ?_) (fun cd20 => ?_)
        · refine g_iconst w at_160 (q := 161) rfl (v := (0 : Int32)) (by decide) ?_
          refine g_istore w at_161 (q := 163) rfl (Ls' := #[.val (.int fl), .val (.int port), .val (.int db), .val (.int (fl &&& (3 : Int32))), .val (.int ((Jvm.Free.XT.ushr fl (2 : Int32)) &&& (255 : Int32))), .val (.int ((Jvm.Free.XT.ushr fl (10 : Int32)) &&& (255 : Int32))), .val (.int ((Jvm.Free.XT.ushr fl (18 : Int32)) &&& (255 : Int32))), .val (.ref x7), .val (.ref x8), .val (.int (0 : Int32)), .unset, .unset, .unset, .unset, .unset, .unset, .unset]) rfl ?_
          exact J163 _ (Or.inr ⟨rfl, Decidable.of_not_not (by rw [hh]; exact mt (sg3_fix hn4).mp (by simp [cd18, cd19, cd20]))⟩)
        · refine g_iload w at_149 (q := 151) rfl rfl ?_
          refine g_bipush w at_151 (q := 153) rfl (v := (58 : Int32)) (by decide) ?_
          refine g_ic_ne w at_153 (by decide) (q := 160) (by decide) (q' := 156) rfl (fun cd21 => ?_) (fun cd21 => ?_)
          · refine g_iconst w at_160 (q := 161) rfl (v := (0 : Int32)) (by decide) ?_
            refine g_istore w at_161 (q := 163) rfl (Ls' := #[.val (.int fl), .val (.int port), .val (.int db), .val (.int (fl &&& (3 : Int32))), .val (.int ((Jvm.Free.XT.ushr fl (2 : Int32)) &&& (255 : Int32))), .val (.int ((Jvm.Free.XT.ushr fl (10 : Int32)) &&& (255 : Int32))), .val (.int ((Jvm.Free.XT.ushr fl (18 : Int32)) &&& (255 : Int32))), .val (.ref x7), .val (.ref x8), .val (.int (0 : Int32)), .unset, .unset, .unset, .unset, .unset, .unset, .unset]) rfl ?_
            exact J163 _ (Or.inr ⟨rfl, Decidable.of_not_not (by rw [hh]; exact mt (sg3_fix hn4).mp (by simp [cd18, cd19, cd20, cd21]))⟩)
          · refine g_iconst w at_156 (q := 157) rfl (v := (1 : Int32)) (by decide) ?_
            refine g_goto w at_157 (by decide) (q := 161) (by decide) ?_
            refine g_istore w at_161 (q := 163) rfl (Ls' := #[.val (.int fl), .val (.int port), .val (.int db), .val (.int (fl &&& (3 : Int32))), .val (.int ((Jvm.Free.XT.ushr fl (2 : Int32)) &&& (255 : Int32))), .val (.int ((Jvm.Free.XT.ushr fl (10 : Int32)) &&& (255 : Int32))), .val (.int ((Jvm.Free.XT.ushr fl (18 : Int32)) &&& (255 : Int32))), .val (.ref x7), .val (.ref x8), .val (.int (1 : Int32)), .unset, .unset, .unset, .unset, .unset, .unset, .unset]) rfl ?_
            exact J163 _ (Or.inl ⟨rfl, by rw [hh]; exact (sg3_fix hn4).mpr (by simp [cd18, cd19, cd20, cd21])⟩)
      · refine g_iload w at_137 (q := 139) rfl rfl ?_
        refine g_bipush w at_139 (q := 141) rfl (v := (58 : Int32)) (by decide) ?_
        refine g_ic_eq w at_141 (by decide) (q := 156) (by decide) (q' := 144) rfl (fun cd22 => ?_) (fun cd22 => ?_)
        · refine g_iconst w at_156 (q := 157) rfl (v := (1 : Int32)) (by decide) ?_
          refine g_goto w at_157 (by decide) (q := 161) (by decide) ?_
          refine g_istore w at_161 (q := 163) rfl (Ls' := #[.val (.int fl), .val (.int port), .val (.int db), .val (.int (fl &&& (3 : Int32))), .val (.int ((Jvm.Free.XT.ushr fl (2 : Int32)) &&& (255 : Int32))), .val (.int ((Jvm.Free.XT.ushr fl (10 : Int32)) &&& (255 : Int32))), .val (.int ((Jvm.Free.XT.ushr fl (18 : Int32)) &&& (255 : Int32))), .val (.ref x7), .val (.ref x8), .val (.int (1 : Int32)), .unset, .unset, .unset, .unset, .unset, .unset, .unset]) rfl ?_
          exact J163 _ (Or.inl ⟨rfl, by rw [hh]; exact (sg3_fix hn4).mpr (by simp [cd18, cd19, cd22])⟩)
        · refine g_iloadN w at_144 (q := 145) rfl rfl ?_
          refine g_iconst w at_145 (q := 146) rfl (v := (3 : Int32)) (by decide) ?_
          refine g_ic_lt w at_146 (by decide) (q := 160) (by decide) (q' := 149) rfl (fun cd23 => ?_) (fun cd23 => ?_)
          · refine g_iconst w at_160 (q := 161) rfl (v := (0 : Int32)) (by decide) ?_
            refine g_istore w at_161 (q := 163) rfl (Ls' := #[.val (.int fl), .val (.int port), .val (.int db), .val (.int (fl &&& (3 : Int32))), .val (.int ((Jvm.Free.XT.ushr fl (2 : Int32)) &&& (255 : Int32))), .val (.int ((Jvm.Free.XT.ushr fl (10 : Int32)) &&& (255 : Int32))), .val (.int ((Jvm.Free.XT.ushr fl (18 : Int32)) &&& (255 : Int32))), .val (.ref x7), .val (.ref x8), .val (.int (0 : Int32)), .unset, .unset, .unset, .unset, .unset, .unset, .unset]) rfl ?_
            exact J163 _ (Or.inr ⟨rfl, Decidable.of_not_not (by rw [hh]; exact mt (sg3_fix hn4).mp (by simp [cd18, cd19, cd22, cd23]))⟩)
          · refine g_iload w at_149 (q := 151) rfl rfl ?_
            refine g_bipush w at_151 (q := 153) rfl (v := (58 : Int32)) (by decide) ?_
            refine g_ic_ne w at_153 (by decide) (q := 160) (by decide) (q' := 156) rfl (fun cd24 => ?_) (fun cd24 => ?_)
            · refine g_iconst w at_160 (q := 161) rfl (v := (0 : Int32)) (by decide) ?_
              refine g_istore w at_161 (q := 163) rfl (Ls' := #[.val (.int fl), .val (.int port), .val (.int db), .val (.int (fl &&& (3 : Int32))), .val (.int ((Jvm.Free.XT.ushr fl (2 : Int32)) &&& (255 : Int32))), .val (.int ((Jvm.Free.XT.ushr fl (10 : Int32)) &&& (255 : Int32))), .val (.int ((Jvm.Free.XT.ushr fl (18 : Int32)) &&& (255 : Int32))), .val (.ref x7), .val (.ref x8), .val (.int (0 : Int32)), .unset, .unset, .unset, .unset, .unset, .unset, .unset]) rfl ?_
              exact J163 _ (Or.inr ⟨rfl, Decidable.of_not_not (by rw [hh]; exact mt (sg3_fix hn4).mp (by simp [cd18, cd19, cd22, cd23, cd24]))⟩)
            · refine g_iconst w at_156 (q := 157) rfl (v := (1 : Int32)) (by decide) ?_
              refine g_goto w at_157 (by decide) (q := 161) (by decide) ?_
              refine g_istore w at_161 (q := 163) rfl (Ls' := #[.val (.int fl), .val (.int port), .val (.int db), .val (.int (fl &&& (3 : Int32))), .val (.int ((Jvm.Free.XT.ushr fl (2 : Int32)) &&& (255 : Int32))), .val (.int ((Jvm.Free.XT.ushr fl (10 : Int32)) &&& (255 : Int32))), .val (.int ((Jvm.Free.XT.ushr fl (18 : Int32)) &&& (255 : Int32))), .val (.ref x7), .val (.ref x8), .val (.int (1 : Int32)), .unset, .unset, .unset, .unset, .unset, .unset, .unset]) rfl ?_
              exact J163 _ (Or.inl ⟨rfl, by rw [hh]; exact (sg3_fix hn4).mpr (by simp [cd18, cd19, cd22, cd23, cd24])⟩)
    · refine g_iload w at_125 (q := 127) rfl rfl ?_
      refine g_bipush w at_127 (q := 129) rfl (v := (58 : Int32)) (by decide) ?_
      refine g_ic_eq w at_129 (by decide) (q := 156) (by decide) (q' := 132) rfl (fun cd25 => ?_) (fun cd25 => ?_)
      · refine g_iconst w at_156 (q := 157) rfl (v := (1 : Int32)) (by decide) ?_
        refine g_goto w at_157 (by decide) (q := 161) (by decide) ?_
        refine g_istore w at_161 (q := 163) rfl (Ls' := #[.val (.int fl), .val (.int port), .val (.int db), .val (.int (fl &&& (3 : Int32))), .val (.int ((Jvm.Free.XT.ushr fl (2 : Int32)) &&& (255 : Int32))), .val (.int ((Jvm.Free.XT.ushr fl (10 : Int32)) &&& (255 : Int32))), .val (.int ((Jvm.Free.XT.ushr fl (18 : Int32)) &&& (255 : Int32))), .val (.ref x7), .val (.ref x8), .val (.int (1 : Int32)), .unset, .unset, .unset, .unset, .unset, .unset, .unset]) rfl ?_
        exact J163 _ (Or.inl ⟨rfl, by rw [hh]; exact (sg3_fix hn4).mpr (by simp [cd18, cd25])⟩)
      · refine g_iloadN w at_132 (q := 133) rfl rfl ?_
        refine g_iconst w at_133 (q := 134) rfl (v := (2 : Int32)) (by decide) ?_
        refine g_ic_lt w at_134 (by decide) (q := 144) (by decide) (q' := 137) rfl (fun cd26 => ?_) (fun cd26 => ?_)
        · refine g_iloadN w at_144 (q := 145) rfl rfl ?_
          refine g_iconst w at_145 (q := 146) rfl (v := (3 : Int32)) (by decide) ?_
          refine g_ic_lt w at_146 (by decide) (q := 160) (by decide) (q' := 149) rfl (fun cd27 => ?_) (fun cd27 => ?_)
          · refine g_iconst w at_160 (q := 161) rfl (v := (0 : Int32)) (by decide) ?_
            refine g_istore w at_161 (q := 163) rfl (Ls' := #[.val (.int fl), .val (.int port), .val (.int db), .val (.int (fl &&& (3 : Int32))), .val (.int ((Jvm.Free.XT.ushr fl (2 : Int32)) &&& (255 : Int32))), .val (.int ((Jvm.Free.XT.ushr fl (10 : Int32)) &&& (255 : Int32))), .val (.int ((Jvm.Free.XT.ushr fl (18 : Int32)) &&& (255 : Int32))), .val (.ref x7), .val (.ref x8), .val (.int (0 : Int32)), .unset, .unset, .unset, .unset, .unset, .unset, .unset]) rfl ?_
            exact J163 _ (Or.inr ⟨rfl, Decidable.of_not_not (by rw [hh]; exact mt (sg3_fix hn4).mp (by simp [cd18, cd25, cd26, cd27]))⟩)
          · refine g_iload w at_149 (q := 151) rfl rfl ?_
            refine g_bipush w at_151 (q := 153) rfl (v := (58 : Int32)) (by decide) ?_
            refine g_ic_ne w at_153 (by decide) (q := 160) (by decide) (q' := 156) rfl (fun cd28 => ?_) (fun cd28 => ?_)
            · refine g_iconst w at_160 (q := 161) rfl (v := (0 : Int32)) (by decide) ?_
              refine g_istore w at_161 (q := 163) rfl (Ls' := #[.val (.int fl), .val (.int port), .val (.int db), .val (.int (fl &&& (3 : Int32))), .val (.int ((Jvm.Free.XT.ushr fl (2 : Int32)) &&& (255 : Int32))), .val (.int ((Jvm.Free.XT.ushr fl (10 : Int32)) &&& (255 : Int32))), .val (.int ((Jvm.Free.XT.ushr fl (18 : Int32)) &&& (255 : Int32))), .val (.ref x7), .val (.ref x8), .val (.int (0 : Int32)), .unset, .unset, .unset, .unset, .unset, .unset, .unset]) rfl ?_
              exact J163 _ (Or.inr ⟨rfl, Decidable.of_not_not (by rw [hh]; exact mt (sg3_fix hn4).mp (by simp [cd18, cd25, cd26, cd27, cd28]))⟩)
            · refine g_iconst w at_156 (q := 157) rfl (v := (1 : Int32)) (by decide) ?_
              refine g_goto w at_157 (by decide) (q := 161) (by decide) ?_
              refine g_istore w at_161 (q := 163) rfl (Ls' := #[.val (.int fl), .val (.int port), .val (.int db), .val (.int (fl &&& (3 : Int32))), .val (.int ((Jvm.Free.XT.ushr fl (2 : Int32)) &&& (255 : Int32))), .val (.int ((Jvm.Free.XT.ushr fl (10 : Int32)) &&& (255 : Int32))), .val (.int ((Jvm.Free.XT.ushr fl (18 : Int32)) &&& (255 : Int32))), .val (.ref x7), .val (.ref x8), .val (.int (1 : Int32)), .unset, .unset, .unset, .unset, .unset, .unset, .unset]) rfl ?_
              exact J163 _ (Or.inl ⟨rfl, by rw [hh]; exact (sg3_fix hn4).mpr (by simp [cd18, cd25, cd26, cd27, cd28])⟩)
        · refine g_iload w at_137 (q := 139) rfl rfl ?_
          refine g_bipush w at_139 (q := 141) rfl (v := (58 : Int32)) (by decide) ?_
          refine g_ic_eq w at_141 (by decide) (q := 156) (by decide) (q' := 144) rfl (fun cd29 => ?_) (fun cd29 => ?_)
          · refine g_iconst w at_156 (q := 157) rfl (v := (1 : Int32)) (by decide) ?_
            refine g_goto w at_157 (by decide) (q := 161) (by decide) ?_
            refine g_istore w at_161 (q := 163) rfl (Ls' := #[.val (.int fl), .val (.int port), .val (.int db), .val (.int (fl &&& (3 : Int32))), .val (.int ((Jvm.Free.XT.ushr fl (2 : Int32)) &&& (255 : Int32))), .val (.int ((Jvm.Free.XT.ushr fl (10 : Int32)) &&& (255 : Int32))), .val (.int ((Jvm.Free.XT.ushr fl (18 : Int32)) &&& (255 : Int32))), .val (.ref x7), .val (.ref x8), .val (.int (1 : Int32)), .unset, .unset, .unset, .unset, .unset, .unset, .unset]) rfl ?_
            exact J163 _ (Or.inl ⟨rfl, by rw [hh]; exact (sg3_fix hn4).mpr (by simp [cd18, cd25, cd26, cd29])⟩)
          · refine g_iloadN w at_144 (q := 145) rfl rfl ?_
            refine g_iconst w at_145 (q := 146) rfl (v := (3 : Int32)) (by decide) ?_
            refine g_ic_lt w at_146 (by decide) (q := 160) (by decide) (q' := 149) rfl (fun cd30 => ?_) (fun cd30 => ?_)
            · refine g_iconst w at_160 (q := 161) rfl (v := (0 : Int32)) (by decide) ?_
              refine g_istore w at_161 (q := 163) rfl (Ls' := #[.val (.int fl), .val (.int port), .val (.int db), .val (.int (fl &&& (3 : Int32))), .val (.int ((Jvm.Free.XT.ushr fl (2 : Int32)) &&& (255 : Int32))), .val (.int ((Jvm.Free.XT.ushr fl (10 : Int32)) &&& (255 : Int32))), .val (.int ((Jvm.Free.XT.ushr fl (18 : Int32)) &&& (255 : Int32))), .val (.ref x7), .val (.ref x8), .val (.int (0 : Int32)), .unset, .unset, .unset, .unset, .unset, .unset, .unset]) rfl ?_
              exact J163 _ (Or.inr ⟨rfl, Decidable.of_not_not (by rw [hh]; exact mt (sg3_fix hn4).mp (by simp [cd18, cd25, cd26, cd29, cd30]))⟩)
            · refine g_iload w at_149 (q := 151) rfl rfl ?_
              refine g_bipush w at_151 (q := 153) rfl (v := (58 : Int32)) (by decide) ?_
              refine g_ic_ne w at_153 (by decide) (q := 160) (by decide) (q' := 156) rfl (fun cd31 => ?_) (fun cd31 => ?_)
              · refine g_iconst w at_160 (q := 161) rfl (v := (0 : Int32)) (by decide) ?_
                refine g_istore w at_161 (q := 163) rfl (Ls' := #[.val (.int fl), .val (.int port), .val (.int db), .val (.int (fl &&& (3 : Int32))), .val (.int ((Jvm.Free.XT.ushr fl (2 : Int32)) &&& (255 : Int32))), .val (.int ((Jvm.Free.XT.ushr fl (10 : Int32)) &&& (255 : Int32))), .val (.int ((Jvm.Free.XT.ushr fl (18 : Int32)) &&& (255 : Int32))), .val (.ref x7), .val (.ref x8), .val (.int (0 : Int32)), .unset, .unset, .unset, .unset, .unset, .unset, .unset]) rfl ?_
                exact J163 _ (Or.inr ⟨rfl, Decidable.of_not_not (by rw [hh]; exact mt (sg3_fix hn4).mp (by simp [cd18, cd25, cd26, cd29, cd30, cd31]))⟩)
              · refine g_iconst w at_156 (q := 157) rfl (v := (1 : Int32)) (by decide) ?_
                refine g_goto w at_157 (by decide) (q := 161) (by decide) ?_
                refine g_istore w at_161 (q := 163) rfl (Ls' := #[.val (.int fl), .val (.int port), .val (.int db), .val (.int (fl &&& (3 : Int32))), .val (.int ((Jvm.Free.XT.ushr fl (2 : Int32)) &&& (255 : Int32))), .val (.int ((Jvm.Free.XT.ushr fl (10 : Int32)) &&& (255 : Int32))), .val (.int ((Jvm.Free.XT.ushr fl (18 : Int32)) &&& (255 : Int32))), .val (.ref x7), .val (.ref x8), .val (.int (1 : Int32)), .unset, .unset, .unset, .unset, .unset, .unset, .unset]) rfl ?_
                exact J163 _ (Or.inl ⟨rfl, by rw [hh]; exact (sg3_fix hn4).mpr (by simp [cd18, cd25, cd26, cd29, cd30, cd31])⟩)
  refine g_iloadN w at_36 (q := 37) rfl rfl ?_
  refine g_if_ne w at_37 (by decide) (q := 48) (by decide) (q' := 40) rfl (fun cd32 => ?_) (fun cd32 => ?_)
  · refine g_iloadN w at_48 (q := 49) rfl rfl ?_
    refine g_iconst w at_49 (q := 50) rfl (v := (1 : Int32)) (by decide) ?_
    refine g_ic_ne w at_50 (by decide) (q := 66) (by decide) (q' := 53) rfl (fun cd33 => ?_) (fun cd33 => ?_)
    · refine g_iloadN w at_66 (q := 67) rfl rfl ?_
      refine g_iconst w at_67 (q := 68) rfl (v := (2 : Int32)) (by decide) ?_
      refine g_ic_ne w at_68 (by decide) (q := 89) (by decide) (q' := 71) rfl (fun cd34 => ?_) (fun cd34 => ?_)
      · refine g_iconst w at_89 (q := 90) rfl (v := (3 : Int32)) (by decide) ?_
        refine g_newarr w at_90 (q := 92) rfl (Hw hw 0 rfl) (len := 3) (cap := 3) (by decide) (by decide) (by decide) (by decide) (by decide) (fun T h a35 w E g_a35 n_a35 A_a35 s_a35 => ?_)
        have z_a35 := Nat.le_trans E0.1 g_a35
        replace E0 := ext_trans E0 E
        replace A_a35 : Ar Z h a35 .char [(.int (0 : Int32)), (.int (0 : Int32)), (.int (0 : Int32))] := A_a35
        refine g_dup w at_92 (q := 93) rfl rfl ?_
        refine g_iconst w at_93 (q := 94) rfl (v := (0 : Int32)) (by decide) ?_
        refine g_iload w at_94 (q := 96) rfl rfl ?_
        refine g_castore w at_96 (q := 97) rfl A_a35 (i := 0) (by decide) (Nat.le_of_ble_eq_true rfl) (x' := ((Jvm.Free.XT.ushr fl (2 : Int32)) &&& (255 : Int32))) (nar_lat (mask255 _)) n_a35 (w.safeAr A_a35 (by decide)) (fun T h w W V => ?_)
        replace E0 := ext_wr E0 W z_a35
        replace A_a35 : Ar Z h a35 .char [(.int ((Jvm.Free.XT.ushr fl (2 : Int32)) &&& (255 : Int32))), (.int (0 : Int32)), (.int (0 : Int32))] := V
        refine g_dup w at_97 (q := 98) rfl rfl ?_
        refine g_iconst w at_98 (q := 99) rfl (v := (1 : Int32)) (by decide) ?_
        refine g_iload w at_99 (q := 101) rfl rfl ?_
        refine g_castore w at_101 (q := 102) rfl A_a35 (i := 1) (by decide) (Nat.le_of_ble_eq_true rfl) (x' := ((Jvm.Free.XT.ushr fl (10 : Int32)) &&& (255 : Int32))) (nar_lat (mask255 _)) n_a35 (w.safeAr A_a35 (by decide)) (fun T h w W V => ?_)
        replace E0 := ext_wr E0 W z_a35
        replace A_a35 : Ar Z h a35 .char [(.int ((Jvm.Free.XT.ushr fl (2 : Int32)) &&& (255 : Int32))), (.int ((Jvm.Free.XT.ushr fl (10 : Int32)) &&& (255 : Int32))), (.int (0 : Int32))] := V
        refine g_dup w at_102 (q := 103) rfl rfl ?_
        refine g_iconst w at_103 (q := 104) rfl (v := (2 : Int32)) (by decide) ?_
        refine g_iload w at_104 (q := 106) rfl rfl ?_
        refine g_castore w at_106 (q := 107) rfl A_a35 (i := 2) (by decide) (Nat.le_of_ble_eq_true rfl) (x' := ((Jvm.Free.XT.ushr fl (18 : Int32)) &&& (255 : Int32))) (nar_lat (mask255 _)) n_a35 (w.safeAr A_a35 (by decide)) (fun T h w W V => ?_)
        replace E0 := ext_wr E0 W z_a35
        replace A_a35 : Ar Z h a35 .char [(.int ((Jvm.Free.XT.ushr fl (2 : Int32)) &&& (255 : Int32))), (.int ((Jvm.Free.XT.ushr fl (10 : Int32)) &&& (255 : Int32))), (.int ((Jvm.Free.XT.ushr fl (18 : Int32)) &&& (255 : Int32)))] := V
        refine g_astore w at_107 (q := 109) rfl rfl (Ls' := #[.val (.int fl), .val (.int port), .val (.int db), .val (.int (fl &&& (3 : Int32))), .val (.int ((Jvm.Free.XT.ushr fl (2 : Int32)) &&& (255 : Int32))), .val (.int ((Jvm.Free.XT.ushr fl (10 : Int32)) &&& (255 : Int32))), .val (.int ((Jvm.Free.XT.ushr fl (18 : Int32)) &&& (255 : Int32))), .val (.ref a35), .unset, .unset, .unset, .unset, .unset, .unset, .unset, .unset, .unset]) rfl ?_
        refine g_new w at_109 (q := 112) rfl (Hw hw 1 rfl) (Hw hw 2 rfl) (Hw hw 3 rfl) (by decide) (by decide) (fun T h a36 w E g_a36 n_a36 X_a36 D_a36 s_a36 => ?_)
        have z_a36 := Nat.le_trans E0.1 g_a36
        have ne_a35_a36 : a35 ≠ a36 := Nat.ne_of_lt (Nat.lt_of_lt_of_le A_a35.lt g_a36)
        replace E0 := ext_trans E0 E
        replace A_a35 := A_a35.ext E
        have F_value_a36 := D_a36 (Or.inr (Hw hw 16 rfl)) (ty := (.array .byte)) (by decide)
        replace F_value_a36 : Fld Z h a36 "java/lang/String" "value" "[B" .null := F_value_a36
        have F_coder_a36 := D_a36 (Or.inr (Hw hw 17 rfl)) (ty := .byte) (by decide)
        replace F_coder_a36 : Fld Z h a36 "java/lang/String" "coder" "B" (.int (0 : Int32)) := F_coder_a36
        refine g_dup w at_112 (q := 113) rfl rfl ?_
        refine g_aload w at_113 (q := 115) rfl rfl rfl ?_
        obtain ⟨-, kC, dC, KC⟩ := A_a35
        refine g_specialB w (a := a36) (argsL := [.ref a35]) (kc := 1) (ks := 3) (wr := [a36]) (fun s' hZ' => StrChars.Road.backV (W := 1) (len := 3) (n0 := Z.heap.size) hZ' (own_hws hw) (kI := 4) (Hw hw 2 rfl) (cs := [((Jvm.Free.XT.ushr fl (2 : Int32)) &&& (255 : Int32)), ((Jvm.Free.XT.ushr fl (10 : Int32)) &&& (255 : Int32)), ((Jvm.Free.XT.ushr fl (18 : Int32)) &&& (255 : Int32))]) (n := 3) n_a36 w.old.1 X_a36 F_value_a36 F_coder_a36 KC (w.sta SC_) hz_ rfl rfl (by decide) (by decide) (csS (mask255 _) (csS (mask255 _) (csS (mask255 _) cs0))) rfl (by decide) (by decide)) (fun v h' L q => ⟨q.2.1, q.2.2.1⟩) (in1 (safe_null w.wz.alike (Hw hw 2 rfl) X_a36 F_value_a36)) (in1 n_a36) at_115 (q := 118) rfl rfl rfl (Hw hw 4 rfl) (Hw hw 5 rfl) (Hw hw 6 rfl) (by decide) pd34 rfl rfl (W := 1) (Nat.le_of_eq rfl) (by decide) (by decide) (fun T h v L w q => ?_)
        obtain ⟨rfl, -, K, X_t, F_c, t_, kb_, -, -, -, F_v, A_t⟩ := q
        replace E0 := ext_keep E0 K z_a36
        have X0 := X_a36
        replace X_a36 := X_a36.keep K
        have S_a36 : Sg Z h a36 [((Jvm.Free.XT.ushr fl (2 : Int32)) &&& (255 : Int32)), ((Jvm.Free.XT.ushr fl (10 : Int32)) &&& (255 : Int32)), ((Jvm.Free.XT.ushr fl (18 : Int32)) &&& (255 : Int32))] := ⟨Nat.le_of_ble_eq_true rfl, (csS (mask255 _) (csS (mask255 _) (csS (mask255 _) cs0))), X_t, t_, kb_, F_v, F_c, A_t⟩
        show Go p e below _ (State.setTop T (mkF m 118 #[.val (.int fl), .val (.int port), .val (.int db), .val (.int (fl &&& (3 : Int32))), .val (.int ((Jvm.Free.XT.ushr fl (2 : Int32)) &&& (255 : Int32))), .val (.int ((Jvm.Free.XT.ushr fl (10 : Int32)) &&& (255 : Int32))), .val (.int ((Jvm.Free.XT.ushr fl (18 : Int32)) &&& (255 : Int32))), .val (.ref a35), .unset, .unset, .unset, .unset, .unset, .unset, .unset, .unset, .unset] [(.ref a36)]))
        refine g_astore w at_118 (q := 120) rfl rfl (Ls' := #[.val (.int fl), .val (.int port), .val (.int db), .val (.int (fl &&& (3 : Int32))), .val (.int ((Jvm.Free.XT.ushr fl (2 : Int32)) &&& (255 : Int32))), .val (.int ((Jvm.Free.XT.ushr fl (10 : Int32)) &&& (255 : Int32))), .val (.int ((Jvm.Free.XT.ushr fl (18 : Int32)) &&& (255 : Int32))), .val (.ref a35), .val (.ref a36), .unset, .unset, .unset, .unset, .unset, .unset, .unset, .unset]) rfl ?_
        exact JH _ _ _ T _ _ S_a36 (by simp [sg3, cd32, cd33, cd34]) E0 (w.more (by decide) (by decide))
      · refine g_iconst w at_71 (q := 72) rfl (v := (2 : Int32)) (by decide) ?_
        refine g_newarr w at_72 (q := 74) rfl (Hw hw 0 rfl) (len := 2) (cap := 2) (by decide) (by decide) (by decide) (by decide) (by decide) (fun T h a37 w E g_a37 n_a37 A_a37 s_a37 => ?_)
        have z_a37 := Nat.le_trans E0.1 g_a37
        replace E0 := ext_trans E0 E
        replace A_a37 : Ar Z h a37 .char [(.int (0 : Int32)), (.int (0 : Int32))] := A_a37
        refine g_dup w at_74 (q := 75) rfl rfl ?_
        refine g_iconst w at_75 (q := 76) rfl (v := (0 : Int32)) (by decide) ?_
        refine g_iload w at_76 (q := 78) rfl rfl ?_
        refine g_castore w at_78 (q := 79) rfl A_a37 (i := 0) (by decide) (Nat.le_of_ble_eq_true rfl) (x' := ((Jvm.Free.XT.ushr fl (2 : Int32)) &&& (255 : Int32))) (nar_lat (mask255 _)) n_a37 (w.safeAr A_a37 (by decide)) (fun T h w W V => ?_)
        replace E0 := ext_wr E0 W z_a37
        replace A_a37 : Ar Z h a37 .char [(.int ((Jvm.Free.XT.ushr fl (2 : Int32)) &&& (255 : Int32))), (.int (0 : Int32))] := V
        refine g_dup w at_79 (q := 80) rfl rfl ?_
        refine g_iconst w at_80 (q := 81) rfl (v := (1 : Int32)) (by decide) ?_
        refine g_iload w at_81 (q := 83) rfl rfl ?_
        refine g_castore w at_83 (q := 84) rfl A_a37 (i := 1) (by decide) (Nat.le_of_ble_eq_true rfl) (x' := ((Jvm.Free.XT.ushr fl (10 : Int32)) &&& (255 : Int32))) (nar_lat (mask255 _)) n_a37 (w.safeAr A_a37 (by decide)) (fun T h w W V => ?_)
        replace E0 := ext_wr E0 W z_a37
        replace A_a37 : Ar Z h a37 .char [(.int ((Jvm.Free.XT.ushr fl (2 : Int32)) &&& (255 : Int32))), (.int ((Jvm.Free.XT.ushr fl (10 : Int32)) &&& (255 : Int32)))] := V
        refine g_astore w at_84 (q := 86) rfl rfl (Ls' := #[.val (.int fl), .val (.int port), .val (.int db), .val (.int (fl &&& (3 : Int32))), .val (.int ((Jvm.Free.XT.ushr fl (2 : Int32)) &&& (255 : Int32))), .val (.int ((Jvm.Free.XT.ushr fl (10 : Int32)) &&& (255 : Int32))), .val (.int ((Jvm.Free.XT.ushr fl (18 : Int32)) &&& (255 : Int32))), .val (.ref a37), .unset, .unset, .unset, .unset, .unset, .unset, .unset, .unset, .unset]) rfl ?_
        refine g_goto w at_86 (by decide) (q := 109) (by decide) ?_
        refine g_new w at_109 (q := 112) rfl (Hw hw 1 rfl) (Hw hw 2 rfl) (Hw hw 3 rfl) (by decide) (by decide) (fun T h a38 w E g_a38 n_a38 X_a38 D_a38 s_a38 => ?_)
        have z_a38 := Nat.le_trans E0.1 g_a38
        have ne_a37_a38 : a37 ≠ a38 := Nat.ne_of_lt (Nat.lt_of_lt_of_le A_a37.lt g_a38)
        replace E0 := ext_trans E0 E
        replace A_a37 := A_a37.ext E
        have F_value_a38 := D_a38 (Or.inr (Hw hw 16 rfl)) (ty := (.array .byte)) (by decide)
        replace F_value_a38 : Fld Z h a38 "java/lang/String" "value" "[B" .null := F_value_a38
        have F_coder_a38 := D_a38 (Or.inr (Hw hw 17 rfl)) (ty := .byte) (by decide)
        replace F_coder_a38 : Fld Z h a38 "java/lang/String" "coder" "B" (.int (0 : Int32)) := F_coder_a38
        refine g_dup w at_112 (q := 113) rfl rfl ?_
        refine g_aload w at_113 (q := 115) rfl rfl rfl ?_
        obtain ⟨-, kC, dC, KC⟩ := A_a37
        refine g_specialB w (a := a38) (argsL := [.ref a37]) (kc := 1) (ks := 2) (wr := [a38]) (fun s' hZ' => StrChars.Road.backV (W := 1) (len := 3) (n0 := Z.heap.size) hZ' (own_hws hw) (kI := 4) (Hw hw 2 rfl) (cs := [((Jvm.Free.XT.ushr fl (2 : Int32)) &&& (255 : Int32)), ((Jvm.Free.XT.ushr fl (10 : Int32)) &&& (255 : Int32))]) (n := 2) n_a38 w.old.1 X_a38 F_value_a38 F_coder_a38 KC (w.sta SC_) hz_ rfl rfl (by decide) (by decide) (csS (mask255 _) (csS (mask255 _) cs0)) rfl (by decide) (by decide)) (fun v h' L q => ⟨q.2.1, q.2.2.1⟩) (in1 (safe_null w.wz.alike (Hw hw 2 rfl) X_a38 F_value_a38)) (in1 n_a38) at_115 (q := 118) rfl rfl rfl (Hw hw 4 rfl) (Hw hw 5 rfl) (Hw hw 6 rfl) (by decide) pd34 rfl rfl (W := 1) (Nat.le_of_eq rfl) (by decide) (by decide) (fun T h v L w q => ?_)
        obtain ⟨rfl, -, K, X_t, F_c, t_, kb_, -, -, -, F_v, A_t⟩ := q
        replace E0 := ext_keep E0 K z_a38
        have X0 := X_a38
        replace X_a38 := X_a38.keep K
        have S_a38 : Sg Z h a38 [((Jvm.Free.XT.ushr fl (2 : Int32)) &&& (255 : Int32)), ((Jvm.Free.XT.ushr fl (10 : Int32)) &&& (255 : Int32))] := ⟨Nat.le_of_ble_eq_true rfl, (csS (mask255 _) (csS (mask255 _) cs0)), X_t, t_, kb_, F_v, F_c, A_t⟩
        show Go p e below _ (State.setTop T (mkF m 118 #[.val (.int fl), .val (.int port), .val (.int db), .val (.int (fl &&& (3 : Int32))), .val (.int ((Jvm.Free.XT.ushr fl (2 : Int32)) &&& (255 : Int32))), .val (.int ((Jvm.Free.XT.ushr fl (10 : Int32)) &&& (255 : Int32))), .val (.int ((Jvm.Free.XT.ushr fl (18 : Int32)) &&& (255 : Int32))), .val (.ref a37), .unset, .unset, .unset, .unset, .unset, .unset, .unset, .unset, .unset] [(.ref a38)]))
        refine g_astore w at_118 (q := 120) rfl rfl (Ls' := #[.val (.int fl), .val (.int port), .val (.int db), .val (.int (fl &&& (3 : Int32))), .val (.int ((Jvm.Free.XT.ushr fl (2 : Int32)) &&& (255 : Int32))), .val (.int ((Jvm.Free.XT.ushr fl (10 : Int32)) &&& (255 : Int32))), .val (.int ((Jvm.Free.XT.ushr fl (18 : Int32)) &&& (255 : Int32))), .val (.ref a37), .val (.ref a38), .unset, .unset, .unset, .unset, .unset, .unset, .unset, .unset]) rfl ?_
        exact JH _ _ _ T _ _ S_a38 (by simp [sg3, cd32, cd33, cd34]) E0 (w.more (by decide) (by decide))
    · refine g_iconst w at_53 (q := 54) rfl (v := (1 : Int32)) (by decide) ?_
      refine g_newarr w at_54 (q := 56) rfl (Hw hw 0 rfl) (len := 1) (cap := 1) (by decide) (by decide) (by decide) (by decide) (by decide) (fun T h a39 w E g_a39 n_a39 A_a39 s_a39 => ?_)
      have z_a39 := Nat.le_trans E0.1 g_a39
      replace E0 := ext_trans E0 E
      replace A_a39 : Ar Z h a39 .char [(.int (0 : Int32))] := A_a39
      refine g_dup w at_56 (q := 57) rfl rfl ?_
      refine g_iconst w at_57 (q := 58) rfl (v := (0 : Int32)) (by decide) ?_
      refine g_iload w at_58 (q := 60) rfl rfl ?_
      refine g_castore w at_60 (q := 61) rfl A_a39 (i := 0) (by decide) (Nat.le_of_ble_eq_true rfl) (x' := ((Jvm.Free.XT.ushr fl (2 : Int32)) &&& (255 : Int32))) (nar_lat (mask255 _)) n_a39 (w.safeAr A_a39 (by decide)) (fun T h w W V => ?_)
      replace E0 := ext_wr E0 W z_a39
      replace A_a39 : Ar Z h a39 .char [(.int ((Jvm.Free.XT.ushr fl (2 : Int32)) &&& (255 : Int32)))] := V
      refine g_astore w at_61 (q := 63) rfl rfl (Ls' := #[.val (.int fl), .val (.int port), .val (.int db), .val (.int (fl &&& (3 : Int32))), .val (.int ((Jvm.Free.XT.ushr fl (2 : Int32)) &&& (255 : Int32))), .val (.int ((Jvm.Free.XT.ushr fl (10 : Int32)) &&& (255 : Int32))), .val (.int ((Jvm.Free.XT.ushr fl (18 : Int32)) &&& (255 : Int32))), .val (.ref a39), .unset, .unset, .unset, .unset, .unset, .unset, .unset, .unset, .unset]) rfl ?_
      refine g_goto w at_63 (by decide) (q := 109) (by decide) ?_
      refine g_new w at_109 (q := 112) rfl (Hw hw 1 rfl) (Hw hw 2 rfl) (Hw hw 3 rfl) (by decide) (by decide) (fun T h a40 w E g_a40 n_a40 X_a40 D_a40 s_a40 => ?_)
      have z_a40 := Nat.le_trans E0.1 g_a40
      have ne_a39_a40 : a39 ≠ a40 := Nat.ne_of_lt (Nat.lt_of_lt_of_le A_a39.lt g_a40)
      replace E0 := ext_trans E0 E
      replace A_a39 := A_a39.ext E
      have F_value_a40 := D_a40 (Or.inr (Hw hw 16 rfl)) (ty := (.array .byte)) (by decide)
      replace F_value_a40 : Fld Z h a40 "java/lang/String" "value" "[B" .null := F_value_a40
      have F_coder_a40 := D_a40 (Or.inr (Hw hw 17 rfl)) (ty := .byte) (by decide)
      replace F_coder_a40 : Fld Z h a40 "java/lang/String" "coder" "B" (.int (0 : Int32)) := F_coder_a40
      refine g_dup w at_112 (q := 113) rfl rfl ?_
      refine g_aload w at_113 (q := 115) rfl rfl rfl ?_
      obtain ⟨-, kC, dC, KC⟩ := A_a39
      refine g_specialB w (a := a40) (argsL := [.ref a39]) (kc := 1) (ks := 1) (wr := [a40]) (fun s' hZ' => StrChars.Road.backV (W := 1) (len := 3) (n0 := Z.heap.size) hZ' (own_hws hw) (kI := 4) (Hw hw 2 rfl) (cs := [((Jvm.Free.XT.ushr fl (2 : Int32)) &&& (255 : Int32))]) (n := 1) n_a40 w.old.1 X_a40 F_value_a40 F_coder_a40 KC (w.sta SC_) hz_ rfl rfl (by decide) (by decide) (csS (mask255 _) cs0) rfl (by decide) (by decide)) (fun v h' L q => ⟨q.2.1, q.2.2.1⟩) (in1 (safe_null w.wz.alike (Hw hw 2 rfl) X_a40 F_value_a40)) (in1 n_a40) at_115 (q := 118) rfl rfl rfl (Hw hw 4 rfl) (Hw hw 5 rfl) (Hw hw 6 rfl) (by decide) pd34 rfl rfl (W := 1) (Nat.le_of_eq rfl) (by decide) (by decide) (fun T h v L w q => ?_)
      obtain ⟨rfl, -, K, X_t, F_c, t_, kb_, -, -, -, F_v, A_t⟩ := q
      replace E0 := ext_keep E0 K z_a40
      have X0 := X_a40
      replace X_a40 := X_a40.keep K
      have S_a40 : Sg Z h a40 [((Jvm.Free.XT.ushr fl (2 : Int32)) &&& (255 : Int32))] := ⟨Nat.le_of_ble_eq_true rfl, (csS (mask255 _) cs0), X_t, t_, kb_, F_v, F_c, A_t⟩
      show Go p e below _ (State.setTop T (mkF m 118 #[.val (.int fl), .val (.int port), .val (.int db), .val (.int (fl &&& (3 : Int32))), .val (.int ((Jvm.Free.XT.ushr fl (2 : Int32)) &&& (255 : Int32))), .val (.int ((Jvm.Free.XT.ushr fl (10 : Int32)) &&& (255 : Int32))), .val (.int ((Jvm.Free.XT.ushr fl (18 : Int32)) &&& (255 : Int32))), .val (.ref a39), .unset, .unset, .unset, .unset, .unset, .unset, .unset, .unset, .unset] [(.ref a40)]))
      refine g_astore w at_118 (q := 120) rfl rfl (Ls' := #[.val (.int fl), .val (.int port), .val (.int db), .val (.int (fl &&& (3 : Int32))), .val (.int ((Jvm.Free.XT.ushr fl (2 : Int32)) &&& (255 : Int32))), .val (.int ((Jvm.Free.XT.ushr fl (10 : Int32)) &&& (255 : Int32))), .val (.int ((Jvm.Free.XT.ushr fl (18 : Int32)) &&& (255 : Int32))), .val (.ref a39), .val (.ref a40), .unset, .unset, .unset, .unset, .unset, .unset, .unset, .unset]) rfl ?_
      exact JH _ _ _ T _ _ S_a40 (by simp [sg3, cd32, cd33]) E0 (w.more (by decide) (by decide))
  · refine g_iconst w at_40 (q := 41) rfl (v := (0 : Int32)) (by decide) ?_
    refine g_newarr w at_41 (q := 43) rfl (Hw hw 0 rfl) (len := 0) (cap := 0) (by decide) (by decide) (by decide) (by decide) (by decide) (fun T h a41 w E g_a41 n_a41 A_a41 s_a41 => ?_)
    have z_a41 := Nat.le_trans E0.1 g_a41
    replace E0 := ext_trans E0 E
    replace A_a41 : Ar Z h a41 .char [] := A_a41
    refine g_astore w at_43 (q := 45) rfl rfl (Ls' := #[.val (.int fl), .val (.int port), .val (.int db), .val (.int (fl &&& (3 : Int32))), .val (.int ((Jvm.Free.XT.ushr fl (2 : Int32)) &&& (255 : Int32))), .val (.int ((Jvm.Free.XT.ushr fl (10 : Int32)) &&& (255 : Int32))), .val (.int ((Jvm.Free.XT.ushr fl (18 : Int32)) &&& (255 : Int32))), .val (.ref a41), .unset, .unset, .unset, .unset, .unset, .unset, .unset, .unset, .unset]) rfl ?_
    refine g_goto w at_45 (by decide) (q := 109) (by decide) ?_
    refine g_new w at_109 (q := 112) rfl (Hw hw 1 rfl) (Hw hw 2 rfl) (Hw hw 3 rfl) (by decide) (by decide) (fun T h a42 w E g_a42 n_a42 X_a42 D_a42 s_a42 => ?_)
    have z_a42 := Nat.le_trans E0.1 g_a42
    have ne_a41_a42 : a41 ≠ a42 := Nat.ne_of_lt (Nat.lt_of_lt_of_le A_a41.lt g_a42)
    replace E0 := ext_trans E0 E
    replace A_a41 := A_a41.ext E
    have F_value_a42 := D_a42 (Or.inr (Hw hw 16 rfl)) (ty := (.array .byte)) (by decide)
    replace F_value_a42 : Fld Z h a42 "java/lang/String" "value" "[B" .null := F_value_a42
    have F_coder_a42 := D_a42 (Or.inr (Hw hw 17 rfl)) (ty := .byte) (by decide)
    replace F_coder_a42 : Fld Z h a42 "java/lang/String" "coder" "B" (.int (0 : Int32)) := F_coder_a42
    refine g_dup w at_112 (q := 113) rfl rfl ?_
    refine g_aload w at_113 (q := 115) rfl rfl rfl ?_
    refine g_special w (con_new1E l Z a0 hw a42 a41 _ w.old X_a42 F_value_a42 F_coder_a42 n_a42 A_a41 ne_a41_a42) no0 at_115 (q := 118) rfl rfl rfl (Hw hw 4 rfl) (Hw hw 5 rfl) (Hw hw 3 rfl) (Hw hw 6 rfl) (by decide) pd34 rfl rfl (W := 1) (Nat.le_of_eq rfl) (by decide) (by decide) (by decide) (by decide) (fun T h v w gs C q => ?_)
    obtain ⟨rfl, K, S_a42⟩ := q
    replace E0 := ext_keep E0 K z_a42
    have X0 := X_a42
    replace A_a41 := A_a41.keep K (not1 ne_a41_a42)
    replace X_a42 := X_a42.keep K
    show Go p e below _ (State.setTop T (mkF m 118 #[.val (.int fl), .val (.int port), .val (.int db), .val (.int (fl &&& (3 : Int32))), .val (.int ((Jvm.Free.XT.ushr fl (2 : Int32)) &&& (255 : Int32))), .val (.int ((Jvm.Free.XT.ushr fl (10 : Int32)) &&& (255 : Int32))), .val (.int ((Jvm.Free.XT.ushr fl (18 : Int32)) &&& (255 : Int32))), .val (.ref a41), .unset, .unset, .unset, .unset, .unset, .unset, .unset, .unset, .unset] [(.ref a42)]))
    refine g_astore w at_118 (q := 120) rfl rfl (Ls' := #[.val (.int fl), .val (.int port), .val (.int db), .val (.int (fl &&& (3 : Int32))), .val (.int ((Jvm.Free.XT.ushr fl (2 : Int32)) &&& (255 : Int32))), .val (.int ((Jvm.Free.XT.ushr fl (10 : Int32)) &&& (255 : Int32))), .val (.int ((Jvm.Free.XT.ushr fl (18 : Int32)) &&& (255 : Int32))), .val (.ref a41), .val (.ref a42), .unset, .unset, .unset, .unset, .unset, .unset, .unset, .unset]) rfl ?_
    exact JH _ _ _ T _ _ S_a42 (by simp [sg3, cd32]) E0 (w.more (by decide) (by decide))
theorem dgr : ∀ j : Fin 100, (48 : Int32) + Int32.ofNat j.1 % 10 = Int32.ofNat (48 + j.1 % 10) := by decide +kernel
theorem dgd : ∀ j : Fin 100, (48 : Int32) + Int32.ofNat j.1 / 10 = Int32.ofNat (48 + j.1 / 10) := by decide +kernel
theorem dig_ev_rem {aa : Array Value} {Z : State} {j : Nat} (hj : j < 100) : (Term.add (.int 48) (.rem (.index 0) (.int 10))).eval aa Z none [j] Z = some (.int (Int32.ofNat (48 + j % 10))) := by
  have g := dgr ⟨j, hj⟩
  have e : j.toInt32 = Int32.ofNat j := rfl
  simp only [Term.eval, List.getElem?_cons_zero, Option.bind_eq_bind, Option.bind_some]
  simp [e, g]
theorem dig_ev_div {aa : Array Value} {Z : State} {j : Nat} (hj : j < 100) : (Term.add (.int 48) (.div (.index 0) (.int 10))).eval aa Z none [j] Z = some (.int (Int32.ofNat (48 + j / 10))) := by
  have g := dgd ⟨j, hj⟩
  have e : j.toInt32 = Int32.ofNat j := rfl
  simp only [Term.eval, List.getElem?_cons_zero, Option.bind_eq_bind, Option.bind_some]
  simp [e, g]
set_option maxRecDepth 65536 in
set_option maxHeartbeats 40000000 in
theorem comes_1 {Post : Tables → Env → Array Value → State → Outcome → State → Prop} (hpost : ∀ tb e args s v u, (limb_1_1.after args s (.returned v) u = true ∧ limb_1_2.after args s (.returned v) u = true ∧ True) → ReturnedEndW s (.returned v) u (Jvm.fieldLocs frame_1_writes args s ++ Jvm.arrayLocs frame_1_arrays args s ++ Jvm.staticLocs frame_1_statics s) 48 6592 → Post tb e args s (.returned v) u) :
    ArmFor flags0 classFile x code maxLocals ret World_1 tables_1 room_1 Calls_1 rest_1 Pre_1 Post := by
  intro l hfl _ _ p e ha hc hk s m args below hf hA hF happ hP
  obtain ⟨hcalls, hrest, hpre⟩ := hP
  obtain ⟨-, -, -, hnamed, -, -, -, hat⟩ := (Spec.applies_iff hf).mp happ
  obtain ⟨hg, hn⟩ := and_e (Cond.before_iff.mp (show (Jvm.Cond.and given_1 narrow_1).before args s = true from hpre))
  obtain ⟨h1, hr0⟩ := and_e hg
  obtain ⟨w0, w1, w2, rfl⟩ : ∃ w0 w1 w2 : Value, args = #[w0, w1, w2] := by
    have hs : args.size = 3 := by simpa [Cond.value, given_1] using h1
    obtain ⟨L⟩ := args
    match L, hs with
    | [w0, w1, w2], _ => exact ⟨w0, w1, w2, rfl⟩
  obtain ⟨q0, hr1⟩ := and_e hr0
  obtain ⟨i0, ei0⟩ := is_v q0
  obtain rfl : w0 = (.int i0) := Option.some.inj ei0
  obtain ⟨q1, hr2⟩ := and_e hr1
  obtain ⟨i1, ei1⟩ := is_v q1
  obtain rfl : w1 = (.int i1) := Option.some.inj ei1
  obtain ⟨i2, ei2⟩ := is_v hr2
  obtain rfl : w2 = (.int i2) := Option.some.inj ei2
  have hw := fun d (hd : d ∈ tables_1) => atoms_spec (ws := Jvm.Cond.code x code maxLocals ret :: tables_1) hat d (List.mem_cons_of_mem _ hd)
  have hfit : Fit s := fun {y c} hc i hi => by
    obtain ⟨ha, rfl⟩ := Array.getElem?_eq_some_iff.mp hc
    have q := List.all_eq_true.mp ((Array.all_eq_true_iff_forall_mem.mp hF) _ (Array.getElem_mem ha)) i (List.mem_range.mpr hi)
    simpa [Array.getElem?_eq_getElem hi] using q
  obtain ⟨hsets, hown0⟩ := atoms_of _ (rest_1_c_eq ▸ (show rest_1_c.before _ s = true from hrest))
  have hcm : Cpt s := by
    obtain ⟨z, ez⟩ := is_v (Cond.before_iff.mp (hsets _ (List.mem_of_getElem? (i := 1) rfl)))
    refine ⟨z, ?_, Sta.start ez (Or.inl (hsets _ (List.mem_of_getElem? (i := 0) rfl)))⟩
    intro hz; subst hz
    have q := not_v (Cond.before_iff.mp (hsets _ (List.mem_of_getElem? (i := 2) rfl)))
    rw [eq_i ez (Term.int_eval (0)) rfl] at q; cases q
  obtain ⟨fm, efm, rfm⟩ := isR_v (Cond.before_iff.mp (hsets _ (List.mem_of_getElem? (i := 8) rfl)))
  have SFm := Sta.start efm (Or.inl (hsets _ (List.mem_of_getElem? (i := 7) rfl)))
  obtain ⟨d1, ed1⟩ := exa_v (Cond.before_iff.mp (hsets _ (List.mem_of_getElem? (i := 12) rfl)))
  have SO_ := Sta.start ed1 (Or.inl (hsets _ (List.mem_of_getElem? (i := 11) rfl)))
  have D1_ : Dg s d1 100 (fun j => Int32.ofNat (48 + j % 10)) := dg_start (F := .add (.int 48) (.rem (.index 0) (.int 10))) (fun idx => by simp only [Term.eval] at ed1 ⊢; exact ed1) (Cond.before_iff.mp (hsets _ (List.mem_of_getElem? (i := 12) rfl))) (Hw hw 15 rfl) (eqv_i (Term.int_eval 100) (Cond.before_iff.mp (hsets _ (List.mem_of_getElem? (i := 13) rfl)))) rfl (by decide) (Cond.before_iff.mp (hsets _ (List.mem_of_getElem? (i := 14) rfl))) (fun j hj => by exact dig_ev_rem hj)
  obtain ⟨d10, ed10⟩ := exa_v (Cond.before_iff.mp (hsets _ (List.mem_of_getElem? (i := 17) rfl)))
  have SX_ := Sta.start ed10 (Or.inl (hsets _ (List.mem_of_getElem? (i := 16) rfl)))
  have D10_ : Dg s d10 100 (fun j => Int32.ofNat (48 + j / 10)) := dg_start (F := .add (.int 48) (.div (.index 0) (.int 10))) (fun idx => by simp only [Term.eval] at ed10 ⊢; exact ed10) (Cond.before_iff.mp (hsets _ (List.mem_of_getElem? (i := 17) rfl))) (Hw hw 15 rfl) (eqv_i (Term.int_eval 100) (Cond.before_iff.mp (hsets _ (List.mem_of_getElem? (i := 18) rfl)))) rfl (by decide) (Cond.before_iff.mp (hsets _ (List.mem_of_getElem? (i := 19) rfl))) (fun j hj => by exact dig_ev_div hj)
  have hch : CHv s consts_1 s.vm s.heap := CHv.start (own_EL hw) (fun p hp => hcalls.1 p hp) (hsets _ (List.mem_of_getElem? (i := 2) rfl)) (Hw hw 15 rfl) (Hw hw 2 rfl)
  obtain ⟨n, o, h1, h2, h3, _, L, rfl, rfl, O, N, C, W, hq⟩ := con_law l s _ hw d1 d10 fm i0 i1 i2 s.heap (ext_refl _) hcm SO_ SX_ D1_ D10_ SFm rfm p e ha hc hk s m _ below hf ((Spec.applies_iff_loose hf).mp happ).1 ⟨rfl, State.Warmed39.refl s, rfl, hch, no0⟩ trivial
  refine ⟨n, _, h1, h2, h3, hpost _ _ _ _ _ _ ⟨Cond.after_iff.mpr rfl, Cond.after_iff.mpr (eq_i res_at (Term.int_eval (1)) rfl), trivial⟩ ⟨hq.1, hq.2.1, hq.2.2.1, (hq.2.2.2.sift fun y hy => Or.inr (N y hy)).mono (by decide) (by decide)⟩⟩
theorem main_1_1 : Claimed_1_1 := comes_1 fun _ _ _ _ _ _ h hF => ⟨h.1, hF⟩
theorem main_1_2 : Claimed_1_2 := comes_1 fun _ _ _ _ _ _ h hF => ⟨h.2.1, hF⟩
end Jvm.Pilot.@@N@@
namespace Jvm.Pilot.@@N@@
open Jvm Jvm.ClassFile Sem Op Lib Jvm.Free Jvm.Stand Jvm.Pilot.@@N@@.Jvm.D
/-! MADE BY PROGRAM (witnessworld.py) out of the Statement's table words and the real class files: 29 classes; the members and pool entries that the words name. The judged class is class 1, her method 1. -/
namespace start1
open Jvm.ClassFile
def u (s : String) : CpInfo := .utf8 (stringToUtf16 s)
/-- a pool by its gaps: so many unusable entries, then the entry; so many at the end -/
def gap : Nat → List CpInfo → List CpInfo
  | 0, r => r
  | n + 1, r => .unusable :: gap n r
def poolList (es : List (Nat × CpInfo)) (last : Nat) : List CpInfo := es.foldr (fun e r => gap e.1 (e.2 :: r)) (gap last [])
def pool (es : List (Nat × CpInfo)) (last : Nat) : Array CpInfo := ⟨poolList es last⟩
def fileOf (pool : Array CpInfo) (this : Nat) (attrs : Array Attribute := #[]) (ms : Array MethodInfo := #[]) (fl : Nat := 33) (sup : Nat := 0) (ifs : Array Nat := #[]) (fds : Array FieldInfo := #[]) : ClassFile where
  minorVersion := 0
  majorVersion := 65
  constantPool := pool
  accessFlags := fl
  thisClass := this
  superClass := sup
  interfaces := ifs
  fields := fds
  methods := ms
  attributes := attrs
def plain (name : String) (sup : Option ClassId) : Class where
  name := name
  kind := .ordinary
  loader := none
  accessFlags := 33
  super := sup
  interfaces := #[]
  cf := none
  fields := #[]
  methods := #[]
  instanceTypes := #[]
  staticTypes := #[]
  resolved := #[]
  callSites := []
  init := .initialized
  statics := none
  mirror := none

def pool0 : Array CpInfo := pool [(5, u "<init>"), (0, u "()V"), (1, .class_ 10), (1, u "java/lang/Object"), (85, u "clone"), (0, u "()Ljava/lang/Object;")] 26

def k0c0 : Code := { maxStack := 0, maxLocals := 1, code := object_method_1_code, exceptionTable := #[], attributes := #[] }
def k0m0 : Method := { name := "<init>", desc := "()V", sig := { parameters := [], returnType := none }, accessFlags := 1, code := some k0c0 }
def k0m1 : Method := { name := "clone", desc := "()Ljava/lang/Object;", sig := { parameters := [], returnType := some (.object "java/lang/Object") }, accessFlags := 260, code := none }
/-- java/lang/Object -/
def k0 : Class := { plain "java/lang/Object" none with
  accessFlags := 33
  interfaces := #[]
  cf := some (fileOf pool0 8 #[] #[{ accessFlags := 1, nameIndex := 5, descriptorIndex := 6, attributes := #[] }, { accessFlags := 260, nameIndex := 96, descriptorIndex := 97, attributes := #[] }] 33 0 #[] #[])
  fields := #[]
  methods := #[k0m0, k0m1]
  instanceTypes := #[]
  staticTypes := #[]
  resolved := Array.replicate 124 none
  statics := none }

def pool1 : Array CpInfo := pool [(2, .class_ 4), (1, u "java/lang/Object"), (0, u "<init>"), (0, u "()V"), (0, .class_ 8), (0, u "java/lang/String"), (0, .methodref 7 10), (0, .nameAndType 5 11), (0, u "([C)V"), (0, .class_ 13), (0, u "com/example/devizes/devizes/redis/RedisAddress"), (0, .methodref 12 15), (0, .nameAndType 5 16), (0, u "(Ljava/lang/String;II)V"), (0, .methodref 12 18), (0, .nameAndType 19 20), (0, u "toString"), (0, u "()Ljava/lang/String;"), (0, .methodref 22 23), (0, .class_ 24), (0, .nameAndType 25 26), (0, u "com/example/devizes/devizes/redis/RedisAddressToStringPinLaw"), (0, u "decLen"), (0, u "(I)I"), (0, .methodref 7 28), (0, .nameAndType 29 30), (0, u "length"), (0, u "()I"), (0, .methodref 7 32), (0, .nameAndType 33 34), (0, u "charAt"), (0, u "(I)C"), (0, .methodref 22 36), (0, .nameAndType 37 38), (0, u "hostAt"), (0, u "(Ljava/lang/String;IICCC)Z"), (0, .methodref 22 40), (0, .nameAndType 41 42), (0, u "digitsAt"), (0, u "(Ljava/lang/String;II)Z"), (0, .methodref 44 45), (0, .class_ 46), (0, .nameAndType 47 48), (0, u "java/lang/Math"), (0, u "abs"), (0, u "(J)J"), (0, .long 10), (1, .long 100), (1, .long 1000), (1, .long 10000), (1, .long 100000), (1, .long 1000000), (1, .long 10000000), (1, .long 100000000), (1, .long 1000000000), (1, .methodref 22 68), (0, .nameAndType 69 70), (0, u "dig"), (0, u "(Ljava/lang/String;IJIIJ)Z"), (2, u "law"), (0, u "(III)Z")] 5

def k1m0 : Method := { name := "<init>", desc := "()V", sig := { parameters := [], returnType := none }, accessFlags := 1, code := none }
def k1c1 : Code := { maxStack := 6, maxLocals := 17, code := code, exceptionTable := #[], attributes := #[] }
def k1m1 : Method := { name := "law", desc := "(III)Z", sig := { parameters := [.int, .int, .int], returnType := some .boolean }, accessFlags := 9, code := some k1c1 }
def k1c2 : Code := { maxStack := 3, maxLocals := 6, code := method_3_code, exceptionTable := #[], attributes := #[] }
def k1m2 : Method := { name := "hostAt", desc := "(Ljava/lang/String;IICCC)Z", sig := { parameters := [(.object "java/lang/String"), .int, .int, .char, .char, .char], returnType := some .boolean }, accessFlags := 10, code := some k1c2 }
def k1c3 : Code := { maxStack := 4, maxLocals := 4, code := method_4_code, exceptionTable := #[], attributes := #[] }
def k1m3 : Method := { name := "decLen", desc := "(I)I", sig := { parameters := [.int], returnType := some .int }, accessFlags := 10, code := some k1c3 }
def k1c4 : Code := { maxStack := 8, maxLocals := 8, code := method_5_code, exceptionTable := #[], attributes := #[] }
def k1m4 : Method := { name := "digitsAt", desc := "(Ljava/lang/String;II)Z", sig := { parameters := [(.object "java/lang/String"), .int, .int], returnType := some .boolean }, accessFlags := 10, code := some k1c4 }
def k1c5 : Code := { maxStack := 6, maxLocals := 8, code := method_6_code, exceptionTable := #[], attributes := #[] }
def k1m5 : Method := { name := "dig", desc := "(Ljava/lang/String;IJIIJ)Z", sig := { parameters := [(.object "java/lang/String"), .int, .long, .int, .int, .long], returnType := some .boolean }, accessFlags := 10, code := some k1c5 }
/-- com/example/devizes/devizes/redis/RedisAddressToStringPinLaw -/
def k1 : Class := { plain "com/example/devizes/devizes/redis/RedisAddressToStringPinLaw" (some 0) with
  accessFlags := 49
  interfaces := #[]
  cf := some (fileOf pool1 22 #[] #[{ accessFlags := 1, nameIndex := 5, descriptorIndex := 6, attributes := #[] }, { accessFlags := 9, nameIndex := 73, descriptorIndex := 74, attributes := #[] }, { accessFlags := 10, nameIndex := 37, descriptorIndex := 38, attributes := #[] }, { accessFlags := 10, nameIndex := 25, descriptorIndex := 26, attributes := #[] }, { accessFlags := 10, nameIndex := 41, descriptorIndex := 42, attributes := #[] }, { accessFlags := 10, nameIndex := 69, descriptorIndex := 70, attributes := #[] }] 49 2 #[] #[])
  fields := #[]
  methods := #[k1m0, k1m1, k1m2, k1m3, k1m4, k1m5]
  instanceTypes := #[]
  staticTypes := #[]
  resolved := Array.replicate 80 none
  statics := none }

def pool2 : Array CpInfo := pool [(1, .class_ 2), (0, u "java/io/Serializable"), (0, .class_ 4), (0, u "java/lang/Object")] 2

/-- java/io/Serializable -/
def k2 : Class := { plain "java/io/Serializable" (some 0) with
  accessFlags := 1537
  interfaces := #[]
  cf := some (fileOf pool2 1 #[] #[] 1537 3 #[] #[])
  fields := #[]
  methods := #[]
  instanceTypes := #[]
  staticTypes := #[]
  resolved := Array.replicate 7 none
  statics := none }

def pool3 : Array CpInfo := pool [(1, .class_ 2), (0, u "java/lang/Comparable"), (0, .class_ 4), (0, u "java/lang/Object")] 7

/-- java/lang/Comparable -/
def k3 : Class := { plain "java/lang/Comparable" (some 0) with
  accessFlags := 1537
  interfaces := #[]
  cf := some (fileOf pool3 1 #[] #[] 1537 3 #[] #[])
  fields := #[]
  methods := #[]
  instanceTypes := #[]
  staticTypes := #[]
  resolved := Array.replicate 12 none
  statics := none }

def pool4 : Array CpInfo := pool [(2, .class_ 4), (1, u "java/lang/CharSequence"), (42, .class_ 48), (0, u "java/lang/CharSequence$1CodePointIterator"), (10, .class_ 60), (0, u "java/lang/CharSequence$1CharIterator"), (5, .class_ 67), (0, u "java/lang/Object"), (10, u "toString"), (0, u "()Ljava/lang/String;")] 51

def k4m0 : Method := { name := "toString", desc := "()Ljava/lang/String;", sig := { parameters := [], returnType := some (.object "java/lang/String") }, accessFlags := 1025, code := none }
/-- java/lang/CharSequence -/
def k4 : Class := { plain "java/lang/CharSequence" (some 0) with
  accessFlags := 1537
  interfaces := #[]
  cf := some (fileOf pool4 2 #[.nestMembers #[47, 59]] #[{ accessFlags := 1025, nameIndex := 78, descriptorIndex := 79, attributes := #[] }] 1537 66 #[] #[])
  fields := #[]
  methods := #[k4m0]
  instanceTypes := #[]
  staticTypes := #[]
  resolved := Array.replicate 131 none
  statics := none }

def pool5 : Array CpInfo := pool [(1, .class_ 2), (0, u "java/lang/constant/Constable"), (0, .class_ 4), (0, u "java/lang/Object")] 6

/-- java/lang/constant/Constable -/
def k5 : Class := { plain "java/lang/constant/Constable" (some 0) with
  accessFlags := 1537
  interfaces := #[]
  cf := some (fileOf pool5 1 #[] #[] 1537 3 #[] #[])
  fields := #[]
  methods := #[]
  instanceTypes := #[]
  staticTypes := #[]
  resolved := Array.replicate 11 none
  statics := none }

def pool6 : Array CpInfo := pool [(1, .class_ 2), (0, u "java/lang/constant/ConstantDesc"), (0, .class_ 4), (0, u "java/lang/Object")] 32

/-- java/lang/constant/ConstantDesc -/
def k6 : Class := { plain "java/lang/constant/ConstantDesc" (some 0) with
  accessFlags := 1537
  interfaces := #[]
  cf := some (fileOf pool6 1 #[] #[] 1537 3 #[] #[])
  fields := #[]
  methods := #[]
  instanceTypes := #[]
  staticTypes := #[]
  resolved := Array.replicate 37 none
  statics := none }

def pool7 : Array CpInfo := pool [(1, .methodref 2 3), (0, .class_ 4), (0, .nameAndType 5 6), (0, u "java/lang/Object"), (0, u "<init>"), (0, u "()V"), (0, .string 8), (0, u ""), (0, .fieldref 10 11), (0, .class_ 12), (0, .nameAndType 13 14), (0, u "java/lang/String"), (0, u "value"), (0, u "[B"), (0, .fieldref 10 16), (0, .nameAndType 17 18), (0, u "coder"), (0, u "B"), (2, u "hash"), (0, u "I"), (2, u "hashIsZero"), (0, u "Z"), (0, .methodref 10 28), (0, .nameAndType 5 29), (0, u "([CIILjava/lang/Void;)V"), (8, .fieldref 10 39), (0, .nameAndType 40 26), (0, u "COMPACT_STRINGS"), (1, .class_ 44), (1, u "java/lang/StringUTF16"), (0, u "compress"), (1, .methodref 42 48), (0, .nameAndType 49 50), (0, u "coderFromArrayLen"), (0, u "([BI)B"), (3, .methodref 55 56), (0, .class_ 57), (0, .nameAndType 58 59), (0, u "java/util/Arrays"), (0, u "copyOfRange"), (0, u "([BII)[B"), (47, .class_ 109), (1, u "java/lang/StringLatin1"), (32, u "()Z"), (34, .methodref 42 178), (0, .nameAndType 45 179), (0, u "([CII)[B"), (13, .class_ 195), (1, u "java/lang/System"), (16, .methodref 193 213), (0, .nameAndType 214 215), (0, u "arraycopy"), (0, u "(Ljava/lang/Object;ILjava/lang/Object;II)V"), (118, u "()I"), (0, .methodref 10 336), (0, .nameAndType 17 337), (0, u "()B"), (2, u "()[B"), (22, u "([BI)C"), (27, u "(II)V"), (35, u "(I)C"), (34, .nameAndType 463 464), (0, u "toString"), (0, u "()Ljava/lang/String;"), (24, .methodref 10 490), (0, .nameAndType 5 491), (0, u "(Ljava/lang/AbstractStringBuilder;Ljava/lang/Void;)V"), (0, .methodref 10 493), (0, .nameAndType 494 142), (0, u "isLatin1"), (0, .methodref 107 496), (0, .nameAndType 497 363), (0, u "charAt"), (3, u "checkIndex"), (4, .nameAndType 507 334), (0, u "length"), (24, u "getBytes"), (15, u "(Ljava/lang/CharSequence;)Z"), (0, .methodref 550 506), (0, .class_ 551), (0, u "java/lang/AbstractStringBuilder"), (0, .methodref 550 553), (0, .nameAndType 554 340), (0, u "getValue"), (20, .class_ 576), (0, u "java/lang/CharSequence"), (12, u "([B[B)I"), (9, u "CASE_INSENSITIVE_ORDER"), (0, u "Ljava/util/Comparator;"), (34, u "indexOf"), (11, .methodref 107 648), (0, .nameAndType 635 589), (61, .interfaceMethodref 575 462), (0, .methodref 10 712), (0, .nameAndType 635 713), (0, u "(Ljava/lang/String;)I"), (107, u "([BIB)V"), (188, u "([C)V"), (36, .methodref 550 493), (5, .fieldref 1054 1055), (0, .class_ 1056), (0, .nameAndType 1057 1058), (0, u "jdk/internal/util/Preconditions"), (0, u "SIOOBE_FORMATTER"), (0, u "Ljava/util/function/BiFunction;"), (0, .methodref 1054 1060), (0, .nameAndType 501 1061), (0, u "(IILjava/util/function/BiFunction;)I"), (39, u "serialPersistentFields"), (0, u "[Ljava/io/ObjectStreamField;"), (0, .class_ 1104), (0, u "java/lang/String$CaseInsensitiveComparator"), (1, .class_ 1107), (0, u "java/io/Serializable"), (0, .class_ 1109), (0, u "java/lang/Comparable"), (0, .class_ 1111), (0, u "java/lang/constant/Constable"), (0, .class_ 1113), (0, u "java/lang/constant/ConstantDesc"), (2, u "serialVersionUID"), (0, u "J"), (3, u "REPL"), (0, u "C"), (2, u "LATIN1"), (1, u "UTF16"), (105, u "(Ljava/lang/StringBuilder;)V"), (57, u "contains")] 159

def k7m0 : Method := { name := "<init>", desc := "()V", sig := { parameters := [], returnType := none }, accessFlags := 1, code := none }
def k7c1 : Code := { maxStack := 5, maxLocals := 2, code := jdk_42_method_3_code, exceptionTable := #[], attributes := #[] }
def k7m1 : Method := { name := "<init>", desc := "([C)V", sig := { parameters := [(.array .char)], returnType := none }, accessFlags := 1, code := some k7c1 }
def k7c2 : Code := { maxStack := 3, maxLocals := 2, code := jdk_42_method_53_code, exceptionTable := #[], attributes := #[] }
def k7m2 : Method := { name := "<init>", desc := "(Ljava/lang/StringBuilder;)V", sig := { parameters := [(.object "java/lang/StringBuilder")], returnType := none }, accessFlags := 1, code := some k7c2 }
def k7c3 : Code := { maxStack := 2, maxLocals := 1, code := jdk_42_method_54_code, exceptionTable := #[], attributes := #[] }
def k7m3 : Method := { name := "length", desc := "()I", sig := { parameters := [], returnType := some .int }, accessFlags := 1, code := some k7c3 }
def k7c4 : Code := { maxStack := 2, maxLocals := 2, code := jdk_42_method_56_code, exceptionTable := #[], attributes := #[] }
def k7m4 : Method := { name := "charAt", desc := "(I)C", sig := { parameters := [.int], returnType := some .char }, accessFlags := 1, code := some k7c4 }
def k7c5 : Code := { maxStack := 2, maxLocals := 3, code := jdk_42_method_84_code, exceptionTable := #[], attributes := #[] }
def k7m5 : Method := { name := "indexOf", desc := "(Ljava/lang/String;)I", sig := { parameters := [(.object "java/lang/String")], returnType := some .int }, accessFlags := 1, code := some k7c5 }
def k7c6 : Code := { maxStack := 2, maxLocals := 2, code := jdk_42_method_97_code, exceptionTable := #[], attributes := #[] }
def k7m6 : Method := { name := "contains", desc := "(Ljava/lang/CharSequence;)Z", sig := { parameters := [(.object "java/lang/CharSequence")], returnType := some .boolean }, accessFlags := 1, code := some k7c6 }
def k7c7 : Code := { maxStack := 1, maxLocals := 1, code := jdk_42_method_126_code, exceptionTable := #[], attributes := #[] }
def k7m7 : Method := { name := "toString", desc := "()Ljava/lang/String;", sig := { parameters := [], returnType := some (.object "java/lang/String") }, accessFlags := 1, code := some k7c7 }
def k7c8 : Code := { maxStack := 5, maxLocals := 4, code := jdk_42_method_147_code, exceptionTable := #[], attributes := #[] }
def k7m8 : Method := { name := "getBytes", desc := "([BIB)V", sig := { parameters := [(.array .byte), .int, .byte], returnType := none }, accessFlags := 0, code := some k7c8 }
def k7c9 : Code := { maxStack := 4, maxLocals := 6, code := jdk_42_method_149_code, exceptionTable := #[], attributes := #[] }
def k7m9 : Method := { name := "<init>", desc := "([CIILjava/lang/Void;)V", sig := { parameters := [(.array .char), .int, .int, (.object "java/lang/Void")], returnType := none }, accessFlags := 2, code := some k7c9 }
def k7c10 : Code := { maxStack := 5, maxLocals := 5, code := jdk_42_method_150_code, exceptionTable := #[], attributes := #[] }
def k7m10 : Method := { name := "<init>", desc := "(Ljava/lang/AbstractStringBuilder;Ljava/lang/Void;)V", sig := { parameters := [(.object "java/lang/AbstractStringBuilder"), (.object "java/lang/Void")], returnType := none }, accessFlags := 0, code := some k7c10 }
def k7c11 : Code := { maxStack := 1, maxLocals := 1, code := jdk_42_method_152_code, exceptionTable := #[], attributes := #[] }
def k7m11 : Method := { name := "coder", desc := "()B", sig := { parameters := [], returnType := some .byte }, accessFlags := 0, code := some k7c11 }
def k7c12 : Code := { maxStack := 1, maxLocals := 1, code := jdk_42_method_154_code, exceptionTable := #[], attributes := #[] }
def k7m12 : Method := { name := "isLatin1", desc := "()Z", sig := { parameters := [], returnType := some .boolean }, accessFlags := 0, code := some k7c12 }
def k7c13 : Code := { maxStack := 3, maxLocals := 2, code := jdk_42_method_155_code, exceptionTable := #[], attributes := #[] }
def k7m13 : Method := { name := "checkIndex", desc := "(II)V", sig := { parameters := [.int, .int], returnType := none }, accessFlags := 8, code := some k7c13 }
/-- java/lang/String -/
def k7 : Class := { plain "java/lang/String" (some 0) with
  accessFlags := 49
  interfaces := #[2, 3, 4, 5, 6]
  cf := some (fileOf pool7 10 #[.nestMembers #[1103]] #[{ accessFlags := 1, nameIndex := 5, descriptorIndex := 6, attributes := #[] }, { accessFlags := 1, nameIndex := 5, descriptorIndex := 1010, attributes := #[] }, { accessFlags := 1, nameIndex := 5, descriptorIndex := 1233, attributes := #[] }, { accessFlags := 1, nameIndex := 507, descriptorIndex := 334, attributes := #[] }, { accessFlags := 1, nameIndex := 497, descriptorIndex := 427, attributes := #[] }, { accessFlags := 1, nameIndex := 635, descriptorIndex := 713, attributes := #[] }, { accessFlags := 1, nameIndex := 1291, descriptorIndex := 548, attributes := #[] }, { accessFlags := 1, nameIndex := 463, descriptorIndex := 464, attributes := #[] }, { accessFlags := 0, nameIndex := 532, descriptorIndex := 821, attributes := #[] }, { accessFlags := 2, nameIndex := 5, descriptorIndex := 29, attributes := #[] }, { accessFlags := 0, nameIndex := 5, descriptorIndex := 491, attributes := #[] }, { accessFlags := 0, nameIndex := 17, descriptorIndex := 337, attributes := #[] }, { accessFlags := 0, nameIndex := 494, descriptorIndex := 142, attributes := #[] }, { accessFlags := 8, nameIndex := 501, descriptorIndex := 391, attributes := #[] }] 49 2 #[1106, 1108, 575, 1110, 1112] #[{ accessFlags := 18, nameIndex := 13, descriptorIndex := 14, attributes := #[] }, { accessFlags := 18, nameIndex := 17, descriptorIndex := 18, attributes := #[] }, { accessFlags := 2, nameIndex := 21, descriptorIndex := 22, attributes := #[] }, { accessFlags := 2, nameIndex := 25, descriptorIndex := 26, attributes := #[] }, { accessFlags := 26, nameIndex := 1116, descriptorIndex := 1117, attributes := #[] }, { accessFlags := 24, nameIndex := 40, descriptorIndex := 26, attributes := #[] }, { accessFlags := 26, nameIndex := 1101, descriptorIndex := 1102, attributes := #[] }, { accessFlags := 26, nameIndex := 1121, descriptorIndex := 1122, attributes := #[] }, { accessFlags := 25, nameIndex := 599, descriptorIndex := 600, attributes := #[] }, { accessFlags := 24, nameIndex := 1125, descriptorIndex := 18, attributes := #[] }, { accessFlags := 24, nameIndex := 1127, descriptorIndex := 18, attributes := #[] }])
  fields := #[{ name := "value", type := (.array .byte), accessFlags := 18, slot := 0, constantValue := 0 }, { name := "coder", type := .byte, accessFlags := 18, slot := 1, constantValue := 0 }, { name := "hash", type := .int, accessFlags := 2, slot := 2, constantValue := 0 }, { name := "hashIsZero", type := .boolean, accessFlags := 2, slot := 3, constantValue := 0 }, { name := "serialVersionUID", type := .long, accessFlags := 26, slot := 0, constantValue := 0 }, { name := "COMPACT_STRINGS", type := .boolean, accessFlags := 24, slot := 1, constantValue := 0 }, { name := "serialPersistentFields", type := (.array (.object "java/io/ObjectStreamField")), accessFlags := 26, slot := 2, constantValue := 0 }, { name := "REPL", type := .char, accessFlags := 26, slot := 3, constantValue := 0 }, { name := "CASE_INSENSITIVE_ORDER", type := (.object "java/util/Comparator"), accessFlags := 25, slot := 4, constantValue := 0 }, { name := "LATIN1", type := .byte, accessFlags := 24, slot := 5, constantValue := 0 }, { name := "UTF16", type := .byte, accessFlags := 24, slot := 6, constantValue := 0 }]
  methods := #[k7m0, k7m1, k7m2, k7m3, k7m4, k7m5, k7m6, k7m7, k7m8, k7m9, k7m10, k7m11, k7m12, k7m13]
  instanceTypes := #[(.array .byte), .byte, .int, .boolean]
  staticTypes := #[.long, .boolean, (.array (.object "java/io/ObjectStreamField")), .char, (.object "java/util/Comparator"), .byte, .byte]
  resolved := Array.replicate 1451 none
  statics := some 0 }

def pool8 : Array CpInfo := pool [(1, .methodref 2 3), (0, .class_ 4), (0, .nameAndType 5 6), (0, u "java/lang/Object"), (0, u "<init>"), (0, u "()V"), (0, .class_ 8), (0, u "java/lang/Record")] 13

def k8c0 : Code := { maxStack := 1, maxLocals := 1, code := jdk_30_method_1_code, exceptionTable := #[], attributes := #[] }
def k8m0 : Method := { name := "<init>", desc := "()V", sig := { parameters := [], returnType := none }, accessFlags := 4, code := some k8c0 }
/-- java/lang/Record -/
def k8 : Class := { plain "java/lang/Record" (some 0) with
  accessFlags := 1057
  interfaces := #[]
  cf := some (fileOf pool8 7 #[] #[{ accessFlags := 4, nameIndex := 5, descriptorIndex := 6, attributes := #[] }] 1057 2 #[] #[])
  fields := #[]
  methods := #[k8m0]
  instanceTypes := #[]
  staticTypes := #[]
  resolved := Array.replicate 22 none
  statics := none }

def pool9 : Array CpInfo := pool [(1, .methodref 2 3), (0, .class_ 4), (0, .nameAndType 5 6), (0, u "java/lang/Record"), (0, u "<init>"), (0, u "()V"), (0, .fieldref 8 9), (0, .class_ 10), (0, .nameAndType 11 12), (0, u "com/example/devizes/devizes/redis/RedisAddress"), (0, u "host"), (0, u "Ljava/lang/String;"), (0, .fieldref 8 14), (0, .nameAndType 15 16), (0, u "port"), (0, u "I"), (0, .fieldref 8 18), (0, .nameAndType 19 16), (0, u "database"), (9, .class_ 30), (0, u "java/lang/StringBuilder"), (0, .methodref 29 3), (2, .methodref 29 35), (0, .nameAndType 36 37), (0, u "append"), (0, u "(Ljava/lang/String;)Ljava/lang/StringBuilder;"), (5, u "()Ljava/lang/String;"), (0, .methodref 29 45), (0, .nameAndType 46 43), (0, u "toString"), (9, .class_ 58), (1, u "java/lang/String"), (21, .string 81), (0, u "["), (3, .string 86), (0, u "]"), (23, u "(Ljava/lang/String;II)V"), (4, .string 116), (0, u "/"), (22, .string 140), (0, u "redis://"), (0, .string 142), (0, u ":"), (0, .methodref 56 144), (0, .nameAndType 145 146), (0, u "contains"), (0, u "(Ljava/lang/CharSequence;)Z"), (0, .methodref 29 148), (0, .nameAndType 36 149), (0, u "(I)Ljava/lang/StringBuilder;"), (7, u "SCHEME"), (1, u "DEFAULT_PORT")] 29

def k9c0 : Code := { maxStack := 2, maxLocals := 4, code := prog_17_method_1_code, exceptionTable := #[], attributes := #[] }
def k9m0 : Method := { name := "<init>", desc := "(Ljava/lang/String;II)V", sig := { parameters := [(.object "java/lang/String"), .int, .int], returnType := none }, accessFlags := 0, code := some k9c0 }
def k9c1 : Code := { maxStack := 3, maxLocals := 1, code := prog_17_method_4_code, exceptionTable := #[], attributes := #[] }
def k9m1 : Method := { name := "toString", desc := "()Ljava/lang/String;", sig := { parameters := [], returnType := some (.object "java/lang/String") }, accessFlags := 1, code := some k9c1 }
/-- com/example/devizes/devizes/redis/RedisAddress -/
def k9 : Class := { plain "com/example/devizes/devizes/redis/RedisAddress" (some 8) with
  accessFlags := 48
  interfaces := #[]
  cf := some (fileOf pool9 8 #[] #[{ accessFlags := 0, nameIndex := 5, descriptorIndex := 110, attributes := #[] }, { accessFlags := 1, nameIndex := 46, descriptorIndex := 43, attributes := #[] }] 48 2 #[] #[{ accessFlags := 18, nameIndex := 11, descriptorIndex := 12, attributes := #[] }, { accessFlags := 18, nameIndex := 15, descriptorIndex := 16, attributes := #[] }, { accessFlags := 18, nameIndex := 19, descriptorIndex := 16, attributes := #[] }, { accessFlags := 24, nameIndex := 157, descriptorIndex := 12, attributes := #[] }, { accessFlags := 26, nameIndex := 159, descriptorIndex := 16, attributes := #[] }])
  fields := #[{ name := "host", type := (.object "java/lang/String"), accessFlags := 18, slot := 0, constantValue := 0 }, { name := "port", type := .int, accessFlags := 18, slot := 1, constantValue := 0 }, { name := "database", type := .int, accessFlags := 18, slot := 2, constantValue := 0 }, { name := "SCHEME", type := (.object "java/lang/String"), accessFlags := 24, slot := 0, constantValue := 0 }, { name := "DEFAULT_PORT", type := .int, accessFlags := 26, slot := 1, constantValue := 0 }]
  methods := #[k9m0, k9m1]
  instanceTypes := #[(.object "java/lang/String"), .int, .int]
  staticTypes := #[(.object "java/lang/String"), .int]
  resolved := Array.replicate 189 none
  statics := none }

def pool10 : Array CpInfo := pool [(1, .class_ 2), (0, u "java/lang/Appendable"), (0, .class_ 4), (0, u "java/lang/Object")] 9

/-- java/lang/Appendable -/
def k10 : Class := { plain "java/lang/Appendable" (some 0) with
  accessFlags := 1537
  interfaces := #[]
  cf := some (fileOf pool10 1 #[] #[] 1537 3 #[] #[])
  fields := #[]
  methods := #[]
  instanceTypes := #[]
  staticTypes := #[]
  resolved := Array.replicate 14 none
  statics := none }

def pool11 : Array CpInfo := pool [(1, .class_ 2), (0, u "java/lang/String"), (0, .methodref 4 5), (0, .class_ 6), (0, .nameAndType 7 8), (0, u "java/lang/Object"), (0, u "<init>"), (0, u "()V"), (1, .class_ 12), (1, u "java/lang/AbstractStringBuilder"), (0, u "EMPTYVALUE"), (0, u "[B"), (0, .fieldref 10 16), (0, .nameAndType 17 14), (0, u "value"), (0, .fieldref 1 19), (0, .nameAndType 20 21), (0, u "COMPACT_STRINGS"), (0, u "Z"), (0, .fieldref 10 23), (0, .nameAndType 24 25), (0, u "coder"), (0, u "B"), (6, .methodref 1 33), (0, .nameAndType 34 35), (0, u "length"), (0, u "()I"), (0, .class_ 37), (0, u "java/lang/Integer"), (1, .integer 2147483647), (0, .methodref 1 41), (0, .nameAndType 24 42), (0, u "()B"), (2, u "append"), (0, u "(Ljava/lang/String;)Ljava/lang/AbstractStringBuilder;"), (1, .class_ 49), (0, u "java/lang/CharSequence"), (19, u "(Ljava/lang/String;)V"), (5, u "maybeLatin1"), (3, .fieldref 10 80), (0, .nameAndType 81 82), (0, u "count"), (0, u "I"), (0, .methodref 10 84), (0, .nameAndType 85 86), (0, u "isLatin1"), (0, u "()Z"), (13, .methodref 10 101), (0, .nameAndType 102 103), (0, u "ensureCapacityInternal"), (0, u "(I)V"), (0, .methodref 10 105), (0, .nameAndType 106 107), (0, u "newCapacity"), (0, u "(I)I"), (0, .methodref 109 110), (0, .class_ 111), (0, .nameAndType 112 113), (0, u "java/util/Arrays"), (0, u "copyOf"), (0, u "([BI)[B"), (0, .methodref 115 116), (0, .class_ 117), (0, .nameAndType 118 119), (0, u "jdk/internal/util/ArraysSupport"), (0, u "newLength"), (0, u "(III)I"), (68, u "getChars"), (19, .methodref 10 209), (0, .nameAndType 210 211), (0, u "putStringAt"), (0, u "(ILjava/lang/String;)V"), (5, u "inflateIfNeededFor"), (2, .nameAndType 221 222), (0, u "getBytes"), (0, u "([BIB)V"), (22, .methodref 36 246), (0, .nameAndType 247 107), (0, u "stringSize"), (0, .methodref 36 249), (0, .nameAndType 188 250), (0, u "(II[B)I"), (146, .methodref 10 398), (0, .nameAndType 217 69), (0, .methodref 1 220), (3, u "()[B"), (40, .class_ 445), (0, u "java/lang/Appendable"), (65, u "(I)Ljava/lang/AbstractStringBuilder;"), (40, u "getValue")] 56

def k11m0 : Method := { name := "<init>", desc := "()V", sig := { parameters := [], returnType := none }, accessFlags := 0, code := none }
def k11c1 : Code := { maxStack := 2, maxLocals := 2, code := jdk_68_method_2_code, exceptionTable := #[], attributes := #[] }
def k11m1 : Method := { name := "<init>", desc := "(I)V", sig := { parameters := [.int], returnType := none }, accessFlags := 0, code := some k11c1 }
def k11c2 : Code := { maxStack := 1, maxLocals := 1, code := jdk_68_method_6_code, exceptionTable := #[], attributes := #[] }
def k11m2 : Method := { name := "length", desc := "()I", sig := { parameters := [], returnType := some .int }, accessFlags := 1, code := some k11c2 }
def k11c3 : Code := { maxStack := 4, maxLocals := 3, code := jdk_68_method_9_code, exceptionTable := #[], attributes := #[] }
def k11m3 : Method := { name := "ensureCapacityInternal", desc := "(I)V", sig := { parameters := [.int], returnType := none }, accessFlags := 2, code := some k11c3 }
def k11c4 : Code := { maxStack := 5, maxLocals := 6, code := jdk_68_method_10_code, exceptionTable := #[], attributes := #[] }
def k11m4 : Method := { name := "newCapacity", desc := "(I)I", sig := { parameters := [.int], returnType := some .int }, accessFlags := 2, code := some k11c4 }
def k11c5 : Code := { maxStack := 3, maxLocals := 3, code := jdk_68_method_22_code, exceptionTable := #[], attributes := #[] }
def k11m5 : Method := { name := "append", desc := "(Ljava/lang/String;)Ljava/lang/AbstractStringBuilder;", sig := { parameters := [(.object "java/lang/String")], returnType := some (.object "java/lang/AbstractStringBuilder") }, accessFlags := 1, code := some k11c5 }
def k11c6 : Code := { maxStack := 4, maxLocals := 4, code := jdk_68_method_32_code, exceptionTable := #[], attributes := #[] }
def k11m6 : Method := { name := "append", desc := "(I)Ljava/lang/AbstractStringBuilder;", sig := { parameters := [.int], returnType := some (.object "java/lang/AbstractStringBuilder") }, accessFlags := 1, code := some k11c6 }
def k11c7 : Code := { maxStack := 1, maxLocals := 1, code := jdk_68_method_64_code, exceptionTable := #[], attributes := #[] }
def k11m7 : Method := { name := "getValue", desc := "()[B", sig := { parameters := [], returnType := some (.array .byte) }, accessFlags := 16, code := some k11c7 }
def k11c8 : Code := { maxStack := 1, maxLocals := 1, code := jdk_68_method_68_code, exceptionTable := #[], attributes := #[] }
def k11m8 : Method := { name := "isLatin1", desc := "()Z", sig := { parameters := [], returnType := some .boolean }, accessFlags := 16, code := some k11c8 }
def k11c9 : Code := { maxStack := 2, maxLocals := 2, code := jdk_68_method_71_code, exceptionTable := #[], attributes := #[] }
def k11m9 : Method := { name := "inflateIfNeededFor", desc := "(Ljava/lang/String;)V", sig := { parameters := [(.object "java/lang/String")], returnType := none }, accessFlags := 2, code := some k11c9 }
def k11c10 : Code := { maxStack := 4, maxLocals := 3, code := jdk_68_method_73_code, exceptionTable := #[], attributes := #[] }
def k11m10 : Method := { name := "putStringAt", desc := "(ILjava/lang/String;)V", sig := { parameters := [.int, (.object "java/lang/String")], returnType := none }, accessFlags := 2, code := some k11c10 }
/-- java/lang/AbstractStringBuilder -/
def k11 : Class := { plain "java/lang/AbstractStringBuilder" (some 0) with
  accessFlags := 1056
  interfaces := #[10, 4]
  cf := some (fileOf pool11 10 #[] #[{ accessFlags := 0, nameIndex := 7, descriptorIndex := 8, attributes := #[] }, { accessFlags := 0, nameIndex := 7, descriptorIndex := 103, attributes := #[] }, { accessFlags := 1, nameIndex := 34, descriptorIndex := 35, attributes := #[] }, { accessFlags := 2, nameIndex := 102, descriptorIndex := 103, attributes := #[] }, { accessFlags := 2, nameIndex := 106, descriptorIndex := 107, attributes := #[] }, { accessFlags := 1, nameIndex := 45, descriptorIndex := 46, attributes := #[] }, { accessFlags := 1, nameIndex := 45, descriptorIndex := 511, attributes := #[] }, { accessFlags := 16, nameIndex := 552, descriptorIndex := 403, attributes := #[] }, { accessFlags := 16, nameIndex := 85, descriptorIndex := 86, attributes := #[] }, { accessFlags := 2, nameIndex := 217, descriptorIndex := 69, attributes := #[] }, { accessFlags := 2, nameIndex := 210, descriptorIndex := 211, attributes := #[] }] 1056 4 #[444, 48] #[{ accessFlags := 0, nameIndex := 17, descriptorIndex := 14, attributes := #[] }, { accessFlags := 0, nameIndex := 24, descriptorIndex := 25, attributes := #[] }, { accessFlags := 0, nameIndex := 75, descriptorIndex := 21, attributes := #[] }, { accessFlags := 0, nameIndex := 81, descriptorIndex := 82, attributes := #[] }, { accessFlags := 26, nameIndex := 13, descriptorIndex := 14, attributes := #[] }])
  fields := #[{ name := "value", type := (.array .byte), accessFlags := 0, slot := 0, constantValue := 0 }, { name := "coder", type := .byte, accessFlags := 0, slot := 1, constantValue := 0 }, { name := "maybeLatin1", type := .boolean, accessFlags := 0, slot := 2, constantValue := 0 }, { name := "count", type := .int, accessFlags := 0, slot := 3, constantValue := 0 }, { name := "EMPTYVALUE", type := (.array .byte), accessFlags := 26, slot := 0, constantValue := 0 }]
  methods := #[k11m0, k11m1, k11m2, k11m3, k11m4, k11m5, k11m6, k11m7, k11m8, k11m9, k11m10]
  instanceTypes := #[(.array .byte), .byte, .boolean, .int]
  staticTypes := #[(.array .byte)]
  resolved := Array.replicate 609 none
  statics := none }

def pool12 : Array CpInfo := pool [(1, .methodref 2 3), (0, .class_ 4), (0, .nameAndType 5 6), (0, u "java/lang/AbstractStringBuilder"), (0, u "<init>"), (0, u "(I)V"), (11, .class_ 20), (1, u "java/lang/String"), (3, .class_ 26), (1, u "java/lang/StringBuilder"), (0, u "append"), (0, u "(Ljava/lang/String;)Ljava/lang/StringBuilder;"), (0, .methodref 2 30), (0, .nameAndType 27 31), (0, u "(Ljava/lang/String;)Ljava/lang/AbstractStringBuilder;"), (21, .methodref 2 54), (0, .nameAndType 27 55), (0, u "(I)Ljava/lang/AbstractStringBuilder;"), (81, .methodref 18 138), (0, .nameAndType 5 139), (0, u "(Ljava/lang/StringBuilder;)V"), (5, u "()V"), (10, u "()I"), (111, u "(I)Ljava/lang/StringBuilder;"), (74, .methodref 2 344), (0, .nameAndType 345 156), (0, u "length"), (3, .class_ 350), (0, u "java/lang/Appendable"), (0, .class_ 352), (0, u "java/io/Serializable"), (0, .class_ 354), (0, u "java/lang/Comparable"), (0, .class_ 356), (0, u "java/lang/CharSequence"), (0, u "serialVersionUID"), (0, u "J"), (40, u "toString"), (0, u "()Ljava/lang/String;")] 21

def k12c0 : Code := { maxStack := 2, maxLocals := 1, code := jdk_67_method_1_code, exceptionTable := #[], attributes := #[] }
def k12m0 : Method := { name := "<init>", desc := "()V", sig := { parameters := [], returnType := none }, accessFlags := 1, code := some k12c0 }
def k12c1 : Code := { maxStack := 2, maxLocals := 2, code := jdk_67_method_7_code, exceptionTable := #[], attributes := #[] }
def k12m1 : Method := { name := "append", desc := "(Ljava/lang/String;)Ljava/lang/StringBuilder;", sig := { parameters := [(.object "java/lang/String")], returnType := some (.object "java/lang/StringBuilder") }, accessFlags := 1, code := some k12c1 }
def k12c2 : Code := { maxStack := 2, maxLocals := 2, code := jdk_67_method_15_code, exceptionTable := #[], attributes := #[] }
def k12m2 : Method := { name := "append", desc := "(I)Ljava/lang/StringBuilder;", sig := { parameters := [.int], returnType := some (.object "java/lang/StringBuilder") }, accessFlags := 1, code := some k12c2 }
def k12c3 : Code := { maxStack := 3, maxLocals := 1, code := jdk_67_method_42_code, exceptionTable := #[], attributes := #[] }
def k12m3 : Method := { name := "toString", desc := "()Ljava/lang/String;", sig := { parameters := [], returnType := some (.object "java/lang/String") }, accessFlags := 1, code := some k12c3 }
def k12c4 : Code := { maxStack := 1, maxLocals := 1, code := jdk_67_method_93_code, exceptionTable := #[], attributes := #[] }
def k12m4 : Method := { name := "length", desc := "()I", sig := { parameters := [], returnType := some .int }, accessFlags := 4161, code := some k12c4 }
/-- java/lang/StringBuilder -/
def k12 : Class := { plain "java/lang/StringBuilder" (some 11) with
  accessFlags := 49
  interfaces := #[10, 2, 3, 4]
  cf := some (fileOf pool12 24 #[] #[{ accessFlags := 1, nameIndex := 5, descriptorIndex := 145, attributes := #[] }, { accessFlags := 1, nameIndex := 27, descriptorIndex := 28, attributes := #[] }, { accessFlags := 1, nameIndex := 27, descriptorIndex := 268, attributes := #[] }, { accessFlags := 1, nameIndex := 399, descriptorIndex := 400, attributes := #[] }, { accessFlags := 4161, nameIndex := 345, descriptorIndex := 156, attributes := #[] }] 49 2 #[349, 351, 353, 355] #[{ accessFlags := 24, nameIndex := 357, descriptorIndex := 358, attributes := #[] }])
  fields := #[{ name := "serialVersionUID", type := .long, accessFlags := 24, slot := 0, constantValue := 0 }]
  methods := #[k12m0, k12m1, k12m2, k12m3, k12m4]
  instanceTypes := #[(.array .byte), .byte, .boolean, .int]
  staticTypes := #[.long]
  resolved := Array.replicate 422 none
  statics := none }

def pool13 : Array CpInfo := pool [(2, .class_ 4), (1, u "java/lang/Object"), (0, u "<init>"), (0, u "()V"), (1, .class_ 10), (1, u "java/lang/System"), (0, u "allowSecurityManager"), (0, u "I"), (16, u "cons"), (0, u "Ljava/io/Console;"), (77, .class_ 110), (1, u "java/lang/System$CallersHolder"), (43, u "initialErrStream"), (0, u "Ljava/io/PrintStream;"), (19, u "security"), (0, u "Ljava/lang/SecurityManager;"), (31, .class_ 209), (0, u "java/lang/System$1"), (7, u "props"), (0, u "Ljava/util/Properties;"), (2, u "lineSeparator"), (0, u "Ljava/lang/String;"), (96, .class_ 321), (1, u "java/lang/System$LoggerFinder"), (5, .class_ 328), (0, u "java/lang/System$Logger"), (67, u "err"), (2, u "out"), (91, u "notSupportedJnuEncoding"), (15, u "in"), (17, u "initialIn"), (0, u "Ljava/io/InputStream;"), (35, u "bootLayer"), (0, u "Ljava/lang/ModuleLayer;"), (99, .class_ 664), (0, u "java/lang/System$2"), (9, u "NEVER"), (2, u "MAYBE"), (49, u "arraycopy"), (0, u "(Ljava/lang/Object;ILjava/lang/Object;II)V"), (72, .class_ 802), (0, u "java/lang/System$Logger$Level")] 31

def k13m0 : Method := { name := "<init>", desc := "()V", sig := { parameters := [], returnType := none }, accessFlags := 2, code := none }
def k13m1 : Method := { name := "arraycopy", desc := "(Ljava/lang/Object;ILjava/lang/Object;II)V", sig := { parameters := [(.object "java/lang/Object"), .int, (.object "java/lang/Object"), .int, .int], returnType := none }, accessFlags := 265, code := none }
/-- java/lang/System -/
def k13 : Class := { plain "java/lang/System" (some 0) with
  accessFlags := 49
  interfaces := #[]
  cf := some (fileOf pool13 8 #[.nestMembers #[319, 327, 801, 108, 663, 208]] #[{ accessFlags := 2, nameIndex := 5, descriptorIndex := 6, attributes := #[] }, { accessFlags := 265, nameIndex := 727, descriptorIndex := 728, attributes := #[] }] 49 2 #[] #[{ accessFlags := 25, nameIndex := 507, descriptorIndex := 526, attributes := #[] }, { accessFlags := 25, nameIndex := 399, descriptorIndex := 155, attributes := #[] }, { accessFlags := 25, nameIndex := 396, descriptorIndex := 155, attributes := #[] }, { accessFlags := 10, nameIndex := 525, descriptorIndex := 526, attributes := #[] }, { accessFlags := 26, nameIndex := 674, descriptorIndex := 12, attributes := #[] }, { accessFlags := 26, nameIndex := 677, descriptorIndex := 12, attributes := #[] }, { accessFlags := 10, nameIndex := 11, descriptorIndex := 12, attributes := #[] }, { accessFlags := 74, nameIndex := 175, descriptorIndex := 176, attributes := #[] }, { accessFlags := 10, nameIndex := 491, descriptorIndex := 222, attributes := #[] }, { accessFlags := 74, nameIndex := 29, descriptorIndex := 30, attributes := #[] }, { accessFlags := 74, nameIndex := 154, descriptorIndex := 155, attributes := #[] }, { accessFlags := 10, nameIndex := 217, descriptorIndex := 218, attributes := #[] }, { accessFlags := 10, nameIndex := 221, descriptorIndex := 222, attributes := #[] }, { accessFlags := 8, nameIndex := 562, descriptorIndex := 563, attributes := #[] }])
  fields := #[{ name := "in", type := (.object "java/io/InputStream"), accessFlags := 25, slot := 0, constantValue := 0 }, { name := "out", type := (.object "java/io/PrintStream"), accessFlags := 25, slot := 1, constantValue := 0 }, { name := "err", type := (.object "java/io/PrintStream"), accessFlags := 25, slot := 2, constantValue := 0 }, { name := "initialIn", type := (.object "java/io/InputStream"), accessFlags := 10, slot := 3, constantValue := 0 }, { name := "NEVER", type := .int, accessFlags := 26, slot := 4, constantValue := 0 }, { name := "MAYBE", type := .int, accessFlags := 26, slot := 5, constantValue := 0 }, { name := "allowSecurityManager", type := .int, accessFlags := 10, slot := 6, constantValue := 0 }, { name := "security", type := (.object "java/lang/SecurityManager"), accessFlags := 74, slot := 7, constantValue := 0 }, { name := "notSupportedJnuEncoding", type := (.object "java/lang/String"), accessFlags := 10, slot := 8, constantValue := 0 }, { name := "cons", type := (.object "java/io/Console"), accessFlags := 74, slot := 9, constantValue := 0 }, { name := "initialErrStream", type := (.object "java/io/PrintStream"), accessFlags := 74, slot := 10, constantValue := 0 }, { name := "props", type := (.object "java/util/Properties"), accessFlags := 10, slot := 11, constantValue := 0 }, { name := "lineSeparator", type := (.object "java/lang/String"), accessFlags := 10, slot := 12, constantValue := 0 }, { name := "bootLayer", type := (.object "java/lang/ModuleLayer"), accessFlags := 8, slot := 13, constantValue := 0 }]
  methods := #[k13m0, k13m1]
  instanceTypes := #[]
  staticTypes := #[(.object "java/io/InputStream"), (.object "java/io/PrintStream"), (.object "java/io/PrintStream"), (.object "java/io/InputStream"), .int, .int, .int, (.object "java/lang/SecurityManager"), (.object "java/lang/String"), (.object "java/io/Console"), (.object "java/io/PrintStream"), (.object "java/util/Properties"), (.object "java/lang/String"), (.object "java/lang/ModuleLayer")]
  resolved := Array.replicate 834 none
  statics := none }

def pool14 : Array CpInfo := pool [(1, .class_ 2), (0, u "java/lang/String"), (1, .class_ 6), (1, u "java/lang/Object"), (0, u "<init>"), (0, u "()V"), (0, .methodref 1 10), (0, .nameAndType 11 12), (0, u "checkIndex"), (0, u "(II)V"), (1, .class_ 16), (1, u "java/lang/StringLatin1"), (36, u "([BI)C"), (45, .methodref 14 100), (0, .nameAndType 101 102), (0, u "indexOf"), (0, u "([BI[BII)I"), (18, u "$assertionsDisabled"), (0, u "Z"), (98, .class_ 223), (1, u "java/lang/StringLatin1$LinesSpliterator"), (28, u "charAt"), (34, u "([B[B)I"), (102, .class_ 391), (0, u "java/lang/StringLatin1$CharsSpliterator")] 3

def k14m0 : Method := { name := "<init>", desc := "()V", sig := { parameters := [], returnType := none }, accessFlags := 0, code := none }
def k14c1 : Code := { maxStack := 2, maxLocals := 2, code := jdk_43_method_2_code, exceptionTable := #[], attributes := #[] }
def k14m1 : Method := { name := "charAt", desc := "([BI)C", sig := { parameters := [(.array .byte), .int], returnType := some .char }, accessFlags := 9, code := some k14c1 }
def k14c2 : Code := { maxStack := 5, maxLocals := 2, code := jdk_43_method_24_code, exceptionTable := #[], attributes := #[] }
def k14m2 : Method := { name := "indexOf", desc := "([B[B)I", sig := { parameters := [(.array .byte), (.array .byte)], returnType := some .int }, accessFlags := 9, code := some k14c2 }
def k14c3 : Code := { maxStack := 3, maxLocals := 11, code := jdk_43_method_25_code, exceptionTable := #[], attributes := #[] }
def k14m3 : Method := { name := "indexOf", desc := "([BI[BII)I", sig := { parameters := [(.array .byte), .int, (.array .byte), .int, .int], returnType := some .int }, accessFlags := 9, code := some k14c3 }
/-- java/lang/StringLatin1 -/
def k14 : Class := { plain "java/lang/StringLatin1" (some 0) with
  accessFlags := 48
  interfaces := #[]
  cf := some (fileOf pool14 14 #[.nestMembers #[390, 221]] #[{ accessFlags := 0, nameIndex := 7, descriptorIndex := 8, attributes := #[] }, { accessFlags := 9, nameIndex := 252, descriptorIndex := 53, attributes := #[] }, { accessFlags := 9, nameIndex := 101, descriptorIndex := 287, attributes := #[] }, { accessFlags := 9, nameIndex := 101, descriptorIndex := 102, attributes := #[] }] 48 4 #[] #[{ accessFlags := 4120, nameIndex := 121, descriptorIndex := 122, attributes := #[] }])
  fields := #[{ name := "$assertionsDisabled", type := .boolean, accessFlags := 4120, slot := 0, constantValue := 0 }]
  methods := #[k14m0, k14m1, k14m2, k14m3]
  instanceTypes := #[]
  staticTypes := #[.boolean]
  resolved := Array.replicate 395 none
  statics := none }

def pool15 : Array CpInfo := pool [(2, .class_ 4), (1, u "java/lang/Object"), (0, u "<init>"), (0, u "()V"), (1, .class_ 10), (1, u "java/lang/Number"), (2, .class_ 14), (0, u "java/io/Serializable"), (0, u "serialVersionUID"), (0, u "J")] 20

def k15m0 : Method := { name := "<init>", desc := "()V", sig := { parameters := [], returnType := none }, accessFlags := 1, code := none }
/-- java/lang/Number -/
def k15 : Class := { plain "java/lang/Number" (some 0) with
  accessFlags := 1057
  interfaces := #[2]
  cf := some (fileOf pool15 8 #[] #[{ accessFlags := 1, nameIndex := 5, descriptorIndex := 6, attributes := #[] }] 1057 2 #[13] #[{ accessFlags := 26, nameIndex := 15, descriptorIndex := 16, attributes := #[] }])
  fields := #[{ name := "serialVersionUID", type := .long, accessFlags := 26, slot := 0, constantValue := 0 }]
  methods := #[k15m0]
  instanceTypes := #[]
  staticTypes := #[.long]
  resolved := Array.replicate 37 none
  statics := none }

def pool16 : Array CpInfo := pool [(1, .class_ 2), (0, u "java/lang/Integer"), (16, u "digits"), (0, u "[C"), (33, u "(I)I"), (19, u "stringSize"), (2, u "getChars"), (0, u "(II[B)I"), (4, .fieldref 1 84), (0, .nameAndType 85 86), (0, u "DigitOnes"), (0, u "[B"), (0, .fieldref 1 88), (0, .nameAndType 89 86), (0, u "DigitTens"), (99, .class_ 190), (0, u "java/lang/Integer$IntegerCache"), (3, u "I"), (8, .class_ 204), (0, u "java/lang/Number"), (2, u "value"), (94, u "TYPE"), (0, u "Ljava/lang/Class;"), (0, .class_ 305), (0, u "java/lang/Comparable"), (0, .class_ 307), (0, u "java/lang/constant/Constable"), (0, .class_ 309), (0, u "java/lang/constant/ConstantDesc"), (0, u "MIN_VALUE"), (1, u "MAX_VALUE"), (3, u "SIZE"), (1, u "BYTES"), (1, u "serialVersionUID"), (0, u "J")] 131

def k16c0 : Code := { maxStack := 4, maxLocals := 7, code := jdk_33_method_12_code, exceptionTable := #[], attributes := #[] }
def k16m0 : Method := { name := "getChars", desc := "(II[B)I", sig := { parameters := [.int, .int, (.array .byte)], returnType := some .int }, accessFlags := 8, code := some k16c0 }
def k16c1 : Code := { maxStack := 2, maxLocals := 4, code := jdk_33_method_13_code, exceptionTable := #[], attributes := #[] }
def k16m1 : Method := { name := "stringSize", desc := "(I)I", sig := { parameters := [.int], returnType := some .int }, accessFlags := 8, code := some k16c1 }
/-- java/lang/Integer -/
def k16 : Class := { plain "java/lang/Integer" (some 15) with
  accessFlags := 49
  interfaces := #[3, 5, 6]
  cf := some (fileOf pool16 1 #[.nestMembers #[189]] #[{ accessFlags := 8, nameIndex := 77, descriptorIndex := 78, attributes := #[] }, { accessFlags := 8, nameIndex := 74, descriptorIndex := 54, attributes := #[] }] 49 203 #[304, 306, 308] #[{ accessFlags := 25, nameIndex := 310, descriptorIndex := 194, attributes := #[] }, { accessFlags := 25, nameIndex := 312, descriptorIndex := 194, attributes := #[] }, { accessFlags := 25, nameIndex := 302, descriptorIndex := 303, attributes := #[] }, { accessFlags := 24, nameIndex := 19, descriptorIndex := 20, attributes := #[] }, { accessFlags := 24, nameIndex := 89, descriptorIndex := 86, attributes := #[] }, { accessFlags := 24, nameIndex := 85, descriptorIndex := 86, attributes := #[] }, { accessFlags := 18, nameIndex := 207, descriptorIndex := 194, attributes := #[] }, { accessFlags := 25, nameIndex := 316, descriptorIndex := 194, attributes := #[] }, { accessFlags := 25, nameIndex := 318, descriptorIndex := 194, attributes := #[] }, { accessFlags := 26, nameIndex := 320, descriptorIndex := 321, attributes := #[] }])
  fields := #[{ name := "MIN_VALUE", type := .int, accessFlags := 25, slot := 0, constantValue := 0 }, { name := "MAX_VALUE", type := .int, accessFlags := 25, slot := 1, constantValue := 0 }, { name := "TYPE", type := (.object "java/lang/Class"), accessFlags := 25, slot := 2, constantValue := 0 }, { name := "digits", type := (.array .char), accessFlags := 24, slot := 3, constantValue := 0 }, { name := "DigitTens", type := (.array .byte), accessFlags := 24, slot := 4, constantValue := 0 }, { name := "DigitOnes", type := (.array .byte), accessFlags := 24, slot := 5, constantValue := 0 }, { name := "value", type := .int, accessFlags := 18, slot := 0, constantValue := 0 }, { name := "SIZE", type := .int, accessFlags := 25, slot := 6, constantValue := 0 }, { name := "BYTES", type := .int, accessFlags := 25, slot := 7, constantValue := 0 }, { name := "serialVersionUID", type := .long, accessFlags := 26, slot := 8, constantValue := 0 }]
  methods := #[k16m0, k16m1]
  instanceTypes := #[.int]
  staticTypes := #[.int, .int, (.object "java/lang/Class"), (.array .char), (.array .byte), (.array .byte), .int, .int, .long]
  resolved := Array.replicate 453 none
  statics := some 1 }

def pool17 : Array CpInfo := pool [(2, .class_ 4), (1, u "java/lang/Object"), (0, u "<init>"), (0, u "()V"), (7, .class_ 16), (1, u "java/util/Arrays"), (57, .class_ 76), (1, u "java/util/Arrays$NaturalOrder"), (32, u "()Ljava/lang/Object;"), (3, .class_ 115), (1, u "java/util/Arrays$LegacyMergeSort"), (1, u "Z"), (10, .nameAndType 129 109), (0, u "clone"), (9, u "copyOfRange"), (10, .methodref 151 152), (0, .class_ 153), (0, .nameAndType 154 155), (0, u "java/lang/System"), (0, u "arraycopy"), (0, u "(Ljava/lang/Object;ILjava/lang/Object;II)V"), (146, u "copyOf"), (1, .methodref 305 306), (0, .class_ 307), (0, .nameAndType 308 309), (0, u "java/lang/Math"), (0, u "min"), (0, u "(II)I"), (0, .methodref 311 128), (0, .class_ 312), (0, u "[B"), (26, .methodref 14 340), (0, .nameAndType 341 342), (0, u "copyOfRangeByte"), (0, u "([BII)[B"), (0, .methodref 14 344), (0, .nameAndType 345 346), (0, u "checkLength"), (0, u "(II)V"), (28, .class_ 376), (0, u "java/util/Arrays$ArrayList"), (68, u "$assertionsDisabled"), (269, u "MIN_ARRAY_SORT_GRAN"), (0, u "I"), (2, u "INSERTIONSORT_THRESHOLD"), (149, u "([BI)[B"), (105, .class_ 976), (0, u "java/util/Arrays$ArrayItr")] 52

def k17m0 : Method := { name := "<init>", desc := "()V", sig := { parameters := [], returnType := none }, accessFlags := 2, code := none }
def k17c1 : Code := { maxStack := 6, maxLocals := 3, code := jdk_65_method_121_code, exceptionTable := #[], attributes := #[] }
def k17m1 : Method := { name := "copyOf", desc := "([BI)[B", sig := { parameters := [(.array .byte), .int], returnType := some (.array .byte) }, accessFlags := 9, code := some k17c1 }
def k17c2 : Code := { maxStack := 4, maxLocals := 2, code := jdk_65_method_131_code, exceptionTable := #[], attributes := #[] }
def k17m2 : Method := { name := "checkLength", desc := "(II)V", sig := { parameters := [.int, .int], returnType := none }, accessFlags := 10, code := some k17c2 }
def k17c3 : Code := { maxStack := 3, maxLocals := 3, code := jdk_65_method_132_code, exceptionTable := #[], attributes := #[] }
def k17m3 : Method := { name := "copyOfRange", desc := "([BII)[B", sig := { parameters := [(.array .byte), .int, .int], returnType := some (.array .byte) }, accessFlags := 9, code := some k17c3 }
def k17c4 : Code := { maxStack := 6, maxLocals := 5, code := jdk_65_method_133_code, exceptionTable := #[], attributes := #[] }
def k17m4 : Method := { name := "copyOfRangeByte", desc := "([BII)[B", sig := { parameters := [(.array .byte), .int, .int], returnType := some (.array .byte) }, accessFlags := 10, code := some k17c4 }
/-- java/util/Arrays -/
def k17 : Class := { plain "java/util/Arrays" (some 0) with
  accessFlags := 49
  interfaces := #[]
  cf := some (fileOf pool17 14 #[.nestMembers #[975, 375, 113, 74]] #[{ accessFlags := 2, nameIndex := 5, descriptorIndex := 6, attributes := #[] }, { accessFlags := 9, nameIndex := 302, descriptorIndex := 869, attributes := #[] }, { accessFlags := 10, nameIndex := 345, descriptorIndex := 346, attributes := #[] }, { accessFlags := 9, nameIndex := 139, descriptorIndex := 342, attributes := #[] }, { accessFlags := 10, nameIndex := 341, descriptorIndex := 342, attributes := #[] }] 49 2 #[] #[{ accessFlags := 26, nameIndex := 715, descriptorIndex := 716, attributes := #[] }, { accessFlags := 26, nameIndex := 719, descriptorIndex := 716, attributes := #[] }, { accessFlags := 4120, nameIndex := 445, descriptorIndex := 117, attributes := #[] }])
  fields := #[{ name := "MIN_ARRAY_SORT_GRAN", type := .int, accessFlags := 26, slot := 0, constantValue := 0 }, { name := "INSERTIONSORT_THRESHOLD", type := .int, accessFlags := 26, slot := 1, constantValue := 0 }, { name := "$assertionsDisabled", type := .boolean, accessFlags := 4120, slot := 2, constantValue := 0 }]
  methods := #[k17m0, k17m1, k17m2, k17m3, k17m4]
  instanceTypes := #[]
  staticTypes := #[.int, .int, .boolean]
  resolved := Array.replicate 1029 none
  statics := none }

def pool18 : Array CpInfo := pool [(1, .class_ 2), (0, u "java/lang/Math"), (1, .class_ 6), (1, u "java/lang/Object"), (0, u "<init>"), (0, u "()V"), (89, .class_ 100), (1, u "java/lang/Math$RandomNumberGeneratorHolder"), (23, u "abs"), (0, u "(J)J"), (46, u "negativeZeroFloatBits"), (0, u "J"), (2, u "negativeZeroDoubleBits"), (21, u "max"), (2, u "min"), (43, u "$assertionsDisabled"), (0, u "Z"), (88, u "(II)I"), (2, u "twoToTheDoubleScaleDown"), (0, u "D"), (4, u "twoToTheDoubleScaleUp"), (9, u "E"), (3, u "PI"), (2, u "TAU"), (2, u "DEGREES_TO_RADIANS"), (0, u "RADIANS_TO_DEGREES")] 94

def k18m0 : Method := { name := "<init>", desc := "()V", sig := { parameters := [], returnType := none }, accessFlags := 2, code := none }
def k18c1 : Code := { maxStack := 4, maxLocals := 2, code := jdk_29_method_61_code, exceptionTable := #[], attributes := #[] }
def k18m1 : Method := { name := "abs", desc := "(J)J", sig := { parameters := [.long], returnType := some .long }, accessFlags := 9, code := some k18c1 }
def k18c2 : Code := { maxStack := 2, maxLocals := 2, code := jdk_29_method_65_code, exceptionTable := #[], attributes := #[] }
def k18m2 : Method := { name := "max", desc := "(II)I", sig := { parameters := [.int, .int], returnType := some .int }, accessFlags := 9, code := some k18c2 }
def k18c3 : Code := { maxStack := 2, maxLocals := 2, code := jdk_29_method_69_code, exceptionTable := #[], attributes := #[] }
def k18m3 : Method := { name := "min", desc := "(II)I", sig := { parameters := [.int, .int], returnType := some .int }, accessFlags := 9, code := some k18c3 }
/-- java/lang/Math -/
def k18 : Class := { plain "java/lang/Math" (some 0) with
  accessFlags := 49
  interfaces := #[]
  cf := some (fileOf pool18 1 #[.nestMembers #[98]] #[{ accessFlags := 2, nameIndex := 7, descriptorIndex := 8, attributes := #[] }, { accessFlags := 9, nameIndex := 124, descriptorIndex := 125, attributes := #[] }, { accessFlags := 9, nameIndex := 198, descriptorIndex := 335, attributes := #[] }, { accessFlags := 9, nameIndex := 201, descriptorIndex := 335, attributes := #[] }] 49 4 #[] #[{ accessFlags := 25, nameIndex := 354, descriptorIndex := 339, attributes := #[] }, { accessFlags := 25, nameIndex := 358, descriptorIndex := 339, attributes := #[] }, { accessFlags := 25, nameIndex := 361, descriptorIndex := 339, attributes := #[] }, { accessFlags := 26, nameIndex := 364, descriptorIndex := 339, attributes := #[] }, { accessFlags := 26, nameIndex := 365, descriptorIndex := 339, attributes := #[] }, { accessFlags := 26, nameIndex := 172, descriptorIndex := 173, attributes := #[] }, { accessFlags := 26, nameIndex := 176, descriptorIndex := 173, attributes := #[] }, { accessFlags := 8, nameIndex := 344, descriptorIndex := 339, attributes := #[] }, { accessFlags := 8, nameIndex := 338, descriptorIndex := 339, attributes := #[] }, { accessFlags := 4120, nameIndex := 245, descriptorIndex := 246, attributes := #[] }])
  fields := #[{ name := "E", type := .double, accessFlags := 25, slot := 0, constantValue := 0 }, { name := "PI", type := .double, accessFlags := 25, slot := 1, constantValue := 0 }, { name := "TAU", type := .double, accessFlags := 25, slot := 2, constantValue := 0 }, { name := "DEGREES_TO_RADIANS", type := .double, accessFlags := 26, slot := 3, constantValue := 0 }, { name := "RADIANS_TO_DEGREES", type := .double, accessFlags := 26, slot := 4, constantValue := 0 }, { name := "negativeZeroFloatBits", type := .long, accessFlags := 26, slot := 5, constantValue := 0 }, { name := "negativeZeroDoubleBits", type := .long, accessFlags := 26, slot := 6, constantValue := 0 }, { name := "twoToTheDoubleScaleUp", type := .double, accessFlags := 8, slot := 7, constantValue := 0 }, { name := "twoToTheDoubleScaleDown", type := .double, accessFlags := 8, slot := 8, constantValue := 0 }, { name := "$assertionsDisabled", type := .boolean, accessFlags := 4120, slot := 9, constantValue := 0 }]
  methods := #[k18m0, k18m1, k18m2, k18m3]
  instanceTypes := #[]
  staticTypes := #[.double, .double, .double, .double, .double, .long, .long, .double, .double, .boolean]
  resolved := Array.replicate 460 none
  statics := none }

def pool19 : Array CpInfo := pool [(2, .class_ 4), (1, u "java/lang/Object"), (0, u "<init>"), (0, u "()V"), (17, .class_ 26), (1, u "jdk/internal/util/Preconditions"), (6, u "checkIndex"), (21, .class_ 56), (0, u "jdk/internal/util/Preconditions$4"), (57, .class_ 115), (0, u "jdk/internal/util/Preconditions$1"), (7, u "SIOOBE_FORMATTER"), (0, u "Ljava/util/function/BiFunction;"), (0, .class_ 126), (0, u "jdk/internal/util/Preconditions$2"), (3, u "AIOOBE_FORMATTER"), (0, .class_ 132), (0, u "jdk/internal/util/Preconditions$3"), (3, u "IOOBE_FORMATTER"), (41, u "(IILjava/util/function/BiFunction;)I")] 15

def k19m0 : Method := { name := "<init>", desc := "()V", sig := { parameters := [], returnType := none }, accessFlags := 1, code := none }
def k19c1 : Code := { maxStack := 3, maxLocals := 3, code := jdk_41_method_11_code, exceptionTable := #[], attributes := #[] }
def k19m1 : Method := { name := "checkIndex", desc := "(IILjava/util/function/BiFunction;)I", sig := { parameters := [.int, .int, (.object "java/util/function/BiFunction")], returnType := some .int }, accessFlags := 9, code := some k19c1 }
/-- jdk/internal/util/Preconditions -/
def k19 : Class := { plain "jdk/internal/util/Preconditions" (some 0) with
  accessFlags := 33
  interfaces := #[]
  cf := some (fileOf pool19 24 #[.nestMembers #[55, 131, 125, 114]] #[{ accessFlags := 1, nameIndex := 5, descriptorIndex := 6, attributes := #[] }, { accessFlags := 9, nameIndex := 33, descriptorIndex := 178, attributes := #[] }] 33 2 #[] #[{ accessFlags := 25, nameIndex := 123, descriptorIndex := 124, attributes := #[] }, { accessFlags := 25, nameIndex := 130, descriptorIndex := 124, attributes := #[] }, { accessFlags := 25, nameIndex := 136, descriptorIndex := 124, attributes := #[] }])
  fields := #[{ name := "SIOOBE_FORMATTER", type := (.object "java/util/function/BiFunction"), accessFlags := 25, slot := 0, constantValue := 0 }, { name := "AIOOBE_FORMATTER", type := (.object "java/util/function/BiFunction"), accessFlags := 25, slot := 1, constantValue := 0 }, { name := "IOOBE_FORMATTER", type := (.object "java/util/function/BiFunction"), accessFlags := 25, slot := 2, constantValue := 0 }]
  methods := #[k19m0, k19m1]
  instanceTypes := #[]
  staticTypes := #[(.object "java/util/function/BiFunction"), (.object "java/util/function/BiFunction"), (.object "java/util/function/BiFunction")]
  resolved := Array.replicate 194 none
  statics := some 2 }

def pool20 : Array CpInfo := pool [(6, .class_ 8), (1, u "java/lang/Object"), (0, u "<init>"), (0, u "()V"), (1, .class_ 14), (1, u "java/lang/StringUTF16"), (31, u "$assertionsDisabled"), (0, u "Z"), (13, u "HI_BYTE_SHIFT"), (0, u "I"), (2, u "LO_BYTE_SHIFT"), (49, .methodref 12 116), (0, .nameAndType 117 118), (0, u "compress"), (0, u "([CI[BII)I"), (3, u "([CII)[B"), (138, u "coderFromArrayLen"), (0, u "([BI)B"), (106, .class_ 371), (1, u "java/lang/StringUTF16$LinesSpliterator"), (58, u "MAX_LENGTH"), (196, .class_ 628), (0, u "java/lang/StringUTF16$CodePointsSpliterator"), (0, .class_ 630), (0, u "java/lang/StringUTF16$CharsSpliterator")] 4

def k20m0 : Method := { name := "<init>", desc := "()V", sig := { parameters := [], returnType := none }, accessFlags := 0, code := none }
def k20c1 : Code := { maxStack := 2, maxLocals := 2, code := jdk_52_method_15_code, exceptionTable := #[], attributes := #[] }
def k20m1 : Method := { name := "coderFromArrayLen", desc := "([BI)B", sig := { parameters := [(.array .byte), .int], returnType := some .byte }, accessFlags := 8, code := some k20c1 }
def k20c2 : Code := { maxStack := 5, maxLocals := 6, code := jdk_52_method_16_code, exceptionTable := #[], attributes := #[] }
def k20m2 : Method := { name := "compress", desc := "([CII)[B", sig := { parameters := [(.array .char), .int, .int], returnType := some (.array .byte) }, accessFlags := 9, code := some k20c2 }
def k20c3 : Code := { maxStack := 3, maxLocals := 7, code := jdk_52_method_21_code, exceptionTable := #[], attributes := #[] }
def k20m3 : Method := { name := "compress", desc := "([CI[BII)I", sig := { parameters := [(.array .char), .int, (.array .byte), .int, .int], returnType := some .int }, accessFlags := 9, code := some k20c3 }
/-- java/lang/StringUTF16 -/
def k20 : Class := { plain "java/lang/StringUTF16" (some 0) with
  accessFlags := 48
  interfaces := #[]
  cf := some (fileOf pool20 12 #[.nestMembers #[627, 629, 369]] #[{ accessFlags := 0, nameIndex := 9, descriptorIndex := 10, attributes := #[] }, { accessFlags := 8, nameIndex := 261, descriptorIndex := 262, attributes := #[] }, { accessFlags := 9, nameIndex := 117, descriptorIndex := 122, attributes := #[] }, { accessFlags := 9, nameIndex := 117, descriptorIndex := 118, attributes := #[] }] 48 6 #[] #[{ accessFlags := 26, nameIndex := 61, descriptorIndex := 62, attributes := #[] }, { accessFlags := 26, nameIndex := 65, descriptorIndex := 62, attributes := #[] }, { accessFlags := 24, nameIndex := 430, descriptorIndex := 62, attributes := #[] }, { accessFlags := 4120, nameIndex := 46, descriptorIndex := 47, attributes := #[] }])
  fields := #[{ name := "HI_BYTE_SHIFT", type := .int, accessFlags := 26, slot := 0, constantValue := 0 }, { name := "LO_BYTE_SHIFT", type := .int, accessFlags := 26, slot := 1, constantValue := 0 }, { name := "MAX_LENGTH", type := .int, accessFlags := 24, slot := 2, constantValue := 0 }, { name := "$assertionsDisabled", type := .boolean, accessFlags := 4120, slot := 3, constantValue := 0 }]
  methods := #[k20m0, k20m1, k20m2, k20m3]
  instanceTypes := #[]
  staticTypes := #[.int, .int, .int, .boolean]
  resolved := Array.replicate 635 none
  statics := none }

def pool21 : Array CpInfo := pool [(9, u "<init>"), (6, .class_ 18), (1, u "java/lang/Object"), (0, u "()V"), (1, .class_ 23), (1, u "jdk/internal/util/ArraysSupport"), (0, u "LOG2_ARRAY_LONG_INDEX_SCALE"), (0, u "I"), (2, u "U"), (0, u "Ljdk/internal/misc/Unsafe;"), (8, u "BIG_ENDIAN"), (0, u "Z"), (8, u "LOG2_BYTE_BIT_SIZE"), (4, u "LOG2_ARRAY_INT_INDEX_SCALE"), (54, u "JLA"), (0, u "Ljdk/internal/access/JavaLangAccess;"), (11, u "LOG2_ARRAY_BOOLEAN_INDEX_SCALE"), (9, u "LOG2_ARRAY_BYTE_INDEX_SCALE"), (5, u "LOG2_ARRAY_CHAR_INDEX_SCALE"), (5, u "LOG2_ARRAY_SHORT_INDEX_SCALE"), (18, u "LOG2_ARRAY_FLOAT_INDEX_SCALE"), (24, u "LOG2_ARRAY_DOUBLE_INDEX_SCALE"), (6, .methodref 195 196), (0, .class_ 197), (0, .nameAndType 198 199), (0, u "java/lang/Math"), (0, u "max"), (0, u "(II)I"), (0, .integer 2147483639), (76, u "T_BOOLEAN"), (2, u "T_CHAR"), (1, u "T_FLOAT"), (1, u "T_DOUBLE"), (1, u "T_BYTE"), (1, u "T_SHORT"), (1, u "T_INT"), (1, u "T_LONG"), (1, u "SOFT_MAX_ARRAY_LENGTH"), (56, u "newLength"), (0, u "(III)I")] 25

def k21m0 : Method := { name := "<init>", desc := "()V", sig := { parameters := [], returnType := none }, accessFlags := 2, code := none }
def k21c1 : Code := { maxStack := 3, maxLocals := 4, code := jdk_48_method_27_code, exceptionTable := #[], attributes := #[] }
def k21m1 : Method := { name := "newLength", desc := "(III)I", sig := { parameters := [.int, .int, .int], returnType := some .int }, accessFlags := 9, code := some k21c1 }
/-- jdk/internal/util/ArraysSupport -/
def k21 : Class := { plain "jdk/internal/util/ArraysSupport" (some 0) with
  accessFlags := 33
  interfaces := #[]
  cf := some (fileOf pool21 21 #[] #[{ accessFlags := 2, nameIndex := 9, descriptorIndex := 19, attributes := #[] }, { accessFlags := 9, nameIndex := 351, descriptorIndex := 352, attributes := #[] }] 33 16 #[] #[{ accessFlags := 24, nameIndex := 28, descriptorIndex := 29, attributes := #[] }, { accessFlags := 26, nameIndex := 38, descriptorIndex := 39, attributes := #[] }, { accessFlags := 25, nameIndex := 121, descriptorIndex := 25, attributes := #[] }, { accessFlags := 25, nameIndex := 131, descriptorIndex := 25, attributes := #[] }, { accessFlags := 25, nameIndex := 137, descriptorIndex := 25, attributes := #[] }, { accessFlags := 25, nameIndex := 143, descriptorIndex := 25, attributes := #[] }, { accessFlags := 25, nameIndex := 53, descriptorIndex := 25, attributes := #[] }, { accessFlags := 25, nameIndex := 24, descriptorIndex := 25, attributes := #[] }, { accessFlags := 25, nameIndex := 162, descriptorIndex := 25, attributes := #[] }, { accessFlags := 25, nameIndex := 187, descriptorIndex := 25, attributes := #[] }, { accessFlags := 26, nameIndex := 48, descriptorIndex := 25, attributes := #[] }, { accessFlags := 25, nameIndex := 277, descriptorIndex := 25, attributes := #[] }, { accessFlags := 25, nameIndex := 280, descriptorIndex := 25, attributes := #[] }, { accessFlags := 25, nameIndex := 282, descriptorIndex := 25, attributes := #[] }, { accessFlags := 25, nameIndex := 284, descriptorIndex := 25, attributes := #[] }, { accessFlags := 25, nameIndex := 286, descriptorIndex := 25, attributes := #[] }, { accessFlags := 25, nameIndex := 288, descriptorIndex := 25, attributes := #[] }, { accessFlags := 25, nameIndex := 290, descriptorIndex := 25, attributes := #[] }, { accessFlags := 25, nameIndex := 292, descriptorIndex := 25, attributes := #[] }, { accessFlags := 26, nameIndex := 108, descriptorIndex := 109, attributes := #[] }, { accessFlags := 25, nameIndex := 294, descriptorIndex := 25, attributes := #[] }])
  fields := #[{ name := "U", type := (.object "jdk/internal/misc/Unsafe"), accessFlags := 24, slot := 0, constantValue := 0 }, { name := "BIG_ENDIAN", type := .boolean, accessFlags := 26, slot := 1, constantValue := 0 }, { name := "LOG2_ARRAY_BOOLEAN_INDEX_SCALE", type := .int, accessFlags := 25, slot := 2, constantValue := 0 }, { name := "LOG2_ARRAY_BYTE_INDEX_SCALE", type := .int, accessFlags := 25, slot := 3, constantValue := 0 }, { name := "LOG2_ARRAY_CHAR_INDEX_SCALE", type := .int, accessFlags := 25, slot := 4, constantValue := 0 }, { name := "LOG2_ARRAY_SHORT_INDEX_SCALE", type := .int, accessFlags := 25, slot := 5, constantValue := 0 }, { name := "LOG2_ARRAY_INT_INDEX_SCALE", type := .int, accessFlags := 25, slot := 6, constantValue := 0 }, { name := "LOG2_ARRAY_LONG_INDEX_SCALE", type := .int, accessFlags := 25, slot := 7, constantValue := 0 }, { name := "LOG2_ARRAY_FLOAT_INDEX_SCALE", type := .int, accessFlags := 25, slot := 8, constantValue := 0 }, { name := "LOG2_ARRAY_DOUBLE_INDEX_SCALE", type := .int, accessFlags := 25, slot := 9, constantValue := 0 }, { name := "LOG2_BYTE_BIT_SIZE", type := .int, accessFlags := 26, slot := 10, constantValue := 0 }, { name := "T_BOOLEAN", type := .int, accessFlags := 25, slot := 11, constantValue := 0 }, { name := "T_CHAR", type := .int, accessFlags := 25, slot := 12, constantValue := 0 }, { name := "T_FLOAT", type := .int, accessFlags := 25, slot := 13, constantValue := 0 }, { name := "T_DOUBLE", type := .int, accessFlags := 25, slot := 14, constantValue := 0 }, { name := "T_BYTE", type := .int, accessFlags := 25, slot := 15, constantValue := 0 }, { name := "T_SHORT", type := .int, accessFlags := 25, slot := 16, constantValue := 0 }, { name := "T_INT", type := .int, accessFlags := 25, slot := 17, constantValue := 0 }, { name := "T_LONG", type := .int, accessFlags := 25, slot := 18, constantValue := 0 }, { name := "JLA", type := (.object "jdk/internal/access/JavaLangAccess"), accessFlags := 26, slot := 19, constantValue := 0 }, { name := "SOFT_MAX_ARRAY_LENGTH", type := .int, accessFlags := 25, slot := 20, constantValue := 0 }]
  methods := #[k21m0, k21m1]
  instanceTypes := #[]
  staticTypes := #[(.object "jdk/internal/misc/Unsafe"), .boolean, .int, .int, .int, .int, .int, .int, .int, .int, .int, .int, .int, .int, .int, .int, .int, .int, .int, (.object "jdk/internal/access/JavaLangAccess"), .int]
  resolved := Array.replicate 378 none
  statics := none }

def pool22 : Array CpInfo := pool [(1, .class_ 2), (0, u "java/lang/Cloneable"), (0, .class_ 4), (0, u "java/lang/Object")] 2

/-- java/lang/Cloneable -/
def k22 : Class := { plain "java/lang/Cloneable" (some 0) with
  accessFlags := 1537
  interfaces := #[]
  cf := some (fileOf pool22 1 #[] #[] 1537 3 #[] #[])
  fields := #[]
  methods := #[]
  instanceTypes := #[]
  staticTypes := #[]
  resolved := Array.replicate 7 none
  statics := none }

/-- the primitive byte -/
def k23 : Class := { plain "byte" none with kind := .primitive 'B', accessFlags := 0x411 }
/-- [B -/
def k24 : Class := { plain "[B" (some 0) with kind := .array 23 .byte, interfaces := #[22, 2], accessFlags := 1041 }

/-- the primitive char -/
def k25 : Class := { plain "char" none with kind := .primitive 'C', accessFlags := 0x411 }
/-- [C -/
def k26 : Class := { plain "[C" (some 0) with kind := .array 25 .char, interfaces := #[22, 2], accessFlags := 1041 }

/-- the primitive int -/
def k27 : Class := { plain "int" none with kind := .primitive 'I', accessFlags := 0x411 }
/-- [I -/
def k28 : Class := { plain "[I" (some 0) with kind := .array 27 .int, interfaces := #[22, 2], accessFlags := 1041 }

def heap : Heap := #[{ cls := 7, slots := #[.long 0, .int 1, .null, .int 0, .null, .int 0, .int 0], vm := .statics 7 },
  { cls := 16, slots := #[.int 0, .int 0, .null, .null, .ref 4, .ref 3, .int 0, .int 0, .long 0], vm := .statics 16 },
  { cls := 19, slots := #[.null, .null, .null], vm := .statics 19 },
  { cls := 24, slots := #[.int 48, .int 49, .int 50, .int 51, .int 52, .int 53, .int 54, .int 55, .int 56, .int 57, .int 48, .int 49, .int 50, .int 51, .int 52, .int 53, .int 54, .int 55, .int 56, .int 57, .int 48, .int 49, .int 50, .int 51, .int 52, .int 53, .int 54, .int 55, .int 56, .int 57, .int 48, .int 49, .int 50, .int 51, .int 52, .int 53, .int 54, .int 55, .int 56, .int 57, .int 48, .int 49, .int 50, .int 51, .int 52, .int 53, .int 54, .int 55, .int 56, .int 57, .int 48, .int 49, .int 50, .int 51, .int 52, .int 53, .int 54, .int 55, .int 56, .int 57, .int 48, .int 49, .int 50, .int 51, .int 52, .int 53, .int 54, .int 55, .int 56, .int 57, .int 48, .int 49, .int 50, .int 51, .int 52, .int 53, .int 54, .int 55, .int 56, .int 57, .int 48, .int 49, .int 50, .int 51, .int 52, .int 53, .int 54, .int 55, .int 56, .int 57, .int 48, .int 49, .int 50, .int 51, .int 52, .int 53, .int 54, .int 55, .int 56, .int 57], vm := .none },
  { cls := 24, slots := #[.int 48, .int 48, .int 48, .int 48, .int 48, .int 48, .int 48, .int 48, .int 48, .int 48, .int 49, .int 49, .int 49, .int 49, .int 49, .int 49, .int 49, .int 49, .int 49, .int 49, .int 50, .int 50, .int 50, .int 50, .int 50, .int 50, .int 50, .int 50, .int 50, .int 50, .int 51, .int 51, .int 51, .int 51, .int 51, .int 51, .int 51, .int 51, .int 51, .int 51, .int 52, .int 52, .int 52, .int 52, .int 52, .int 52, .int 52, .int 52, .int 52, .int 52, .int 53, .int 53, .int 53, .int 53, .int 53, .int 53, .int 53, .int 53, .int 53, .int 53, .int 54, .int 54, .int 54, .int 54, .int 54, .int 54, .int 54, .int 54, .int 54, .int 54, .int 55, .int 55, .int 55, .int 55, .int 55, .int 55, .int 55, .int 55, .int 55, .int 55, .int 56, .int 56, .int 56, .int 56, .int 56, .int 56, .int 56, .int 56, .int 56, .int 56, .int 57, .int 57, .int 57, .int 57, .int 57, .int 57, .int 57, .int 57, .int 57, .int 57], vm := .none }]
def classes : Array Class := #[k0, k1, k2, k3, k4, k5, k6, k7, k8, k9, k10, k11, k12, k13, k14, k15, k16, k17, k18, k19, k20, k21, k22, k23, k24, k25, k26, k27, k28]
def interned : List (Array UInt16 × Addr) := []
def slotsUsed : Nat := 219
def theMethod : MethodId := ⟨1, 1⟩
def args0 : Array Value := #[.int 5, .int 6, .int 7]
def aboutOver (below : List Frame) : State where
  vm := { classes := classes, interned := interned.toArray }
  heap := heap
  slotsUsed := slotsUsed
  threads := #[{ frames := .invoking theMethod args0 :: below }]
def below0 : List Frame := [.native { method := ⟨0, 0⟩, args := #[] }]
def about1 : State := aboutOver below0
def p0 : Program := .bare "" "" ""
def e0 : Env := launch0.env 0 0 0
theorem w_frames : about1.frames = Frame.invoking theMethod args0 :: below0 := rfl
set_option maxRecDepth 65536 in
theorem w_args : argsFit about1.vm theMethod args0 = true := by decide +kernel
set_option maxRecDepth 65536 in
theorem w_heap : heapFits about1 = true := by decide +kernel
set_option maxRecDepth 65536 in
theorem w_runnable : about1.curStatus? = some .runnable := by decide +kernel
set_option maxRecDepth 65536 in
theorem w_alone : about1.alone = true := by decide +kernel
set_option maxRecDepth 65536 in
theorem w_named : about1.methodNamed? x = some theMethod := by decide +kernel
set_option maxRecDepth 65536 in
theorem w_hears : about1.hears theMethod below0 = true := by decide +kernel
set_option maxRecDepth 65536 in
theorem w_ripe : about1.ripe theMethod args0 below0 = true := by decide +kernel
theorem w_running : about1.status = .running := rfl
set_option maxRecDepth 65536 in
theorem w_room : about1.hasRoom e0.platform room_1 = true :=
  launch0.hasRoom_least _ room_1 (by decide +kernel) (by decide +kernel) (by decide +kernel) (by decide +kernel) (by decide +kernel) (by decide +kernel)
theorem allAtoms_all (ts : List Jvm.Cond) (a : Array Jvm.Value) (st : Jvm.State) : (allAtoms ts).before a st = ts.all (fun c => c.before a st) := by
  induction ts with
  | nil => rfl
  | cons c t ih =>
    show (Jvm.Cond.and c (allAtoms t)).before a st = _
    rw [Jvm.Cond.before_and, ih, List.all_cons]
def words1 : List Jvm.Cond := Jvm.Cond.code x code maxLocals ret :: tables_1
/-- a 'code' word, met by the world's own term for the bytes: nothing is compared byte by byte -/
theorem code_word {y : MethodName} {bytes : ByteArray} {mx : Nat} {rt : Option FieldType} {a : Array Value} {s : State} {m : MethodId} {meth : Method} {c : Code} (h1 : s.methodNamed? y = some m) (h2 : s.vm.method? m = some meth) (h3 : meth.code = some c) (h4 : c.code = bytes)
    (h5 : (c.maxLocals == mx && c.exceptionTable.isEmpty && decide (c.maxStack ≤ mostOperands) && decide (meth.sig.returnType = rt) && !meth.locks && decide (parseMethodDescriptor y.desc = some meth.sig)) = true) : (Jvm.Cond.code y bytes mx rt).before a s = true := by
  simp only [Bool.and_eq_true, beq_iff_eq, Bool.not_eq_true', decide_eq_true_eq] at h5
  obtain ⟨⟨⟨⟨⟨g1, g2⟩, g3⟩, g4⟩, g5⟩, g6⟩ := h5
  simp [Cond.before, Cond.holds, Cond.value, h1, h2, h3, h4, g1, g2, g3, g4, g5, g6]
def isCode : Jvm.Cond → Bool
  | .code _ _ _ _ => true
  | _ => false
theorem all_split {L : List Jvm.Cond} {P : Jvm.Cond → Bool} (h1 : L.all (fun c => isCode c || P c) = true) (h2 : ∀ c ∈ L.filter isCode, P c = true) : L.all P = true := by
  refine List.all_eq_true.mpr fun c hc => ?_
  have h := List.all_eq_true.mp h1 c hc
  rcases Bool.eq_false_or_eq_true (isCode c) with hi | hi
  · exact h2 c (List.mem_filter.mpr ⟨hc, hi⟩)
  · simpa [hi] using h
set_option maxRecDepth 65536 in
theorem w_c0 : (Jvm.Cond.code x code maxLocals ret).before args0 about1 = true := code_word (m := ⟨1, 1⟩) (meth := k1m1) (c := k1c1) (by decide +kernel) rfl rfl rfl (by decide +kernel)
set_option maxRecDepth 65536 in
theorem w_c1 : (Jvm.Cond.code ({ cls := "java/lang/String", name := "<init>", desc := "([C)V" } : Jvm.MethodName) jdk_42_method_3_code (2 : Nat) (Option.none : Option Jvm.ClassFile.FieldType)).before args0 about1 = true := code_word (m := ⟨7, 1⟩) (meth := k7m1) (c := k7c1) (by decide +kernel) rfl rfl rfl (by decide +kernel)
set_option maxRecDepth 65536 in
theorem w_c2 : (Jvm.Cond.code ({ cls := "java/lang/String", name := "<init>", desc := "([CIILjava/lang/Void;)V" } : Jvm.MethodName) jdk_42_method_149_code (6 : Nat) (Option.none : Option Jvm.ClassFile.FieldType)).before args0 about1 = true := code_word (m := ⟨7, 9⟩) (meth := k7m9) (c := k7c9) (by decide +kernel) rfl rfl rfl (by decide +kernel)
set_option maxRecDepth 65536 in
theorem w_c3 : (Jvm.Cond.code ({ cls := "java/lang/Object", name := "<init>", desc := "()V" } : Jvm.MethodName) object_method_1_code (1 : Nat) (Option.none : Option Jvm.ClassFile.FieldType)).before args0 about1 = true := code_word (m := ⟨0, 0⟩) (meth := k0m0) (c := k0c0) (by decide +kernel) rfl rfl rfl (by decide +kernel)
set_option maxRecDepth 65536 in
theorem w_c4 : (Jvm.Cond.code ({ cls := "com/example/devizes/devizes/redis/RedisAddress", name := "<init>", desc := "(Ljava/lang/String;II)V" } : Jvm.MethodName) prog_17_method_1_code (4 : Nat) (Option.none : Option Jvm.ClassFile.FieldType)).before args0 about1 = true := code_word (m := ⟨9, 0⟩) (meth := k9m0) (c := k9c0) (by decide +kernel) rfl rfl rfl (by decide +kernel)
set_option maxRecDepth 65536 in
theorem w_c5 : (Jvm.Cond.code ({ cls := "java/lang/Record", name := "<init>", desc := "()V" } : Jvm.MethodName) jdk_30_method_1_code (1 : Nat) (Option.none : Option Jvm.ClassFile.FieldType)).before args0 about1 = true := code_word (m := ⟨8, 0⟩) (meth := k8m0) (c := k8c0) (by decide +kernel) rfl rfl rfl (by decide +kernel)
set_option maxRecDepth 65536 in
theorem w_c6 : (Jvm.Cond.code ({ cls := "com/example/devizes/devizes/redis/RedisAddress", name := "toString", desc := "()Ljava/lang/String;" } : Jvm.MethodName) prog_17_method_4_code (1 : Nat) (Option.some (Jvm.ClassFile.FieldType.object "java/lang/String"))).before args0 about1 = true := code_word (m := ⟨9, 1⟩) (meth := k9m1) (c := k9c1) (by decide +kernel) rfl rfl rfl (by decide +kernel)
set_option maxRecDepth 65536 in
theorem w_c7 : (Jvm.Cond.code ({ cls := "java/lang/StringBuilder", name := "<init>", desc := "()V" } : Jvm.MethodName) jdk_67_method_1_code (1 : Nat) (Option.none : Option Jvm.ClassFile.FieldType)).before args0 about1 = true := code_word (m := ⟨12, 0⟩) (meth := k12m0) (c := k12c0) (by decide +kernel) rfl rfl rfl (by decide +kernel)
set_option maxRecDepth 65536 in
theorem w_c8 : (Jvm.Cond.code ({ cls := "java/lang/AbstractStringBuilder", name := "<init>", desc := "(I)V" } : Jvm.MethodName) jdk_68_method_2_code (2 : Nat) (Option.none : Option Jvm.ClassFile.FieldType)).before args0 about1 = true := code_word (m := ⟨11, 1⟩) (meth := k11m1) (c := k11c1) (by decide +kernel) rfl rfl rfl (by decide +kernel)
set_option maxRecDepth 65536 in
theorem w_c9 : (Jvm.Cond.code ({ cls := "java/lang/StringBuilder", name := "append", desc := "(Ljava/lang/String;)Ljava/lang/StringBuilder;" } : Jvm.MethodName) jdk_67_method_7_code (2 : Nat) (Option.some (Jvm.ClassFile.FieldType.object "java/lang/StringBuilder"))).before args0 about1 = true := code_word (m := ⟨12, 1⟩) (meth := k12m1) (c := k12c1) (by decide +kernel) rfl rfl rfl (by decide +kernel)
set_option maxRecDepth 65536 in
theorem w_c10 : (Jvm.Cond.code ({ cls := "java/lang/AbstractStringBuilder", name := "append", desc := "(Ljava/lang/String;)Ljava/lang/AbstractStringBuilder;" } : Jvm.MethodName) jdk_68_method_22_code (3 : Nat) (Option.some (Jvm.ClassFile.FieldType.object "java/lang/AbstractStringBuilder"))).before args0 about1 = true := code_word (m := ⟨11, 5⟩) (meth := k11m5) (c := k11c5) (by decide +kernel) rfl rfl rfl (by decide +kernel)
set_option maxRecDepth 65536 in
theorem w_c11 : (Jvm.Cond.code ({ cls := "java/lang/String", name := "length", desc := "()I" } : Jvm.MethodName) jdk_42_method_54_code (1 : Nat) (Option.some Jvm.ClassFile.FieldType.int)).before args0 about1 = true := code_word (m := ⟨7, 3⟩) (meth := k7m3) (c := k7c3) (by decide +kernel) rfl rfl rfl (by decide +kernel)
set_option maxRecDepth 65536 in
theorem w_c12 : (Jvm.Cond.code ({ cls := "java/lang/String", name := "coder", desc := "()B" } : Jvm.MethodName) jdk_42_method_152_code (1 : Nat) (Option.some Jvm.ClassFile.FieldType.byte)).before args0 about1 = true := code_word (m := ⟨7, 11⟩) (meth := k7m11) (c := k7c11) (by decide +kernel) rfl rfl rfl (by decide +kernel)
set_option maxRecDepth 65536 in
theorem w_c13 : (Jvm.Cond.code ({ cls := "java/lang/AbstractStringBuilder", name := "ensureCapacityInternal", desc := "(I)V" } : Jvm.MethodName) jdk_68_method_9_code (3 : Nat) (Option.none : Option Jvm.ClassFile.FieldType)).before args0 about1 = true := code_word (m := ⟨11, 3⟩) (meth := k11m3) (c := k11c3) (by decide +kernel) rfl rfl rfl (by decide +kernel)
set_option maxRecDepth 65536 in
theorem w_c14 : (Jvm.Cond.code ({ cls := "java/lang/AbstractStringBuilder", name := "putStringAt", desc := "(ILjava/lang/String;)V" } : Jvm.MethodName) jdk_68_method_73_code (3 : Nat) (Option.none : Option Jvm.ClassFile.FieldType)).before args0 about1 = true := code_word (m := ⟨11, 10⟩) (meth := k11m10) (c := k11c10) (by decide +kernel) rfl rfl rfl (by decide +kernel)
set_option maxRecDepth 65536 in
theorem w_c15 : (Jvm.Cond.code ({ cls := "java/lang/AbstractStringBuilder", name := "inflateIfNeededFor", desc := "(Ljava/lang/String;)V" } : Jvm.MethodName) jdk_68_method_71_code (2 : Nat) (Option.none : Option Jvm.ClassFile.FieldType)).before args0 about1 = true := code_word (m := ⟨11, 9⟩) (meth := k11m9) (c := k11c9) (by decide +kernel) rfl rfl rfl (by decide +kernel)
set_option maxRecDepth 65536 in
theorem w_c16 : (Jvm.Cond.code ({ cls := "java/lang/String", name := "getBytes", desc := "([BIB)V" } : Jvm.MethodName) jdk_42_method_147_code (4 : Nat) (Option.none : Option Jvm.ClassFile.FieldType)).before args0 about1 = true := code_word (m := ⟨7, 8⟩) (meth := k7m8) (c := k7c8) (by decide +kernel) rfl rfl rfl (by decide +kernel)
set_option maxRecDepth 65536 in
theorem w_c17 : (Jvm.Cond.code ({ cls := "java/lang/String", name := "contains", desc := "(Ljava/lang/CharSequence;)Z" } : Jvm.MethodName) jdk_42_method_97_code (2 : Nat) (Option.some Jvm.ClassFile.FieldType.boolean)).before args0 about1 = true := code_word (m := ⟨7, 6⟩) (meth := k7m6) (c := k7c6) (by decide +kernel) rfl rfl rfl (by decide +kernel)
set_option maxRecDepth 65536 in
theorem w_c18 : (Jvm.Cond.code ({ cls := "java/lang/String", name := "toString", desc := "()Ljava/lang/String;" } : Jvm.MethodName) jdk_42_method_126_code (1 : Nat) (Option.some (Jvm.ClassFile.FieldType.object "java/lang/String"))).before args0 about1 = true := code_word (m := ⟨7, 7⟩) (meth := k7m7) (c := k7c7) (by decide +kernel) rfl rfl rfl (by decide +kernel)
set_option maxRecDepth 65536 in
theorem w_c19 : (Jvm.Cond.code ({ cls := "java/lang/String", name := "indexOf", desc := "(Ljava/lang/String;)I" } : Jvm.MethodName) jdk_42_method_84_code (3 : Nat) (Option.some Jvm.ClassFile.FieldType.int)).before args0 about1 = true := code_word (m := ⟨7, 5⟩) (meth := k7m5) (c := k7c5) (by decide +kernel) rfl rfl rfl (by decide +kernel)
set_option maxRecDepth 65536 in
theorem w_c20 : (Jvm.Cond.code ({ cls := "java/lang/String", name := "isLatin1", desc := "()Z" } : Jvm.MethodName) jdk_42_method_154_code (1 : Nat) (Option.some Jvm.ClassFile.FieldType.boolean)).before args0 about1 = true := code_word (m := ⟨7, 12⟩) (meth := k7m12) (c := k7c12) (by decide +kernel) rfl rfl rfl (by decide +kernel)
set_option maxRecDepth 65536 in
theorem w_c21 : (Jvm.Cond.code ({ cls := "java/lang/StringLatin1", name := "indexOf", desc := "([B[B)I" } : Jvm.MethodName) jdk_43_method_24_code (2 : Nat) (Option.some Jvm.ClassFile.FieldType.int)).before args0 about1 = true := code_word (m := ⟨14, 2⟩) (meth := k14m2) (c := k14c2) (by decide +kernel) rfl rfl rfl (by decide +kernel)
set_option maxRecDepth 65536 in
theorem w_c22 : (Jvm.Cond.code ({ cls := "java/lang/StringBuilder", name := "append", desc := "(I)Ljava/lang/StringBuilder;" } : Jvm.MethodName) jdk_67_method_15_code (2 : Nat) (Option.some (Jvm.ClassFile.FieldType.object "java/lang/StringBuilder"))).before args0 about1 = true := code_word (m := ⟨12, 2⟩) (meth := k12m2) (c := k12c2) (by decide +kernel) rfl rfl rfl (by decide +kernel)
set_option maxRecDepth 65536 in
theorem w_c23 : (Jvm.Cond.code ({ cls := "java/lang/AbstractStringBuilder", name := "append", desc := "(I)Ljava/lang/AbstractStringBuilder;" } : Jvm.MethodName) jdk_68_method_32_code (4 : Nat) (Option.some (Jvm.ClassFile.FieldType.object "java/lang/AbstractStringBuilder"))).before args0 about1 = true := code_word (m := ⟨11, 6⟩) (meth := k11m6) (c := k11c6) (by decide +kernel) rfl rfl rfl (by decide +kernel)
set_option maxRecDepth 65536 in
theorem w_c24 : (Jvm.Cond.code ({ cls := "java/lang/Integer", name := "stringSize", desc := "(I)I" } : Jvm.MethodName) jdk_33_method_13_code (4 : Nat) (Option.some Jvm.ClassFile.FieldType.int)).before args0 about1 = true := code_word (m := ⟨16, 1⟩) (meth := k16m1) (c := k16c1) (by decide +kernel) rfl rfl rfl (by decide +kernel)
set_option maxRecDepth 65536 in
theorem w_c25 : (Jvm.Cond.code ({ cls := "java/lang/AbstractStringBuilder", name := "isLatin1", desc := "()Z" } : Jvm.MethodName) jdk_68_method_68_code (1 : Nat) (Option.some Jvm.ClassFile.FieldType.boolean)).before args0 about1 = true := code_word (m := ⟨11, 8⟩) (meth := k11m8) (c := k11c8) (by decide +kernel) rfl rfl rfl (by decide +kernel)
set_option maxRecDepth 65536 in
theorem w_c26 : (Jvm.Cond.code ({ cls := "java/lang/Integer", name := "getChars", desc := "(II[B)I" } : Jvm.MethodName) jdk_33_method_12_code (7 : Nat) (Option.some Jvm.ClassFile.FieldType.int)).before args0 about1 = true := code_word (m := ⟨16, 0⟩) (meth := k16m0) (c := k16c0) (by decide +kernel) rfl rfl rfl (by decide +kernel)
set_option maxRecDepth 65536 in
theorem w_c27 : (Jvm.Cond.code ({ cls := "java/lang/StringBuilder", name := "toString", desc := "()Ljava/lang/String;" } : Jvm.MethodName) jdk_67_method_42_code (1 : Nat) (Option.some (Jvm.ClassFile.FieldType.object "java/lang/String"))).before args0 about1 = true := code_word (m := ⟨12, 3⟩) (meth := k12m3) (c := k12c3) (by decide +kernel) rfl rfl rfl (by decide +kernel)
set_option maxRecDepth 65536 in
theorem w_c28 : (Jvm.Cond.code ({ cls := "java/lang/String", name := "<init>", desc := "(Ljava/lang/StringBuilder;)V" } : Jvm.MethodName) jdk_42_method_53_code (2 : Nat) (Option.none : Option Jvm.ClassFile.FieldType)).before args0 about1 = true := code_word (m := ⟨7, 2⟩) (meth := k7m2) (c := k7c2) (by decide +kernel) rfl rfl rfl (by decide +kernel)
set_option maxRecDepth 65536 in
theorem w_c29 : (Jvm.Cond.code ({ cls := "java/lang/String", name := "<init>", desc := "(Ljava/lang/AbstractStringBuilder;Ljava/lang/Void;)V" } : Jvm.MethodName) jdk_42_method_150_code (5 : Nat) (Option.none : Option Jvm.ClassFile.FieldType)).before args0 about1 = true := code_word (m := ⟨7, 10⟩) (meth := k7m10) (c := k7c10) (by decide +kernel) rfl rfl rfl (by decide +kernel)
set_option maxRecDepth 65536 in
theorem w_c30 : (Jvm.Cond.code ({ cls := "java/lang/AbstractStringBuilder", name := "getValue", desc := "()[B" } : Jvm.MethodName) jdk_68_method_64_code (1 : Nat) (Option.some (Jvm.ClassFile.FieldType.array Jvm.ClassFile.FieldType.byte))).before args0 about1 = true := code_word (m := ⟨11, 7⟩) (meth := k11m7) (c := k11c7) (by decide +kernel) rfl rfl rfl (by decide +kernel)
set_option maxRecDepth 65536 in
theorem w_c31 : (Jvm.Cond.code ({ cls := "java/lang/StringBuilder", name := "length", desc := "()I" } : Jvm.MethodName) jdk_67_method_93_code (1 : Nat) (Option.some Jvm.ClassFile.FieldType.int)).before args0 about1 = true := code_word (m := ⟨12, 4⟩) (meth := k12m4) (c := k12c4) (by decide +kernel) rfl rfl rfl (by decide +kernel)
set_option maxRecDepth 65536 in
theorem w_c32 : (Jvm.Cond.code ({ cls := "java/lang/AbstractStringBuilder", name := "length", desc := "()I" } : Jvm.MethodName) jdk_68_method_6_code (1 : Nat) (Option.some Jvm.ClassFile.FieldType.int)).before args0 about1 = true := code_word (m := ⟨11, 2⟩) (meth := k11m2) (c := k11c2) (by decide +kernel) rfl rfl rfl (by decide +kernel)
set_option maxRecDepth 65536 in
theorem w_c33 : (Jvm.Cond.code ({ cls := "java/util/Arrays", name := "copyOfRange", desc := "([BII)[B" } : Jvm.MethodName) jdk_65_method_132_code (3 : Nat) (Option.some (Jvm.ClassFile.FieldType.array Jvm.ClassFile.FieldType.byte))).before args0 about1 = true := code_word (m := ⟨17, 3⟩) (meth := k17m3) (c := k17c3) (by decide +kernel) rfl rfl rfl (by decide +kernel)
set_option maxRecDepth 65536 in
theorem w_c34 : (Jvm.Cond.code ({ cls := "java/util/Arrays", name := "copyOfRangeByte", desc := "([BII)[B" } : Jvm.MethodName) jdk_65_method_133_code (5 : Nat) (Option.some (Jvm.ClassFile.FieldType.array Jvm.ClassFile.FieldType.byte))).before args0 about1 = true := code_word (m := ⟨17, 4⟩) (meth := k17m4) (c := k17c4) (by decide +kernel) rfl rfl rfl (by decide +kernel)
set_option maxRecDepth 65536 in
theorem w_c35 : (Jvm.Cond.code ({ cls := "java/util/Arrays", name := "checkLength", desc := "(II)V" } : Jvm.MethodName) jdk_65_method_131_code (2 : Nat) (Option.none : Option Jvm.ClassFile.FieldType)).before args0 about1 = true := code_word (m := ⟨17, 2⟩) (meth := k17m2) (c := k17c2) (by decide +kernel) rfl rfl rfl (by decide +kernel)
set_option maxRecDepth 65536 in
theorem w_c36 : (Jvm.Cond.code ({ cls := "java/lang/Math", name := "min", desc := "(II)I" } : Jvm.MethodName) jdk_29_method_69_code (2 : Nat) (Option.some Jvm.ClassFile.FieldType.int)).before args0 about1 = true := code_word (m := ⟨18, 3⟩) (meth := k18m3) (c := k18c3) (by decide +kernel) rfl rfl rfl (by decide +kernel)
set_option maxRecDepth 65536 in
theorem w_c37 : (Jvm.Cond.code ({ cls := "com/example/devizes/devizes/redis/RedisAddressToStringPinLaw", name := "decLen", desc := "(I)I" } : Jvm.MethodName) method_4_code (4 : Nat) (Option.some Jvm.ClassFile.FieldType.int)).before args0 about1 = true := code_word (m := ⟨1, 3⟩) (meth := k1m3) (c := k1c3) (by decide +kernel) rfl rfl rfl (by decide +kernel)
set_option maxRecDepth 65536 in
theorem w_c38 : (Jvm.Cond.code ({ cls := "java/lang/Math", name := "abs", desc := "(J)J" } : Jvm.MethodName) jdk_29_method_61_code (2 : Nat) (Option.some Jvm.ClassFile.FieldType.long)).before args0 about1 = true := code_word (m := ⟨18, 1⟩) (meth := k18m1) (c := k18c1) (by decide +kernel) rfl rfl rfl (by decide +kernel)
set_option maxRecDepth 65536 in
theorem w_c39 : (Jvm.Cond.code ({ cls := "java/lang/String", name := "charAt", desc := "(I)C" } : Jvm.MethodName) jdk_42_method_56_code (2 : Nat) (Option.some Jvm.ClassFile.FieldType.char)).before args0 about1 = true := code_word (m := ⟨7, 4⟩) (meth := k7m4) (c := k7c4) (by decide +kernel) rfl rfl rfl (by decide +kernel)
set_option maxRecDepth 65536 in
theorem w_c40 : (Jvm.Cond.code ({ cls := "java/lang/StringLatin1", name := "charAt", desc := "([BI)C" } : Jvm.MethodName) jdk_43_method_2_code (2 : Nat) (Option.some Jvm.ClassFile.FieldType.char)).before args0 about1 = true := code_word (m := ⟨14, 1⟩) (meth := k14m1) (c := k14c1) (by decide +kernel) rfl rfl rfl (by decide +kernel)
set_option maxRecDepth 65536 in
theorem w_c41 : (Jvm.Cond.code ({ cls := "java/lang/String", name := "checkIndex", desc := "(II)V" } : Jvm.MethodName) jdk_42_method_155_code (2 : Nat) (Option.none : Option Jvm.ClassFile.FieldType)).before args0 about1 = true := code_word (m := ⟨7, 13⟩) (meth := k7m13) (c := k7c13) (by decide +kernel) rfl rfl rfl (by decide +kernel)
set_option maxRecDepth 65536 in
theorem w_c42 : (Jvm.Cond.code ({ cls := "jdk/internal/util/Preconditions", name := "checkIndex", desc := "(IILjava/util/function/BiFunction;)I" } : Jvm.MethodName) jdk_41_method_11_code (3 : Nat) (Option.some Jvm.ClassFile.FieldType.int)).before args0 about1 = true := code_word (m := ⟨19, 1⟩) (meth := k19m1) (c := k19c1) (by decide +kernel) rfl rfl rfl (by decide +kernel)
set_option maxRecDepth 65536 in
theorem w_c43 : (Jvm.Cond.code ({ cls := "com/example/devizes/devizes/redis/RedisAddressToStringPinLaw", name := "hostAt", desc := "(Ljava/lang/String;IICCC)Z" } : Jvm.MethodName) method_3_code (6 : Nat) (Option.some Jvm.ClassFile.FieldType.boolean)).before args0 about1 = true := code_word (m := ⟨1, 2⟩) (meth := k1m2) (c := k1c2) (by decide +kernel) rfl rfl rfl (by decide +kernel)
set_option maxRecDepth 65536 in
theorem w_c44 : (Jvm.Cond.code ({ cls := "com/example/devizes/devizes/redis/RedisAddressToStringPinLaw", name := "digitsAt", desc := "(Ljava/lang/String;II)Z" } : Jvm.MethodName) method_5_code (8 : Nat) (Option.some Jvm.ClassFile.FieldType.boolean)).before args0 about1 = true := code_word (m := ⟨1, 4⟩) (meth := k1m4) (c := k1c4) (by decide +kernel) rfl rfl rfl (by decide +kernel)
set_option maxRecDepth 65536 in
theorem w_c45 : (Jvm.Cond.code ({ cls := "com/example/devizes/devizes/redis/RedisAddressToStringPinLaw", name := "dig", desc := "(Ljava/lang/String;IJIIJ)Z" } : Jvm.MethodName) method_6_code (8 : Nat) (Option.some Jvm.ClassFile.FieldType.boolean)).before args0 about1 = true := code_word (m := ⟨1, 5⟩) (meth := k1m5) (c := k1c5) (by decide +kernel) rfl rfl rfl (by decide +kernel)
set_option maxRecDepth 65536 in
theorem w_c46 : (Jvm.Cond.code ({ cls := "java/lang/StringUTF16", name := "compress", desc := "([CII)[B" } : Jvm.MethodName) jdk_52_method_16_code (6 : Nat) (Option.some (Jvm.ClassFile.FieldType.array Jvm.ClassFile.FieldType.byte))).before args0 about1 = true := code_word (m := ⟨20, 2⟩) (meth := k20m2) (c := k20c2) (by decide +kernel) rfl rfl rfl (by decide +kernel)
set_option maxRecDepth 65536 in
theorem w_c47 : (Jvm.Cond.code ({ cls := "java/lang/StringUTF16", name := "compress", desc := "([CI[BII)I" } : Jvm.MethodName) jdk_52_method_21_code (7 : Nat) (Option.some Jvm.ClassFile.FieldType.int)).before args0 about1 = true := code_word (m := ⟨20, 3⟩) (meth := k20m3) (c := k20c3) (by decide +kernel) rfl rfl rfl (by decide +kernel)
set_option maxRecDepth 65536 in
theorem w_c48 : (Jvm.Cond.code ({ cls := "java/lang/StringUTF16", name := "coderFromArrayLen", desc := "([BI)B" } : Jvm.MethodName) jdk_52_method_15_code (2 : Nat) (Option.some Jvm.ClassFile.FieldType.byte)).before args0 about1 = true := code_word (m := ⟨20, 1⟩) (meth := k20m1) (c := k20c1) (by decide +kernel) rfl rfl rfl (by decide +kernel)
set_option maxRecDepth 65536 in
theorem w_c49 : (Jvm.Cond.code ({ cls := "java/lang/StringLatin1", name := "indexOf", desc := "([BI[BII)I" } : Jvm.MethodName) jdk_43_method_25_code (11 : Nat) (Option.some Jvm.ClassFile.FieldType.int)).before args0 about1 = true := code_word (m := ⟨14, 3⟩) (meth := k14m3) (c := k14c3) (by decide +kernel) rfl rfl rfl (by decide +kernel)
set_option maxRecDepth 65536 in
theorem w_c50 : (Jvm.Cond.code ({ cls := "java/lang/AbstractStringBuilder", name := "newCapacity", desc := "(I)I" } : Jvm.MethodName) jdk_68_method_10_code (6 : Nat) (Option.some Jvm.ClassFile.FieldType.int)).before args0 about1 = true := code_word (m := ⟨11, 4⟩) (meth := k11m4) (c := k11c4) (by decide +kernel) rfl rfl rfl (by decide +kernel)
set_option maxRecDepth 65536 in
theorem w_c51 : (Jvm.Cond.code ({ cls := "jdk/internal/util/ArraysSupport", name := "newLength", desc := "(III)I" } : Jvm.MethodName) jdk_48_method_27_code (4 : Nat) (Option.some Jvm.ClassFile.FieldType.int)).before args0 about1 = true := code_word (m := ⟨21, 1⟩) (meth := k21m1) (c := k21c1) (by decide +kernel) rfl rfl rfl (by decide +kernel)
set_option maxRecDepth 65536 in
theorem w_c52 : (Jvm.Cond.code ({ cls := "java/lang/Math", name := "max", desc := "(II)I" } : Jvm.MethodName) jdk_29_method_65_code (2 : Nat) (Option.some Jvm.ClassFile.FieldType.int)).before args0 about1 = true := code_word (m := ⟨18, 2⟩) (meth := k18m2) (c := k18c2) (by decide +kernel) rfl rfl rfl (by decide +kernel)
set_option maxRecDepth 65536 in
theorem w_c53 : (Jvm.Cond.code ({ cls := "java/util/Arrays", name := "copyOf", desc := "([BI)[B" } : Jvm.MethodName) jdk_65_method_121_code (3 : Nat) (Option.some (Jvm.ClassFile.FieldType.array Jvm.ClassFile.FieldType.byte))).before args0 about1 = true := code_word (m := ⟨17, 1⟩) (meth := k17m1) (c := k17c1) (by decide +kernel) rfl rfl rfl (by decide +kernel)
def codes1 : List Jvm.Cond := [Jvm.Cond.code x code maxLocals ret, Jvm.Cond.code ({ cls := "java/lang/String", name := "<init>", desc := "([C)V" } : Jvm.MethodName) jdk_42_method_3_code (2 : Nat) (Option.none : Option Jvm.ClassFile.FieldType), Jvm.Cond.code ({ cls := "java/lang/String", name := "<init>", desc := "([CIILjava/lang/Void;)V" } : Jvm.MethodName) jdk_42_method_149_code (6 : Nat) (Option.none : Option Jvm.ClassFile.FieldType), Jvm.Cond.code ({ cls := "java/lang/Object", name := "<init>", desc := "()V" } : Jvm.MethodName) object_method_1_code (1 : Nat) (Option.none : Option Jvm.ClassFile.FieldType), Jvm.Cond.code ({ cls := "com/example/devizes/devizes/redis/RedisAddress", name := "<init>", desc := "(Ljava/lang/String;II)V" } : Jvm.MethodName) prog_17_method_1_code (4 : Nat) (Option.none : Option Jvm.ClassFile.FieldType), Jvm.Cond.code ({ cls := "java/lang/Record", name := "<init>", desc := "()V" } : Jvm.MethodName) jdk_30_method_1_code (1 : Nat) (Option.none : Option Jvm.ClassFile.FieldType), Jvm.Cond.code ({ cls := "com/example/devizes/devizes/redis/RedisAddress", name := "toString", desc := "()Ljava/lang/String;" } : Jvm.MethodName) prog_17_method_4_code (1 : Nat) (Option.some (Jvm.ClassFile.FieldType.object "java/lang/String")), Jvm.Cond.code ({ cls := "java/lang/StringBuilder", name := "<init>", desc := "()V" } : Jvm.MethodName) jdk_67_method_1_code (1 : Nat) (Option.none : Option Jvm.ClassFile.FieldType), Jvm.Cond.code ({ cls := "java/lang/AbstractStringBuilder", name := "<init>", desc := "(I)V" } : Jvm.MethodName) jdk_68_method_2_code (2 : Nat) (Option.none : Option Jvm.ClassFile.FieldType), Jvm.Cond.code ({ cls := "java/lang/StringBuilder", name := "append", desc := "(Ljava/lang/String;)Ljava/lang/StringBuilder;" } : Jvm.MethodName) jdk_67_method_7_code (2 : Nat) (Option.some (Jvm.ClassFile.FieldType.object "java/lang/StringBuilder")), Jvm.Cond.code ({ cls := "java/lang/AbstractStringBuilder", name := "append", desc := "(Ljava/lang/String;)Ljava/lang/AbstractStringBuilder;" } : Jvm.MethodName) jdk_68_method_22_code (3 : Nat) (Option.some (Jvm.ClassFile.FieldType.object "java/lang/AbstractStringBuilder")), Jvm.Cond.code ({ cls := "java/lang/String", name := "length", desc := "()I" } : Jvm.MethodName) jdk_42_method_54_code (1 : Nat) (Option.some Jvm.ClassFile.FieldType.int), Jvm.Cond.code ({ cls := "java/lang/String", name := "coder", desc := "()B" } : Jvm.MethodName) jdk_42_method_152_code (1 : Nat) (Option.some Jvm.ClassFile.FieldType.byte), Jvm.Cond.code ({ cls := "java/lang/AbstractStringBuilder", name := "ensureCapacityInternal", desc := "(I)V" } : Jvm.MethodName) jdk_68_method_9_code (3 : Nat) (Option.none : Option Jvm.ClassFile.FieldType), Jvm.Cond.code ({ cls := "java/lang/AbstractStringBuilder", name := "putStringAt", desc := "(ILjava/lang/String;)V" } : Jvm.MethodName) jdk_68_method_73_code (3 : Nat) (Option.none : Option Jvm.ClassFile.FieldType), Jvm.Cond.code ({ cls := "java/lang/AbstractStringBuilder", name := "inflateIfNeededFor", desc := "(Ljava/lang/String;)V" } : Jvm.MethodName) jdk_68_method_71_code (2 : Nat) (Option.none : Option Jvm.ClassFile.FieldType), Jvm.Cond.code ({ cls := "java/lang/String", name := "getBytes", desc := "([BIB)V" } : Jvm.MethodName) jdk_42_method_147_code (4 : Nat) (Option.none : Option Jvm.ClassFile.FieldType), Jvm.Cond.code ({ cls := "java/lang/String", name := "contains", desc := "(Ljava/lang/CharSequence;)Z" } : Jvm.MethodName) jdk_42_method_97_code (2 : Nat) (Option.some Jvm.ClassFile.FieldType.boolean), Jvm.Cond.code ({ cls := "java/lang/String", name := "toString", desc := "()Ljava/lang/String;" } : Jvm.MethodName) jdk_42_method_126_code (1 : Nat) (Option.some (Jvm.ClassFile.FieldType.object "java/lang/String")), Jvm.Cond.code ({ cls := "java/lang/String", name := "indexOf", desc := "(Ljava/lang/String;)I" } : Jvm.MethodName) jdk_42_method_84_code (3 : Nat) (Option.some Jvm.ClassFile.FieldType.int), Jvm.Cond.code ({ cls := "java/lang/String", name := "isLatin1", desc := "()Z" } : Jvm.MethodName) jdk_42_method_154_code (1 : Nat) (Option.some Jvm.ClassFile.FieldType.boolean), Jvm.Cond.code ({ cls := "java/lang/StringLatin1", name := "indexOf", desc := "([B[B)I" } : Jvm.MethodName) jdk_43_method_24_code (2 : Nat) (Option.some Jvm.ClassFile.FieldType.int), Jvm.Cond.code ({ cls := "java/lang/StringBuilder", name := "append", desc := "(I)Ljava/lang/StringBuilder;" } : Jvm.MethodName) jdk_67_method_15_code (2 : Nat) (Option.some (Jvm.ClassFile.FieldType.object "java/lang/StringBuilder")), Jvm.Cond.code ({ cls := "java/lang/AbstractStringBuilder", name := "append", desc := "(I)Ljava/lang/AbstractStringBuilder;" } : Jvm.MethodName) jdk_68_method_32_code (4 : Nat) (Option.some (Jvm.ClassFile.FieldType.object "java/lang/AbstractStringBuilder")), Jvm.Cond.code ({ cls := "java/lang/Integer", name := "stringSize", desc := "(I)I" } : Jvm.MethodName) jdk_33_method_13_code (4 : Nat) (Option.some Jvm.ClassFile.FieldType.int), Jvm.Cond.code ({ cls := "java/lang/AbstractStringBuilder", name := "isLatin1", desc := "()Z" } : Jvm.MethodName) jdk_68_method_68_code (1 : Nat) (Option.some Jvm.ClassFile.FieldType.boolean), Jvm.Cond.code ({ cls := "java/lang/Integer", name := "getChars", desc := "(II[B)I" } : Jvm.MethodName) jdk_33_method_12_code (7 : Nat) (Option.some Jvm.ClassFile.FieldType.int), Jvm.Cond.code ({ cls := "java/lang/StringBuilder", name := "toString", desc := "()Ljava/lang/String;" } : Jvm.MethodName) jdk_67_method_42_code (1 : Nat) (Option.some (Jvm.ClassFile.FieldType.object "java/lang/String")), Jvm.Cond.code ({ cls := "java/lang/String", name := "<init>", desc := "(Ljava/lang/StringBuilder;)V" } : Jvm.MethodName) jdk_42_method_53_code (2 : Nat) (Option.none : Option Jvm.ClassFile.FieldType), Jvm.Cond.code ({ cls := "java/lang/String", name := "<init>", desc := "(Ljava/lang/AbstractStringBuilder;Ljava/lang/Void;)V" } : Jvm.MethodName) jdk_42_method_150_code (5 : Nat) (Option.none : Option Jvm.ClassFile.FieldType), Jvm.Cond.code ({ cls := "java/lang/AbstractStringBuilder", name := "getValue", desc := "()[B" } : Jvm.MethodName) jdk_68_method_64_code (1 : Nat) (Option.some (Jvm.ClassFile.FieldType.array Jvm.ClassFile.FieldType.byte)), Jvm.Cond.code ({ cls := "java/lang/StringBuilder", name := "length", desc := "()I" } : Jvm.MethodName) jdk_67_method_93_code (1 : Nat) (Option.some Jvm.ClassFile.FieldType.int), Jvm.Cond.code ({ cls := "java/lang/AbstractStringBuilder", name := "length", desc := "()I" } : Jvm.MethodName) jdk_68_method_6_code (1 : Nat) (Option.some Jvm.ClassFile.FieldType.int), Jvm.Cond.code ({ cls := "java/util/Arrays", name := "copyOfRange", desc := "([BII)[B" } : Jvm.MethodName) jdk_65_method_132_code (3 : Nat) (Option.some (Jvm.ClassFile.FieldType.array Jvm.ClassFile.FieldType.byte)), Jvm.Cond.code ({ cls := "java/util/Arrays", name := "copyOfRangeByte", desc := "([BII)[B" } : Jvm.MethodName) jdk_65_method_133_code (5 : Nat) (Option.some (Jvm.ClassFile.FieldType.array Jvm.ClassFile.FieldType.byte)), Jvm.Cond.code ({ cls := "java/util/Arrays", name := "checkLength", desc := "(II)V" } : Jvm.MethodName) jdk_65_method_131_code (2 : Nat) (Option.none : Option Jvm.ClassFile.FieldType), Jvm.Cond.code ({ cls := "java/lang/Math", name := "min", desc := "(II)I" } : Jvm.MethodName) jdk_29_method_69_code (2 : Nat) (Option.some Jvm.ClassFile.FieldType.int), Jvm.Cond.code ({ cls := "com/example/devizes/devizes/redis/RedisAddressToStringPinLaw", name := "decLen", desc := "(I)I" } : Jvm.MethodName) method_4_code (4 : Nat) (Option.some Jvm.ClassFile.FieldType.int), Jvm.Cond.code ({ cls := "java/lang/Math", name := "abs", desc := "(J)J" } : Jvm.MethodName) jdk_29_method_61_code (2 : Nat) (Option.some Jvm.ClassFile.FieldType.long), Jvm.Cond.code ({ cls := "java/lang/String", name := "charAt", desc := "(I)C" } : Jvm.MethodName) jdk_42_method_56_code (2 : Nat) (Option.some Jvm.ClassFile.FieldType.char), Jvm.Cond.code ({ cls := "java/lang/StringLatin1", name := "charAt", desc := "([BI)C" } : Jvm.MethodName) jdk_43_method_2_code (2 : Nat) (Option.some Jvm.ClassFile.FieldType.char), Jvm.Cond.code ({ cls := "java/lang/String", name := "checkIndex", desc := "(II)V" } : Jvm.MethodName) jdk_42_method_155_code (2 : Nat) (Option.none : Option Jvm.ClassFile.FieldType), Jvm.Cond.code ({ cls := "jdk/internal/util/Preconditions", name := "checkIndex", desc := "(IILjava/util/function/BiFunction;)I" } : Jvm.MethodName) jdk_41_method_11_code (3 : Nat) (Option.some Jvm.ClassFile.FieldType.int), Jvm.Cond.code ({ cls := "com/example/devizes/devizes/redis/RedisAddressToStringPinLaw", name := "hostAt", desc := "(Ljava/lang/String;IICCC)Z" } : Jvm.MethodName) method_3_code (6 : Nat) (Option.some Jvm.ClassFile.FieldType.boolean), Jvm.Cond.code ({ cls := "com/example/devizes/devizes/redis/RedisAddressToStringPinLaw", name := "digitsAt", desc := "(Ljava/lang/String;II)Z" } : Jvm.MethodName) method_5_code (8 : Nat) (Option.some Jvm.ClassFile.FieldType.boolean), Jvm.Cond.code ({ cls := "com/example/devizes/devizes/redis/RedisAddressToStringPinLaw", name := "dig", desc := "(Ljava/lang/String;IJIIJ)Z" } : Jvm.MethodName) method_6_code (8 : Nat) (Option.some Jvm.ClassFile.FieldType.boolean), Jvm.Cond.code ({ cls := "java/lang/StringUTF16", name := "compress", desc := "([CII)[B" } : Jvm.MethodName) jdk_52_method_16_code (6 : Nat) (Option.some (Jvm.ClassFile.FieldType.array Jvm.ClassFile.FieldType.byte)), Jvm.Cond.code ({ cls := "java/lang/StringUTF16", name := "compress", desc := "([CI[BII)I" } : Jvm.MethodName) jdk_52_method_21_code (7 : Nat) (Option.some Jvm.ClassFile.FieldType.int), Jvm.Cond.code ({ cls := "java/lang/StringUTF16", name := "coderFromArrayLen", desc := "([BI)B" } : Jvm.MethodName) jdk_52_method_15_code (2 : Nat) (Option.some Jvm.ClassFile.FieldType.byte), Jvm.Cond.code ({ cls := "java/lang/StringLatin1", name := "indexOf", desc := "([BI[BII)I" } : Jvm.MethodName) jdk_43_method_25_code (11 : Nat) (Option.some Jvm.ClassFile.FieldType.int), Jvm.Cond.code ({ cls := "java/lang/AbstractStringBuilder", name := "newCapacity", desc := "(I)I" } : Jvm.MethodName) jdk_68_method_10_code (6 : Nat) (Option.some Jvm.ClassFile.FieldType.int), Jvm.Cond.code ({ cls := "jdk/internal/util/ArraysSupport", name := "newLength", desc := "(III)I" } : Jvm.MethodName) jdk_48_method_27_code (4 : Nat) (Option.some Jvm.ClassFile.FieldType.int), Jvm.Cond.code ({ cls := "java/lang/Math", name := "max", desc := "(II)I" } : Jvm.MethodName) jdk_29_method_65_code (2 : Nat) (Option.some Jvm.ClassFile.FieldType.int), Jvm.Cond.code ({ cls := "java/util/Arrays", name := "copyOf", desc := "([BI)[B" } : Jvm.MethodName) jdk_65_method_121_code (3 : Nat) (Option.some (Jvm.ClassFile.FieldType.array Jvm.ClassFile.FieldType.byte))]
set_option maxRecDepth 65536 in
theorem codes_eq : words1.filter isCode = codes1 := rfl
theorem w_codes : ∀ c ∈ words1.filter isCode, c.before args0 about1 = true := by
  rw [codes_eq]
  intro c hc
  simp only [codes1, List.mem_cons, List.not_mem_nil, or_false] at hc
  rcases hc with rfl | rfl | rfl | rfl | rfl | rfl | rfl | rfl | rfl | rfl | rfl | rfl | rfl | rfl | rfl | rfl | rfl | rfl | rfl | rfl | rfl | rfl | rfl | rfl | rfl | rfl | rfl | rfl | rfl | rfl | rfl | rfl | rfl | rfl | rfl | rfl | rfl | rfl | rfl | rfl | rfl | rfl | rfl | rfl | rfl | rfl | rfl | rfl | rfl | rfl | rfl | rfl | rfl | rfl
  · exact w_c0
  · exact w_c1
  · exact w_c2
  · exact w_c3
  · exact w_c4
  · exact w_c5
  · exact w_c6
  · exact w_c7
  · exact w_c8
  · exact w_c9
  · exact w_c10
  · exact w_c11
  · exact w_c12
  · exact w_c13
  · exact w_c14
  · exact w_c15
  · exact w_c16
  · exact w_c17
  · exact w_c18
  · exact w_c19
  · exact w_c20
  · exact w_c21
  · exact w_c22
  · exact w_c23
  · exact w_c24
  · exact w_c25
  · exact w_c26
  · exact w_c27
  · exact w_c28
  · exact w_c29
  · exact w_c30
  · exact w_c31
  · exact w_c32
  · exact w_c33
  · exact w_c34
  · exact w_c35
  · exact w_c36
  · exact w_c37
  · exact w_c38
  · exact w_c39
  · exact w_c40
  · exact w_c41
  · exact w_c42
  · exact w_c43
  · exact w_c44
  · exact w_c45
  · exact w_c46
  · exact w_c47
  · exact w_c48
  · exact w_c49
  · exact w_c50
  · exact w_c51
  · exact w_c52
  · exact w_c53
set_option maxRecDepth 65536 in
theorem w_t1 : (words1.take 24).all (fun c => isCode c || c.before args0 about1) = true := by decide +kernel
set_option maxRecDepth 65536 in
theorem w_t2 : ((words1.drop 24).take 24).all (fun c => isCode c || c.before args0 about1) = true := by decide +kernel
set_option maxRecDepth 65536 in
theorem w_t3 : (((words1.drop 24).drop 24).take 24).all (fun c => isCode c || c.before args0 about1) = true := by decide +kernel
set_option maxRecDepth 65536 in
theorem w_t4 : ((((words1.drop 24).drop 24).drop 24).take 24).all (fun c => isCode c || c.before args0 about1) = true := by decide +kernel
set_option maxRecDepth 65536 in
theorem w_t5 : (((((words1.drop 24).drop 24).drop 24).drop 24).take 24).all (fun c => isCode c || c.before args0 about1) = true := by decide +kernel
set_option maxRecDepth 65536 in
theorem w_t6 : ((((((words1.drop 24).drop 24).drop 24).drop 24).drop 24).take 24).all (fun c => isCode c || c.before args0 about1) = true := by decide +kernel
set_option maxRecDepth 65536 in
theorem w_t7 : (((((((words1.drop 24).drop 24).drop 24).drop 24).drop 24).drop 24).take 24).all (fun c => isCode c || c.before args0 about1) = true := by decide +kernel
set_option maxRecDepth 65536 in
theorem w_t8 : ((((((((words1.drop 24).drop 24).drop 24).drop 24).drop 24).drop 24).drop 24).take 24).all (fun c => isCode c || c.before args0 about1) = true := by decide +kernel
set_option maxRecDepth 65536 in
theorem w_t9 : (((((((((words1.drop 24).drop 24).drop 24).drop 24).drop 24).drop 24).drop 24).drop 24).take 24).all (fun c => isCode c || c.before args0 about1) = true := by decide +kernel
set_option maxRecDepth 65536 in
theorem w_t10 : ((((((((((words1.drop 24).drop 24).drop 24).drop 24).drop 24).drop 24).drop 24).drop 24).drop 24).take 24).all (fun c => isCode c || c.before args0 about1) = true := by decide +kernel
set_option maxRecDepth 65536 in
theorem w_t11 : (((((((((((words1.drop 24).drop 24).drop 24).drop 24).drop 24).drop 24).drop 24).drop 24).drop 24).drop 24).take 24).all (fun c => isCode c || c.before args0 about1) = true := by decide +kernel
set_option maxRecDepth 65536 in
theorem w_t12 : ((((((((((((words1.drop 24).drop 24).drop 24).drop 24).drop 24).drop 24).drop 24).drop 24).drop 24).drop 24).drop 24).take 24).all (fun c => isCode c || c.before args0 about1) = true := by decide +kernel
set_option maxRecDepth 65536 in
theorem w_t13 : ((((((((((((words1.drop 24).drop 24).drop 24).drop 24).drop 24).drop 24).drop 24).drop 24).drop 24).drop 24).drop 24).drop 24).all (fun c => isCode c || c.before args0 about1) = true := by decide +kernel
theorem w_tables : (allAtoms (Jvm.Cond.code x code maxLocals ret :: tables_1)).before args0 about1 = true := by
  rw [allAtoms_all]
  show words1.all (fun c => c.before args0 about1) = true
  refine all_split ?_ w_codes
  rw [← List.take_append_drop 24 words1, List.all_append, w_t1, ← List.take_append_drop 24 (words1.drop 24), List.all_append, w_t2, ← List.take_append_drop 24 ((words1.drop 24).drop 24), List.all_append, w_t3, ← List.take_append_drop 24 (((words1.drop 24).drop 24).drop 24), List.all_append, w_t4, ← List.take_append_drop 24 ((((words1.drop 24).drop 24).drop 24).drop 24), List.all_append, w_t5, ← List.take_append_drop 24 (((((words1.drop 24).drop 24).drop 24).drop 24).drop 24), List.all_append, w_t6, ← List.take_append_drop 24 ((((((words1.drop 24).drop 24).drop 24).drop 24).drop 24).drop 24), List.all_append, w_t7, ← List.take_append_drop 24 (((((((words1.drop 24).drop 24).drop 24).drop 24).drop 24).drop 24).drop 24), List.all_append, w_t8, ← List.take_append_drop 24 ((((((((words1.drop 24).drop 24).drop 24).drop 24).drop 24).drop 24).drop 24).drop 24), List.all_append, w_t9, ← List.take_append_drop 24 (((((((((words1.drop 24).drop 24).drop 24).drop 24).drop 24).drop 24).drop 24).drop 24).drop 24), List.all_append, w_t10, ← List.take_append_drop 24 ((((((((((words1.drop 24).drop 24).drop 24).drop 24).drop 24).drop 24).drop 24).drop 24).drop 24).drop 24), List.all_append, w_t11, ← List.take_append_drop 24 (((((((((((words1.drop 24).drop 24).drop 24).drop 24).drop 24).drop 24).drop 24).drop 24).drop 24).drop 24).drop 24), List.all_append, w_t12, w_t13]
  rfl
set_option maxRecDepth 65536 in
theorem w_rest : rest_1_c.before args0 about1 = true := by decide +kernel
set_option maxRecDepth 65536 in
theorem w_case : (Jvm.Cond.and given_1 narrow_1).before args0 about1 = true := by decide +kernel
set_option maxRecDepth 65536 in
theorem w_consts : constsHeld consts_1 about1 := Jvm.Lit.constsHeldB_iff.mp (by decide +kernel)
theorem w_applies : (headSpec (Jvm.Cond.code x code maxLocals ret :: tables_1) room_1).applies x e0.platform about1 = true :=
  (Spec.applies_iff w_frames).mpr ⟨w_running, w_runnable, w_alone, w_named, w_hears, w_ripe, w_room, w_tables⟩
theorem atStart : AtStart classFile x code maxLocals ret World_1 tables_1 room_1 Calls_1 rest_1 Pre_1 launch0 p0 e0 about1 theMethod args0 below0 :=
  ⟨lists_1, trivial, launch0.admits_env _ _ _, launch0.least_env, fairChoices_fair.cas, fairChoices_fair.clock, w_frames, w_args, w_heap, w_applies, ⟨w_consts, trivial⟩, w_rest, w_case⟩
end start1
theorem witness_1 : WitnessClaimed_1 := ⟨start1.p0, start1.e0, start1.about1, start1.theMethod, start1.args0, start1.below0, start1.atStart⟩
end Jvm.Pilot.@@N@@
