import JvmDerived
import JvmDerived.Pilot.@@N@@Statement
import JvmDerived.Pilot.@@N@@Code
set_option linter.unusedVariables false
set_option linter.unusedSimpArgs false
namespace Jvm.Own
open Sem ClassFile Op Lib Jvm.Stand Jvm.Free Jvm.LawKit Jvm.RoadKit Bundle
section K
variable {p : Program} {l : Launch} {e : Env} {R : Room} {s : State} {m : MethodId} {args : Array Value} {below : List Frame} {meth : Method} {c : Code} {Z : State} {a0 : Array Value} {EL : List (String × Nat)} {pr : Bool} {y : MethodName} {bs : ByteArray} {ml : Nat} {rt : Option FieldType} {T : State} {vm0 : Vm} {h : Heap} {k n : Nat} {Φ : Outcome → State → Prop} {Ls : Array Slot} {st : List Value} {pc q : Nat}
/-- from U the run comes to its end, and Φ holds there -/
def Go (p : Program) (e : Env) (below : List Frame) (Φ : Outcome → State → Prop) (U : State) : Prop := ∃ s₂ o, Steps p.tables e below U s₂ ∧ s₂.status = .running ∧ Ended s₂ below o ∧ Φ o s₂
theorem Go.pre {U U' : State} (hr : Go p e below Φ U') (g : ∀ t, Steps p.tables e below U' t → Steps p.tables e below U t) : Go p e below Φ U := by
  obtain ⟨s2, o, h1, r⟩ := hr; exact ⟨s2, o, g _ h1, r⟩
theorem Go.pre' {U U' : State} (hr : Go p e below Φ U') (g : Steps p.tables e below U U') : Go p e below Φ U := hr.pre fun _ r => g.trans r
/-- where a walk stands: the tables vm0 since the last step that may have interned; only new places were written; what the start's heap held stands -/
def Wk (p : Program) (l : Launch) (e : Env) (R : Room) (s : State) (m : MethodId) (args : Array Value) (below : List Frame) (meth : Method) (c : Code) (Z : State) (a0 : Array Value) (EL : List (String × Nat)) (pr : Bool) (y : MethodName) (bs : ByteArray) (ml : Nat) (rt : Option FieldType) (T : State) (vm0 : Vm) (h : Heap) (k n : Nat) : Prop :=
  (p.tables.exec = Jvm.exec ∧ c.code = bs ∧ c.maxLocals = ml ∧ meth.sig.returnType = rt ∧ meth.locks = false ∧ meth.name = y.name ∧ EW Z a0 EL) ∧
  ∃ (k0 : Nat) (locs : List Loc), Stand p l e R (s.setVm vm0) m args below meth c T locs k n ∧ T.heap = h ∧ Z.Warmed39 vm0 ∧ vm0.findClass y.cls = some m.cls ∧ s.Since vm0 k0 ∧ k0 ≤ h.size ∧ Fr Z.heap.size locs ∧ CHr Z EL s.vm s.heap vm0 h ∧ Ext Z.heap h ∧ (pr = true → s.WarmedH vm0)
abbrev WkT (p : Program) (l : Launch) (e : Env) (R : Room) (s : State) (m : MethodId) (args : Array Value) (below : List Frame) (meth : Method) (c : Code) (Z : State) (a0 : Array Value) (EL : List (String × Nat)) (pr : Bool) (y : MethodName) (bs : ByteArray) (ml : Nat) (rt : Option FieldType) := Wk p l e R s m args below meth c Z a0 EL pr y bs ml rt
theorem Wk.here (w : Wk p l e R s m args below meth c Z a0 EL pr y bs ml rt T vm0 h k n) : At T m c below := by obtain ⟨-, _, _, X, -⟩ := w; exact X.here
theorem Wk.hx (w : Wk p l e R s m args below meth c Z a0 EL pr y bs ml rt T vm0 h k n) : p.tables.exec = Jvm.exec := w.1.1
theorem Wk.b (w : Wk p l e R s m args below meth c Z a0 EL pr y bs ml rt T vm0 h k n) {r : Except DecodeError (Instr × Nat)} (hd : decode bs pc = r) : decode c.code pc = r := hb w.1.2.1 hd
theorem Wk.old (w : Wk p l e R s m args below meth c Z a0 EL pr y bs ml rt T vm0 h k n) : Ext Z.heap h := by obtain ⟨-, _, _, -, -, -, -, -, -, -, -, O, -⟩ := w; exact O
theorem Wk.wz (w : Wk p l e R s m args below meth c Z a0 EL pr y bs ml rt T vm0 h k n) : Z.Warmed39 vm0 := by obtain ⟨-, _, _, -, -, hZ, -⟩ := w; exact hZ
theorem Wk.chv (w : Wk p l e R s m args below meth c Z a0 EL pr y bs ml rt T vm0 h k n) : CHv Z EL vm0 h := by obtain ⟨-, _, _, -, -, -, -, -, -, -, C, -⟩ := w; exact C.1
theorem Wk.safe (w : Wk p l e R s m args below meth c Z a0 EL pr y bs ml rt T vm0 h k n) {a : Addr} {C : String} (E : Exa Z h a C) (h1 : C ≠ "java/lang/String") (h2 : C ≠ "[B") : Safe Z EL vm0 h a := Safe.exa w.wz.alike E h1 h2
/-- how a body ends: it returned v, Q holds of v and the heap -/
def Fini (Z : State) (EL : List (String × Nat)) (pr : Bool) (kc ks : Nat) (Q : Option Value → Heap → Prop) (s : State) (o : Outcome) (t : State) : Prop :=
  ∃ v L, o = .returned v ∧ Q v t.heap ∧ Ext Z.heap t.heap ∧ Fr Z.heap.size L ∧ CHr Z EL s.vm s.heap t.vm t.heap ∧ (pr = true → s.WarmedH t.vm) ∧ ReturnedEndW s o t L kc ks
/-- a body's contract: called with these arguments at the heap h it returns, and Q holds -/
def Con (l : Launch) (Z : State) (EL : List (String × Nat)) (pr : Bool) (y : MethodName) (bs : ByteArray) (ml : Nat) (rt : Option FieldType) (ws : List Cond) (rm : Room) (as' : Array Value) (sf : List Addr) (h : Heap) (Q : Option Value → Heap → Prop) : Prop :=
  MetFree l y (head1 (Cond.code y bs ml rt :: ws) rm) (fun a U => a = as' ∧ Z.Warmed39 U.vm ∧ U.heap = h ∧ CHv Z EL U.vm h ∧ ∀ x ∈ sf, Safe Z EL U.vm h x) (fun _ _ _ _ _ => True) (fun _ U o U' => Fini Z EL pr rm.cells rm.slots Q U o U')
theorem Con.intro {ws : List Cond} {rm : Room} {as' : Array Value} {sf : List Addr} {Q : Option Value → Heap → Prop} (hpl : plainFor y = true) (hEL : EW Z a0 EL) (hO : Ext Z.heap h) (hef : ∀ m, entryFrame m as' ml = mkF m 0 Ls [])
    (body : ∀ (p : Program) (e : Env) (s : State) (m : MethodId) (below : List Frame) (meth : Method) (c : Code) (T : State), Wk p l e rm s m as' below meth c Z a0 EL pr y bs ml rt T s.vm h 0 0 → (∀ x ∈ sf, Safe Z EL s.vm h x) → Go p e below (Fini Z EL pr rm.cells rm.slots Q s) (T.setTop (mkF m 0 Ls []))) :
    Con l Z EL pr y bs ml rt ws rm as' sf h Q := by
  refine MetFree.of_bodySF hpl hisR ?_
  intro p e s m args below meth c s₁ Bd hml0 hP hK
  obtain ⟨rfl, hZ, hh, hC, hsf⟩ := hP
  have X0 : Stand p l e rm s m args below meth c s₁ [] 0 0 := Stand.of_body Bd
  have e0 : s₁.heap = h := by rw [← hh, Bd.state]; rfl
  have hown : s.vm.findClass y.cls = some m.cls := findClass_of_methodNamed Bd.named
  have hnm := (name_of_methodNamed Bd.named Bd.method).1
  have w : Wk p l e rm s m args below meth c Z a0 EL pr y bs ml rt s₁ s.vm h 0 0 :=
    ⟨⟨Bd.exec, Bd.bytes, hml0, Bd.returns, Bd.notSynchronized, hnm, hEL⟩, h.size, [], X0, e0, hZ, hown, (State.WarmedH.refl s).since _, Nat.le_refl _, Fr.nil _, by subst hh; exact CHr.refl hC, hO, fun _ => State.WarmedH.refl s⟩
  have q := body p e s m below meth c s₁ w hsf
  rw [← hef] at q
  exact q
/-- the two ends of a walk joined -/
theorem Wk.fin (w : Wk p l e R s m args below meth c Z a0 EL pr y bs ml rt T vm0 h k n) {Q : Option Value → Heap → Prop} {v : Option Value} (hv : rt = none → v = none) (hk : k ≤ R.cells) (hn : n ≤ R.slots) (hQ : Q v h) :
    ∃ fs, (∀ (f : JFrame) (acts : List Action), f.method = m → f.locked = none → f.entered = [] → (doReturn e (T.setTop f) acts v).1 = T.setFrames fs) ∧ (T.setFrames fs).status = .running ∧ Ended (T.setFrames fs) below (.returned v) ∧ Fini Z EL pr R.cells R.slots Q s (.returned v) (T.setFrames fs) := by
  obtain ⟨⟨hx, hb1, hml, hrt, hlk, hnm, hEL⟩, k0, locs, X, rfl, hZ, hown, hS, hk0, N, C, O, hpr⟩ := w
  obtain ⟨fs, hr, hrun, hended, e1, e2, e3, e4⟩ := X.leaveW hS hk0 (v := v) (fun q => hv (hrt.symm.trans q)) hlk
  exact ⟨fs, hr, hrun, hended, v, locs, rfl, hQ, O, N, C.trans (show CHr Z EL vm0 T.heap T.vm T.heap from CHv.at X hZ hEL C.1), fun q => State.WarmedH.trans (t := s.setVm vm0) (hpr q) X.warmed, e1, e2, e3, e4.mono hk hn⟩
/-- a value is returned -/
theorem g_ret (w : Wk p l e R s m args below meth c Z a0 EL pr y bs ml rt T vm0 h k n) {Q : Option Value → Heap → Prop} {t : FieldType} {i : Instr} {v : Value} (hd : decode bs pc = .ok (i, 1)) (ht : rt = some t) (hn : narrow t v = v)
    (hi : (i = .ireturn ∧ (t = .int ∨ t = .boolean ∨ t = .byte ∨ t = .char ∨ t = .short) ∧ ∃ z, v = .int z) ∨ (i = .lreturn ∧ t = .long ∧ ∃ z, v = .long z) ∨ (i = .dreturn ∧ t = .double ∧ ∃ z, v = .double z) ∨ (i = .freturn ∧ t = .float ∧ ∃ z, v = .float z) ∨ (i = .areturn ∧ t.isReference = true ∧ v.isRef = true))
    (hk : k ≤ R.cells) (hn' : n ≤ R.slots) (hQ : Q (some v) h) : Go p e below (Fini Z EL pr R.cells R.slots Q s) (T.setTop (mkF m pc Ls (v :: st))) := by
  obtain ⟨fs, hr, hrun, hended, hf⟩ := w.fin (v := some v) (fun q => by rw [ht] at q; cases q) hk hn' hQ
  obtain ⟨⟨hx, hb1, hml, hrt, -⟩, _, _, X, -⟩ := w
  exact ⟨_, _, retOut X hx (hrt.trans ht) hn hi (hb hb1 hd) hr, hrun, hended, hf⟩
theorem g_reti (w : Wk p l e R s m args below meth c Z a0 EL pr y bs ml rt T vm0 h k n) {Q : Option Value → Heap → Prop} {z : Int32} (hd : decode bs pc = .ok (.ireturn, 1)) (ht : rt = some .int) (hk : k ≤ R.cells) (hn : n ≤ R.slots) (hQ : Q (some (.int z)) h) : Go p e below (Fini Z EL pr R.cells R.slots Q s) (T.setTop (mkF m pc Ls (.int z :: st))) :=
  g_ret w hd ht rfl (Or.inl ⟨rfl, Or.inl rfl, _, rfl⟩) hk hn hQ
theorem g_retl (w : Wk p l e R s m args below meth c Z a0 EL pr y bs ml rt T vm0 h k n) {Q : Option Value → Heap → Prop} {z : Int64} (hd : decode bs pc = .ok (.lreturn, 1)) (ht : rt = some .long) (hk : k ≤ R.cells) (hn : n ≤ R.slots) (hQ : Q (some (.long z)) h) : Go p e below (Fini Z EL pr R.cells R.slots Q s) (T.setTop (mkF m pc Ls (.long z :: st))) :=
  g_ret w hd ht rfl (Or.inr (Or.inl ⟨rfl, rfl, _, rfl⟩)) hk hn hQ
/-- a boolean, byte, char or short is returned: it is narrowed -/
theorem g_retn (w : Wk p l e R s m args below meth c Z a0 EL pr y bs ml rt T vm0 h k n) {Q : Option Value → Heap → Prop} {t : FieldType} {z z' : Int32} (hd : decode bs pc = .ok (.ireturn, 1)) (ht : rt = some t) (hs : t = .boolean ∨ t = .byte ∨ t = .char ∨ t = .short) (hz : nar t z = z') (hk : k ≤ R.cells) (hn : n ≤ R.slots) (hQ : Q (some (.int z')) h) :
    Go p e below (Fini Z EL pr R.cells R.slots Q s) (T.setTop (mkF m pc Ls (.int z :: st))) := by
  subst hz
  obtain ⟨fs, hr, hrun, hended, hf⟩ := w.fin (v := some (.int (nar t z))) (fun q => by rw [ht] at q; cases q) hk hn hQ
  obtain ⟨⟨hx, hb1, hml, hrt, -⟩, _, _, X, -⟩ := w
  exact ⟨_, _, retN X hx (hrt.trans ht) hs (hb hb1 hd) hr, hrun, hended, hf⟩
theorem g_reta (w : Wk p l e R s m args below meth c Z a0 EL pr y bs ml rt T vm0 h k n) {Q : Option Value → Heap → Prop} {t : FieldType} {v : Value} (hd : decode bs pc = .ok (.areturn, 1)) (ht : rt = some t) (hr : t.isReference = true) (hv : v.isRef = true) (hk : k ≤ R.cells) (hn : n ≤ R.slots) (hQ : Q (some v) h) : Go p e below (Fini Z EL pr R.cells R.slots Q s) (T.setTop (mkF m pc Ls (v :: st))) :=
  g_ret w hd ht (by cases t <;> simp [FieldType.isReference] at hr <;> cases v <;> simp [Value.isRef] at hv <;> rfl) (Or.inr (Or.inr (Or.inr (Or.inr ⟨rfl, hr, hv⟩)))) hk hn hQ
theorem g_return (w : Wk p l e R s m args below meth c Z a0 EL pr y bs ml rt T vm0 h k n) {Q : Option Value → Heap → Prop} (hd : decode bs pc = .ok (.return_, 1)) (ht : rt = none) (hk : k ≤ R.cells) (hn : n ≤ R.slots) (hQ : Q none h) : Go p e below (Fini Z EL pr R.cells R.slots Q s) (T.setTop (mkF m pc Ls [])) := by
  obtain ⟨fs, hr, hrun, hended, hf⟩ := w.fin (v := none) (fun _ => rfl) hk hn hQ
  obtain ⟨⟨hx, hb1, hml, hrt, -⟩, _, _, X, -⟩ := w
  exact ⟨_, _, X.returnOut hx (hrt.trans ht) (hb hb1 hd) hr, hrun, hended, hf⟩
theorem g_iloadN (w : Wk p l e R s m args below meth c Z a0 EL pr y bs ml rt T vm0 h k n) {kk : Fin 4} {v : Int32} (hd : decode bs pc = .ok (.iload_n kk, 1)) (hq : pc + 1 = q) (hl : Ls[kk.val]? = some (.val (.int v))) (hr : Go p e below Φ (T.setTop (mkF m q Ls (.int v :: st)))) : Go p e below Φ (T.setTop (mkF m pc Ls st)) := by
  subst hq; exact hr.pre fun t r => Jvm.Free.XS.iloadN w.here w.hx rfl (w.b hd) hl r
theorem g_iload (w : Wk p l e R s m args below meth c Z a0 EL pr y bs ml rt T vm0 h k n) {kk : Nat} {v : Int32} (hd : decode bs pc = .ok (.iload kk, 2)) (hq : pc + 2 = q) (hl : Ls[kk]? = some (.val (.int v))) (hr : Go p e below Φ (T.setTop (mkF m q Ls (.int v :: st)))) : Go p e below Φ (T.setTop (mkF m pc Ls st)) := by
  subst hq; exact hr.pre fun t r => Jvm.Free.XS.iload w.here w.hx rfl (w.b hd) hl r
theorem g_lloadN (w : Wk p l e R s m args below meth c Z a0 EL pr y bs ml rt T vm0 h k n) {kk : Fin 4} {v : Int64} (hd : decode bs pc = .ok (.lload_n kk, 1)) (hq : pc + 1 = q) (hl : Ls[kk.val]? = some (.val (.long v))) (hr : Go p e below Φ (T.setTop (mkF m q Ls (.long v :: st)))) : Go p e below Φ (T.setTop (mkF m pc Ls st)) := by
  subst hq; exact hr.pre fun t r => Jvm.Free.XT.lloadN w.here w.hx rfl (w.b hd) hl r
theorem g_lload (w : Wk p l e R s m args below meth c Z a0 EL pr y bs ml rt T vm0 h k n) {kk : Nat} {v : Int64} (hd : decode bs pc = .ok (.lload kk, 2)) (hq : pc + 2 = q) (hl : Ls[kk]? = some (.val (.long v))) (hr : Go p e below Φ (T.setTop (mkF m q Ls (.long v :: st)))) : Go p e below Φ (T.setTop (mkF m pc Ls st)) := by
  subst hq; exact hr.pre fun t r => Jvm.Free.XT.lload w.here w.hx rfl (w.b hd) hl r
theorem g_aloadN (w : Wk p l e R s m args below meth c Z a0 EL pr y bs ml rt T vm0 h k n) {kk : Fin 4} {v : Value} (hd : decode bs pc = .ok (.aload_n kk, 1)) (hq : pc + 1 = q) (hl : Ls[kk.val]? = some (.val v)) (hv : v.isRef = true) (hr : Go p e below Φ (T.setTop (mkF m q Ls (v :: st)))) : Go p e below Φ (T.setTop (mkF m pc Ls st)) := by
  subst hq; exact hr.pre fun t r => Jvm.Free.XS.aloadN w.here w.hx rfl (w.b hd) hl hv r
theorem g_aload (w : Wk p l e R s m args below meth c Z a0 EL pr y bs ml rt T vm0 h k n) {kk : Nat} {v : Value} (hd : decode bs pc = .ok (.aload kk, 2)) (hq : pc + 2 = q) (hl : Ls[kk]? = some (.val v)) (hv : v.isRef = true) (hr : Go p e below Φ (T.setTop (mkF m q Ls (v :: st)))) : Go p e below Φ (T.setTop (mkF m pc Ls st)) := by
  subst hq; exact hr.pre fun t r => Jvm.Free.XS.aload w.here w.hx rfl (w.b hd) hl hv r
theorem g_istoreN (w : Wk p l e R s m args below meth c Z a0 EL pr y bs ml rt T vm0 h k n) {kk : Fin 4} {v : Int32} {Ls' : Array Slot} (hd : decode bs pc = .ok (.istore_n kk, 1)) (hq : pc + 1 = q) (hl : storeLocals Ls kk.val (.int v) = some Ls') (hr : Go p e below Φ (T.setTop (mkF m q Ls' st))) : Go p e below Φ (T.setTop (mkF m pc Ls (.int v :: st))) := by
  subst hq; exact hr.pre fun t r => Jvm.Free.XS.istoreN w.here w.hx rfl (w.b hd) rfl hl r
theorem g_istore (w : Wk p l e R s m args below meth c Z a0 EL pr y bs ml rt T vm0 h k n) {kk : Nat} {v : Int32} {Ls' : Array Slot} (hd : decode bs pc = .ok (.istore kk, 2)) (hq : pc + 2 = q) (hl : storeLocals Ls kk (.int v) = some Ls') (hr : Go p e below Φ (T.setTop (mkF m q Ls' st))) : Go p e below Φ (T.setTop (mkF m pc Ls (.int v :: st))) := by
  subst hq; exact hr.pre fun t r => Jvm.Free.XS.istore w.here w.hx rfl (w.b hd) rfl hl r
theorem g_lstoreN (w : Wk p l e R s m args below meth c Z a0 EL pr y bs ml rt T vm0 h k n) {kk : Fin 4} {v : Int64} {Ls' : Array Slot} (hd : decode bs pc = .ok (.lstore_n kk, 1)) (hq : pc + 1 = q) (hl : storeLocals Ls kk.val (.long v) = some Ls') (hr : Go p e below Φ (T.setTop (mkF m q Ls' st))) : Go p e below Φ (T.setTop (mkF m pc Ls (.long v :: st))) := by
  subst hq; exact hr.pre fun t r => Jvm.Free.XT.lstoreN w.here w.hx rfl (w.b hd) rfl hl r
theorem g_lstore (w : Wk p l e R s m args below meth c Z a0 EL pr y bs ml rt T vm0 h k n) {kk : Nat} {v : Int64} {Ls' : Array Slot} (hd : decode bs pc = .ok (.lstore kk, 2)) (hq : pc + 2 = q) (hl : storeLocals Ls kk (.long v) = some Ls') (hr : Go p e below Φ (T.setTop (mkF m q Ls' st))) : Go p e below Φ (T.setTop (mkF m pc Ls (.long v :: st))) := by
  subst hq; exact hr.pre fun t r => Jvm.Free.XT.lstore w.here w.hx rfl (w.b hd) rfl hl r
theorem g_astoreN (w : Wk p l e R s m args below meth c Z a0 EL pr y bs ml rt T vm0 h k n) {kk : Fin 4} {v : Value} {Ls' : Array Slot} (hd : decode bs pc = .ok (.astore_n kk, 1)) (hq : pc + 1 = q) (hv : v.isRef = true) (hl : storeLocals Ls kk.val v = some Ls') (hr : Go p e below Φ (T.setTop (mkF m q Ls' st))) : Go p e below Φ (T.setTop (mkF m pc Ls (v :: st))) := by
  subst hq; exact hr.pre fun t r => Jvm.Free.XS.astoreN w.here w.hx rfl (w.b hd) rfl hv hl r
theorem g_astore (w : Wk p l e R s m args below meth c Z a0 EL pr y bs ml rt T vm0 h k n) {kk : Nat} {v : Value} {Ls' : Array Slot} (hd : decode bs pc = .ok (.astore kk, 2)) (hq : pc + 2 = q) (hv : v.isRef = true) (hl : storeLocals Ls kk v = some Ls') (hr : Go p e below Φ (T.setTop (mkF m q Ls' st))) : Go p e below Φ (T.setTop (mkF m pc Ls (v :: st))) := by
  subst hq; exact hr.pre fun t r => Jvm.Free.XS.astore w.here w.hx rfl (w.b hd) rfl hv hl r
theorem g_iconst (w : Wk p l e R s m args below meth c Z a0 EL pr y bs ml rt T vm0 h k n) {i : Int} {v : Int32} (hd : decode bs pc = .ok (.iconst i, 1)) (hq : pc + 1 = q) (hv : Int32.ofInt i = v) (hr : Go p e below Φ (T.setTop (mkF m q Ls (.int v :: st)))) : Go p e below Φ (T.setTop (mkF m pc Ls st)) := by
  subst hq; exact hr.pre fun t r => Jvm.Free.XT.iconstV w.here w.hx rfl v (w.b hd) hv r
theorem g_bipush (w : Wk p l e R s m args below meth c Z a0 EL pr y bs ml rt T vm0 h k n) {i : Int} {v : Int32} (hd : decode bs pc = .ok (.bipush i, 2)) (hq : pc + 2 = q) (hv : (Int8.ofInt i).toInt32 = v) (hr : Go p e below Φ (T.setTop (mkF m q Ls (.int v :: st)))) : Go p e below Φ (T.setTop (mkF m pc Ls st)) := by
  subst hq; exact hr.pre fun t r => Jvm.Free.XT.bipushV w.here w.hx rfl v (w.b hd) hv r
theorem g_sipush (w : Wk p l e R s m args below meth c Z a0 EL pr y bs ml rt T vm0 h k n) {i : Int} {v : Int32} (hd : decode bs pc = .ok (.sipush i, 3)) (hq : pc + 3 = q) (hv : (Int16.ofInt i).toInt32 = v) (hr : Go p e below Φ (T.setTop (mkF m q Ls (.int v :: st)))) : Go p e below Φ (T.setTop (mkF m pc Ls st)) := by
  subst hq; exact hr.pre fun t r => Jvm.Free.XT.sipushV w.here w.hx rfl v (w.b hd) hv r
theorem g_lconst (w : Wk p l e R s m args below meth c Z a0 EL pr y bs ml rt T vm0 h k n) {i : Fin 2} {v : Int64} (hd : decode bs pc = .ok (.lconst i, 1)) (hq : pc + 1 = q) (hv : Int64.ofNat i = v) (hr : Go p e below Φ (T.setTop (mkF m q Ls (.long v :: st)))) : Go p e below Φ (T.setTop (mkF m pc Ls st)) := by
  subst hq; exact hr.pre fun t r => Jvm.Free.XT.lconstV w.here w.hx rfl v (w.b hd) hv r
theorem g_anull (w : Wk p l e R s m args below meth c Z a0 EL pr y bs ml rt T vm0 h k n) (hd : decode bs pc = .ok (.aconst_null, 1)) (hq : pc + 1 = q) (hr : Go p e below Φ (T.setTop (mkF m q Ls (.null :: st)))) : Go p e below Φ (T.setTop (mkF m pc Ls st)) := by
  subst hq; exact hr.pre fun t r => Jvm.Free.XS.aconstNull w.here w.hx rfl (w.b hd) r
theorem g_dup (w : Wk p l e R s m args below meth c Z a0 EL pr y bs ml rt T vm0 h k n) {v : Value} (hd : decode bs pc = .ok (.dup, 1)) (hq : pc + 1 = q) (hc : v.category = 1) (hr : Go p e below Φ (T.setTop (mkF m q Ls (v :: v :: st)))) : Go p e below Φ (T.setTop (mkF m pc Ls (v :: st))) := by
  subst hq; exact hr.pre fun t r => Jvm.Free.XS.dup w.here w.hx rfl (w.b hd) rfl hc r
theorem g_pop (w : Wk p l e R s m args below meth c Z a0 EL pr y bs ml rt T vm0 h k n) {v : Value} (hd : decode bs pc = .ok (.pop, 1)) (hq : pc + 1 = q) (hc : v.category = 1) (hr : Go p e below Φ (T.setTop (mkF m q Ls st))) : Go p e below Φ (T.setTop (mkF m pc Ls (v :: st))) := by
  subst hq; exact hr.pre fun t r => Jvm.Free.XT.pop w.here w.hx rfl (w.b hd) rfl hc r
theorem g_dupX1 (w : Wk p l e R s m args below meth c Z a0 EL pr y bs ml rt T vm0 h k n) {v u : Value} (hd : decode bs pc = .ok (.dup_x1, 1)) (hq : pc + 1 = q) (hc : v.category = 1) (hc' : u.category = 1) (hr : Go p e below Φ (T.setTop (mkF m q Ls (v :: u :: v :: st)))) : Go p e below Φ (T.setTop (mkF m pc Ls (v :: u :: st))) := by
  subst hq; exact hr.pre fun t r => Jvm.Free.XT.dupX1 w.here w.hx rfl (w.b hd) rfl hc hc' r
theorem g_dup2 (w : Wk p l e R s m args below meth c Z a0 EL pr y bs ml rt T vm0 h k n) {v u : Value} (hd : decode bs pc = .ok (.dup2, 1)) (hq : pc + 1 = q) (hc : v.category = 1) (hc' : u.category = 1) (hr : Go p e below Φ (T.setTop (mkF m q Ls (v :: u :: v :: u :: st)))) : Go p e below Φ (T.setTop (mkF m pc Ls (v :: u :: st))) := by
  subst hq; exact hr.pre fun t r => Jvm.Free.XT.dup2 w.here w.hx rfl (w.b hd) rfl hc hc' r
theorem g_dup2L (w : Wk p l e R s m args below meth c Z a0 EL pr y bs ml rt T vm0 h k n) {x : Int64} (hd : decode bs pc = .ok (.dup2, 1)) (hq : pc + 1 = q) (hr : Go p e below Φ (T.setTop (mkF m q Ls (.long x :: .long x :: st)))) : Go p e below Φ (T.setTop (mkF m pc Ls (.long x :: st))) := by
  subst hq; exact hr.pre fun t r => Jvm.Free.XT.dup2L w.here w.hx rfl (w.b hd) rfl r
theorem g_iadd (w : Wk p l e R s m args below meth c Z a0 EL pr y bs ml rt T vm0 h k n) {x z : Int32} (hd : decode bs pc = .ok (.iadd, 1)) (hq : pc + 1 = q) (hr : Go p e below Φ (T.setTop (mkF m q Ls (.int (x + z) :: st)))) : Go p e below Φ (T.setTop (mkF m pc Ls (.int z :: .int x :: st))) := by
  subst hq; exact hr.pre fun t r => Jvm.Free.XS.iadd w.here w.hx rfl (w.b hd) rfl r
theorem g_isub (w : Wk p l e R s m args below meth c Z a0 EL pr y bs ml rt T vm0 h k n) {x z : Int32} (hd : decode bs pc = .ok (.isub, 1)) (hq : pc + 1 = q) (hr : Go p e below Φ (T.setTop (mkF m q Ls (.int (x - z) :: st)))) : Go p e below Φ (T.setTop (mkF m pc Ls (.int z :: .int x :: st))) := by
  subst hq; exact hr.pre fun t r => Jvm.Free.XS.isub w.here w.hx rfl (w.b hd) rfl r
theorem g_imul (w : Wk p l e R s m args below meth c Z a0 EL pr y bs ml rt T vm0 h k n) {x z : Int32} (hd : decode bs pc = .ok (.imul, 1)) (hq : pc + 1 = q) (hr : Go p e below Φ (T.setTop (mkF m q Ls (.int (x * z) :: st)))) : Go p e below Φ (T.setTop (mkF m pc Ls (.int z :: .int x :: st))) := by
  subst hq; exact hr.pre fun t r => Jvm.Free.XS.imul w.here w.hx rfl (w.b hd) rfl r
theorem g_iand (w : Wk p l e R s m args below meth c Z a0 EL pr y bs ml rt T vm0 h k n) {x z : Int32} (hd : decode bs pc = .ok (.iand, 1)) (hq : pc + 1 = q) (hr : Go p e below Φ (T.setTop (mkF m q Ls (.int (x &&& z) :: st)))) : Go p e below Φ (T.setTop (mkF m pc Ls (.int z :: .int x :: st))) := by
  subst hq; exact hr.pre fun t r => Jvm.Free.XS.iand w.here w.hx rfl (w.b hd) rfl r
theorem g_ior (w : Wk p l e R s m args below meth c Z a0 EL pr y bs ml rt T vm0 h k n) {x z : Int32} (hd : decode bs pc = .ok (.ior, 1)) (hq : pc + 1 = q) (hr : Go p e below Φ (T.setTop (mkF m q Ls (.int (x ||| z) :: st)))) : Go p e below Φ (T.setTop (mkF m pc Ls (.int z :: .int x :: st))) := by
  subst hq; exact hr.pre fun t r => Jvm.Free.XT.ior w.here w.hx rfl (w.b hd) rfl r
theorem g_ixor (w : Wk p l e R s m args below meth c Z a0 EL pr y bs ml rt T vm0 h k n) {x z : Int32} (hd : decode bs pc = .ok (.ixor, 1)) (hq : pc + 1 = q) (hr : Go p e below Φ (T.setTop (mkF m q Ls (.int (x ^^^ z) :: st)))) : Go p e below Φ (T.setTop (mkF m pc Ls (.int z :: .int x :: st))) := by
  subst hq; exact hr.pre fun t r => Jvm.Free.XT.ixor w.here w.hx rfl (w.b hd) rfl r
theorem g_ishl (w : Wk p l e R s m args below meth c Z a0 EL pr y bs ml rt T vm0 h k n) {x z : Int32} (hd : decode bs pc = .ok (.ishl, 1)) (hq : pc + 1 = q) (hr : Go p e below Φ (T.setTop (mkF m q Ls (.int (x <<< (z &&& 31)) :: st)))) : Go p e below Φ (T.setTop (mkF m pc Ls (.int z :: .int x :: st))) := by
  subst hq; exact hr.pre fun t r => Jvm.Free.XT.ishl w.here w.hx rfl (w.b hd) rfl r
theorem g_ishr (w : Wk p l e R s m args below meth c Z a0 EL pr y bs ml rt T vm0 h k n) {x z : Int32} (hd : decode bs pc = .ok (.ishr, 1)) (hq : pc + 1 = q) (hr : Go p e below Φ (T.setTop (mkF m q Ls (.int (x >>> (z &&& 31)) :: st)))) : Go p e below Φ (T.setTop (mkF m pc Ls (.int z :: .int x :: st))) := by
  subst hq; exact hr.pre fun t r => Jvm.Free.XT.ishr w.here w.hx rfl (w.b hd) rfl r
theorem g_iushr (w : Wk p l e R s m args below meth c Z a0 EL pr y bs ml rt T vm0 h k n) {x z : Int32} (hd : decode bs pc = .ok (.iushr, 1)) (hq : pc + 1 = q) (hr : Go p e below Φ (T.setTop (mkF m q Ls (.int (Jvm.Free.XT.ushr x z) :: st)))) : Go p e below Φ (T.setTop (mkF m pc Ls (.int z :: .int x :: st))) := by
  subst hq; exact hr.pre fun t r => Jvm.Free.XT.iushr w.here w.hx rfl (w.b hd) rfl r
theorem g_idiv (w : Wk p l e R s m args below meth c Z a0 EL pr y bs ml rt T vm0 h k n) {x z : Int32} (hd : decode bs pc = .ok (.idiv, 1)) (hq : pc + 1 = q) (hz : z ≠ 0) (hr : Go p e below Φ (T.setTop (mkF m q Ls (.int (x / z) :: st)))) : Go p e below Φ (T.setTop (mkF m pc Ls (.int z :: .int x :: st))) := by
  subst hq; exact hr.pre fun t r => Jvm.Free.XS.idiv w.here w.hx rfl (w.b hd) rfl hz r
theorem g_irem (w : Wk p l e R s m args below meth c Z a0 EL pr y bs ml rt T vm0 h k n) {x z : Int32} (hd : decode bs pc = .ok (.irem, 1)) (hq : pc + 1 = q) (hz : z ≠ 0) (hr : Go p e below Φ (T.setTop (mkF m q Ls (.int (x % z) :: st)))) : Go p e below Φ (T.setTop (mkF m pc Ls (.int z :: .int x :: st))) := by
  subst hq; obtain ⟨⟨hx, hb1, -⟩, _, _, X, -⟩ := w; exact hr.pre fun t r => iremM X hx rfl (hb hb1 hd) rfl hz r
theorem g_ladd (w : Wk p l e R s m args below meth c Z a0 EL pr y bs ml rt T vm0 h k n) {x z : Int64} (hd : decode bs pc = .ok (.ladd, 1)) (hq : pc + 1 = q) (hr : Go p e below Φ (T.setTop (mkF m q Ls (.long (x + z) :: st)))) : Go p e below Φ (T.setTop (mkF m pc Ls (.long z :: .long x :: st))) := by
  subst hq; exact hr.pre fun t r => Jvm.Free.XT.ladd w.here w.hx rfl (w.b hd) rfl r
theorem g_lsub (w : Wk p l e R s m args below meth c Z a0 EL pr y bs ml rt T vm0 h k n) {x z : Int64} (hd : decode bs pc = .ok (.lsub, 1)) (hq : pc + 1 = q) (hr : Go p e below Φ (T.setTop (mkF m q Ls (.long (x - z) :: st)))) : Go p e below Φ (T.setTop (mkF m pc Ls (.long z :: .long x :: st))) := by
  subst hq; exact hr.pre fun t r => Jvm.Free.XT.lsub w.here w.hx rfl (w.b hd) rfl r
theorem g_lmul (w : Wk p l e R s m args below meth c Z a0 EL pr y bs ml rt T vm0 h k n) {x z : Int64} (hd : decode bs pc = .ok (.lmul, 1)) (hq : pc + 1 = q) (hr : Go p e below Φ (T.setTop (mkF m q Ls (.long (x * z) :: st)))) : Go p e below Φ (T.setTop (mkF m pc Ls (.long z :: .long x :: st))) := by
  subst hq; exact hr.pre fun t r => Jvm.Free.XT.lmul w.here w.hx rfl (w.b hd) rfl r
theorem g_land (w : Wk p l e R s m args below meth c Z a0 EL pr y bs ml rt T vm0 h k n) {x z : Int64} (hd : decode bs pc = .ok (.land, 1)) (hq : pc + 1 = q) (hr : Go p e below Φ (T.setTop (mkF m q Ls (.long (x &&& z) :: st)))) : Go p e below Φ (T.setTop (mkF m pc Ls (.long z :: .long x :: st))) := by
  subst hq; exact hr.pre fun t r => Jvm.Free.XT.land w.here w.hx rfl (w.b hd) rfl r
theorem g_lor (w : Wk p l e R s m args below meth c Z a0 EL pr y bs ml rt T vm0 h k n) {x z : Int64} (hd : decode bs pc = .ok (.lor, 1)) (hq : pc + 1 = q) (hr : Go p e below Φ (T.setTop (mkF m q Ls (.long (x ||| z) :: st)))) : Go p e below Φ (T.setTop (mkF m pc Ls (.long z :: .long x :: st))) := by
  subst hq; exact hr.pre fun t r => Jvm.Free.XT.lor w.here w.hx rfl (w.b hd) rfl r
theorem g_lxor (w : Wk p l e R s m args below meth c Z a0 EL pr y bs ml rt T vm0 h k n) {x z : Int64} (hd : decode bs pc = .ok (.lxor, 1)) (hq : pc + 1 = q) (hr : Go p e below Φ (T.setTop (mkF m q Ls (.long (x ^^^ z) :: st)))) : Go p e below Φ (T.setTop (mkF m pc Ls (.long z :: .long x :: st))) := by
  subst hq; exact hr.pre fun t r => Jvm.Free.XT.lxor w.here w.hx rfl (w.b hd) rfl r
theorem g_ldiv (w : Wk p l e R s m args below meth c Z a0 EL pr y bs ml rt T vm0 h k n) {x z : Int64} (hd : decode bs pc = .ok (.ldiv, 1)) (hq : pc + 1 = q) (hz : z ≠ 0) (hr : Go p e below Φ (T.setTop (mkF m q Ls (.long (x / z) :: st)))) : Go p e below Φ (T.setTop (mkF m pc Ls (.long z :: .long x :: st))) := by
  subst hq; exact hr.pre fun t r => Jvm.Free.XT.ldiv w.here w.hx rfl (w.b hd) rfl hz r
theorem g_lrem (w : Wk p l e R s m args below meth c Z a0 EL pr y bs ml rt T vm0 h k n) {x z : Int64} (hd : decode bs pc = .ok (.lrem, 1)) (hq : pc + 1 = q) (hz : z ≠ 0) (hr : Go p e below Φ (T.setTop (mkF m q Ls (.long (x - (x / z) * z) :: st)))) : Go p e below Φ (T.setTop (mkF m pc Ls (.long z :: .long x :: st))) := by
  subst hq; exact hr.pre fun t r => Jvm.Free.XT.lrem w.here w.hx rfl (w.b hd) rfl hz r
theorem g_lneg (w : Wk p l e R s m args below meth c Z a0 EL pr y bs ml rt T vm0 h k n) {x : Int64} (hd : decode bs pc = .ok (.lneg, 1)) (hq : pc + 1 = q) (hr : Go p e below Φ (T.setTop (mkF m q Ls (.long (-x) :: st)))) : Go p e below Φ (T.setTop (mkF m pc Ls (.long x :: st))) := by
  subst hq; exact hr.pre fun t r => Jvm.Free.XT.lneg w.here w.hx rfl (w.b hd) rfl r
theorem g_ineg (w : Wk p l e R s m args below meth c Z a0 EL pr y bs ml rt T vm0 h k n) {x : Int32} (hd : decode bs pc = .ok (.ineg, 1)) (hq : pc + 1 = q) (hr : Go p e below Φ (T.setTop (mkF m q Ls (.int (-x) :: st)))) : Go p e below Φ (T.setTop (mkF m pc Ls (.int x :: st))) := by
  subst hq; exact hr.pre fun t r => Jvm.Free.XS.ineg w.here w.hx rfl (w.b hd) rfl r
theorem g_i2l (w : Wk p l e R s m args below meth c Z a0 EL pr y bs ml rt T vm0 h k n) {x : Int32} (hd : decode bs pc = .ok (.i2l, 1)) (hq : pc + 1 = q) (hr : Go p e below Φ (T.setTop (mkF m q Ls (.long (x.toInt64) :: st)))) : Go p e below Φ (T.setTop (mkF m pc Ls (.int x :: st))) := by
  subst hq; exact hr.pre fun t r => Jvm.Free.XT.i2l w.here w.hx rfl (w.b hd) rfl r
theorem g_i2b (w : Wk p l e R s m args below meth c Z a0 EL pr y bs ml rt T vm0 h k n) {x : Int32} (hd : decode bs pc = .ok (.i2b, 1)) (hq : pc + 1 = q) (hr : Go p e below Φ (T.setTop (mkF m q Ls (.int (x.toInt8.toInt32) :: st)))) : Go p e below Φ (T.setTop (mkF m pc Ls (.int x :: st))) := by
  subst hq; exact hr.pre fun t r => Jvm.Free.XT.i2b w.here w.hx rfl (w.b hd) rfl r
theorem g_i2c (w : Wk p l e R s m args below meth c Z a0 EL pr y bs ml rt T vm0 h k n) {x : Int32} (hd : decode bs pc = .ok (.i2c, 1)) (hq : pc + 1 = q) (hr : Go p e below Φ (T.setTop (mkF m q Ls (.int (x.toUInt32.toUInt16.toUInt32.toInt32) :: st)))) : Go p e below Φ (T.setTop (mkF m pc Ls (.int x :: st))) := by
  subst hq; exact hr.pre fun t r => Jvm.Free.XT.i2c w.here w.hx rfl (w.b hd) rfl r
theorem g_l2i (w : Wk p l e R s m args below meth c Z a0 EL pr y bs ml rt T vm0 h k n) {x : Int64} (hd : decode bs pc = .ok (.l2i, 1)) (hq : pc + 1 = q) (hr : Go p e below Φ (T.setTop (mkF m q Ls (.int (x.toInt32) :: st)))) : Go p e below Φ (T.setTop (mkF m pc Ls (.long x :: st))) := by
  subst hq; exact hr.pre fun t r => Jvm.Free.XT.l2i w.here w.hx rfl (w.b hd) rfl r
theorem g_lcmp (w : Wk p l e R s m args below meth c Z a0 EL pr y bs ml rt T vm0 h k n) {x z : Int64} (hd : decode bs pc = .ok (.lcmp, 1)) (hq : pc + 1 = q) (hr : Go p e below Φ (T.setTop (mkF m q Ls (.int (Jvm.Free.XT.cmpL x z) :: st)))) : Go p e below Φ (T.setTop (mkF m pc Ls (.long z :: .long x :: st))) := by
  subst hq; exact hr.pre fun t r => Jvm.Free.XT.lcmp w.here w.hx rfl (w.b hd) rfl r
theorem g_iinc (w : Wk p l e R s m args below meth c Z a0 EL pr y bs ml rt T vm0 h k n) {kk : Nat} {cst : Int} {x v : Int32} {Ls' : Array Slot} (hd : decode bs pc = .ok (.iinc kk cst, 3)) (hq : pc + 3 = q) (hv : Int32.ofInt cst = v) (hl : Ls[kk]? = some (.val (.int x))) (hl' : storeLocals Ls kk (.int (x + v)) = some Ls') (hr : Go p e below Φ (T.setTop (mkF m q Ls' st))) : Go p e below Φ (T.setTop (mkF m pc Ls st)) := by
  subst hq; exact hr.pre fun t r => Jvm.Free.XS.iinc w.here w.hx rfl (w.b hd) hl (by rw [hv]; exact hl') r
theorem g_goto (w : Wk p l e R s m args below meth c Z a0 EL pr y bs ml rt T vm0 h k n) {o : Int} (hd : decode bs pc = .ok (.goto o, 3)) (ho : 0 ≤ (pc : Int) + o) (hq : ((pc : Int) + o).toNat = q) (hr : Go p e below Φ (T.setTop (mkF m q Ls st))) : Go p e below Φ (T.setTop (mkF m pc Ls st)) := by
  exact hr.pre fun t r => Jvm.Free.XS.goto w.here w.hx rfl rfl (w.b hd) ho hq r
theorem g_ifY (w : Wk p l e R s m args below meth c Z a0 EL pr y bs ml rt T vm0 h k n) {cd : ClassFile.Cond} {x : Int32} {o : Int} (hd : decode bs pc = .ok (.ifCond cd o, 3)) (ho : 0 ≤ (pc : Int) + o) (hq : ((pc : Int) + o).toNat = q) (hc : ifCond.holds cd x = true) (hr : Go p e below Φ (T.setTop (mkF m q Ls st))) : Go p e below Φ (T.setTop (mkF m pc Ls (.int x :: st))) := by
  exact hr.pre fun t r => Jvm.Free.XS.ifYes w.here w.hx rfl rfl (w.b hd) rfl hc ho hq r
theorem g_ifN (w : Wk p l e R s m args below meth c Z a0 EL pr y bs ml rt T vm0 h k n) {cd : ClassFile.Cond} {x : Int32} {o : Int} (hd : decode bs pc = .ok (.ifCond cd o, 3)) (hq : pc + 3 = q) (hc : ifCond.holds cd x = false) (hr : Go p e below Φ (T.setTop (mkF m q Ls st))) : Go p e below Φ (T.setTop (mkF m pc Ls (.int x :: st))) := by
  subst hq; exact hr.pre fun t r => Jvm.Free.XS.ifNo w.here w.hx rfl (w.b hd) rfl hc r
theorem g_icY (w : Wk p l e R s m args below meth c Z a0 EL pr y bs ml rt T vm0 h k n) {cd : ClassFile.Cond} {x z : Int32} {o : Int} (hd : decode bs pc = .ok (.if_icmp cd o, 3)) (ho : 0 ≤ (pc : Int) + o) (hq : ((pc : Int) + o).toNat = q) (hc : if_icmp.holds cd x z = true) (hr : Go p e below Φ (T.setTop (mkF m q Ls st))) : Go p e below Φ (T.setTop (mkF m pc Ls (.int z :: .int x :: st))) := by
  exact hr.pre fun t r => Jvm.Free.XS.icmpYes w.here w.hx rfl rfl (w.b hd) rfl hc ho hq r
theorem g_icN (w : Wk p l e R s m args below meth c Z a0 EL pr y bs ml rt T vm0 h k n) {cd : ClassFile.Cond} {x z : Int32} {o : Int} (hd : decode bs pc = .ok (.if_icmp cd o, 3)) (hq : pc + 3 = q) (hc : if_icmp.holds cd x z = false) (hr : Go p e below Φ (T.setTop (mkF m q Ls st))) : Go p e below Φ (T.setTop (mkF m pc Ls (.int z :: .int x :: st))) := by
  subst hq; exact hr.pre fun t r => Jvm.Free.XS.icmpNo w.here w.hx rfl (w.b hd) rfl hc r
theorem g_acY (w : Wk p l e R s m args below meth c Z a0 EL pr y bs ml rt T vm0 h k n) {cd : ClassFile.ACond} {x z : Value} {o : Int} (hd : decode bs pc = .ok (.if_acmp cd o, 3)) (ho : 0 ≤ (pc : Int) + o) (hq : ((pc : Int) + o).toNat = q) (h1 : x.isRef = true) (h2 : z.isRef = true) (hc : Jvm.Free.XT.acmp cd x z = true) (hr : Go p e below Φ (T.setTop (mkF m q Ls st))) : Go p e below Φ (T.setTop (mkF m pc Ls (z :: x :: st))) := by
  exact hr.pre fun t r => Jvm.Free.XT.acmpYes w.here w.hx rfl rfl (w.b hd) rfl h1 h2 hc ho hq r
theorem g_acN (w : Wk p l e R s m args below meth c Z a0 EL pr y bs ml rt T vm0 h k n) {cd : ClassFile.ACond} {x z : Value} {o : Int} (hd : decode bs pc = .ok (.if_acmp cd o, 3)) (hq : pc + 3 = q) (h1 : x.isRef = true) (h2 : z.isRef = true) (hc : Jvm.Free.XT.acmp cd x z = false) (hr : Go p e below Φ (T.setTop (mkF m q Ls st))) : Go p e below Φ (T.setTop (mkF m pc Ls (z :: x :: st))) := by
  subst hq; exact hr.pre fun t r => Jvm.Free.XT.acmpNo w.here w.hx rfl (w.b hd) rfl h1 h2 hc r
theorem g_nullY (w : Wk p l e R s m args below meth c Z a0 EL pr y bs ml rt T vm0 h k n) {o : Int} (hd : decode bs pc = .ok (.ifnull o, 3)) (ho : 0 ≤ (pc : Int) + o) (hq : ((pc : Int) + o).toNat = q) (hr : Go p e below Φ (T.setTop (mkF m q Ls st))) : Go p e below Φ (T.setTop (mkF m pc Ls (.null :: st))) := by
  exact hr.pre fun t r => Jvm.Free.XS.ifnullYes w.here w.hx rfl rfl (w.b hd) rfl ho hq r
theorem g_nullN (w : Wk p l e R s m args below meth c Z a0 EL pr y bs ml rt T vm0 h k n) {o : Int} {b : Addr} (hd : decode bs pc = .ok (.ifnull o, 3)) (hq : pc + 3 = q) (hr : Go p e below Φ (T.setTop (mkF m q Ls st))) : Go p e below Φ (T.setTop (mkF m pc Ls (.ref b :: st))) := by
  subst hq; exact hr.pre fun t r => Jvm.Free.XS.ifnullNo w.here w.hx rfl (w.b hd) rfl r
theorem g_nonnullY (w : Wk p l e R s m args below meth c Z a0 EL pr y bs ml rt T vm0 h k n) {o : Int} {b : Addr} (hd : decode bs pc = .ok (.ifnonnull o, 3)) (ho : 0 ≤ (pc : Int) + o) (hq : ((pc : Int) + o).toNat = q) (hr : Go p e below Φ (T.setTop (mkF m q Ls st))) : Go p e below Φ (T.setTop (mkF m pc Ls (.ref b :: st))) := by
  exact hr.pre fun t r => Jvm.Free.XT.ifnonnullYes w.here w.hx rfl rfl (w.b hd) rfl ho hq r
theorem g_nonnullN (w : Wk p l e R s m args below meth c Z a0 EL pr y bs ml rt T vm0 h k n) {o : Int} (hd : decode bs pc = .ok (.ifnonnull o, 3)) (hq : pc + 3 = q) (hr : Go p e below Φ (T.setTop (mkF m q Ls st))) : Go p e below Φ (T.setTop (mkF m pc Ls (.null :: st))) := by
  subst hq; exact hr.pre fun t r => Jvm.Free.XT.ifnonnullNo w.here w.hx rfl (w.b hd) rfl r
theorem g_if_eq (w : Wk p l e R s m args below meth c Z a0 EL pr y bs ml rt T vm0 h k n) {x : Int32} {o : Int} {q' : Nat} (hd : decode bs pc = .ok (.ifCond .eq o, 3)) (ho : 0 ≤ (pc : Int) + o) (hq : ((pc : Int) + o).toNat = q) (hq' : pc + 3 = q') (hY : x = 0 → Go p e below Φ (T.setTop (mkF m q Ls st))) (hN : ¬ x = 0 → Go p e below Φ (T.setTop (mkF m q' Ls st))) : Go p e below Φ (T.setTop (mkF m pc Ls (.int x :: st))) := by
  by_cases hc : x = 0
  · exact g_ifY w hd ho hq (Jvm.Free.XT.i0_eq_t hc) (hY hc)
  · exact g_ifN w hd hq' (Jvm.Free.XT.i0_eq_f hc) (hN hc)
theorem g_ic_eq (w : Wk p l e R s m args below meth c Z a0 EL pr y bs ml rt T vm0 h k n) {x z : Int32} {o : Int} {q' : Nat} (hd : decode bs pc = .ok (.if_icmp .eq o, 3)) (ho : 0 ≤ (pc : Int) + o) (hq : ((pc : Int) + o).toNat = q) (hq' : pc + 3 = q') (hY : x = z → Go p e below Φ (T.setTop (mkF m q Ls st))) (hN : ¬ x = z → Go p e below Φ (T.setTop (mkF m q' Ls st))) : Go p e below Φ (T.setTop (mkF m pc Ls (.int z :: .int x :: st))) := by
  by_cases hc : x = z
  · exact g_icY w hd ho hq (Jvm.Free.XT.ii_eq_t hc) (hY hc)
  · exact g_icN w hd hq' (Jvm.Free.XT.ii_eq_f hc) (hN hc)
theorem g_lc_eq (w : Wk p l e R s m args below meth c Z a0 EL pr y bs ml rt T vm0 h k n) {x z : Int64} {o : Int} {q' : Nat} (hd : decode bs pc = .ok (.ifCond .eq o, 3)) (ho : 0 ≤ (pc : Int) + o) (hq : ((pc : Int) + o).toNat = q) (hq' : pc + 3 = q') (hY : x = z → Go p e below Φ (T.setTop (mkF m q Ls st))) (hN : ¬ x = z → Go p e below Φ (T.setTop (mkF m q' Ls st))) : Go p e below Φ (T.setTop (mkF m pc Ls (.int (Jvm.Free.XT.cmpL x z) :: st))) := by
  by_cases hc : x = z
  · exact g_ifY w hd ho hq (Jvm.Free.XT.ll_eq_t hc) (hY hc)
  · exact g_ifN w hd hq' (Jvm.Free.XT.ll_eq_f hc) (hN hc)
theorem g_if_ne (w : Wk p l e R s m args below meth c Z a0 EL pr y bs ml rt T vm0 h k n) {x : Int32} {o : Int} {q' : Nat} (hd : decode bs pc = .ok (.ifCond .ne o, 3)) (ho : 0 ≤ (pc : Int) + o) (hq : ((pc : Int) + o).toNat = q) (hq' : pc + 3 = q') (hY : ¬ x = 0 → Go p e below Φ (T.setTop (mkF m q Ls st))) (hN : x = 0 → Go p e below Φ (T.setTop (mkF m q' Ls st))) : Go p e below Φ (T.setTop (mkF m pc Ls (.int x :: st))) := by
  by_cases hc : ¬ x = 0
  · exact g_ifY w hd ho hq (Jvm.Free.XT.i0_ne_t hc) (hY hc)
  · exact g_ifN w hd hq' (Jvm.Free.XT.i0_ne_f (Classical.not_not.mp hc)) (hN (Classical.not_not.mp hc))
theorem g_ic_ne (w : Wk p l e R s m args below meth c Z a0 EL pr y bs ml rt T vm0 h k n) {x z : Int32} {o : Int} {q' : Nat} (hd : decode bs pc = .ok (.if_icmp .ne o, 3)) (ho : 0 ≤ (pc : Int) + o) (hq : ((pc : Int) + o).toNat = q) (hq' : pc + 3 = q') (hY : ¬ x = z → Go p e below Φ (T.setTop (mkF m q Ls st))) (hN : x = z → Go p e below Φ (T.setTop (mkF m q' Ls st))) : Go p e below Φ (T.setTop (mkF m pc Ls (.int z :: .int x :: st))) := by
  by_cases hc : ¬ x = z
  · exact g_icY w hd ho hq (Jvm.Free.XT.ii_ne_t hc) (hY hc)
  · exact g_icN w hd hq' (Jvm.Free.XT.ii_ne_f (Classical.not_not.mp hc)) (hN (Classical.not_not.mp hc))
theorem g_lc_ne (w : Wk p l e R s m args below meth c Z a0 EL pr y bs ml rt T vm0 h k n) {x z : Int64} {o : Int} {q' : Nat} (hd : decode bs pc = .ok (.ifCond .ne o, 3)) (ho : 0 ≤ (pc : Int) + o) (hq : ((pc : Int) + o).toNat = q) (hq' : pc + 3 = q') (hY : ¬ x = z → Go p e below Φ (T.setTop (mkF m q Ls st))) (hN : x = z → Go p e below Φ (T.setTop (mkF m q' Ls st))) : Go p e below Φ (T.setTop (mkF m pc Ls (.int (Jvm.Free.XT.cmpL x z) :: st))) := by
  by_cases hc : ¬ x = z
  · exact g_ifY w hd ho hq (Jvm.Free.XT.ll_ne_t hc) (hY hc)
  · exact g_ifN w hd hq' (Jvm.Free.XT.ll_ne_f (Classical.not_not.mp hc)) (hN (Classical.not_not.mp hc))
theorem g_if_lt (w : Wk p l e R s m args below meth c Z a0 EL pr y bs ml rt T vm0 h k n) {x : Int32} {o : Int} {q' : Nat} (hd : decode bs pc = .ok (.ifCond .lt o, 3)) (ho : 0 ≤ (pc : Int) + o) (hq : ((pc : Int) + o).toNat = q) (hq' : pc + 3 = q') (hY : x < 0 → Go p e below Φ (T.setTop (mkF m q Ls st))) (hN : ¬ x < 0 → Go p e below Φ (T.setTop (mkF m q' Ls st))) : Go p e below Φ (T.setTop (mkF m pc Ls (.int x :: st))) := by
  by_cases hc : x < 0
  · exact g_ifY w hd ho hq (Jvm.Free.XT.i0_lt_t hc) (hY hc)
  · exact g_ifN w hd hq' (Jvm.Free.XT.i0_lt_f hc) (hN hc)
theorem g_ic_lt (w : Wk p l e R s m args below meth c Z a0 EL pr y bs ml rt T vm0 h k n) {x z : Int32} {o : Int} {q' : Nat} (hd : decode bs pc = .ok (.if_icmp .lt o, 3)) (ho : 0 ≤ (pc : Int) + o) (hq : ((pc : Int) + o).toNat = q) (hq' : pc + 3 = q') (hY : x < z → Go p e below Φ (T.setTop (mkF m q Ls st))) (hN : ¬ x < z → Go p e below Φ (T.setTop (mkF m q' Ls st))) : Go p e below Φ (T.setTop (mkF m pc Ls (.int z :: .int x :: st))) := by
  by_cases hc : x < z
  · exact g_icY w hd ho hq (Jvm.Free.XT.ii_lt_t hc) (hY hc)
  · exact g_icN w hd hq' (Jvm.Free.XT.ii_lt_f hc) (hN hc)
theorem g_lc_lt (w : Wk p l e R s m args below meth c Z a0 EL pr y bs ml rt T vm0 h k n) {x z : Int64} {o : Int} {q' : Nat} (hd : decode bs pc = .ok (.ifCond .lt o, 3)) (ho : 0 ≤ (pc : Int) + o) (hq : ((pc : Int) + o).toNat = q) (hq' : pc + 3 = q') (hY : x < z → Go p e below Φ (T.setTop (mkF m q Ls st))) (hN : ¬ x < z → Go p e below Φ (T.setTop (mkF m q' Ls st))) : Go p e below Φ (T.setTop (mkF m pc Ls (.int (Jvm.Free.XT.cmpL x z) :: st))) := by
  by_cases hc : x < z
  · exact g_ifY w hd ho hq (Jvm.Free.XT.ll_lt_t hc) (hY hc)
  · exact g_ifN w hd hq' (Jvm.Free.XT.ll_lt_f hc) (hN hc)
theorem g_if_ge (w : Wk p l e R s m args below meth c Z a0 EL pr y bs ml rt T vm0 h k n) {x : Int32} {o : Int} {q' : Nat} (hd : decode bs pc = .ok (.ifCond .ge o, 3)) (ho : 0 ≤ (pc : Int) + o) (hq : ((pc : Int) + o).toNat = q) (hq' : pc + 3 = q') (hY : ¬ x < 0 → Go p e below Φ (T.setTop (mkF m q Ls st))) (hN : x < 0 → Go p e below Φ (T.setTop (mkF m q' Ls st))) : Go p e below Φ (T.setTop (mkF m pc Ls (.int x :: st))) := by
  by_cases hc : ¬ x < 0
  · exact g_ifY w hd ho hq (Jvm.Free.XT.i0_ge_t hc) (hY hc)
  · exact g_ifN w hd hq' (Jvm.Free.XT.i0_ge_f (Classical.not_not.mp hc)) (hN (Classical.not_not.mp hc))
theorem g_ic_ge (w : Wk p l e R s m args below meth c Z a0 EL pr y bs ml rt T vm0 h k n) {x z : Int32} {o : Int} {q' : Nat} (hd : decode bs pc = .ok (.if_icmp .ge o, 3)) (ho : 0 ≤ (pc : Int) + o) (hq : ((pc : Int) + o).toNat = q) (hq' : pc + 3 = q') (hY : ¬ x < z → Go p e below Φ (T.setTop (mkF m q Ls st))) (hN : x < z → Go p e below Φ (T.setTop (mkF m q' Ls st))) : Go p e below Φ (T.setTop (mkF m pc Ls (.int z :: .int x :: st))) := by
  by_cases hc : ¬ x < z
  · exact g_icY w hd ho hq (Jvm.Free.XT.ii_ge_t hc) (hY hc)
  · exact g_icN w hd hq' (Jvm.Free.XT.ii_ge_f (Classical.not_not.mp hc)) (hN (Classical.not_not.mp hc))
theorem g_lc_ge (w : Wk p l e R s m args below meth c Z a0 EL pr y bs ml rt T vm0 h k n) {x z : Int64} {o : Int} {q' : Nat} (hd : decode bs pc = .ok (.ifCond .ge o, 3)) (ho : 0 ≤ (pc : Int) + o) (hq : ((pc : Int) + o).toNat = q) (hq' : pc + 3 = q') (hY : ¬ x < z → Go p e below Φ (T.setTop (mkF m q Ls st))) (hN : x < z → Go p e below Φ (T.setTop (mkF m q' Ls st))) : Go p e below Φ (T.setTop (mkF m pc Ls (.int (Jvm.Free.XT.cmpL x z) :: st))) := by
  by_cases hc : ¬ x < z
  · exact g_ifY w hd ho hq (Jvm.Free.XT.ll_ge_t hc) (hY hc)
  · exact g_ifN w hd hq' (Jvm.Free.XT.ll_ge_f (Classical.not_not.mp hc)) (hN (Classical.not_not.mp hc))
theorem g_if_gt (w : Wk p l e R s m args below meth c Z a0 EL pr y bs ml rt T vm0 h k n) {x : Int32} {o : Int} {q' : Nat} (hd : decode bs pc = .ok (.ifCond .gt o, 3)) (ho : 0 ≤ (pc : Int) + o) (hq : ((pc : Int) + o).toNat = q) (hq' : pc + 3 = q') (hY : 0 < x → Go p e below Φ (T.setTop (mkF m q Ls st))) (hN : ¬ 0 < x → Go p e below Φ (T.setTop (mkF m q' Ls st))) : Go p e below Φ (T.setTop (mkF m pc Ls (.int x :: st))) := by
  by_cases hc : 0 < x
  · exact g_ifY w hd ho hq (Jvm.Free.XT.i0_gt_t hc) (hY hc)
  · exact g_ifN w hd hq' (Jvm.Free.XT.i0_gt_f hc) (hN hc)
theorem g_ic_gt (w : Wk p l e R s m args below meth c Z a0 EL pr y bs ml rt T vm0 h k n) {x z : Int32} {o : Int} {q' : Nat} (hd : decode bs pc = .ok (.if_icmp .gt o, 3)) (ho : 0 ≤ (pc : Int) + o) (hq : ((pc : Int) + o).toNat = q) (hq' : pc + 3 = q') (hY : z < x → Go p e below Φ (T.setTop (mkF m q Ls st))) (hN : ¬ z < x → Go p e below Φ (T.setTop (mkF m q' Ls st))) : Go p e below Φ (T.setTop (mkF m pc Ls (.int z :: .int x :: st))) := by
  by_cases hc : z < x
  · exact g_icY w hd ho hq (Jvm.Free.XT.ii_gt_t hc) (hY hc)
  · exact g_icN w hd hq' (Jvm.Free.XT.ii_gt_f hc) (hN hc)
theorem g_lc_gt (w : Wk p l e R s m args below meth c Z a0 EL pr y bs ml rt T vm0 h k n) {x z : Int64} {o : Int} {q' : Nat} (hd : decode bs pc = .ok (.ifCond .gt o, 3)) (ho : 0 ≤ (pc : Int) + o) (hq : ((pc : Int) + o).toNat = q) (hq' : pc + 3 = q') (hY : z < x → Go p e below Φ (T.setTop (mkF m q Ls st))) (hN : ¬ z < x → Go p e below Φ (T.setTop (mkF m q' Ls st))) : Go p e below Φ (T.setTop (mkF m pc Ls (.int (Jvm.Free.XT.cmpL x z) :: st))) := by
  by_cases hc : z < x
  · exact g_ifY w hd ho hq (Jvm.Free.XT.ll_gt_t hc) (hY hc)
  · exact g_ifN w hd hq' (Jvm.Free.XT.ll_gt_f hc) (hN hc)
theorem g_if_le (w : Wk p l e R s m args below meth c Z a0 EL pr y bs ml rt T vm0 h k n) {x : Int32} {o : Int} {q' : Nat} (hd : decode bs pc = .ok (.ifCond .le o, 3)) (ho : 0 ≤ (pc : Int) + o) (hq : ((pc : Int) + o).toNat = q) (hq' : pc + 3 = q') (hY : ¬ 0 < x → Go p e below Φ (T.setTop (mkF m q Ls st))) (hN : 0 < x → Go p e below Φ (T.setTop (mkF m q' Ls st))) : Go p e below Φ (T.setTop (mkF m pc Ls (.int x :: st))) := by
  by_cases hc : ¬ 0 < x
  · exact g_ifY w hd ho hq (Jvm.Free.XT.i0_le_t hc) (hY hc)
  · exact g_ifN w hd hq' (Jvm.Free.XT.i0_le_f (Classical.not_not.mp hc)) (hN (Classical.not_not.mp hc))
theorem g_ic_le (w : Wk p l e R s m args below meth c Z a0 EL pr y bs ml rt T vm0 h k n) {x z : Int32} {o : Int} {q' : Nat} (hd : decode bs pc = .ok (.if_icmp .le o, 3)) (ho : 0 ≤ (pc : Int) + o) (hq : ((pc : Int) + o).toNat = q) (hq' : pc + 3 = q') (hY : ¬ z < x → Go p e below Φ (T.setTop (mkF m q Ls st))) (hN : z < x → Go p e below Φ (T.setTop (mkF m q' Ls st))) : Go p e below Φ (T.setTop (mkF m pc Ls (.int z :: .int x :: st))) := by
  by_cases hc : ¬ z < x
  · exact g_icY w hd ho hq (Jvm.Free.XT.ii_le_t hc) (hY hc)
  · exact g_icN w hd hq' (Jvm.Free.XT.ii_le_f (Classical.not_not.mp hc)) (hN (Classical.not_not.mp hc))
theorem g_lc_le (w : Wk p l e R s m args below meth c Z a0 EL pr y bs ml rt T vm0 h k n) {x z : Int64} {o : Int} {q' : Nat} (hd : decode bs pc = .ok (.ifCond .le o, 3)) (ho : 0 ≤ (pc : Int) + o) (hq : ((pc : Int) + o).toNat = q) (hq' : pc + 3 = q') (hY : ¬ z < x → Go p e below Φ (T.setTop (mkF m q Ls st))) (hN : z < x → Go p e below Φ (T.setTop (mkF m q' Ls st))) : Go p e below Φ (T.setTop (mkF m pc Ls (.int (Jvm.Free.XT.cmpL x z) :: st))) := by
  by_cases hc : ¬ z < x
  · exact g_ifY w hd ho hq (Jvm.Free.XT.ll_le_t hc) (hY hc)
  · exact g_ifN w hd hq' (Jvm.Free.XT.ll_le_f (Classical.not_not.mp hc)) (hN (Classical.not_not.mp hc))
theorem g_ar_eq (w : Wk p l e R s m args below meth c Z a0 EL pr y bs ml rt T vm0 h k n) {a b : Addr} {o : Int} {q' : Nat} (hd : decode bs pc = .ok (.if_acmp .eq o, 3)) (ho : 0 ≤ (pc : Int) + o) (hq : ((pc : Int) + o).toNat = q) (hq' : pc + 3 = q') (hY : a = b → Go p e below Φ (T.setTop (mkF m q Ls st))) (hN : ¬ a = b → Go p e below Φ (T.setTop (mkF m q' Ls st))) : Go p e below Φ (T.setTop (mkF m pc Ls (.ref b :: .ref a :: st))) := by
  by_cases hc : a = b
  · exact g_acY w hd ho hq rfl rfl (Jvm.Free.XT.aa_eq_t (congrArg Value.ref hc)) (hY hc)
  · exact g_acN w hd hq' rfl rfl (Jvm.Free.XT.aa_eq_f fun z => hc (Value.ref.inj z)) (hN hc)
theorem g_ar_ne (w : Wk p l e R s m args below meth c Z a0 EL pr y bs ml rt T vm0 h k n) {a b : Addr} {o : Int} {q' : Nat} (hd : decode bs pc = .ok (.if_acmp .ne o, 3)) (ho : 0 ≤ (pc : Int) + o) (hq : ((pc : Int) + o).toNat = q) (hq' : pc + 3 = q') (hY : ¬ a = b → Go p e below Φ (T.setTop (mkF m q Ls st))) (hN : a = b → Go p e below Φ (T.setTop (mkF m q' Ls st))) : Go p e below Φ (T.setTop (mkF m pc Ls (.ref b :: .ref a :: st))) := by
  by_cases hc : a = b
  · exact g_acN w hd hq' rfl rfl (Jvm.Free.XT.aa_ne_f (congrArg Value.ref hc)) (hN hc)
  · exact g_acY w hd ho hq rfl rfl (Jvm.Free.XT.aa_ne_t fun z => hc (Value.ref.inj z)) (hY hc)
theorem g_ldcI (w : Wk p l e R s m args below meth c Z a0 EL pr y bs ml rt T vm0 h k n) {i : Nat} {v : Int32} (hd : decode bs pc = .ok (.ldc i, 2)) (hq : pc + 2 = q) (wc : (Cond.constant y.cls i v).before a0 Z = true) (hr : Go p e below Φ (T.setTop (mkF m q Ls (.int v :: st)))) : Go p e below Φ (T.setTop (mkF m pc Ls st)) := by
  subst hq; obtain ⟨⟨hx, hb1, hml, hrt, hlk, hnm, hEL⟩, k0, locs, X, hh, hZ, hown, hS, hk0, N, C, O, hpr⟩ := w
  exact hr.pre fun t r => X.ldcI hx hown (mvT (s := s.setVm vm0) hZ wc) rfl (hb hb1 hd) r
theorem g_ldcWI (w : Wk p l e R s m args below meth c Z a0 EL pr y bs ml rt T vm0 h k n) {i : Nat} {v : Int32} (hd : decode bs pc = .ok (.ldc_w i, 3)) (hq : pc + 3 = q) (wc : (Cond.constant y.cls i v).before a0 Z = true) (hr : Go p e below Φ (T.setTop (mkF m q Ls (.int v :: st)))) : Go p e below Φ (T.setTop (mkF m pc Ls st)) := by
  subst hq; obtain ⟨⟨hx, hb1, hml, hrt, hlk, hnm, hEL⟩, k0, locs, X, hh, hZ, hown, hS, hk0, N, C, O, hpr⟩ := w
  exact hr.pre fun t r => X.ldcWI hx hown (mvT (s := s.setVm vm0) hZ wc) rfl (hb hb1 hd) r
theorem g_ldc2J (w : Wk p l e R s m args below meth c Z a0 EL pr y bs ml rt T vm0 h k n) {i : Nat} {v : Int64} (hd : decode bs pc = .ok (.ldc2_w i, 3)) (hq : pc + 3 = q) (wc : (Cond.constantLong y.cls i v).before a0 Z = true) (hr : Go p e below Φ (T.setTop (mkF m q Ls (.long v :: st)))) : Go p e below Φ (T.setTop (mkF m pc Ls st)) := by
  subst hq; obtain ⟨⟨hx, hb1, hml, hrt, hlk, hnm, hEL⟩, k0, locs, X, hh, hZ, hown, hS, hk0, N, C, O, hpr⟩ := w
  exact hr.pre fun t r => X.ldc2J hx hown (mvT (s := s.setVm vm0) hZ wc) rfl (hb hb1 hd) r
theorem ext_refl (h : Heap) : Ext h h := ⟨Nat.le_refl _, fun _ _ q => q⟩
theorem ext_trans {h1 h2 h3 : Heap} (E : Ext h1 h2) (F : Ext h2 h3) : Ext h1 h3 := ⟨Nat.le_trans E.1 F.1, fun a c q => F.2 _ _ (E.2 _ _ q)⟩
theorem ext_keep {h1 h2 h3 : Heap} {a : Addr} (E : Ext h1 h2) (K : Keep h2 h3 [a]) (ha : h1.size ≤ a) : Ext h1 h3 := ⟨Nat.le_trans E.1 K.1, fun x c q => K.2.1 x c (E.2 _ _ q) fun hm => by
  have := (Array.getElem?_eq_some_iff.mp q).1
  cases List.mem_singleton.mp hm
  omega⟩
theorem ext_wr {h1 h2 h3 : Heap} {a : Addr} {sl : Nat} {v : Value} (E : Ext h1 h2) (W : Wr h2 h3 a sl v) (ha : h1.size ≤ a) : Ext h1 h3 := ext_keep E (Keep.of_wr W) ha
theorem Wk.sta (w : Wk p l e R s m args below meth c Z a0 EL pr y bs ml rt T vm0 h k n) {C nm d : String} {v : Value} (S : Sta Z Z.heap C nm d v) : Sta Z h C nm d v := S.ext w.old
/-- getfield -/
theorem g_getF (w : Wk p l e R s m args below meth c Z a0 EL pr y bs ml rt T vm0 h k n) {i : Nat} {R0 O' nm d host : String} {a : Addr} {v : Value} (hd : decode bs pc = .ok (.getfield i, 3)) (hq : pc + 3 = q) (wl : (Cond.fieldLink y.cls i R0 nm d).before a0 Z = true ∨ (Cond.fieldLinkNest y.cls i R0 nm d host).before a0 Z = true) (via : Via Z R0 O' nm d) (F : Fld Z h a O' nm d v)
    (K : ∀ T', Wk p l e R s m args below meth c Z a0 EL pr y bs ml rt T' vm0 h k n → Go p e below Φ (T'.setTop (mkF m q Ls (v :: st)))) : Go p e below Φ (T.setTop (mkF m pc Ls (.ref a :: st))) := by
  subst hq; obtain ⟨⟨hx, hb1, hml, hrt, hlk, hnm, hEL⟩, k0, locs, X, hh, hZ, hown, hS, hk0, N, C, O, hpr⟩ := w
  obtain ⟨T', X', e', g'⟩ := getF X hx hZ hown wl via hh F (g := mkF m pc Ls (.ref a :: st)) rfl rfl (hb hb1 hd)
  exact (K T' ⟨⟨hx, hb1, hml, hrt, hlk, hnm, hEL⟩, k0, locs, X', e', hZ, hown, hS, hk0, N, C, O, hpr⟩).pre g'
/-- getstatic -/
theorem g_getS (w : Wk p l e R s m args below meth c Z a0 EL pr y bs ml rt T vm0 h k n) {i : Nat} {R0 O' nm d : String} {v : Value} (hd : decode bs pc = .ok (.getstatic i, 3)) (hq : pc + 3 = q) (wl : (Cond.fieldLink y.cls i R0 nm d).before a0 Z = true) (via : Via Z R0 O' nm d) (F : Sta Z Z.heap O' nm d v)
    (K : ∀ T', Wk p l e R s m args below meth c Z a0 EL pr y bs ml rt T' vm0 h k n → Go p e below Φ (T'.setTop (mkF m q Ls (v :: st)))) : Go p e below Φ (T.setTop (mkF m pc Ls st)) := by
  subst hq; have F' := w.sta F; obtain ⟨⟨hx, hb1, hml, hrt, hlk, hnm, hEL⟩, k0, locs, X, hh, hZ, hown, hS, hk0, N, C, O, hpr⟩ := w
  obtain ⟨T', X', e', g'⟩ := getS (host := "") X hx hZ hown wl via hh F' (g := mkF m pc Ls st) rfl (hb hb1 hd)
  exact (K T' ⟨⟨hx, hb1, hml, hrt, hlk, hnm, hEL⟩, k0, locs, X', e', hZ, hown, hS, hk0, N, C, O, hpr⟩).pre g'
/-- putfield of an object that is new -/
theorem g_putF (w : Wk p l e R s m args below meth c Z a0 EL pr y bs ml rt T vm0 h k n) {i kk : Nat} {R0 O' nm d C' : String} {a : Addr} {v v' old : Value} {ty : FieldType} (hd : decode bs pc = .ok (.putfield i, 3)) (hq : pc + 3 = q) (wl : (Cond.fieldLink y.cls i R0 nm d).before a0 Z = true) (via : Via Z R0 O' nm d) (F : Fld Z h a O' nm d old) (E : Exa Z h a C')
    (L : (Cond.lays C' O' nm d).before a0 Z = true ∨ ((Cond.laysFinal C' O' nm d).before a0 Z = true ∧ y.cls = O' ∧ y.name = "<init>")) (wi : (Cond.instantiable C' kk).before a0 Z = true) (hty : parseFieldDescriptor d = some ty) (hn : narrow ty v = v') (hf : fits ty v' = true) (ga : Z.heap.size ≤ a) (S : Safe Z EL vm0 h a)
    (K : ∀ T' h', Wk p l e R s m args below meth c Z a0 EL pr y bs ml rt T' vm0 h' k n → Wr h h' a (Jvm.RoadKit.slotOf Z O' nm d) v' → Go p e below Φ (T'.setTop (mkF m q Ls st))) : Go p e below Φ (T.setTop (mkF m pc Ls (v :: .ref a :: st))) := by
  subst hq; obtain ⟨⟨hx, hb1, hml, hrt, hlk, hnm, hEL⟩, k0, locs, X, hh, hZ, hown, hS, hk0, N, C, O, hpr⟩ := w
  obtain ⟨T', h', X', e', W, g'⟩ := putFN X hx hZ hown wl via hh F E (L.imp id fun q => ⟨q.1, q.2.1, hnm.trans q.2.2⟩) wi hty hn hf (g := mkF m pc Ls (v :: .ref a :: st)) rfl rfl (hb hb1 hd)
  exact (K T' h' ⟨⟨hx, hb1, hml, hrt, hlk, hnm, hEL⟩, k0, _, X', e', hZ, hown, hS, by rw [W.size]; exact hk0, N.snoc X' ga, C.trans (CHr.wr W S C.1), ext_wr O W ga, hpr⟩ W).pre g'
/-- new -/
theorem g_new (w : Wk p l e R s m args below meth c Z a0 EL pr y bs ml rt T vm0 h k n) {i nn : Nat} {C' : String} (hd : decode bs pc = .ok (.new i, 3)) (hq : pc + 3 = q) (w1 : (Cond.classLink y.cls i C').before a0 Z = true) (w2 : (Cond.instantiable C' nn).before a0 Z = true) (w3 : (Cond.initialized C').before a0 Z = true) (hc : k + 1 ≤ R.cells) (hl : n + nn ≤ R.slots)
    (K : ∀ T' h' a, Wk p l e R s m args below meth c Z a0 EL pr y bs ml rt T' vm0 h' (k + 1) (n + nn) → Ext h h' → h.size ≤ a → Z.heap.size ≤ a → Exa Z h' a C' → (∀ {O' nm d : String} {ty : FieldType}, Laid Z a0 C' O' nm d → parseFieldDescriptor d = some ty → Fld Z h' a O' nm d (defaultValue ty)) → Safe Z EL vm0 h' a → Go p e below Φ (T'.setTop (mkF m q Ls (.ref a :: st)))) : Go p e below Φ (T.setTop (mkF m pc Ls st)) := by
  subst hq; obtain ⟨⟨hx, hb1, hml, hrt, hlk, hnm, hEL⟩, k0, locs, X, hh, hZ, hown, hS, hk0, N, C, O, hpr⟩ := w
  obtain ⟨T', h', X', e', E, A, D, -, g'⟩ := newO X hx hZ hown w1 w2 w3 hh (g := mkF m pc Ls st) rfl (hb hb1 hd) hc hl
  exact (K T' h' h.size ⟨⟨hx, hb1, hml, hrt, hlk, hnm, hEL⟩, k0, locs, X', e', hZ, hown, hS, Nat.le_trans hk0 E.1, N, C.trans (CHr.ext E C.1), ext_trans O E, hpr⟩ E (Nat.le_refl _) O.1 A D (Safe.ext E C.1 (Safe.new (Nat.le_refl _)))).pre g'
/-- an array, its components known -/
def Ar (Z : State) (h : Heap) (a : Addr) (ty : FieldType) (vs : List Value) : Prop := vs.length < 2147483648 ∧ ∃ kC d, Arv Z h a kC ty (Int32.ofNat vs.length) vs d
theorem ofNat_clamp {n : Nat} (h : n < 2147483648) : (Int32.ofNat n).toNatClampNeg = n := by
  have : (Int32.ofNat n).toInt = n := Int32.toInt_ofNat_of_lt (by omega)
  simp only [Int32.toNatClampNeg, this]; rfl
theorem ofNat_nonneg {n : Nat} (h : n < 2147483648) : ¬ Int32.ofNat n < 0 := by
  have : (Int32.ofNat n).toInt = n := Int32.toInt_ofNat_of_lt (by omega)
  rw [Int32.lt_iff_toInt_lt, this, show (0 : Int32).toInt = 0 from rfl]; omega
theorem Ar.lt {a : Addr} {ty : FieldType} {vs : List Value} (F : Ar Z h a ty vs) : a < h.size := by obtain ⟨-, _, _, F⟩ := F; exact F.lt
theorem Ar.ext {h' : Heap} {a : Addr} {ty : FieldType} {vs : List Value} (F : Ar Z h a ty vs) (E : Ext h h') : Ar Z h' a ty vs := by obtain ⟨q, _, _, F⟩ := F; exact ⟨q, _, _, F.ext E⟩
theorem Ar.keep {h' : Heap} {a : Addr} {ty : FieldType} {vs : List Value} {ws : List Addr} (F : Ar Z h a ty vs) (K : Keep h h' ws) (q : a ∉ ws) : Ar Z h' a ty vs := by obtain ⟨q', _, _, F⟩ := F; exact ⟨q', _, _, F.keep K q⟩
theorem Ar.other {h' : Heap} {a b : Addr} {ty : FieldType} {vs : List Value} {sl : Nat} {v : Value} (F : Ar Z h b ty vs) (W : Wr h h' a sl v) (q : b ≠ a) : Ar Z h' b ty vs := by obtain ⟨q', _, _, F⟩ := F; exact ⟨q', _, _, F.other W q⟩
theorem Ar.arv {a : Addr} {ty : FieldType} {vs : List Value} (F : Ar Z h a ty vs) (d' : Value) : ∃ kC, Arv Z h a kC ty (Int32.ofNat vs.length) vs d' := by
  obtain ⟨q, kC, d, c, A, r1, r2, r3, H, G⟩ := F
  have e : ∀ i, i < c.slots.size → vs.getD i d' = vs.getD i d := fun i hi => by
    rw [r2, ofNat_clamp q] at hi; simp [List.getD_eq_getElem?_getD, hi]
  exact ⟨kC, c, A, r1, r2, r3, fun i hi => by rw [e i hi]; exact H i hi, fun i hi => by rw [e i hi]; exact G i hi⟩
/-- newarray -/
theorem g_newarr (w : Wk p l e R s m args below meth c Z a0 EL pr y bs ml rt T vm0 h k n) {aty : ArrayType} {z : Int32} {len cap : Nat} (hd : decode bs pc = .ok (.newarray aty, 2)) (hq : pc + 2 = q) (w1 : (Cond.arrayClass (newarray.typeOf aty)).before a0 Z = true) (hz : z = Int32.ofNat len) (hl : len ≤ cap) (hcap : cap * 8 ≤ 536870912) (hc : k + 1 ≤ R.cells) (hs : n + cap ≤ R.slots)
    (K : ∀ T' h' a, Wk p l e R s m args below meth c Z a0 EL pr y bs ml rt T' vm0 h' (k + 1) (n + cap) → Ext h h' → h.size ≤ a → Z.heap.size ≤ a → Ar Z h' a (newarray.typeOf aty) (List.replicate len (defaultValue (newarray.typeOf aty))) → Safe Z EL vm0 h' a → Go p e below Φ (T'.setTop (mkF m q Ls (.ref a :: st)))) : Go p e below Φ (T.setTop (mkF m pc Ls (.int z :: st))) := by
  subst hq hz; obtain ⟨⟨hx, hb1, hml, hrt, hlk, hnm, hEL⟩, k0, locs, X, hh, hZ, hown, hS, hk0, N, C, O, hpr⟩ := w
  have hlen : len < 2147483648 := by omega
  obtain ⟨T', h', cA, X', e', E, A, g'⟩ := newP X hx hZ w1 hh (g := mkF m pc Ls (.int (Int32.ofNat len) :: st)) rfl (hb hb1 hd) rfl (ofNat_nonneg hlen) (cap := cap) (by rw [ofNat_clamp hlen]; exact hl) hcap hc hs
  refine (K T' h' h.size ⟨⟨hx, hb1, hml, hrt, hlk, hnm, hEL⟩, k0, locs, X', e', hZ, hown, hS, Nat.le_trans hk0 E.1, N, C.trans (CHr.ext E C.1), ext_trans O E, hpr⟩ E (Nat.le_refl _) O.1 ⟨by simpa using hlen, cA, defaultValue (newarray.typeOf aty), ?_⟩ (Safe.ext E C.1 (Safe.new (Nat.le_refl _)))).pre g'
  have q := (Arv.new A (ofNat_nonneg hlen)).pad (vs' := List.replicate len (defaultValue (newarray.typeOf aty))) (fun i => by simpa using pad_rep [] (defaultValue (newarray.typeOf aty)) len i)
  simpa using q
theorem inb {vs : List Value} {i : Nat} {cl : Cell} (hv : vs.length < 2147483648) (S : cl.slots.size = (Int32.ofNat vs.length).toNatClampNeg) (hi : i < vs.length) : ¬ (Int32.ofNat i < 0 ∨ cl.slots.size ≤ (Int32.ofNat i).toNatClampNeg) := by
  rw [S, ofNat_clamp hv, ofNat_clamp (by omega)]
  intro q
  rcases q with q | q
  · exact ofNat_nonneg (by omega) q
  · omega
/-- castore into a new array -/
theorem g_castore (w : Wk p l e R s m args below meth c Z a0 EL pr y bs ml rt T vm0 h k n) {a : Addr} {vs : List Value} {j x x' : Int32} {i : Nat} (hd : decode bs pc = .ok (.castore, 1)) (hq : pc + 1 = q) (A : Ar Z h a .char vs) (hj : j = Int32.ofNat i) (hi : i < vs.length) (hx' : nar .char x = x') (ga : Z.heap.size ≤ a) (S : Safe Z EL vm0 h a)
    (K : ∀ T' h', Wk p l e R s m args below meth c Z a0 EL pr y bs ml rt T' vm0 h' k n → Wr h h' a i (.int x') → Ar Z h' a .char (vs.set i (.int x')) → Go p e below Φ (T'.setTop (mkF m q Ls st))) : Go p e below Φ (T.setTop (mkF m pc Ls (.int x :: .int j :: .ref a :: st))) := by
  subst hq hj hx'; obtain ⟨⟨hx, hb1, hml, hrt, hlk, hnm, hEL⟩, k0, locs, X, hh, hZ, hown, hS, hk0, N, C, O, hpr⟩ := w
  obtain ⟨hv, kC, dv, cl, B, q1, S1, q3, H1, G1⟩ := A
  obtain ⟨T', h', X', e', W, g'⟩ := stC X hx hZ hh B (j := Int32.ofNat i) (inb hv S1 hi) (g := mkF m pc Ls (.int x :: .int (Int32.ofNat i) :: .ref a :: st)) rfl rfl (hb hb1 hd)
  have V := Arv.set B q1 S1 q3 H1 G1 (fits_nar_char x) W i (ofNat_clamp (by omega)) hi
  rw [ofNat_clamp (by omega)] at W
  exact (K T' h' ⟨⟨hx, hb1, hml, hrt, hlk, hnm, hEL⟩, k0, _, X', e', hZ, hown, hS, by rw [W.size]; exact hk0, N.snoc X' ga, C.trans (CHr.wr W S C.1), ext_wr O W ga, hpr⟩ W ⟨by simpa using hv, kC, dv, by simpa using V⟩).pre g'
/-- bastore into a new byte[] -/
theorem g_bastore (w : Wk p l e R s m args below meth c Z a0 EL pr y bs ml rt T vm0 h k n) {a : Addr} {vs : List Value} {j x x' : Int32} {i : Nat} (hd : decode bs pc = .ok (.bastore, 1)) (hq : pc + 1 = q) (A : Ar Z h a .byte vs) (hj : j = Int32.ofNat i) (hi : i < vs.length) (hx' : nar .byte x = x') (ga : Z.heap.size ≤ a) (S : Safe Z EL vm0 h a)
    (K : ∀ T' h', Wk p l e R s m args below meth c Z a0 EL pr y bs ml rt T' vm0 h' k n → Wr h h' a i (.int x') → Ar Z h' a .byte (vs.set i (.int x')) → Go p e below Φ (T'.setTop (mkF m q Ls st))) : Go p e below Φ (T.setTop (mkF m pc Ls (.int x :: .int j :: .ref a :: st))) := by
  subst hq hj hx'; obtain ⟨⟨hx, hb1, hml, hrt, hlk, hnm, hEL⟩, k0, locs, X, hh, hZ, hown, hS, hk0, N, C, O, hpr⟩ := w
  obtain ⟨hv, kC, dv, cl, B, q1, S1, q3, H1, G1⟩ := A
  obtain ⟨T', h', X', e', W, g'⟩ := stB X hx hZ hh B (j := Int32.ofNat i) (inb hv S1 hi) (g := mkF m pc Ls (.int x :: .int (Int32.ofNat i) :: .ref a :: st)) rfl rfl (hb hb1 hd)
  have V := Arv.set B q1 S1 q3 H1 G1 (fits_nar_byte x) W i (ofNat_clamp (by omega)) hi
  rw [ofNat_clamp (by omega)] at W
  exact (K T' h' ⟨⟨hx, hb1, hml, hrt, hlk, hnm, hEL⟩, k0, _, X', e', hZ, hown, hS, by rw [W.size]; exact hk0, N.snoc X' ga, C.trans (CHr.wr W S C.1), ext_wr O W ga, hpr⟩ W ⟨by simpa using hv, kC, dv, by rw [List.length_set]; exact V⟩).pre g'
theorem g_alen (w : Wk p l e R s m args below meth c Z a0 EL pr y bs ml rt T vm0 h k n) {a : Addr} {ty : FieldType} {vs : List Value} (hd : decode bs pc = .ok (.arraylength, 1)) (hq : pc + 1 = q) (A : Ar Z h a ty vs) (hr : Go p e below Φ (T.setTop (mkF m q Ls (.int (Int32.ofNat vs.length) :: st)))) : Go p e below Φ (T.setTop (mkF m pc Ls (.ref a :: st))) := by
  subst hq; obtain ⟨⟨hx, hb1, hml, hrt, hlk, hnm, hEL⟩, k0, locs, X, hh, hZ, hown, hS, hk0, N, C, O, hpr⟩ := w
  obtain ⟨hv, kC, dv, cl, B, q1, S1, q3, H1, G1⟩ := A
  refine hr.pre fun t r => X.arraylength (g := mkF m pc Ls (.ref a :: st)) hx (by rw [hh]; exact B.1) (State.isArrayOf_alike hZ.alike B.2.1) rfl rfl (hb hb1 hd) t ?_
  rw [len_of S1 q3]; exact r
theorem g_caload (w : Wk p l e R s m args below meth c Z a0 EL pr y bs ml rt T vm0 h k n) {a : Addr} {vs : List Value} {j : Int32} {i : Nat} {v : Value} (hd : decode bs pc = .ok (.caload, 1)) (hq : pc + 1 = q) (A : Ar Z h a .char vs) (hj : j = Int32.ofNat i) (hi : i < vs.length) (hv' : vs[i]? = some v) (hr : Go p e below Φ (T.setTop (mkF m q Ls (v :: st)))) : Go p e below Φ (T.setTop (mkF m pc Ls (.int j :: .ref a :: st))) := by
  subst hq hj; obtain ⟨⟨hx, hb1, hml, hrt, hlk, hnm, hEL⟩, k0, locs, X, hh, hZ, hown, hS, hk0, N, C, O, hpr⟩ := w
  obtain ⟨hv, kC, dv, cl, B, q1, S1, q3, H1, G1⟩ := A
  refine hr.pre fun t r => X.caload (g := mkF m pc Ls (.int (Int32.ofNat i) :: .ref a :: st)) hx (by rw [hh]; exact B.1) (State.isArrayOf_alike hZ.alike B.2.1) B.2.2 (inb hv S1 hi) (H1.at (inb hv S1 hi) (by rw [ofNat_clamp (by omega), List.getD_eq_getElem?_getD, hv']; rfl)) rfl rfl (hb hb1 hd) t r
theorem g_baload (w : Wk p l e R s m args below meth c Z a0 EL pr y bs ml rt T vm0 h k n) {a : Addr} {vs : List Value} {j : Int32} {i : Nat} {v : Value} (hd : decode bs pc = .ok (.baload, 1)) (hq : pc + 1 = q) (A : Ar Z h a .byte vs) (hj : j = Int32.ofNat i) (hi : i < vs.length) (hv' : vs[i]? = some v) (hr : Go p e below Φ (T.setTop (mkF m q Ls (v :: st)))) : Go p e below Φ (T.setTop (mkF m pc Ls (.int j :: .ref a :: st))) := by
  subst hq hj; obtain ⟨⟨hx, hb1, hml, hrt, hlk, hnm, hEL⟩, k0, locs, X, hh, hZ, hown, hS, hk0, N, C, O, hpr⟩ := w
  obtain ⟨hv, kC, dv, cl, B, q1, S1, q3, H1, G1⟩ := A
  refine hr.pre fun t r => X.baloadBytes (g := mkF m pc Ls (.int (Int32.ofNat i) :: .ref a :: st)) hx (by rw [hh]; exact B.1) (State.isArrayOf_alike hZ.alike B.2.1) B.2.2 (inb hv S1 hi) (H1.at (inb hv S1 hi) (by rw [ofNat_clamp (by omega), List.getD_eq_getElem?_getD, hv']; rfl)) rfl rfl (hb hb1 hd) t r
/-- checkcast, instanceof: yes -/
theorem g_cast (w : Wk p l e R s m args below meth c Z a0 EL pr y bs ml rt T vm0 h k n) {i : Nat} {K' : String} {a : Addr} (hd : decode bs pc = .ok (.checkcast i, 3)) (hq : pc + 3 = q) (w1 : (Cond.classLink y.cls i K').before a0 Z = true) (F : Ins Z h a K' true) (K : ∀ T', Wk p l e R s m args below meth c Z a0 EL pr y bs ml rt T' vm0 h k n → Go p e below Φ (T'.setTop (mkF m q Ls (.ref a :: st)))) : Go p e below Φ (T.setTop (mkF m pc Ls (.ref a :: st))) := by
  subst hq; obtain ⟨⟨hx, hb1, hml, hrt, hlk, hnm, hEL⟩, k0, locs, X, hh, hZ, hown, hS, hk0, N, C, O, hpr⟩ := w
  obtain ⟨T', X', e', g'⟩ := castY X hx hZ hown w1 hh F (g := mkF m pc Ls (.ref a :: st)) rfl rfl (hb hb1 hd)
  exact (K T' ⟨⟨hx, hb1, hml, hrt, hlk, hnm, hEL⟩, k0, locs, X', e', hZ, hown, hS, hk0, N, C, O, hpr⟩).pre g'
theorem g_inst (w : Wk p l e R s m args below meth c Z a0 EL pr y bs ml rt T vm0 h k n) {i : Nat} {K' : String} {a : Addr} (hd : decode bs pc = .ok (.instanceof i, 3)) (hq : pc + 3 = q) (w1 : (Cond.classLink y.cls i K').before a0 Z = true) (F : Ins Z h a K' true) (K : ∀ T', Wk p l e R s m args below meth c Z a0 EL pr y bs ml rt T' vm0 h k n → Go p e below Φ (T'.setTop (mkF m q Ls (.int 1 :: st)))) : Go p e below Φ (T.setTop (mkF m pc Ls (.ref a :: st))) := by
  subst hq; obtain ⟨⟨hx, hb1, hml, hrt, hlk, hnm, hEL⟩, k0, locs, X, hh, hZ, hown, hS, hk0, N, C, O, hpr⟩ := w
  obtain ⟨T', X', e', g'⟩ := instY X hx hZ hown w1 hh F (g := mkF m pc Ls (.ref a :: st)) rfl rfl (hb hb1 hd)
  exact (K T' ⟨⟨hx, hb1, hml, hrt, hlk, hnm, hEL⟩, k0, locs, X', e', hZ, hown, hS, hk0, N, C, O, hpr⟩).pre g'
/-- Object.<init> -/
theorem g_initO (w : Wk p l e R s m args below meth c Z a0 EL pr y bs ml rt T vm0 h k n) {i W : Nat} {a : Addr} (hd : decode bs pc = .ok (.invokespecial i, 3)) (hq : pc + 3 = q) (hsz : Ls.size = ml) (w1 : (Cond.methodLink y.cls i Lib.objectInit).before a0 Z = true) (w2 : (Cond.instanceMethod Lib.objectInit).before a0 Z = true) (w3 : (Cond.code Lib.objectInit ⟨#[0xb1]⟩ 1 none).before a0 Z = true) (hW : 2 * 0 + (st.map fun v => v.category).sum ≤ W) (hf : 1 ≤ R.frames) (hl : W + 12 ≤ R.locals)
    (K : ∀ T', Wk p l e R s m args below meth c Z a0 EL pr y bs ml rt T' vm0 h k n → Go p e below Φ (T'.setTop (mkF m q Ls st))) : Go p e below Φ (T.setTop (mkF m pc Ls (.ref a :: st))) := by
  subst hq; obtain ⟨⟨hx, hb1, hml, hrt, hlk, hnm, hEL⟩, k0, locs, X, hh, hZ, hown, hS, hk0, N, C, O, hpr⟩ := w
  obtain ⟨T', X', e', g'⟩ := initO X hx hZ hown w1 w2 w3 hh (g := mkF m pc Ls (.ref a :: st)) rfl (hsz.trans hml.symm) rfl (hb hb1 hd) hf hW hl
  exact (K T' ⟨⟨hx, hb1, hml, hrt, hlk, hnm, hEL⟩, k0, locs, X', e', hZ, hown, hS, hk0, N, C, O, hpr⟩).pre g'
/-- ldc of a String constant of EL -/
theorem g_ldcS (w : Wk p l e R s m args below meth c Z a0 EL pr y bs ml rt T vm0 h k n) {i nn : Nat} {text : String} {vs : List Value} {z : Int32} (hd : decode bs pc = .ok (.ldc i, 2)) (hq : pc + 2 = q) (hp : pr = false) (w1 : (Cond.stringLink y.cls i text).before a0 Z = true) (wS : ∀ a ∈ Bundle.stringAtoms, a.before a0 Z = true) (hmem : (y.cls, i) ∈ EL)
    (ht : (∀ c ∈ text.toList, c.toNat < 256) ∧ text.toList.map (fun c => Value.int (Jvm.Lit.byteI c.toNat.toUInt16)) = vs) (hz : ¬ z < 0) (hl : z.toNatClampNeg = vs.length) (hn : 4 * text.toList.length ≤ nn) (hbig : nn ≤ 536870912) (hc : k + 2 ≤ R.cells) (hs : n + (nn + 4) ≤ R.slots)
    (K : ∀ T' vm' h' a b kb, Wk p l e R s m args below meth c Z a0 EL pr y bs ml rt T' vm' h' (k + 2) (n + (nn + 4)) → Ext h h' → Exa Z h' a "java/lang/String" → Fld Z h' a "java/lang/String" "coder" "B" (.int 0) → Fld Z h' a "java/lang/String" "value" "[B" (.ref b) → Arv Z h' b kb .byte z vs (.int 0) → CHr Z EL vm0 h vm' h' → (∀ x, Safe Z EL vm' h' x → x ≠ a ∧ x ≠ b) → Go p e below Φ (T'.setTop (mkF m q Ls (.ref a :: st)))) : Go p e below Φ (T.setTop (mkF m pc Ls st)) := by
  subst hq hp; obtain ⟨⟨hx, hb1, hml, hrt, hlk, hnm, hEL⟩, k0, locs, X, hh, hZ, hown, hS, hk0, N, C, O, hpr⟩ := w
  obtain ⟨a, T', h', k1, b, kb, X', e', E, hS', hk', hZ', hown', E1, F1, F2, A1, -, -, C', -, Sf, g'⟩ := ldcCH X hx hZ hown w1 wS hh hS hk0 hEL hmem C.1 ht hz hl (g := mkF m pc Ls st) rfl (hb hb1 hd) hn hbig hc hs
  exact (K T' T'.vm h' a b kb ⟨⟨hx, hb1, hml, hrt, hlk, hnm, hEL⟩, k1, locs, X', e', hZ', hown', hS', hk', N, C.trans C', ext_trans O E, fun q => by cases q⟩ E E1 F1 F2 A1 C' Sf).pre g'
/-- ldc of a String constant, its text not asked -/
theorem g_ldcO (w : Wk p l e R s m args below meth c Z a0 EL pr y bs ml rt T vm0 h k n) {i nn : Nat} {text : String} (hd : decode bs pc = .ok (.ldc i, 2)) (hq : pc + 2 = q) (hp : pr = false) (w1 : (Cond.stringLink y.cls i text).before a0 Z = true) (wS : ∀ a ∈ Bundle.stringAtoms, a.before a0 Z = true) (hn : 4 * text.toList.length ≤ nn) (hbig : nn ≤ 536870912) (hc : k + 2 ≤ R.cells) (hs : n + (nn + 4) ≤ R.slots)
    (K : ∀ T' vm' h' a, Wk p l e R s m args below meth c Z a0 EL pr y bs ml rt T' vm' h' (k + 2) (n + (nn + 4)) → Ext h h' → CHr Z EL vm0 h vm' h' → Go p e below Φ (T'.setTop (mkF m q Ls (.ref a :: st)))) : Go p e below Φ (T.setTop (mkF m pc Ls st)) := by
  subst hq hp; obtain ⟨⟨hx, hb1, hml, hrt, hlk, hnm, hEL⟩, k0, locs, X, hh, hZ, hown, hS, hk0, N, C, O, hpr⟩ := w
  obtain ⟨a, T', h', k1, X', e', E, hS', hk', hZ', hown', C', -, g'⟩ := ldcOH X hx hZ hown w1 wS hh hS hk0 hEL C.1 (g := mkF m pc Ls st) rfl (hb hb1 hd) hn hbig hc hs
  exact (K T' T'.vm h' a ⟨⟨hx, hb1, hml, hrt, hlk, hnm, hEL⟩, k1, locs, X', e', hZ', hown', hS', hk', N, C.trans C', ext_trans O E, fun q => by cases q⟩ E C').pre g'
/-- a callee's contract, at the call -/
theorem Con.back {y' : MethodName} {bs' : ByteArray} {ml' : Nat} {rt' : Option FieldType} {rm : Room} {as' : Array Value} {sf : List Addr} {Q : Option Value → Heap → Prop} {len W : Nat} (hM : Con l Z EL pr y' bs' ml' rt' [] rm as' sf h Q) (hsf : ∀ x ∈ sf, x < h.size ∧ Safe Z EL vm0 h x) (hZ : Z.Warmed39 vm0) (wc : (Cond.code y' bs' ml' rt').before a0 Z = true) (wz : (Cond.initialized y'.cls).before a0 Z = true)
    (hf : rm.frames + 1 ≤ R.frames) (hl : W + (ml' + 11) + rm.locals ≤ R.locals) (hEL : EW Z a0 EL) (H : CHv Z EL vm0 h) :
    BackS l R p e below (s.setVm vm0) args y' len W (fun A a => a = as' ∧ A.U.heap = h ∧ A.cells + rm.cells ≤ R.cells ∧ A.slots + rm.slots ≤ R.slots)
      (fun A _ v B => ∃ L, (Q v B.U.heap ∧ Ext Z.heap B.U.heap ∧ Fr Z.heap.size L) ∧ B.locs = A.locs ++ L ∧ B.cells = A.cells + rm.cells ∧ B.slots = A.slots + rm.slots ∧ CHr Z EL vm0 h B.U.vm B.U.heap ∧ (pr = true → A.U.WarmedH B.U.vm)) :=
  BackS.of_freeW (bytes := bs') (maxL := ml') (ret := rt') (E := fun _ first o t L kk nn => kk = rm.cells ∧ nn = rm.slots ∧ (∃ v, o = .returned v ∧ Q v t.heap ∧ Ext Z.heap t.heap ∧ Fr Z.heap.size L) ∧ CHr Z EL first.vm first.heap t.vm t.heap ∧ (pr = true → first.WarmedH t.vm)) hM hf hl
    (fun m meth c A a Y hp => have hU : Z.Warmed39 A.U.vm := wtrans (s := s.setVm vm0) hZ Y.warmed
      ⟨by show (Cond.and _ .tt).before a A.U = true; rw [Cond.before_and, mv hU wc]; rfl, mv hU wc, mv hU wz, hp.2.2.1, hp.2.2.2⟩)
    (fun m meth c A a g mk Y hp => ⟨hp.1, wtrans (s := s.setVm vm0) hZ Y.warmed, hp.2.1, (CHv.at Y hZ hEL H).1, fun x hx => (CHv.at Y hZ hEL H).safe (hsf x hx).1 (hsf x hx).2⟩) (fun _ _ _ _ _ _ _ _ _ => trivial)
    (fun _ _ _ _ ⟨v, L, h1, h2, h3, h4, h5, h6, h7⟩ => ⟨L, _, _, h7, rfl, rfl, ⟨v, h1, h2, h3, h4⟩, h5, h6⟩)
    (fun m meth c A a g mk v t L kk nn Y hp _ _ ⟨e1, e2, ⟨v', e3, e4⟩, e5, e6⟩ => by
      cases e3; subst e1 e2
      refine ⟨L, e4, rfl, rfl, rfl, (CHv.at Y hZ hEL H).trans ?_, e6⟩
      rw [← hp.2.1]; exact e5)
/-- behind a call -/
theorem Wk.after (w : Wk p l e R s m args below meth c Z a0 EL pr y bs ml rt T vm0 h k n) {T' : State} {locs' : List Loc} {k' n' : Nat} (X' : Stand p l e R ((s.setVm vm0).setVm T'.vm) m args below meth c T' locs' k' n') (h2 : (s.setVm vm0).Since T'.vm T'.heap.size) (hg : T.heap.size ≤ T'.heap.size) (N' : Fr Z.heap.size locs') (C' : CHr Z EL vm0 h T'.vm T'.heap) (O' : Ext Z.heap T'.heap) (hpr' : pr = true → (s.setVm vm0).WarmedH T'.vm) :
    Wk p l e R s m args below meth c Z a0 EL pr y bs ml rt T' T'.vm T'.heap k' n' := by
  obtain ⟨hd, k0, locs, X, rfl, hZ, hown, hS, hk0, N, C, O, hpr⟩ := w
  obtain ⟨a, b, c', d⟩ := rebS (Z := Z) hS hk0 X' h2 hg hZ hown
  exact ⟨hd, _, locs', a, rfl, c', d, b, Nat.le_refl _, N', C.trans C', O', fun q => State.WarmedH.trans (t := s.setVm vm0) (hpr q) (hpr' q)⟩
/-- invokestatic -/
theorem g_static (w : Wk p l e R s m args below meth c Z a0 EL pr y bs ml rt T vm0 h k n) {y' : MethodName} {bs' : ByteArray} {ml' : Nat} {rt' : Option FieldType} {rm : Room} {Q : Option Value → Heap → Prop} {i W : Nat} {argsL : List Value} {ps : List FieldType} {rr : Option FieldType} {stk : List Value} {sf : List Addr} (hM : Con l Z EL pr y' bs' ml' rt' [] rm argsL.toArray sf h Q) (hsf : ∀ x ∈ sf, x < h.size ∧ Safe Z EL vm0 h x) (hd : decode bs pc = .ok (.invokestatic i, 3)) (hq : pc + 3 = q) (hsz : Ls.size = ml)
    (w1 : (Cond.methodLink y.cls i y').before a0 Z = true) (w2 : (Cond.static y').before a0 Z = true) (w3 : (Cond.initialized y'.cls).before a0 Z = true) (w4 : (Cond.code y' bs' ml' rt').before a0 Z = true) (hy : y'.cls ≠ "java/lang/invoke/MethodHandle" ∧ y'.cls ≠ "java/lang/invoke/VarHandle") (hpd : parseMethodDescriptor y'.desc = some ⟨ps, rr⟩) (hlen : argsL.length = ps.length) (hst : stk = argsL.reverse ++ st)
    (hW : 2 * 0 + (st.map fun v => v.category).sum ≤ W) (hf : rm.frames + 1 ≤ R.frames) (hl : W + (ml' + 11) + rm.locals ≤ R.locals) (hc : k + rm.cells ≤ R.cells) (hs : n + rm.slots ≤ R.slots)
    (K : ∀ T' h' v, Wk p l e R s m args below meth c Z a0 EL pr y bs ml rt T' T'.vm h' (k + rm.cells) (n + rm.slots) → h.size ≤ h'.size → CHr Z EL vm0 h T'.vm h' → Q v h' → Go p e below Φ (T'.setTop (mkF m q Ls (v.toList ++ st)))) : Go p e below Φ (T.setTop (mkF m pc Ls stk)) := by
  subst hq hst; have w' := w; obtain ⟨⟨hx, hb1, hml, hrt, hlk, hnm, hEL⟩, k0, locs, X, hh, hZ, hown, hS, hk0, N, C, O, hpr⟩ := w
  obtain ⟨v, vm₁, ⟨T', L', k', n'⟩, hW1, X', hS', hg, ⟨L, ⟨hQ, hO', hF⟩, hl', hk', hn', hC', hp'⟩, stp⟩ := callSS X hx hown (mvT (s := s.setVm vm0) hZ w1) (mvT (s := s.setVm vm0) hZ w2) (mvT (s := s.setVm vm0) hZ w3) (mvT (s := s.setVm vm0) hZ w4) hy (hM.back hsf hZ w4 w3 hf hl hEL C.1) (g := mkF m pc Ls (argsL.reverse ++ st)) rfl (hsz.trans hml.symm) (lenOf hpd hlen) rfl hW (hb hb1 hd) (fun _ _ => ⟨rfl, hh, hc, hs⟩)
  dsimp only [Pt.U, Pt.locs, Pt.cells, Pt.slots] at X' hS' hg hQ hO' hl' hk' hn' hC' hp' stp
  subst hl' hk' hn'
  exact (K T' T'.heap v (w'.after X' hS' hg (N.app hF) hC' hO' fun q => State.WarmedH.trans (t := T.setVm vm₁) hW1 (hp' q)) hC'.2.1 hC' hQ).pre' stp
/-- invokespecial of a constructor -/
theorem g_special (w : Wk p l e R s m args below meth c Z a0 EL pr y bs ml rt T vm0 h k n) {y' : MethodName} {bs' : ByteArray} {ml' : Nat} {rm : Room} {Q : Option Value → Heap → Prop} {i W : Nat} {a : Addr} {argsL : List Value} {ps : List FieldType} {rr : Option FieldType} {stk : List Value} {sf : List Addr} (hM : Con l Z EL pr y' bs' ml' none [] rm (.ref a :: argsL).toArray sf h Q) (hsf : ∀ x ∈ sf, x < h.size ∧ Safe Z EL vm0 h x) (hd : decode bs pc = .ok (.invokespecial i, 3)) (hq : pc + 3 = q) (hsz : Ls.size = ml) (hni : y'.name = "<init>")
    (w1 : (Cond.methodLink y.cls i y').before a0 Z = true) (w2 : (Cond.instanceMethod y').before a0 Z = true) (w3 : (Cond.initialized y'.cls).before a0 Z = true) (w4 : (Cond.code y' bs' ml' none).before a0 Z = true) (hy : y'.cls ≠ "java/lang/invoke/MethodHandle" ∧ y'.cls ≠ "java/lang/invoke/VarHandle") (hpd : parseMethodDescriptor y'.desc = some ⟨ps, rr⟩) (hlen : argsL.length = ps.length) (hst : stk = argsL.reverse ++ .ref a :: st)
    (hW : 2 * 0 + (st.map fun v => v.category).sum ≤ W) (hf : rm.frames + 1 ≤ R.frames) (hl : W + (ml' + 11) + rm.locals ≤ R.locals) (hc : k + rm.cells ≤ R.cells) (hs : n + rm.slots ≤ R.slots)
    (K : ∀ T' h' v, Wk p l e R s m args below meth c Z a0 EL pr y bs ml rt T' T'.vm h' (k + rm.cells) (n + rm.slots) → h.size ≤ h'.size → CHr Z EL vm0 h T'.vm h' → Q v h' → Go p e below Φ (T'.setTop (mkF m q Ls (v.toList ++ st)))) : Go p e below Φ (T.setTop (mkF m pc Ls stk)) := by
  subst hq hst; have w' := w; obtain ⟨⟨hx, hb1, hml, hrt, hlk, hnm, hEL⟩, k0, locs, X, hh, hZ, hown, hS, hk0, N, C, O, hpr⟩ := w
  obtain ⟨v, vm₁, ⟨T', L', k', n'⟩, hW1, X', hS', hg, ⟨L, ⟨hQ, hO', hF⟩, hl', hk', hn', hC', hp'⟩, stp⟩ := X.specialBackS hx hni hown (mvT (s := s.setVm vm0) hZ w1) (mvT (s := s.setVm vm0) hZ w2) (mvT (s := s.setVm vm0) hZ w4) hy (hM.back hsf hZ w4 w3 hf hl hEL C.1) (g := mkF m pc Ls (argsL.reverse ++ .ref a :: st)) rfl (hsz.trans hml.symm) (Steps.refl _) (a := a) (lenOf hpd hlen) rfl hW (hb hb1 hd) (fun _ _ => ⟨rfl, hh, hc, hs⟩)
  dsimp only [Pt.U, Pt.locs, Pt.cells, Pt.slots] at X' hS' hg hQ hO' hl' hk' hn' hC' hp' stp
  subst hl' hk' hn'
  exact (K T' T'.heap v (w'.after X' hS' hg (N.app hF) hC' hO' fun q => State.WarmedH.trans (t := T.setVm vm₁) hW1 (hp' q)) hC'.2.1 hC' hQ).pre' stp
/-- invokevirtual -/
theorem g_virtual (w : Wk p l e R s m args below meth c Z a0 EL pr y bs ml rt T vm0 h k n) {y1 y' : MethodName} {bs' : ByteArray} {ml' : Nat} {rt' : Option FieldType} {rm : Room} {Q : Option Value → Heap → Prop} {i W : Nat} {a : Addr} {C' : String} {argsL : List Value} {ps : List FieldType} {rr : Option FieldType} {stk : List Value} {sf : List Addr} (hM : Con l Z EL pr y' bs' ml' rt' [] rm (.ref a :: argsL).toArray sf h Q) (hsf : ∀ x ∈ sf, x < h.size ∧ Safe Z EL vm0 h x) (E : Exa Z h a C') (hd : decode bs pc = .ok (.invokevirtual i, 3)) (hq : pc + 3 = q) (hsz : Ls.size = ml)
    (w1 : (Cond.methodLink y.cls i y1).before a0 Z = true) (wd : (Cond.declares y1).before a0 Z = true) (ws : (Cond.selects C' y1 y').before a0 Z = true) (w2 : (Cond.instanceMethod y').before a0 Z = true) (w3 : (Cond.initialized y'.cls).before a0 Z = true) (w4 : (Cond.code y' bs' ml' rt').before a0 Z = true) (hy : y1.cls ≠ "java/lang/invoke/MethodHandle" ∧ y1.cls ≠ "java/lang/invoke/VarHandle") (hnf : ∀ s' : State, Z.Warmed39 s'.vm → NotFace s' y1) (hpd : parseMethodDescriptor y1.desc = some ⟨ps, rr⟩) (hlen : argsL.length = ps.length) (hst : stk = argsL.reverse ++ .ref a :: st)
    (hW : 2 * 0 + (st.map fun v => v.category).sum ≤ W) (hf : rm.frames + 1 ≤ R.frames) (hl : W + (ml' + 11) + rm.locals ≤ R.locals) (hc : k + rm.cells ≤ R.cells) (hs : n + rm.slots ≤ R.slots)
    (K : ∀ T' h' v, Wk p l e R s m args below meth c Z a0 EL pr y bs ml rt T' T'.vm h' (k + rm.cells) (n + rm.slots) → h.size ≤ h'.size → CHr Z EL vm0 h T'.vm h' → Q v h' → Go p e below Φ (T'.setTop (mkF m q Ls (v.toList ++ st)))) : Go p e below Φ (T.setTop (mkF m pc Ls stk)) := by
  subst hq hst; have w' := w; obtain ⟨⟨hx, hb1, hml, hrt, hlk, hnm, hEL⟩, k0, locs, X, hh, hZ, hown, hS, hk0, N, C, O, hpr⟩ := w
  obtain ⟨cq, kq, qa, -, qc⟩ := isOf (s := s.setVm vm0) hZ hh E
  obtain ⟨v, vm₁, ⟨T', L', k', n'⟩, hW1, X', hS', hg, ⟨L, ⟨hQ, hO', hF⟩, hl', hk', hn', hC', hp'⟩, stp⟩ := X.virtualBackS hx hown (mvT (s := s.setVm vm0) hZ w1) (mvT (s := s.setVm vm0) hZ wd) (hnf (s.setVm vm0) hZ) (mvT (s := s.setVm vm0) hZ ws) (mvT (s := s.setVm vm0) hZ w2) hy (hM.back hsf hZ w4 w3 hf hl hEL C.1) qa qc (g := mkF m pc Ls (argsL.reverse ++ .ref a :: st)) rfl (hsz.trans hml.symm) (Steps.refl _) (lenOf hpd hlen) rfl hW (hb hb1 hd) (fun _ _ => ⟨rfl, hh, hc, hs⟩)
  dsimp only [Pt.U, Pt.locs, Pt.cells, Pt.slots] at X' hS' hg hQ hO' hl' hk' hn' hC' hp' stp
  subst hl' hk' hn'
  exact (K T' T'.heap v (w'.after X' hS' hg (N.app hF) hC' hO' fun q => State.WarmedH.trans (t := T.setVm vm₁) hW1 (hp' q)) hC'.2.1 hC' hQ).pre' stp
theorem nf {y1 : MethodName} {C' : String} (ws : (Cond.selects C' y1 y1).before a0 Z = true) (s' : State) (hZ : Z.Warmed39 s'.vm) : NotFace s' y1 := notFace_of_selects (args := #[]) (mvT hZ ws)
/-- behind a step whose law leaves the tables: Back's form -/
theorem Wk.afterB (w : Wk p l e R s m args below meth c Z a0 EL pr y bs ml rt T vm0 h k n) {T' : State} {L : List Loc} {k' n' : Nat} {ws : List Addr} (hh' : ∃ locs, ∀ locs0, locs0 = locs → Stand p l e R (s.setVm vm0) m args below meth c T' (locs0 ++ L) k' n' ∧ Fr Z.heap.size locs0) (hF : Fr Z.heap.size L) (Kp : Keep h T'.heap ws) (hs : ∀ x ∈ ws, Safe Z EL vm0 h x) (hn : ∀ x ∈ ws, Z.heap.size ≤ x) : Wk p l e R s m args below meth c Z a0 EL pr y bs ml rt T' vm0 T'.heap k' n' := by
  obtain ⟨hd, k0, locs, X, rfl, hZ, hown, hS, hk0, N, C, O, hpr⟩ := w
  obtain ⟨l1, q⟩ := hh'
  obtain ⟨X', N'⟩ := q _ rfl
  exact ⟨hd, k0, _, X', rfl, hZ, hown, hS, Nat.le_trans hk0 Kp.1, N'.app hF, C.trans (CHr.keep Kp hs C.1), (Old.keep (n0 := Z.heap.size) ⟨rfl, O⟩ Kp hn).2, hpr⟩
/-- invokevirtual paid by a law that leaves the heap -/
theorem g_virtualB (w : Wk p l e R s m args below meth c Z a0 EL pr y bs ml rt T vm0 h k n) {y1 y' : MethodName} {V : Option Value → Prop} {i W : Nat} {a : Addr} {C' : String} {argsL : List Value} {ps : List FieldType} {rr : Option FieldType} {stk : List Value}
    (hK : ∀ s' : State, Z.Warmed39 s'.vm → Back l R p e below s' args y' 3 W (fun P a' => a' = (.ref a :: argsL).toArray ∧ P.U.heap = h ∧ P.cells + 0 ≤ R.cells ∧ P.slots + 0 ≤ R.slots) (fun P _ v B => ∃ L, (V v ∧ L = [] ∧ B.U.heap = h) ∧ B.locs = P.locs ++ L ∧ B.cells = P.cells + 0 ∧ B.slots = P.slots + 0))
    (E : Exa Z h a C') (hd : decode bs pc = .ok (.invokevirtual i, 3)) (hq : pc + 3 = q) (hsz : Ls.size = ml)
    (w1 : (Cond.methodLink y.cls i y1).before a0 Z = true) (wd : (Cond.declares y1).before a0 Z = true) (ws : (Cond.selects C' y1 y').before a0 Z = true) (w2 : (Cond.instanceMethod y').before a0 Z = true) (hy : y1.cls ≠ "java/lang/invoke/MethodHandle" ∧ y1.cls ≠ "java/lang/invoke/VarHandle") (hnf : ∀ s' : State, Z.Warmed39 s'.vm → NotFace s' y1) (hpd : parseMethodDescriptor y1.desc = some ⟨ps, rr⟩) (hlen : argsL.length = ps.length) (hst : stk = argsL.reverse ++ .ref a :: st)
    (hW : 2 * 0 + (st.map fun v => v.category).sum ≤ W) (hc : k ≤ R.cells) (hs : n ≤ R.slots)
    (K : ∀ T' v, Wk p l e R s m args below meth c Z a0 EL pr y bs ml rt T' vm0 h k n → V v → Go p e below Φ (T'.setTop (mkF m q Ls (v.toList ++ st)))) : Go p e below Φ (T.setTop (mkF m pc Ls stk)) := by
  subst hq hst; have w' := w; obtain ⟨⟨hx, hb1, hml, hrt, hlk, hnm, hEL⟩, k0, locs, X, hh, hZ, hown, hS, hk0, N, C, O, hpr⟩ := w
  obtain ⟨cq, kq, qa, -, qc⟩ := isOf (s := s.setVm vm0) hZ hh E
  obtain ⟨v, vm₁, ⟨T', L', k', n'⟩, hW1, X', ⟨L, ⟨hV, hL, hH⟩, hl', hk', hn'⟩, stp⟩ := X.virtualBack hx hown (mvT (s := s.setVm vm0) hZ w1) (mvT (s := s.setVm vm0) hZ wd) (hnf (s.setVm vm0) hZ) (mvT (s := s.setVm vm0) hZ ws) (mvT (s := s.setVm vm0) hZ w2) hy (hK (s.setVm vm0) hZ) qa qc (g := mkF m pc Ls (argsL.reverse ++ .ref a :: st)) rfl (hsz.trans hml.symm) (Steps.refl _) (lenOf hpd hlen) rfl hW (hb hb1 hd) (fun _ _ => ⟨rfl, hh, hc, hs⟩)
  dsimp only [Pt.U, Pt.locs, Pt.cells, Pt.slots] at X' hV hL hH hl' hk' hn' stp
  subst hL hl' hk' hn'
  exact (K T' v ⟨⟨hx, hb1, hml, hrt, hlk, hnm, hEL⟩, k0, _, X', hH, hZ, hown, hS, hk0, N.app (Fr.nil _), C, O, hpr⟩ hV).pre' stp
/-- a constructor paid by a law in Back's form -/
theorem g_specialB (w : Wk p l e R s m args below meth c Z a0 EL pr y bs ml rt T vm0 h k n) {y' : MethodName} {bs' : ByteArray} {ml' kc ks : Nat} {Q : Option Value → Heap → List Loc → Prop} {i W : Nat} {a : Addr} {argsL : List Value} {ps : List FieldType} {rr : Option FieldType} {stk : List Value} {wr : List Addr}
    (hK : ∀ s' : State, Z.Warmed39 s'.vm → Back l R p e below s' args y' 3 W (fun P a' => a' = (.ref a :: argsL).toArray ∧ P.U.heap = h ∧ P.cells + kc ≤ R.cells ∧ P.slots + ks ≤ R.slots) (fun P _ v B => ∃ L, Q v B.U.heap L ∧ B.locs = P.locs ++ L ∧ B.cells = P.cells + kc ∧ B.slots = P.slots + ks))
    (hQ : ∀ v h' L, Q v h' L → Fr Z.heap.size L ∧ Keep h h' wr) (hsf : ∀ x ∈ wr, Safe Z EL vm0 h x) (hnw : ∀ x ∈ wr, Z.heap.size ≤ x)
    (hd : decode bs pc = .ok (.invokespecial i, 3)) (hq : pc + 3 = q) (hsz : Ls.size = ml) (hni : y'.name = "<init>")
    (w1 : (Cond.methodLink y.cls i y').before a0 Z = true) (w2 : (Cond.instanceMethod y').before a0 Z = true) (w4 : (Cond.code y' bs' ml' none).before a0 Z = true) (hy : y'.cls ≠ "java/lang/invoke/MethodHandle" ∧ y'.cls ≠ "java/lang/invoke/VarHandle") (hpd : parseMethodDescriptor y'.desc = some ⟨ps, rr⟩) (hlen : argsL.length = ps.length) (hst : stk = argsL.reverse ++ .ref a :: st)
    (hW : 2 * 0 + (st.map fun v => v.category).sum ≤ W) (hc : k + kc ≤ R.cells) (hs : n + ks ≤ R.slots)
    (K : ∀ T' h' v L, Wk p l e R s m args below meth c Z a0 EL pr y bs ml rt T' vm0 h' (k + kc) (n + ks) → Q v h' L → Go p e below Φ (T'.setTop (mkF m q Ls (v.toList ++ st)))) : Go p e below Φ (T.setTop (mkF m pc Ls stk)) := by
  subst hq hst; have w' := w; obtain ⟨⟨hx, hb1, hml, hrt, hlk, hnm, hEL⟩, k0, locs, X, hh, hZ, hown, hS, hk0, N, C, O, hpr⟩ := w
  obtain ⟨v, vm₁, ⟨T', L', k', n'⟩, hW1, X', ⟨L, hQ', hl', hk', hn'⟩, stp⟩ := X.specialBack hx hni hown (mvT (s := s.setVm vm0) hZ w1) (mvT (s := s.setVm vm0) hZ w2) (mvT (s := s.setVm vm0) hZ w4) hy (hK (s.setVm vm0) hZ) (g := mkF m pc Ls (argsL.reverse ++ .ref a :: st)) rfl (hsz.trans hml.symm) (Steps.refl _) (a := a) (lenOf hpd hlen) rfl hW (hb hb1 hd) (fun _ _ => ⟨rfl, hh, hc, hs⟩)
  dsimp only [Pt.U, Pt.locs, Pt.cells, Pt.slots] at X' hQ' hl' hk' hn' stp
  subst hl' hk' hn'
  obtain ⟨hF, Kp⟩ := hQ v T'.heap L hQ'
  exact (K T' T'.heap v L ⟨⟨hx, hb1, hml, hrt, hlk, hnm, hEL⟩, k0, _, X', rfl, hZ, hown, hS, Nat.le_trans hk0 Kp.1, N.app hF, C.trans (CHr.keep Kp hsf C.1), (Old.keep (n0 := Z.heap.size) ⟨rfl, O⟩ Kp hnw).2, hpr⟩ hQ').pre' stp
/-- a String whose value is null is no booked one -/
theorem safe_null {vm : Vm} {x : Addr} {kk : Nat} (hal : Z.vm.Alike vm) (wi : (Cond.instantiable "java/lang/String" kk).before a0 Z = true) (E : Exa Z h x "java/lang/String") (F : Fld Z h x "java/lang/String" "value" "[B" .null) : Safe Z EL vm h x := fun B => by
  obtain ⟨p, -, u, a, -, q, -, F', hy⟩ := B
  obtain ⟨cell, cf, k, i, f, h1, h2, h3, h4, h5, h6, h7⟩ := F
  obtain ⟨cS, ⟨⟨s1, s2, s3, ⟨cv, kv, iv, s4, s4'⟩, -, s6, s7, s8, s9, s10, s11, -⟩, -⟩, -⟩ := F'
  obtain ⟨k3, e3, -⟩ := State.fieldFound?_setVm (s := Z) hal h2
  have e4 := (show (Wst Z vm h).fieldFound? _ _ _ = _ from e3).symm.trans s4
  simp only [Option.some.injEq, Prod.mk.injEq] at e4
  rcases hy with rfl | rfl
  · have e5 : h[q.sa]? = some q.sC := s1
    rw [h1] at e5; cases e5
    rw [← e4.2.2.2, h7] at s8; cases s8
  · have e5 : h[q.sd]? = some q.SA := s10
    rw [h1] at e5; cases e5
    obtain ⟨ce, ke, f1, f2, f3, -⟩ := E
    rw [h1] at f1; cases f1
    obtain ⟨c2, k2, i1, i2, i3, -⟩ := Cond.instantiable_spec wi
    cases f2.symm.trans i1
    cases f3.symm.trans i2
    obtain ⟨k', z1, z2⟩ := hal.2.2 _ _ f3
    obtain ⟨-, k9, hk9, comp, hkind⟩ := s11
    have hk9 : vm.classes[q.SA.cls]? = some k9 := hk9
    cases hk9.symm.trans z1
    rw [z2] at hkind
    have hkind : ke.kind = _ := hkind
    rw [i3] at hkind; cases hkind
theorem Wk.more (w : Wk p l e R s m args below meth c Z a0 EL pr y bs ml rt T vm0 h k n) {k' n' : Nat} (hk : k ≤ k') (hn : n ≤ n') : Wk p l e R s m args below meth c Z a0 EL pr y bs ml rt T vm0 h k' n' := by
  obtain ⟨hd, k0, locs, X, r⟩ := w
  exact ⟨hd, k0, locs, X.more hk hn, r⟩
theorem Wk.safeAr (w : Wk p l e R s m args below meth c Z a0 EL pr y bs ml rt T vm0 h k n) {a : Addr} {ty : FieldType} {vs : List Value} (A : Ar Z h a ty vs) (ht : ty ≠ .byte) : Safe Z EL vm0 h a := by
  obtain ⟨-, _, _, A⟩ := A; exact Safe.arv w.wz.alike A ht
/-- calls whose callee leaves the heap as it was -/
theorem g_staticP (w : Wk p l e R s m args below meth c Z a0 EL pr y bs ml rt T vm0 h k n) {y' : MethodName} {bs' : ByteArray} {ml' : Nat} {rt' : Option FieldType} {rm : Room} {V : Option Value → Prop} {i W : Nat} {argsL : List Value} {ps : List FieldType} {rr : Option FieldType} {stk : List Value} {sf : List Addr} (hM : Con l Z EL pr y' bs' ml' rt' [] rm argsL.toArray sf h (fun v h' => V v ∧ h' = h)) (hsf : ∀ x ∈ sf, x < h.size ∧ Safe Z EL vm0 h x) (hd : decode bs pc = .ok (.invokestatic i, 3)) (hq : pc + 3 = q) (hsz : Ls.size = ml)
    (w1 : (Cond.methodLink y.cls i y').before a0 Z = true) (w2 : (Cond.static y').before a0 Z = true) (w3 : (Cond.initialized y'.cls).before a0 Z = true) (w4 : (Cond.code y' bs' ml' rt').before a0 Z = true) (hy : y'.cls ≠ "java/lang/invoke/MethodHandle" ∧ y'.cls ≠ "java/lang/invoke/VarHandle") (hpd : parseMethodDescriptor y'.desc = some ⟨ps, rr⟩) (hlen : argsL.length = ps.length) (hst : stk = argsL.reverse ++ st)
    (hW : 2 * 0 + (st.map fun v => v.category).sum ≤ W) (hf : rm.frames + 1 ≤ R.frames) (hl : W + (ml' + 11) + rm.locals ≤ R.locals) (hc : k + rm.cells ≤ R.cells) (hs : n + rm.slots ≤ R.slots)
    (K : ∀ T' v, Wk p l e R s m args below meth c Z a0 EL pr y bs ml rt T' T'.vm h (k + rm.cells) (n + rm.slots) → CHr Z EL vm0 h T'.vm h → V v → Go p e below Φ (T'.setTop (mkF m q Ls (v.toList ++ st)))) : Go p e below Φ (T.setTop (mkF m pc Ls stk)) :=
  g_static w hM hsf hd hq hsz w1 w2 w3 w4 hy hpd hlen hst hW hf hl hc hs fun T' h' v w' _ C' q' => by
    obtain ⟨hV, rfl⟩ := q'; exact K T' v w' C' hV
theorem g_specialP (w : Wk p l e R s m args below meth c Z a0 EL pr y bs ml rt T vm0 h k n) {y' : MethodName} {bs' : ByteArray} {ml' : Nat} {rm : Room} {V : Option Value → Prop} {i W : Nat} {a : Addr} {argsL : List Value} {ps : List FieldType} {rr : Option FieldType} {stk : List Value} {sf : List Addr} (hM : Con l Z EL pr y' bs' ml' none [] rm (.ref a :: argsL).toArray sf h (fun v h' => V v ∧ h' = h)) (hsf : ∀ x ∈ sf, x < h.size ∧ Safe Z EL vm0 h x) (hd : decode bs pc = .ok (.invokespecial i, 3)) (hq : pc + 3 = q) (hsz : Ls.size = ml) (hni : y'.name = "<init>")
    (w1 : (Cond.methodLink y.cls i y').before a0 Z = true) (w2 : (Cond.instanceMethod y').before a0 Z = true) (w3 : (Cond.initialized y'.cls).before a0 Z = true) (w4 : (Cond.code y' bs' ml' none).before a0 Z = true) (hy : y'.cls ≠ "java/lang/invoke/MethodHandle" ∧ y'.cls ≠ "java/lang/invoke/VarHandle") (hpd : parseMethodDescriptor y'.desc = some ⟨ps, rr⟩) (hlen : argsL.length = ps.length) (hst : stk = argsL.reverse ++ .ref a :: st)
    (hW : 2 * 0 + (st.map fun v => v.category).sum ≤ W) (hf : rm.frames + 1 ≤ R.frames) (hl : W + (ml' + 11) + rm.locals ≤ R.locals) (hc : k + rm.cells ≤ R.cells) (hs : n + rm.slots ≤ R.slots)
    (K : ∀ T' v, Wk p l e R s m args below meth c Z a0 EL pr y bs ml rt T' T'.vm h (k + rm.cells) (n + rm.slots) → CHr Z EL vm0 h T'.vm h → V v → Go p e below Φ (T'.setTop (mkF m q Ls (v.toList ++ st)))) : Go p e below Φ (T.setTop (mkF m pc Ls stk)) :=
  g_special w hM hsf hd hq hsz hni w1 w2 w3 w4 hy hpd hlen hst hW hf hl hc hs fun T' h' v w' _ C' q' => by
    obtain ⟨hV, rfl⟩ := q'; exact K T' v w' C' hV
theorem g_virtualP (w : Wk p l e R s m args below meth c Z a0 EL pr y bs ml rt T vm0 h k n) {y1 y' : MethodName} {bs' : ByteArray} {ml' : Nat} {rt' : Option FieldType} {rm : Room} {V : Option Value → Prop} {i W : Nat} {a : Addr} {C' : String} {argsL : List Value} {ps : List FieldType} {rr : Option FieldType} {stk : List Value} {sf : List Addr} (hM : Con l Z EL pr y' bs' ml' rt' [] rm (.ref a :: argsL).toArray sf h (fun v h' => V v ∧ h' = h)) (hsf : ∀ x ∈ sf, x < h.size ∧ Safe Z EL vm0 h x) (E : Exa Z h a C') (hd : decode bs pc = .ok (.invokevirtual i, 3)) (hq : pc + 3 = q) (hsz : Ls.size = ml)
    (w1 : (Cond.methodLink y.cls i y1).before a0 Z = true) (wd : (Cond.declares y1).before a0 Z = true) (ws : (Cond.selects C' y1 y').before a0 Z = true) (w2 : (Cond.instanceMethod y').before a0 Z = true) (w3 : (Cond.initialized y'.cls).before a0 Z = true) (w4 : (Cond.code y' bs' ml' rt').before a0 Z = true) (hy : y1.cls ≠ "java/lang/invoke/MethodHandle" ∧ y1.cls ≠ "java/lang/invoke/VarHandle") (hnf : ∀ s' : State, Z.Warmed39 s'.vm → NotFace s' y1) (hpd : parseMethodDescriptor y1.desc = some ⟨ps, rr⟩) (hlen : argsL.length = ps.length) (hst : stk = argsL.reverse ++ .ref a :: st)
    (hW : 2 * 0 + (st.map fun v => v.category).sum ≤ W) (hf : rm.frames + 1 ≤ R.frames) (hl : W + (ml' + 11) + rm.locals ≤ R.locals) (hc : k + rm.cells ≤ R.cells) (hs : n + rm.slots ≤ R.slots)
    (K : ∀ T' v, Wk p l e R s m args below meth c Z a0 EL pr y bs ml rt T' T'.vm h (k + rm.cells) (n + rm.slots) → CHr Z EL vm0 h T'.vm h → V v → Go p e below Φ (T'.setTop (mkF m q Ls (v.toList ++ st)))) : Go p e below Φ (T.setTop (mkF m pc Ls stk)) :=
  g_virtual w hM hsf E hd hq hsz w1 wd ws w2 w3 w4 hy hnf hpd hlen hst hW hf hl hc hs fun T' h' v w' _ C' q' => by
    obtain ⟨hV, rfl⟩ := q'; exact K T' v w' C' hV
theorem g_i2cM (w : Wk p l e R s m args below meth c Z a0 EL pr y bs ml rt T vm0 h k n) {x : Int32} (hd : decode bs pc = .ok (.i2c, 1)) (hq : pc + 1 = q) (hr : Go p e below Φ (T.setTop (mkF m q Ls (.int (x &&& 255) :: st)))) : Go p e below Φ (T.setTop (mkF m pc Ls (.int (x &&& 255) :: st))) := by
  refine g_i2c w hd hq ?_
  rw [i2c_mask]; exact hr
theorem no0 {P : Addr → Prop} : ∀ x ∈ ([] : List Addr), P x := fun _ q => nomatch q
theorem not1 {a b : Addr} (h : b ≠ a) : b ∉ [a] := fun q => h (List.mem_singleton.mp q)
theorem in1 {a : Addr} {P : Addr → Prop} (h : P a) : ∀ x ∈ [a], P x := fun x hx => by cases List.mem_singleton.mp hx; exact h
theorem keep_same {h1 h2 h3 : Heap} {a : Addr} (K : Keep h1 h2 [a]) (K' : Keep h2 h3 [a]) : Keep h1 h3 [a] := K.trans K' fun x hx => Or.inl hx
theorem keep_new {h1 h2 h3 : Heap} {a b : Addr} (K : Keep h1 h2 [a]) (K' : Keep h2 h3 [b]) (z : h1.size ≤ b) : Keep h1 h3 [a] := K.trans K' fun x hx => by cases List.mem_singleton.mp hx; exact Or.inr z
/-- a char of Latin-1; a char -/
def Lt8 (c : Int32) : Prop := ¬ c < 0 ∧ ¬ (255 : Int32) < c
def Lt16 (c : Int32) : Prop := ¬ c < 0 ∧ ¬ (65535 : Int32) < c
theorem Lt16.int {c : Int32} (h : Lt16 c) : 0 ≤ c.toInt ∧ c.toInt ≤ 65535 := by
  obtain ⟨h0, h1⟩ := h
  rw [Int32.lt_iff_toInt_lt] at h0 h1
  have e0 : (0 : Int32).toInt = 0 := rfl
  have e1 : (65535 : Int32).toInt = 65535 := rfl
  omega
theorem Lt8.int {c : Int32} (h : Lt8 c) : 0 ≤ c.toInt ∧ c.toInt ≤ 255 := by
  obtain ⟨h0, h1⟩ := h
  rw [Int32.lt_iff_toInt_lt] at h0 h1
  have e0 : (0 : Int32).toInt = 0 := rfl
  have e1 : (255 : Int32).toInt = 255 := rfl
  omega
theorem Lt16.of {c : Int32} (h0 : 0 ≤ c.toInt) (h1 : c.toInt ≤ 65535) : Lt16 c := by
  constructor
  · rw [Int32.lt_iff_toInt_lt]; have e0 : (0 : Int32).toInt = 0 := rfl; omega
  · rw [Int32.lt_iff_toInt_lt]; have e0 : (65535 : Int32).toInt = 65535 := rfl; omega
theorem Lt8.of {c : Int32} (h0 : 0 ≤ c.toInt) (h1 : c.toInt ≤ 255) : Lt8 c := by
  constructor
  · rw [Int32.lt_iff_toInt_lt]; have e0 : (0 : Int32).toInt = 0 := rfl; omega
  · rw [Int32.lt_iff_toInt_lt]; have e0 : (255 : Int32).toInt = 255 := rfl; omega
theorem Lt8.chr {c : Int32} (h : Lt8 c) : Lt16 c := Lt16.of h.int.1 (by have := h.int.2; omega)
theorem nar_chr {c : Int32} (h : Lt16 c) : nar .char c = c := by
  have := h.int
  show c.toUInt32.toUInt16.toUInt32.toInt32 = c
  apply Int32.toInt_inj.mp
  have e : c.toUInt32.toNat = c.toInt.toNat := by
    have h1 : c.toInt = c.toBitVec.toInt := rfl
    have h2 : c.toUInt32.toNat = c.toBitVec.toNat := rfl
    rw [h2, h1]
    rw [h1] at this
    rw [BitVec.toInt_eq_toNat_cond] at this ⊢
    split at this <;> split <;> omega
  have e2 : c.toUInt32.toUInt16.toUInt32 = c.toUInt32 := by
    apply UInt32.toNat_inj.mp
    rw [UInt16.toNat_toUInt32, UInt32.toNat_toUInt16, e]
    omega
  rw [e2, Int32.toInt32_toUInt32]
theorem nar_lat {c : Int32} (h : Lt8 c) : nar .char c = c := nar_chr h.chr
theorem mask255 (x : Int32) : Lt8 (x &&& 255) := by
  have e : (x &&& 255).toInt = ((x &&& 255).toBitVec.toNat : Int) ∧ (x &&& 255).toBitVec.toNat ≤ 255 := by
    have h1 : (x &&& 255).toBitVec.toNat = x.toBitVec.toNat % 256 := by
      rw [Int32.toBitVec_and, BitVec.toNat_and]
      exact Nat.and_two_pow_sub_one_eq_mod _ 8
    have h3 : (x &&& 255).toInt = (x &&& 255).toBitVec.toInt := rfl
    refine ⟨?_, by omega⟩
    rw [h3, BitVec.toInt_eq_toNat_cond, if_pos (by omega)]
  exact Lt8.of (by omega) (by omega)
theorem cs0 {P : Int32 → Prop} : ∀ c ∈ ([] : List Int32), P c := fun _ q => nomatch q
theorem csS {P : Int32 → Prop} {a : Int32} {l : List Int32} (h : P a) (r : ∀ c ∈ l, P c) : ∀ c ∈ a :: l, P c := fun c q => by
  rcases List.mem_cons.mp q with rfl | q
  · exact h
  · exact r c q
theorem lt8_nat {c : Int32} : Lt8 c ↔ c.toBitVec.toNat < 256 := by
  have h3 : c.toInt = c.toBitVec.toInt := rfl
  constructor
  · intro h
    have := h.int
    rw [h3, BitVec.toInt_eq_toNat_cond] at this
    split at this <;> omega
  · intro h
    have : c.toInt = (c.toBitVec.toNat : Int) := by rw [h3, BitVec.toInt_eq_toNat_cond, if_pos (by omega)]
    exact Lt8.of (by omega) (by omega)
theorem lat_xor {a : Int32} (ha : Lt8 a) (x : Int32) : Lt8 ((a ^^^ (x &&& 1)).toUInt32.toUInt16.toUInt32.toInt32) := by
  have h1 : (x &&& 1).toBitVec.toNat < 256 := by
    rw [Int32.toBitVec_and, BitVec.toNat_and]
    exact Nat.lt_of_le_of_lt Nat.and_le_right (by decide)
  have h2 : Lt8 (a ^^^ (x &&& 1)) := by
    rw [lt8_nat] at ha ⊢
    rw [Int32.toBitVec_xor, BitVec.toNat_xor]
    exact Nat.xor_lt_two_pow (n := 8) ha h1
  have h3 : (a ^^^ (x &&& 1)).toUInt32.toUInt16.toUInt32.toInt32 = a ^^^ (x &&& 1) := nar_lat h2
  rw [h3]; exact h2
theorem mask31_nat (x : Int32) : (x &&& 2147483647).toInt = ((x.toBitVec.toNat % 2147483648 : Nat) : Int) := by
  have h1 : (x &&& 2147483647).toBitVec.toNat = x.toBitVec.toNat % 2147483648 := by
    rw [Int32.toBitVec_and, BitVec.toNat_and]
    exact Nat.and_two_pow_sub_one_eq_mod _ 31
  have h3 : (x &&& 2147483647).toInt = (x &&& 2147483647).toBitVec.toInt := rfl
  rw [h3, BitVec.toInt_eq_toNat_cond, if_pos (by omega), h1]
theorem mask31 (x : Int32) : ¬ (x &&& 2147483647) < 0 := by
  rw [Int32.lt_iff_toInt_lt, mask31_nat, show (0 : Int32).toInt = 0 from rfl]; omega
theorem rem_int {x z : Int32} (hx : ¬ x < 0) (hz : 0 < z.toInt) : (x % z).toInt = x.toInt % z.toInt := by
  rw [Int32.lt_iff_toInt_lt, show (0 : Int32).toInt = 0 from rfl] at hx
  rw [Int32.toInt_mod, Int.tmod_eq_emod_of_nonneg (by omega)]
theorem mod3 {x : Int32} (hx : ¬ x < 0) : x % 3 = 0 ∨ x % 3 = 1 ∨ x % 3 = 2 := by
  have h := rem_int (z := 3) hx (by decide)
  rw [show (3 : Int32).toInt = 3 from rfl] at h
  have h2 : (x % 3).toInt = 0 ∨ (x % 3).toInt = 1 ∨ (x % 3).toInt = 2 := by omega
  rcases h2 with h2 | h2 | h2
  · exact Or.inl (Int32.toInt_inj.mp h2)
  · exact Or.inr (Or.inl (Int32.toInt_inj.mp h2))
  · exact Or.inr (Or.inr (Int32.toInt_inj.mp h2))
theorem mask3 (x : Int32) : x &&& 3 = 0 ∨ x &&& 3 = 1 ∨ x &&& 3 = 2 ∨ x &&& 3 = 3 := by
  have h1 : (x &&& 3).toBitVec.toNat = x.toBitVec.toNat % 4 := by
    rw [Int32.toBitVec_and, BitVec.toNat_and]
    exact Nat.and_two_pow_sub_one_eq_mod _ 2
  have h2 : (x &&& 3).toBitVec.toNat = 0 ∨ (x &&& 3).toBitVec.toNat = 1 ∨ (x &&& 3).toBitVec.toNat = 2 ∨ (x &&& 3).toBitVec.toNat = 3 := by omega
  rcases h2 with h2 | h2 | h2 | h2
  · exact Or.inl (Int32.toBitVec_inj.mp (BitVec.eq_of_toNat_eq h2))
  · exact Or.inr (Or.inl (Int32.toBitVec_inj.mp (BitVec.eq_of_toNat_eq h2)))
  · exact Or.inr (Or.inr (Or.inl (Int32.toBitVec_inj.mp (BitVec.eq_of_toNat_eq h2))))
  · exact Or.inr (Or.inr (Or.inr (Int32.toBitVec_inj.mp (BitVec.eq_of_toNat_eq h2))))
theorem ushr16 (x : Int32) : ¬ Jvm.Free.XT.ushr x 16 < 0 := by
  have h1 : (Jvm.Free.XT.ushr x 16).toBitVec.toNat < 65536 := by
    show (x.toUInt32 >>> ((16 : Int32) &&& 31).toUInt32).toNat < 65536
    rw [show ((16 : Int32) &&& 31).toUInt32 = 16 from by decide, UInt32.toNat_shiftRight, show (16 : UInt32).toNat % 32 = 16 from rfl, Nat.shiftRight_eq_div_pow]
    have := x.toUInt32.toNat_lt
    omega
  have h3 : (Jvm.Free.XT.ushr x 16).toInt = (Jvm.Free.XT.ushr x 16).toBitVec.toInt := rfl
  rw [Int32.lt_iff_toInt_lt, h3, BitVec.toInt_eq_toNat_cond, if_pos (by omega), show (0 : Int32).toInt = 0 from rfl]; omega
/-- a String of none, one or two of these chars -/
def sg (n a b : Int32) : List Int32 := if n = 0 then [] else if n = 1 then [a] else [a, b]
def In3 (n : Int32) : Prop := n = 0 ∨ n = 1 ∨ n = 2
theorem sg_iff {n z a b c d : Int32} (hn : In3 n) (hz : In3 z) : sg n a b = sg z c d ↔ (n = z ∧ (n < 1 ∨ a = c) ∧ (n < 2 ∨ b = d)) := by
  rcases hn with rfl | rfl | rfl <;> rcases hz with rfl | rfl | rfl <;> simp [sg]
theorem sg_lat {n a b : Int32} (ha : Lt8 a) (hb : Lt8 b) : ∀ c ∈ sg n a b, Lt8 c := by
  unfold sg; split
  · exact cs0
  · split
    · exact csS ha cs0
    · exact csS ha (csS hb cs0)
/-- x is a String of these Latin-1 chars -/
def Sg (Z : State) (h : Heap) (x : Addr) (cs : List Int32) : Prop := cs.length ≤ 4000 ∧ (∀ c ∈ cs, Lt8 c) ∧ Exa Z h x "java/lang/String" ∧ ∃ (t : Addr) (kb : ClassId), Fld Z h x "java/lang/String" "value" "[B" (.ref t) ∧ Fld Z h x "java/lang/String" "coder" "B" (.int 0) ∧ Arv Z h t kb .byte (Int32.ofNat cs.length) ((cs.map fun c => c.toInt8.toInt32).map Value.int) (.int 0)
theorem Sg.ext {h' : Heap} {x : Addr} {cs : List Int32} (F : Sg Z h x cs) (E : Ext h h') : Sg Z h' x cs := by obtain ⟨a, b, c, t, kb, d, e, f⟩ := F; exact ⟨a, b, c.ext E, t, kb, d.ext E, e.ext E, f.ext E⟩
theorem Sg.lt {x : Addr} {cs : List Int32} (F : Sg Z h x cs) : x < h.size := F.2.2.1.lt
theorem Sg.exa {x : Addr} {cs : List Int32} (F : Sg Z h x cs) : Exa Z h x "java/lang/String" := F.2.2.1
theorem Sg.keepO {h' : Heap} {x a : Addr} {cs : List Int32} {C : String} {kk : Nat} (F : Sg Z h x cs) (K : Keep h h' [a]) (q : x ≠ a) (E : Exa Z h a C) (wi : (Cond.instantiable C kk).before a0 Z = true) : Sg Z h' x cs := by
  obtain ⟨a, b, c, t, kb, d, e, f⟩ := F
  exact ⟨a, b, c.keep K, t, kb, d.keep K (not1 q), e.keep K (not1 q), f.keep K (not1 (Exa.neArv E f wi).symm)⟩
theorem Sg.ar {x : Addr} {cs : List Int32} (F : Sg Z h x cs) : ∃ t, Fld Z h x "java/lang/String" "value" "[B" (.ref t) ∧ Fld Z h x "java/lang/String" "coder" "B" (.int 0) ∧ Ar Z h t .byte ((cs.map fun c => c.toInt8.toInt32).map Value.int) := by
  obtain ⟨a, b, c, t, kb, d, e, f⟩ := F
  exact ⟨t, d, e, by simp; omega, kb, _, by simpa using f⟩
/-- compact strings are on -/
def Cpt (Z : State) : Prop := ∃ z : Int32, ¬ z = 0 ∧ Sta Z Z.heap "java/lang/String" "COMPACT_STRINGS" "Z" (.int z)
end K
end Jvm.Own
/- laws to paste: Road.backV (cut by pick.py; bodies as the Statement names them) -/
namespace Jvm.Pilot.@@N@@
namespace StrChars
open Jvm Sem ClassFile Op Lib Jvm.Stand Jvm.Free.XT Jvm.Free.ALB Jvm.Free.JM Jvm.Free
open Jvm.Lib.Cold (StaticIs)
/-- a char array whose places are chars -/
def Ch (a : Addr) (A : Cell) (U : State) : Prop := Arr .char a A U ∧ Typed .char A
theorem Ch.mv {a : Addr} {A : Cell} {U U' : State} (h : Ch a A U) (hal : U.vm.Alike U'.vm) (hh : U'.heap = U.heap) : Ch a A U' := ⟨h.1.mv hal hh, h.2⟩
theorem Ch.keep {a : Addr} {A : Cell} {U U' : State} (h : Ch a A U) (hal : U.vm.Alike U'.vm) (hk : U'.heap[a]? = some A) : Ch a A U' := ⟨h.1.keep hal hk, h.2⟩
/-- what place i of a char[]'s cell holds -/
def cv (A : Cell) (i : Nat) : Int32 := match A.slots[i]? with | some (.int x) => x | _ => 0
theorem Ch.get {a : Addr} {A : Cell} {U : State} (h : Ch a A U) {i : Nat} (hi : i < A.slots.size) : A.slots[i]? = some (.int (cv A i)) := by
  have e := Array.getElem?_eq_getElem hi
  have f := h.2 i _ e
  unfold cv; rw [e]
  generalize A.slots[i] = v at f
  cases v <;> simp [fits] at f ⊢
/-- the byte that i2b leaves of a char -/
def lo8 (x : Int32) : Int32 := x.toInt8.toInt32
theorem fits_lo8 (y : Int32) : fits .byte (.int (lo8 y)) = true := by
  have h1 := y.toInt8.le_toInt
  have h2 := y.toInt8.toInt_lt
  simp only [lo8, fits, Bool.and_eq_true, decide_eq_true_eq, Int32.le_iff_toInt_le, Int8.toInt_toInt32, show (-128 : Int32).toInt = -128 from by decide, show (127 : Int32).toInt = 127 from by decide]
  omega
/-- A' is A but that each place j of lo .. hi - 1 holds f j -/
def Laid (A A' : Cell) (lo hi : Nat) (f : Nat → Value) : Prop := A'.cls = A.cls ∧ A'.vm = A.vm ∧ A'.slots.size = A.slots.size ∧ ∀ i, A'.slots[i]? = if lo ≤ i ∧ i < hi then some (f i) else A.slots[i]?
theorem Laid.zero (A : Cell) (lo : Nat) (f : Nat → Value) : Laid A A lo (lo + 0) f := ⟨rfl, rfl, rfl, fun i => by rw [if_neg (by omega)]⟩
theorem Laid.step {A Ak : Cell} {lo k : Nat} {f : Nat → Value} {v : Value} (h : Laid A Ak lo k f) (hlo : lo ≤ k) (hk : k < Ak.slots.size) (hv : v = f k) : Laid A (Ak.setSlot k v) lo (k + 1) f := by
  refine ⟨h.1, h.2.1, by simpa [Cell.setSlot] using h.2.2.1, fun i => ?_⟩
  by_cases e : k = i
  · subst e; rw [Cell.slots_setSlot_self v hk, if_pos (by omega), hv]
  · rw [Cell.slots_setSlot_ne v e, h.2.2.2 i]
    by_cases q : lo ≤ i ∧ i < k
    · rw [if_pos q, if_pos (by omega)]
    · rw [if_neg q, if_neg (by omega)]
def U16 : String := "java/lang/StringUTF16"
namespace Cmp5
def yN : MethodName := ⟨"java/lang/StringUTF16", "compress", "([CI[BII)I"⟩
abbrev yB : ByteArray := jdk_52_method_21_code
theorem d0 : decode yB 0 = .ok (.iconst 0, 1) := by decide +kernel
theorem d1 : decode yB 1 = .ok (.istore 5, 2) := by decide +kernel
theorem d3 : decode yB 3 = .ok (.iload 5, 2) := by decide +kernel
theorem d5 : decode yB 5 = .ok (.iload 4, 2) := by decide +kernel
theorem d7 : decode yB 7 = .ok (.if_icmp (.ge) 37, 3) := by decide +kernel
theorem d10 : decode yB 10 = .ok (.aload_n 0, 1) := by decide +kernel
theorem d11 : decode yB 11 = .ok (.iload_n 1, 1) := by decide +kernel
theorem d12 : decode yB 12 = .ok (.caload, 1) := by decide +kernel
theorem d13 : decode yB 13 = .ok (.istore 6, 2) := by decide +kernel
theorem d15 : decode yB 15 = .ok (.iload 6, 2) := by decide +kernel
theorem d17 : decode yB 17 = .ok (.sipush 255, 3) := by decide +kernel
theorem d20 : decode yB 20 = .ok (.if_icmp (.le) 6, 3) := by decide +kernel
theorem d26 : decode yB 26 = .ok (.aload_n 2, 1) := by decide +kernel
theorem d27 : decode yB 27 = .ok (.iload_n 3, 1) := by decide +kernel
theorem d28 : decode yB 28 = .ok (.iload 6, 2) := by decide +kernel
theorem d30 : decode yB 30 = .ok (.i2b, 1) := by decide +kernel
theorem d31 : decode yB 31 = .ok (.bastore, 1) := by decide +kernel
theorem d32 : decode yB 32 = .ok (.iinc 1 1, 3) := by decide +kernel
theorem d35 : decode yB 35 = .ok (.iinc 3 1, 3) := by decide +kernel
theorem d38 : decode yB 38 = .ok (.iinc 5 1, 3) := by decide +kernel
theorem d41 : decode yB 41 = .ok (.goto (-38), 3) := by decide +kernel
theorem d44 : decode yB 44 = .ok (.iload 4, 2) := by decide +kernel
theorem d46 : decode yB 46 = .ok (.ireturn, 1) := by decide +kernel
def site : List Cond := []
def tab : Cond := tabOf yN yB 7 (some .int) site
def P (b : Addr) (A : Cell) (d : Addr) (B : Cell) (o q len : Nat) (args : Array Value) (s : State) : Prop := args = #[.ref b, .int (Int32.ofNat o), .ref d, .int (Int32.ofNat q), .int (Int32.ofNat len)] ∧ Ch b A s ∧ Arr .byte d B s ∧ b ≠ d ∧ o + len ≤ A.slots.size ∧ q + len ≤ B.slots.size ∧ ∀ i, i < len → ¬ 255 < cv A (o + i)
def E (b : Addr) (A : Cell) (d : Addr) (B : Cell) (o q len : Nat) (r : Option Value) (s u : State) : Prop := r = some (.int (Int32.ofNat len)) ∧ ∃ B', Put d B' s u ∧ Laid B B' q (q + len) (fun j => Value.int (lo8 (cv A (o + (j - q)))))
/-- no char of the range above 255: len; the places written hold each char's low byte -/
theorem law (l : Launch) (b : Addr) (A : Cell) (d : Addr) (B : Cell) (o q len : Nat) : Law l yN 5 5 0 0 yB 7 (some .int) site (P b A d B o q len) (E b A d B o q len) (copyLocs d q len) 0 0 := by
  refine Law.of_walk (plainFor_of_name (by decide +kernel)) (by decide +kernel) (by decide +kernel) (by decide) (fun _ _ h => by rw [h.1]; rfl) (fun _ U U' hal hh h => ⟨h.1, h.2.1.mv hal hh, h.2.2.1.mv hal hh, h.2.2.2⟩) (fun r U U' V V' h1 hal h2 h => ⟨h.1, h.2.elim fun B' q => ⟨B', q.1.mv h1 h2, q.2⟩⟩) ?_
  intro p e s m args below meth c s₁ X0 hexec hbytes hml hret hlk hnm hown hh0 W hP
  obtain ⟨rfl, hA, hB, hne, l1, l2, hp⟩ := hP
  have c1 : Steps p.tables e below (s₁.setTop (entryFrame m #[.ref b, .int (Int32.ofNat o), .ref d, .int (Int32.ofNat q), .int (Int32.ofNat len)] 7)) (s₁.setTop (mkF m 0 #[.val (.ref b), .val (.int (Int32.ofNat o)), .val (.ref d), .val (.int (Int32.ofNat q)), .val (.int (Int32.ofNat len)), .unset, .unset] [])) := entry rfl
  have hA0 := hA.1.mv X0.warmed.alike hh0
  have hB0 := hB.mv X0.warmed.alike hh0
  have a31 := hA.1.2.2.2
  have c2 : Steps p.tables e below (s₁.setTop (entryFrame m #[.ref b, .int (Int32.ofNat o), .ref d, .int (Int32.ofNat q), .int (Int32.ofNat len)] 7)) (s₁.setTop (mkF m 3 #[.val (.ref b), .val (.int (Int32.ofNat o)), .val (.ref d), .val (.int (Int32.ofNat q)), .val (.int (Int32.ofNat len)), .val (.int 0), .unset] [])) := c1.trans (by
    refine iconstV X0.here hexec rfl 0 (hb hbytes d0) (by decide) ?_
    refine XS.istore X0.here hexec rfl (hb hbytes d1) rfl rfl ?_
    exact Steps.refl _)
  have loop : ∀ (r i : Nat), i + r = len → ∀ (z : Slot), (z = .unset ∨ ∃ w, z = .val w ∧ w.category = 1) → ∀ (Tl : State) (Bk : Cell), Stand p l e { frames := 0, locals := 0, cells := 0, slots := 0 } s m #[.ref b, .int (Int32.ofNat o), .ref d, .int (Int32.ofNat q), .int (Int32.ofNat len)] below meth c Tl ([] ++ copyLocs d q i) 0 0 → Put d Bk s₁ Tl → Laid B Bk q (q + i) (fun j => Value.int (lo8 (cv A (o + (j - q))))) →
      Steps p.tables e below (s₁.setTop (entryFrame m #[.ref b, .int (Int32.ofNat o), .ref d, .int (Int32.ofNat q), .int (Int32.ofNat len)] 7)) (Tl.setTop (mkF m 3 #[.val (.ref b), .val (.int (Int32.ofNat (o + i))), .val (.ref d), .val (.int (Int32.ofNat (q + i))), .val (.int (Int32.ofNat len)), .val (.int (Int32.ofNat i)), z] [])) → ∃ (T' : State) (B' : Cell) (z' : Slot), Stand p l e { frames := 0, locals := 0, cells := 0, slots := 0 } s m #[.ref b, .int (Int32.ofNat o), .ref d, .int (Int32.ofNat q), .int (Int32.ofNat len)] below meth c T' ([] ++ copyLocs d q len) 0 0 ∧ Put d B' s₁ T' ∧ Laid B B' q (q + len) (fun j => Value.int (lo8 (cv A (o + (j - q))))) ∧
      Steps p.tables e below (s₁.setTop (entryFrame m #[.ref b, .int (Int32.ofNat o), .ref d, .int (Int32.ofNat q), .int (Int32.ofNat len)] 7)) (T'.setTop (mkF m 3 #[.val (.ref b), .val (.int (Int32.ofNat (o + len))), .val (.ref d), .val (.int (Int32.ofNat (q + len))), .val (.int (Int32.ofNat len)), .val (.int (Int32.ofNat len)), z'] [])) := by
    intro r
    induction r with
    | zero =>
      intro i hi z hz Tl Bk Xl pl fl cl
      have hil : i = len := by omega
      rw [hil] at Xl fl cl
      exact ⟨Tl, Bk, z, Xl, pl, fl, cl⟩
    | succ r ih =>
      intro i hi z hz Tl Bk Xl pl fl cl
      have all := X0.warmed.alike.symm.trans Xl.warmed.alike
      have hAl := hA0.keep all (pl.other hne hA0.1)
      have hBk := hB0.like all pl.1 fl.1 fl.2.1 fl.2.2.1
      have hlt : q + i < Bk.slots.size := by rw [fl.2.2.1]; omega
      have c3 : Steps p.tables e below (s₁.setTop (entryFrame m #[.ref b, .int (Int32.ofNat o), .ref d, .int (Int32.ofNat q), .int (Int32.ofNat len)] 7)) (Tl.setTop (mkF m 12 #[.val (.ref b), .val (.int (Int32.ofNat (o + i))), .val (.ref d), .val (.int (Int32.ofNat (q + i))), .val (.int (Int32.ofNat len)), .val (.int (Int32.ofNat i)), z] [.int (Int32.ofNat (o + i)), .ref b])) := cl.trans (by
        refine XS.iload Xl.here hexec rfl (hb hbytes d3) rfl ?_
        refine XS.iload Xl.here hexec rfl (hb hbytes d5) rfl ?_
        refine XS.icmpNo Xl.here hexec rfl (hb hbytes d7) rfl (ii_ge_f (lt32 (by omega) (by omega))) ?_
        refine XS.aloadN Xl.here hexec rfl (hb hbytes d10) rfl rfl ?_
        refine XS.iloadN Xl.here hexec rfl (hb hbytes d11) rfl ?_
        exact Steps.refl _)
      have c4 : Steps p.tables e below (s₁.setTop (entryFrame m #[.ref b, .int (Int32.ofNat o), .ref d, .int (Int32.ofNat q), .int (Int32.ofNat len)] 7)) (Tl.setTop (mkF m 13 #[.val (.ref b), .val (.int (Int32.ofNat (o + i))), .val (.ref d), .val (.int (Int32.ofNat (q + i))), .val (.int (Int32.ofNat len)), .val (.int (Int32.ofNat i)), z] [.int (cv A (o + i))])) := c3.trans (by
        refine Xl.aget hexec hAl rfl (hA.get (i := o + i) (by omega)) rfl rfl (hb hbytes d12) ?_
        exact Steps.refl _)
      have c5 : Steps p.tables e below (s₁.setTop (entryFrame m #[.ref b, .int (Int32.ofNat o), .ref d, .int (Int32.ofNat q), .int (Int32.ofNat len)] 7)) (Tl.setTop (mkF m 15 #[.val (.ref b), .val (.int (Int32.ofNat (o + i))), .val (.ref d), .val (.int (Int32.ofNat (q + i))), .val (.int (Int32.ofNat len)), .val (.int (Int32.ofNat i)), .val (.int (cv A (o + i)))] [])) := c4.trans (by
        refine XS.istoreS Xl.here hexec rfl (hb hbytes d13) rfl rfl hz ?_
        exact Steps.refl _)
      have c6 : Steps p.tables e below (s₁.setTop (entryFrame m #[.ref b, .int (Int32.ofNat o), .ref d, .int (Int32.ofNat q), .int (Int32.ofNat len)] 7)) (Tl.setTop (mkF m 31 #[.val (.ref b), .val (.int (Int32.ofNat (o + i))), .val (.ref d), .val (.int (Int32.ofNat (q + i))), .val (.int (Int32.ofNat len)), .val (.int (Int32.ofNat i)), .val (.int (cv A (o + i)))] [.int (lo8 (cv A (o + i))), .int (Int32.ofNat (q + i)), .ref d])) := c5.trans (by
        refine XS.iload Xl.here hexec rfl (hb hbytes d15) rfl ?_
        refine sipushV Xl.here hexec rfl 255 (hb hbytes d17) (by decide) ?_
        refine XS.icmpYes Xl.here hexec rfl (pc0 := 20) rfl (hb hbytes d20) rfl (ii_le_t (hp i (by omega))) (by decide) rfl ?_
        refine XS.aloadN Xl.here hexec rfl (hb hbytes d26) rfl rfl ?_
        refine XS.iloadN Xl.here hexec rfl (hb hbytes d27) rfl ?_
        refine XS.iload Xl.here hexec rfl (hb hbytes d28) rfl ?_
        refine i2b Xl.here hexec rfl (hb hbytes d30) rfl ?_
        exact Steps.refl _)
      obtain ⟨T7, X7, p7, st7⟩ := Xl.aput hexec hBk rfl hlt rfl (fits_lo8 (cv A (o + i))) (g := (mkF m 31 #[.val (.ref b), .val (.int (Int32.ofNat (o + i))), .val (.ref d), .val (.int (Int32.ofNat (q + i))), .val (.int (Int32.ofNat len)), .val (.int (Int32.ofNat i)), .val (.int (cv A (o + i)))] [.int (lo8 (cv A (o + i))), .int (Int32.ofNat (q + i)), .ref d])) rfl (rest := []) rfl (hb hbytes d31)
      have c8 : Steps p.tables e below (s₁.setTop (entryFrame m #[.ref b, .int (Int32.ofNat o), .ref d, .int (Int32.ofNat q), .int (Int32.ofNat len)] 7)) (T7.setTop (mkF m 32 #[.val (.ref b), .val (.int (Int32.ofNat (o + i))), .val (.ref d), .val (.int (Int32.ofNat (q + i))), .val (.int (Int32.ofNat len)), .val (.int (Int32.ofNat i)), .val (.int (cv A (o + i)))] [])) := c6.trans (st7 _ (Steps.refl _))
      have c9 : Steps p.tables e below (s₁.setTop (entryFrame m #[.ref b, .int (Int32.ofNat o), .ref d, .int (Int32.ofNat q), .int (Int32.ofNat len)] 7)) (T7.setTop (mkF m 3 #[.val (.ref b), .val (.int (Int32.ofNat (o + i) + 1)), .val (.ref d), .val (.int (Int32.ofNat (q + i) + 1)), .val (.int (Int32.ofNat len)), .val (.int (Int32.ofNat i + 1)), .val (.int (cv A (o + i)))] [])) := c8.trans (by
        refine iincV X7.here hexec rfl 1 (hb hbytes d32) (by decide) rfl rfl ?_
        refine iincV X7.here hexec rfl 1 (hb hbytes d35) (by decide) rfl rfl ?_
        refine iincV X7.here hexec rfl 1 (hb hbytes d38) (by decide) rfl rfl ?_
        refine XS.goto X7.here hexec rfl (pc0 := 41) rfl (hb hbytes d41) (by decide) rfl ?_
        exact Steps.refl _)
      have c10 : Steps p.tables e below (s₁.setTop (entryFrame m #[.ref b, .int (Int32.ofNat o), .ref d, .int (Int32.ofNat q), .int (Int32.ofNat len)] 7)) (T7.setTop (mkF m 3 #[.val (.ref b), .val (.int (Int32.ofNat (o + (i + 1)))), .val (.ref d), .val (.int (Int32.ofNat (q + (i + 1)))), .val (.int (Int32.ofNat len)), .val (.int (Int32.ofNat (i + 1))), .val (.int (cv A (o + i)))] [])) := by
        have := c9
        rw [succ32, succ32, succ32] at this
        exact this
      exact ih (i + 1) (by omega) _ (Or.inr ⟨_, rfl, rfl⟩) T7 _ (by rw [copyLocs_step, ← List.append_assoc]; exact X7) (pl.trans p7) (fl.step (by omega) hlt (by simp)) c10
  obtain ⟨T9, B9, z9, X9, p9, f9, g9⟩ := loop len 0 (by omega) .unset (Or.inl rfl) s₁ B (by simpa [copyLocs] using X0) ⟨hB0.1, fun _ _ => rfl, rfl⟩ (Laid.zero _ _ _) c2
  have c11 : Steps p.tables e below (s₁.setTop (entryFrame m #[.ref b, .int (Int32.ofNat o), .ref d, .int (Int32.ofNat q), .int (Int32.ofNat len)] 7)) (T9.setTop (mkF m 46 #[.val (.ref b), .val (.int (Int32.ofNat (o + len))), .val (.ref d), .val (.int (Int32.ofNat (q + len))), .val (.int (Int32.ofNat len)), .val (.int (Int32.ofNat len)), z9] [.int (Int32.ofNat len)])) := g9.trans (by
    refine XS.iload X9.here hexec rfl (hb hbytes d3) rfl ?_
    refine XS.iload X9.here hexec rfl (hb hbytes d5) rfl ?_
    refine XS.icmpYes X9.here hexec rfl (pc0 := 7) rfl (hb hbytes d7) rfl (ii_ge_t (nlt32 (by omega) (Nat.le_refl _))) (by decide) rfl ?_
    refine XS.iload X9.here hexec rfl (hb hbytes d44) rfl ?_
    exact Steps.refl _)
  exact ⟨T9, some (.int (Int32.ofNat len)), _, _, _, X9, by simp, rfl, rfl, (fun h => by cases h), ⟨rfl, B9, p9.from hh0, f9⟩, fun fs hl => c11.trans (X9.ireturnOut hexec hret rfl (Or.inl rfl) (hb hbytes d46) hl)⟩
end Cmp5
namespace Cmp3
def yN : MethodName := ⟨"java/lang/StringUTF16", "compress", "([CII)[B"⟩
abbrev yB : ByteArray := jdk_52_method_16_code
theorem d0 : decode yB 0 = .ok (.iload_n 2, 1) := by decide +kernel
theorem d1 : decode yB 1 = .ok (.newarray .byte, 2) := by decide +kernel
theorem d3 : decode yB 3 = .ok (.astore_n 3, 1) := by decide +kernel
theorem d4 : decode yB 4 = .ok (.aload_n 0, 1) := by decide +kernel
theorem d5 : decode yB 5 = .ok (.iload_n 1, 1) := by decide +kernel
theorem d6 : decode yB 6 = .ok (.aload_n 3, 1) := by decide +kernel
theorem d7 : decode yB 7 = .ok (.iconst 0, 1) := by decide +kernel
theorem d8 : decode yB 8 = .ok (.iload_n 2, 1) := by decide +kernel
theorem d9 : decode yB 9 = .ok (.invokestatic 115, 3) := by decide +kernel
theorem d12 : decode yB 12 = .ok (.istore 4, 2) := by decide +kernel
theorem d14 : decode yB 14 = .ok (.iload 4, 2) := by decide +kernel
theorem d16 : decode yB 16 = .ok (.iload_n 2, 1) := by decide +kernel
theorem d17 : decode yB 17 = .ok (.if_icmp (.eq) 40, 3) := by decide +kernel
theorem d57 : decode yB 57 = .ok (.aload_n 3, 1) := by decide +kernel
theorem d58 : decode yB 58 = .ok (.areturn, 1) := by decide +kernel
def site : List Cond := [.arrayClass .byte, Cmp5.tab] ++ staticW U16 115 Cmp5.yN
def tab : Cond := tabOf yN yB 6 (some (.array .byte)) site
def P (b : Addr) (A : Cell) (o len : Nat) (args : Array Value) (s : State) : Prop := args = #[.ref b, .int (Int32.ofNat o), .int (Int32.ofNat len)] ∧ Ch b A s ∧ o + len ≤ A.slots.size ∧ len ≤ 536870912 ∧ ∀ i, i < len → ¬ 255 < cv A (o + i)
def E (b : Addr) (A : Cell) (o len : Nat) (r : Option Value) (s u : State) : Prop := NewArr .byte "[B" len (fun j => .int (lo8 (cv A (o + j)))) r s u ∧ u.heap.size = s.heap.size + 1
/-- no char of the range above 255: a new byte[] of their low bytes -/
theorem law (l : Launch) (b : Addr) (A : Cell) (o len : Nat) : Law l yN 3 3 1 18 yB 6 (some (.array .byte)) site (P b A o len) (E b A o len) [] 1 len := by
  refine Law.of_walk (plainFor_of_name (by decide +kernel)) (by decide +kernel) (by decide +kernel) (by decide) (fun _ _ h => by rw [h.1]; rfl) (fun _ U U' hal hh h => ⟨h.1, h.2.1.mv hal hh, h.2.2⟩) (fun r U U' V V' h1 hal h2 h => ⟨NewArr.mv r U U' V V' h1 hal h2 h.1, by rw [h1, h2]; exact h.2⟩) ?_
  intro p e s m args below meth c s₁ X0 hexec hbytes hml hret hlk hnm hown hh0 W hP
  obtain ⟨rfl, hA, l1, l2, hp⟩ := hP
  have a31 := hA.1.2.2.2
  have c1 : Steps p.tables e below (s₁.setTop (entryFrame m #[.ref b, .int (Int32.ofNat o), .int (Int32.ofNat len)] 6)) (s₁.setTop (mkF m 0 #[.val (.ref b), .val (.int (Int32.ofNat o)), .val (.int (Int32.ofNat len)), .unset, .unset, .unset] [])) := entry rfl
  have c2 : Steps p.tables e below (s₁.setTop (entryFrame m #[.ref b, .int (Int32.ofNat o), .int (Int32.ofNat len)] 6)) (s₁.setTop (mkF m 1 #[.val (.ref b), .val (.int (Int32.ofNat o)), .val (.int (Int32.ofNat len)), .unset, .unset, .unset] [.int (Int32.ofNat len)])) := c1.trans (by
    refine XS.iloadN X0.here hexec rfl (hb hbytes d0) rfl ?_
    exact Steps.refl _)
  obtain ⟨T3, B3, X3, ba3, bs3, bv3, bh3, bf3, st3⟩ := X0.anew hexec (atype := .byte) (wk W (.arrayClass .byte)) rfl (by show len * 1 ≤ _; omega) (by omega) (g := (mkF m 1 #[.val (.ref b), .val (.int (Int32.ofNat o)), .val (.int (Int32.ofNat len)), .unset, .unset, .unset] [.int (Int32.ofNat len)])) rfl (hb hbytes d1) (rest := []) rfl (Nat.le_refl _) (by show 0 + len ≤ len; omega)
  rw [hh0] at ba3 st3
  have kp3 : XT.Kept s T3 := (XT.Kept.of_eq hh0).push bh3
  have hA3 := hA.keep X3.warmed.alike (kp3 _ _ hA.1.1)
  have hne : b ≠ s.heap.size := hA.1.ne
  have c4 : Steps p.tables e below (s₁.setTop (entryFrame m #[.ref b, .int (Int32.ofNat o), .int (Int32.ofNat len)] 6)) (T3.setTop (mkF m 3 #[.val (.ref b), .val (.int (Int32.ofNat o)), .val (.int (Int32.ofNat len)), .unset, .unset, .unset] [.ref s.heap.size])) := c2.trans (st3 _ (Steps.refl _))
  have c5 : Steps p.tables e below (s₁.setTop (entryFrame m #[.ref b, .int (Int32.ofNat o), .int (Int32.ofNat len)] 6)) (T3.setTop (mkF m 9 #[.val (.ref b), .val (.int (Int32.ofNat o)), .val (.int (Int32.ofNat len)), .val (.ref s.heap.size), .unset, .unset] [.int (Int32.ofNat len), .int 0, .ref s.heap.size, .int (Int32.ofNat o), .ref b])) := c4.trans (by
    refine XS.astoreN X3.here hexec rfl (hb hbytes d3) rfl rfl rfl ?_
    refine XS.aloadN X3.here hexec rfl (hb hbytes d4) rfl rfl ?_
    refine XS.iloadN X3.here hexec rfl (hb hbytes d5) rfl ?_
    refine XS.aloadN X3.here hexec rfl (hb hbytes d6) rfl rfl ?_
    refine iconstV X3.here hexec rfl 0 (hb hbytes d7) (by decide) ?_
    refine XS.iloadN X3.here hexec rfl (hb hbytes d8) rfl ?_
    exact Steps.refl _)
  obtain ⟨v6, T6, X6, E6, g6⟩ := X3.callS hexec (Cmp5.law l b A s.heap.size B3 o 0 len) hown (wks W (staticW U16 115 Cmp5.yN)) (wk W Cmp5.tab) (W := 0) (Nat.le_of_ble_eq_true rfl) (Nat.le_of_ble_eq_true rfl) (Nat.le_refl _) (by show 0 + len + 0 ≤ len; omega) (g := (mkF m 9 #[.val (.ref b), .val (.int (Int32.ofNat o)), .val (.int (Int32.ofNat len)), .val (.ref s.heap.size), .unset, .unset] [.int (Int32.ofNat len), .int (Int32.ofNat 0), .ref s.heap.size, .int (Int32.ofNat o), .ref b])) rfl (by rw [hml]; rfl) c5 (argsL := [.ref b, .int (Int32.ofNat o), .ref s.heap.size, .int (Int32.ofNat 0), .int (Int32.ofNat len)]) (rest := []) rfl rfl (by show 2 * 0 + 0 ≤ _; decide) (hb hbytes d9) (⟨rfl, hA3, ba3, hne, l1, by rw [bs3]; simp, hp⟩)
  obtain ⟨rfl, B6, p6, f6⟩ := E6
  have c7 : Steps p.tables e below (s₁.setTop (entryFrame m #[.ref b, .int (Int32.ofNat o), .int (Int32.ofNat len)] 6)) (T6.setTop (mkF m 12 #[.val (.ref b), .val (.int (Int32.ofNat o)), .val (.int (Int32.ofNat len)), .val (.ref s.heap.size), .unset, .unset] [.int (Int32.ofNat len)])) := g6
  have c8 : Steps p.tables e below (s₁.setTop (entryFrame m #[.ref b, .int (Int32.ofNat o), .int (Int32.ofNat len)] 6)) (T6.setTop (mkF m 58 #[.val (.ref b), .val (.int (Int32.ofNat o)), .val (.int (Int32.ofNat len)), .val (.ref s.heap.size), .val (.int (Int32.ofNat len)), .unset] [.ref s.heap.size])) := c7.trans (by
    refine XS.istore X6.here hexec rfl (hb hbytes d12) rfl rfl ?_
    refine XS.iload X6.here hexec rfl (hb hbytes d14) rfl ?_
    refine XS.iloadN X6.here hexec rfl (hb hbytes d16) rfl ?_
    refine XS.icmpYes X6.here hexec rfl (pc0 := 17) rfl (hb hbytes d17) rfl (ii_eq_t rfl) (by decide) rfl ?_
    refine XS.aloadN X6.here hexec rfl (hb hbytes d57) rfl rfl ?_
    exact Steps.refl _)
  have X8 := X6.wide (L' := []) (cells' := 1) (slots' := len) (fun x hx hlt => by
    simp only [List.nil_append, copyLocs, List.mem_map, List.mem_range] at hx
    obtain ⟨i, -, rfl⟩ := hx
    exact absurd hlt (Nat.lt_irrefl _)) (Nat.le_refl _) (by omega)
  exact ⟨T6, some (.ref s.heap.size), _, _, _, X8, rfl, rfl, rfl, (fun h => by cases h), ⟨⟨rfl, B6, ba3.like (X3.warmed.alike.symm.trans X6.warmed.alike) p6.1 f6.1 f6.2.1 f6.2.2.1, f6.2.1.trans bv3, by rw [X6.warmed.alike.findClass, f6.1]; exact bf3, by rw [f6.2.2.1, bs3]; simp, fun j hj => by rw [f6.2.2.2 j, if_pos (by omega)]; rfl, kp3.put p6 (Nat.le_refl _)⟩, by rw [p6.2.2, bh3, hh0]; simp⟩, fun fs hl => c8.trans (X8.areturnOut hexec rfl hret rfl (hb hbytes d58) hl)⟩
end Cmp3
namespace CodL
def yN : MethodName := ⟨"java/lang/StringUTF16", "coderFromArrayLen", "([BI)B"⟩
abbrev yB : ByteArray := jdk_52_method_15_code
theorem d0 : decode yB 0 = .ok (.iload_n 1, 1) := by decide +kernel
theorem d1 : decode yB 1 = .ok (.aload_n 0, 1) := by decide +kernel
theorem d2 : decode yB 2 = .ok (.arraylength, 1) := by decide +kernel
theorem d3 : decode yB 3 = .ok (.isub, 1) := by decide +kernel
theorem d4 : decode yB 4 = .ok (.bipush 31, 2) := by decide +kernel
theorem d6 : decode yB 6 = .ok (.iushr, 1) := by decide +kernel
theorem d7 : decode yB 7 = .ok (.i2b, 1) := by decide +kernel
theorem d8 : decode yB 8 = .ok (.ireturn, 1) := by decide +kernel
def site : List Cond := []
def tab : Cond := tabOf yN yB 2 (some .byte) site
def P (d : Addr) (B : Cell) (args : Array Value) (s : State) : Prop := args = #[.ref d, .int (Int32.ofNat B.slots.size)] ∧ Arr .byte d B s
def E (r : Option Value) (s u : State) : Prop := XT.PureE (some (.int 0)) r s u
/-- an array as long as the number of chars: LATIN1 -/
theorem law (l : Launch) (d : Addr) (B : Cell) : Law l yN 2 2 0 0 yB 2 (some .byte) site (P d B) E [] 0 0 := by
  refine Law.of_walk (plainFor_of_name (by decide +kernel)) (by decide +kernel) (by decide +kernel) (by decide) (fun _ _ h => by rw [h.1]; rfl) (fun _ U U' hal hh h => ⟨h.1, h.2.mv hal hh⟩) (fun r U U' V V' h1 hal h2 h => XT.PureE.mv r U U' V V' h1 hal h2 h) ?_
  intro p e s m args below meth c s₁ X0 hexec hbytes hml hret hlk hnm hown hh0 W hP
  obtain ⟨rfl, hB⟩ := hP
  have hB0 := hB.mv X0.warmed.alike hh0
  have c1 : Steps p.tables e below (s₁.setTop (entryFrame m #[.ref d, .int (Int32.ofNat B.slots.size)] 2)) (s₁.setTop (mkF m 0 #[.val (.ref d), .val (.int (Int32.ofNat B.slots.size))] [])) := entry rfl
  have c2 : Steps p.tables e below (s₁.setTop (entryFrame m #[.ref d, .int (Int32.ofNat B.slots.size)] 2)) (s₁.setTop (mkF m 2 #[.val (.ref d), .val (.int (Int32.ofNat B.slots.size))] [.ref d, .int (Int32.ofNat B.slots.size)])) := c1.trans (by
    refine XS.iloadN X0.here hexec rfl (hb hbytes d0) rfl ?_
    refine XS.aloadN X0.here hexec rfl (hb hbytes d1) rfl rfl ?_
    exact Steps.refl _)
  have c3 : Steps p.tables e below (s₁.setTop (entryFrame m #[.ref d, .int (Int32.ofNat B.slots.size)] 2)) (s₁.setTop (mkF m 8 #[.val (.ref d), .val (.int (Int32.ofNat B.slots.size))] [.int (lo8 (ushr (Int32.ofNat B.slots.size - Int32.ofNat B.slots.size) 31))])) := c2.trans (by
    refine X0.alen hexec hB0 rfl rfl (hb hbytes d2) ?_
    refine XS.isub X0.here hexec rfl (hb hbytes d3) rfl ?_
    refine bipushV X0.here hexec rfl 31 (hb hbytes d4) (by decide) ?_
    refine iushr X0.here hexec rfl (hb hbytes d6) rfl ?_
    refine i2b X0.here hexec rfl (hb hbytes d7) rfl ?_
    exact Steps.refl _)
  have e0 : lo8 (ushr (Int32.ofNat B.slots.size - Int32.ofNat B.slots.size) 31) = 0 := by rw [Int32.sub_self]; decide
  rw [e0] at c3
  exact ⟨s₁, some (.int 0), _, _, _, X0, rfl, rfl, rfl, (fun h => by cases h), ⟨rfl, hh0⟩, fun fs hl => c3.trans (X0.ireturnOut hexec hret rfl (Or.inr (Or.inr (Or.inl rfl))) (hb hbytes d8) hl)⟩
end CodL
/-- the String at a is Latin-1 over a new byte[] (the heap's one new cell): the low bytes of the len chars of A from o on; every cell but a is kept -/
def Got (a : Addr) (D : Cell) (fV fC : Field) (A : Cell) (o len : Nat) (r : Option Value) (s u : State) : Prop := r = none ∧ ∃ D' V : Cell, Blank "java/lang/String" a D' u ∧ Same D D' [fV.slot, fC.slot] ∧ D'.slots[fV.slot]? = some (.ref s.heap.size) ∧ D'.slots[fC.slot]? = some (.int 0) ∧ Arr .byte s.heap.size V u ∧ V.vm = .none ∧ u.vm.findClass "[B" = some V.cls ∧ V.slots.size = len ∧ (∀ j, j < len → V.slots[j]? = some (.int (lo8 (cv A (o + j))))) ∧ (∀ (y : Addr) (c : Cell), y ≠ a → s.heap[y]? = some c → u.heap[y]? = some c) ∧ u.heap.size = s.heap.size + 1
theorem Got.mv {a : Addr} {D A : Cell} {fV fC : Field} {o len : Nat} : ∀ r (U U' V V' : State), U'.heap = U.heap → V.vm.Alike V'.vm → V'.heap = V.heap → Got a D fV fC A o len r U V → Got a D fV fC A o len r U' V' :=
  fun r U U' V V' h1 hal h2 ⟨e0, D', X, a1, a2, a3, a4, a5, a6, a7, a8, a9, a10, a11⟩ => ⟨e0, D', X, a1.mv hal h2, a2, by rw [h1]; exact a3, a4, by rw [h1]; exact a5.mv hal h2, a6, by rw [hal.findClass]; exact a7, a8, a9, by rw [h1, h2]; exact a10, by rw [h1, h2]; exact a11⟩
namespace New4
def yN : MethodName := ⟨"java/lang/String", "<init>", "([CIILjava/lang/Void;)V"⟩
abbrev yB : ByteArray := jdk_42_method_149_code
theorem d0 : decode yB 0 = .ok (.aload_n 0, 1) := by decide +kernel
theorem d1 : decode yB 1 = .ok (.invokespecial 1, 3) := by decide +kernel
theorem d4 : decode yB 4 = .ok (.iload_n 3, 1) := by decide +kernel
theorem d5 : decode yB 5 = .ok (.ifCond (.ne) 22, 3) := by decide +kernel
theorem d27 : decode yB 27 = .ok (.getstatic 38, 3) := by decide +kernel
theorem d30 : decode yB 30 = .ok (.ifCond (.eq) 28, 3) := by decide +kernel
theorem d33 : decode yB 33 = .ok (.aload_n 1, 1) := by decide +kernel
theorem d34 : decode yB 34 = .ok (.iload_n 2, 1) := by decide +kernel
theorem d35 : decode yB 35 = .ok (.iload_n 3, 1) := by decide +kernel
theorem d36 : decode yB 36 = .ok (.invokestatic 177, 3) := by decide +kernel
theorem d39 : decode yB 39 = .ok (.astore 5, 2) := by decide +kernel
theorem d41 : decode yB 41 = .ok (.aload_n 0, 1) := by decide +kernel
theorem d42 : decode yB 42 = .ok (.aload 5, 2) := by decide +kernel
theorem d44 : decode yB 44 = .ok (.iload_n 3, 1) := by decide +kernel
theorem d45 : decode yB 45 = .ok (.invokestatic 47, 3) := by decide +kernel
theorem d48 : decode yB 48 = .ok (.putfield 15, 3) := by decide +kernel
theorem d51 : decode yB 51 = .ok (.aload_n 0, 1) := by decide +kernel
theorem d52 : decode yB 52 = .ok (.aload 5, 2) := by decide +kernel
theorem d54 : decode yB 54 = .ok (.putfield 9, 3) := by decide +kernel
theorem d57 : decode yB 57 = .ok (.return_, 1) := by decide +kernel
def site : List Cond := [.fieldLink "java/lang/String" 38 "java/lang/String" "COMPACT_STRINGS" "Z", Cmp3.tab, CodL.tab, .laysFinal "java/lang/String" "java/lang/String" "value" "[B", .fieldLink "java/lang/String" 9 "java/lang/String" "value" "[B", .laysFinal "java/lang/String" "java/lang/String" "coder" "B", .fieldLink "java/lang/String" 15 "java/lang/String" "coder" "B"] ++ objW "java/lang/String" 1 ++ staticW "java/lang/String" 177 Cmp3.yN ++ staticW "java/lang/String" 47 CodL.yN
def tab : Cond := tabOf yN yB 6 none site
def P (a : Addr) (D : Cell) (fV fC : Field) (b : Addr) (A : Cell) (z : Int32) (o len : Nat) (args : Array Value) (s : State) : Prop := args = #[.ref a, .ref b, .int (Int32.ofNat o), .int (Int32.ofNat len), .null] ∧ Blank "java/lang/String" a D s ∧ Found "java/lang/String" "value" "[B" fV s ∧ Found "java/lang/String" "coder" "B" fC s ∧ Ch b A s ∧ StaticIs s "java/lang/String" "COMPACT_STRINGS" "Z" (.int z) ∧ ¬ z = 0 ∧ 0 < len ∧ o + len ≤ A.slots.size ∧ len ≤ 536870912 ∧ ∀ i, i < len → ¬ 255 < cv A (o + i)
def E (a : Addr) (D : Cell) (fV fC : Field) (A : Cell) (o len : Nat) (r : Option Value) (s u : State) : Prop := Got a D fV fC A o len r s u
/-- len > 0, no char of the range above 255: a Latin-1 String of their low bytes -/
theorem law (l : Launch) (a : Addr) (D : Cell) (fV fC : Field) (b : Addr) (A : Cell) (z : Int32) (o len : Nat) : Law l yN 5 4 2 35 yB 6 none site (P a D fV fC b A z o len) (E a D fV fC A o len) [⟨a, fC.slot⟩, ⟨a, fV.slot⟩] 1 len := by
  refine Law.of_walk (plainFor_of_name (by decide +kernel)) (by decide +kernel) (by decide +kernel) (by decide) (fun _ _ h => by rw [h.1]; rfl) (fun _ U U' hal hh h => ⟨h.1, h.2.1.mv hal hh, h.2.2.1.al hal, h.2.2.2.1.al hal, h.2.2.2.2.1.mv hal hh, h.2.2.2.2.2.1.there hal hh, h.2.2.2.2.2.2⟩) (fun r U U' V V' h1 hal h2 h => Got.mv r U U' V V' h1 hal h2 h) ?_
  intro p e s m args below meth c s₁ X0 hexec hbytes hml hret hlk hnm hown hh0 W hP
  obtain ⟨rfl, hB, f1, f2, hA, s1, hz, l0, l1, l2, hp⟩ := hP
  have a31 := hA.1.2.2.2
  have c1 : Steps p.tables e below (s₁.setTop (entryFrame m #[.ref a, .ref b, .int (Int32.ofNat o), .int (Int32.ofNat len), .null] 6)) (s₁.setTop (mkF m 0 #[.val (.ref a), .val (.ref b), .val (.int (Int32.ofNat o)), .val (.int (Int32.ofNat len)), .val .null, .unset] [])) := entry rfl
  have c2 : Steps p.tables e below (s₁.setTop (entryFrame m #[.ref a, .ref b, .int (Int32.ofNat o), .int (Int32.ofNat len), .null] 6)) (s₁.setTop (mkF m 1 #[.val (.ref a), .val (.ref b), .val (.int (Int32.ofNat o)), .val (.int (Int32.ofNat len)), .val .null, .unset] [.ref a])) := c1.trans (by
    refine XS.aloadN X0.here hexec rfl (hb hbytes d0) rfl rfl ?_
    exact Steps.refl _)
  obtain ⟨T3, X3, q3, st3⟩ := X0.oinit hexec hown (wks W (objW "java/lang/String" 1)) (g := (mkF m 1 #[.val (.ref a), .val (.ref b), .val (.int (Int32.ofNat o)), .val (.int (Int32.ofNat len)), .val .null, .unset] [.ref a])) rfl (by rw [hml]; rfl) (rest := []) rfl (hb hbytes d1) (W := 0) (by show 2 * 0 + 0 ≤ _; decide) (Nat.le_of_ble_eq_true rfl) (Nat.le_of_ble_eq_true rfl)
  have hh3 := q3.trans hh0
  have c4 : Steps p.tables e below (s₁.setTop (entryFrame m #[.ref a, .ref b, .int (Int32.ofNat o), .int (Int32.ofNat len), .null] 6)) (T3.setTop (mkF m 27 #[.val (.ref a), .val (.ref b), .val (.int (Int32.ofNat o)), .val (.int (Int32.ofNat len)), .val .null, .unset] [])) := (c2.trans (st3 _ (Steps.refl _))).trans (by
    refine XS.iloadN X3.here hexec rfl (hb hbytes d4) rfl ?_
    refine XS.ifYes X3.here hexec rfl (pc0 := 5) rfl (hb hbytes d5) rfl (i0_ne_t (nz32 (by omega) l0)) (by decide) rfl ?_
    exact Steps.refl _)
  obtain ⟨T5, X5, q5, st5⟩ := X3.sget hexec hown (wk W (.fieldLink "java/lang/String" 38 "java/lang/String" "COMPACT_STRINGS" "Z")) s1 (fun _ _ h => by rw [hh3]; exact h) (g := (mkF m 27 #[.val (.ref a), .val (.ref b), .val (.int (Int32.ofNat o)), .val (.int (Int32.ofNat len)), .val .null, .unset] [])) rfl (hb hbytes d27)
  have hh5 := q5.trans hh3
  have c6 : Steps p.tables e below (s₁.setTop (entryFrame m #[.ref a, .ref b, .int (Int32.ofNat o), .int (Int32.ofNat len), .null] 6)) (T5.setTop (mkF m 30 #[.val (.ref a), .val (.ref b), .val (.int (Int32.ofNat o)), .val (.int (Int32.ofNat len)), .val .null, .unset] [.int z])) := c4.trans (st5 _ (Steps.refl _))
  have c7 : Steps p.tables e below (s₁.setTop (entryFrame m #[.ref a, .ref b, .int (Int32.ofNat o), .int (Int32.ofNat len), .null] 6)) (T5.setTop (mkF m 36 #[.val (.ref a), .val (.ref b), .val (.int (Int32.ofNat o)), .val (.int (Int32.ofNat len)), .val .null, .unset] [.int (Int32.ofNat len), .int (Int32.ofNat o), .ref b])) := c6.trans (by
    refine XS.ifNo X5.here hexec rfl (hb hbytes d30) rfl (i0_eq_f hz) ?_
    refine XS.aloadN X5.here hexec rfl (hb hbytes d33) rfl rfl ?_
    refine XS.iloadN X5.here hexec rfl (hb hbytes d34) rfl ?_
    refine XS.iloadN X5.here hexec rfl (hb hbytes d35) rfl ?_
    exact Steps.refl _)
  obtain ⟨v8, T8, X8, E8, g8⟩ := X5.callS hexec (Cmp3.law l b A o len) hown (wks W (staticW "java/lang/String" 177 Cmp3.yN)) (wk W Cmp3.tab) (W := 0) (Nat.le_of_ble_eq_true rfl) (Nat.le_of_ble_eq_true rfl) (Nat.le_refl _) (by show 0 + len ≤ len; omega) (g := (mkF m 36 #[.val (.ref a), .val (.ref b), .val (.int (Int32.ofNat o)), .val (.int (Int32.ofNat len)), .val .null, .unset] [.int (Int32.ofNat len), .int (Int32.ofNat o), .ref b])) rfl (by rw [hml]; rfl) c7 (argsL := [.ref b, .int (Int32.ofNat o), .int (Int32.ofNat len)]) (rest := []) rfl rfl (by show 2 * 0 + 0 ≤ _; decide) (hb hbytes d36) (⟨rfl, hA.mv X5.warmed.alike hh5, l1, l2, hp⟩)
  obtain ⟨e8, z8⟩ := E8
  obtain ⟨rfl, N, n1, n2, n3, n4, n5, n6⟩ := NewArr.mv _ T5 s _ _ hh5.symm (Vm.Alike.refl _) rfl e8
  rw [hh5] at z8
  have hB1 := hB.keep X8.warmed.alike (n6 _ _ hB.1)
  have hne : s.heap.size ≠ a := (Nat.ne_of_lt (Array.getElem?_eq_some_iff.mp hB.1).1).symm
  have c9 : Steps p.tables e below (s₁.setTop (entryFrame m #[.ref a, .ref b, .int (Int32.ofNat o), .int (Int32.ofNat len), .null] 6)) (T8.setTop (mkF m 39 #[.val (.ref a), .val (.ref b), .val (.int (Int32.ofNat o)), .val (.int (Int32.ofNat len)), .val .null, .unset] [.ref s.heap.size])) := g8
  have c10 : Steps p.tables e below (s₁.setTop (entryFrame m #[.ref a, .ref b, .int (Int32.ofNat o), .int (Int32.ofNat len), .null] 6)) (T8.setTop (mkF m 45 #[.val (.ref a), .val (.ref b), .val (.int (Int32.ofNat o)), .val (.int (Int32.ofNat len)), .val .null, .val (.ref s.heap.size)] [.int (Int32.ofNat N.slots.size), .ref s.heap.size, .ref a])) := by
    have hc : Steps p.tables e below (s₁.setTop (entryFrame m #[.ref a, .ref b, .int (Int32.ofNat o), .int (Int32.ofNat len), .null] 6)) (T8.setTop (mkF m 45 #[.val (.ref a), .val (.ref b), .val (.int (Int32.ofNat o)), .val (.int (Int32.ofNat len)), .val .null, .val (.ref s.heap.size)] [.int (Int32.ofNat len), .ref s.heap.size, .ref a])) := c9.trans (by
      refine XS.astore X8.here hexec rfl (hb hbytes d39) rfl rfl rfl ?_
      refine XS.aloadN X8.here hexec rfl (hb hbytes d41) rfl rfl ?_
      refine XS.aload X8.here hexec rfl (hb hbytes d42) rfl rfl ?_
      refine XS.iloadN X8.here hexec rfl (hb hbytes d44) rfl ?_
      exact Steps.refl _)
    rw [n4]; exact hc
  obtain ⟨v11, T11, X11, E11, g11⟩ := X8.callS hexec (CodL.law l s.heap.size N) hown (wks W (staticW "java/lang/String" 47 CodL.yN)) (wk W CodL.tab) (W := 1) (Nat.le_of_ble_eq_true rfl) (Nat.le_of_ble_eq_true rfl) (Nat.le_refl _) (by show 0 + len + 0 ≤ len; omega) (g := (mkF m 45 #[.val (.ref a), .val (.ref b), .val (.int (Int32.ofNat o)), .val (.int (Int32.ofNat len)), .val .null, .val (.ref s.heap.size)] [.int (Int32.ofNat N.slots.size), .ref s.heap.size, .ref a])) rfl (by rw [hml]; rfl) c10 (argsL := [.ref s.heap.size, .int (Int32.ofNat N.slots.size)]) (rest := [.ref a]) rfl rfl (by show 2 * 0 + (1 + 0) ≤ _; decide) (hb hbytes d45) (⟨rfl, n1⟩)
  obtain ⟨rfl, q11⟩ := E11
  have hB11 := hB1.mv (X8.warmed.alike.symm.trans X11.warmed.alike) q11
  have c12 : Steps p.tables e below (s₁.setTop (entryFrame m #[.ref a, .ref b, .int (Int32.ofNat o), .int (Int32.ofNat len), .null] 6)) (T11.setTop (mkF m 48 #[.val (.ref a), .val (.ref b), .val (.int (Int32.ofNat o)), .val (.int (Int32.ofNat len)), .val .null, .val (.ref s.heap.size)] [.int 0, .ref a])) := g11
  obtain ⟨T13, X13, p13, bl13, sl13, st13⟩ := X11.finit hexec hown (wk W (.fieldLink "java/lang/String" 15 "java/lang/String" "coder" "B")) (Or.inr ⟨_, (wk W (.laysFinal "java/lang/String" "java/lang/String" "coder" "B"))⟩) (Or.inl ⟨rfl, hnm⟩) f2 (Or.inl rfl) hB11 (t := .byte) (by decide +kernel) rfl (g := (mkF m 48 #[.val (.ref a), .val (.ref b), .val (.int (Int32.ofNat o)), .val (.int (Int32.ofNat len)), .val .null, .val (.ref s.heap.size)] [.int 0, .ref a])) rfl (rest := []) rfl (hb hbytes d48)
  have c14 : Steps p.tables e below (s₁.setTop (entryFrame m #[.ref a, .ref b, .int (Int32.ofNat o), .int (Int32.ofNat len), .null] 6)) (T13.setTop (mkF m 54 #[.val (.ref a), .val (.ref b), .val (.int (Int32.ofNat o)), .val (.int (Int32.ofNat len)), .val .null, .val (.ref s.heap.size)] [.ref s.heap.size, .ref a])) := (c12.trans (st13 _ (Steps.refl _))).trans (by
    refine XS.aloadN X13.here hexec rfl (hb hbytes d51) rfl rfl ?_
    refine XS.aload X13.here hexec rfl (hb hbytes d52) rfl rfl ?_
    exact Steps.refl _)
  obtain ⟨T15, X15, p15, bl15, sl15, st15⟩ := X13.finit hexec hown (wk W (.fieldLink "java/lang/String" 9 "java/lang/String" "value" "[B")) (Or.inr ⟨_, (wk W (.laysFinal "java/lang/String" "java/lang/String" "value" "[B"))⟩) (Or.inl ⟨rfl, hnm⟩) f1 (Or.inl rfl) bl13 (t := (.array .byte)) (by decide +kernel) rfl (g := (mkF m 54 #[.val (.ref a), .val (.ref b), .val (.int (Int32.ofNat o)), .val (.int (Int32.ofNat len)), .val .null, .val (.ref s.heap.size)] [.ref s.heap.size, .ref a])) rfl (rest := []) rfl (hb hbytes d54)
  have c16 : Steps p.tables e below (s₁.setTop (entryFrame m #[.ref a, .ref b, .int (Int32.ofNat o), .int (Int32.ofNat len), .null] 6)) (T15.setTop (mkF m 57 #[.val (.ref a), .val (.ref b), .val (.int (Int32.ofNat o)), .val (.int (Int32.ofNat len)), .val .null, .val (.ref s.heap.size)] [])) := c14.trans (st15 _ (Steps.refl _))
  have ap := apart (Or.inr ⟨_, (wk W (.laysFinal "java/lang/String" "java/lang/String" "value" "[B"))⟩) (Or.inr ⟨_, (wk W (.laysFinal "java/lang/String" "java/lang/String" "coder" "B"))⟩) f1 f2 (t₁ := .array .byte) (t₂ := .byte) (by decide +kernel) (by decide +kernel) (by decide)
  have al := X8.warmed.alike.symm.trans X15.warmed.alike
  have n7 : T11.heap[s.heap.size]? = some N := by rw [q11]; exact n1.1
  exact ⟨T15, none, _, _, _, X15, by simp, rfl, by omega, (fun _ => rfl), ⟨rfl, _, N, bl15, ((Same.refl D _).set _ (by simp)).set _ (by simp), sl15, (Cell.slots_setSlot_ne _ ap).trans sl13, n1.keep al (p15.other hne (p13.other hne n7)), n2, by rw [al.findClass]; exact n3, n4, n5, fun y c h1 h2 => p15.other h1 (p13.other h1 (by rw [q11]; exact n6 y c h2)), by rw [p15.2.2, p13.2.2, q11]; exact z8⟩, fun fs hl => c16.trans (X15.returnOut hexec hret (hb hbytes d57) hl)⟩
end New4
namespace New1
def yN : MethodName := ⟨"java/lang/String", "<init>", "([C)V"⟩
abbrev yB : ByteArray := jdk_42_method_3_code
theorem d0 : decode yB 0 = .ok (.aload_n 0, 1) := by decide +kernel
theorem d1 : decode yB 1 = .ok (.aload_n 1, 1) := by decide +kernel
theorem d2 : decode yB 2 = .ok (.iconst 0, 1) := by decide +kernel
theorem d3 : decode yB 3 = .ok (.aload_n 1, 1) := by decide +kernel
theorem d4 : decode yB 4 = .ok (.arraylength, 1) := by decide +kernel
theorem d5 : decode yB 5 = .ok (.aconst_null, 1) := by decide +kernel
theorem d6 : decode yB 6 = .ok (.invokespecial 27, 3) := by decide +kernel
theorem d9 : decode yB 9 = .ok (.return_, 1) := by decide +kernel
def site : List Cond := [New4.tab] ++ initW "java/lang/String" 27 New4.yN
def tab : Cond := tabOf yN yB 2 none site
def P (a : Addr) (D : Cell) (fV fC : Field) (b : Addr) (A : Cell) (z : Int32) (args : Array Value) (s : State) : Prop := args = #[.ref a, .ref b] ∧ Blank "java/lang/String" a D s ∧ Found "java/lang/String" "value" "[B" fV s ∧ Found "java/lang/String" "coder" "B" fC s ∧ Ch b A s ∧ StaticIs s "java/lang/String" "COMPACT_STRINGS" "Z" (.int z) ∧ ¬ z = 0 ∧ 0 < A.slots.size ∧ A.slots.size ≤ 536870912 ∧ ∀ i, i < A.slots.size → ¬ 255 < cv A i
def E (a : Addr) (D : Cell) (fV fC : Field) (A : Cell) (r : Option Value) (s u : State) : Prop := Got a D fV fC A 0 A.slots.size r s u
/-- new String(chars), not empty, no char above 255: a Latin-1 String of their low bytes -/
theorem law (l : Launch) (a : Addr) (D : Cell) (fV fC : Field) (b : Addr) (A : Cell) (z : Int32) : Law l yN 2 1 3 52 yB 2 none site (P a D fV fC b A z) (E a D fV fC A) [⟨a, fC.slot⟩, ⟨a, fV.slot⟩] 1 A.slots.size := by
  refine Law.of_walk (plainFor_of_name (by decide +kernel)) (by decide +kernel) (by decide +kernel) (by decide) (fun _ _ h => by rw [h.1]; rfl) (fun _ U U' hal hh h => ⟨h.1, h.2.1.mv hal hh, h.2.2.1.al hal, h.2.2.2.1.al hal, h.2.2.2.2.1.mv hal hh, h.2.2.2.2.2.1.there hal hh, h.2.2.2.2.2.2⟩) (fun r U U' V V' h1 hal h2 h => Got.mv r U U' V V' h1 hal h2 h) ?_
  intro p e s m args below meth c s₁ X0 hexec hbytes hml hret hlk hnm hown hh0 W hP
  obtain ⟨rfl, hB, f1, f2, hA, s1, hz, l0, l2, hp⟩ := hP
  have c1 : Steps p.tables e below (s₁.setTop (entryFrame m #[.ref a, .ref b] 2)) (s₁.setTop (mkF m 0 #[.val (.ref a), .val (.ref b)] [])) := entry rfl
  have c2 : Steps p.tables e below (s₁.setTop (entryFrame m #[.ref a, .ref b] 2)) (s₁.setTop (mkF m 6 #[.val (.ref a), .val (.ref b)] [.null, .int (Int32.ofNat A.slots.size), .int 0, .ref b, .ref a])) := c1.trans (by
    refine XS.aloadN X0.here hexec rfl (hb hbytes d0) rfl rfl ?_
    refine XS.aloadN X0.here hexec rfl (hb hbytes d1) rfl rfl ?_
    refine iconstV X0.here hexec rfl 0 (hb hbytes d2) (by decide) ?_
    refine XS.aloadN X0.here hexec rfl (hb hbytes d3) rfl rfl ?_
    refine X0.alen hexec (hA.1.mv X0.warmed.alike hh0) rfl rfl (hb hbytes d4) ?_
    refine XS.aconstNull X0.here hexec rfl (hb hbytes d5) ?_
    exact Steps.refl _)
  obtain ⟨v3, T3, X3, E3, g3⟩ := X0.callN hexec (New4.law l a D fV fC b A z 0 A.slots.size) rfl hown (wks W (initW "java/lang/String" 27 New4.yN)) (W New4.tab (by simp only [site, List.mem_cons, List.mem_append, true_or, or_true])) (W := 0) (Nat.le_of_ble_eq_true rfl) (Nat.le_of_ble_eq_true rfl) (Nat.le_refl _) (by show 0 + A.slots.size ≤ A.slots.size; omega) (g := (mkF m 6 #[.val (.ref a), .val (.ref b)] [.null, .int (Int32.ofNat A.slots.size), .int (Int32.ofNat 0), .ref b, .ref a])) rfl (by rw [hml]; rfl) c2 (argsL := [.ref b, .int (Int32.ofNat 0), .int (Int32.ofNat A.slots.size), .null]) (rest := []) rfl rfl (by show 2 * 0 + 0 ≤ _; decide) (hb hbytes d6) (⟨rfl, hB.mv X0.warmed.alike hh0, f1.al X0.warmed.alike, f2.al X0.warmed.alike, hA.mv X0.warmed.alike hh0, s1.there X0.warmed.alike hh0, hz, l0, by omega, l2, fun i hi => by rw [Nat.zero_add]; exact hp i hi⟩)
  have e0 := Got.mv _ s₁ s _ _ hh0.symm (Vm.Alike.refl _) rfl E3
  obtain rfl := e0.1
  have c4 : Steps p.tables e below (s₁.setTop (entryFrame m #[.ref a, .ref b] 2)) (T3.setTop (mkF m 9 #[.val (.ref a), .val (.ref b)] [])) := g3
  exact ⟨T3, none, _, _, _, X3, by simp, rfl, by omega, (fun _ => rfl), e0, fun fs hl => c4.trans (X3.returnOut hexec hret (hb hbytes d9) hl)⟩
theorem pays {l : Launch} {R : Room} {p : Program} {e : Env} {below : List Frame} {s : State} {sargs : Array Value} {len W : Nat} (a : Addr) (D : Cell) (fV fC : Field) (b : Addr) (A : Cell) (z : Int32) (htab : tab.before sargs s = true) (hfr : 4 ≤ R.frames) (hlo : W + 65 ≤ R.locals) :
    Back l R p e below s sargs yN len W (fun A₁ a₁ => A₁.cells + 1 ≤ R.cells ∧ A₁.slots + A.slots.size ≤ R.slots ∧ P a D fV fC b A z a₁ A₁.U) (fun A₁ _ v₁ B₁ => E a D fV fC A v₁ A₁.U B₁.U ∧ B₁.locs = A₁.locs ++ [⟨a, fC.slot⟩, ⟨a, fV.slot⟩] ∧ B₁.cells = A₁.cells + 1 ∧ B₁.slots = A₁.slots + A.slots.size) :=
  (law l a D fV fC b A z).pays htab hfr (by omega)
end New1
end StrChars
namespace StrChars.Road
open Jvm Sem ClassFile Op Lib Jvm.Stand Jvm.Free Jvm.Free.XT
open Jvm.Lib.Cold (StaticIs)
abbrev ST : String := "java/lang/String"
/-- every table word that New1's law asks, flat -/
abbrev words : List Jvm.Cond := [.code New1.yN New1.yB 2 none, .initialized ST, .methodLink ST 27 New4.yN, .instanceMethod New4.yN,
  .code New4.yN New4.yB 6 none, .fieldLink ST 38 ST "COMPACT_STRINGS" "Z", .laysFinal ST ST "value" "[B", .fieldLink ST 9 ST "value" "[B", .laysFinal ST ST "coder" "B", .fieldLink ST 15 ST "coder" "B",
  .methodLink ST 1 Lib.objectInit, .instanceMethod Lib.objectInit, .code Lib.objectInit ⟨#[0xb1]⟩ 1 none, .methodLink ST 177 Cmp3.yN, .static Cmp3.yN, .methodLink ST 47 CodL.yN, .static CodL.yN,
  .code Cmp3.yN Cmp3.yB 6 (some (.array .byte)), .initialized U16, .arrayClass .byte, .methodLink U16 115 Cmp5.yN, .static Cmp5.yN, .code Cmp5.yN Cmp5.yB 7 (some .int), .code CodL.yN CodL.yB 2 (some .byte)]
theorem tab_of {a : Array Value} {s : State} (h : ∀ w ∈ words, w.before a s = true) : New1.tab.before a s = true := by
  have h5 : Cmp5.tab.before a s = true := unparts (wk h (.code Cmp5.yN Cmp5.yB 7 (some .int))) (wks h (.initialized Cmp5.yN.cls :: Cmp5.site))
  have hc : CodL.tab.before a s = true := unparts (wk h (.code CodL.yN CodL.yB 2 (some .byte))) (wks h (.initialized CodL.yN.cls :: CodL.site))
  have q5 : ∀ w ∈ Cmp5.tab :: words, w.before a s = true := fun w hw => (List.mem_cons.mp hw).elim (fun e => e ▸ h5) (h w)
  have h3 : Cmp3.tab.before a s = true := unparts (wk q5 (.code Cmp3.yN Cmp3.yB 6 (some (.array .byte)))) (wks q5 (.initialized Cmp3.yN.cls :: Cmp3.site))
  have q3 : ∀ w ∈ Cmp3.tab :: CodL.tab :: words, w.before a s = true := fun w hw => (List.mem_cons.mp hw).elim (fun e => e ▸ h3) fun hw => (List.mem_cons.mp hw).elim (fun e => e ▸ hc) (h w)
  have h4 : New4.tab.before a s = true := unparts (wk q3 (.code New4.yN New4.yB 6 none)) (wks q3 (.initialized New4.yN.cls :: New4.site))
  have q4 : ∀ w ∈ New4.tab :: words, w.before a s = true := fun w hw => (List.mem_cons.mp hw).elim (fun e => e ▸ h4) (h w)
  exact unparts (wk q4 (.code New1.yN New1.yB 2 none)) (wks q4 (.initialized New1.yN.cls :: New1.site))
/-- the words ride from the start Z to the walk's own state -/
theorem moved {Z s : State} {a0 args : Array Value} (hZ : Z.Warmed39 s.vm) (hw : ∀ d ∈ words, d.before a0 Z = true) : ∀ d ∈ words, d.before args s = true := fun d hd => by
  have q := hw d hd
  have t : ∀ d ∈ words, d = .arrayClass .byte ∨ (d.onTables && d.keepsFace) = true := by decide +kernel
  rcases t d hd with rfl | t
  · exact RoadKit.mvA hZ q
  · exact RoadKit.mv hZ q t
/-- WHAT COMES BACK, over the tables of the start Z: h the heap at the call, h' behind it -/
def Q (Z : State) (x : Addr) (A : Cell) (h : Heap) (v : Option Value) (h' : Heap) (L : List Loc) : Prop := v = none ∧ (∀ y ∈ L, y.base = x) ∧ RoadKit.Keep h h' [x] ∧ h'.size = h.size + 1 ∧ RoadKit.Exa Z h' x ST ∧ RoadKit.Fld Z h' x ST "value" "[B" (.ref h.size) ∧ RoadKit.Fld Z h' x ST "coder" "B" (.int 0) ∧
  (∃ V : Cell, RoadKit.Arr Z h' h.size V .byte ∧ V.vm = .none ∧ Z.vm.findClass "[B" = some V.cls ∧ V.slots.size = A.slots.size ∧ ∀ j, j < A.slots.size → V.slots[j]? = some (.int (lo8 (cv A j)))) ∧
  ∀ (O n d : String) (w : Value), RoadKit.Fld Z h x O n d w → RoadKit.slotOf Z O n d ≠ RoadKit.slotOf Z ST "value" "[B" → RoadKit.slotOf Z O n d ≠ RoadKit.slotOf Z ST "coder" "B" → RoadKit.Fld Z h' x O n d w
/-- **new String(chars) AT A CALL, IN THE ROAD'S FORM**: for specialBack behind newO: x the fresh String, b the char[] with the cell A -/
theorem back {p : Program} {l : Launch} {e : Env} {R : Room} {s : State} {args : Array Value} {below : List Frame} {len W : Nat} {Z : State} {a0 : Array Value} {h : Heap} (hZ : Z.Warmed39 s.vm) (hw : ∀ d ∈ words, d.before a0 Z = true) {kI : Nat} (wi : (Jvm.Cond.instantiable ST kI).before a0 Z = true)
    {x b : Addr} {A : Cell} {z : Int32} {v0 c0 : Value} (E : RoadKit.Exa Z h x ST) (V : RoadKit.Fld Z h x ST "value" "[B" v0) (C : RoadKit.Fld Z h x ST "coder" "B" c0) (K : RoadKit.Arr Z h b A .char) (hty : Typed .char A) (S : RoadKit.Sta Z h ST "COMPACT_STRINGS" "Z" (.int z)) (hz : ¬ z = 0)
    (l0 : 0 < A.slots.size) (l2 : A.slots.size ≤ 536870912) (hp : ∀ i, i < A.slots.size → ¬ 255 < cv A i) (hfr : 4 ≤ R.frames) (hlo : W + 65 ≤ R.locals) :
    Back l R p e below s args New1.yN len W (fun P a => a = #[.ref x, .ref b] ∧ P.U.heap = h ∧ P.cells + 1 ≤ R.cells ∧ P.slots + A.slots.size ≤ R.slots)
      (fun P _ v B => ∃ L, Q Z x A h v B.U.heap L ∧ B.locs = P.locs ++ L ∧ B.cells = P.cells + 1 ∧ B.slots = P.slots + A.slots.size) := by
  intro m meth c P g ig mk a X hg hsize hdg hW hn hp'
  obtain ⟨rfl, rfl, r1, r2⟩ := hp'
  have al : Z.vm.Alike P.U.vm := hZ.alike.trans X.warmed.alike
  obtain ⟨D, cfV, kV, iV, fV, hD, gV, stV, knV, obV, asV, slV⟩ := id V
  obtain ⟨D', cfC, kC, iC, fC, hD', gC, stC, -, -, asC, slC⟩ := id C
  cases hD.symm.trans hD'
  obtain ⟨D2, kD, e1, e2, e3, e4, e5⟩ := id E
  cases hD.symm.trans e1
  obtain ⟨c2, k2, i1, i2, i3, -⟩ := Cond.instantiable_spec wi
  cases e2.symm.trans i1
  cases e3.symm.trans i2
  obtain ⟨kU, u1, u2⟩ := al.2.2 _ _ e3
  have hB : Blank ST x D P.U := ⟨hD, ⟨knV, fun q hq => by rw [hq] at obV; cases obV⟩, by rw [al.findClass]; exact e2, kU, u1, by rw [u2]; exact i3, by rw [u2]; exact e5 i3⟩
  have F1 : Found ST "value" "[B" fV P.U := ⟨SBG.found_only al ⟨cfV, kV, iV, gV⟩, stV⟩
  have F2 : Found ST "coder" "B" fC P.U := ⟨SBG.found_only al ⟨cfC, kC, iC, gC⟩, stC⟩
  have hA : Ch b A P.U := ⟨⟨K.1, State.isArrayOf_alike al K.2.1, K.2.2, by omega⟩, hty⟩
  have hS : StaticIs P.U ST "COMPACT_STRINGS" "Z" (.int z) := by
    obtain ⟨cfS, iS, kS, fS, st, cS, t1, t2, t3, t4, t5, t6, t7⟩ := S
    exact StaticIs.there (s := { Z with heap := P.U.heap }) ⟨cfS, iS, kS, fS, st, cS, t1, t2, t3, t4, t5, (fun q => by rw [q] at t6; cases t6), t7⟩ al rfl
  obtain ⟨v, B, X', ⟨⟨hv, E', V', q1, q2, q3, q4, q5, q6, q7, q8, q9, q10, q11⟩, hl, hc, hs⟩, st⟩ := New1.pays x D fV fC b A z (tab_of (moved hZ hw)) hfr hlo m meth c P g ig mk _ X hg hsize hdg hW hn ⟨r1, r2, rfl, hB, F1, F2, hA, hS, hz, l0, l2, hp⟩
  have al' : Z.vm.Alike B.U.vm := hZ.alike.trans X'.warmed.alike
  have hsz : E'.slots.size = D.slots.size := by
    obtain ⟨-, -, -, kB, w1, w2, w3⟩ := q1
    obtain ⟨kB', y1, y2⟩ := al'.2.2 _ _ e3
    rw [q2.2.1] at w1
    cases w1.symm.trans y1
    rw [w3, e5 i3, y2]
  refine ⟨v, B, X', ⟨_, ⟨hv, ?_, ⟨by omega, fun y cy hy hn' => q10 y cy (by simpa using hn') hy, fun y cy hy => ?_⟩, q11, ⟨E', _, q1.1, by rw [q2.2.1]; exact e2, by rw [q2.2.1]; exact e3, by rw [q2.1]; exact obV, fun _ => by rw [hsz]; exact e5 i3⟩,
    ⟨E', cfV, kV, iV, fV, q1.1, gV, stV, by rw [q2.1]; exact knV, by rw [q2.1]; exact obV, by rw [q2.2.1]; exact asV, q3⟩, ⟨E', cfC, kC, iC, fC, q1.1, gC, stC, by rw [q2.1]; exact knV, by rw [q2.1]; exact obV, by rw [q2.2.1]; exact asC, q4⟩,
    ⟨V', ⟨q5.1, State.isArrayOf_alike al'.symm q5.2.1, q5.2.2.1⟩, q6, by rw [← al'.findClass]; exact q7, q8, fun j hj => by have := q9 j hj; rwa [Nat.zero_add] at this⟩, fun O n d w F n1 n2 => ?_⟩, hl, hc, hs⟩, st⟩
  · intro y hy
    simp only [List.mem_cons, List.not_mem_nil, or_false] at hy
    rcases hy with rfl | rfl <;> rfl
  · by_cases q : y = x
    · subst q
      cases hD.symm.trans hy
      exact ⟨E', q1.1, q2.2.1, q2.1, hsz⟩
    · exact ⟨cy, q10 y cy q hy, rfl, rfl, rfl⟩
  · obtain ⟨D3, cf, k, i, f, g1, g2, g3, g4, g5, g6, g7⟩ := F
    cases hD.symm.trans g1
    simp only [RoadKit.slotOf, g2, gV, gC, Option.map_some, Option.getD_some] at n1 n2
    exact ⟨E', cf, k, i, f, q1.1, g2, g3, by rw [q2.1]; exact g4, by rw [q2.1]; exact g5, by rw [q2.2.1]; exact g6, by rw [q2.2.2 f.slot (by simp [n1, n2])]; exact g7⟩
end StrChars.Road
namespace StrChars.Road
open Jvm Sem ClassFile Op Lib Jvm.Stand Jvm.Free Jvm.Free.XT
/-- WHAT COMES BACK, the byte[] as a list of values -/
def QA (Z : State) (x : Addr) (zn : Int32) (cs : List Int32) (h : Heap) (v : Option Value) (h' : Heap) (L : List Loc) : Prop := v = none ∧ (∀ y ∈ L, y.base = x) ∧ RoadKit.Keep h h' [x] ∧ h'.size = h.size + 1 ∧ RoadKit.Exa Z h' x ST ∧ RoadKit.Fld Z h' x ST "value" "[B" (.ref h.size) ∧ RoadKit.Fld Z h' x ST "coder" "B" (.int 0) ∧
  (∃ kb, Z.vm.findClass "[B" = some kb ∧ RoadKit.Arv Z h' h.size kb .byte zn (cs.map fun c => .int (lo8 c)) (.int 0)) ∧
  ∀ (O n d : String) (w : Value), RoadKit.Fld Z h x O n d w → RoadKit.slotOf Z O n d ≠ RoadKit.slotOf Z ST "value" "[B" → RoadKit.slotOf Z O n d ≠ RoadKit.slotOf Z ST "coder" "B" → RoadKit.Fld Z h' x O n d w
/-- **new String(chars) AT A CALL, THE ARRAYS AS LISTS**: the char[] at b holds cs, not empty, no char above 255 -/
theorem backArv {p : Program} {l : Launch} {e : Env} {R : Room} {s : State} {args : Array Value} {below : List Frame} {len W : Nat} {Z : State} {a0 : Array Value} {h : Heap} (hZ : Z.Warmed39 s.vm) (hw : ∀ d ∈ words, d.before a0 Z = true) {kI : Nat} (wi : (Jvm.Cond.instantiable ST kI).before a0 Z = true)
    {x b : Addr} {k : ClassId} {zn z : Int32} {cs : List Int32} {dv v0 c0 : Value} (E : RoadKit.Exa Z h x ST) (V : RoadKit.Fld Z h x ST "value" "[B" v0) (C : RoadKit.Fld Z h x ST "coder" "B" c0) (K : RoadKit.Arv Z h b k .char zn (cs.map Value.int) dv) (S : RoadKit.Sta Z h ST "COMPACT_STRINGS" "Z" (.int z)) (hz : ¬ z = 0)
    (hlen : zn.toNatClampNeg = cs.length) (h0 : 0 < cs.length) (hbig : cs.length ≤ 536870912) (hall : ∀ c ∈ cs, ¬ 255 < c) (hfr : 4 ≤ R.frames) (hlo : W + 65 ≤ R.locals) :
    Back l R p e below s args New1.yN len W (fun P a => a = #[.ref x, .ref b] ∧ P.U.heap = h ∧ P.cells + 1 ≤ R.cells ∧ P.slots + cs.length ≤ R.slots)
      (fun P _ v B => ∃ L, QA Z x zn cs h v B.U.heap L ∧ B.locs = P.locs ++ L ∧ B.cells = P.cells + 1 ∧ B.slots = P.slots + cs.length) := by
  obtain ⟨A, K1, K2, K3, K4, K5, K6⟩ := K
  have e : A.slots.size = cs.length := K3.trans hlen
  have hat : ∀ (i : Nat) (hi : i < cs.length), A.slots[i]? = some (.int cs[i]) := fun i hi => by rw [K5 i (by omega)]; simp [List.getD_eq_getElem?_getD, hi]
  have hcv : ∀ (i : Nat) (hi : i < cs.length), cv A i = cs[i] := fun i hi => by unfold cv; rw [hat i hi]
  have hty : Typed .char A := fun i v hv => by
    have hi : i < A.slots.size := (Array.getElem?_eq_some_iff.mp hv).1
    have q := K5 i hi
    rw [hv] at q
    rw [Option.some.inj q]
    exact K6 i hi
  refine Back.mono (back hZ hw wi E V C K1 hty S hz (by omega) (by omega) (fun i hi => by rw [hcv i (by omega)]; exact hall _ (List.getElem_mem _)) hfr hlo) (fun P a hp => ⟨hp.1, hp.2.1, hp.2.2.1, by rw [e]; exact hp.2.2.2⟩) (fun P a v B hp hq => ?_)
  obtain ⟨L, ⟨q1, q2, q3, q4, q5, q6, q7, ⟨V', v1, v2, v3, v4, v5⟩, q9⟩, hl, hc, hs⟩ := hq
  refine ⟨L, ⟨q1, q2, q3, q4, q5, q6, q7, ⟨V'.cls, v3, V', v1, rfl, by rw [v4, e, hlen], K4, fun i hi => ?_, fun i hi => ?_⟩, q9⟩, hl, hc, by rw [hs, e]⟩
  · have hi' : i < cs.length := by omega
    rw [v5 i (by omega), hcv i hi']; simp [List.getD_eq_getElem?_getD, hi']
  · have hi' : i < cs.length := by omega
    simp only [List.getD_eq_getElem?_getD, List.getElem?_map, List.getElem?_eq_getElem hi', Option.map_some, Option.getD_some]
    exact fits_lo8 _
end StrChars.Road
namespace StrChars.Road
open Jvm Sem ClassFile Op Lib Jvm.Stand Jvm.Free Jvm.Free.XT
/-- WHAT COMES BACK, in the writer's own shape -/
def QV (Z : State) (x : Addr) (N : Int32) (bs : List Int32) (h : Heap) (n0 : Nat) (v : Option Value) (h' : Heap) (L : List Loc) : Prop := v = none ∧ RoadKit.Fr n0 L ∧ RoadKit.Keep h h' [x] ∧ RoadKit.Exa Z h' x ST ∧ RoadKit.Fld Z h' x ST "coder" "B" (.int 0) ∧
  ∃ (t : Addr) (kb : ClassId), n0 ≤ t ∧ h.size ≤ t ∧ ¬ t = x ∧ RoadKit.Fld Z h' x ST "value" "[B" (.ref t) ∧ RoadKit.Arv Z h' t kb .byte N (bs.map Value.int) (.int 0)
/-- **new String(chars) AT A CALL, FOR THE WRITER**: a char[] of n known ints, each 0 to 255 -/
theorem backV {p : Program} {l : Launch} {e : Env} {R : Room} {s : State} {args : Array Value} {below : List Frame} {len W : Nat} {Z : State} {a0 : Array Value} {h : Heap} (hZ : Z.Warmed39 s.vm) (hw : ∀ d ∈ words, d.before a0 Z = true) {kI : Nat} (wi : (Jvm.Cond.instantiable ST kI).before a0 Z = true)
    {x b : Addr} {kC : ClassId} {cs bs : List Int32} {d v0 c0 : Value} {z N : Int32} {n n0 : Nat} (hx0 : n0 ≤ x) (hh0 : n0 ≤ h.size) (E : RoadKit.Exa Z h x ST) (V : RoadKit.Fld Z h x ST "value" "[B" v0) (C : RoadKit.Fld Z h x ST "coder" "B" c0) (K : RoadKit.Arv Z h b kC .char N (cs.map Value.int) d) (S : RoadKit.Sta Z h ST "COMPACT_STRINGS" "Z" (.int z)) (hz : ¬ z = 0)
    (hn : cs.length = n) (hN : N = Int32.ofNat n) (l0 : 0 < n) (l2 : n ≤ 4000) (hp : ∀ c ∈ cs, ¬ c < 0 ∧ ¬ (255 : Int32) < c) (hb : bs = cs.map (fun c => c.toInt8.toInt32)) (hfr : 4 ≤ R.frames) (hlo : W + 65 ≤ R.locals) :
    Back l R p e below s args (⟨"java/lang/String", "<init>", "([C)V"⟩ : MethodName) len W (fun P a => a = #[.ref x, .ref b] ∧ P.U.heap = h ∧ P.cells + 1 ≤ R.cells ∧ P.slots + n ≤ R.slots)
      (fun P _ v B => ∃ L, QV Z x N bs h n0 v B.U.heap L ∧ B.locs = P.locs ++ L ∧ B.cells = P.cells + 1 ∧ B.slots = P.slots + n) := by
  subst hn hN hb
  refine Back.mono (backArv hZ hw wi E V C K S hz (n32 (by omega)) l0 (by omega) (fun c hc => (hp c hc).2) hfr hlo) (fun P a hp => hp) (fun P a v B hp hq => ?_)
  obtain ⟨L, ⟨q1, q2, q3, q4, q5, q6, q7, ⟨kb, v1, v2⟩, q9⟩, hl, hc, hs⟩ := hq
  exact ⟨L, ⟨q1, fun y hy => by rw [q2 y hy]; exact hx0, q3, q5, q7, h.size, kb, hh0, Nat.le_refl _, Nat.ne_of_gt E.lt, q6, by rw [List.map_map]; exact v2⟩, hl, hc, hs⟩
end StrChars.Road
end Jvm.Pilot.@@N@@
namespace Jvm.Pilot.@@N@@
open Jvm Jvm.ClassFile Sem Op Lib Jvm.Free Jvm.Stand Jvm.LawKit Jvm.RoadKit Bundle Jvm.Own Jvm.Pilot.@@N@@.Jvm.D
theorem own_EL {Z : State} {a0 : Array Value} (hw : ∀ d ∈ tables_1, d.before a0 Z = true) : EW Z a0 ([] : List (String × Nat)) := EW.nil
theorem own_hws {Z : State} {a0 : Array Value} (hw : ∀ d ∈ tables_1, d.before a0 Z = true) : ∀ d ∈ StrChars.Road.words, d.before a0 Z = true := fun d hd => hw d ((by decide +kernel : ∀ d ∈ StrChars.Road.words, d ∈ tables_1) d hd)
theorem e0_0 : decode jdk_30_method_1_code 0 = .ok (.aload_n 0, 1) := by decide +kernel
theorem e0_1 : decode jdk_30_method_1_code 1 = .ok (.invokespecial 1, 3) := by decide +kernel
theorem e0_4 : decode jdk_30_method_1_code 4 = .ok (.return_, 1) := by decide +kernel
theorem pn0 : plainName "java/lang/Record" = true := by first | (simp [plainName, overriddenIn]; done) | decide +kernel
set_option maxRecDepth 65536 in
set_option maxHeartbeats 40000000 in
theorem con_rec (l : Launch) (Z : State) (a0 : Array Value) (hw : ∀ d ∈ tables_1, d.before a0 Z = true) (x : Addr) (h0 : Heap) (O0 : Ext Z.heap h0) :
    Con l Z ([] : List (String × Nat)) true (⟨"java/lang/Record", "<init>", "()V"⟩ : MethodName) jdk_30_method_1_code 1 none [] ({ frames := 1, cells := 0, slots := 0, locals := 12 } : Room) #[(.ref x)] [] h0 (fun v h => v = none ∧ h = h0) := by
  refine Con.intro (Ls := #[.val (.ref x)]) (plainFor_of_name pn0) (own_EL hw) O0 (fun m => by first | rfl | (simp [entryFrame, mkF, argsToLocals, Value.category]; done)) (fun p e s m below meth cc_ T w sf_ => ?_)
  have E0 := ext_refl h0
  refine g_aloadN w e0_0 (q := 1) rfl rfl rfl ?_
  refine g_initO w e0_1 (q := 4) rfl rfl (hw _ (List.mem_of_getElem? (i := 49) rfl)) (hw _ (List.mem_of_getElem? (i := 20) rfl)) (hw _ (List.mem_of_getElem? (i := 21) rfl)) (W := 0) (Nat.le_of_eq rfl) (by decide) (by decide) (fun T w => ?_)
  exact g_return w e0_4 rfl (by decide) (by decide) ⟨rfl, rfl⟩
theorem e1_0 : decode method_3_code 0 = .ok (.iconst 2, 1) := by decide +kernel
theorem e1_1 : decode method_3_code 1 = .ok (.newarray .char, 2) := by decide +kernel
theorem e1_3 : decode method_3_code 3 = .ok (.astore_n 1, 1) := by decide +kernel
theorem e1_4 : decode method_3_code 4 = .ok (.aload_n 1, 1) := by decide +kernel
theorem e1_5 : decode method_3_code 5 = .ok (.iconst 0, 1) := by decide +kernel
theorem e1_6 : decode method_3_code 6 = .ok (.iload_n 0, 1) := by decide +kernel
theorem e1_7 : decode method_3_code 7 = .ok (.sipush 255, 3) := by decide +kernel
theorem e1_10 : decode method_3_code 10 = .ok (.iand, 1) := by decide +kernel
theorem e1_11 : decode method_3_code 11 = .ok (.i2c, 1) := by decide +kernel
theorem e1_12 : decode method_3_code 12 = .ok (.castore, 1) := by decide +kernel
theorem e1_13 : decode method_3_code 13 = .ok (.aload_n 1, 1) := by decide +kernel
theorem e1_14 : decode method_3_code 14 = .ok (.iconst 1, 1) := by decide +kernel
theorem e1_15 : decode method_3_code 15 = .ok (.iload_n 0, 1) := by decide +kernel
theorem e1_16 : decode method_3_code 16 = .ok (.bipush 8, 2) := by decide +kernel
theorem e1_18 : decode method_3_code 18 = .ok (.iushr, 1) := by decide +kernel
theorem e1_19 : decode method_3_code 19 = .ok (.sipush 255, 3) := by decide +kernel
theorem e1_22 : decode method_3_code 22 = .ok (.iand, 1) := by decide +kernel
theorem e1_23 : decode method_3_code 23 = .ok (.i2c, 1) := by decide +kernel
theorem e1_24 : decode method_3_code 24 = .ok (.castore, 1) := by decide +kernel
theorem e1_25 : decode method_3_code 25 = .ok (.new 49, 3) := by decide +kernel
theorem e1_28 : decode method_3_code 28 = .ok (.dup, 1) := by decide +kernel
theorem e1_29 : decode method_3_code 29 = .ok (.aload_n 1, 1) := by decide +kernel
theorem e1_30 : decode method_3_code 30 = .ok (.invokespecial 54, 3) := by decide +kernel
theorem e1_33 : decode method_3_code 33 = .ok (.areturn, 1) := by decide +kernel
theorem pd0 : parseMethodDescriptor "([C)V" = some ⟨[(.array .char)], none⟩ := by decide +kernel
theorem pn1 : plainName "com/example/ontoscribe/ontoscribe/sdml/VariantShownNamePinLaw" = true := by first | (simp [plainName, overriddenIn]; done) | decide +kernel
set_option maxRecDepth 65536 in
set_option maxHeartbeats 40000000 in
theorem con_two (l : Launch) (Z : State) (a0 : Array Value) (hw : ∀ d ∈ tables_1, d.before a0 Z = true) (i_ : Int32) (h0 : Heap) (O0 : Ext Z.heap h0) (hcm : Cpt Z) :
    Con l Z ([] : List (String × Nat)) true (⟨"com/example/ontoscribe/ontoscribe/sdml/VariantShownNamePinLaw", "two", "(I)Ljava/lang/String;"⟩ : MethodName) method_3_code 2 (some (.object "java/lang/String")) [] ({ frames := 4, cells := 3, slots := 8, locals := 66 } : Room) #[(.int i_)] [] h0 (fun v h => ∃ x, v = some (.ref x) ∧ Ext h0 h ∧ h0.size ≤ x ∧ Sg Z h x [(i_ &&& (255 : Int32)), ((Jvm.Free.XT.ushr i_ (8 : Int32)) &&& (255 : Int32))]) := by
  refine Con.intro (Ls := #[.val (.int i_), .unset]) (plainFor_of_name pn1) (own_EL hw) O0 (fun m => by first | rfl | (simp [entryFrame, mkF, argsToLocals, Value.category]; done)) (fun p e s m below meth cc_ T w sf_ => ?_)
  have E0 := ext_refl h0
  obtain ⟨z_, hz_, SC_⟩ := id hcm
  refine g_iconst w e1_0 (q := 1) rfl (v := (2 : Int32)) (by decide) ?_
  refine g_newarr w e1_1 (q := 3) rfl (hw _ (List.mem_of_getElem? (i := 8) rfl)) (len := 2) (cap := 2) (by decide) (by decide) (by decide) (by decide) (by decide) (fun T h a1 w E g_a1 n_a1 A_a1 s_a1 => ?_)
  have z_a1 := Nat.le_trans E0.1 g_a1
  replace E0 := ext_trans E0 E
  replace A_a1 : Ar Z h a1 .char [(.int (0 : Int32)), (.int (0 : Int32))] := A_a1
  refine g_astoreN w e1_3 (q := 4) rfl rfl (Ls' := #[.val (.int i_), .val (.ref a1)]) rfl ?_
  refine g_aloadN w e1_4 (q := 5) rfl rfl rfl ?_
  refine g_iconst w e1_5 (q := 6) rfl (v := (0 : Int32)) (by decide) ?_
  refine g_iloadN w e1_6 (q := 7) rfl rfl ?_
  refine g_sipush w e1_7 (q := 10) rfl (v := (255 : Int32)) (by decide) ?_
  refine g_iand w e1_10 (q := 11) rfl ?_
  refine g_i2cM w e1_11 (q := 12) rfl ?_
  refine g_castore w e1_12 (q := 13) rfl A_a1 (i := 0) (by decide) (Nat.le_of_ble_eq_true rfl) (x' := (i_ &&& (255 : Int32))) (nar_lat (mask255 _)) n_a1 (w.safeAr A_a1 (by decide)) (fun T h w W V => ?_)
  replace E0 := ext_wr E0 W z_a1
  replace A_a1 : Ar Z h a1 .char [(.int (i_ &&& (255 : Int32))), (.int (0 : Int32))] := V
  refine g_aloadN w e1_13 (q := 14) rfl rfl rfl ?_
  refine g_iconst w e1_14 (q := 15) rfl (v := (1 : Int32)) (by decide) ?_
  refine g_iloadN w e1_15 (q := 16) rfl rfl ?_
  refine g_bipush w e1_16 (q := 18) rfl (v := (8 : Int32)) (by decide) ?_
  refine g_iushr w e1_18 (q := 19) rfl ?_
  refine g_sipush w e1_19 (q := 22) rfl (v := (255 : Int32)) (by decide) ?_
  refine g_iand w e1_22 (q := 23) rfl ?_
  refine g_i2cM w e1_23 (q := 24) rfl ?_
  refine g_castore w e1_24 (q := 25) rfl A_a1 (i := 1) (by decide) (Nat.le_of_ble_eq_true rfl) (x' := ((Jvm.Free.XT.ushr i_ (8 : Int32)) &&& (255 : Int32))) (nar_lat (mask255 _)) n_a1 (w.safeAr A_a1 (by decide)) (fun T h w W V => ?_)
  replace E0 := ext_wr E0 W z_a1
  replace A_a1 : Ar Z h a1 .char [(.int (i_ &&& (255 : Int32))), (.int ((Jvm.Free.XT.ushr i_ (8 : Int32)) &&& (255 : Int32)))] := V
  refine g_new w e1_25 (q := 28) rfl (hw _ (List.mem_of_getElem? (i := 9) rfl)) (hw _ (List.mem_of_getElem? (i := 10) rfl)) (hw _ (List.mem_of_getElem? (i := 11) rfl)) (by decide) (by decide) (fun T h a2 w E g_a2 n_a2 X_a2 D_a2 s_a2 => ?_)
  have z_a2 := Nat.le_trans E0.1 g_a2
  have ne_a1_a2 : a1 ≠ a2 := Nat.ne_of_lt (Nat.lt_of_lt_of_le A_a1.lt g_a2)
  replace E0 := ext_trans E0 E
  replace A_a1 := A_a1.ext E
  have F_coder_a2 := D_a2 (Or.inr (hw _ (List.mem_of_getElem? (i := 35) rfl))) (ty := .byte) (by decide)
  replace F_coder_a2 : Fld Z h a2 "java/lang/String" "coder" "B" (.int (0 : Int32)) := F_coder_a2
  have F_value_a2 := D_a2 (Or.inr (hw _ (List.mem_of_getElem? (i := 37) rfl))) (ty := (.array .byte)) (by decide)
  replace F_value_a2 : Fld Z h a2 "java/lang/String" "value" "[B" .null := F_value_a2
  refine g_dup w e1_28 (q := 29) rfl rfl ?_
  refine g_aloadN w e1_29 (q := 30) rfl rfl rfl ?_
  obtain ⟨-, kC, dC, KC⟩ := A_a1
  refine g_specialB w (a := a2) (argsL := [.ref a1]) (kc := 1) (ks := 2) (wr := [a2]) (fun s' hZ' => StrChars.Road.backV (W := 1) (len := 3) (n0 := Z.heap.size) hZ' (own_hws hw) (kI := 4) (hw _ (List.mem_of_getElem? (i := 10) rfl)) (cs := [(i_ &&& (255 : Int32)), ((Jvm.Free.XT.ushr i_ (8 : Int32)) &&& (255 : Int32))]) (n := 2) n_a2 w.old.1 X_a2 F_value_a2 F_coder_a2 KC (w.sta SC_) hz_ rfl rfl (by decide) (by decide) (csS (mask255 _) (csS (mask255 _) cs0)) rfl (by decide) (by decide)) (fun v h' L q => ⟨q.2.1, q.2.2.1⟩) (in1 (safe_null w.wz.alike (hw _ (List.mem_of_getElem? (i := 10) rfl)) X_a2 F_value_a2)) (in1 n_a2) e1_30 (q := 33) rfl rfl rfl (hw _ (List.mem_of_getElem? (i := 12) rfl)) (hw _ (List.mem_of_getElem? (i := 13) rfl)) (hw _ (List.mem_of_getElem? (i := 14) rfl)) (by decide) pd0 rfl rfl (W := 1) (Nat.le_of_eq rfl) (by decide) (by decide) (fun T h v L w q => ?_)
  obtain ⟨rfl, -, K, X_t, F_c, t_, kb_, -, -, -, F_v, A_t⟩ := q
  replace E0 := ext_keep E0 K z_a2
  have X0 := X_a2
  replace X_a2 := X_a2.keep K
  have S_a2 : Sg Z h a2 [(i_ &&& (255 : Int32)), ((Jvm.Free.XT.ushr i_ (8 : Int32)) &&& (255 : Int32))] := ⟨Nat.le_of_ble_eq_true rfl, (csS (mask255 _) (csS (mask255 _) cs0)), X_t, t_, kb_, F_v, F_c, A_t⟩
  show Go p e below _ (State.setTop T (mkF m 33 #[.val (.int i_), .val (.ref a1)] [(.ref a2)]))
  exact g_reta w e1_33 rfl rfl rfl (by decide) (by decide) ⟨_, rfl, E0, z_a2, S_a2⟩
theorem e2_0 : decode prog_31_method_1_code 0 = .ok (.aload_n 0, 1) := by decide +kernel
theorem e2_1 : decode prog_31_method_1_code 1 = .ok (.invokespecial 1, 3) := by decide +kernel
theorem e2_4 : decode prog_31_method_1_code 4 = .ok (.aload_n 0, 1) := by decide +kernel
theorem e2_5 : decode prog_31_method_1_code 5 = .ok (.aload_n 1, 1) := by decide +kernel
theorem e2_6 : decode prog_31_method_1_code 6 = .ok (.putfield 7, 3) := by decide +kernel
theorem e2_9 : decode prog_31_method_1_code 9 = .ok (.aload_n 0, 1) := by decide +kernel
theorem e2_10 : decode prog_31_method_1_code 10 = .ok (.aload_n 2, 1) := by decide +kernel
theorem e2_11 : decode prog_31_method_1_code 11 = .ok (.putfield 13, 3) := by decide +kernel
theorem e2_14 : decode prog_31_method_1_code 14 = .ok (.aload_n 0, 1) := by decide +kernel
theorem e2_15 : decode prog_31_method_1_code 15 = .ok (.aload_n 3, 1) := by decide +kernel
theorem e2_16 : decode prog_31_method_1_code 16 = .ok (.putfield 17, 3) := by decide +kernel
theorem e2_19 : decode prog_31_method_1_code 19 = .ok (.aload_n 0, 1) := by decide +kernel
theorem e2_20 : decode prog_31_method_1_code 20 = .ok (.aload 4, 2) := by decide +kernel
theorem e2_22 : decode prog_31_method_1_code 22 = .ok (.putfield 20, 3) := by decide +kernel
theorem e2_25 : decode prog_31_method_1_code 25 = .ok (.return_, 1) := by decide +kernel
theorem pd1 : parseMethodDescriptor "()V" = some ⟨[], none⟩ := by decide +kernel
theorem pn2 : plainName "com/example/ontoscribe/ontoscribe/sdml/Module$Reference" = true := by first | (simp [plainName, overriddenIn]; done) | decide +kernel
set_option maxRecDepth 65536 in
set_option maxHeartbeats 40000000 in
theorem con_ref1 (l : Launch) (Z : State) (a0 : Array Value) (hw : ∀ d ∈ tables_1, d.before a0 Z = true) (x : Addr) (f1 : Addr) (f2 : Addr) (f3 : Addr) (h0 : Heap) (O0 : Ext Z.heap h0) (X_x : Exa Z h0 x "com/example/ontoscribe/ontoscribe/sdml/Module$Reference") (F_form_x : Fld Z h0 x "com/example/ontoscribe/ontoscribe/sdml/Module$Reference" "form" "Lcom/example/ontoscribe/ontoscribe/sdml/Module$Reference$Form;" .null) (F_module_x : Fld Z h0 x "com/example/ontoscribe/ontoscribe/sdml/Module$Reference" "module" "Ljava/lang/String;" .null) (F_name_x : Fld Z h0 x "com/example/ontoscribe/ontoscribe/sdml/Module$Reference" "name" "Ljava/lang/String;" .null) (F_position_x : Fld Z h0 x "com/example/ontoscribe/ontoscribe/sdml/Module$Reference" "position" "Lcom/example/ontoscribe/ontoscribe/diagnostics/Position;" .null) (n_x : Z.heap.size ≤ x) :
    Con l Z ([] : List (String × Nat)) true (⟨"com/example/ontoscribe/ontoscribe/sdml/Module$Reference", "<init>", "(Lcom/example/ontoscribe/ontoscribe/sdml/Module$Reference$Form;Ljava/lang/String;Ljava/lang/String;Lcom/example/ontoscribe/ontoscribe/diagnostics/Position;)V"⟩ : MethodName) prog_31_method_1_code 5 none [] ({ frames := 2, cells := 0, slots := 0, locals := 24 } : Room) #[(.ref x), (.ref f1), (.ref f2), (.ref f3), .null] [] h0 (fun v h => v = none ∧ Keep h0 h [x] ∧ Fld Z h x "com/example/ontoscribe/ontoscribe/sdml/Module$Reference" "form" "Lcom/example/ontoscribe/ontoscribe/sdml/Module$Reference$Form;" (.ref f1) ∧ Fld Z h x "com/example/ontoscribe/ontoscribe/sdml/Module$Reference" "module" "Ljava/lang/String;" (.ref f2) ∧ Fld Z h x "com/example/ontoscribe/ontoscribe/sdml/Module$Reference" "name" "Ljava/lang/String;" (.ref f3) ∧ Fld Z h x "com/example/ontoscribe/ontoscribe/sdml/Module$Reference" "position" "Lcom/example/ontoscribe/ontoscribe/diagnostics/Position;" .null) := by
  refine Con.intro (Ls := #[.val (.ref x), .val (.ref f1), .val (.ref f2), .val (.ref f3), .val .null]) (plainFor_of_name pn2) (own_EL hw) O0 (fun m => by first | rfl | (simp [entryFrame, mkF, argsToLocals, Value.category]; done)) (fun p e s m below meth cc_ T w sf_ => ?_)
  have K0 := Keep.refl h0 [x]
  refine g_aloadN w e2_0 (q := 1) rfl rfl rfl ?_
  refine g_specialP w (con_rec l Z a0 hw x _ w.old) no0 e2_1 (q := 4) rfl rfl rfl (hw _ (List.mem_of_getElem? (i := 44) rfl)) (hw _ (List.mem_of_getElem? (i := 45) rfl)) (hw _ (List.mem_of_getElem? (i := 47) rfl)) (hw _ (List.mem_of_getElem? (i := 48) rfl)) (by decide) pd1 rfl rfl (W := 0) (Nat.le_of_eq rfl) (by decide) (by decide) (by decide) (by decide) (fun T v w C q => ?_)
  obtain rfl := q
  show Go p e below _ (State.setTop T (mkF m 4 #[.val (.ref x), .val (.ref f1), .val (.ref f2), .val (.ref f3), .val .null] []))
  refine g_aloadN w e2_4 (q := 5) rfl rfl rfl ?_
  refine g_aloadN w e2_5 (q := 6) rfl rfl rfl ?_
  have g_ := w.chv
  refine g_putF w e2_6 (q := 9) rfl (hw _ (List.mem_of_getElem? (i := 50) rfl)) Via.refl F_form_x X_x (Or.inr ⟨(hw _ (List.mem_of_getElem? (i := 51) rfl)), rfl, rfl⟩) (hw _ (List.mem_of_getElem? (i := 39) rfl)) (ty := (.object "com/example/ontoscribe/ontoscribe/sdml/Module$Reference$Form")) (by decide) (v' := (.ref f1)) rfl rfl n_x (w.safe X_x (by decide) (by decide)) (fun T h w W => ?_)
  replace K0 := K0.wr W (Or.inl (List.mem_singleton.mpr rfl))
  replace X_x := X_x.wr W
  replace F_form_x := F_form_x.same W
  replace F_module_x := F_module_x.other W (Or.inr (slot_ne (Or.inr (hw _ (List.mem_of_getElem? (i := 53) rfl))) (Or.inr (hw _ (List.mem_of_getElem? (i := 51) rfl))) (by decide) (t := (.object "java/lang/String")) (t' := (.object "com/example/ontoscribe/ontoscribe/sdml/Module$Reference$Form")) (by decide) (by decide)))
  replace F_name_x := F_name_x.other W (Or.inr (slot_ne (Or.inr (hw _ (List.mem_of_getElem? (i := 55) rfl))) (Or.inr (hw _ (List.mem_of_getElem? (i := 51) rfl))) (by decide) (t := (.object "java/lang/String")) (t' := (.object "com/example/ontoscribe/ontoscribe/sdml/Module$Reference$Form")) (by decide) (by decide)))
  replace F_position_x := F_position_x.other W (Or.inr (slot_ne (Or.inr (hw _ (List.mem_of_getElem? (i := 57) rfl))) (Or.inr (hw _ (List.mem_of_getElem? (i := 51) rfl))) (by decide) (t := (.object "com/example/ontoscribe/ontoscribe/diagnostics/Position")) (t' := (.object "com/example/ontoscribe/ontoscribe/sdml/Module$Reference$Form")) (by decide) (by decide)))
  refine g_aloadN w e2_9 (q := 10) rfl rfl rfl ?_
  refine g_aloadN w e2_10 (q := 11) rfl rfl rfl ?_
  have g_ := w.chv
  refine g_putF w e2_11 (q := 14) rfl (hw _ (List.mem_of_getElem? (i := 52) rfl)) Via.refl F_module_x X_x (Or.inr ⟨(hw _ (List.mem_of_getElem? (i := 53) rfl)), rfl, rfl⟩) (hw _ (List.mem_of_getElem? (i := 39) rfl)) (ty := (.object "java/lang/String")) (by decide) (v' := (.ref f2)) rfl rfl n_x (w.safe X_x (by decide) (by decide)) (fun T h w W => ?_)
  replace K0 := K0.wr W (Or.inl (List.mem_singleton.mpr rfl))
  replace X_x := X_x.wr W
  replace F_form_x := F_form_x.other W (Or.inr (slot_ne (Or.inr (hw _ (List.mem_of_getElem? (i := 51) rfl))) (Or.inr (hw _ (List.mem_of_getElem? (i := 53) rfl))) (by decide) (t := (.object "com/example/ontoscribe/ontoscribe/sdml/Module$Reference$Form")) (t' := (.object "java/lang/String")) (by decide) (by decide)))
  replace F_module_x := F_module_x.same W
  replace F_name_x := F_name_x.other W (Or.inr (slot_ne (Or.inr (hw _ (List.mem_of_getElem? (i := 55) rfl))) (Or.inr (hw _ (List.mem_of_getElem? (i := 53) rfl))) (by decide) (t := (.object "java/lang/String")) (t' := (.object "java/lang/String")) (by decide) (by decide)))
  replace F_position_x := F_position_x.other W (Or.inr (slot_ne (Or.inr (hw _ (List.mem_of_getElem? (i := 57) rfl))) (Or.inr (hw _ (List.mem_of_getElem? (i := 53) rfl))) (by decide) (t := (.object "com/example/ontoscribe/ontoscribe/diagnostics/Position")) (t' := (.object "java/lang/String")) (by decide) (by decide)))
  refine g_aloadN w e2_14 (q := 15) rfl rfl rfl ?_
  refine g_aloadN w e2_15 (q := 16) rfl rfl rfl ?_
  have g_ := w.chv
  refine g_putF w e2_16 (q := 19) rfl (hw _ (List.mem_of_getElem? (i := 54) rfl)) Via.refl F_name_x X_x (Or.inr ⟨(hw _ (List.mem_of_getElem? (i := 55) rfl)), rfl, rfl⟩) (hw _ (List.mem_of_getElem? (i := 39) rfl)) (ty := (.object "java/lang/String")) (by decide) (v' := (.ref f3)) rfl rfl n_x (w.safe X_x (by decide) (by decide)) (fun T h w W => ?_)
  replace K0 := K0.wr W (Or.inl (List.mem_singleton.mpr rfl))
  replace X_x := X_x.wr W
  replace F_form_x := F_form_x.other W (Or.inr (slot_ne (Or.inr (hw _ (List.mem_of_getElem? (i := 51) rfl))) (Or.inr (hw _ (List.mem_of_getElem? (i := 55) rfl))) (by decide) (t := (.object "com/example/ontoscribe/ontoscribe/sdml/Module$Reference$Form")) (t' := (.object "java/lang/String")) (by decide) (by decide)))
  replace F_module_x := F_module_x.other W (Or.inr (slot_ne (Or.inr (hw _ (List.mem_of_getElem? (i := 53) rfl))) (Or.inr (hw _ (List.mem_of_getElem? (i := 55) rfl))) (by decide) (t := (.object "java/lang/String")) (t' := (.object "java/lang/String")) (by decide) (by decide)))
  replace F_name_x := F_name_x.same W
  replace F_position_x := F_position_x.other W (Or.inr (slot_ne (Or.inr (hw _ (List.mem_of_getElem? (i := 57) rfl))) (Or.inr (hw _ (List.mem_of_getElem? (i := 55) rfl))) (by decide) (t := (.object "com/example/ontoscribe/ontoscribe/diagnostics/Position")) (t' := (.object "java/lang/String")) (by decide) (by decide)))
  refine g_aloadN w e2_19 (q := 20) rfl rfl rfl ?_
  refine g_aload w e2_20 (q := 22) rfl rfl rfl ?_
  have g_ := w.chv
  refine g_putF w e2_22 (q := 25) rfl (hw _ (List.mem_of_getElem? (i := 56) rfl)) Via.refl F_position_x X_x (Or.inr ⟨(hw _ (List.mem_of_getElem? (i := 57) rfl)), rfl, rfl⟩) (hw _ (List.mem_of_getElem? (i := 39) rfl)) (ty := (.object "com/example/ontoscribe/ontoscribe/diagnostics/Position")) (by decide) (v' := .null) rfl rfl n_x (w.safe X_x (by decide) (by decide)) (fun T h w W => ?_)
  replace K0 := K0.wr W (Or.inl (List.mem_singleton.mpr rfl))
  replace X_x := X_x.wr W
  replace F_form_x := F_form_x.other W (Or.inr (slot_ne (Or.inr (hw _ (List.mem_of_getElem? (i := 51) rfl))) (Or.inr (hw _ (List.mem_of_getElem? (i := 57) rfl))) (by decide) (t := (.object "com/example/ontoscribe/ontoscribe/sdml/Module$Reference$Form")) (t' := (.object "com/example/ontoscribe/ontoscribe/diagnostics/Position")) (by decide) (by decide)))
  replace F_module_x := F_module_x.other W (Or.inr (slot_ne (Or.inr (hw _ (List.mem_of_getElem? (i := 53) rfl))) (Or.inr (hw _ (List.mem_of_getElem? (i := 57) rfl))) (by decide) (t := (.object "java/lang/String")) (t' := (.object "com/example/ontoscribe/ontoscribe/diagnostics/Position")) (by decide) (by decide)))
  replace F_name_x := F_name_x.other W (Or.inr (slot_ne (Or.inr (hw _ (List.mem_of_getElem? (i := 55) rfl))) (Or.inr (hw _ (List.mem_of_getElem? (i := 57) rfl))) (by decide) (t := (.object "java/lang/String")) (t' := (.object "com/example/ontoscribe/ontoscribe/diagnostics/Position")) (by decide) (by decide)))
  replace F_position_x := F_position_x.same W
  exact g_return w e2_25 rfl (by decide) (by decide) ⟨rfl, K0, F_form_x, F_module_x, F_name_x, F_position_x⟩
set_option maxRecDepth 65536 in
set_option maxHeartbeats 40000000 in
theorem con_ref0 (l : Launch) (Z : State) (a0 : Array Value) (hw : ∀ d ∈ tables_1, d.before a0 Z = true) (x : Addr) (f1 : Addr) (f3 : Addr) (h0 : Heap) (O0 : Ext Z.heap h0) (X_x : Exa Z h0 x "com/example/ontoscribe/ontoscribe/sdml/Module$Reference") (F_form_x : Fld Z h0 x "com/example/ontoscribe/ontoscribe/sdml/Module$Reference" "form" "Lcom/example/ontoscribe/ontoscribe/sdml/Module$Reference$Form;" .null) (F_module_x : Fld Z h0 x "com/example/ontoscribe/ontoscribe/sdml/Module$Reference" "module" "Ljava/lang/String;" .null) (F_name_x : Fld Z h0 x "com/example/ontoscribe/ontoscribe/sdml/Module$Reference" "name" "Ljava/lang/String;" .null) (F_position_x : Fld Z h0 x "com/example/ontoscribe/ontoscribe/sdml/Module$Reference" "position" "Lcom/example/ontoscribe/ontoscribe/diagnostics/Position;" .null) (n_x : Z.heap.size ≤ x) :
    Con l Z ([] : List (String × Nat)) true (⟨"com/example/ontoscribe/ontoscribe/sdml/Module$Reference", "<init>", "(Lcom/example/ontoscribe/ontoscribe/sdml/Module$Reference$Form;Ljava/lang/String;Ljava/lang/String;Lcom/example/ontoscribe/ontoscribe/diagnostics/Position;)V"⟩ : MethodName) prog_31_method_1_code 5 none [] ({ frames := 2, cells := 0, slots := 0, locals := 24 } : Room) #[(.ref x), (.ref f1), .null, (.ref f3), .null] [] h0 (fun v h => v = none ∧ Keep h0 h [x] ∧ Fld Z h x "com/example/ontoscribe/ontoscribe/sdml/Module$Reference" "form" "Lcom/example/ontoscribe/ontoscribe/sdml/Module$Reference$Form;" (.ref f1) ∧ Fld Z h x "com/example/ontoscribe/ontoscribe/sdml/Module$Reference" "module" "Ljava/lang/String;" .null ∧ Fld Z h x "com/example/ontoscribe/ontoscribe/sdml/Module$Reference" "name" "Ljava/lang/String;" (.ref f3) ∧ Fld Z h x "com/example/ontoscribe/ontoscribe/sdml/Module$Reference" "position" "Lcom/example/ontoscribe/ontoscribe/diagnostics/Position;" .null) := by
  refine Con.intro (Ls := #[.val (.ref x), .val (.ref f1), .val .null, .val (.ref f3), .val .null]) (plainFor_of_name pn2) (own_EL hw) O0 (fun m => by first | rfl | (simp [entryFrame, mkF, argsToLocals, Value.category]; done)) (fun p e s m below meth cc_ T w sf_ => ?_)
  have K0 := Keep.refl h0 [x]
  refine g_aloadN w e2_0 (q := 1) rfl rfl rfl ?_
  refine g_specialP w (con_rec l Z a0 hw x _ w.old) no0 e2_1 (q := 4) rfl rfl rfl (hw _ (List.mem_of_getElem? (i := 44) rfl)) (hw _ (List.mem_of_getElem? (i := 45) rfl)) (hw _ (List.mem_of_getElem? (i := 47) rfl)) (hw _ (List.mem_of_getElem? (i := 48) rfl)) (by decide) pd1 rfl rfl (W := 0) (Nat.le_of_eq rfl) (by decide) (by decide) (by decide) (by decide) (fun T v w C q => ?_)
  obtain rfl := q
  show Go p e below _ (State.setTop T (mkF m 4 #[.val (.ref x), .val (.ref f1), .val .null, .val (.ref f3), .val .null] []))
  refine g_aloadN w e2_4 (q := 5) rfl rfl rfl ?_
  refine g_aloadN w e2_5 (q := 6) rfl rfl rfl ?_
  have g_ := w.chv
  refine g_putF w e2_6 (q := 9) rfl (hw _ (List.mem_of_getElem? (i := 50) rfl)) Via.refl F_form_x X_x (Or.inr ⟨(hw _ (List.mem_of_getElem? (i := 51) rfl)), rfl, rfl⟩) (hw _ (List.mem_of_getElem? (i := 39) rfl)) (ty := (.object "com/example/ontoscribe/ontoscribe/sdml/Module$Reference$Form")) (by decide) (v' := (.ref f1)) rfl rfl n_x (w.safe X_x (by decide) (by decide)) (fun T h w W => ?_)
  replace K0 := K0.wr W (Or.inl (List.mem_singleton.mpr rfl))
  replace X_x := X_x.wr W
  replace F_form_x := F_form_x.same W
  replace F_module_x := F_module_x.other W (Or.inr (slot_ne (Or.inr (hw _ (List.mem_of_getElem? (i := 53) rfl))) (Or.inr (hw _ (List.mem_of_getElem? (i := 51) rfl))) (by decide) (t := (.object "java/lang/String")) (t' := (.object "com/example/ontoscribe/ontoscribe/sdml/Module$Reference$Form")) (by decide) (by decide)))
  replace F_name_x := F_name_x.other W (Or.inr (slot_ne (Or.inr (hw _ (List.mem_of_getElem? (i := 55) rfl))) (Or.inr (hw _ (List.mem_of_getElem? (i := 51) rfl))) (by decide) (t := (.object "java/lang/String")) (t' := (.object "com/example/ontoscribe/ontoscribe/sdml/Module$Reference$Form")) (by decide) (by decide)))
  replace F_position_x := F_position_x.other W (Or.inr (slot_ne (Or.inr (hw _ (List.mem_of_getElem? (i := 57) rfl))) (Or.inr (hw _ (List.mem_of_getElem? (i := 51) rfl))) (by decide) (t := (.object "com/example/ontoscribe/ontoscribe/diagnostics/Position")) (t' := (.object "com/example/ontoscribe/ontoscribe/sdml/Module$Reference$Form")) (by decide) (by decide)))
  refine g_aloadN w e2_9 (q := 10) rfl rfl rfl ?_
  refine g_aloadN w e2_10 (q := 11) rfl rfl rfl ?_
  have g_ := w.chv
  refine g_putF w e2_11 (q := 14) rfl (hw _ (List.mem_of_getElem? (i := 52) rfl)) Via.refl F_module_x X_x (Or.inr ⟨(hw _ (List.mem_of_getElem? (i := 53) rfl)), rfl, rfl⟩) (hw _ (List.mem_of_getElem? (i := 39) rfl)) (ty := (.object "java/lang/String")) (by decide) (v' := .null) rfl rfl n_x (w.safe X_x (by decide) (by decide)) (fun T h w W => ?_)
  replace K0 := K0.wr W (Or.inl (List.mem_singleton.mpr rfl))
  replace X_x := X_x.wr W
  replace F_form_x := F_form_x.other W (Or.inr (slot_ne (Or.inr (hw _ (List.mem_of_getElem? (i := 51) rfl))) (Or.inr (hw _ (List.mem_of_getElem? (i := 53) rfl))) (by decide) (t := (.object "com/example/ontoscribe/ontoscribe/sdml/Module$Reference$Form")) (t' := (.object "java/lang/String")) (by decide) (by decide)))
  replace F_module_x := F_module_x.same W
  replace F_name_x := F_name_x.other W (Or.inr (slot_ne (Or.inr (hw _ (List.mem_of_getElem? (i := 55) rfl))) (Or.inr (hw _ (List.mem_of_getElem? (i := 53) rfl))) (by decide) (t := (.object "java/lang/String")) (t' := (.object "java/lang/String")) (by decide) (by decide)))
  replace F_position_x := F_position_x.other W (Or.inr (slot_ne (Or.inr (hw _ (List.mem_of_getElem? (i := 57) rfl))) (Or.inr (hw _ (List.mem_of_getElem? (i := 53) rfl))) (by decide) (t := (.object "com/example/ontoscribe/ontoscribe/diagnostics/Position")) (t' := (.object "java/lang/String")) (by decide) (by decide)))
  refine g_aloadN w e2_14 (q := 15) rfl rfl rfl ?_
  refine g_aloadN w e2_15 (q := 16) rfl rfl rfl ?_
  have g_ := w.chv
  refine g_putF w e2_16 (q := 19) rfl (hw _ (List.mem_of_getElem? (i := 54) rfl)) Via.refl F_name_x X_x (Or.inr ⟨(hw _ (List.mem_of_getElem? (i := 55) rfl)), rfl, rfl⟩) (hw _ (List.mem_of_getElem? (i := 39) rfl)) (ty := (.object "java/lang/String")) (by decide) (v' := (.ref f3)) rfl rfl n_x (w.safe X_x (by decide) (by decide)) (fun T h w W => ?_)
  replace K0 := K0.wr W (Or.inl (List.mem_singleton.mpr rfl))
  replace X_x := X_x.wr W
  replace F_form_x := F_form_x.other W (Or.inr (slot_ne (Or.inr (hw _ (List.mem_of_getElem? (i := 51) rfl))) (Or.inr (hw _ (List.mem_of_getElem? (i := 55) rfl))) (by decide) (t := (.object "com/example/ontoscribe/ontoscribe/sdml/Module$Reference$Form")) (t' := (.object "java/lang/String")) (by decide) (by decide)))
  replace F_module_x := F_module_x.other W (Or.inr (slot_ne (Or.inr (hw _ (List.mem_of_getElem? (i := 53) rfl))) (Or.inr (hw _ (List.mem_of_getElem? (i := 55) rfl))) (by decide) (t := (.object "java/lang/String")) (t' := (.object "java/lang/String")) (by decide) (by decide)))
  replace F_name_x := F_name_x.same W
  replace F_position_x := F_position_x.other W (Or.inr (slot_ne (Or.inr (hw _ (List.mem_of_getElem? (i := 57) rfl))) (Or.inr (hw _ (List.mem_of_getElem? (i := 55) rfl))) (by decide) (t := (.object "com/example/ontoscribe/ontoscribe/diagnostics/Position")) (t' := (.object "java/lang/String")) (by decide) (by decide)))
  refine g_aloadN w e2_19 (q := 20) rfl rfl rfl ?_
  refine g_aload w e2_20 (q := 22) rfl rfl rfl ?_
  have g_ := w.chv
  refine g_putF w e2_22 (q := 25) rfl (hw _ (List.mem_of_getElem? (i := 56) rfl)) Via.refl F_position_x X_x (Or.inr ⟨(hw _ (List.mem_of_getElem? (i := 57) rfl)), rfl, rfl⟩) (hw _ (List.mem_of_getElem? (i := 39) rfl)) (ty := (.object "com/example/ontoscribe/ontoscribe/diagnostics/Position")) (by decide) (v' := .null) rfl rfl n_x (w.safe X_x (by decide) (by decide)) (fun T h w W => ?_)
  replace K0 := K0.wr W (Or.inl (List.mem_singleton.mpr rfl))
  replace X_x := X_x.wr W
  replace F_form_x := F_form_x.other W (Or.inr (slot_ne (Or.inr (hw _ (List.mem_of_getElem? (i := 51) rfl))) (Or.inr (hw _ (List.mem_of_getElem? (i := 57) rfl))) (by decide) (t := (.object "com/example/ontoscribe/ontoscribe/sdml/Module$Reference$Form")) (t' := (.object "com/example/ontoscribe/ontoscribe/diagnostics/Position")) (by decide) (by decide)))
  replace F_module_x := F_module_x.other W (Or.inr (slot_ne (Or.inr (hw _ (List.mem_of_getElem? (i := 53) rfl))) (Or.inr (hw _ (List.mem_of_getElem? (i := 57) rfl))) (by decide) (t := (.object "java/lang/String")) (t' := (.object "com/example/ontoscribe/ontoscribe/diagnostics/Position")) (by decide) (by decide)))
  replace F_name_x := F_name_x.other W (Or.inr (slot_ne (Or.inr (hw _ (List.mem_of_getElem? (i := 55) rfl))) (Or.inr (hw _ (List.mem_of_getElem? (i := 57) rfl))) (by decide) (t := (.object "java/lang/String")) (t' := (.object "com/example/ontoscribe/ontoscribe/diagnostics/Position")) (by decide) (by decide)))
  replace F_position_x := F_position_x.same W
  exact g_return w e2_25 rfl (by decide) (by decide) ⟨rfl, K0, F_form_x, F_module_x, F_name_x, F_position_x⟩
theorem e3_0 : decode prog_25_method_1_code 0 = .ok (.aload_n 0, 1) := by decide +kernel
theorem e3_1 : decode prog_25_method_1_code 1 = .ok (.invokespecial 1, 3) := by decide +kernel
theorem e3_4 : decode prog_25_method_1_code 4 = .ok (.aload_n 0, 1) := by decide +kernel
theorem e3_5 : decode prog_25_method_1_code 5 = .ok (.aload_n 1, 1) := by decide +kernel
theorem e3_6 : decode prog_25_method_1_code 6 = .ok (.putfield 7, 3) := by decide +kernel
theorem e3_9 : decode prog_25_method_1_code 9 = .ok (.aload_n 0, 1) := by decide +kernel
theorem e3_10 : decode prog_25_method_1_code 10 = .ok (.aload_n 2, 1) := by decide +kernel
theorem e3_11 : decode prog_25_method_1_code 11 = .ok (.putfield 13, 3) := by decide +kernel
theorem e3_14 : decode prog_25_method_1_code 14 = .ok (.return_, 1) := by decide +kernel
theorem pn3 : plainName "com/example/ontoscribe/ontoscribe/sdml/Module$Identifier" = true := by first | (simp [plainName, overriddenIn]; done) | decide +kernel
set_option maxRecDepth 65536 in
set_option maxHeartbeats 40000000 in
theorem con_id (l : Launch) (Z : State) (a0 : Array Value) (hw : ∀ d ∈ tables_1, d.before a0 Z = true) (x : Addr) (f1 : Addr) (h0 : Heap) (O0 : Ext Z.heap h0) (X_x : Exa Z h0 x "com/example/ontoscribe/ontoscribe/sdml/Module$Identifier") (F_text_x : Fld Z h0 x "com/example/ontoscribe/ontoscribe/sdml/Module$Identifier" "text" "Ljava/lang/String;" .null) (F_position_x : Fld Z h0 x "com/example/ontoscribe/ontoscribe/sdml/Module$Identifier" "position" "Lcom/example/ontoscribe/ontoscribe/diagnostics/Position;" .null) (n_x : Z.heap.size ≤ x) :
    Con l Z ([] : List (String × Nat)) true (⟨"com/example/ontoscribe/ontoscribe/sdml/Module$Identifier", "<init>", "(Ljava/lang/String;Lcom/example/ontoscribe/ontoscribe/diagnostics/Position;)V"⟩ : MethodName) prog_25_method_1_code 3 none [] ({ frames := 2, cells := 0, slots := 0, locals := 24 } : Room) #[(.ref x), (.ref f1), .null] [] h0 (fun v h => v = none ∧ Keep h0 h [x] ∧ Fld Z h x "com/example/ontoscribe/ontoscribe/sdml/Module$Identifier" "text" "Ljava/lang/String;" (.ref f1) ∧ Fld Z h x "com/example/ontoscribe/ontoscribe/sdml/Module$Identifier" "position" "Lcom/example/ontoscribe/ontoscribe/diagnostics/Position;" .null) := by
  refine Con.intro (Ls := #[.val (.ref x), .val (.ref f1), .val .null]) (plainFor_of_name pn3) (own_EL hw) O0 (fun m => by first | rfl | (simp [entryFrame, mkF, argsToLocals, Value.category]; done)) (fun p e s m below meth cc_ T w sf_ => ?_)
  have K0 := Keep.refl h0 [x]
  refine g_aloadN w e3_0 (q := 1) rfl rfl rfl ?_
  refine g_specialP w (con_rec l Z a0 hw x _ w.old) no0 e3_1 (q := 4) rfl rfl rfl (hw _ (List.mem_of_getElem? (i := 64) rfl)) (hw _ (List.mem_of_getElem? (i := 45) rfl)) (hw _ (List.mem_of_getElem? (i := 47) rfl)) (hw _ (List.mem_of_getElem? (i := 48) rfl)) (by decide) pd1 rfl rfl (W := 0) (Nat.le_of_eq rfl) (by decide) (by decide) (by decide) (by decide) (fun T v w C q => ?_)
  obtain rfl := q
  show Go p e below _ (State.setTop T (mkF m 4 #[.val (.ref x), .val (.ref f1), .val .null] []))
  refine g_aloadN w e3_4 (q := 5) rfl rfl rfl ?_
  refine g_aloadN w e3_5 (q := 6) rfl rfl rfl ?_
  have g_ := w.chv
  refine g_putF w e3_6 (q := 9) rfl (hw _ (List.mem_of_getElem? (i := 65) rfl)) Via.refl F_text_x X_x (Or.inr ⟨(hw _ (List.mem_of_getElem? (i := 66) rfl)), rfl, rfl⟩) (hw _ (List.mem_of_getElem? (i := 59) rfl)) (ty := (.object "java/lang/String")) (by decide) (v' := (.ref f1)) rfl rfl n_x (w.safe X_x (by decide) (by decide)) (fun T h w W => ?_)
  replace K0 := K0.wr W (Or.inl (List.mem_singleton.mpr rfl))
  replace X_x := X_x.wr W
  replace F_text_x := F_text_x.same W
  replace F_position_x := F_position_x.other W (Or.inr (slot_ne (Or.inr (hw _ (List.mem_of_getElem? (i := 68) rfl))) (Or.inr (hw _ (List.mem_of_getElem? (i := 66) rfl))) (by decide) (t := (.object "com/example/ontoscribe/ontoscribe/diagnostics/Position")) (t' := (.object "java/lang/String")) (by decide) (by decide)))
  refine g_aloadN w e3_9 (q := 10) rfl rfl rfl ?_
  refine g_aloadN w e3_10 (q := 11) rfl rfl rfl ?_
  have g_ := w.chv
  refine g_putF w e3_11 (q := 14) rfl (hw _ (List.mem_of_getElem? (i := 67) rfl)) Via.refl F_position_x X_x (Or.inr ⟨(hw _ (List.mem_of_getElem? (i := 68) rfl)), rfl, rfl⟩) (hw _ (List.mem_of_getElem? (i := 59) rfl)) (ty := (.object "com/example/ontoscribe/ontoscribe/diagnostics/Position")) (by decide) (v' := .null) rfl rfl n_x (w.safe X_x (by decide) (by decide)) (fun T h w W => ?_)
  replace K0 := K0.wr W (Or.inl (List.mem_singleton.mpr rfl))
  replace X_x := X_x.wr W
  replace F_text_x := F_text_x.other W (Or.inr (slot_ne (Or.inr (hw _ (List.mem_of_getElem? (i := 66) rfl))) (Or.inr (hw _ (List.mem_of_getElem? (i := 68) rfl))) (by decide) (t := (.object "java/lang/String")) (t' := (.object "com/example/ontoscribe/ontoscribe/diagnostics/Position")) (by decide) (by decide)))
  replace F_position_x := F_position_x.same W
  exact g_return w e3_14 rfl (by decide) (by decide) ⟨rfl, K0, F_text_x, F_position_x⟩
theorem e4_0 : decode prog_36_method_1_code 0 = .ok (.aload_n 0, 1) := by decide +kernel
theorem e4_1 : decode prog_36_method_1_code 1 = .ok (.invokespecial 1, 3) := by decide +kernel
theorem e4_4 : decode prog_36_method_1_code 4 = .ok (.aload_n 0, 1) := by decide +kernel
theorem e4_5 : decode prog_36_method_1_code 5 = .ok (.aload_n 1, 1) := by decide +kernel
theorem e4_6 : decode prog_36_method_1_code 6 = .ok (.putfield 7, 3) := by decide +kernel
theorem e4_9 : decode prog_36_method_1_code 9 = .ok (.aload_n 0, 1) := by decide +kernel
theorem e4_10 : decode prog_36_method_1_code 10 = .ok (.aload_n 2, 1) := by decide +kernel
theorem e4_11 : decode prog_36_method_1_code 11 = .ok (.putfield 13, 3) := by decide +kernel
theorem e4_14 : decode prog_36_method_1_code 14 = .ok (.aload_n 0, 1) := by decide +kernel
theorem e4_15 : decode prog_36_method_1_code 15 = .ok (.aload_n 3, 1) := by decide +kernel
theorem e4_16 : decode prog_36_method_1_code 16 = .ok (.putfield 17, 3) := by decide +kernel
theorem e4_19 : decode prog_36_method_1_code 19 = .ok (.return_, 1) := by decide +kernel
theorem pn4 : plainName "com/example/ontoscribe/ontoscribe/sdml/Module$Variant" = true := by first | (simp [plainName, overriddenIn]; done) | decide +kernel
set_option maxRecDepth 65536 in
set_option maxHeartbeats 40000000 in
theorem con_var1 (l : Launch) (Z : State) (a0 : Array Value) (hw : ∀ d ∈ tables_1, d.before a0 Z = true) (x : Addr) (f1 : Addr) (f2 : Addr) (f3 : Addr) (h0 : Heap) (O0 : Ext Z.heap h0) (X_x : Exa Z h0 x "com/example/ontoscribe/ontoscribe/sdml/Module$Variant") (F_type_x : Fld Z h0 x "com/example/ontoscribe/ontoscribe/sdml/Module$Variant" "type" "Lcom/example/ontoscribe/ontoscribe/sdml/Module$Reference;" .null) (F_rename_x : Fld Z h0 x "com/example/ontoscribe/ontoscribe/sdml/Module$Variant" "rename" "Lcom/example/ontoscribe/ontoscribe/sdml/Module$Identifier;" .null) (F_annotations_x : Fld Z h0 x "com/example/ontoscribe/ontoscribe/sdml/Module$Variant" "annotations" "Ljava/util/List;" .null) (n_x : Z.heap.size ≤ x) :
    Con l Z ([] : List (String × Nat)) true (⟨"com/example/ontoscribe/ontoscribe/sdml/Module$Variant", "<init>", "(Lcom/example/ontoscribe/ontoscribe/sdml/Module$Reference;Lcom/example/ontoscribe/ontoscribe/sdml/Module$Identifier;Ljava/util/List;)V"⟩ : MethodName) prog_36_method_1_code 4 none [] ({ frames := 2, cells := 0, slots := 0, locals := 24 } : Room) #[(.ref x), (.ref f1), (.ref f2), (.ref f3)] [] h0 (fun v h => v = none ∧ Keep h0 h [x] ∧ Fld Z h x "com/example/ontoscribe/ontoscribe/sdml/Module$Variant" "type" "Lcom/example/ontoscribe/ontoscribe/sdml/Module$Reference;" (.ref f1) ∧ Fld Z h x "com/example/ontoscribe/ontoscribe/sdml/Module$Variant" "rename" "Lcom/example/ontoscribe/ontoscribe/sdml/Module$Identifier;" (.ref f2) ∧ Fld Z h x "com/example/ontoscribe/ontoscribe/sdml/Module$Variant" "annotations" "Ljava/util/List;" (.ref f3)) := by
  refine Con.intro (Ls := #[.val (.ref x), .val (.ref f1), .val (.ref f2), .val (.ref f3)]) (plainFor_of_name pn4) (own_EL hw) O0 (fun m => by first | rfl | (simp [entryFrame, mkF, argsToLocals, Value.category]; done)) (fun p e s m below meth cc_ T w sf_ => ?_)
  have K0 := Keep.refl h0 [x]
  refine g_aloadN w e4_0 (q := 1) rfl rfl rfl ?_
  refine g_specialP w (con_rec l Z a0 hw x _ w.old) no0 e4_1 (q := 4) rfl rfl rfl (hw _ (List.mem_of_getElem? (i := 99) rfl)) (hw _ (List.mem_of_getElem? (i := 45) rfl)) (hw _ (List.mem_of_getElem? (i := 47) rfl)) (hw _ (List.mem_of_getElem? (i := 48) rfl)) (by decide) pd1 rfl rfl (W := 0) (Nat.le_of_eq rfl) (by decide) (by decide) (by decide) (by decide) (fun T v w C q => ?_)
  obtain rfl := q
  show Go p e below _ (State.setTop T (mkF m 4 #[.val (.ref x), .val (.ref f1), .val (.ref f2), .val (.ref f3)] []))
  refine g_aloadN w e4_4 (q := 5) rfl rfl rfl ?_
  refine g_aloadN w e4_5 (q := 6) rfl rfl rfl ?_
  have g_ := w.chv
  refine g_putF w e4_6 (q := 9) rfl (hw _ (List.mem_of_getElem? (i := 100) rfl)) Via.refl F_type_x X_x (Or.inr ⟨(hw _ (List.mem_of_getElem? (i := 101) rfl)), rfl, rfl⟩) (hw _ (List.mem_of_getElem? (i := 94) rfl)) (ty := (.object "com/example/ontoscribe/ontoscribe/sdml/Module$Reference")) (by decide) (v' := (.ref f1)) rfl rfl n_x (w.safe X_x (by decide) (by decide)) (fun T h w W => ?_)
  replace K0 := K0.wr W (Or.inl (List.mem_singleton.mpr rfl))
  replace X_x := X_x.wr W
  replace F_type_x := F_type_x.same W
  replace F_rename_x := F_rename_x.other W (Or.inr (slot_ne (Or.inr (hw _ (List.mem_of_getElem? (i := 103) rfl))) (Or.inr (hw _ (List.mem_of_getElem? (i := 101) rfl))) (by decide) (t := (.object "com/example/ontoscribe/ontoscribe/sdml/Module$Identifier")) (t' := (.object "com/example/ontoscribe/ontoscribe/sdml/Module$Reference")) (by decide) (by decide)))
  replace F_annotations_x := F_annotations_x.other W (Or.inr (slot_ne (Or.inr (hw _ (List.mem_of_getElem? (i := 105) rfl))) (Or.inr (hw _ (List.mem_of_getElem? (i := 101) rfl))) (by decide) (t := (.object "java/util/List")) (t' := (.object "com/example/ontoscribe/ontoscribe/sdml/Module$Reference")) (by decide) (by decide)))
  refine g_aloadN w e4_9 (q := 10) rfl rfl rfl ?_
  refine g_aloadN w e4_10 (q := 11) rfl rfl rfl ?_
  have g_ := w.chv
  refine g_putF w e4_11 (q := 14) rfl (hw _ (List.mem_of_getElem? (i := 102) rfl)) Via.refl F_rename_x X_x (Or.inr ⟨(hw _ (List.mem_of_getElem? (i := 103) rfl)), rfl, rfl⟩) (hw _ (List.mem_of_getElem? (i := 94) rfl)) (ty := (.object "com/example/ontoscribe/ontoscribe/sdml/Module$Identifier")) (by decide) (v' := (.ref f2)) rfl rfl n_x (w.safe X_x (by decide) (by decide)) (fun T h w W => ?_)
  replace K0 := K0.wr W (Or.inl (List.mem_singleton.mpr rfl))
  replace X_x := X_x.wr W
  replace F_type_x := F_type_x.other W (Or.inr (slot_ne (Or.inr (hw _ (List.mem_of_getElem? (i := 101) rfl))) (Or.inr (hw _ (List.mem_of_getElem? (i := 103) rfl))) (by decide) (t := (.object "com/example/ontoscribe/ontoscribe/sdml/Module$Reference")) (t' := (.object "com/example/ontoscribe/ontoscribe/sdml/Module$Identifier")) (by decide) (by decide)))
  replace F_rename_x := F_rename_x.same W
  replace F_annotations_x := F_annotations_x.other W (Or.inr (slot_ne (Or.inr (hw _ (List.mem_of_getElem? (i := 105) rfl))) (Or.inr (hw _ (List.mem_of_getElem? (i := 103) rfl))) (by decide) (t := (.object "java/util/List")) (t' := (.object "com/example/ontoscribe/ontoscribe/sdml/Module$Identifier")) (by decide) (by decide)))
  refine g_aloadN w e4_14 (q := 15) rfl rfl rfl ?_
  refine g_aloadN w e4_15 (q := 16) rfl rfl rfl ?_
  have g_ := w.chv
  refine g_putF w e4_16 (q := 19) rfl (hw _ (List.mem_of_getElem? (i := 104) rfl)) Via.refl F_annotations_x X_x (Or.inr ⟨(hw _ (List.mem_of_getElem? (i := 105) rfl)), rfl, rfl⟩) (hw _ (List.mem_of_getElem? (i := 94) rfl)) (ty := (.object "java/util/List")) (by decide) (v' := (.ref f3)) rfl rfl n_x (w.safe X_x (by decide) (by decide)) (fun T h w W => ?_)
  replace K0 := K0.wr W (Or.inl (List.mem_singleton.mpr rfl))
  replace X_x := X_x.wr W
  replace F_type_x := F_type_x.other W (Or.inr (slot_ne (Or.inr (hw _ (List.mem_of_getElem? (i := 101) rfl))) (Or.inr (hw _ (List.mem_of_getElem? (i := 105) rfl))) (by decide) (t := (.object "com/example/ontoscribe/ontoscribe/sdml/Module$Reference")) (t' := (.object "java/util/List")) (by decide) (by decide)))
  replace F_rename_x := F_rename_x.other W (Or.inr (slot_ne (Or.inr (hw _ (List.mem_of_getElem? (i := 103) rfl))) (Or.inr (hw _ (List.mem_of_getElem? (i := 105) rfl))) (by decide) (t := (.object "com/example/ontoscribe/ontoscribe/sdml/Module$Identifier")) (t' := (.object "java/util/List")) (by decide) (by decide)))
  replace F_annotations_x := F_annotations_x.same W
  exact g_return w e4_19 rfl (by decide) (by decide) ⟨rfl, K0, F_type_x, F_rename_x, F_annotations_x⟩
set_option maxRecDepth 65536 in
set_option maxHeartbeats 40000000 in
theorem con_var0 (l : Launch) (Z : State) (a0 : Array Value) (hw : ∀ d ∈ tables_1, d.before a0 Z = true) (x : Addr) (f1 : Addr) (f3 : Addr) (h0 : Heap) (O0 : Ext Z.heap h0) (X_x : Exa Z h0 x "com/example/ontoscribe/ontoscribe/sdml/Module$Variant") (F_type_x : Fld Z h0 x "com/example/ontoscribe/ontoscribe/sdml/Module$Variant" "type" "Lcom/example/ontoscribe/ontoscribe/sdml/Module$Reference;" .null) (F_rename_x : Fld Z h0 x "com/example/ontoscribe/ontoscribe/sdml/Module$Variant" "rename" "Lcom/example/ontoscribe/ontoscribe/sdml/Module$Identifier;" .null) (F_annotations_x : Fld Z h0 x "com/example/ontoscribe/ontoscribe/sdml/Module$Variant" "annotations" "Ljava/util/List;" .null) (n_x : Z.heap.size ≤ x) :
    Con l Z ([] : List (String × Nat)) true (⟨"com/example/ontoscribe/ontoscribe/sdml/Module$Variant", "<init>", "(Lcom/example/ontoscribe/ontoscribe/sdml/Module$Reference;Lcom/example/ontoscribe/ontoscribe/sdml/Module$Identifier;Ljava/util/List;)V"⟩ : MethodName) prog_36_method_1_code 4 none [] ({ frames := 2, cells := 0, slots := 0, locals := 24 } : Room) #[(.ref x), (.ref f1), .null, (.ref f3)] [] h0 (fun v h => v = none ∧ Keep h0 h [x] ∧ Fld Z h x "com/example/ontoscribe/ontoscribe/sdml/Module$Variant" "type" "Lcom/example/ontoscribe/ontoscribe/sdml/Module$Reference;" (.ref f1) ∧ Fld Z h x "com/example/ontoscribe/ontoscribe/sdml/Module$Variant" "rename" "Lcom/example/ontoscribe/ontoscribe/sdml/Module$Identifier;" .null ∧ Fld Z h x "com/example/ontoscribe/ontoscribe/sdml/Module$Variant" "annotations" "Ljava/util/List;" (.ref f3)) := by
  refine Con.intro (Ls := #[.val (.ref x), .val (.ref f1), .val .null, .val (.ref f3)]) (plainFor_of_name pn4) (own_EL hw) O0 (fun m => by first | rfl | (simp [entryFrame, mkF, argsToLocals, Value.category]; done)) (fun p e s m below meth cc_ T w sf_ => ?_)
  have K0 := Keep.refl h0 [x]
  refine g_aloadN w e4_0 (q := 1) rfl rfl rfl ?_
  refine g_specialP w (con_rec l Z a0 hw x _ w.old) no0 e4_1 (q := 4) rfl rfl rfl (hw _ (List.mem_of_getElem? (i := 99) rfl)) (hw _ (List.mem_of_getElem? (i := 45) rfl)) (hw _ (List.mem_of_getElem? (i := 47) rfl)) (hw _ (List.mem_of_getElem? (i := 48) rfl)) (by decide) pd1 rfl rfl (W := 0) (Nat.le_of_eq rfl) (by decide) (by decide) (by decide) (by decide) (fun T v w C q => ?_)
  obtain rfl := q
  show Go p e below _ (State.setTop T (mkF m 4 #[.val (.ref x), .val (.ref f1), .val .null, .val (.ref f3)] []))
  refine g_aloadN w e4_4 (q := 5) rfl rfl rfl ?_
  refine g_aloadN w e4_5 (q := 6) rfl rfl rfl ?_
  have g_ := w.chv
  refine g_putF w e4_6 (q := 9) rfl (hw _ (List.mem_of_getElem? (i := 100) rfl)) Via.refl F_type_x X_x (Or.inr ⟨(hw _ (List.mem_of_getElem? (i := 101) rfl)), rfl, rfl⟩) (hw _ (List.mem_of_getElem? (i := 94) rfl)) (ty := (.object "com/example/ontoscribe/ontoscribe/sdml/Module$Reference")) (by decide) (v' := (.ref f1)) rfl rfl n_x (w.safe X_x (by decide) (by decide)) (fun T h w W => ?_)
  replace K0 := K0.wr W (Or.inl (List.mem_singleton.mpr rfl))
  replace X_x := X_x.wr W
  replace F_type_x := F_type_x.same W
  replace F_rename_x := F_rename_x.other W (Or.inr (slot_ne (Or.inr (hw _ (List.mem_of_getElem? (i := 103) rfl))) (Or.inr (hw _ (List.mem_of_getElem? (i := 101) rfl))) (by decide) (t := (.object "com/example/ontoscribe/ontoscribe/sdml/Module$Identifier")) (t' := (.object "com/example/ontoscribe/ontoscribe/sdml/Module$Reference")) (by decide) (by decide)))
  replace F_annotations_x := F_annotations_x.other W (Or.inr (slot_ne (Or.inr (hw _ (List.mem_of_getElem? (i := 105) rfl))) (Or.inr (hw _ (List.mem_of_getElem? (i := 101) rfl))) (by decide) (t := (.object "java/util/List")) (t' := (.object "com/example/ontoscribe/ontoscribe/sdml/Module$Reference")) (by decide) (by decide)))
  refine g_aloadN w e4_9 (q := 10) rfl rfl rfl ?_
  refine g_aloadN w e4_10 (q := 11) rfl rfl rfl ?_
  have g_ := w.chv
  refine g_putF w e4_11 (q := 14) rfl (hw _ (List.mem_of_getElem? (i := 102) rfl)) Via.refl F_rename_x X_x (Or.inr ⟨(hw _ (List.mem_of_getElem? (i := 103) rfl)), rfl, rfl⟩) (hw _ (List.mem_of_getElem? (i := 94) rfl)) (ty := (.object "com/example/ontoscribe/ontoscribe/sdml/Module$Identifier")) (by decide) (v' := .null) rfl rfl n_x (w.safe X_x (by decide) (by decide)) (fun T h w W => ?_)
  replace K0 := K0.wr W (Or.inl (List.mem_singleton.mpr rfl))
  replace X_x := X_x.wr W
  replace F_type_x := F_type_x.other W (Or.inr (slot_ne (Or.inr (hw _ (List.mem_of_getElem? (i := 101) rfl))) (Or.inr (hw _ (List.mem_of_getElem? (i := 103) rfl))) (by decide) (t := (.object "com/example/ontoscribe/ontoscribe/sdml/Module$Reference")) (t' := (.object "com/example/ontoscribe/ontoscribe/sdml/Module$Identifier")) (by decide) (by decide)))
  replace F_rename_x := F_rename_x.same W
  replace F_annotations_x := F_annotations_x.other W (Or.inr (slot_ne (Or.inr (hw _ (List.mem_of_getElem? (i := 105) rfl))) (Or.inr (hw _ (List.mem_of_getElem? (i := 103) rfl))) (by decide) (t := (.object "java/util/List")) (t' := (.object "com/example/ontoscribe/ontoscribe/sdml/Module$Identifier")) (by decide) (by decide)))
  refine g_aloadN w e4_14 (q := 15) rfl rfl rfl ?_
  refine g_aloadN w e4_15 (q := 16) rfl rfl rfl ?_
  have g_ := w.chv
  refine g_putF w e4_16 (q := 19) rfl (hw _ (List.mem_of_getElem? (i := 104) rfl)) Via.refl F_annotations_x X_x (Or.inr ⟨(hw _ (List.mem_of_getElem? (i := 105) rfl)), rfl, rfl⟩) (hw _ (List.mem_of_getElem? (i := 94) rfl)) (ty := (.object "java/util/List")) (by decide) (v' := (.ref f3)) rfl rfl n_x (w.safe X_x (by decide) (by decide)) (fun T h w W => ?_)
  replace K0 := K0.wr W (Or.inl (List.mem_singleton.mpr rfl))
  replace X_x := X_x.wr W
  replace F_type_x := F_type_x.other W (Or.inr (slot_ne (Or.inr (hw _ (List.mem_of_getElem? (i := 101) rfl))) (Or.inr (hw _ (List.mem_of_getElem? (i := 105) rfl))) (by decide) (t := (.object "com/example/ontoscribe/ontoscribe/sdml/Module$Reference")) (t' := (.object "java/util/List")) (by decide) (by decide)))
  replace F_rename_x := F_rename_x.other W (Or.inr (slot_ne (Or.inr (hw _ (List.mem_of_getElem? (i := 103) rfl))) (Or.inr (hw _ (List.mem_of_getElem? (i := 105) rfl))) (by decide) (t := (.object "com/example/ontoscribe/ontoscribe/sdml/Module$Identifier")) (t' := (.object "java/util/List")) (by decide) (by decide)))
  replace F_annotations_x := F_annotations_x.same W
  exact g_return w e4_19 rfl (by decide) (by decide) ⟨rfl, K0, F_type_x, F_rename_x, F_annotations_x⟩
theorem e5_0 : decode jdk_22_method_1_code 0 = .ok (.aload_n 0, 1) := by decide +kernel
theorem e5_1 : decode jdk_22_method_1_code 1 = .ok (.invokespecial 1, 3) := by decide +kernel
theorem e5_4 : decode jdk_22_method_1_code 4 = .ok (.return_, 1) := by decide +kernel
theorem pn5 : plainName "java/util/AbstractCollection" = true := by first | (simp [plainName, overriddenIn]; done) | decide +kernel
set_option maxRecDepth 65536 in
set_option maxHeartbeats 40000000 in
theorem con_ac (l : Launch) (Z : State) (a0 : Array Value) (hw : ∀ d ∈ tables_1, d.before a0 Z = true) (x : Addr) (h0 : Heap) (O0 : Ext Z.heap h0) :
    Con l Z ([] : List (String × Nat)) true (⟨"java/util/AbstractCollection", "<init>", "()V"⟩ : MethodName) jdk_22_method_1_code 1 none [] ({ frames := 1, cells := 0, slots := 0, locals := 12 } : Room) #[(.ref x)] [] h0 (fun v h => v = none ∧ h = h0) := by
  refine Con.intro (Ls := #[.val (.ref x)]) (plainFor_of_name pn5) (own_EL hw) O0 (fun m => by first | rfl | (simp [entryFrame, mkF, argsToLocals, Value.category]; done)) (fun p e s m below meth cc_ T w sf_ => ?_)
  have E0 := ext_refl h0
  refine g_aloadN w e5_0 (q := 1) rfl rfl rfl ?_
  refine g_initO w e5_1 (q := 4) rfl rfl (hw _ (List.mem_of_getElem? (i := 87) rfl)) (hw _ (List.mem_of_getElem? (i := 20) rfl)) (hw _ (List.mem_of_getElem? (i := 21) rfl)) (W := 0) (Nat.le_of_eq rfl) (by decide) (by decide) (fun T w => ?_)
  exact g_return w e5_4 rfl (by decide) (by decide) ⟨rfl, rfl⟩
theorem e6_0 : decode jdk_39_method_1_code 0 = .ok (.aload_n 0, 1) := by decide +kernel
theorem e6_1 : decode jdk_39_method_1_code 1 = .ok (.invokespecial 1, 3) := by decide +kernel
theorem e6_4 : decode jdk_39_method_1_code 4 = .ok (.aload_n 0, 1) := by decide +kernel
theorem e6_5 : decode jdk_39_method_1_code 5 = .ok (.iconst 0, 1) := by decide +kernel
theorem e6_6 : decode jdk_39_method_1_code 6 = .ok (.putfield 7, 3) := by decide +kernel
theorem e6_9 : decode jdk_39_method_1_code 9 = .ok (.return_, 1) := by decide +kernel
theorem pn6 : plainName "java/util/AbstractList" = true := by first | (simp [plainName, overriddenIn]; done) | decide +kernel
set_option maxRecDepth 65536 in
set_option maxHeartbeats 40000000 in
theorem con_al (l : Launch) (Z : State) (a0 : Array Value) (hw : ∀ d ∈ tables_1, d.before a0 Z = true) (x : Addr) (h0 : Heap) (O0 : Ext Z.heap h0) (X_x : Exa Z h0 x "java/util/ArrayList") (F_modCount_x : Fld Z h0 x "java/util/AbstractList" "modCount" "I" (.int (0 : Int32))) (F_elementData_x : Fld Z h0 x "java/util/ArrayList" "elementData" "[Ljava/lang/Object;" .null) (n_x : Z.heap.size ≤ x) :
    Con l Z ([] : List (String × Nat)) true (⟨"java/util/AbstractList", "<init>", "()V"⟩ : MethodName) jdk_39_method_1_code 1 none [] ({ frames := 2, cells := 0, slots := 0, locals := 24 } : Room) #[(.ref x)] [] h0 (fun v h => v = none ∧ Keep h0 h [x] ∧ Fld Z h x "java/util/AbstractList" "modCount" "I" (.int 0) ∧ Fld Z h x "java/util/ArrayList" "elementData" "[Ljava/lang/Object;" .null) := by
  refine Con.intro (Ls := #[.val (.ref x)]) (plainFor_of_name pn6) (own_EL hw) O0 (fun m => by first | rfl | (simp [entryFrame, mkF, argsToLocals, Value.category]; done)) (fun p e s m below meth cc_ T w sf_ => ?_)
  have K0 := Keep.refl h0 [x]
  refine g_aloadN w e6_0 (q := 1) rfl rfl rfl ?_
  refine g_specialP w (con_ac l Z a0 hw x _ w.old) no0 e6_1 (q := 4) rfl rfl rfl (hw _ (List.mem_of_getElem? (i := 81) rfl)) (hw _ (List.mem_of_getElem? (i := 82) rfl)) (hw _ (List.mem_of_getElem? (i := 85) rfl)) (hw _ (List.mem_of_getElem? (i := 86) rfl)) (by decide) pd1 rfl rfl (W := 0) (Nat.le_of_eq rfl) (by decide) (by decide) (by decide) (by decide) (fun T v w C q => ?_)
  obtain rfl := q
  show Go p e below _ (State.setTop T (mkF m 4 #[.val (.ref x)] []))
  refine g_aloadN w e6_4 (q := 5) rfl rfl rfl ?_
  refine g_iconst w e6_5 (q := 6) rfl (v := (0 : Int32)) (by decide) ?_
  have g_ := w.chv
  refine g_putF w e6_6 (q := 9) rfl (hw _ (List.mem_of_getElem? (i := 88) rfl)) Via.refl F_modCount_x X_x (Or.inl (hw _ (List.mem_of_getElem? (i := 89) rfl))) (hw _ (List.mem_of_getElem? (i := 70) rfl)) (ty := .int) (by decide) (v' := (.int (0 : Int32))) rfl rfl n_x (w.safe X_x (by decide) (by decide)) (fun T h w W => ?_)
  replace K0 := K0.wr W (Or.inl (List.mem_singleton.mpr rfl))
  replace X_x := X_x.wr W
  replace F_modCount_x := F_modCount_x.same W
  replace F_elementData_x := F_elementData_x.other W (Or.inr (slot_ne (Or.inl (hw _ (List.mem_of_getElem? (i := 92) rfl))) (Or.inl (hw _ (List.mem_of_getElem? (i := 89) rfl))) (by decide) (t := (.array (.object "java/lang/Object"))) (t' := .int) (by decide) (by decide)))
  exact g_return w e6_9 rfl (by decide) (by decide) ⟨rfl, K0, F_modCount_x, F_elementData_x⟩
theorem e7_0 : decode jdk_38_method_2_code 0 = .ok (.aload_n 0, 1) := by decide +kernel
theorem e7_1 : decode jdk_38_method_2_code 1 = .ok (.invokespecial 1, 3) := by decide +kernel
theorem e7_4 : decode jdk_38_method_2_code 4 = .ok (.aload_n 0, 1) := by decide +kernel
theorem e7_5 : decode jdk_38_method_2_code 5 = .ok (.getstatic 39, 3) := by decide +kernel
theorem e7_8 : decode jdk_38_method_2_code 8 = .ok (.putfield 9, 3) := by decide +kernel
theorem e7_11 : decode jdk_38_method_2_code 11 = .ok (.return_, 1) := by decide +kernel
theorem pn7 : plainName "java/util/ArrayList" = true := by first | (simp [plainName, overriddenIn]; done) | decide +kernel
set_option maxRecDepth 65536 in
set_option maxHeartbeats 40000000 in
theorem con_arl (l : Launch) (Z : State) (a0 : Array Value) (hw : ∀ d ∈ tables_1, d.before a0 Z = true) (x dc_ : Addr) (h0 : Heap) (O0 : Ext Z.heap h0) (X_x : Exa Z h0 x "java/util/ArrayList") (F_modCount_x : Fld Z h0 x "java/util/AbstractList" "modCount" "I" (.int (0 : Int32))) (F_elementData_x : Fld Z h0 x "java/util/ArrayList" "elementData" "[Ljava/lang/Object;" .null) (n_x : Z.heap.size ≤ x) (SD_ : Sta Z Z.heap "java/util/ArrayList" "DEFAULTCAPACITY_EMPTY_ELEMENTDATA" "[Ljava/lang/Object;" (.ref dc_)) :
    Con l Z ([] : List (String × Nat)) true (⟨"java/util/ArrayList", "<init>", "()V"⟩ : MethodName) jdk_38_method_2_code 1 none [] ({ frames := 3, cells := 0, slots := 0, locals := 36 } : Room) #[(.ref x)] [] h0 (fun v h => v = none ∧ Keep h0 h [x]) := by
  refine Con.intro (Ls := #[.val (.ref x)]) (plainFor_of_name pn7) (own_EL hw) O0 (fun m => by first | rfl | (simp [entryFrame, mkF, argsToLocals, Value.category]; done)) (fun p e s m below meth cc_ T w sf_ => ?_)
  have K0 := Keep.refl h0 [x]
  refine g_aloadN w e7_0 (q := 1) rfl rfl rfl ?_
  refine g_special w (con_al l Z a0 hw x _ w.old X_x F_modCount_x F_elementData_x n_x) no0 e7_1 (q := 4) rfl rfl rfl (hw _ (List.mem_of_getElem? (i := 75) rfl)) (hw _ (List.mem_of_getElem? (i := 76) rfl)) (hw _ (List.mem_of_getElem? (i := 79) rfl)) (hw _ (List.mem_of_getElem? (i := 80) rfl)) (by decide) pd1 rfl rfl (W := 0) (Nat.le_of_eq rfl) (by decide) (by decide) (by decide) (by decide) (fun T h v w gs C q => ?_)
  obtain ⟨rfl, K, G_m, G_e⟩ := q
  replace K0 := keep_same K0 K
  have X0 := X_x
  replace X_x := X_x.keep K
  replace F_modCount_x := G_m
  replace F_elementData_x := G_e
  show Go p e below _ (State.setTop T (mkF m 4 #[.val (.ref x)] []))
  refine g_aloadN w e7_4 (q := 5) rfl rfl rfl ?_
  refine g_getS w e7_5 (q := 8) rfl (hw _ (List.mem_of_getElem? (i := 90) rfl)) Via.refl SD_ (fun T w => ?_)
  have g_ := w.chv
  refine g_putF w e7_8 (q := 11) rfl (hw _ (List.mem_of_getElem? (i := 91) rfl)) Via.refl F_elementData_x X_x (Or.inl (hw _ (List.mem_of_getElem? (i := 92) rfl))) (hw _ (List.mem_of_getElem? (i := 70) rfl)) (ty := (.array (.object "java/lang/Object"))) (by decide) (v' := (.ref dc_)) rfl rfl n_x (w.safe X_x (by decide) (by decide)) (fun T h w W => ?_)
  replace K0 := K0.wr W (Or.inl (List.mem_singleton.mpr rfl))
  replace X_x := X_x.wr W
  replace F_modCount_x := F_modCount_x.other W (Or.inr (slot_ne (Or.inl (hw _ (List.mem_of_getElem? (i := 89) rfl))) (Or.inl (hw _ (List.mem_of_getElem? (i := 92) rfl))) (by decide) (t := .int) (t' := (.array (.object "java/lang/Object"))) (by decide) (by decide)))
  replace F_elementData_x := F_elementData_x.same W
  exact g_return w e7_11 rfl (by decide) (by decide) ⟨rfl, K0⟩
theorem e8_0 : decode prog_25_method_5_code 0 = .ok (.aload_n 0, 1) := by decide +kernel
theorem e8_1 : decode prog_25_method_5_code 1 = .ok (.getfield 7, 3) := by decide +kernel
theorem e8_4 : decode prog_25_method_5_code 4 = .ok (.areturn, 1) := by decide +kernel
set_option maxRecDepth 65536 in
set_option maxHeartbeats 40000000 in
theorem con_text (l : Launch) (Z : State) (a0 : Array Value) (hw : ∀ d ∈ tables_1, d.before a0 Z = true) (x u : Addr) (h0 : Heap) (O0 : Ext Z.heap h0) (F_x : Fld Z h0 x "com/example/ontoscribe/ontoscribe/sdml/Module$Identifier" "text" "Ljava/lang/String;" (.ref u)) :
    Con l Z ([] : List (String × Nat)) true (⟨"com/example/ontoscribe/ontoscribe/sdml/Module$Identifier", "text", "()Ljava/lang/String;"⟩ : MethodName) prog_25_method_5_code 1 (some (.object "java/lang/String")) [] ({ frames := 0, cells := 0, slots := 0, locals := 0 } : Room) #[(.ref x)] [] h0 (fun v h => v = some (.ref u) ∧ h = h0) := by
  refine Con.intro (Ls := #[.val (.ref x)]) (plainFor_of_name pn3) (own_EL hw) O0 (fun m => by first | rfl | (simp [entryFrame, mkF, argsToLocals, Value.category]; done)) (fun p e s m below meth cc_ T w sf_ => ?_)
  have E0 := ext_refl h0
  refine g_aloadN w e8_0 (q := 1) rfl rfl rfl ?_
  refine g_getF w e8_1 (q := 4) rfl (host := "") (Or.inl (hw _ (List.mem_of_getElem? (i := 65) rfl))) Via.refl F_x (fun T w => ?_)
  exact g_reta w e8_4 rfl rfl rfl (by decide) (by decide) ⟨rfl, rfl⟩
theorem e9_0 : decode prog_31_method_8_code 0 = .ok (.aload_n 0, 1) := by decide +kernel
theorem e9_1 : decode prog_31_method_8_code 1 = .ok (.getfield 17, 3) := by decide +kernel
theorem e9_4 : decode prog_31_method_8_code 4 = .ok (.areturn, 1) := by decide +kernel
set_option maxRecDepth 65536 in
set_option maxHeartbeats 40000000 in
theorem con_name (l : Launch) (Z : State) (a0 : Array Value) (hw : ∀ d ∈ tables_1, d.before a0 Z = true) (x u : Addr) (h0 : Heap) (O0 : Ext Z.heap h0) (F_x : Fld Z h0 x "com/example/ontoscribe/ontoscribe/sdml/Module$Reference" "name" "Ljava/lang/String;" (.ref u)) :
    Con l Z ([] : List (String × Nat)) true (⟨"com/example/ontoscribe/ontoscribe/sdml/Module$Reference", "name", "()Ljava/lang/String;"⟩ : MethodName) prog_31_method_8_code 1 (some (.object "java/lang/String")) [] ({ frames := 0, cells := 0, slots := 0, locals := 0 } : Room) #[(.ref x)] [] h0 (fun v h => v = some (.ref u) ∧ h = h0) := by
  refine Con.intro (Ls := #[.val (.ref x)]) (plainFor_of_name pn2) (own_EL hw) O0 (fun m => by first | rfl | (simp [entryFrame, mkF, argsToLocals, Value.category]; done)) (fun p e s m below meth cc_ T w sf_ => ?_)
  have E0 := ext_refl h0
  refine g_aloadN w e9_0 (q := 1) rfl rfl rfl ?_
  refine g_getF w e9_1 (q := 4) rfl (host := "") (Or.inl (hw _ (List.mem_of_getElem? (i := 54) rfl))) Via.refl F_x (fun T w => ?_)
  exact g_reta w e9_4 rfl rfl rfl (by decide) (by decide) ⟨rfl, rfl⟩
theorem e10_0 : decode prog_36_method_2_code 0 = .ok (.aload_n 0, 1) := by decide +kernel
theorem e10_1 : decode prog_36_method_2_code 1 = .ok (.getfield 13, 3) := by decide +kernel
theorem e10_4 : decode prog_36_method_2_code 4 = .ok (.ifnonnull 13, 3) := by decide +kernel
theorem e10_7 : decode prog_36_method_2_code 7 = .ok (.aload_n 0, 1) := by decide +kernel
theorem e10_8 : decode prog_36_method_2_code 8 = .ok (.getfield 7, 3) := by decide +kernel
theorem e10_11 : decode prog_36_method_2_code 11 = .ok (.invokevirtual 21, 3) := by decide +kernel
theorem e10_14 : decode prog_36_method_2_code 14 = .ok (.goto 10, 3) := by decide +kernel
theorem e10_17 : decode prog_36_method_2_code 17 = .ok (.aload_n 0, 1) := by decide +kernel
theorem e10_18 : decode prog_36_method_2_code 18 = .ok (.getfield 13, 3) := by decide +kernel
theorem e10_21 : decode prog_36_method_2_code 21 = .ok (.invokevirtual 27, 3) := by decide +kernel
theorem e10_24 : decode prog_36_method_2_code 24 = .ok (.areturn, 1) := by decide +kernel
theorem pd2 : parseMethodDescriptor "()Ljava/lang/String;" = some ⟨[], some (.object "java/lang/String")⟩ := by decide +kernel
set_option maxRecDepth 65536 in
set_option maxHeartbeats 40000000 in
theorem con_shown0 (l : Launch) (Z : State) (a0 : Array Value) (hw : ∀ d ∈ tables_1, d.before a0 Z = true) (x r u : Addr) (h0 : Heap) (O0 : Ext Z.heap h0) (F_rename_x : Fld Z h0 x "com/example/ontoscribe/ontoscribe/sdml/Module$Variant" "rename" "Lcom/example/ontoscribe/ontoscribe/sdml/Module$Identifier;" .null) (F_type_x : Fld Z h0 x "com/example/ontoscribe/ontoscribe/sdml/Module$Variant" "type" "Lcom/example/ontoscribe/ontoscribe/sdml/Module$Reference;" (.ref r)) (X_r : Exa Z h0 r "com/example/ontoscribe/ontoscribe/sdml/Module$Reference") (F_name_r : Fld Z h0 r "com/example/ontoscribe/ontoscribe/sdml/Module$Reference" "name" "Ljava/lang/String;" (.ref u)) :
    Con l Z ([] : List (String × Nat)) true (⟨"com/example/ontoscribe/ontoscribe/sdml/Module$Variant", "shownName", "()Ljava/lang/String;"⟩ : MethodName) prog_36_method_2_code 1 (some (.object "java/lang/String")) [] ({ frames := 1, cells := 0, slots := 0, locals := 12 } : Room) #[(.ref x)] [] h0 (fun v h => v = some (.ref u) ∧ h = h0) := by
  refine Con.intro (Ls := #[.val (.ref x)]) (plainFor_of_name pn4) (own_EL hw) O0 (fun m => by first | rfl | (simp [entryFrame, mkF, argsToLocals, Value.category]; done)) (fun p e s m below meth cc_ T w sf_ => ?_)
  have E0 := ext_refl h0
  refine g_aloadN w e10_0 (q := 1) rfl rfl rfl ?_
  refine g_getF w e10_1 (q := 4) rfl (host := "") (Or.inl (hw _ (List.mem_of_getElem? (i := 102) rfl))) Via.refl F_rename_x (fun T w => ?_)
  refine g_nonnullN w e10_4 (q := 7) rfl ?_
  refine g_aloadN w e10_7 (q := 8) rfl rfl rfl ?_
  refine g_getF w e10_8 (q := 11) rfl (host := "") (Or.inl (hw _ (List.mem_of_getElem? (i := 100) rfl))) Via.refl F_type_x (fun T w => ?_)
  refine g_virtualP w (con_name l Z a0 hw r u _ w.old F_name_r) no0 X_r e10_11 (q := 14) rfl rfl (hw _ (List.mem_of_getElem? (i := 123) rfl)) (hw _ (List.mem_of_getElem? (i := 124) rfl)) (hw _ (List.mem_of_getElem? (i := 126) rfl)) (hw _ (List.mem_of_getElem? (i := 125) rfl)) (hw _ (List.mem_of_getElem? (i := 40) rfl)) (hw _ (List.mem_of_getElem? (i := 127) rfl)) (by decide) (nf (hw _ (List.mem_of_getElem? (i := 126) rfl))) pd2 rfl rfl (W := 0) (Nat.le_of_eq rfl) (by decide) (by decide) (by decide) (by decide) (fun T v w C q => ?_)
  obtain rfl := q
  show Go p e below _ (State.setTop T (mkF m 14 #[.val (.ref x)] [(.ref u)]))
  refine g_goto w e10_14 (by decide) (q := 24) (by decide) ?_
  exact g_reta w e10_24 rfl rfl rfl (by decide) (by decide) ⟨rfl, rfl⟩
set_option maxRecDepth 65536 in
set_option maxHeartbeats 40000000 in
theorem con_shown1 (l : Launch) (Z : State) (a0 : Array Value) (hw : ∀ d ∈ tables_1, d.before a0 Z = true) (x r u : Addr) (h0 : Heap) (O0 : Ext Z.heap h0) (F_rename_x : Fld Z h0 x "com/example/ontoscribe/ontoscribe/sdml/Module$Variant" "rename" "Lcom/example/ontoscribe/ontoscribe/sdml/Module$Identifier;" (.ref r)) (X_r : Exa Z h0 r "com/example/ontoscribe/ontoscribe/sdml/Module$Identifier") (F_text_r : Fld Z h0 r "com/example/ontoscribe/ontoscribe/sdml/Module$Identifier" "text" "Ljava/lang/String;" (.ref u)) :
    Con l Z ([] : List (String × Nat)) true (⟨"com/example/ontoscribe/ontoscribe/sdml/Module$Variant", "shownName", "()Ljava/lang/String;"⟩ : MethodName) prog_36_method_2_code 1 (some (.object "java/lang/String")) [] ({ frames := 1, cells := 0, slots := 0, locals := 12 } : Room) #[(.ref x)] [] h0 (fun v h => v = some (.ref u) ∧ h = h0) := by
  refine Con.intro (Ls := #[.val (.ref x)]) (plainFor_of_name pn4) (own_EL hw) O0 (fun m => by first | rfl | (simp [entryFrame, mkF, argsToLocals, Value.category]; done)) (fun p e s m below meth cc_ T w sf_ => ?_)
  have E0 := ext_refl h0
  refine g_aloadN w e10_0 (q := 1) rfl rfl rfl ?_
  refine g_getF w e10_1 (q := 4) rfl (host := "") (Or.inl (hw _ (List.mem_of_getElem? (i := 102) rfl))) Via.refl F_rename_x (fun T w => ?_)
  refine g_nonnullY w e10_4 (by decide) (q := 17) (by decide) ?_
  refine g_aloadN w e10_17 (q := 18) rfl rfl rfl ?_
  refine g_getF w e10_18 (q := 21) rfl (host := "") (Or.inl (hw _ (List.mem_of_getElem? (i := 102) rfl))) Via.refl F_rename_x (fun T w => ?_)
  refine g_virtualP w (con_text l Z a0 hw r u _ w.old F_text_r) no0 X_r e10_21 (q := 24) rfl rfl (hw _ (List.mem_of_getElem? (i := 111) rfl)) (hw _ (List.mem_of_getElem? (i := 112) rfl)) (hw _ (List.mem_of_getElem? (i := 114) rfl)) (hw _ (List.mem_of_getElem? (i := 113) rfl)) (hw _ (List.mem_of_getElem? (i := 60) rfl)) (hw _ (List.mem_of_getElem? (i := 115) rfl)) (by decide) (nf (hw _ (List.mem_of_getElem? (i := 114) rfl))) pd2 rfl rfl (W := 0) (Nat.le_of_eq rfl) (by decide) (by decide) (by decide) (by decide) (fun T v w C q => ?_)
  obtain rfl := q
  show Go p e below _ (State.setTop T (mkF m 24 #[.val (.ref x)] [(.ref u)]))
  exact g_reta w e10_24 rfl rfl rfl (by decide) (by decide) ⟨rfl, rfl⟩
theorem e11_0 : decode jdk_42_method_66_code 0 = .ok (.aload_n 0, 1) := by decide +kernel
theorem e11_1 : decode jdk_42_method_66_code 1 = .ok (.aload_n 1, 1) := by decide +kernel
theorem e11_2 : decode jdk_42_method_66_code 2 = .ok (.if_acmp .ne 5, 3) := by decide +kernel
theorem e11_5 : decode jdk_42_method_66_code 5 = .ok (.iconst 1, 1) := by decide +kernel
theorem e11_6 : decode jdk_42_method_66_code 6 = .ok (.ireturn, 1) := by decide +kernel
theorem e11_7 : decode jdk_42_method_66_code 7 = .ok (.aload_n 1, 1) := by decide +kernel
theorem e11_8 : decode jdk_42_method_66_code 8 = .ok (.instanceof 10, 3) := by decide +kernel
theorem e11_11 : decode jdk_42_method_66_code 11 = .ok (.ifCond .eq 43, 3) := by decide +kernel
theorem e11_14 : decode jdk_42_method_66_code 14 = .ok (.aload_n 1, 1) := by decide +kernel
theorem e11_15 : decode jdk_42_method_66_code 15 = .ok (.checkcast 10, 3) := by decide +kernel
theorem e11_18 : decode jdk_42_method_66_code 18 = .ok (.astore_n 2, 1) := by decide +kernel
theorem e11_19 : decode jdk_42_method_66_code 19 = .ok (.getstatic 38, 3) := by decide +kernel
theorem e11_22 : decode jdk_42_method_66_code 22 = .ok (.ifCond .eq 14, 3) := by decide +kernel
theorem e11_25 : decode jdk_42_method_66_code 25 = .ok (.aload_n 0, 1) := by decide +kernel
theorem e11_26 : decode jdk_42_method_66_code 26 = .ok (.getfield 15, 3) := by decide +kernel
theorem e11_29 : decode jdk_42_method_66_code 29 = .ok (.aload_n 2, 1) := by decide +kernel
theorem e11_30 : decode jdk_42_method_66_code 30 = .ok (.getfield 15, 3) := by decide +kernel
theorem e11_33 : decode jdk_42_method_66_code 33 = .ok (.if_icmp .ne 21, 3) := by decide +kernel
theorem e11_36 : decode jdk_42_method_66_code 36 = .ok (.aload_n 0, 1) := by decide +kernel
theorem e11_37 : decode jdk_42_method_66_code 37 = .ok (.getfield 9, 3) := by decide +kernel
theorem e11_40 : decode jdk_42_method_66_code 40 = .ok (.aload_n 2, 1) := by decide +kernel
theorem e11_41 : decode jdk_42_method_66_code 41 = .ok (.getfield 9, 3) := by decide +kernel
theorem e11_44 : decode jdk_42_method_66_code 44 = .ok (.invokestatic 541, 3) := by decide +kernel
theorem e11_47 : decode jdk_42_method_66_code 47 = .ok (.ifCond .eq 7, 3) := by decide +kernel
theorem e11_50 : decode jdk_42_method_66_code 50 = .ok (.iconst 1, 1) := by decide +kernel
theorem e11_51 : decode jdk_42_method_66_code 51 = .ok (.goto 4, 3) := by decide +kernel
theorem e11_54 : decode jdk_42_method_66_code 54 = .ok (.iconst 0, 1) := by decide +kernel
theorem e11_55 : decode jdk_42_method_66_code 55 = .ok (.ireturn, 1) := by decide +kernel
theorem pn8 : plainName "java/lang/String" = true := by first | (simp [plainName, overriddenIn]; done) | decide +kernel
set_option maxRecDepth 65536 in
set_option maxHeartbeats 40000000 in
theorem con_eqs (l : Launch) (Z : State) (a0 : Array Value) (hw : ∀ d ∈ tables_1, d.before a0 Z = true) (x : Addr) (h0 : Heap) (O0 : Ext Z.heap h0) :
    Con l Z ([] : List (String × Nat)) true (⟨"java/lang/String", "equals", "(Ljava/lang/Object;)Z"⟩ : MethodName) jdk_42_method_66_code 3 (some .boolean) [] ({ frames := 0, cells := 0, slots := 0, locals := 0 } : Room) #[(.ref x), (.ref x)] [] h0 (fun v h => v = some (.int 1) ∧ h = h0) := by
  refine Con.intro (Ls := #[.val (.ref x), .val (.ref x), .unset]) (plainFor_of_name pn8) (own_EL hw) O0 (fun m => by first | rfl | (simp [entryFrame, mkF, argsToLocals, Value.category]; done)) (fun p e s m below meth cc_ T w sf_ => ?_)
  have E0 := ext_refl h0
  refine g_aloadN w e11_0 (q := 1) rfl rfl rfl ?_
  refine g_aloadN w e11_1 (q := 2) rfl rfl rfl ?_
  refine g_acN w e11_2 (q := 5) rfl rfl rfl (Jvm.Free.XT.aa_ne_f rfl) ?_
  refine g_iconst w e11_5 (q := 6) rfl (v := (1 : Int32)) (by decide) ?_
  exact g_retn w e11_6 rfl (by simp) rfl (by decide) (by decide) ⟨rfl, rfl⟩
theorem pd3 : parseMethodDescriptor "(I)Ljava/lang/String;" = some ⟨[.int], some (.object "java/lang/String")⟩ := by decide +kernel
theorem pd4 : parseMethodDescriptor "(Lcom/example/ontoscribe/ontoscribe/sdml/Module$Reference$Form;Ljava/lang/String;Ljava/lang/String;Lcom/example/ontoscribe/ontoscribe/diagnostics/Position;)V" = some ⟨[(.object "com/example/ontoscribe/ontoscribe/sdml/Module$Reference$Form"), (.object "java/lang/String"), (.object "java/lang/String"), (.object "com/example/ontoscribe/ontoscribe/diagnostics/Position")], none⟩ := by decide +kernel
theorem pd5 : parseMethodDescriptor "(Lcom/example/ontoscribe/ontoscribe/sdml/Module$Reference;Lcom/example/ontoscribe/ontoscribe/sdml/Module$Identifier;Ljava/util/List;)V" = some ⟨[(.object "com/example/ontoscribe/ontoscribe/sdml/Module$Reference"), (.object "com/example/ontoscribe/ontoscribe/sdml/Module$Identifier"), (.object "java/util/List")], none⟩ := by decide +kernel
theorem pd6 : parseMethodDescriptor "(Ljava/lang/Object;)Z" = some ⟨[(.object "java/lang/Object")], some .boolean⟩ := by decide +kernel
theorem pd7 : parseMethodDescriptor "(Ljava/lang/String;Lcom/example/ontoscribe/ontoscribe/diagnostics/Position;)V" = some ⟨[(.object "java/lang/String"), (.object "com/example/ontoscribe/ontoscribe/diagnostics/Position")], none⟩ := by decide +kernel
set_option maxRecDepth 65536 in
set_option maxHeartbeats 40000000 in
theorem con_law (l : Launch) (Z : State) (a0 : Array Value) (hw : ∀ d ∈ tables_1, d.before a0 Z = true) (dc_ fo0 fo1 fo2 : Addr) (tc mc rc fl : Int32) (h0 : Heap) (O0 : Ext Z.heap h0) (hcm : Cpt Z) (SD_ : Sta Z Z.heap "java/util/ArrayList" "DEFAULTCAPACITY_EMPTY_ELEMENTDATA" "[Ljava/lang/Object;" (.ref dc_)) (SF0 : Sta Z Z.heap "com/example/ontoscribe/ontoscribe/sdml/Module$Reference$Form" "NAME" "Lcom/example/ontoscribe/ontoscribe/sdml/Module$Reference$Form;" (.ref fo0)) (SF1 : Sta Z Z.heap "com/example/ontoscribe/ontoscribe/sdml/Module$Reference$Form" "QUALIFIED" "Lcom/example/ontoscribe/ontoscribe/sdml/Module$Reference$Form;" (.ref fo1)) (SF2 : Sta Z Z.heap "com/example/ontoscribe/ontoscribe/sdml/Module$Reference$Form" "BUILT_IN" "Lcom/example/ontoscribe/ontoscribe/sdml/Module$Reference$Form;" (.ref fo2)) :
    Con l Z ([] : List (String × Nat)) true x code maxLocals ret tables_1 room_1 #[(.int tc), (.int mc), (.int rc), (.int fl)] [] h0 (fun v h => v = some (.int 1)) := by
  refine Con.intro (Ls := #[.val (.int tc), .val (.int mc), .val (.int rc), .val (.int fl), .unset, .unset, .unset, .unset, .unset, .unset, .unset, .unset, .unset, .unset, .unset, .unset]) (plainFor_of_name pn1) (own_EL hw) O0 (fun m => by first | rfl | (simp [entryFrame, mkF, argsToLocals, Value.category, maxLocals]; done)) (fun p e s m below meth cc_ T w sf_ => ?_)
  have E0 := ext_refl h0
  obtain ⟨z_, hz_, SC_⟩ := id hcm
  refine g_iloadN w at_0 (q := 1) rfl rfl ?_
  refine g_iconst w at_1 (q := 2) rfl (v := (1 : Int32)) (by decide) ?_
  refine g_iand w at_2 (q := 3) rfl ?_
  refine g_if_eq w at_3 (by decide) (q := 10) (by decide) (q' := 6) rfl (fun cd1 => ?_) (fun cd1 => ?_)
  · refine g_iconst w at_10 (q := 11) rfl (v := (0 : Int32)) (by decide) ?_
    refine g_istore w at_11 (q := 13) rfl (Ls' := #[.val (.int tc), .val (.int mc), .val (.int rc), .val (.int fl), .val (.int (0 : Int32)), .unset, .unset, .unset, .unset, .unset, .unset, .unset, .unset, .unset, .unset, .unset]) rfl ?_
    refine g_iloadN w at_13 (q := 14) rfl rfl ?_
    refine g_iconst w at_14 (q := 15) rfl (v := (1 : Int32)) (by decide) ?_
    refine g_iushr w at_15 (q := 16) rfl ?_
    refine g_ldcI w at_16 (q := 18) rfl (v := (2147483647 : Int32)) (hw _ (List.mem_of_getElem? (i := 0) rfl)) ?_
    refine g_iand w at_18 (q := 19) rfl ?_
    refine g_iconst w at_19 (q := 20) rfl (v := (3 : Int32)) (by decide) ?_
    refine g_irem w at_20 (q := 21) rfl (by decide) ?_
    refine g_istore w at_21 (q := 23) rfl (Ls' := #[.val (.int tc), .val (.int mc), .val (.int rc), .val (.int fl), .val (.int (0 : Int32)), .val (.int (((Jvm.Free.XT.ushr fl (1 : Int32)) &&& (2147483647 : Int32)) % (3 : Int32))), .unset, .unset, .unset, .unset, .unset, .unset, .unset, .unset, .unset, .unset]) rfl ?_
    refine g_iload w at_23 (q := 25) rfl rfl ?_
    refine g_if_ne w at_25 (by decide) (q := 36) (by decide) (q' := 28) rfl (fun cd2 => ?_) (fun cd2 => ?_)
    · refine g_iload w at_36 (q := 38) rfl rfl ?_
      refine g_iconst w at_38 (q := 39) rfl (v := (1 : Int32)) (by decide) ?_
      refine g_ic_ne w at_39 (by decide) (q := 50) (by decide) (q' := 42) rfl (fun cd3 => ?_) (fun cd3 => ?_)
      · refine g_getS w at_50 (q := 53) rfl (hw _ (List.mem_of_getElem? (i := 121) rfl)) Via.refl SF2 (fun T w => ?_)
        refine g_astore w at_53 (q := 55) rfl rfl (Ls' := #[.val (.int tc), .val (.int mc), .val (.int rc), .val (.int fl), .val (.int (0 : Int32)), .val (.int (((Jvm.Free.XT.ushr fl (1 : Int32)) &&& (2147483647 : Int32)) % (3 : Int32))), .val (.ref fo2), .unset, .unset, .unset, .unset, .unset, .unset, .unset, .unset, .unset]) rfl ?_
        refine g_iloadN w at_55 (q := 56) rfl rfl ?_
        refine g_static w (con_two l Z a0 hw tc _ w.old hcm) no0 at_56 (q := 59) rfl rfl (hw _ (List.mem_of_getElem? (i := 4) rfl)) (hw _ (List.mem_of_getElem? (i := 5) rfl)) (hw _ (List.mem_of_getElem? (i := 6) rfl)) (hw _ (List.mem_of_getElem? (i := 7) rfl)) (by decide) pd3 rfl rfl (W := 0) (Nat.le_of_eq rfl) (by decide) (by decide) (by decide) (by decide) (fun T h v w gs C q => ?_)
        obtain ⟨x4, rfl, E, g_x4, S_x4⟩ := q
        have z_x4 := Nat.le_trans E0.1 g_x4
        replace E0 := ext_trans E0 E
        show Go p e below _ (State.setTop T (mkF m 59 #[.val (.int tc), .val (.int mc), .val (.int rc), .val (.int fl), .val (.int (0 : Int32)), .val (.int (((Jvm.Free.XT.ushr fl (1 : Int32)) &&& (2147483647 : Int32)) % (3 : Int32))), .val (.ref fo2), .unset, .unset, .unset, .unset, .unset, .unset, .unset, .unset, .unset] [(.ref x4)]))
        refine g_astore w at_59 (q := 61) rfl rfl (Ls' := #[.val (.int tc), .val (.int mc), .val (.int rc), .val (.int fl), .val (.int (0 : Int32)), .val (.int (((Jvm.Free.XT.ushr fl (1 : Int32)) &&& (2147483647 : Int32)) % (3 : Int32))), .val (.ref fo2), .val (.ref x4), .unset, .unset, .unset, .unset, .unset, .unset, .unset, .unset]) rfl ?_
        refine g_iload w at_61 (q := 63) rfl rfl ?_
        refine g_ifY w at_63 (by decide) (q := 70) (by decide) (Jvm.Free.XT.i0_ne_t cd2) ?_
        refine g_iloadN w at_70 (q := 71) rfl rfl ?_
        refine g_static w (con_two l Z a0 hw mc _ w.old hcm) no0 at_71 (q := 74) rfl rfl (hw _ (List.mem_of_getElem? (i := 4) rfl)) (hw _ (List.mem_of_getElem? (i := 5) rfl)) (hw _ (List.mem_of_getElem? (i := 6) rfl)) (hw _ (List.mem_of_getElem? (i := 7) rfl)) (by decide) pd3 rfl rfl (W := 0) (Nat.le_of_eq rfl) (by decide) (by decide) (by decide) (by decide) (fun T h v w gs C q => ?_)
        obtain ⟨x6, rfl, E, g_x6, S_x6⟩ := q
        have z_x6 := Nat.le_trans E0.1 g_x6
        have ne_x4_x6 : x4 ≠ x6 := Nat.ne_of_lt (Nat.lt_of_lt_of_le S_x4.lt g_x6)
        replace E0 := ext_trans E0 E
        replace S_x4 := S_x4.ext E
        show Go p e below _ (State.setTop T (mkF m 74 #[.val (.int tc), .val (.int mc), .val (.int rc), .val (.int fl), .val (.int (0 : Int32)), .val (.int (((Jvm.Free.XT.ushr fl (1 : Int32)) &&& (2147483647 : Int32)) % (3 : Int32))), .val (.ref fo2), .val (.ref x4), .unset, .unset, .unset, .unset, .unset, .unset, .unset, .unset] [(.ref x6)]))
        refine g_astore w at_74 (q := 76) rfl rfl (Ls' := #[.val (.int tc), .val (.int mc), .val (.int rc), .val (.int fl), .val (.int (0 : Int32)), .val (.int (((Jvm.Free.XT.ushr fl (1 : Int32)) &&& (2147483647 : Int32)) % (3 : Int32))), .val (.ref fo2), .val (.ref x4), .val (.ref x6), .unset, .unset, .unset, .unset, .unset, .unset, .unset]) rfl ?_
        refine g_iloadN w at_76 (q := 77) rfl rfl ?_
        refine g_static w (con_two l Z a0 hw rc _ w.old hcm) no0 at_77 (q := 80) rfl rfl (hw _ (List.mem_of_getElem? (i := 4) rfl)) (hw _ (List.mem_of_getElem? (i := 5) rfl)) (hw _ (List.mem_of_getElem? (i := 6) rfl)) (hw _ (List.mem_of_getElem? (i := 7) rfl)) (by decide) pd3 rfl rfl (W := 0) (Nat.le_of_eq rfl) (by decide) (by decide) (by decide) (by decide) (fun T h v w gs C q => ?_)
        obtain ⟨x7, rfl, E, g_x7, S_x7⟩ := q
        have z_x7 := Nat.le_trans E0.1 g_x7
        have ne_x4_x7 : x4 ≠ x7 := Nat.ne_of_lt (Nat.lt_of_lt_of_le S_x4.lt g_x7)
        have ne_x6_x7 : x6 ≠ x7 := Nat.ne_of_lt (Nat.lt_of_lt_of_le S_x6.lt g_x7)
        replace E0 := ext_trans E0 E
        replace S_x4 := S_x4.ext E
        replace S_x6 := S_x6.ext E
        show Go p e below _ (State.setTop T (mkF m 80 #[.val (.int tc), .val (.int mc), .val (.int rc), .val (.int fl), .val (.int (0 : Int32)), .val (.int (((Jvm.Free.XT.ushr fl (1 : Int32)) &&& (2147483647 : Int32)) % (3 : Int32))), .val (.ref fo2), .val (.ref x4), .val (.ref x6), .unset, .unset, .unset, .unset, .unset, .unset, .unset] [(.ref x7)]))
        refine g_astore w at_80 (q := 82) rfl rfl (Ls' := #[.val (.int tc), .val (.int mc), .val (.int rc), .val (.int fl), .val (.int (0 : Int32)), .val (.int (((Jvm.Free.XT.ushr fl (1 : Int32)) &&& (2147483647 : Int32)) % (3 : Int32))), .val (.ref fo2), .val (.ref x4), .val (.ref x6), .val (.ref x7), .unset, .unset, .unset, .unset, .unset, .unset]) rfl ?_
        refine g_new w at_82 (q := 85) rfl (hw _ (List.mem_of_getElem? (i := 38) rfl)) (hw _ (List.mem_of_getElem? (i := 39) rfl)) (hw _ (List.mem_of_getElem? (i := 40) rfl)) (by decide) (by decide) (fun T h a8 w E g_a8 n_a8 X_a8 D_a8 s_a8 => ?_)
        have z_a8 := Nat.le_trans E0.1 g_a8
        have ne_x4_a8 : x4 ≠ a8 := Nat.ne_of_lt (Nat.lt_of_lt_of_le S_x4.lt g_a8)
        have ne_x6_a8 : x6 ≠ a8 := Nat.ne_of_lt (Nat.lt_of_lt_of_le S_x6.lt g_a8)
        have ne_x7_a8 : x7 ≠ a8 := Nat.ne_of_lt (Nat.lt_of_lt_of_le S_x7.lt g_a8)
        replace E0 := ext_trans E0 E
        replace S_x4 := S_x4.ext E
        replace S_x6 := S_x6.ext E
        replace S_x7 := S_x7.ext E
        have F_form_a8 := D_a8 (Or.inr (hw _ (List.mem_of_getElem? (i := 51) rfl))) (ty := (.object "com/example/ontoscribe/ontoscribe/sdml/Module$Reference$Form")) (by decide)
        replace F_form_a8 : Fld Z h a8 "com/example/ontoscribe/ontoscribe/sdml/Module$Reference" "form" "Lcom/example/ontoscribe/ontoscribe/sdml/Module$Reference$Form;" .null := F_form_a8
        have F_module_a8 := D_a8 (Or.inr (hw _ (List.mem_of_getElem? (i := 53) rfl))) (ty := (.object "java/lang/String")) (by decide)
        replace F_module_a8 : Fld Z h a8 "com/example/ontoscribe/ontoscribe/sdml/Module$Reference" "module" "Ljava/lang/String;" .null := F_module_a8
        have F_name_a8 := D_a8 (Or.inr (hw _ (List.mem_of_getElem? (i := 55) rfl))) (ty := (.object "java/lang/String")) (by decide)
        replace F_name_a8 : Fld Z h a8 "com/example/ontoscribe/ontoscribe/sdml/Module$Reference" "name" "Ljava/lang/String;" .null := F_name_a8
        have F_position_a8 := D_a8 (Or.inr (hw _ (List.mem_of_getElem? (i := 57) rfl))) (ty := (.object "com/example/ontoscribe/ontoscribe/diagnostics/Position")) (by decide)
        replace F_position_a8 : Fld Z h a8 "com/example/ontoscribe/ontoscribe/sdml/Module$Reference" "position" "Lcom/example/ontoscribe/ontoscribe/diagnostics/Position;" .null := F_position_a8
        refine g_dup w at_85 (q := 86) rfl rfl ?_
        refine g_aload w at_86 (q := 88) rfl rfl rfl ?_
        refine g_aload w at_88 (q := 90) rfl rfl rfl ?_
        refine g_aload w at_90 (q := 92) rfl rfl rfl ?_
        refine g_anull w at_92 (q := 93) rfl ?_
        refine g_special w (con_ref1 l Z a0 hw a8 fo2 x6 x4 _ w.old X_a8 F_form_a8 F_module_a8 F_name_a8 F_position_a8 n_a8) no0 at_93 (q := 96) rfl rfl rfl (hw _ (List.mem_of_getElem? (i := 41) rfl)) (hw _ (List.mem_of_getElem? (i := 42) rfl)) (hw _ (List.mem_of_getElem? (i := 40) rfl)) (hw _ (List.mem_of_getElem? (i := 43) rfl)) (by decide) pd4 rfl rfl (W := 1) (Nat.le_of_eq rfl) (by decide) (by decide) (by decide) (by decide) (fun T h v w gs C q => ?_)
        obtain ⟨rfl, K, G_form, G_module, G_name, G_position⟩ := q
        replace E0 := ext_keep E0 K z_a8
        have X0 := X_a8
        replace S_x4 := S_x4.keepO K ne_x4_a8 X0 (hw _ (List.mem_of_getElem? (i := 39) rfl))
        replace S_x6 := S_x6.keepO K ne_x6_a8 X0 (hw _ (List.mem_of_getElem? (i := 39) rfl))
        replace S_x7 := S_x7.keepO K ne_x7_a8 X0 (hw _ (List.mem_of_getElem? (i := 39) rfl))
        replace X_a8 := X_a8.keep K
        replace F_form_a8 := G_form
        replace F_module_a8 := G_module
        replace F_name_a8 := G_name
        replace F_position_a8 := G_position
        show Go p e below _ (State.setTop T (mkF m 96 #[.val (.int tc), .val (.int mc), .val (.int rc), .val (.int fl), .val (.int (0 : Int32)), .val (.int (((Jvm.Free.XT.ushr fl (1 : Int32)) &&& (2147483647 : Int32)) % (3 : Int32))), .val (.ref fo2), .val (.ref x4), .val (.ref x6), .val (.ref x7), .unset, .unset, .unset, .unset, .unset, .unset] [(.ref a8)]))
        refine g_astore w at_96 (q := 98) rfl rfl (Ls' := #[.val (.int tc), .val (.int mc), .val (.int rc), .val (.int fl), .val (.int (0 : Int32)), .val (.int (((Jvm.Free.XT.ushr fl (1 : Int32)) &&& (2147483647 : Int32)) % (3 : Int32))), .val (.ref fo2), .val (.ref x4), .val (.ref x6), .val (.ref x7), .val (.ref a8), .unset, .unset, .unset, .unset, .unset]) rfl ?_
        refine g_iload w at_98 (q := 100) rfl rfl ?_
        refine g_ifY w at_100 (by decide) (q := 116) (by decide) (by decide) ?_
        refine g_anull w at_116 (q := 117) rfl ?_
        refine g_astore w at_117 (q := 119) rfl rfl (Ls' := #[.val (.int tc), .val (.int mc), .val (.int rc), .val (.int fl), .val (.int (0 : Int32)), .val (.int (((Jvm.Free.XT.ushr fl (1 : Int32)) &&& (2147483647 : Int32)) % (3 : Int32))), .val (.ref fo2), .val (.ref x4), .val (.ref x6), .val (.ref x7), .val (.ref a8), .val .null, .unset, .unset, .unset, .unset]) rfl ?_
        refine g_new w at_119 (q := 122) rfl (hw _ (List.mem_of_getElem? (i := 69) rfl)) (hw _ (List.mem_of_getElem? (i := 70) rfl)) (hw _ (List.mem_of_getElem? (i := 71) rfl)) (by decide) (by decide) (fun T h a10 w E g_a10 n_a10 X_a10 D_a10 s_a10 => ?_)
        have z_a10 := Nat.le_trans E0.1 g_a10
        have ne_x4_a10 : x4 ≠ a10 := Nat.ne_of_lt (Nat.lt_of_lt_of_le S_x4.lt g_a10)
        have ne_x6_a10 : x6 ≠ a10 := Nat.ne_of_lt (Nat.lt_of_lt_of_le S_x6.lt g_a10)
        have ne_x7_a10 : x7 ≠ a10 := Nat.ne_of_lt (Nat.lt_of_lt_of_le S_x7.lt g_a10)
        have ne_a8_a10 : a8 ≠ a10 := Nat.ne_of_lt (Nat.lt_of_lt_of_le X_a8.lt g_a10)
        replace E0 := ext_trans E0 E
        replace S_x4 := S_x4.ext E
        replace S_x6 := S_x6.ext E
        replace S_x7 := S_x7.ext E
        replace X_a8 := X_a8.ext E
        replace F_form_a8 := F_form_a8.ext E
        replace F_module_a8 := F_module_a8.ext E
        replace F_name_a8 := F_name_a8.ext E
        replace F_position_a8 := F_position_a8.ext E
        have F_modCount_a10 := D_a10 (Or.inl (hw _ (List.mem_of_getElem? (i := 89) rfl))) (ty := .int) (by decide)
        replace F_modCount_a10 : Fld Z h a10 "java/util/AbstractList" "modCount" "I" (.int (0 : Int32)) := F_modCount_a10
        have F_elementData_a10 := D_a10 (Or.inl (hw _ (List.mem_of_getElem? (i := 92) rfl))) (ty := (.array (.object "java/lang/Object"))) (by decide)
        replace F_elementData_a10 : Fld Z h a10 "java/util/ArrayList" "elementData" "[Ljava/lang/Object;" .null := F_elementData_a10
        refine g_dup w at_122 (q := 123) rfl rfl ?_
        refine g_special w (con_arl l Z a0 hw a10 dc_ _ w.old X_a10 F_modCount_a10 F_elementData_a10 n_a10 SD_) no0 at_123 (q := 126) rfl rfl rfl (hw _ (List.mem_of_getElem? (i := 72) rfl)) (hw _ (List.mem_of_getElem? (i := 73) rfl)) (hw _ (List.mem_of_getElem? (i := 71) rfl)) (hw _ (List.mem_of_getElem? (i := 74) rfl)) (by decide) pd1 rfl rfl (W := 1) (Nat.le_of_eq rfl) (by decide) (by decide) (by decide) (by decide) (fun T h v w gs C q => ?_)
        obtain ⟨rfl, K⟩ := q
        replace E0 := ext_keep E0 K z_a10
        have X0 := X_a10
        replace S_x4 := S_x4.keepO K ne_x4_a10 X0 (hw _ (List.mem_of_getElem? (i := 70) rfl))
        replace S_x6 := S_x6.keepO K ne_x6_a10 X0 (hw _ (List.mem_of_getElem? (i := 70) rfl))
        replace S_x7 := S_x7.keepO K ne_x7_a10 X0 (hw _ (List.mem_of_getElem? (i := 70) rfl))
        replace X_a8 := X_a8.keep K
        replace F_form_a8 := F_form_a8.keep K (not1 ne_a8_a10)
        replace F_module_a8 := F_module_a8.keep K (not1 ne_a8_a10)
        replace F_name_a8 := F_name_a8.keep K (not1 ne_a8_a10)
        replace F_position_a8 := F_position_a8.keep K (not1 ne_a8_a10)
        replace X_a10 := X_a10.keep K
        show Go p e below _ (State.setTop T (mkF m 126 #[.val (.int tc), .val (.int mc), .val (.int rc), .val (.int fl), .val (.int (0 : Int32)), .val (.int (((Jvm.Free.XT.ushr fl (1 : Int32)) &&& (2147483647 : Int32)) % (3 : Int32))), .val (.ref fo2), .val (.ref x4), .val (.ref x6), .val (.ref x7), .val (.ref a8), .val .null, .unset, .unset, .unset, .unset] [(.ref a10)]))
        refine g_astore w at_126 (q := 128) rfl rfl (Ls' := #[.val (.int tc), .val (.int mc), .val (.int rc), .val (.int fl), .val (.int (0 : Int32)), .val (.int (((Jvm.Free.XT.ushr fl (1 : Int32)) &&& (2147483647 : Int32)) % (3 : Int32))), .val (.ref fo2), .val (.ref x4), .val (.ref x6), .val (.ref x7), .val (.ref a8), .val .null, .val (.ref a10), .unset, .unset, .unset]) rfl ?_
        refine g_new w at_128 (q := 131) rfl (hw _ (List.mem_of_getElem? (i := 93) rfl)) (hw _ (List.mem_of_getElem? (i := 94) rfl)) (hw _ (List.mem_of_getElem? (i := 95) rfl)) (by decide) (by decide) (fun T h a11 w E g_a11 n_a11 X_a11 D_a11 s_a11 => ?_)
        have z_a11 := Nat.le_trans E0.1 g_a11
        have ne_a10_a11 : a10 ≠ a11 := Nat.ne_of_lt (Nat.lt_of_lt_of_le X_a10.lt g_a11)
        have ne_x6_a11 : x6 ≠ a11 := Nat.ne_of_lt (Nat.lt_of_lt_of_le S_x6.lt g_a11)
        have ne_x7_a11 : x7 ≠ a11 := Nat.ne_of_lt (Nat.lt_of_lt_of_le S_x7.lt g_a11)
        have ne_x4_a11 : x4 ≠ a11 := Nat.ne_of_lt (Nat.lt_of_lt_of_le S_x4.lt g_a11)
        have ne_a8_a11 : a8 ≠ a11 := Nat.ne_of_lt (Nat.lt_of_lt_of_le X_a8.lt g_a11)
        replace E0 := ext_trans E0 E
        replace S_x4 := S_x4.ext E
        replace S_x6 := S_x6.ext E
        replace S_x7 := S_x7.ext E
        replace X_a8 := X_a8.ext E
        replace F_form_a8 := F_form_a8.ext E
        replace F_module_a8 := F_module_a8.ext E
        replace F_name_a8 := F_name_a8.ext E
        replace F_position_a8 := F_position_a8.ext E
        replace X_a10 := X_a10.ext E
        have F_type_a11 := D_a11 (Or.inr (hw _ (List.mem_of_getElem? (i := 101) rfl))) (ty := (.object "com/example/ontoscribe/ontoscribe/sdml/Module$Reference")) (by decide)
        replace F_type_a11 : Fld Z h a11 "com/example/ontoscribe/ontoscribe/sdml/Module$Variant" "type" "Lcom/example/ontoscribe/ontoscribe/sdml/Module$Reference;" .null := F_type_a11
        have F_rename_a11 := D_a11 (Or.inr (hw _ (List.mem_of_getElem? (i := 103) rfl))) (ty := (.object "com/example/ontoscribe/ontoscribe/sdml/Module$Identifier")) (by decide)
        replace F_rename_a11 : Fld Z h a11 "com/example/ontoscribe/ontoscribe/sdml/Module$Variant" "rename" "Lcom/example/ontoscribe/ontoscribe/sdml/Module$Identifier;" .null := F_rename_a11
        have F_annotations_a11 := D_a11 (Or.inr (hw _ (List.mem_of_getElem? (i := 105) rfl))) (ty := (.object "java/util/List")) (by decide)
        replace F_annotations_a11 : Fld Z h a11 "com/example/ontoscribe/ontoscribe/sdml/Module$Variant" "annotations" "Ljava/util/List;" .null := F_annotations_a11
        refine g_dup w at_131 (q := 132) rfl rfl ?_
        refine g_aload w at_132 (q := 134) rfl rfl rfl ?_
        refine g_aload w at_134 (q := 136) rfl rfl rfl ?_
        refine g_aload w at_136 (q := 138) rfl rfl rfl ?_
        refine g_special w (con_var0 l Z a0 hw a11 a8 a10 _ w.old X_a11 F_type_a11 F_rename_a11 F_annotations_a11 n_a11) no0 at_138 (q := 141) rfl rfl rfl (hw _ (List.mem_of_getElem? (i := 96) rfl)) (hw _ (List.mem_of_getElem? (i := 97) rfl)) (hw _ (List.mem_of_getElem? (i := 95) rfl)) (hw _ (List.mem_of_getElem? (i := 98) rfl)) (by decide) pd5 rfl rfl (W := 1) (Nat.le_of_eq rfl) (by decide) (by decide) (by decide) (by decide) (fun T h v w gs C q => ?_)
        obtain ⟨rfl, K, G_type, G_rename, G_annotations⟩ := q
        replace E0 := ext_keep E0 K z_a11
        have X0 := X_a11
        replace S_x4 := S_x4.keepO K ne_x4_a11 X0 (hw _ (List.mem_of_getElem? (i := 94) rfl))
        replace S_x6 := S_x6.keepO K ne_x6_a11 X0 (hw _ (List.mem_of_getElem? (i := 94) rfl))
        replace S_x7 := S_x7.keepO K ne_x7_a11 X0 (hw _ (List.mem_of_getElem? (i := 94) rfl))
        replace X_a8 := X_a8.keep K
        replace F_form_a8 := F_form_a8.keep K (not1 ne_a8_a11)
        replace F_module_a8 := F_module_a8.keep K (not1 ne_a8_a11)
        replace F_name_a8 := F_name_a8.keep K (not1 ne_a8_a11)
        replace F_position_a8 := F_position_a8.keep K (not1 ne_a8_a11)
        replace X_a10 := X_a10.keep K
        replace X_a11 := X_a11.keep K
        replace F_type_a11 := G_type
        replace F_rename_a11 := G_rename
        replace F_annotations_a11 := G_annotations
        show Go p e below _ (State.setTop T (mkF m 141 #[.val (.int tc), .val (.int mc), .val (.int rc), .val (.int fl), .val (.int (0 : Int32)), .val (.int (((Jvm.Free.XT.ushr fl (1 : Int32)) &&& (2147483647 : Int32)) % (3 : Int32))), .val (.ref fo2), .val (.ref x4), .val (.ref x6), .val (.ref x7), .val (.ref a8), .val .null, .val (.ref a10), .unset, .unset, .unset] [(.ref a11)]))
        refine g_astore w at_141 (q := 143) rfl rfl (Ls' := #[.val (.int tc), .val (.int mc), .val (.int rc), .val (.int fl), .val (.int (0 : Int32)), .val (.int (((Jvm.Free.XT.ushr fl (1 : Int32)) &&& (2147483647 : Int32)) % (3 : Int32))), .val (.ref fo2), .val (.ref x4), .val (.ref x6), .val (.ref x7), .val (.ref a8), .val .null, .val (.ref a10), .val (.ref a11), .unset, .unset]) rfl ?_
        refine g_aload w at_143 (q := 145) rfl rfl rfl ?_
        refine g_virtualP w (con_shown0 l Z a0 hw a11 a8 x4 _ w.old F_rename_a11 F_type_a11 X_a8 F_name_a8) no0 X_a11 at_145 (q := 148) rfl rfl (hw _ (List.mem_of_getElem? (i := 106) rfl)) (hw _ (List.mem_of_getElem? (i := 107) rfl)) (hw _ (List.mem_of_getElem? (i := 109) rfl)) (hw _ (List.mem_of_getElem? (i := 108) rfl)) (hw _ (List.mem_of_getElem? (i := 95) rfl)) (hw _ (List.mem_of_getElem? (i := 110) rfl)) (by decide) (nf (hw _ (List.mem_of_getElem? (i := 109) rfl))) pd2 rfl rfl (W := 0) (Nat.le_of_eq rfl) (by decide) (by decide) (by decide) (by decide) (fun T v w C q => ?_)
        obtain rfl := q
        show Go p e below _ (State.setTop T (mkF m 148 #[.val (.int tc), .val (.int mc), .val (.int rc), .val (.int fl), .val (.int (0 : Int32)), .val (.int (((Jvm.Free.XT.ushr fl (1 : Int32)) &&& (2147483647 : Int32)) % (3 : Int32))), .val (.ref fo2), .val (.ref x4), .val (.ref x6), .val (.ref x7), .val (.ref a8), .val .null, .val (.ref a10), .val (.ref a11), .unset, .unset] [(.ref x4)]))
        refine g_astore w at_148 (q := 150) rfl rfl (Ls' := #[.val (.int tc), .val (.int mc), .val (.int rc), .val (.int fl), .val (.int (0 : Int32)), .val (.int (((Jvm.Free.XT.ushr fl (1 : Int32)) &&& (2147483647 : Int32)) % (3 : Int32))), .val (.ref fo2), .val (.ref x4), .val (.ref x6), .val (.ref x7), .val (.ref a8), .val .null, .val (.ref a10), .val (.ref a11), .val (.ref x4), .unset]) rfl ?_
        refine g_iload w at_150 (q := 152) rfl rfl ?_
        refine g_ifY w at_152 (by decide) (q := 160) (by decide) (by decide) ?_
        refine g_aload w at_160 (q := 162) rfl rfl rfl ?_
        refine g_astore w at_162 (q := 164) rfl rfl (Ls' := #[.val (.int tc), .val (.int mc), .val (.int rc), .val (.int fl), .val (.int (0 : Int32)), .val (.int (((Jvm.Free.XT.ushr fl (1 : Int32)) &&& (2147483647 : Int32)) % (3 : Int32))), .val (.ref fo2), .val (.ref x4), .val (.ref x6), .val (.ref x7), .val (.ref a8), .val .null, .val (.ref a10), .val (.ref a11), .val (.ref x4), .val (.ref x4)]) rfl ?_
        refine g_aload w at_164 (q := 166) rfl rfl rfl ?_
        refine g_nullN w at_166 (q := 169) rfl ?_
        refine g_aload w at_169 (q := 171) rfl rfl rfl ?_
        refine g_aload w at_171 (q := 173) rfl rfl rfl ?_
        refine g_virtualP w (con_eqs l Z a0 hw x4 _ w.old) no0 S_x4.exa at_173 (q := 176) rfl rfl (hw _ (List.mem_of_getElem? (i := 116) rfl)) (hw _ (List.mem_of_getElem? (i := 117) rfl)) (hw _ (List.mem_of_getElem? (i := 119) rfl)) (hw _ (List.mem_of_getElem? (i := 118) rfl)) (hw _ (List.mem_of_getElem? (i := 11) rfl)) (hw _ (List.mem_of_getElem? (i := 120) rfl)) (by decide) (nf (hw _ (List.mem_of_getElem? (i := 119) rfl))) pd6 rfl rfl (W := 0) (Nat.le_of_eq rfl) (by decide) (by decide) (by decide) (by decide) (fun T v w C q => ?_)
        obtain rfl := q
        show Go p e below _ (State.setTop T (mkF m 176 #[.val (.int tc), .val (.int mc), .val (.int rc), .val (.int fl), .val (.int (0 : Int32)), .val (.int (((Jvm.Free.XT.ushr fl (1 : Int32)) &&& (2147483647 : Int32)) % (3 : Int32))), .val (.ref fo2), .val (.ref x4), .val (.ref x6), .val (.ref x7), .val (.ref a8), .val .null, .val (.ref a10), .val (.ref a11), .val (.ref x4), .val (.ref x4)] [(.int (1 : Int32))]))
        refine g_ifN w at_176 (q := 179) rfl (by decide) ?_
        refine g_iconst w at_179 (q := 180) rfl (v := (1 : Int32)) (by decide) ?_
        refine g_goto w at_180 (by decide) (q := 184) (by decide) ?_
        exact g_retn w at_184 rfl (by simp) rfl (by decide) (by decide) rfl
      · refine g_getS w at_42 (q := 45) rfl (hw _ (List.mem_of_getElem? (i := 128) rfl)) Via.refl SF1 (fun T w => ?_)
        refine g_astore w at_45 (q := 47) rfl rfl (Ls' := #[.val (.int tc), .val (.int mc), .val (.int rc), .val (.int fl), .val (.int (0 : Int32)), .val (.int (((Jvm.Free.XT.ushr fl (1 : Int32)) &&& (2147483647 : Int32)) % (3 : Int32))), .val (.ref fo1), .unset, .unset, .unset, .unset, .unset, .unset, .unset, .unset, .unset]) rfl ?_
        refine g_goto w at_47 (by decide) (q := 55) (by decide) ?_
        refine g_iloadN w at_55 (q := 56) rfl rfl ?_
        refine g_static w (con_two l Z a0 hw tc _ w.old hcm) no0 at_56 (q := 59) rfl rfl (hw _ (List.mem_of_getElem? (i := 4) rfl)) (hw _ (List.mem_of_getElem? (i := 5) rfl)) (hw _ (List.mem_of_getElem? (i := 6) rfl)) (hw _ (List.mem_of_getElem? (i := 7) rfl)) (by decide) pd3 rfl rfl (W := 0) (Nat.le_of_eq rfl) (by decide) (by decide) (by decide) (by decide) (fun T h v w gs C q => ?_)
        obtain ⟨x14, rfl, E, g_x14, S_x14⟩ := q
        have z_x14 := Nat.le_trans E0.1 g_x14
        replace E0 := ext_trans E0 E
        show Go p e below _ (State.setTop T (mkF m 59 #[.val (.int tc), .val (.int mc), .val (.int rc), .val (.int fl), .val (.int (0 : Int32)), .val (.int (((Jvm.Free.XT.ushr fl (1 : Int32)) &&& (2147483647 : Int32)) % (3 : Int32))), .val (.ref fo1), .unset, .unset, .unset, .unset, .unset, .unset, .unset, .unset, .unset] [(.ref x14)]))
        refine g_astore w at_59 (q := 61) rfl rfl (Ls' := #[.val (.int tc), .val (.int mc), .val (.int rc), .val (.int fl), .val (.int (0 : Int32)), .val (.int (((Jvm.Free.XT.ushr fl (1 : Int32)) &&& (2147483647 : Int32)) % (3 : Int32))), .val (.ref fo1), .val (.ref x14), .unset, .unset, .unset, .unset, .unset, .unset, .unset, .unset]) rfl ?_
        refine g_iload w at_61 (q := 63) rfl rfl ?_
        refine g_ifY w at_63 (by decide) (q := 70) (by decide) (Jvm.Free.XT.i0_ne_t cd2) ?_
        refine g_iloadN w at_70 (q := 71) rfl rfl ?_
        refine g_static w (con_two l Z a0 hw mc _ w.old hcm) no0 at_71 (q := 74) rfl rfl (hw _ (List.mem_of_getElem? (i := 4) rfl)) (hw _ (List.mem_of_getElem? (i := 5) rfl)) (hw _ (List.mem_of_getElem? (i := 6) rfl)) (hw _ (List.mem_of_getElem? (i := 7) rfl)) (by decide) pd3 rfl rfl (W := 0) (Nat.le_of_eq rfl) (by decide) (by decide) (by decide) (by decide) (fun T h v w gs C q => ?_)
        obtain ⟨x16, rfl, E, g_x16, S_x16⟩ := q
        have z_x16 := Nat.le_trans E0.1 g_x16
        have ne_x14_x16 : x14 ≠ x16 := Nat.ne_of_lt (Nat.lt_of_lt_of_le S_x14.lt g_x16)
        replace E0 := ext_trans E0 E
        replace S_x14 := S_x14.ext E
        show Go p e below _ (State.setTop T (mkF m 74 #[.val (.int tc), .val (.int mc), .val (.int rc), .val (.int fl), .val (.int (0 : Int32)), .val (.int (((Jvm.Free.XT.ushr fl (1 : Int32)) &&& (2147483647 : Int32)) % (3 : Int32))), .val (.ref fo1), .val (.ref x14), .unset, .unset, .unset, .unset, .unset, .unset, .unset, .unset] [(.ref x16)]))
        refine g_astore w at_74 (q := 76) rfl rfl (Ls' := #[.val (.int tc), .val (.int mc), .val (.int rc), .val (.int fl), .val (.int (0 : Int32)), .val (.int (((Jvm.Free.XT.ushr fl (1 : Int32)) &&& (2147483647 : Int32)) % (3 : Int32))), .val (.ref fo1), .val (.ref x14), .val (.ref x16), .unset, .unset, .unset, .unset, .unset, .unset, .unset]) rfl ?_
        refine g_iloadN w at_76 (q := 77) rfl rfl ?_
        refine g_static w (con_two l Z a0 hw rc _ w.old hcm) no0 at_77 (q := 80) rfl rfl (hw _ (List.mem_of_getElem? (i := 4) rfl)) (hw _ (List.mem_of_getElem? (i := 5) rfl)) (hw _ (List.mem_of_getElem? (i := 6) rfl)) (hw _ (List.mem_of_getElem? (i := 7) rfl)) (by decide) pd3 rfl rfl (W := 0) (Nat.le_of_eq rfl) (by decide) (by decide) (by decide) (by decide) (fun T h v w gs C q => ?_)
        obtain ⟨x17, rfl, E, g_x17, S_x17⟩ := q
        have z_x17 := Nat.le_trans E0.1 g_x17
        have ne_x16_x17 : x16 ≠ x17 := Nat.ne_of_lt (Nat.lt_of_lt_of_le S_x16.lt g_x17)
        have ne_x14_x17 : x14 ≠ x17 := Nat.ne_of_lt (Nat.lt_of_lt_of_le S_x14.lt g_x17)
        replace E0 := ext_trans E0 E
        replace S_x14 := S_x14.ext E
        replace S_x16 := S_x16.ext E
        show Go p e below _ (State.setTop T (mkF m 80 #[.val (.int tc), .val (.int mc), .val (.int rc), .val (.int fl), .val (.int (0 : Int32)), .val (.int (((Jvm.Free.XT.ushr fl (1 : Int32)) &&& (2147483647 : Int32)) % (3 : Int32))), .val (.ref fo1), .val (.ref x14), .val (.ref x16), .unset, .unset, .unset, .unset, .unset, .unset, .unset] [(.ref x17)]))
        refine g_astore w at_80 (q := 82) rfl rfl (Ls' := #[.val (.int tc), .val (.int mc), .val (.int rc), .val (.int fl), .val (.int (0 : Int32)), .val (.int (((Jvm.Free.XT.ushr fl (1 : Int32)) &&& (2147483647 : Int32)) % (3 : Int32))), .val (.ref fo1), .val (.ref x14), .val (.ref x16), .val (.ref x17), .unset, .unset, .unset, .unset, .unset, .unset]) rfl ?_
        refine g_new w at_82 (q := 85) rfl (hw _ (List.mem_of_getElem? (i := 38) rfl)) (hw _ (List.mem_of_getElem? (i := 39) rfl)) (hw _ (List.mem_of_getElem? (i := 40) rfl)) (by decide) (by decide) (fun T h a18 w E g_a18 n_a18 X_a18 D_a18 s_a18 => ?_)
        have z_a18 := Nat.le_trans E0.1 g_a18
        have ne_x16_a18 : x16 ≠ a18 := Nat.ne_of_lt (Nat.lt_of_lt_of_le S_x16.lt g_a18)
        have ne_x14_a18 : x14 ≠ a18 := Nat.ne_of_lt (Nat.lt_of_lt_of_le S_x14.lt g_a18)
        have ne_x17_a18 : x17 ≠ a18 := Nat.ne_of_lt (Nat.lt_of_lt_of_le S_x17.lt g_a18)
        replace E0 := ext_trans E0 E
        replace S_x14 := S_x14.ext E
        replace S_x16 := S_x16.ext E
        replace S_x17 := S_x17.ext E
        have F_form_a18 := D_a18 (Or.inr (hw _ (List.mem_of_getElem? (i := 51) rfl))) (ty := (.object "com/example/ontoscribe/ontoscribe/sdml/Module$Reference$Form")) (by decide)
        replace F_form_a18 : Fld Z h a18 "com/example/ontoscribe/ontoscribe/sdml/Module$Reference" "form" "Lcom/example/ontoscribe/ontoscribe/sdml/Module$Reference$Form;" .null := F_form_a18
        have F_module_a18 := D_a18 (Or.inr (hw _ (List.mem_of_getElem? (i := 53) rfl))) (ty := (.object "java/lang/String")) (by decide)
        replace F_module_a18 : Fld Z h a18 "com/example/ontoscribe/ontoscribe/sdml/Module$Reference" "module" "Ljava/lang/String;" .null := F_module_a18
        have F_name_a18 := D_a18 (Or.inr (hw _ (List.mem_of_getElem? (i := 55) rfl))) (ty := (.object "java/lang/String")) (by decide)
        replace F_name_a18 : Fld Z h a18 "com/example/ontoscribe/ontoscribe/sdml/Module$Reference" "name" "Ljava/lang/String;" .null := F_name_a18
        have F_position_a18 := D_a18 (Or.inr (hw _ (List.mem_of_getElem? (i := 57) rfl))) (ty := (.object "com/example/ontoscribe/ontoscribe/diagnostics/Position")) (by decide)
        replace F_position_a18 : Fld Z h a18 "com/example/ontoscribe/ontoscribe/sdml/Module$Reference" "position" "Lcom/example/ontoscribe/ontoscribe/diagnostics/Position;" .null := F_position_a18
        refine g_dup w at_85 (q := 86) rfl rfl ?_
        refine g_aload w at_86 (q := 88) rfl rfl rfl ?_
        refine g_aload w at_88 (q := 90) rfl rfl rfl ?_
        refine g_aload w at_90 (q := 92) rfl rfl rfl ?_
        refine g_anull w at_92 (q := 93) rfl ?_
        refine g_special w (con_ref1 l Z a0 hw a18 fo1 x16 x14 _ w.old X_a18 F_form_a18 F_module_a18 F_name_a18 F_position_a18 n_a18) no0 at_93 (q := 96) rfl rfl rfl (hw _ (List.mem_of_getElem? (i := 41) rfl)) (hw _ (List.mem_of_getElem? (i := 42) rfl)) (hw _ (List.mem_of_getElem? (i := 40) rfl)) (hw _ (List.mem_of_getElem? (i := 43) rfl)) (by decide) pd4 rfl rfl (W := 1) (Nat.le_of_eq rfl) (by decide) (by decide) (by decide) (by decide) (fun T h v w gs C q => ?_)
        obtain ⟨rfl, K, G_form, G_module, G_name, G_position⟩ := q
        replace E0 := ext_keep E0 K z_a18
        have X0 := X_a18
        replace S_x14 := S_x14.keepO K ne_x14_a18 X0 (hw _ (List.mem_of_getElem? (i := 39) rfl))
        replace S_x16 := S_x16.keepO K ne_x16_a18 X0 (hw _ (List.mem_of_getElem? (i := 39) rfl))
        replace S_x17 := S_x17.keepO K ne_x17_a18 X0 (hw _ (List.mem_of_getElem? (i := 39) rfl))
        replace X_a18 := X_a18.keep K
        replace F_form_a18 := G_form
        replace F_module_a18 := G_module
        replace F_name_a18 := G_name
        replace F_position_a18 := G_position
        show Go p e below _ (State.setTop T (mkF m 96 #[.val (.int tc), .val (.int mc), .val (.int rc), .val (.int fl), .val (.int (0 : Int32)), .val (.int (((Jvm.Free.XT.ushr fl (1 : Int32)) &&& (2147483647 : Int32)) % (3 : Int32))), .val (.ref fo1), .val (.ref x14), .val (.ref x16), .val (.ref x17), .unset, .unset, .unset, .unset, .unset, .unset] [(.ref a18)]))
        refine g_astore w at_96 (q := 98) rfl rfl (Ls' := #[.val (.int tc), .val (.int mc), .val (.int rc), .val (.int fl), .val (.int (0 : Int32)), .val (.int (((Jvm.Free.XT.ushr fl (1 : Int32)) &&& (2147483647 : Int32)) % (3 : Int32))), .val (.ref fo1), .val (.ref x14), .val (.ref x16), .val (.ref x17), .val (.ref a18), .unset, .unset, .unset, .unset, .unset]) rfl ?_
        refine g_iload w at_98 (q := 100) rfl rfl ?_
        refine g_ifY w at_100 (by decide) (q := 116) (by decide) (by decide) ?_
        refine g_anull w at_116 (q := 117) rfl ?_
        refine g_astore w at_117 (q := 119) rfl rfl (Ls' := #[.val (.int tc), .val (.int mc), .val (.int rc), .val (.int fl), .val (.int (0 : Int32)), .val (.int (((Jvm.Free.XT.ushr fl (1 : Int32)) &&& (2147483647 : Int32)) % (3 : Int32))), .val (.ref fo1), .val (.ref x14), .val (.ref x16), .val (.ref x17), .val (.ref a18), .val .null, .unset, .unset, .unset, .unset]) rfl ?_
        refine g_new w at_119 (q := 122) rfl (hw _ (List.mem_of_getElem? (i := 69) rfl)) (hw _ (List.mem_of_getElem? (i := 70) rfl)) (hw _ (List.mem_of_getElem? (i := 71) rfl)) (by decide) (by decide) (fun T h a20 w E g_a20 n_a20 X_a20 D_a20 s_a20 => ?_)
        have z_a20 := Nat.le_trans E0.1 g_a20
        have ne_a18_a20 : a18 ≠ a20 := Nat.ne_of_lt (Nat.lt_of_lt_of_le X_a18.lt g_a20)
        have ne_x16_a20 : x16 ≠ a20 := Nat.ne_of_lt (Nat.lt_of_lt_of_le S_x16.lt g_a20)
        have ne_x14_a20 : x14 ≠ a20 := Nat.ne_of_lt (Nat.lt_of_lt_of_le S_x14.lt g_a20)
        have ne_x17_a20 : x17 ≠ a20 := Nat.ne_of_lt (Nat.lt_of_lt_of_le S_x17.lt g_a20)
        replace E0 := ext_trans E0 E
        replace S_x14 := S_x14.ext E
        replace S_x16 := S_x16.ext E
        replace S_x17 := S_x17.ext E
        replace X_a18 := X_a18.ext E
        replace F_form_a18 := F_form_a18.ext E
        replace F_module_a18 := F_module_a18.ext E
        replace F_name_a18 := F_name_a18.ext E
        replace F_position_a18 := F_position_a18.ext E
        have F_modCount_a20 := D_a20 (Or.inl (hw _ (List.mem_of_getElem? (i := 89) rfl))) (ty := .int) (by decide)
        replace F_modCount_a20 : Fld Z h a20 "java/util/AbstractList" "modCount" "I" (.int (0 : Int32)) := F_modCount_a20
        have F_elementData_a20 := D_a20 (Or.inl (hw _ (List.mem_of_getElem? (i := 92) rfl))) (ty := (.array (.object "java/lang/Object"))) (by decide)
        replace F_elementData_a20 : Fld Z h a20 "java/util/ArrayList" "elementData" "[Ljava/lang/Object;" .null := F_elementData_a20
        refine g_dup w at_122 (q := 123) rfl rfl ?_
        refine g_special w (con_arl l Z a0 hw a20 dc_ _ w.old X_a20 F_modCount_a20 F_elementData_a20 n_a20 SD_) no0 at_123 (q := 126) rfl rfl rfl (hw _ (List.mem_of_getElem? (i := 72) rfl)) (hw _ (List.mem_of_getElem? (i := 73) rfl)) (hw _ (List.mem_of_getElem? (i := 71) rfl)) (hw _ (List.mem_of_getElem? (i := 74) rfl)) (by decide) pd1 rfl rfl (W := 1) (Nat.le_of_eq rfl) (by decide) (by decide) (by decide) (by decide) (fun T h v w gs C q => ?_)
        obtain ⟨rfl, K⟩ := q
        replace E0 := ext_keep E0 K z_a20
        have X0 := X_a20
        replace S_x14 := S_x14.keepO K ne_x14_a20 X0 (hw _ (List.mem_of_getElem? (i := 70) rfl))
        replace S_x16 := S_x16.keepO K ne_x16_a20 X0 (hw _ (List.mem_of_getElem? (i := 70) rfl))
        replace S_x17 := S_x17.keepO K ne_x17_a20 X0 (hw _ (List.mem_of_getElem? (i := 70) rfl))
        replace X_a18 := X_a18.keep K
        replace F_form_a18 := F_form_a18.keep K (not1 ne_a18_a20)
        replace F_module_a18 := F_module_a18.keep K (not1 ne_a18_a20)
        replace F_name_a18 := F_name_a18.keep K (not1 ne_a18_a20)
        replace F_position_a18 := F_position_a18.keep K (not1 ne_a18_a20)
        replace X_a20 := X_a20.keep K
        show Go p e below _ (State.setTop T (mkF m 126 #[.val (.int tc), .val (.int mc), .val (.int rc), .val (.int fl), .val (.int (0 : Int32)), .val (.int (((Jvm.Free.XT.ushr fl (1 : Int32)) &&& (2147483647 : Int32)) % (3 : Int32))), .val (.ref fo1), .val (.ref x14), .val (.ref x16), .val (.ref x17), .val (.ref a18), .val .null, .unset, .unset, .unset, .unset] [(.ref a20)]))
        refine g_astore w at_126 (q := 128) rfl rfl (Ls' := #[.val (.int tc), .val (.int mc), .val (.int rc), .val (.int fl), .val (.int (0 : Int32)), .val (.int (((Jvm.Free.XT.ushr fl (1 : Int32)) &&& (2147483647 : Int32)) % (3 : Int32))), .val (.ref fo1), .val (.ref x14), .val (.ref x16), .val (.ref x17), .val (.ref a18), .val .null, .val (.ref a20), .unset, .unset, .unset]) rfl ?_
        refine g_new w at_128 (q := 131) rfl (hw _ (List.mem_of_getElem? (i := 93) rfl)) (hw _ (List.mem_of_getElem? (i := 94) rfl)) (hw _ (List.mem_of_getElem? (i := 95) rfl)) (by decide) (by decide) (fun T h a21 w E g_a21 n_a21 X_a21 D_a21 s_a21 => ?_)
        have z_a21 := Nat.le_trans E0.1 g_a21
        have ne_a18_a21 : a18 ≠ a21 := Nat.ne_of_lt (Nat.lt_of_lt_of_le X_a18.lt g_a21)
        have ne_x16_a21 : x16 ≠ a21 := Nat.ne_of_lt (Nat.lt_of_lt_of_le S_x16.lt g_a21)
        have ne_x14_a21 : x14 ≠ a21 := Nat.ne_of_lt (Nat.lt_of_lt_of_le S_x14.lt g_a21)
        have ne_x17_a21 : x17 ≠ a21 := Nat.ne_of_lt (Nat.lt_of_lt_of_le S_x17.lt g_a21)
        have ne_a20_a21 : a20 ≠ a21 := Nat.ne_of_lt (Nat.lt_of_lt_of_le X_a20.lt g_a21)
        replace E0 := ext_trans E0 E
        replace S_x14 := S_x14.ext E
        replace S_x16 := S_x16.ext E
        replace S_x17 := S_x17.ext E
        replace X_a18 := X_a18.ext E
        replace F_form_a18 := F_form_a18.ext E
        replace F_module_a18 := F_module_a18.ext E
        replace F_name_a18 := F_name_a18.ext E
        replace F_position_a18 := F_position_a18.ext E
        replace X_a20 := X_a20.ext E
        have F_type_a21 := D_a21 (Or.inr (hw _ (List.mem_of_getElem? (i := 101) rfl))) (ty := (.object "com/example/ontoscribe/ontoscribe/sdml/Module$Reference")) (by decide)
        replace F_type_a21 : Fld Z h a21 "com/example/ontoscribe/ontoscribe/sdml/Module$Variant" "type" "Lcom/example/ontoscribe/ontoscribe/sdml/Module$Reference;" .null := F_type_a21
        have F_rename_a21 := D_a21 (Or.inr (hw _ (List.mem_of_getElem? (i := 103) rfl))) (ty := (.object "com/example/ontoscribe/ontoscribe/sdml/Module$Identifier")) (by decide)
        replace F_rename_a21 : Fld Z h a21 "com/example/ontoscribe/ontoscribe/sdml/Module$Variant" "rename" "Lcom/example/ontoscribe/ontoscribe/sdml/Module$Identifier;" .null := F_rename_a21
        have F_annotations_a21 := D_a21 (Or.inr (hw _ (List.mem_of_getElem? (i := 105) rfl))) (ty := (.object "java/util/List")) (by decide)
        replace F_annotations_a21 : Fld Z h a21 "com/example/ontoscribe/ontoscribe/sdml/Module$Variant" "annotations" "Ljava/util/List;" .null := F_annotations_a21
        refine g_dup w at_131 (q := 132) rfl rfl ?_
        refine g_aload w at_132 (q := 134) rfl rfl rfl ?_
        refine g_aload w at_134 (q := 136) rfl rfl rfl ?_
        refine g_aload w at_136 (q := 138) rfl rfl rfl ?_
        refine g_special w (con_var0 l Z a0 hw a21 a18 a20 _ w.old X_a21 F_type_a21 F_rename_a21 F_annotations_a21 n_a21) no0 at_138 (q := 141) rfl rfl rfl (hw _ (List.mem_of_getElem? (i := 96) rfl)) (hw _ (List.mem_of_getElem? (i := 97) rfl)) (hw _ (List.mem_of_getElem? (i := 95) rfl)) (hw _ (List.mem_of_getElem? (i := 98) rfl)) (by decide) pd5 rfl rfl (W := 1) (Nat.le_of_eq rfl) (by decide) (by decide) (by decide) (by decide) (fun T h v w gs C q => ?_)
        obtain ⟨rfl, K, G_type, G_rename, G_annotations⟩ := q
        replace E0 := ext_keep E0 K z_a21
        have X0 := X_a21
        replace S_x14 := S_x14.keepO K ne_x14_a21 X0 (hw _ (List.mem_of_getElem? (i := 94) rfl))
        replace S_x16 := S_x16.keepO K ne_x16_a21 X0 (hw _ (List.mem_of_getElem? (i := 94) rfl))
        replace S_x17 := S_x17.keepO K ne_x17_a21 X0 (hw _ (List.mem_of_getElem? (i := 94) rfl))
        replace X_a18 := X_a18.keep K
        replace F_form_a18 := F_form_a18.keep K (not1 ne_a18_a21)
        replace F_module_a18 := F_module_a18.keep K (not1 ne_a18_a21)
        replace F_name_a18 := F_name_a18.keep K (not1 ne_a18_a21)
        replace F_position_a18 := F_position_a18.keep K (not1 ne_a18_a21)
        replace X_a20 := X_a20.keep K
        replace X_a21 := X_a21.keep K
        replace F_type_a21 := G_type
        replace F_rename_a21 := G_rename
        replace F_annotations_a21 := G_annotations
        show Go p e below _ (State.setTop T (mkF m 141 #[.val (.int tc), .val (.int mc), .val (.int rc), .val (.int fl), .val (.int (0 : Int32)), .val (.int (((Jvm.Free.XT.ushr fl (1 : Int32)) &&& (2147483647 : Int32)) % (3 : Int32))), .val (.ref fo1), .val (.ref x14), .val (.ref x16), .val (.ref x17), .val (.ref a18), .val .null, .val (.ref a20), .unset, .unset, .unset] [(.ref a21)]))
        refine g_astore w at_141 (q := 143) rfl rfl (Ls' := #[.val (.int tc), .val (.int mc), .val (.int rc), .val (.int fl), .val (.int (0 : Int32)), .val (.int (((Jvm.Free.XT.ushr fl (1 : Int32)) &&& (2147483647 : Int32)) % (3 : Int32))), .val (.ref fo1), .val (.ref x14), .val (.ref x16), .val (.ref x17), .val (.ref a18), .val .null, .val (.ref a20), .val (.ref a21), .unset, .unset]) rfl ?_
        refine g_aload w at_143 (q := 145) rfl rfl rfl ?_
        refine g_virtualP w (con_shown0 l Z a0 hw a21 a18 x14 _ w.old F_rename_a21 F_type_a21 X_a18 F_name_a18) no0 X_a21 at_145 (q := 148) rfl rfl (hw _ (List.mem_of_getElem? (i := 106) rfl)) (hw _ (List.mem_of_getElem? (i := 107) rfl)) (hw _ (List.mem_of_getElem? (i := 109) rfl)) (hw _ (List.mem_of_getElem? (i := 108) rfl)) (hw _ (List.mem_of_getElem? (i := 95) rfl)) (hw _ (List.mem_of_getElem? (i := 110) rfl)) (by decide) (nf (hw _ (List.mem_of_getElem? (i := 109) rfl))) pd2 rfl rfl (W := 0) (Nat.le_of_eq rfl) (by decide) (by decide) (by decide) (by decide) (fun T v w C q => ?_)
        obtain rfl := q
        show Go p e below _ (State.setTop T (mkF m 148 #[.val (.int tc), .val (.int mc), .val (.int rc), .val (.int fl), .val (.int (0 : Int32)), .val (.int (((Jvm.Free.XT.ushr fl (1 : Int32)) &&& (2147483647 : Int32)) % (3 : Int32))), .val (.ref fo1), .val (.ref x14), .val (.ref x16), .val (.ref x17), .val (.ref a18), .val .null, .val (.ref a20), .val (.ref a21), .unset, .unset] [(.ref x14)]))
        refine g_astore w at_148 (q := 150) rfl rfl (Ls' := #[.val (.int tc), .val (.int mc), .val (.int rc), .val (.int fl), .val (.int (0 : Int32)), .val (.int (((Jvm.Free.XT.ushr fl (1 : Int32)) &&& (2147483647 : Int32)) % (3 : Int32))), .val (.ref fo1), .val (.ref x14), .val (.ref x16), .val (.ref x17), .val (.ref a18), .val .null, .val (.ref a20), .val (.ref a21), .val (.ref x14), .unset]) rfl ?_
        refine g_iload w at_150 (q := 152) rfl rfl ?_
        refine g_ifY w at_152 (by decide) (q := 160) (by decide) (by decide) ?_
        refine g_aload w at_160 (q := 162) rfl rfl rfl ?_
        refine g_astore w at_162 (q := 164) rfl rfl (Ls' := #[.val (.int tc), .val (.int mc), .val (.int rc), .val (.int fl), .val (.int (0 : Int32)), .val (.int (((Jvm.Free.XT.ushr fl (1 : Int32)) &&& (2147483647 : Int32)) % (3 : Int32))), .val (.ref fo1), .val (.ref x14), .val (.ref x16), .val (.ref x17), .val (.ref a18), .val .null, .val (.ref a20), .val (.ref a21), .val (.ref x14), .val (.ref x14)]) rfl ?_
        refine g_aload w at_164 (q := 166) rfl rfl rfl ?_
        refine g_nullN w at_166 (q := 169) rfl ?_
        refine g_aload w at_169 (q := 171) rfl rfl rfl ?_
        refine g_aload w at_171 (q := 173) rfl rfl rfl ?_
        refine g_virtualP w (con_eqs l Z a0 hw x14 _ w.old) no0 S_x14.exa at_173 (q := 176) rfl rfl (hw _ (List.mem_of_getElem? (i := 116) rfl)) (hw _ (List.mem_of_getElem? (i := 117) rfl)) (hw _ (List.mem_of_getElem? (i := 119) rfl)) (hw _ (List.mem_of_getElem? (i := 118) rfl)) (hw _ (List.mem_of_getElem? (i := 11) rfl)) (hw _ (List.mem_of_getElem? (i := 120) rfl)) (by decide) (nf (hw _ (List.mem_of_getElem? (i := 119) rfl))) pd6 rfl rfl (W := 0) (Nat.le_of_eq rfl) (by decide) (by decide) (by decide) (by decide) (fun T v w C q => ?_)
        obtain rfl := q
        show Go p e below _ (State.setTop T (mkF m 176 #[.val (.int tc), .val (.int mc), .val (.int rc), .val (.int fl), .val (.int (0 : Int32)), .val (.int (((Jvm.Free.XT.ushr fl (1 : Int32)) &&& (2147483647 : Int32)) % (3 : Int32))), .val (.ref fo1), .val (.ref x14), .val (.ref x16), .val (.ref x17), .val (.ref a18), .val .null, .val (.ref a20), .val (.ref a21), .val (.ref x14), .val (.ref x14)] [(.int (1 : Int32))]))
        refine g_ifN w at_176 (q := 179) rfl (by decide) ?_
        refine g_iconst w at_179 (q := 180) rfl (v := (1 : Int32)) (by decide) ?_
        refine g_goto w at_180 (by decide) (q := 184) (by decide) ?_
        exact g_retn w at_184 rfl (by simp) rfl (by decide) (by decide) rfl
    · refine g_getS w at_28 (q := 31) rfl (hw _ (List.mem_of_getElem? (i := 1) rfl)) Via.refl SF0 (fun T w => ?_)
      refine g_astore w at_31 (q := 33) rfl rfl (Ls' := #[.val (.int tc), .val (.int mc), .val (.int rc), .val (.int fl), .val (.int (0 : Int32)), .val (.int (((Jvm.Free.XT.ushr fl (1 : Int32)) &&& (2147483647 : Int32)) % (3 : Int32))), .val (.ref fo0), .unset, .unset, .unset, .unset, .unset, .unset, .unset, .unset, .unset]) rfl ?_
      refine g_goto w at_33 (by decide) (q := 55) (by decide) ?_
      refine g_iloadN w at_55 (q := 56) rfl rfl ?_
      refine g_static w (con_two l Z a0 hw tc _ w.old hcm) no0 at_56 (q := 59) rfl rfl (hw _ (List.mem_of_getElem? (i := 4) rfl)) (hw _ (List.mem_of_getElem? (i := 5) rfl)) (hw _ (List.mem_of_getElem? (i := 6) rfl)) (hw _ (List.mem_of_getElem? (i := 7) rfl)) (by decide) pd3 rfl rfl (W := 0) (Nat.le_of_eq rfl) (by decide) (by decide) (by decide) (by decide) (fun T h v w gs C q => ?_)
      obtain ⟨x24, rfl, E, g_x24, S_x24⟩ := q
      have z_x24 := Nat.le_trans E0.1 g_x24
      replace E0 := ext_trans E0 E
      show Go p e below _ (State.setTop T (mkF m 59 #[.val (.int tc), .val (.int mc), .val (.int rc), .val (.int fl), .val (.int (0 : Int32)), .val (.int (((Jvm.Free.XT.ushr fl (1 : Int32)) &&& (2147483647 : Int32)) % (3 : Int32))), .val (.ref fo0), .unset, .unset, .unset, .unset, .unset, .unset, .unset, .unset, .unset] [(.ref x24)]))
      refine g_astore w at_59 (q := 61) rfl rfl (Ls' := #[.val (.int tc), .val (.int mc), .val (.int rc), .val (.int fl), .val (.int (0 : Int32)), .val (.int (((Jvm.Free.XT.ushr fl (1 : Int32)) &&& (2147483647 : Int32)) % (3 : Int32))), .val (.ref fo0), .val (.ref x24), .unset, .unset, .unset, .unset, .unset, .unset, .unset, .unset]) rfl ?_
      refine g_iload w at_61 (q := 63) rfl rfl ?_
      refine g_ifN w at_63 (q := 66) rfl (Jvm.Free.XT.i0_ne_f cd2) ?_
      refine g_anull w at_66 (q := 67) rfl ?_
      refine g_goto w at_67 (by decide) (q := 74) (by decide) ?_
      refine g_astore w at_74 (q := 76) rfl rfl (Ls' := #[.val (.int tc), .val (.int mc), .val (.int rc), .val (.int fl), .val (.int (0 : Int32)), .val (.int (((Jvm.Free.XT.ushr fl (1 : Int32)) &&& (2147483647 : Int32)) % (3 : Int32))), .val (.ref fo0), .val (.ref x24), .val .null, .unset, .unset, .unset, .unset, .unset, .unset, .unset]) rfl ?_
      refine g_iloadN w at_76 (q := 77) rfl rfl ?_
      refine g_static w (con_two l Z a0 hw rc _ w.old hcm) no0 at_77 (q := 80) rfl rfl (hw _ (List.mem_of_getElem? (i := 4) rfl)) (hw _ (List.mem_of_getElem? (i := 5) rfl)) (hw _ (List.mem_of_getElem? (i := 6) rfl)) (hw _ (List.mem_of_getElem? (i := 7) rfl)) (by decide) pd3 rfl rfl (W := 0) (Nat.le_of_eq rfl) (by decide) (by decide) (by decide) (by decide) (fun T h v w gs C q => ?_)
      obtain ⟨x26, rfl, E, g_x26, S_x26⟩ := q
      have z_x26 := Nat.le_trans E0.1 g_x26
      have ne_x24_x26 : x24 ≠ x26 := Nat.ne_of_lt (Nat.lt_of_lt_of_le S_x24.lt g_x26)
      replace E0 := ext_trans E0 E
      replace S_x24 := S_x24.ext E
      show Go p e below _ (State.setTop T (mkF m 80 #[.val (.int tc), .val (.int mc), .val (.int rc), .val (.int fl), .val (.int (0 : Int32)), .val (.int (((Jvm.Free.XT.ushr fl (1 : Int32)) &&& (2147483647 : Int32)) % (3 : Int32))), .val (.ref fo0), .val (.ref x24), .val .null, .unset, .unset, .unset, .unset, .unset, .unset, .unset] [(.ref x26)]))
      refine g_astore w at_80 (q := 82) rfl rfl (Ls' := #[.val (.int tc), .val (.int mc), .val (.int rc), .val (.int fl), .val (.int (0 : Int32)), .val (.int (((Jvm.Free.XT.ushr fl (1 : Int32)) &&& (2147483647 : Int32)) % (3 : Int32))), .val (.ref fo0), .val (.ref x24), .val .null, .val (.ref x26), .unset, .unset, .unset, .unset, .unset, .unset]) rfl ?_
      refine g_new w at_82 (q := 85) rfl (hw _ (List.mem_of_getElem? (i := 38) rfl)) (hw _ (List.mem_of_getElem? (i := 39) rfl)) (hw _ (List.mem_of_getElem? (i := 40) rfl)) (by decide) (by decide) (fun T h a27 w E g_a27 n_a27 X_a27 D_a27 s_a27 => ?_)
      have z_a27 := Nat.le_trans E0.1 g_a27
      have ne_x24_a27 : x24 ≠ a27 := Nat.ne_of_lt (Nat.lt_of_lt_of_le S_x24.lt g_a27)
      have ne_x26_a27 : x26 ≠ a27 := Nat.ne_of_lt (Nat.lt_of_lt_of_le S_x26.lt g_a27)
      replace E0 := ext_trans E0 E
      replace S_x24 := S_x24.ext E
      replace S_x26 := S_x26.ext E
      have F_form_a27 := D_a27 (Or.inr (hw _ (List.mem_of_getElem? (i := 51) rfl))) (ty := (.object "com/example/ontoscribe/ontoscribe/sdml/Module$Reference$Form")) (by decide)
      replace F_form_a27 : Fld Z h a27 "com/example/ontoscribe/ontoscribe/sdml/Module$Reference" "form" "Lcom/example/ontoscribe/ontoscribe/sdml/Module$Reference$Form;" .null := F_form_a27
      have F_module_a27 := D_a27 (Or.inr (hw _ (List.mem_of_getElem? (i := 53) rfl))) (ty := (.object "java/lang/String")) (by decide)
      replace F_module_a27 : Fld Z h a27 "com/example/ontoscribe/ontoscribe/sdml/Module$Reference" "module" "Ljava/lang/String;" .null := F_module_a27
      have F_name_a27 := D_a27 (Or.inr (hw _ (List.mem_of_getElem? (i := 55) rfl))) (ty := (.object "java/lang/String")) (by decide)
      replace F_name_a27 : Fld Z h a27 "com/example/ontoscribe/ontoscribe/sdml/Module$Reference" "name" "Ljava/lang/String;" .null := F_name_a27
      have F_position_a27 := D_a27 (Or.inr (hw _ (List.mem_of_getElem? (i := 57) rfl))) (ty := (.object "com/example/ontoscribe/ontoscribe/diagnostics/Position")) (by decide)
      replace F_position_a27 : Fld Z h a27 "com/example/ontoscribe/ontoscribe/sdml/Module$Reference" "position" "Lcom/example/ontoscribe/ontoscribe/diagnostics/Position;" .null := F_position_a27
      refine g_dup w at_85 (q := 86) rfl rfl ?_
      refine g_aload w at_86 (q := 88) rfl rfl rfl ?_
      refine g_aload w at_88 (q := 90) rfl rfl rfl ?_
      refine g_aload w at_90 (q := 92) rfl rfl rfl ?_
      refine g_anull w at_92 (q := 93) rfl ?_
      refine g_special w (con_ref0 l Z a0 hw a27 fo0 x24 _ w.old X_a27 F_form_a27 F_module_a27 F_name_a27 F_position_a27 n_a27) no0 at_93 (q := 96) rfl rfl rfl (hw _ (List.mem_of_getElem? (i := 41) rfl)) (hw _ (List.mem_of_getElem? (i := 42) rfl)) (hw _ (List.mem_of_getElem? (i := 40) rfl)) (hw _ (List.mem_of_getElem? (i := 43) rfl)) (by decide) pd4 rfl rfl (W := 1) (Nat.le_of_eq rfl) (by decide) (by decide) (by decide) (by decide) (fun T h v w gs C q => ?_)
      obtain ⟨rfl, K, G_form, G_module, G_name, G_position⟩ := q
      replace E0 := ext_keep E0 K z_a27
      have X0 := X_a27
      replace S_x24 := S_x24.keepO K ne_x24_a27 X0 (hw _ (List.mem_of_getElem? (i := 39) rfl))
      replace S_x26 := S_x26.keepO K ne_x26_a27 X0 (hw _ (List.mem_of_getElem? (i := 39) rfl))
      replace X_a27 := X_a27.keep K
      replace F_form_a27 := G_form
      replace F_module_a27 := G_module
      replace F_name_a27 := G_name
      replace F_position_a27 := G_position
      show Go p e below _ (State.setTop T (mkF m 96 #[.val (.int tc), .val (.int mc), .val (.int rc), .val (.int fl), .val (.int (0 : Int32)), .val (.int (((Jvm.Free.XT.ushr fl (1 : Int32)) &&& (2147483647 : Int32)) % (3 : Int32))), .val (.ref fo0), .val (.ref x24), .val .null, .val (.ref x26), .unset, .unset, .unset, .unset, .unset, .unset] [(.ref a27)]))
      refine g_astore w at_96 (q := 98) rfl rfl (Ls' := #[.val (.int tc), .val (.int mc), .val (.int rc), .val (.int fl), .val (.int (0 : Int32)), .val (.int (((Jvm.Free.XT.ushr fl (1 : Int32)) &&& (2147483647 : Int32)) % (3 : Int32))), .val (.ref fo0), .val (.ref x24), .val .null, .val (.ref x26), .val (.ref a27), .unset, .unset, .unset, .unset, .unset]) rfl ?_
      refine g_iload w at_98 (q := 100) rfl rfl ?_
      refine g_ifY w at_100 (by decide) (q := 116) (by decide) (by decide) ?_
      refine g_anull w at_116 (q := 117) rfl ?_
      refine g_astore w at_117 (q := 119) rfl rfl (Ls' := #[.val (.int tc), .val (.int mc), .val (.int rc), .val (.int fl), .val (.int (0 : Int32)), .val (.int (((Jvm.Free.XT.ushr fl (1 : Int32)) &&& (2147483647 : Int32)) % (3 : Int32))), .val (.ref fo0), .val (.ref x24), .val .null, .val (.ref x26), .val (.ref a27), .val .null, .unset, .unset, .unset, .unset]) rfl ?_
      refine g_new w at_119 (q := 122) rfl (hw _ (List.mem_of_getElem? (i := 69) rfl)) (hw _ (List.mem_of_getElem? (i := 70) rfl)) (hw _ (List.mem_of_getElem? (i := 71) rfl)) (by decide) (by decide) (fun T h a29 w E g_a29 n_a29 X_a29 D_a29 s_a29 => ?_)
      have z_a29 := Nat.le_trans E0.1 g_a29
      have ne_x24_a29 : x24 ≠ a29 := Nat.ne_of_lt (Nat.lt_of_lt_of_le S_x24.lt g_a29)
      have ne_a27_a29 : a27 ≠ a29 := Nat.ne_of_lt (Nat.lt_of_lt_of_le X_a27.lt g_a29)
      have ne_x26_a29 : x26 ≠ a29 := Nat.ne_of_lt (Nat.lt_of_lt_of_le S_x26.lt g_a29)
      replace E0 := ext_trans E0 E
      replace S_x24 := S_x24.ext E
      replace S_x26 := S_x26.ext E
      replace X_a27 := X_a27.ext E
      replace F_form_a27 := F_form_a27.ext E
      replace F_module_a27 := F_module_a27.ext E
      replace F_name_a27 := F_name_a27.ext E
      replace F_position_a27 := F_position_a27.ext E
      have F_modCount_a29 := D_a29 (Or.inl (hw _ (List.mem_of_getElem? (i := 89) rfl))) (ty := .int) (by decide)
      replace F_modCount_a29 : Fld Z h a29 "java/util/AbstractList" "modCount" "I" (.int (0 : Int32)) := F_modCount_a29
      have F_elementData_a29 := D_a29 (Or.inl (hw _ (List.mem_of_getElem? (i := 92) rfl))) (ty := (.array (.object "java/lang/Object"))) (by decide)
      replace F_elementData_a29 : Fld Z h a29 "java/util/ArrayList" "elementData" "[Ljava/lang/Object;" .null := F_elementData_a29
      refine g_dup w at_122 (q := 123) rfl rfl ?_
      refine g_special w (con_arl l Z a0 hw a29 dc_ _ w.old X_a29 F_modCount_a29 F_elementData_a29 n_a29 SD_) no0 at_123 (q := 126) rfl rfl rfl (hw _ (List.mem_of_getElem? (i := 72) rfl)) (hw _ (List.mem_of_getElem? (i := 73) rfl)) (hw _ (List.mem_of_getElem? (i := 71) rfl)) (hw _ (List.mem_of_getElem? (i := 74) rfl)) (by decide) pd1 rfl rfl (W := 1) (Nat.le_of_eq rfl) (by decide) (by decide) (by decide) (by decide) (fun T h v w gs C q => ?_)
      obtain ⟨rfl, K⟩ := q
      replace E0 := ext_keep E0 K z_a29
      have X0 := X_a29
      replace S_x24 := S_x24.keepO K ne_x24_a29 X0 (hw _ (List.mem_of_getElem? (i := 70) rfl))
      replace S_x26 := S_x26.keepO K ne_x26_a29 X0 (hw _ (List.mem_of_getElem? (i := 70) rfl))
      replace X_a27 := X_a27.keep K
      replace F_form_a27 := F_form_a27.keep K (not1 ne_a27_a29)
      replace F_module_a27 := F_module_a27.keep K (not1 ne_a27_a29)
      replace F_name_a27 := F_name_a27.keep K (not1 ne_a27_a29)
      replace F_position_a27 := F_position_a27.keep K (not1 ne_a27_a29)
      replace X_a29 := X_a29.keep K
      show Go p e below _ (State.setTop T (mkF m 126 #[.val (.int tc), .val (.int mc), .val (.int rc), .val (.int fl), .val (.int (0 : Int32)), .val (.int (((Jvm.Free.XT.ushr fl (1 : Int32)) &&& (2147483647 : Int32)) % (3 : Int32))), .val (.ref fo0), .val (.ref x24), .val .null, .val (.ref x26), .val (.ref a27), .val .null, .unset, .unset, .unset, .unset] [(.ref a29)]))
      refine g_astore w at_126 (q := 128) rfl rfl (Ls' := #[.val (.int tc), .val (.int mc), .val (.int rc), .val (.int fl), .val (.int (0 : Int32)), .val (.int (((Jvm.Free.XT.ushr fl (1 : Int32)) &&& (2147483647 : Int32)) % (3 : Int32))), .val (.ref fo0), .val (.ref x24), .val .null, .val (.ref x26), .val (.ref a27), .val .null, .val (.ref a29), .unset, .unset, .unset]) rfl ?_
      refine g_new w at_128 (q := 131) rfl (hw _ (List.mem_of_getElem? (i := 93) rfl)) (hw _ (List.mem_of_getElem? (i := 94) rfl)) (hw _ (List.mem_of_getElem? (i := 95) rfl)) (by decide) (by decide) (fun T h a30 w E g_a30 n_a30 X_a30 D_a30 s_a30 => ?_)
      have z_a30 := Nat.le_trans E0.1 g_a30
      have ne_a29_a30 : a29 ≠ a30 := Nat.ne_of_lt (Nat.lt_of_lt_of_le X_a29.lt g_a30)
      have ne_x24_a30 : x24 ≠ a30 := Nat.ne_of_lt (Nat.lt_of_lt_of_le S_x24.lt g_a30)
      have ne_a27_a30 : a27 ≠ a30 := Nat.ne_of_lt (Nat.lt_of_lt_of_le X_a27.lt g_a30)
      have ne_x26_a30 : x26 ≠ a30 := Nat.ne_of_lt (Nat.lt_of_lt_of_le S_x26.lt g_a30)
      replace E0 := ext_trans E0 E
      replace S_x24 := S_x24.ext E
      replace S_x26 := S_x26.ext E
      replace X_a27 := X_a27.ext E
      replace F_form_a27 := F_form_a27.ext E
      replace F_module_a27 := F_module_a27.ext E
      replace F_name_a27 := F_name_a27.ext E
      replace F_position_a27 := F_position_a27.ext E
      replace X_a29 := X_a29.ext E
      have F_type_a30 := D_a30 (Or.inr (hw _ (List.mem_of_getElem? (i := 101) rfl))) (ty := (.object "com/example/ontoscribe/ontoscribe/sdml/Module$Reference")) (by decide)
      replace F_type_a30 : Fld Z h a30 "com/example/ontoscribe/ontoscribe/sdml/Module$Variant" "type" "Lcom/example/ontoscribe/ontoscribe/sdml/Module$Reference;" .null := F_type_a30
      have F_rename_a30 := D_a30 (Or.inr (hw _ (List.mem_of_getElem? (i := 103) rfl))) (ty := (.object "com/example/ontoscribe/ontoscribe/sdml/Module$Identifier")) (by decide)
      replace F_rename_a30 : Fld Z h a30 "com/example/ontoscribe/ontoscribe/sdml/Module$Variant" "rename" "Lcom/example/ontoscribe/ontoscribe/sdml/Module$Identifier;" .null := F_rename_a30
      have F_annotations_a30 := D_a30 (Or.inr (hw _ (List.mem_of_getElem? (i := 105) rfl))) (ty := (.object "java/util/List")) (by decide)
      replace F_annotations_a30 : Fld Z h a30 "com/example/ontoscribe/ontoscribe/sdml/Module$Variant" "annotations" "Ljava/util/List;" .null := F_annotations_a30
      refine g_dup w at_131 (q := 132) rfl rfl ?_
      refine g_aload w at_132 (q := 134) rfl rfl rfl ?_
      refine g_aload w at_134 (q := 136) rfl rfl rfl ?_
      refine g_aload w at_136 (q := 138) rfl rfl rfl ?_
      refine g_special w (con_var0 l Z a0 hw a30 a27 a29 _ w.old X_a30 F_type_a30 F_rename_a30 F_annotations_a30 n_a30) no0 at_138 (q := 141) rfl rfl rfl (hw _ (List.mem_of_getElem? (i := 96) rfl)) (hw _ (List.mem_of_getElem? (i := 97) rfl)) (hw _ (List.mem_of_getElem? (i := 95) rfl)) (hw _ (List.mem_of_getElem? (i := 98) rfl)) (by decide) pd5 rfl rfl (W := 1) (Nat.le_of_eq rfl) (by decide) (by decide) (by decide) (by decide) (fun T h v w gs C q => ?_)
      obtain ⟨rfl, K, G_type, G_rename, G_annotations⟩ := q
      replace E0 := ext_keep E0 K z_a30
      have X0 := X_a30
      replace S_x24 := S_x24.keepO K ne_x24_a30 X0 (hw _ (List.mem_of_getElem? (i := 94) rfl))
      replace S_x26 := S_x26.keepO K ne_x26_a30 X0 (hw _ (List.mem_of_getElem? (i := 94) rfl))
      replace X_a27 := X_a27.keep K
      replace F_form_a27 := F_form_a27.keep K (not1 ne_a27_a30)
      replace F_module_a27 := F_module_a27.keep K (not1 ne_a27_a30)
      replace F_name_a27 := F_name_a27.keep K (not1 ne_a27_a30)
      replace F_position_a27 := F_position_a27.keep K (not1 ne_a27_a30)
      replace X_a29 := X_a29.keep K
      replace X_a30 := X_a30.keep K
      replace F_type_a30 := G_type
      replace F_rename_a30 := G_rename
      replace F_annotations_a30 := G_annotations
      show Go p e below _ (State.setTop T (mkF m 141 #[.val (.int tc), .val (.int mc), .val (.int rc), .val (.int fl), .val (.int (0 : Int32)), .val (.int (((Jvm.Free.XT.ushr fl (1 : Int32)) &&& (2147483647 : Int32)) % (3 : Int32))), .val (.ref fo0), .val (.ref x24), .val .null, .val (.ref x26), .val (.ref a27), .val .null, .val (.ref a29), .unset, .unset, .unset] [(.ref a30)]))
      refine g_astore w at_141 (q := 143) rfl rfl (Ls' := #[.val (.int tc), .val (.int mc), .val (.int rc), .val (.int fl), .val (.int (0 : Int32)), .val (.int (((Jvm.Free.XT.ushr fl (1 : Int32)) &&& (2147483647 : Int32)) % (3 : Int32))), .val (.ref fo0), .val (.ref x24), .val .null, .val (.ref x26), .val (.ref a27), .val .null, .val (.ref a29), .val (.ref a30), .unset, .unset]) rfl ?_
      refine g_aload w at_143 (q := 145) rfl rfl rfl ?_
      refine g_virtualP w (con_shown0 l Z a0 hw a30 a27 x24 _ w.old F_rename_a30 F_type_a30 X_a27 F_name_a27) no0 X_a30 at_145 (q := 148) rfl rfl (hw _ (List.mem_of_getElem? (i := 106) rfl)) (hw _ (List.mem_of_getElem? (i := 107) rfl)) (hw _ (List.mem_of_getElem? (i := 109) rfl)) (hw _ (List.mem_of_getElem? (i := 108) rfl)) (hw _ (List.mem_of_getElem? (i := 95) rfl)) (hw _ (List.mem_of_getElem? (i := 110) rfl)) (by decide) (nf (hw _ (List.mem_of_getElem? (i := 109) rfl))) pd2 rfl rfl (W := 0) (Nat.le_of_eq rfl) (by decide) (by decide) (by decide) (by decide) (fun T v w C q => ?_)
      obtain rfl := q
      show Go p e below _ (State.setTop T (mkF m 148 #[.val (.int tc), .val (.int mc), .val (.int rc), .val (.int fl), .val (.int (0 : Int32)), .val (.int (((Jvm.Free.XT.ushr fl (1 : Int32)) &&& (2147483647 : Int32)) % (3 : Int32))), .val (.ref fo0), .val (.ref x24), .val .null, .val (.ref x26), .val (.ref a27), .val .null, .val (.ref a29), .val (.ref a30), .unset, .unset] [(.ref x24)]))
      refine g_astore w at_148 (q := 150) rfl rfl (Ls' := #[.val (.int tc), .val (.int mc), .val (.int rc), .val (.int fl), .val (.int (0 : Int32)), .val (.int (((Jvm.Free.XT.ushr fl (1 : Int32)) &&& (2147483647 : Int32)) % (3 : Int32))), .val (.ref fo0), .val (.ref x24), .val .null, .val (.ref x26), .val (.ref a27), .val .null, .val (.ref a29), .val (.ref a30), .val (.ref x24), .unset]) rfl ?_
      refine g_iload w at_150 (q := 152) rfl rfl ?_
      refine g_ifY w at_152 (by decide) (q := 160) (by decide) (by decide) ?_
      refine g_aload w at_160 (q := 162) rfl rfl rfl ?_
      refine g_astore w at_162 (q := 164) rfl rfl (Ls' := #[.val (.int tc), .val (.int mc), .val (.int rc), .val (.int fl), .val (.int (0 : Int32)), .val (.int (((Jvm.Free.XT.ushr fl (1 : Int32)) &&& (2147483647 : Int32)) % (3 : Int32))), .val (.ref fo0), .val (.ref x24), .val .null, .val (.ref x26), .val (.ref a27), .val .null, .val (.ref a29), .val (.ref a30), .val (.ref x24), .val (.ref x24)]) rfl ?_
      refine g_aload w at_164 (q := 166) rfl rfl rfl ?_
      refine g_nullN w at_166 (q := 169) rfl ?_
      refine g_aload w at_169 (q := 171) rfl rfl rfl ?_
      refine g_aload w at_171 (q := 173) rfl rfl rfl ?_
      refine g_virtualP w (con_eqs l Z a0 hw x24 _ w.old) no0 S_x24.exa at_173 (q := 176) rfl rfl (hw _ (List.mem_of_getElem? (i := 116) rfl)) (hw _ (List.mem_of_getElem? (i := 117) rfl)) (hw _ (List.mem_of_getElem? (i := 119) rfl)) (hw _ (List.mem_of_getElem? (i := 118) rfl)) (hw _ (List.mem_of_getElem? (i := 11) rfl)) (hw _ (List.mem_of_getElem? (i := 120) rfl)) (by decide) (nf (hw _ (List.mem_of_getElem? (i := 119) rfl))) pd6 rfl rfl (W := 0) (Nat.le_of_eq rfl) (by decide) (by decide) (by decide) (by decide) (fun T v w C q => ?_)
      obtain rfl := q
      show Go p e below _ (State.setTop T (mkF m 176 #[.val (.int tc), .val (.int mc), .val (.int rc), .val (.int fl), .val (.int (0 : Int32)), .val (.int (((Jvm.Free.XT.ushr fl (1 : Int32)) &&& (2147483647 : Int32)) % (3 : Int32))), .val (.ref fo0), .val (.ref x24), .val .null, .val (.ref x26), .val (.ref a27), .val .null, .val (.ref a29), .val (.ref a30), .val (.ref x24), .val (.ref x24)] [(.int (1 : Int32))]))
      refine g_ifN w at_176 (q := 179) rfl (by decide) ?_
      refine g_iconst w at_179 (q := 180) rfl (v := (1 : Int32)) (by decide) ?_
      refine g_goto w at_180 (by decide) (q := 184) (by decide) ?_
      exact g_retn w at_184 rfl (by simp) rfl (by decide) (by decide) rfl
  · refine g_iconst w at_6 (q := 7) rfl (v := (1 : Int32)) (by decide) ?_
    refine g_goto w at_7 (by decide) (q := 11) (by decide) ?_
    refine g_istore w at_11 (q := 13) rfl (Ls' := #[.val (.int tc), .val (.int mc), .val (.int rc), .val (.int fl), .val (.int (1 : Int32)), .unset, .unset, .unset, .unset, .unset, .unset, .unset, .unset, .unset, .unset, .unset]) rfl ?_
    refine g_iloadN w at_13 (q := 14) rfl rfl ?_
    refine g_iconst w at_14 (q := 15) rfl (v := (1 : Int32)) (by decide) ?_
    refine g_iushr w at_15 (q := 16) rfl ?_
    refine g_ldcI w at_16 (q := 18) rfl (v := (2147483647 : Int32)) (hw _ (List.mem_of_getElem? (i := 0) rfl)) ?_
    refine g_iand w at_18 (q := 19) rfl ?_
    refine g_iconst w at_19 (q := 20) rfl (v := (3 : Int32)) (by decide) ?_
    refine g_irem w at_20 (q := 21) rfl (by decide) ?_
    refine g_istore w at_21 (q := 23) rfl (Ls' := #[.val (.int tc), .val (.int mc), .val (.int rc), .val (.int fl), .val (.int (1 : Int32)), .val (.int (((Jvm.Free.XT.ushr fl (1 : Int32)) &&& (2147483647 : Int32)) % (3 : Int32))), .unset, .unset, .unset, .unset, .unset, .unset, .unset, .unset, .unset, .unset]) rfl ?_
    refine g_iload w at_23 (q := 25) rfl rfl ?_
    refine g_if_ne w at_25 (by decide) (q := 36) (by decide) (q' := 28) rfl (fun cd33 => ?_) (fun cd33 => ?_)
    · refine g_iload w at_36 (q := 38) rfl rfl ?_
      refine g_iconst w at_38 (q := 39) rfl (v := (1 : Int32)) (by decide) ?_
      refine g_ic_ne w at_39 (by decide) (q := 50) (by decide) (q' := 42) rfl (fun cd34 => ?_) (fun cd34 => ?_)
      · refine g_getS w at_50 (q := 53) rfl (hw _ (List.mem_of_getElem? (i := 121) rfl)) Via.refl SF2 (fun T w => ?_)
        refine g_astore w at_53 (q := 55) rfl rfl (Ls' := #[.val (.int tc), .val (.int mc), .val (.int rc), .val (.int fl), .val (.int (1 : Int32)), .val (.int (((Jvm.Free.XT.ushr fl (1 : Int32)) &&& (2147483647 : Int32)) % (3 : Int32))), .val (.ref fo2), .unset, .unset, .unset, .unset, .unset, .unset, .unset, .unset, .unset]) rfl ?_
        refine g_iloadN w at_55 (q := 56) rfl rfl ?_
        refine g_static w (con_two l Z a0 hw tc _ w.old hcm) no0 at_56 (q := 59) rfl rfl (hw _ (List.mem_of_getElem? (i := 4) rfl)) (hw _ (List.mem_of_getElem? (i := 5) rfl)) (hw _ (List.mem_of_getElem? (i := 6) rfl)) (hw _ (List.mem_of_getElem? (i := 7) rfl)) (by decide) pd3 rfl rfl (W := 0) (Nat.le_of_eq rfl) (by decide) (by decide) (by decide) (by decide) (fun T h v w gs C q => ?_)
        obtain ⟨x35, rfl, E, g_x35, S_x35⟩ := q
        have z_x35 := Nat.le_trans E0.1 g_x35
        replace E0 := ext_trans E0 E
        show Go p e below _ (State.setTop T (mkF m 59 #[.val (.int tc), .val (.int mc), .val (.int rc), .val (.int fl), .val (.int (1 : Int32)), .val (.int (((Jvm.Free.XT.ushr fl (1 : Int32)) &&& (2147483647 : Int32)) % (3 : Int32))), .val (.ref fo2), .unset, .unset, .unset, .unset, .unset, .unset, .unset, .unset, .unset] [(.ref x35)]))
        refine g_astore w at_59 (q := 61) rfl rfl (Ls' := #[.val (.int tc), .val (.int mc), .val (.int rc), .val (.int fl), .val (.int (1 : Int32)), .val (.int (((Jvm.Free.XT.ushr fl (1 : Int32)) &&& (2147483647 : Int32)) % (3 : Int32))), .val (.ref fo2), .val (.ref x35), .unset, .unset, .unset, .unset, .unset, .unset, .unset, .unset]) rfl ?_
        refine g_iload w at_61 (q := 63) rfl rfl ?_
        refine g_ifY w at_63 (by decide) (q := 70) (by decide) (Jvm.Free.XT.i0_ne_t cd33) ?_
        refine g_iloadN w at_70 (q := 71) rfl rfl ?_
        refine g_static w (con_two l Z a0 hw mc _ w.old hcm) no0 at_71 (q := 74) rfl rfl (hw _ (List.mem_of_getElem? (i := 4) rfl)) (hw _ (List.mem_of_getElem? (i := 5) rfl)) (hw _ (List.mem_of_getElem? (i := 6) rfl)) (hw _ (List.mem_of_getElem? (i := 7) rfl)) (by decide) pd3 rfl rfl (W := 0) (Nat.le_of_eq rfl) (by decide) (by decide) (by decide) (by decide) (fun T h v w gs C q => ?_)
        obtain ⟨x37, rfl, E, g_x37, S_x37⟩ := q
        have z_x37 := Nat.le_trans E0.1 g_x37
        have ne_x35_x37 : x35 ≠ x37 := Nat.ne_of_lt (Nat.lt_of_lt_of_le S_x35.lt g_x37)
        replace E0 := ext_trans E0 E
        replace S_x35 := S_x35.ext E
        show Go p e below _ (State.setTop T (mkF m 74 #[.val (.int tc), .val (.int mc), .val (.int rc), .val (.int fl), .val (.int (1 : Int32)), .val (.int (((Jvm.Free.XT.ushr fl (1 : Int32)) &&& (2147483647 : Int32)) % (3 : Int32))), .val (.ref fo2), .val (.ref x35), .unset, .unset, .unset, .unset, .unset, .unset, .unset, .unset] [(.ref x37)]))
        refine g_astore w at_74 (q := 76) rfl rfl (Ls' := #[.val (.int tc), .val (.int mc), .val (.int rc), .val (.int fl), .val (.int (1 : Int32)), .val (.int (((Jvm.Free.XT.ushr fl (1 : Int32)) &&& (2147483647 : Int32)) % (3 : Int32))), .val (.ref fo2), .val (.ref x35), .val (.ref x37), .unset, .unset, .unset, .unset, .unset, .unset, .unset]) rfl ?_
        refine g_iloadN w at_76 (q := 77) rfl rfl ?_
        refine g_static w (con_two l Z a0 hw rc _ w.old hcm) no0 at_77 (q := 80) rfl rfl (hw _ (List.mem_of_getElem? (i := 4) rfl)) (hw _ (List.mem_of_getElem? (i := 5) rfl)) (hw _ (List.mem_of_getElem? (i := 6) rfl)) (hw _ (List.mem_of_getElem? (i := 7) rfl)) (by decide) pd3 rfl rfl (W := 0) (Nat.le_of_eq rfl) (by decide) (by decide) (by decide) (by decide) (fun T h v w gs C q => ?_)
        obtain ⟨x38, rfl, E, g_x38, S_x38⟩ := q
        have z_x38 := Nat.le_trans E0.1 g_x38
        have ne_x37_x38 : x37 ≠ x38 := Nat.ne_of_lt (Nat.lt_of_lt_of_le S_x37.lt g_x38)
        have ne_x35_x38 : x35 ≠ x38 := Nat.ne_of_lt (Nat.lt_of_lt_of_le S_x35.lt g_x38)
        replace E0 := ext_trans E0 E
        replace S_x35 := S_x35.ext E
        replace S_x37 := S_x37.ext E
        show Go p e below _ (State.setTop T (mkF m 80 #[.val (.int tc), .val (.int mc), .val (.int rc), .val (.int fl), .val (.int (1 : Int32)), .val (.int (((Jvm.Free.XT.ushr fl (1 : Int32)) &&& (2147483647 : Int32)) % (3 : Int32))), .val (.ref fo2), .val (.ref x35), .val (.ref x37), .unset, .unset, .unset, .unset, .unset, .unset, .unset] [(.ref x38)]))
        refine g_astore w at_80 (q := 82) rfl rfl (Ls' := #[.val (.int tc), .val (.int mc), .val (.int rc), .val (.int fl), .val (.int (1 : Int32)), .val (.int (((Jvm.Free.XT.ushr fl (1 : Int32)) &&& (2147483647 : Int32)) % (3 : Int32))), .val (.ref fo2), .val (.ref x35), .val (.ref x37), .val (.ref x38), .unset, .unset, .unset, .unset, .unset, .unset]) rfl ?_
        refine g_new w at_82 (q := 85) rfl (hw _ (List.mem_of_getElem? (i := 38) rfl)) (hw _ (List.mem_of_getElem? (i := 39) rfl)) (hw _ (List.mem_of_getElem? (i := 40) rfl)) (by decide) (by decide) (fun T h a39 w E g_a39 n_a39 X_a39 D_a39 s_a39 => ?_)
        have z_a39 := Nat.le_trans E0.1 g_a39
        have ne_x37_a39 : x37 ≠ a39 := Nat.ne_of_lt (Nat.lt_of_lt_of_le S_x37.lt g_a39)
        have ne_x35_a39 : x35 ≠ a39 := Nat.ne_of_lt (Nat.lt_of_lt_of_le S_x35.lt g_a39)
        have ne_x38_a39 : x38 ≠ a39 := Nat.ne_of_lt (Nat.lt_of_lt_of_le S_x38.lt g_a39)
        replace E0 := ext_trans E0 E
        replace S_x35 := S_x35.ext E
        replace S_x37 := S_x37.ext E
        replace S_x38 := S_x38.ext E
        have F_form_a39 := D_a39 (Or.inr (hw _ (List.mem_of_getElem? (i := 51) rfl))) (ty := (.object "com/example/ontoscribe/ontoscribe/sdml/Module$Reference$Form")) (by decide)
        replace F_form_a39 : Fld Z h a39 "com/example/ontoscribe/ontoscribe/sdml/Module$Reference" "form" "Lcom/example/ontoscribe/ontoscribe/sdml/Module$Reference$Form;" .null := F_form_a39
        have F_module_a39 := D_a39 (Or.inr (hw _ (List.mem_of_getElem? (i := 53) rfl))) (ty := (.object "java/lang/String")) (by decide)
        replace F_module_a39 : Fld Z h a39 "com/example/ontoscribe/ontoscribe/sdml/Module$Reference" "module" "Ljava/lang/String;" .null := F_module_a39
        have F_name_a39 := D_a39 (Or.inr (hw _ (List.mem_of_getElem? (i := 55) rfl))) (ty := (.object "java/lang/String")) (by decide)
        replace F_name_a39 : Fld Z h a39 "com/example/ontoscribe/ontoscribe/sdml/Module$Reference" "name" "Ljava/lang/String;" .null := F_name_a39
        have F_position_a39 := D_a39 (Or.inr (hw _ (List.mem_of_getElem? (i := 57) rfl))) (ty := (.object "com/example/ontoscribe/ontoscribe/diagnostics/Position")) (by decide)
        replace F_position_a39 : Fld Z h a39 "com/example/ontoscribe/ontoscribe/sdml/Module$Reference" "position" "Lcom/example/ontoscribe/ontoscribe/diagnostics/Position;" .null := F_position_a39
        refine g_dup w at_85 (q := 86) rfl rfl ?_
        refine g_aload w at_86 (q := 88) rfl rfl rfl ?_
        refine g_aload w at_88 (q := 90) rfl rfl rfl ?_
        refine g_aload w at_90 (q := 92) rfl rfl rfl ?_
        refine g_anull w at_92 (q := 93) rfl ?_
        refine g_special w (con_ref1 l Z a0 hw a39 fo2 x37 x35 _ w.old X_a39 F_form_a39 F_module_a39 F_name_a39 F_position_a39 n_a39) no0 at_93 (q := 96) rfl rfl rfl (hw _ (List.mem_of_getElem? (i := 41) rfl)) (hw _ (List.mem_of_getElem? (i := 42) rfl)) (hw _ (List.mem_of_getElem? (i := 40) rfl)) (hw _ (List.mem_of_getElem? (i := 43) rfl)) (by decide) pd4 rfl rfl (W := 1) (Nat.le_of_eq rfl) (by decide) (by decide) (by decide) (by decide) (fun T h v w gs C q => ?_)
        obtain ⟨rfl, K, G_form, G_module, G_name, G_position⟩ := q
        replace E0 := ext_keep E0 K z_a39
        have X0 := X_a39
        replace S_x35 := S_x35.keepO K ne_x35_a39 X0 (hw _ (List.mem_of_getElem? (i := 39) rfl))
        replace S_x37 := S_x37.keepO K ne_x37_a39 X0 (hw _ (List.mem_of_getElem? (i := 39) rfl))
        replace S_x38 := S_x38.keepO K ne_x38_a39 X0 (hw _ (List.mem_of_getElem? (i := 39) rfl))
        replace X_a39 := X_a39.keep K
        replace F_form_a39 := G_form
        replace F_module_a39 := G_module
        replace F_name_a39 := G_name
        replace F_position_a39 := G_position
        show Go p e below _ (State.setTop T (mkF m 96 #[.val (.int tc), .val (.int mc), .val (.int rc), .val (.int fl), .val (.int (1 : Int32)), .val (.int (((Jvm.Free.XT.ushr fl (1 : Int32)) &&& (2147483647 : Int32)) % (3 : Int32))), .val (.ref fo2), .val (.ref x35), .val (.ref x37), .val (.ref x38), .unset, .unset, .unset, .unset, .unset, .unset] [(.ref a39)]))
        refine g_astore w at_96 (q := 98) rfl rfl (Ls' := #[.val (.int tc), .val (.int mc), .val (.int rc), .val (.int fl), .val (.int (1 : Int32)), .val (.int (((Jvm.Free.XT.ushr fl (1 : Int32)) &&& (2147483647 : Int32)) % (3 : Int32))), .val (.ref fo2), .val (.ref x35), .val (.ref x37), .val (.ref x38), .val (.ref a39), .unset, .unset, .unset, .unset, .unset]) rfl ?_
        refine g_iload w at_98 (q := 100) rfl rfl ?_
        refine g_ifN w at_100 (q := 103) rfl (by decide) ?_
        refine g_new w at_103 (q := 106) rfl (hw _ (List.mem_of_getElem? (i := 58) rfl)) (hw _ (List.mem_of_getElem? (i := 59) rfl)) (hw _ (List.mem_of_getElem? (i := 60) rfl)) (by decide) (by decide) (fun T h a41 w E g_a41 n_a41 X_a41 D_a41 s_a41 => ?_)
        have z_a41 := Nat.le_trans E0.1 g_a41
        have ne_x37_a41 : x37 ≠ a41 := Nat.ne_of_lt (Nat.lt_of_lt_of_le S_x37.lt g_a41)
        have ne_a39_a41 : a39 ≠ a41 := Nat.ne_of_lt (Nat.lt_of_lt_of_le X_a39.lt g_a41)
        have ne_x35_a41 : x35 ≠ a41 := Nat.ne_of_lt (Nat.lt_of_lt_of_le S_x35.lt g_a41)
        have ne_x38_a41 : x38 ≠ a41 := Nat.ne_of_lt (Nat.lt_of_lt_of_le S_x38.lt g_a41)
        replace E0 := ext_trans E0 E
        replace S_x35 := S_x35.ext E
        replace S_x37 := S_x37.ext E
        replace S_x38 := S_x38.ext E
        replace X_a39 := X_a39.ext E
        replace F_form_a39 := F_form_a39.ext E
        replace F_module_a39 := F_module_a39.ext E
        replace F_name_a39 := F_name_a39.ext E
        replace F_position_a39 := F_position_a39.ext E
        have F_text_a41 := D_a41 (Or.inr (hw _ (List.mem_of_getElem? (i := 66) rfl))) (ty := (.object "java/lang/String")) (by decide)
        replace F_text_a41 : Fld Z h a41 "com/example/ontoscribe/ontoscribe/sdml/Module$Identifier" "text" "Ljava/lang/String;" .null := F_text_a41
        have F_position_a41 := D_a41 (Or.inr (hw _ (List.mem_of_getElem? (i := 68) rfl))) (ty := (.object "com/example/ontoscribe/ontoscribe/diagnostics/Position")) (by decide)
        replace F_position_a41 : Fld Z h a41 "com/example/ontoscribe/ontoscribe/sdml/Module$Identifier" "position" "Lcom/example/ontoscribe/ontoscribe/diagnostics/Position;" .null := F_position_a41
        refine g_dup w at_106 (q := 107) rfl rfl ?_
        refine g_aload w at_107 (q := 109) rfl rfl rfl ?_
        refine g_anull w at_109 (q := 110) rfl ?_
        refine g_special w (con_id l Z a0 hw a41 x38 _ w.old X_a41 F_text_a41 F_position_a41 n_a41) no0 at_110 (q := 113) rfl rfl rfl (hw _ (List.mem_of_getElem? (i := 61) rfl)) (hw _ (List.mem_of_getElem? (i := 62) rfl)) (hw _ (List.mem_of_getElem? (i := 60) rfl)) (hw _ (List.mem_of_getElem? (i := 63) rfl)) (by decide) pd7 rfl rfl (W := 1) (Nat.le_of_eq rfl) (by decide) (by decide) (by decide) (by decide) (fun T h v w gs C q => ?_)
        obtain ⟨rfl, K, G_text, G_position⟩ := q
        replace E0 := ext_keep E0 K z_a41
        have X0 := X_a41
        replace S_x35 := S_x35.keepO K ne_x35_a41 X0 (hw _ (List.mem_of_getElem? (i := 59) rfl))
        replace S_x37 := S_x37.keepO K ne_x37_a41 X0 (hw _ (List.mem_of_getElem? (i := 59) rfl))
        replace S_x38 := S_x38.keepO K ne_x38_a41 X0 (hw _ (List.mem_of_getElem? (i := 59) rfl))
        replace X_a39 := X_a39.keep K
        replace F_form_a39 := F_form_a39.keep K (not1 ne_a39_a41)
        replace F_module_a39 := F_module_a39.keep K (not1 ne_a39_a41)
        replace F_name_a39 := F_name_a39.keep K (not1 ne_a39_a41)
        replace F_position_a39 := F_position_a39.keep K (not1 ne_a39_a41)
        replace X_a41 := X_a41.keep K
        replace F_text_a41 := G_text
        replace F_position_a41 := G_position
        show Go p e below _ (State.setTop T (mkF m 113 #[.val (.int tc), .val (.int mc), .val (.int rc), .val (.int fl), .val (.int (1 : Int32)), .val (.int (((Jvm.Free.XT.ushr fl (1 : Int32)) &&& (2147483647 : Int32)) % (3 : Int32))), .val (.ref fo2), .val (.ref x35), .val (.ref x37), .val (.ref x38), .val (.ref a39), .unset, .unset, .unset, .unset, .unset] [(.ref a41)]))
        refine g_goto w at_113 (by decide) (q := 117) (by decide) ?_
        refine g_astore w at_117 (q := 119) rfl rfl (Ls' := #[.val (.int tc), .val (.int mc), .val (.int rc), .val (.int fl), .val (.int (1 : Int32)), .val (.int (((Jvm.Free.XT.ushr fl (1 : Int32)) &&& (2147483647 : Int32)) % (3 : Int32))), .val (.ref fo2), .val (.ref x35), .val (.ref x37), .val (.ref x38), .val (.ref a39), .val (.ref a41), .unset, .unset, .unset, .unset]) rfl ?_
        refine g_new w at_119 (q := 122) rfl (hw _ (List.mem_of_getElem? (i := 69) rfl)) (hw _ (List.mem_of_getElem? (i := 70) rfl)) (hw _ (List.mem_of_getElem? (i := 71) rfl)) (by decide) (by decide) (fun T h a42 w E g_a42 n_a42 X_a42 D_a42 s_a42 => ?_)
        have z_a42 := Nat.le_trans E0.1 g_a42
        have ne_a39_a42 : a39 ≠ a42 := Nat.ne_of_lt (Nat.lt_of_lt_of_le X_a39.lt g_a42)
        have ne_x35_a42 : x35 ≠ a42 := Nat.ne_of_lt (Nat.lt_of_lt_of_le S_x35.lt g_a42)
        have ne_x38_a42 : x38 ≠ a42 := Nat.ne_of_lt (Nat.lt_of_lt_of_le S_x38.lt g_a42)
        have ne_a41_a42 : a41 ≠ a42 := Nat.ne_of_lt (Nat.lt_of_lt_of_le X_a41.lt g_a42)
        have ne_x37_a42 : x37 ≠ a42 := Nat.ne_of_lt (Nat.lt_of_lt_of_le S_x37.lt g_a42)
        replace E0 := ext_trans E0 E
        replace S_x35 := S_x35.ext E
        replace S_x37 := S_x37.ext E
        replace S_x38 := S_x38.ext E
        replace X_a39 := X_a39.ext E
        replace F_form_a39 := F_form_a39.ext E
        replace F_module_a39 := F_module_a39.ext E
        replace F_name_a39 := F_name_a39.ext E
        replace F_position_a39 := F_position_a39.ext E
        replace X_a41 := X_a41.ext E
        replace F_text_a41 := F_text_a41.ext E
        replace F_position_a41 := F_position_a41.ext E
        have F_modCount_a42 := D_a42 (Or.inl (hw _ (List.mem_of_getElem? (i := 89) rfl))) (ty := .int) (by decide)
        replace F_modCount_a42 : Fld Z h a42 "java/util/AbstractList" "modCount" "I" (.int (0 : Int32)) := F_modCount_a42
        have F_elementData_a42 := D_a42 (Or.inl (hw _ (List.mem_of_getElem? (i := 92) rfl))) (ty := (.array (.object "java/lang/Object"))) (by decide)
        replace F_elementData_a42 : Fld Z h a42 "java/util/ArrayList" "elementData" "[Ljava/lang/Object;" .null := F_elementData_a42
        refine g_dup w at_122 (q := 123) rfl rfl ?_
        refine g_special w (con_arl l Z a0 hw a42 dc_ _ w.old X_a42 F_modCount_a42 F_elementData_a42 n_a42 SD_) no0 at_123 (q := 126) rfl rfl rfl (hw _ (List.mem_of_getElem? (i := 72) rfl)) (hw _ (List.mem_of_getElem? (i := 73) rfl)) (hw _ (List.mem_of_getElem? (i := 71) rfl)) (hw _ (List.mem_of_getElem? (i := 74) rfl)) (by decide) pd1 rfl rfl (W := 1) (Nat.le_of_eq rfl) (by decide) (by decide) (by decide) (by decide) (fun T h v w gs C q => ?_)
        obtain ⟨rfl, K⟩ := q
        replace E0 := ext_keep E0 K z_a42
        have X0 := X_a42
        replace S_x35 := S_x35.keepO K ne_x35_a42 X0 (hw _ (List.mem_of_getElem? (i := 70) rfl))
        replace S_x37 := S_x37.keepO K ne_x37_a42 X0 (hw _ (List.mem_of_getElem? (i := 70) rfl))
        replace S_x38 := S_x38.keepO K ne_x38_a42 X0 (hw _ (List.mem_of_getElem? (i := 70) rfl))
        replace X_a39 := X_a39.keep K
        replace F_form_a39 := F_form_a39.keep K (not1 ne_a39_a42)
        replace F_module_a39 := F_module_a39.keep K (not1 ne_a39_a42)
        replace F_name_a39 := F_name_a39.keep K (not1 ne_a39_a42)
        replace F_position_a39 := F_position_a39.keep K (not1 ne_a39_a42)
        replace X_a41 := X_a41.keep K
        replace F_text_a41 := F_text_a41.keep K (not1 ne_a41_a42)
        replace F_position_a41 := F_position_a41.keep K (not1 ne_a41_a42)
        replace X_a42 := X_a42.keep K
        show Go p e below _ (State.setTop T (mkF m 126 #[.val (.int tc), .val (.int mc), .val (.int rc), .val (.int fl), .val (.int (1 : Int32)), .val (.int (((Jvm.Free.XT.ushr fl (1 : Int32)) &&& (2147483647 : Int32)) % (3 : Int32))), .val (.ref fo2), .val (.ref x35), .val (.ref x37), .val (.ref x38), .val (.ref a39), .val (.ref a41), .unset, .unset, .unset, .unset] [(.ref a42)]))
        refine g_astore w at_126 (q := 128) rfl rfl (Ls' := #[.val (.int tc), .val (.int mc), .val (.int rc), .val (.int fl), .val (.int (1 : Int32)), .val (.int (((Jvm.Free.XT.ushr fl (1 : Int32)) &&& (2147483647 : Int32)) % (3 : Int32))), .val (.ref fo2), .val (.ref x35), .val (.ref x37), .val (.ref x38), .val (.ref a39), .val (.ref a41), .val (.ref a42), .unset, .unset, .unset]) rfl ?_
        refine g_new w at_128 (q := 131) rfl (hw _ (List.mem_of_getElem? (i := 93) rfl)) (hw _ (List.mem_of_getElem? (i := 94) rfl)) (hw _ (List.mem_of_getElem? (i := 95) rfl)) (by decide) (by decide) (fun T h a43 w E g_a43 n_a43 X_a43 D_a43 s_a43 => ?_)
        have z_a43 := Nat.le_trans E0.1 g_a43
        have ne_a39_a43 : a39 ≠ a43 := Nat.ne_of_lt (Nat.lt_of_lt_of_le X_a39.lt g_a43)
        have ne_x35_a43 : x35 ≠ a43 := Nat.ne_of_lt (Nat.lt_of_lt_of_le S_x35.lt g_a43)
        have ne_x38_a43 : x38 ≠ a43 := Nat.ne_of_lt (Nat.lt_of_lt_of_le S_x38.lt g_a43)
        have ne_a41_a43 : a41 ≠ a43 := Nat.ne_of_lt (Nat.lt_of_lt_of_le X_a41.lt g_a43)
        have ne_x37_a43 : x37 ≠ a43 := Nat.ne_of_lt (Nat.lt_of_lt_of_le S_x37.lt g_a43)
        have ne_a42_a43 : a42 ≠ a43 := Nat.ne_of_lt (Nat.lt_of_lt_of_le X_a42.lt g_a43)
        replace E0 := ext_trans E0 E
        replace S_x35 := S_x35.ext E
        replace S_x37 := S_x37.ext E
        replace S_x38 := S_x38.ext E
        replace X_a39 := X_a39.ext E
        replace F_form_a39 := F_form_a39.ext E
        replace F_module_a39 := F_module_a39.ext E
        replace F_name_a39 := F_name_a39.ext E
        replace F_position_a39 := F_position_a39.ext E
        replace X_a41 := X_a41.ext E
        replace F_text_a41 := F_text_a41.ext E
        replace F_position_a41 := F_position_a41.ext E
        replace X_a42 := X_a42.ext E
        have F_type_a43 := D_a43 (Or.inr (hw _ (List.mem_of_getElem? (i := 101) rfl))) (ty := (.object "com/example/ontoscribe/ontoscribe/sdml/Module$Reference")) (by decide)
        replace F_type_a43 : Fld Z h a43 "com/example/ontoscribe/ontoscribe/sdml/Module$Variant" "type" "Lcom/example/ontoscribe/ontoscribe/sdml/Module$Reference;" .null := F_type_a43
        have F_rename_a43 := D_a43 (Or.inr (hw _ (List.mem_of_getElem? (i := 103) rfl))) (ty := (.object "com/example/ontoscribe/ontoscribe/sdml/Module$Identifier")) (by decide)
        replace F_rename_a43 : Fld Z h a43 "com/example/ontoscribe/ontoscribe/sdml/Module$Variant" "rename" "Lcom/example/ontoscribe/ontoscribe/sdml/Module$Identifier;" .null := F_rename_a43
        have F_annotations_a43 := D_a43 (Or.inr (hw _ (List.mem_of_getElem? (i := 105) rfl))) (ty := (.object "java/util/List")) (by decide)
        replace F_annotations_a43 : Fld Z h a43 "com/example/ontoscribe/ontoscribe/sdml/Module$Variant" "annotations" "Ljava/util/List;" .null := F_annotations_a43
        refine g_dup w at_131 (q := 132) rfl rfl ?_
        refine g_aload w at_132 (q := 134) rfl rfl rfl ?_
        refine g_aload w at_134 (q := 136) rfl rfl rfl ?_
        refine g_aload w at_136 (q := 138) rfl rfl rfl ?_
        refine g_special w (con_var1 l Z a0 hw a43 a39 a41 a42 _ w.old X_a43 F_type_a43 F_rename_a43 F_annotations_a43 n_a43) no0 at_138 (q := 141) rfl rfl rfl (hw _ (List.mem_of_getElem? (i := 96) rfl)) (hw _ (List.mem_of_getElem? (i := 97) rfl)) (hw _ (List.mem_of_getElem? (i := 95) rfl)) (hw _ (List.mem_of_getElem? (i := 98) rfl)) (by decide) pd5 rfl rfl (W := 1) (Nat.le_of_eq rfl) (by decide) (by decide) (by decide) (by decide) (fun T h v w gs C q => ?_)
        obtain ⟨rfl, K, G_type, G_rename, G_annotations⟩ := q
        replace E0 := ext_keep E0 K z_a43
        have X0 := X_a43
        replace S_x35 := S_x35.keepO K ne_x35_a43 X0 (hw _ (List.mem_of_getElem? (i := 94) rfl))
        replace S_x37 := S_x37.keepO K ne_x37_a43 X0 (hw _ (List.mem_of_getElem? (i := 94) rfl))
        replace S_x38 := S_x38.keepO K ne_x38_a43 X0 (hw _ (List.mem_of_getElem? (i := 94) rfl))
        replace X_a39 := X_a39.keep K
        replace F_form_a39 := F_form_a39.keep K (not1 ne_a39_a43)
        replace F_module_a39 := F_module_a39.keep K (not1 ne_a39_a43)
        replace F_name_a39 := F_name_a39.keep K (not1 ne_a39_a43)
        replace F_position_a39 := F_position_a39.keep K (not1 ne_a39_a43)
        replace X_a41 := X_a41.keep K
        replace F_text_a41 := F_text_a41.keep K (not1 ne_a41_a43)
        replace F_position_a41 := F_position_a41.keep K (not1 ne_a41_a43)
        replace X_a42 := X_a42.keep K
        replace X_a43 := X_a43.keep K
        replace F_type_a43 := G_type
        replace F_rename_a43 := G_rename
        replace F_annotations_a43 := G_annotations
        show Go p e below _ (State.setTop T (mkF m 141 #[.val (.int tc), .val (.int mc), .val (.int rc), .val (.int fl), .val (.int (1 : Int32)), .val (.int (((Jvm.Free.XT.ushr fl (1 : Int32)) &&& (2147483647 : Int32)) % (3 : Int32))), .val (.ref fo2), .val (.ref x35), .val (.ref x37), .val (.ref x38), .val (.ref a39), .val (.ref a41), .val (.ref a42), .unset, .unset, .unset] [(.ref a43)]))
        refine g_astore w at_141 (q := 143) rfl rfl (Ls' := #[.val (.int tc), .val (.int mc), .val (.int rc), .val (.int fl), .val (.int (1 : Int32)), .val (.int (((Jvm.Free.XT.ushr fl (1 : Int32)) &&& (2147483647 : Int32)) % (3 : Int32))), .val (.ref fo2), .val (.ref x35), .val (.ref x37), .val (.ref x38), .val (.ref a39), .val (.ref a41), .val (.ref a42), .val (.ref a43), .unset, .unset]) rfl ?_
        refine g_aload w at_143 (q := 145) rfl rfl rfl ?_
        refine g_virtualP w (con_shown1 l Z a0 hw a43 a41 x38 _ w.old F_rename_a43 X_a41 F_text_a41) no0 X_a43 at_145 (q := 148) rfl rfl (hw _ (List.mem_of_getElem? (i := 106) rfl)) (hw _ (List.mem_of_getElem? (i := 107) rfl)) (hw _ (List.mem_of_getElem? (i := 109) rfl)) (hw _ (List.mem_of_getElem? (i := 108) rfl)) (hw _ (List.mem_of_getElem? (i := 95) rfl)) (hw _ (List.mem_of_getElem? (i := 110) rfl)) (by decide) (nf (hw _ (List.mem_of_getElem? (i := 109) rfl))) pd2 rfl rfl (W := 0) (Nat.le_of_eq rfl) (by decide) (by decide) (by decide) (by decide) (fun T v w C q => ?_)
        obtain rfl := q
        show Go p e below _ (State.setTop T (mkF m 148 #[.val (.int tc), .val (.int mc), .val (.int rc), .val (.int fl), .val (.int (1 : Int32)), .val (.int (((Jvm.Free.XT.ushr fl (1 : Int32)) &&& (2147483647 : Int32)) % (3 : Int32))), .val (.ref fo2), .val (.ref x35), .val (.ref x37), .val (.ref x38), .val (.ref a39), .val (.ref a41), .val (.ref a42), .val (.ref a43), .unset, .unset] [(.ref x38)]))
        refine g_astore w at_148 (q := 150) rfl rfl (Ls' := #[.val (.int tc), .val (.int mc), .val (.int rc), .val (.int fl), .val (.int (1 : Int32)), .val (.int (((Jvm.Free.XT.ushr fl (1 : Int32)) &&& (2147483647 : Int32)) % (3 : Int32))), .val (.ref fo2), .val (.ref x35), .val (.ref x37), .val (.ref x38), .val (.ref a39), .val (.ref a41), .val (.ref a42), .val (.ref a43), .val (.ref x38), .unset]) rfl ?_
        refine g_iload w at_150 (q := 152) rfl rfl ?_
        refine g_ifN w at_152 (q := 155) rfl (by decide) ?_
        refine g_aload w at_155 (q := 157) rfl rfl rfl ?_
        refine g_goto w at_157 (by decide) (q := 162) (by decide) ?_
        refine g_astore w at_162 (q := 164) rfl rfl (Ls' := #[.val (.int tc), .val (.int mc), .val (.int rc), .val (.int fl), .val (.int (1 : Int32)), .val (.int (((Jvm.Free.XT.ushr fl (1 : Int32)) &&& (2147483647 : Int32)) % (3 : Int32))), .val (.ref fo2), .val (.ref x35), .val (.ref x37), .val (.ref x38), .val (.ref a39), .val (.ref a41), .val (.ref a42), .val (.ref a43), .val (.ref x38), .val (.ref x38)]) rfl ?_
        refine g_aload w at_164 (q := 166) rfl rfl rfl ?_
        refine g_nullN w at_166 (q := 169) rfl ?_
        refine g_aload w at_169 (q := 171) rfl rfl rfl ?_
        refine g_aload w at_171 (q := 173) rfl rfl rfl ?_
        refine g_virtualP w (con_eqs l Z a0 hw x38 _ w.old) no0 S_x38.exa at_173 (q := 176) rfl rfl (hw _ (List.mem_of_getElem? (i := 116) rfl)) (hw _ (List.mem_of_getElem? (i := 117) rfl)) (hw _ (List.mem_of_getElem? (i := 119) rfl)) (hw _ (List.mem_of_getElem? (i := 118) rfl)) (hw _ (List.mem_of_getElem? (i := 11) rfl)) (hw _ (List.mem_of_getElem? (i := 120) rfl)) (by decide) (nf (hw _ (List.mem_of_getElem? (i := 119) rfl))) pd6 rfl rfl (W := 0) (Nat.le_of_eq rfl) (by decide) (by decide) (by decide) (by decide) (fun T v w C q => ?_)
        obtain rfl := q
        show Go p e below _ (State.setTop T (mkF m 176 #[.val (.int tc), .val (.int mc), .val (.int rc), .val (.int fl), .val (.int (1 : Int32)), .val (.int (((Jvm.Free.XT.ushr fl (1 : Int32)) &&& (2147483647 : Int32)) % (3 : Int32))), .val (.ref fo2), .val (.ref x35), .val (.ref x37), .val (.ref x38), .val (.ref a39), .val (.ref a41), .val (.ref a42), .val (.ref a43), .val (.ref x38), .val (.ref x38)] [(.int (1 : Int32))]))
        refine g_ifN w at_176 (q := 179) rfl (by decide) ?_
        refine g_iconst w at_179 (q := 180) rfl (v := (1 : Int32)) (by decide) ?_
        refine g_goto w at_180 (by decide) (q := 184) (by decide) ?_
        exact g_retn w at_184 rfl (by simp) rfl (by decide) (by decide) rfl
      · refine g_getS w at_42 (q := 45) rfl (hw _ (List.mem_of_getElem? (i := 128) rfl)) Via.refl SF1 (fun T w => ?_)
        refine g_astore w at_45 (q := 47) rfl rfl (Ls' := #[.val (.int tc), .val (.int mc), .val (.int rc), .val (.int fl), .val (.int (1 : Int32)), .val (.int (((Jvm.Free.XT.ushr fl (1 : Int32)) &&& (2147483647 : Int32)) % (3 : Int32))), .val (.ref fo1), .unset, .unset, .unset, .unset, .unset, .unset, .unset, .unset, .unset]) rfl ?_
        refine g_goto w at_47 (by decide) (q := 55) (by decide) ?_
        refine g_iloadN w at_55 (q := 56) rfl rfl ?_
        refine g_static w (con_two l Z a0 hw tc _ w.old hcm) no0 at_56 (q := 59) rfl rfl (hw _ (List.mem_of_getElem? (i := 4) rfl)) (hw _ (List.mem_of_getElem? (i := 5) rfl)) (hw _ (List.mem_of_getElem? (i := 6) rfl)) (hw _ (List.mem_of_getElem? (i := 7) rfl)) (by decide) pd3 rfl rfl (W := 0) (Nat.le_of_eq rfl) (by decide) (by decide) (by decide) (by decide) (fun T h v w gs C q => ?_)
        obtain ⟨x46, rfl, E, g_x46, S_x46⟩ := q
        have z_x46 := Nat.le_trans E0.1 g_x46
        replace E0 := ext_trans E0 E
        show Go p e below _ (State.setTop T (mkF m 59 #[.val (.int tc), .val (.int mc), .val (.int rc), .val (.int fl), .val (.int (1 : Int32)), .val (.int (((Jvm.Free.XT.ushr fl (1 : Int32)) &&& (2147483647 : Int32)) % (3 : Int32))), .val (.ref fo1), .unset, .unset, .unset, .unset, .unset, .unset, .unset, .unset, .unset] [(.ref x46)]))
        refine g_astore w at_59 (q := 61) rfl rfl (Ls' := #[.val (.int tc), .val (.int mc), .val (.int rc), .val (.int fl), .val (.int (1 : Int32)), .val (.int (((Jvm.Free.XT.ushr fl (1 : Int32)) &&& (2147483647 : Int32)) % (3 : Int32))), .val (.ref fo1), .val (.ref x46), .unset, .unset, .unset, .unset, .unset, .unset, .unset, .unset]) rfl ?_
        refine g_iload w at_61 (q := 63) rfl rfl ?_
        refine g_ifY w at_63 (by decide) (q := 70) (by decide) (Jvm.Free.XT.i0_ne_t cd33) ?_
        refine g_iloadN w at_70 (q := 71) rfl rfl ?_
        refine g_static w (con_two l Z a0 hw mc _ w.old hcm) no0 at_71 (q := 74) rfl rfl (hw _ (List.mem_of_getElem? (i := 4) rfl)) (hw _ (List.mem_of_getElem? (i := 5) rfl)) (hw _ (List.mem_of_getElem? (i := 6) rfl)) (hw _ (List.mem_of_getElem? (i := 7) rfl)) (by decide) pd3 rfl rfl (W := 0) (Nat.le_of_eq rfl) (by decide) (by decide) (by decide) (by decide) (fun T h v w gs C q => ?_)
        obtain ⟨x48, rfl, E, g_x48, S_x48⟩ := q
        have z_x48 := Nat.le_trans E0.1 g_x48
        have ne_x46_x48 : x46 ≠ x48 := Nat.ne_of_lt (Nat.lt_of_lt_of_le S_x46.lt g_x48)
        replace E0 := ext_trans E0 E
        replace S_x46 := S_x46.ext E
        show Go p e below _ (State.setTop T (mkF m 74 #[.val (.int tc), .val (.int mc), .val (.int rc), .val (.int fl), .val (.int (1 : Int32)), .val (.int (((Jvm.Free.XT.ushr fl (1 : Int32)) &&& (2147483647 : Int32)) % (3 : Int32))), .val (.ref fo1), .val (.ref x46), .unset, .unset, .unset, .unset, .unset, .unset, .unset, .unset] [(.ref x48)]))
        refine g_astore w at_74 (q := 76) rfl rfl (Ls' := #[.val (.int tc), .val (.int mc), .val (.int rc), .val (.int fl), .val (.int (1 : Int32)), .val (.int (((Jvm.Free.XT.ushr fl (1 : Int32)) &&& (2147483647 : Int32)) % (3 : Int32))), .val (.ref fo1), .val (.ref x46), .val (.ref x48), .unset, .unset, .unset, .unset, .unset, .unset, .unset]) rfl ?_
        refine g_iloadN w at_76 (q := 77) rfl rfl ?_
        refine g_static w (con_two l Z a0 hw rc _ w.old hcm) no0 at_77 (q := 80) rfl rfl (hw _ (List.mem_of_getElem? (i := 4) rfl)) (hw _ (List.mem_of_getElem? (i := 5) rfl)) (hw _ (List.mem_of_getElem? (i := 6) rfl)) (hw _ (List.mem_of_getElem? (i := 7) rfl)) (by decide) pd3 rfl rfl (W := 0) (Nat.le_of_eq rfl) (by decide) (by decide) (by decide) (by decide) (fun T h v w gs C q => ?_)
        obtain ⟨x49, rfl, E, g_x49, S_x49⟩ := q
        have z_x49 := Nat.le_trans E0.1 g_x49
        have ne_x48_x49 : x48 ≠ x49 := Nat.ne_of_lt (Nat.lt_of_lt_of_le S_x48.lt g_x49)
        have ne_x46_x49 : x46 ≠ x49 := Nat.ne_of_lt (Nat.lt_of_lt_of_le S_x46.lt g_x49)
        replace E0 := ext_trans E0 E
        replace S_x46 := S_x46.ext E
        replace S_x48 := S_x48.ext E
        show Go p e below _ (State.setTop T (mkF m 80 #[.val (.int tc), .val (.int mc), .val (.int rc), .val (.int fl), .val (.int (1 : Int32)), .val (.int (((Jvm.Free.XT.ushr fl (1 : Int32)) &&& (2147483647 : Int32)) % (3 : Int32))), .val (.ref fo1), .val (.ref x46), .val (.ref x48), .unset, .unset, .unset, .unset, .unset, .unset, .unset] [(.ref x49)]))
        refine g_astore w at_80 (q := 82) rfl rfl (Ls' := #[.val (.int tc), .val (.int mc), .val (.int rc), .val (.int fl), .val (.int (1 : Int32)), .val (.int (((Jvm.Free.XT.ushr fl (1 : Int32)) &&& (2147483647 : Int32)) % (3 : Int32))), .val (.ref fo1), .val (.ref x46), .val (.ref x48), .val (.ref x49), .unset, .unset, .unset, .unset, .unset, .unset]) rfl ?_
        refine g_new w at_82 (q := 85) rfl (hw _ (List.mem_of_getElem? (i := 38) rfl)) (hw _ (List.mem_of_getElem? (i := 39) rfl)) (hw _ (List.mem_of_getElem? (i := 40) rfl)) (by decide) (by decide) (fun T h a50 w E g_a50 n_a50 X_a50 D_a50 s_a50 => ?_)
        have z_a50 := Nat.le_trans E0.1 g_a50
        have ne_x48_a50 : x48 ≠ a50 := Nat.ne_of_lt (Nat.lt_of_lt_of_le S_x48.lt g_a50)
        have ne_x49_a50 : x49 ≠ a50 := Nat.ne_of_lt (Nat.lt_of_lt_of_le S_x49.lt g_a50)
        have ne_x46_a50 : x46 ≠ a50 := Nat.ne_of_lt (Nat.lt_of_lt_of_le S_x46.lt g_a50)
        replace E0 := ext_trans E0 E
        replace S_x46 := S_x46.ext E
        replace S_x48 := S_x48.ext E
        replace S_x49 := S_x49.ext E
        have F_form_a50 := D_a50 (Or.inr (hw _ (List.mem_of_getElem? (i := 51) rfl))) (ty := (.object "com/example/ontoscribe/ontoscribe/sdml/Module$Reference$Form")) (by decide)
        replace F_form_a50 : Fld Z h a50 "com/example/ontoscribe/ontoscribe/sdml/Module$Reference" "form" "Lcom/example/ontoscribe/ontoscribe/sdml/Module$Reference$Form;" .null := F_form_a50
        have F_module_a50 := D_a50 (Or.inr (hw _ (List.mem_of_getElem? (i := 53) rfl))) (ty := (.object "java/lang/String")) (by decide)
        replace F_module_a50 : Fld Z h a50 "com/example/ontoscribe/ontoscribe/sdml/Module$Reference" "module" "Ljava/lang/String;" .null := F_module_a50
        have F_name_a50 := D_a50 (Or.inr (hw _ (List.mem_of_getElem? (i := 55) rfl))) (ty := (.object "java/lang/String")) (by decide)
        replace F_name_a50 : Fld Z h a50 "com/example/ontoscribe/ontoscribe/sdml/Module$Reference" "name" "Ljava/lang/String;" .null := F_name_a50
        have F_position_a50 := D_a50 (Or.inr (hw _ (List.mem_of_getElem? (i := 57) rfl))) (ty := (.object "com/example/ontoscribe/ontoscribe/diagnostics/Position")) (by decide)
        replace F_position_a50 : Fld Z h a50 "com/example/ontoscribe/ontoscribe/sdml/Module$Reference" "position" "Lcom/example/ontoscribe/ontoscribe/diagnostics/Position;" .null := F_position_a50
        refine g_dup w at_85 (q := 86) rfl rfl ?_
        refine g_aload w at_86 (q := 88) rfl rfl rfl ?_
        refine g_aload w at_88 (q := 90) rfl rfl rfl ?_
        refine g_aload w at_90 (q := 92) rfl rfl rfl ?_
        refine g_anull w at_92 (q := 93) rfl ?_
        refine g_special w (con_ref1 l Z a0 hw a50 fo1 x48 x46 _ w.old X_a50 F_form_a50 F_module_a50 F_name_a50 F_position_a50 n_a50) no0 at_93 (q := 96) rfl rfl rfl (hw _ (List.mem_of_getElem? (i := 41) rfl)) (hw _ (List.mem_of_getElem? (i := 42) rfl)) (hw _ (List.mem_of_getElem? (i := 40) rfl)) (hw _ (List.mem_of_getElem? (i := 43) rfl)) (by decide) pd4 rfl rfl (W := 1) (Nat.le_of_eq rfl) (by decide) (by decide) (by decide) (by decide) (fun T h v w gs C q => ?_)
        obtain ⟨rfl, K, G_form, G_module, G_name, G_position⟩ := q
        replace E0 := ext_keep E0 K z_a50
        have X0 := X_a50
        replace S_x46 := S_x46.keepO K ne_x46_a50 X0 (hw _ (List.mem_of_getElem? (i := 39) rfl))
        replace S_x48 := S_x48.keepO K ne_x48_a50 X0 (hw _ (List.mem_of_getElem? (i := 39) rfl))
        replace S_x49 := S_x49.keepO K ne_x49_a50 X0 (hw _ (List.mem_of_getElem? (i := 39) rfl))
        replace X_a50 := X_a50.keep K
        replace F_form_a50 := G_form
        replace F_module_a50 := G_module
        replace F_name_a50 := G_name
        replace F_position_a50 := G_position
        show Go p e below _ (State.setTop T (mkF m 96 #[.val (.int tc), .val (.int mc), .val (.int rc), .val (.int fl), .val (.int (1 : Int32)), .val (.int (((Jvm.Free.XT.ushr fl (1 : Int32)) &&& (2147483647 : Int32)) % (3 : Int32))), .val (.ref fo1), .val (.ref x46), .val (.ref x48), .val (.ref x49), .unset, .unset, .unset, .unset, .unset, .unset] [(.ref a50)]))
        refine g_astore w at_96 (q := 98) rfl rfl (Ls' := #[.val (.int tc), .val (.int mc), .val (.int rc), .val (.int fl), .val (.int (1 : Int32)), .val (.int (((Jvm.Free.XT.ushr fl (1 : Int32)) &&& (2147483647 : Int32)) % (3 : Int32))), .val (.ref fo1), .val (.ref x46), .val (.ref x48), .val (.ref x49), .val (.ref a50), .unset, .unset, .unset, .unset, .unset]) rfl ?_
        refine g_iload w at_98 (q := 100) rfl rfl ?_
        refine g_ifN w at_100 (q := 103) rfl (by decide) ?_
        refine g_new w at_103 (q := 106) rfl (hw _ (List.mem_of_getElem? (i := 58) rfl)) (hw _ (List.mem_of_getElem? (i := 59) rfl)) (hw _ (List.mem_of_getElem? (i := 60) rfl)) (by decide) (by decide) (fun T h a52 w E g_a52 n_a52 X_a52 D_a52 s_a52 => ?_)
        have z_a52 := Nat.le_trans E0.1 g_a52
        have ne_x48_a52 : x48 ≠ a52 := Nat.ne_of_lt (Nat.lt_of_lt_of_le S_x48.lt g_a52)
        have ne_x49_a52 : x49 ≠ a52 := Nat.ne_of_lt (Nat.lt_of_lt_of_le S_x49.lt g_a52)
        have ne_a50_a52 : a50 ≠ a52 := Nat.ne_of_lt (Nat.lt_of_lt_of_le X_a50.lt g_a52)
        have ne_x46_a52 : x46 ≠ a52 := Nat.ne_of_lt (Nat.lt_of_lt_of_le S_x46.lt g_a52)
        replace E0 := ext_trans E0 E
        replace S_x46 := S_x46.ext E
        replace S_x48 := S_x48.ext E
        replace S_x49 := S_x49.ext E
        replace X_a50 := X_a50.ext E
        replace F_form_a50 := F_form_a50.ext E
        replace F_module_a50 := F_module_a50.ext E
        replace F_name_a50 := F_name_a50.ext E
        replace F_position_a50 := F_position_a50.ext E
        have F_text_a52 := D_a52 (Or.inr (hw _ (List.mem_of_getElem? (i := 66) rfl))) (ty := (.object "java/lang/String")) (by decide)
        replace F_text_a52 : Fld Z h a52 "com/example/ontoscribe/ontoscribe/sdml/Module$Identifier" "text" "Ljava/lang/String;" .null := F_text_a52
        have F_position_a52 := D_a52 (Or.inr (hw _ (List.mem_of_getElem? (i := 68) rfl))) (ty := (.object "com/example/ontoscribe/ontoscribe/diagnostics/Position")) (by decide)
        replace F_position_a52 : Fld Z h a52 "com/example/ontoscribe/ontoscribe/sdml/Module$Identifier" "position" "Lcom/example/ontoscribe/ontoscribe/diagnostics/Position;" .null := F_position_a52
        refine g_dup w at_106 (q := 107) rfl rfl ?_
        refine g_aload w at_107 (q := 109) rfl rfl rfl ?_
        refine g_anull w at_109 (q := 110) rfl ?_
        refine g_special w (con_id l Z a0 hw a52 x49 _ w.old X_a52 F_text_a52 F_position_a52 n_a52) no0 at_110 (q := 113) rfl rfl rfl (hw _ (List.mem_of_getElem? (i := 61) rfl)) (hw _ (List.mem_of_getElem? (i := 62) rfl)) (hw _ (List.mem_of_getElem? (i := 60) rfl)) (hw _ (List.mem_of_getElem? (i := 63) rfl)) (by decide) pd7 rfl rfl (W := 1) (Nat.le_of_eq rfl) (by decide) (by decide) (by decide) (by decide) (fun T h v w gs C q => ?_)
        obtain ⟨rfl, K, G_text, G_position⟩ := q
        replace E0 := ext_keep E0 K z_a52
        have X0 := X_a52
        replace S_x46 := S_x46.keepO K ne_x46_a52 X0 (hw _ (List.mem_of_getElem? (i := 59) rfl))
        replace S_x48 := S_x48.keepO K ne_x48_a52 X0 (hw _ (List.mem_of_getElem? (i := 59) rfl))
        replace S_x49 := S_x49.keepO K ne_x49_a52 X0 (hw _ (List.mem_of_getElem? (i := 59) rfl))
        replace X_a50 := X_a50.keep K
        replace F_form_a50 := F_form_a50.keep K (not1 ne_a50_a52)
        replace F_module_a50 := F_module_a50.keep K (not1 ne_a50_a52)
        replace F_name_a50 := F_name_a50.keep K (not1 ne_a50_a52)
        replace F_position_a50 := F_position_a50.keep K (not1 ne_a50_a52)
        replace X_a52 := X_a52.keep K
        replace F_text_a52 := G_text
        replace F_position_a52 := G_position
        show Go p e below _ (State.setTop T (mkF m 113 #[.val (.int tc), .val (.int mc), .val (.int rc), .val (.int fl), .val (.int (1 : Int32)), .val (.int (((Jvm.Free.XT.ushr fl (1 : Int32)) &&& (2147483647 : Int32)) % (3 : Int32))), .val (.ref fo1), .val (.ref x46), .val (.ref x48), .val (.ref x49), .val (.ref a50), .unset, .unset, .unset, .unset, .unset] [(.ref a52)]))
        refine g_goto w at_113 (by decide) (q := 117) (by decide) ?_
        refine g_astore w at_117 (q := 119) rfl rfl (Ls' := #[.val (.int tc), .val (.int mc), .val (.int rc), .val (.int fl), .val (.int (1 : Int32)), .val (.int (((Jvm.Free.XT.ushr fl (1 : Int32)) &&& (2147483647 : Int32)) % (3 : Int32))), .val (.ref fo1), .val (.ref x46), .val (.ref x48), .val (.ref x49), .val (.ref a50), .val (.ref a52), .unset, .unset, .unset, .unset]) rfl ?_
        refine g_new w at_119 (q := 122) rfl (hw _ (List.mem_of_getElem? (i := 69) rfl)) (hw _ (List.mem_of_getElem? (i := 70) rfl)) (hw _ (List.mem_of_getElem? (i := 71) rfl)) (by decide) (by decide) (fun T h a53 w E g_a53 n_a53 X_a53 D_a53 s_a53 => ?_)
        have z_a53 := Nat.le_trans E0.1 g_a53
        have ne_a52_a53 : a52 ≠ a53 := Nat.ne_of_lt (Nat.lt_of_lt_of_le X_a52.lt g_a53)
        have ne_x46_a53 : x46 ≠ a53 := Nat.ne_of_lt (Nat.lt_of_lt_of_le S_x46.lt g_a53)
        have ne_x48_a53 : x48 ≠ a53 := Nat.ne_of_lt (Nat.lt_of_lt_of_le S_x48.lt g_a53)
        have ne_a50_a53 : a50 ≠ a53 := Nat.ne_of_lt (Nat.lt_of_lt_of_le X_a50.lt g_a53)
        have ne_x49_a53 : x49 ≠ a53 := Nat.ne_of_lt (Nat.lt_of_lt_of_le S_x49.lt g_a53)
        replace E0 := ext_trans E0 E
        replace S_x46 := S_x46.ext E
        replace S_x48 := S_x48.ext E
        replace S_x49 := S_x49.ext E
        replace X_a50 := X_a50.ext E
        replace F_form_a50 := F_form_a50.ext E
        replace F_module_a50 := F_module_a50.ext E
        replace F_name_a50 := F_name_a50.ext E
        replace F_position_a50 := F_position_a50.ext E
        replace X_a52 := X_a52.ext E
        replace F_text_a52 := F_text_a52.ext E
        replace F_position_a52 := F_position_a52.ext E
        have F_modCount_a53 := D_a53 (Or.inl (hw _ (List.mem_of_getElem? (i := 89) rfl))) (ty := .int) (by decide)
        replace F_modCount_a53 : Fld Z h a53 "java/util/AbstractList" "modCount" "I" (.int (0 : Int32)) := F_modCount_a53
        have F_elementData_a53 := D_a53 (Or.inl (hw _ (List.mem_of_getElem? (i := 92) rfl))) (ty := (.array (.object "java/lang/Object"))) (by decide)
        replace F_elementData_a53 : Fld Z h a53 "java/util/ArrayList" "elementData" "[Ljava/lang/Object;" .null := F_elementData_a53
        refine g_dup w at_122 (q := 123) rfl rfl ?_
        refine g_special w (con_arl l Z a0 hw a53 dc_ _ w.old X_a53 F_modCount_a53 F_elementData_a53 n_a53 SD_) no0 at_123 (q := 126) rfl rfl rfl (hw _ (List.mem_of_getElem? (i := 72) rfl)) (hw _ (List.mem_of_getElem? (i := 73) rfl)) (hw _ (List.mem_of_getElem? (i := 71) rfl)) (hw _ (List.mem_of_getElem? (i := 74) rfl)) (by decide) pd1 rfl rfl (W := 1) (Nat.le_of_eq rfl) (by decide) (by decide) (by decide) (by decide) (fun T h v w gs C q => ?_)
        obtain ⟨rfl, K⟩ := q
        replace E0 := ext_keep E0 K z_a53
        have X0 := X_a53
        replace S_x46 := S_x46.keepO K ne_x46_a53 X0 (hw _ (List.mem_of_getElem? (i := 70) rfl))
        replace S_x48 := S_x48.keepO K ne_x48_a53 X0 (hw _ (List.mem_of_getElem? (i := 70) rfl))
        replace S_x49 := S_x49.keepO K ne_x49_a53 X0 (hw _ (List.mem_of_getElem? (i := 70) rfl))
        replace X_a50 := X_a50.keep K
        replace F_form_a50 := F_form_a50.keep K (not1 ne_a50_a53)
        replace F_module_a50 := F_module_a50.keep K (not1 ne_a50_a53)
        replace F_name_a50 := F_name_a50.keep K (not1 ne_a50_a53)
        replace F_position_a50 := F_position_a50.keep K (not1 ne_a50_a53)
        replace X_a52 := X_a52.keep K
        replace F_text_a52 := F_text_a52.keep K (not1 ne_a52_a53)
        replace F_position_a52 := F_position_a52.keep K (not1 ne_a52_a53)
        replace X_a53 := X_a53.keep K
        show Go p e below _ (State.setTop T (mkF m 126 #[.val (.int tc), .val (.int mc), .val (.int rc), .val (.int fl), .val (.int (1 : Int32)), .val (.int (((Jvm.Free.XT.ushr fl (1 : Int32)) &&& (2147483647 : Int32)) % (3 : Int32))), .val (.ref fo1), .val (.ref x46), .val (.ref x48), .val (.ref x49), .val (.ref a50), .val (.ref a52), .unset, .unset, .unset, .unset] [(.ref a53)]))
        refine g_astore w at_126 (q := 128) rfl rfl (Ls' := #[.val (.int tc), .val (.int mc), .val (.int rc), .val (.int fl), .val (.int (1 : Int32)), .val (.int (((Jvm.Free.XT.ushr fl (1 : Int32)) &&& (2147483647 : Int32)) % (3 : Int32))), .val (.ref fo1), .val (.ref x46), .val (.ref x48), .val (.ref x49), .val (.ref a50), .val (.ref a52), .val (.ref a53), .unset, .unset, .unset]) rfl ?_
        refine g_new w at_128 (q := 131) rfl (hw _ (List.mem_of_getElem? (i := 93) rfl)) (hw _ (List.mem_of_getElem? (i := 94) rfl)) (hw _ (List.mem_of_getElem? (i := 95) rfl)) (by decide) (by decide) (fun T h a54 w E g_a54 n_a54 X_a54 D_a54 s_a54 => ?_)
        have z_a54 := Nat.le_trans E0.1 g_a54
        have ne_a53_a54 : a53 ≠ a54 := Nat.ne_of_lt (Nat.lt_of_lt_of_le X_a53.lt g_a54)
        have ne_a52_a54 : a52 ≠ a54 := Nat.ne_of_lt (Nat.lt_of_lt_of_le X_a52.lt g_a54)
        have ne_x46_a54 : x46 ≠ a54 := Nat.ne_of_lt (Nat.lt_of_lt_of_le S_x46.lt g_a54)
        have ne_x48_a54 : x48 ≠ a54 := Nat.ne_of_lt (Nat.lt_of_lt_of_le S_x48.lt g_a54)
        have ne_a50_a54 : a50 ≠ a54 := Nat.ne_of_lt (Nat.lt_of_lt_of_le X_a50.lt g_a54)
        have ne_x49_a54 : x49 ≠ a54 := Nat.ne_of_lt (Nat.lt_of_lt_of_le S_x49.lt g_a54)
        replace E0 := ext_trans E0 E
        replace S_x46 := S_x46.ext E
        replace S_x48 := S_x48.ext E
        replace S_x49 := S_x49.ext E
        replace X_a50 := X_a50.ext E
        replace F_form_a50 := F_form_a50.ext E
        replace F_module_a50 := F_module_a50.ext E
        replace F_name_a50 := F_name_a50.ext E
        replace F_position_a50 := F_position_a50.ext E
        replace X_a52 := X_a52.ext E
        replace F_text_a52 := F_text_a52.ext E
        replace F_position_a52 := F_position_a52.ext E
        replace X_a53 := X_a53.ext E
        have F_type_a54 := D_a54 (Or.inr (hw _ (List.mem_of_getElem? (i := 101) rfl))) (ty := (.object "com/example/ontoscribe/ontoscribe/sdml/Module$Reference")) (by decide)
        replace F_type_a54 : Fld Z h a54 "com/example/ontoscribe/ontoscribe/sdml/Module$Variant" "type" "Lcom/example/ontoscribe/ontoscribe/sdml/Module$Reference;" .null := F_type_a54
        have F_rename_a54 := D_a54 (Or.inr (hw _ (List.mem_of_getElem? (i := 103) rfl))) (ty := (.object "com/example/ontoscribe/ontoscribe/sdml/Module$Identifier")) (by decide)
        replace F_rename_a54 : Fld Z h a54 "com/example/ontoscribe/ontoscribe/sdml/Module$Variant" "rename" "Lcom/example/ontoscribe/ontoscribe/sdml/Module$Identifier;" .null := F_rename_a54
        have F_annotations_a54 := D_a54 (Or.inr (hw _ (List.mem_of_getElem? (i := 105) rfl))) (ty := (.object "java/util/List")) (by decide)
        replace F_annotations_a54 : Fld Z h a54 "com/example/ontoscribe/ontoscribe/sdml/Module$Variant" "annotations" "Ljava/util/List;" .null := F_annotations_a54
        refine g_dup w at_131 (q := 132) rfl rfl ?_
        refine g_aload w at_132 (q := 134) rfl rfl rfl ?_
        refine g_aload w at_134 (q := 136) rfl rfl rfl ?_
        refine g_aload w at_136 (q := 138) rfl rfl rfl ?_
        refine g_special w (con_var1 l Z a0 hw a54 a50 a52 a53 _ w.old X_a54 F_type_a54 F_rename_a54 F_annotations_a54 n_a54) no0 at_138 (q := 141) rfl rfl rfl (hw _ (List.mem_of_getElem? (i := 96) rfl)) (hw _ (List.mem_of_getElem? (i := 97) rfl)) (hw _ (List.mem_of_getElem? (i := 95) rfl)) (hw _ (List.mem_of_getElem? (i := 98) rfl)) (by decide) pd5 rfl rfl (W := 1) (Nat.le_of_eq rfl) (by decide) (by decide) (by decide) (by decide) (fun T h v w gs C q => ?_)
        obtain ⟨rfl, K, G_type, G_rename, G_annotations⟩ := q
        replace E0 := ext_keep E0 K z_a54
        have X0 := X_a54
        replace S_x46 := S_x46.keepO K ne_x46_a54 X0 (hw _ (List.mem_of_getElem? (i := 94) rfl))
        replace S_x48 := S_x48.keepO K ne_x48_a54 X0 (hw _ (List.mem_of_getElem? (i := 94) rfl))
        replace S_x49 := S_x49.keepO K ne_x49_a54 X0 (hw _ (List.mem_of_getElem? (i := 94) rfl))
        replace X_a50 := X_a50.keep K
        replace F_form_a50 := F_form_a50.keep K (not1 ne_a50_a54)
        replace F_module_a50 := F_module_a50.keep K (not1 ne_a50_a54)
        replace F_name_a50 := F_name_a50.keep K (not1 ne_a50_a54)
        replace F_position_a50 := F_position_a50.keep K (not1 ne_a50_a54)
        replace X_a52 := X_a52.keep K
        replace F_text_a52 := F_text_a52.keep K (not1 ne_a52_a54)
        replace F_position_a52 := F_position_a52.keep K (not1 ne_a52_a54)
        replace X_a53 := X_a53.keep K
        replace X_a54 := X_a54.keep K
        replace F_type_a54 := G_type
        replace F_rename_a54 := G_rename
        replace F_annotations_a54 := G_annotations
        show Go p e below _ (State.setTop T (mkF m 141 #[.val (.int tc), .val (.int mc), .val (.int rc), .val (.int fl), .val (.int (1 : Int32)), .val (.int (((Jvm.Free.XT.ushr fl (1 : Int32)) &&& (2147483647 : Int32)) % (3 : Int32))), .val (.ref fo1), .val (.ref x46), .val (.ref x48), .val (.ref x49), .val (.ref a50), .val (.ref a52), .val (.ref a53), .unset, .unset, .unset] [(.ref a54)]))
        refine g_astore w at_141 (q := 143) rfl rfl (Ls' := #[.val (.int tc), .val (.int mc), .val (.int rc), .val (.int fl), .val (.int (1 : Int32)), .val (.int (((Jvm.Free.XT.ushr fl (1 : Int32)) &&& (2147483647 : Int32)) % (3 : Int32))), .val (.ref fo1), .val (.ref x46), .val (.ref x48), .val (.ref x49), .val (.ref a50), .val (.ref a52), .val (.ref a53), .val (.ref a54), .unset, .unset]) rfl ?_
        refine g_aload w at_143 (q := 145) rfl rfl rfl ?_
        refine g_virtualP w (con_shown1 l Z a0 hw a54 a52 x49 _ w.old F_rename_a54 X_a52 F_text_a52) no0 X_a54 at_145 (q := 148) rfl rfl (hw _ (List.mem_of_getElem? (i := 106) rfl)) (hw _ (List.mem_of_getElem? (i := 107) rfl)) (hw _ (List.mem_of_getElem? (i := 109) rfl)) (hw _ (List.mem_of_getElem? (i := 108) rfl)) (hw _ (List.mem_of_getElem? (i := 95) rfl)) (hw _ (List.mem_of_getElem? (i := 110) rfl)) (by decide) (nf (hw _ (List.mem_of_getElem? (i := 109) rfl))) pd2 rfl rfl (W := 0) (Nat.le_of_eq rfl) (by decide) (by decide) (by decide) (by decide) (fun T v w C q => ?_)
        obtain rfl := q
        show Go p e below _ (State.setTop T (mkF m 148 #[.val (.int tc), .val (.int mc), .val (.int rc), .val (.int fl), .val (.int (1 : Int32)), .val (.int (((Jvm.Free.XT.ushr fl (1 : Int32)) &&& (2147483647 : Int32)) % (3 : Int32))), .val (.ref fo1), .val (.ref x46), .val (.ref x48), .val (.ref x49), .val (.ref a50), .val (.ref a52), .val (.ref a53), .val (.ref a54), .unset, .unset] [(.ref x49)]))
        refine g_astore w at_148 (q := 150) rfl rfl (Ls' := #[.val (.int tc), .val (.int mc), .val (.int rc), .val (.int fl), .val (.int (1 : Int32)), .val (.int (((Jvm.Free.XT.ushr fl (1 : Int32)) &&& (2147483647 : Int32)) % (3 : Int32))), .val (.ref fo1), .val (.ref x46), .val (.ref x48), .val (.ref x49), .val (.ref a50), .val (.ref a52), .val (.ref a53), .val (.ref a54), .val (.ref x49), .unset]) rfl ?_
        refine g_iload w at_150 (q := 152) rfl rfl ?_
        refine g_ifN w at_152 (q := 155) rfl (by decide) ?_
        refine g_aload w at_155 (q := 157) rfl rfl rfl ?_
        refine g_goto w at_157 (by decide) (q := 162) (by decide) ?_
        refine g_astore w at_162 (q := 164) rfl rfl (Ls' := #[.val (.int tc), .val (.int mc), .val (.int rc), .val (.int fl), .val (.int (1 : Int32)), .val (.int (((Jvm.Free.XT.ushr fl (1 : Int32)) &&& (2147483647 : Int32)) % (3 : Int32))), .val (.ref fo1), .val (.ref x46), .val (.ref x48), .val (.ref x49), .val (.ref a50), .val (.ref a52), .val (.ref a53), .val (.ref a54), .val (.ref x49), .val (.ref x49)]) rfl ?_
        refine g_aload w at_164 (q := 166) rfl rfl rfl ?_
        refine g_nullN w at_166 (q := 169) rfl ?_
        refine g_aload w at_169 (q := 171) rfl rfl rfl ?_
        refine g_aload w at_171 (q := 173) rfl rfl rfl ?_
        refine g_virtualP w (con_eqs l Z a0 hw x49 _ w.old) no0 S_x49.exa at_173 (q := 176) rfl rfl (hw _ (List.mem_of_getElem? (i := 116) rfl)) (hw _ (List.mem_of_getElem? (i := 117) rfl)) (hw _ (List.mem_of_getElem? (i := 119) rfl)) (hw _ (List.mem_of_getElem? (i := 118) rfl)) (hw _ (List.mem_of_getElem? (i := 11) rfl)) (hw _ (List.mem_of_getElem? (i := 120) rfl)) (by decide) (nf (hw _ (List.mem_of_getElem? (i := 119) rfl))) pd6 rfl rfl (W := 0) (Nat.le_of_eq rfl) (by decide) (by decide) (by decide) (by decide) (fun T v w C q => ?_)
        obtain rfl := q
        show Go p e below _ (State.setTop T (mkF m 176 #[.val (.int tc), .val (.int mc), .val (.int rc), .val (.int fl), .val (.int (1 : Int32)), .val (.int (((Jvm.Free.XT.ushr fl (1 : Int32)) &&& (2147483647 : Int32)) % (3 : Int32))), .val (.ref fo1), .val (.ref x46), .val (.ref x48), .val (.ref x49), .val (.ref a50), .val (.ref a52), .val (.ref a53), .val (.ref a54), .val (.ref x49), .val (.ref x49)] [(.int (1 : Int32))]))
        refine g_ifN w at_176 (q := 179) rfl (by decide) ?_
        refine g_iconst w at_179 (q := 180) rfl (v := (1 : Int32)) (by decide) ?_
        refine g_goto w at_180 (by decide) (q := 184) (by decide) ?_
        exact g_retn w at_184 rfl (by simp) rfl (by decide) (by decide) rfl
    · refine g_getS w at_28 (q := 31) rfl (hw _ (List.mem_of_getElem? (i := 1) rfl)) Via.refl SF0 (fun T w => ?_)
      refine g_astore w at_31 (q := 33) rfl rfl (Ls' := #[.val (.int tc), .val (.int mc), .val (.int rc), .val (.int fl), .val (.int (1 : Int32)), .val (.int (((Jvm.Free.XT.ushr fl (1 : Int32)) &&& (2147483647 : Int32)) % (3 : Int32))), .val (.ref fo0), .unset, .unset, .unset, .unset, .unset, .unset, .unset, .unset, .unset]) rfl ?_
      refine g_goto w at_33 (by decide) (q := 55) (by decide) ?_
      refine g_iloadN w at_55 (q := 56) rfl rfl ?_
      refine g_static w (con_two l Z a0 hw tc _ w.old hcm) no0 at_56 (q := 59) rfl rfl (hw _ (List.mem_of_getElem? (i := 4) rfl)) (hw _ (List.mem_of_getElem? (i := 5) rfl)) (hw _ (List.mem_of_getElem? (i := 6) rfl)) (hw _ (List.mem_of_getElem? (i := 7) rfl)) (by decide) pd3 rfl rfl (W := 0) (Nat.le_of_eq rfl) (by decide) (by decide) (by decide) (by decide) (fun T h v w gs C q => ?_)
      obtain ⟨x57, rfl, E, g_x57, S_x57⟩ := q
      have z_x57 := Nat.le_trans E0.1 g_x57
      replace E0 := ext_trans E0 E
      show Go p e below _ (State.setTop T (mkF m 59 #[.val (.int tc), .val (.int mc), .val (.int rc), .val (.int fl), .val (.int (1 : Int32)), .val (.int (((Jvm.Free.XT.ushr fl (1 : Int32)) &&& (2147483647 : Int32)) % (3 : Int32))), .val (.ref fo0), .unset, .unset, .unset, .unset, .unset, .unset, .unset, .unset, .unset] [(.ref x57)]))
      refine g_astore w at_59 (q := 61) rfl rfl (Ls' := #[.val (.int tc), .val (.int mc), .val (.int rc), .val (.int fl), .val (.int (1 : Int32)), .val (.int (((Jvm.Free.XT.ushr fl (1 : Int32)) &&& (2147483647 : Int32)) % (3 : Int32))), .val (.ref fo0), .val (.ref x57), .unset, .unset, .unset, .unset, .unset, .unset, .unset, .unset]) rfl ?_
      refine g_iload w at_61 (q := 63) rfl rfl ?_
      refine g_ifN w at_63 (q := 66) rfl (Jvm.Free.XT.i0_ne_f cd33) ?_
      refine g_anull w at_66 (q := 67) rfl ?_
      refine g_goto w at_67 (by decide) (q := 74) (by decide) ?_
      refine g_astore w at_74 (q := 76) rfl rfl (Ls' := #[.val (.int tc), .val (.int mc), .val (.int rc), .val (.int fl), .val (.int (1 : Int32)), .val (.int (((Jvm.Free.XT.ushr fl (1 : Int32)) &&& (2147483647 : Int32)) % (3 : Int32))), .val (.ref fo0), .val (.ref x57), .val .null, .unset, .unset, .unset, .unset, .unset, .unset, .unset]) rfl ?_
      refine g_iloadN w at_76 (q := 77) rfl rfl ?_
      refine g_static w (con_two l Z a0 hw rc _ w.old hcm) no0 at_77 (q := 80) rfl rfl (hw _ (List.mem_of_getElem? (i := 4) rfl)) (hw _ (List.mem_of_getElem? (i := 5) rfl)) (hw _ (List.mem_of_getElem? (i := 6) rfl)) (hw _ (List.mem_of_getElem? (i := 7) rfl)) (by decide) pd3 rfl rfl (W := 0) (Nat.le_of_eq rfl) (by decide) (by decide) (by decide) (by decide) (fun T h v w gs C q => ?_)
      obtain ⟨x59, rfl, E, g_x59, S_x59⟩ := q
      have z_x59 := Nat.le_trans E0.1 g_x59
      have ne_x57_x59 : x57 ≠ x59 := Nat.ne_of_lt (Nat.lt_of_lt_of_le S_x57.lt g_x59)
      replace E0 := ext_trans E0 E
      replace S_x57 := S_x57.ext E
      show Go p e below _ (State.setTop T (mkF m 80 #[.val (.int tc), .val (.int mc), .val (.int rc), .val (.int fl), .val (.int (1 : Int32)), .val (.int (((Jvm.Free.XT.ushr fl (1 : Int32)) &&& (2147483647 : Int32)) % (3 : Int32))), .val (.ref fo0), .val (.ref x57), .val .null, .unset, .unset, .unset, .unset, .unset, .unset, .unset] [(.ref x59)]))
      refine g_astore w at_80 (q := 82) rfl rfl (Ls' := #[.val (.int tc), .val (.int mc), .val (.int rc), .val (.int fl), .val (.int (1 : Int32)), .val (.int (((Jvm.Free.XT.ushr fl (1 : Int32)) &&& (2147483647 : Int32)) % (3 : Int32))), .val (.ref fo0), .val (.ref x57), .val .null, .val (.ref x59), .unset, .unset, .unset, .unset, .unset, .unset]) rfl ?_
      refine g_new w at_82 (q := 85) rfl (hw _ (List.mem_of_getElem? (i := 38) rfl)) (hw _ (List.mem_of_getElem? (i := 39) rfl)) (hw _ (List.mem_of_getElem? (i := 40) rfl)) (by decide) (by decide) (fun T h a60 w E g_a60 n_a60 X_a60 D_a60 s_a60 => ?_)
      have z_a60 := Nat.le_trans E0.1 g_a60
      have ne_x57_a60 : x57 ≠ a60 := Nat.ne_of_lt (Nat.lt_of_lt_of_le S_x57.lt g_a60)
      have ne_x59_a60 : x59 ≠ a60 := Nat.ne_of_lt (Nat.lt_of_lt_of_le S_x59.lt g_a60)
      replace E0 := ext_trans E0 E
      replace S_x57 := S_x57.ext E
      replace S_x59 := S_x59.ext E
      have F_form_a60 := D_a60 (Or.inr (hw _ (List.mem_of_getElem? (i := 51) rfl))) (ty := (.object "com/example/ontoscribe/ontoscribe/sdml/Module$Reference$Form")) (by decide)
      replace F_form_a60 : Fld Z h a60 "com/example/ontoscribe/ontoscribe/sdml/Module$Reference" "form" "Lcom/example/ontoscribe/ontoscribe/sdml/Module$Reference$Form;" .null := F_form_a60
      have F_module_a60 := D_a60 (Or.inr (hw _ (List.mem_of_getElem? (i := 53) rfl))) (ty := (.object "java/lang/String")) (by decide)
      replace F_module_a60 : Fld Z h a60 "com/example/ontoscribe/ontoscribe/sdml/Module$Reference" "module" "Ljava/lang/String;" .null := F_module_a60
      have F_name_a60 := D_a60 (Or.inr (hw _ (List.mem_of_getElem? (i := 55) rfl))) (ty := (.object "java/lang/String")) (by decide)
      replace F_name_a60 : Fld Z h a60 "com/example/ontoscribe/ontoscribe/sdml/Module$Reference" "name" "Ljava/lang/String;" .null := F_name_a60
      have F_position_a60 := D_a60 (Or.inr (hw _ (List.mem_of_getElem? (i := 57) rfl))) (ty := (.object "com/example/ontoscribe/ontoscribe/diagnostics/Position")) (by decide)
      replace F_position_a60 : Fld Z h a60 "com/example/ontoscribe/ontoscribe/sdml/Module$Reference" "position" "Lcom/example/ontoscribe/ontoscribe/diagnostics/Position;" .null := F_position_a60
      refine g_dup w at_85 (q := 86) rfl rfl ?_
      refine g_aload w at_86 (q := 88) rfl rfl rfl ?_
      refine g_aload w at_88 (q := 90) rfl rfl rfl ?_
      refine g_aload w at_90 (q := 92) rfl rfl rfl ?_
      refine g_anull w at_92 (q := 93) rfl ?_
      refine g_special w (con_ref0 l Z a0 hw a60 fo0 x57 _ w.old X_a60 F_form_a60 F_module_a60 F_name_a60 F_position_a60 n_a60) no0 at_93 (q := 96) rfl rfl rfl (hw _ (List.mem_of_getElem? (i := 41) rfl)) (hw _ (List.mem_of_getElem? (i := 42) rfl)) (hw _ (List.mem_of_getElem? (i := 40) rfl)) (hw _ (List.mem_of_getElem? (i := 43) rfl)) (by decide) pd4 rfl rfl (W := 1) (Nat.le_of_eq rfl) (by decide) (by decide) (by decide) (by decide) (fun T h v w gs C q => ?_)
      obtain ⟨rfl, K, G_form, G_module, G_name, G_position⟩ := q
      replace E0 := ext_keep E0 K z_a60
      have X0 := X_a60
      replace S_x57 := S_x57.keepO K ne_x57_a60 X0 (hw _ (List.mem_of_getElem? (i := 39) rfl))
      replace S_x59 := S_x59.keepO K ne_x59_a60 X0 (hw _ (List.mem_of_getElem? (i := 39) rfl))
      replace X_a60 := X_a60.keep K
      replace F_form_a60 := G_form
      replace F_module_a60 := G_module
      replace F_name_a60 := G_name
      replace F_position_a60 := G_position
      show Go p e below _ (State.setTop T (mkF m 96 #[.val (.int tc), .val (.int mc), .val (.int rc), .val (.int fl), .val (.int (1 : Int32)), .val (.int (((Jvm.Free.XT.ushr fl (1 : Int32)) &&& (2147483647 : Int32)) % (3 : Int32))), .val (.ref fo0), .val (.ref x57), .val .null, .val (.ref x59), .unset, .unset, .unset, .unset, .unset, .unset] [(.ref a60)]))
      refine g_astore w at_96 (q := 98) rfl rfl (Ls' := #[.val (.int tc), .val (.int mc), .val (.int rc), .val (.int fl), .val (.int (1 : Int32)), .val (.int (((Jvm.Free.XT.ushr fl (1 : Int32)) &&& (2147483647 : Int32)) % (3 : Int32))), .val (.ref fo0), .val (.ref x57), .val .null, .val (.ref x59), .val (.ref a60), .unset, .unset, .unset, .unset, .unset]) rfl ?_
      refine g_iload w at_98 (q := 100) rfl rfl ?_
      refine g_ifN w at_100 (q := 103) rfl (by decide) ?_
      refine g_new w at_103 (q := 106) rfl (hw _ (List.mem_of_getElem? (i := 58) rfl)) (hw _ (List.mem_of_getElem? (i := 59) rfl)) (hw _ (List.mem_of_getElem? (i := 60) rfl)) (by decide) (by decide) (fun T h a62 w E g_a62 n_a62 X_a62 D_a62 s_a62 => ?_)
      have z_a62 := Nat.le_trans E0.1 g_a62
      have ne_x57_a62 : x57 ≠ a62 := Nat.ne_of_lt (Nat.lt_of_lt_of_le S_x57.lt g_a62)
      have ne_x59_a62 : x59 ≠ a62 := Nat.ne_of_lt (Nat.lt_of_lt_of_le S_x59.lt g_a62)
      have ne_a60_a62 : a60 ≠ a62 := Nat.ne_of_lt (Nat.lt_of_lt_of_le X_a60.lt g_a62)
      replace E0 := ext_trans E0 E
      replace S_x57 := S_x57.ext E
      replace S_x59 := S_x59.ext E
      replace X_a60 := X_a60.ext E
      replace F_form_a60 := F_form_a60.ext E
      replace F_module_a60 := F_module_a60.ext E
      replace F_name_a60 := F_name_a60.ext E
      replace F_position_a60 := F_position_a60.ext E
      have F_text_a62 := D_a62 (Or.inr (hw _ (List.mem_of_getElem? (i := 66) rfl))) (ty := (.object "java/lang/String")) (by decide)
      replace F_text_a62 : Fld Z h a62 "com/example/ontoscribe/ontoscribe/sdml/Module$Identifier" "text" "Ljava/lang/String;" .null := F_text_a62
      have F_position_a62 := D_a62 (Or.inr (hw _ (List.mem_of_getElem? (i := 68) rfl))) (ty := (.object "com/example/ontoscribe/ontoscribe/diagnostics/Position")) (by decide)
      replace F_position_a62 : Fld Z h a62 "com/example/ontoscribe/ontoscribe/sdml/Module$Identifier" "position" "Lcom/example/ontoscribe/ontoscribe/diagnostics/Position;" .null := F_position_a62
      refine g_dup w at_106 (q := 107) rfl rfl ?_
      refine g_aload w at_107 (q := 109) rfl rfl rfl ?_
      refine g_anull w at_109 (q := 110) rfl ?_
      refine g_special w (con_id l Z a0 hw a62 x59 _ w.old X_a62 F_text_a62 F_position_a62 n_a62) no0 at_110 (q := 113) rfl rfl rfl (hw _ (List.mem_of_getElem? (i := 61) rfl)) (hw _ (List.mem_of_getElem? (i := 62) rfl)) (hw _ (List.mem_of_getElem? (i := 60) rfl)) (hw _ (List.mem_of_getElem? (i := 63) rfl)) (by decide) pd7 rfl rfl (W := 1) (Nat.le_of_eq rfl) (by decide) (by decide) (by decide) (by decide) (fun T h v w gs C q => ?_)
      obtain ⟨rfl, K, G_text, G_position⟩ := q
      replace E0 := ext_keep E0 K z_a62
      have X0 := X_a62
      replace S_x57 := S_x57.keepO K ne_x57_a62 X0 (hw _ (List.mem_of_getElem? (i := 59) rfl))
      replace S_x59 := S_x59.keepO K ne_x59_a62 X0 (hw _ (List.mem_of_getElem? (i := 59) rfl))
      replace X_a60 := X_a60.keep K
      replace F_form_a60 := F_form_a60.keep K (not1 ne_a60_a62)
      replace F_module_a60 := F_module_a60.keep K (not1 ne_a60_a62)
      replace F_name_a60 := F_name_a60.keep K (not1 ne_a60_a62)
      replace F_position_a60 := F_position_a60.keep K (not1 ne_a60_a62)
      replace X_a62 := X_a62.keep K
      replace F_text_a62 := G_text
      replace F_position_a62 := G_position
      show Go p e below _ (State.setTop T (mkF m 113 #[.val (.int tc), .val (.int mc), .val (.int rc), .val (.int fl), .val (.int (1 : Int32)), .val (.int (((Jvm.Free.XT.ushr fl (1 : Int32)) &&& (2147483647 : Int32)) % (3 : Int32))), .val (.ref fo0), .val (.ref x57), .val .null, .val (.ref x59), .val (.ref a60), .unset, .unset, .unset, .unset, .unset] [(.ref a62)]))
      refine g_goto w at_113 (by decide) (q := 117) (by decide) ?_
      refine g_astore w at_117 (q := 119) rfl rfl (Ls' := #[.val (.int tc), .val (.int mc), .val (.int rc), .val (.int fl), .val (.int (1 : Int32)), .val (.int (((Jvm.Free.XT.ushr fl (1 : Int32)) &&& (2147483647 : Int32)) % (3 : Int32))), .val (.ref fo0), .val (.ref x57), .val .null, .val (.ref x59), .val (.ref a60), .val (.ref a62), .unset, .unset, .unset, .unset]) rfl ?_
      refine g_new w at_119 (q := 122) rfl (hw _ (List.mem_of_getElem? (i := 69) rfl)) (hw _ (List.mem_of_getElem? (i := 70) rfl)) (hw _ (List.mem_of_getElem? (i := 71) rfl)) (by decide) (by decide) (fun T h a63 w E g_a63 n_a63 X_a63 D_a63 s_a63 => ?_)
      have z_a63 := Nat.le_trans E0.1 g_a63
      have ne_x57_a63 : x57 ≠ a63 := Nat.ne_of_lt (Nat.lt_of_lt_of_le S_x57.lt g_a63)
      have ne_x59_a63 : x59 ≠ a63 := Nat.ne_of_lt (Nat.lt_of_lt_of_le S_x59.lt g_a63)
      have ne_a60_a63 : a60 ≠ a63 := Nat.ne_of_lt (Nat.lt_of_lt_of_le X_a60.lt g_a63)
      have ne_a62_a63 : a62 ≠ a63 := Nat.ne_of_lt (Nat.lt_of_lt_of_le X_a62.lt g_a63)
      replace E0 := ext_trans E0 E
      replace S_x57 := S_x57.ext E
      replace S_x59 := S_x59.ext E
      replace X_a60 := X_a60.ext E
      replace F_form_a60 := F_form_a60.ext E
      replace F_module_a60 := F_module_a60.ext E
      replace F_name_a60 := F_name_a60.ext E
      replace F_position_a60 := F_position_a60.ext E
      replace X_a62 := X_a62.ext E
      replace F_text_a62 := F_text_a62.ext E
      replace F_position_a62 := F_position_a62.ext E
      have F_modCount_a63 := D_a63 (Or.inl (hw _ (List.mem_of_getElem? (i := 89) rfl))) (ty := .int) (by decide)
      replace F_modCount_a63 : Fld Z h a63 "java/util/AbstractList" "modCount" "I" (.int (0 : Int32)) := F_modCount_a63
      have F_elementData_a63 := D_a63 (Or.inl (hw _ (List.mem_of_getElem? (i := 92) rfl))) (ty := (.array (.object "java/lang/Object"))) (by decide)
      replace F_elementData_a63 : Fld Z h a63 "java/util/ArrayList" "elementData" "[Ljava/lang/Object;" .null := F_elementData_a63
      refine g_dup w at_122 (q := 123) rfl rfl ?_
      refine g_special w (con_arl l Z a0 hw a63 dc_ _ w.old X_a63 F_modCount_a63 F_elementData_a63 n_a63 SD_) no0 at_123 (q := 126) rfl rfl rfl (hw _ (List.mem_of_getElem? (i := 72) rfl)) (hw _ (List.mem_of_getElem? (i := 73) rfl)) (hw _ (List.mem_of_getElem? (i := 71) rfl)) (hw _ (List.mem_of_getElem? (i := 74) rfl)) (by decide) pd1 rfl rfl (W := 1) (Nat.le_of_eq rfl) (by decide) (by decide) (by decide) (by decide) (fun T h v w gs C q => ?_)
      obtain ⟨rfl, K⟩ := q
      replace E0 := ext_keep E0 K z_a63
      have X0 := X_a63
      replace S_x57 := S_x57.keepO K ne_x57_a63 X0 (hw _ (List.mem_of_getElem? (i := 70) rfl))
      replace S_x59 := S_x59.keepO K ne_x59_a63 X0 (hw _ (List.mem_of_getElem? (i := 70) rfl))
      replace X_a60 := X_a60.keep K
      replace F_form_a60 := F_form_a60.keep K (not1 ne_a60_a63)
      replace F_module_a60 := F_module_a60.keep K (not1 ne_a60_a63)
      replace F_name_a60 := F_name_a60.keep K (not1 ne_a60_a63)
      replace F_position_a60 := F_position_a60.keep K (not1 ne_a60_a63)
      replace X_a62 := X_a62.keep K
      replace F_text_a62 := F_text_a62.keep K (not1 ne_a62_a63)
      replace F_position_a62 := F_position_a62.keep K (not1 ne_a62_a63)
      replace X_a63 := X_a63.keep K
      show Go p e below _ (State.setTop T (mkF m 126 #[.val (.int tc), .val (.int mc), .val (.int rc), .val (.int fl), .val (.int (1 : Int32)), .val (.int (((Jvm.Free.XT.ushr fl (1 : Int32)) &&& (2147483647 : Int32)) % (3 : Int32))), .val (.ref fo0), .val (.ref x57), .val .null, .val (.ref x59), .val (.ref a60), .val (.ref a62), .unset, .unset, .unset, .unset] [(.ref a63)]))
      refine g_astore w at_126 (q := 128) rfl rfl (Ls' := #[.val (.int tc), .val (.int mc), .val (.int rc), .val (.int fl), .val (.int (1 : Int32)), .val (.int (((Jvm.Free.XT.ushr fl (1 : Int32)) &&& (2147483647 : Int32)) % (3 : Int32))), .val (.ref fo0), .val (.ref x57), .val .null, .val (.ref x59), .val (.ref a60), .val (.ref a62), .val (.ref a63), .unset, .unset, .unset]) rfl ?_
      refine g_new w at_128 (q := 131) rfl (hw _ (List.mem_of_getElem? (i := 93) rfl)) (hw _ (List.mem_of_getElem? (i := 94) rfl)) (hw _ (List.mem_of_getElem? (i := 95) rfl)) (by decide) (by decide) (fun T h a64 w E g_a64 n_a64 X_a64 D_a64 s_a64 => ?_)
      have z_a64 := Nat.le_trans E0.1 g_a64
      have ne_x57_a64 : x57 ≠ a64 := Nat.ne_of_lt (Nat.lt_of_lt_of_le S_x57.lt g_a64)
      have ne_a62_a64 : a62 ≠ a64 := Nat.ne_of_lt (Nat.lt_of_lt_of_le X_a62.lt g_a64)
      have ne_a60_a64 : a60 ≠ a64 := Nat.ne_of_lt (Nat.lt_of_lt_of_le X_a60.lt g_a64)
      have ne_a63_a64 : a63 ≠ a64 := Nat.ne_of_lt (Nat.lt_of_lt_of_le X_a63.lt g_a64)
      have ne_x59_a64 : x59 ≠ a64 := Nat.ne_of_lt (Nat.lt_of_lt_of_le S_x59.lt g_a64)
      replace E0 := ext_trans E0 E
      replace S_x57 := S_x57.ext E
      replace S_x59 := S_x59.ext E
      replace X_a60 := X_a60.ext E
      replace F_form_a60 := F_form_a60.ext E
      replace F_module_a60 := F_module_a60.ext E
      replace F_name_a60 := F_name_a60.ext E
      replace F_position_a60 := F_position_a60.ext E
      replace X_a62 := X_a62.ext E
      replace F_text_a62 := F_text_a62.ext E
      replace F_position_a62 := F_position_a62.ext E
      replace X_a63 := X_a63.ext E
      have F_type_a64 := D_a64 (Or.inr (hw _ (List.mem_of_getElem? (i := 101) rfl))) (ty := (.object "com/example/ontoscribe/ontoscribe/sdml/Module$Reference")) (by decide)
      replace F_type_a64 : Fld Z h a64 "com/example/ontoscribe/ontoscribe/sdml/Module$Variant" "type" "Lcom/example/ontoscribe/ontoscribe/sdml/Module$Reference;" .null := F_type_a64
      have F_rename_a64 := D_a64 (Or.inr (hw _ (List.mem_of_getElem? (i := 103) rfl))) (ty := (.object "com/example/ontoscribe/ontoscribe/sdml/Module$Identifier")) (by decide)
      replace F_rename_a64 : Fld Z h a64 "com/example/ontoscribe/ontoscribe/sdml/Module$Variant" "rename" "Lcom/example/ontoscribe/ontoscribe/sdml/Module$Identifier;" .null := F_rename_a64
      have F_annotations_a64 := D_a64 (Or.inr (hw _ (List.mem_of_getElem? (i := 105) rfl))) (ty := (.object "java/util/List")) (by decide)
      replace F_annotations_a64 : Fld Z h a64 "com/example/ontoscribe/ontoscribe/sdml/Module$Variant" "annotations" "Ljava/util/List;" .null := F_annotations_a64
      refine g_dup w at_131 (q := 132) rfl rfl ?_
      refine g_aload w at_132 (q := 134) rfl rfl rfl ?_
      refine g_aload w at_134 (q := 136) rfl rfl rfl ?_
      refine g_aload w at_136 (q := 138) rfl rfl rfl ?_
      refine g_special w (con_var1 l Z a0 hw a64 a60 a62 a63 _ w.old X_a64 F_type_a64 F_rename_a64 F_annotations_a64 n_a64) no0 at_138 (q := 141) rfl rfl rfl (hw _ (List.mem_of_getElem? (i := 96) rfl)) (hw _ (List.mem_of_getElem? (i := 97) rfl)) (hw _ (List.mem_of_getElem? (i := 95) rfl)) (hw _ (List.mem_of_getElem? (i := 98) rfl)) (by decide) pd5 rfl rfl (W := 1) (Nat.le_of_eq rfl) (by decide) (by decide) (by decide) (by decide) (fun T h v w gs C q => ?_)
      obtain ⟨rfl, K, G_type, G_rename, G_annotations⟩ := q
      replace E0 := ext_keep E0 K z_a64
      have X0 := X_a64
      replace S_x57 := S_x57.keepO K ne_x57_a64 X0 (hw _ (List.mem_of_getElem? (i := 94) rfl))
      replace S_x59 := S_x59.keepO K ne_x59_a64 X0 (hw _ (List.mem_of_getElem? (i := 94) rfl))
      replace X_a60 := X_a60.keep K
      replace F_form_a60 := F_form_a60.keep K (not1 ne_a60_a64)
      replace F_module_a60 := F_module_a60.keep K (not1 ne_a60_a64)
      replace F_name_a60 := F_name_a60.keep K (not1 ne_a60_a64)
      replace F_position_a60 := F_position_a60.keep K (not1 ne_a60_a64)
      replace X_a62 := X_a62.keep K
      replace F_text_a62 := F_text_a62.keep K (not1 ne_a62_a64)
      replace F_position_a62 := F_position_a62.keep K (not1 ne_a62_a64)
      replace X_a63 := X_a63.keep K
      replace X_a64 := X_a64.keep K
      replace F_type_a64 := G_type
      replace F_rename_a64 := G_rename
      replace F_annotations_a64 := G_annotations
      show Go p e below _ (State.setTop T (mkF m 141 #[.val (.int tc), .val (.int mc), .val (.int rc), .val (.int fl), .val (.int (1 : Int32)), .val (.int (((Jvm.Free.XT.ushr fl (1 : Int32)) &&& (2147483647 : Int32)) % (3 : Int32))), .val (.ref fo0), .val (.ref x57), .val .null, .val (.ref x59), .val (.ref a60), .val (.ref a62), .val (.ref a63), .unset, .unset, .unset] [(.ref a64)]))
      refine g_astore w at_141 (q := 143) rfl rfl (Ls' := #[.val (.int tc), .val (.int mc), .val (.int rc), .val (.int fl), .val (.int (1 : Int32)), .val (.int (((Jvm.Free.XT.ushr fl (1 : Int32)) &&& (2147483647 : Int32)) % (3 : Int32))), .val (.ref fo0), .val (.ref x57), .val .null, .val (.ref x59), .val (.ref a60), .val (.ref a62), .val (.ref a63), .val (.ref a64), .unset, .unset]) rfl ?_
      refine g_aload w at_143 (q := 145) rfl rfl rfl ?_
      refine g_virtualP w (con_shown1 l Z a0 hw a64 a62 x59 _ w.old F_rename_a64 X_a62 F_text_a62) no0 X_a64 at_145 (q := 148) rfl rfl (hw _ (List.mem_of_getElem? (i := 106) rfl)) (hw _ (List.mem_of_getElem? (i := 107) rfl)) (hw _ (List.mem_of_getElem? (i := 109) rfl)) (hw _ (List.mem_of_getElem? (i := 108) rfl)) (hw _ (List.mem_of_getElem? (i := 95) rfl)) (hw _ (List.mem_of_getElem? (i := 110) rfl)) (by decide) (nf (hw _ (List.mem_of_getElem? (i := 109) rfl))) pd2 rfl rfl (W := 0) (Nat.le_of_eq rfl) (by decide) (by decide) (by decide) (by decide) (fun T v w C q => ?_)
      obtain rfl := q
      show Go p e below _ (State.setTop T (mkF m 148 #[.val (.int tc), .val (.int mc), .val (.int rc), .val (.int fl), .val (.int (1 : Int32)), .val (.int (((Jvm.Free.XT.ushr fl (1 : Int32)) &&& (2147483647 : Int32)) % (3 : Int32))), .val (.ref fo0), .val (.ref x57), .val .null, .val (.ref x59), .val (.ref a60), .val (.ref a62), .val (.ref a63), .val (.ref a64), .unset, .unset] [(.ref x59)]))
      refine g_astore w at_148 (q := 150) rfl rfl (Ls' := #[.val (.int tc), .val (.int mc), .val (.int rc), .val (.int fl), .val (.int (1 : Int32)), .val (.int (((Jvm.Free.XT.ushr fl (1 : Int32)) &&& (2147483647 : Int32)) % (3 : Int32))), .val (.ref fo0), .val (.ref x57), .val .null, .val (.ref x59), .val (.ref a60), .val (.ref a62), .val (.ref a63), .val (.ref a64), .val (.ref x59), .unset]) rfl ?_
      refine g_iload w at_150 (q := 152) rfl rfl ?_
      refine g_ifN w at_152 (q := 155) rfl (by decide) ?_
      refine g_aload w at_155 (q := 157) rfl rfl rfl ?_
      refine g_goto w at_157 (by decide) (q := 162) (by decide) ?_
      refine g_astore w at_162 (q := 164) rfl rfl (Ls' := #[.val (.int tc), .val (.int mc), .val (.int rc), .val (.int fl), .val (.int (1 : Int32)), .val (.int (((Jvm.Free.XT.ushr fl (1 : Int32)) &&& (2147483647 : Int32)) % (3 : Int32))), .val (.ref fo0), .val (.ref x57), .val .null, .val (.ref x59), .val (.ref a60), .val (.ref a62), .val (.ref a63), .val (.ref a64), .val (.ref x59), .val (.ref x59)]) rfl ?_
      refine g_aload w at_164 (q := 166) rfl rfl rfl ?_
      refine g_nullN w at_166 (q := 169) rfl ?_
      refine g_aload w at_169 (q := 171) rfl rfl rfl ?_
      refine g_aload w at_171 (q := 173) rfl rfl rfl ?_
      refine g_virtualP w (con_eqs l Z a0 hw x59 _ w.old) no0 S_x59.exa at_173 (q := 176) rfl rfl (hw _ (List.mem_of_getElem? (i := 116) rfl)) (hw _ (List.mem_of_getElem? (i := 117) rfl)) (hw _ (List.mem_of_getElem? (i := 119) rfl)) (hw _ (List.mem_of_getElem? (i := 118) rfl)) (hw _ (List.mem_of_getElem? (i := 11) rfl)) (hw _ (List.mem_of_getElem? (i := 120) rfl)) (by decide) (nf (hw _ (List.mem_of_getElem? (i := 119) rfl))) pd6 rfl rfl (W := 0) (Nat.le_of_eq rfl) (by decide) (by decide) (by decide) (by decide) (fun T v w C q => ?_)
      obtain rfl := q
      show Go p e below _ (State.setTop T (mkF m 176 #[.val (.int tc), .val (.int mc), .val (.int rc), .val (.int fl), .val (.int (1 : Int32)), .val (.int (((Jvm.Free.XT.ushr fl (1 : Int32)) &&& (2147483647 : Int32)) % (3 : Int32))), .val (.ref fo0), .val (.ref x57), .val .null, .val (.ref x59), .val (.ref a60), .val (.ref a62), .val (.ref a63), .val (.ref a64), .val (.ref x59), .val (.ref x59)] [(.int (1 : Int32))]))
      refine g_ifN w at_176 (q := 179) rfl (by decide) ?_
      refine g_iconst w at_179 (q := 180) rfl (v := (1 : Int32)) (by decide) ?_
      refine g_goto w at_180 (by decide) (q := 184) (by decide) ?_
      exact g_retn w at_184 rfl (by simp) rfl (by decide) (by decide) rfl
set_option maxRecDepth 65536 in
set_option maxHeartbeats 40000000 in
theorem comes_1 {Post : Tables → Env → Array Value → State → Outcome → State → Prop} (hpost : ∀ tb e args s v u, (limb_1_1.after args s (.returned v) u = true ∧ limb_1_2.after args s (.returned v) u = true ∧ True) → FrameEnd s (.returned v) u (Jvm.fieldLocs frame_1_writes args s ++ Jvm.arrayLocs frame_1_arrays args s ++ Jvm.staticLocs frame_1_statics s) 40 192 → Post tb e args s (.returned v) u) :
    ArmFor flags0 classFile x code maxLocals ret World_1 tables_1 room_1 Calls_1 rest_1 Pre_1 Post := by
  intro l hfl _ _ p e ha hc hk s m args below hf hA hF happ hP
  obtain ⟨hcalls, hrest, hpre⟩ := hP
  obtain ⟨-, -, -, hnamed, -, -, -, hat⟩ := (Spec.applies_iff hf).mp happ
  obtain ⟨hg, hn⟩ := and_e (Cond.before_iff.mp (show (Jvm.Cond.and given_1 narrow_1).before args s = true from hpre))
  obtain ⟨h1, hr0⟩ := and_e hg
  obtain ⟨w0, w1, w2, w3, rfl⟩ : ∃ w0 w1 w2 w3 : Value, args = #[w0, w1, w2, w3] := by
    have hs : args.size = 4 := by simpa [Cond.value, given_1] using h1
    obtain ⟨L⟩ := args
    match L, hs with
    | [w0, w1, w2, w3], _ => exact ⟨w0, w1, w2, w3, rfl⟩
  obtain ⟨q0, hr1⟩ := and_e hr0
  obtain ⟨i0, ei0⟩ := is_v q0
  obtain rfl : w0 = (.int i0) := Option.some.inj ei0
  obtain ⟨q1, hr2⟩ := and_e hr1
  obtain ⟨i1, ei1⟩ := is_v q1
  obtain rfl : w1 = (.int i1) := Option.some.inj ei1
  obtain ⟨q2, hr3⟩ := and_e hr2
  obtain ⟨i2, ei2⟩ := is_v q2
  obtain rfl : w2 = (.int i2) := Option.some.inj ei2
  obtain ⟨i3, ei3⟩ := is_v hr3
  obtain rfl : w3 = (.int i3) := Option.some.inj ei3
  have hw := fun d (hd : d ∈ tables_1) => atoms_spec (ws := Jvm.Cond.code x code maxLocals ret :: tables_1) hat d (List.mem_cons_of_mem _ hd)
  have hfit : Fit s := fun {y c} hc i hi => by
    obtain ⟨ha, rfl⟩ := Array.getElem?_eq_some_iff.mp hc
    have q := List.all_eq_true.mp ((Array.all_eq_true_iff_forall_mem.mp hF) _ (Array.getElem_mem ha)) i (List.mem_range.mpr hi)
    simpa [Array.getElem?_eq_getElem hi] using q
  obtain ⟨hsets, hown0⟩ := atoms_of _ (rest_1_c_eq ▸ (show rest_1_c.before _ s = true from hrest))
  have hcm : Cpt s := by
    obtain ⟨z, ez⟩ := is_v (Cond.before_iff.mp (hsets _ (List.mem_of_getElem? (i := 1) rfl)))
    refine ⟨z, ?_, Sta.start ez (Or.inl (hsets _ (List.mem_of_getElem? (i := 0) rfl)))⟩
    intro hz; subst hz
    have q := not_v (Cond.before_iff.mp (hsets _ (List.mem_of_getElem? (i := 2) rfl)))
    rw [eq_i ez (Term.int_eval (0)) rfl] at q; cases q
  obtain ⟨nA, nB⟩ := and_e hn
  obtain ⟨nC, nD⟩ := and_e nB
  obtain ⟨fo0, ef0⟩ := exa_v nA
  have SF0 := Sta.start ef0 (Or.inr ⟨(hw _ (List.mem_of_getElem? (i := 2) rfl)), (hw _ (List.mem_of_getElem? (i := 3) rfl))⟩)
  obtain ⟨fo1, ef1⟩ := exa_v nD
  have SF1 := Sta.start ef1 (Or.inr ⟨(hw _ (List.mem_of_getElem? (i := 2) rfl)), (hw _ (List.mem_of_getElem? (i := 129) rfl))⟩)
  obtain ⟨fo2, ef2⟩ := exa_v nC
  have SF2 := Sta.start ef2 (Or.inr ⟨(hw _ (List.mem_of_getElem? (i := 2) rfl)), (hw _ (List.mem_of_getElem? (i := 122) rfl))⟩)
  obtain ⟨dc_, edc⟩ := exa_v (Cond.before_iff.mp (hsets _ (List.mem_of_getElem? (i := 16) rfl)))
  have SD_ := Sta.start edc (Or.inr ⟨(hw _ (List.mem_of_getElem? (i := 71) rfl)), (hsets _ (List.mem_of_getElem? (i := 11) rfl))⟩)
  have hch : CHv s ([] : List (String × Nat)) s.vm s.heap := fun _ q => nomatch q
  obtain ⟨n, o, h1, h2, h3, _, L, rfl, rfl, O, N, C, W, hq⟩ := con_law l s _ hw dc_ fo0 fo1 fo2 i0 i1 i2 i3 s.heap (ext_refl _) hcm SD_ SF0 SF1 SF2 p e ha hc hk s m _ below hf ((Spec.applies_iff_loose hf).mp happ).1 ⟨rfl, State.Warmed39.refl s, rfl, hch, no0⟩ trivial
  refine ⟨n, _, h1, h2, h3, hpost _ _ _ _ _ _ ⟨Cond.after_iff.mpr rfl, Cond.after_iff.mpr (eq_i res_at (Term.int_eval (1)) rfl), trivial⟩ ⟨hq.1, W rfl, (hq.2.2.2.sift fun y hy => Or.inr (N y hy)).mono (by decide) (by decide)⟩⟩
theorem main_1_1 : Claimed_1_1 := comes_1 fun _ _ _ _ _ _ h hF => ⟨h.1, hF⟩
theorem main_1_2 : Claimed_1_2 := comes_1 fun _ _ _ _ _ _ h hF => ⟨h.2.1, hF⟩
end Jvm.Pilot.@@N@@
namespace Jvm.Pilot.@@N@@
open Jvm Jvm.ClassFile Sem Op Lib Jvm.Free Jvm.Stand Jvm.Pilot.@@N@@.Jvm.D
/-! MADE BY PROGRAM (witnessworld.py) out of the Statement's table words and the real class files: 35 classes; the members and pool entries that the words name. The judged class is class 1, her method 1. -/
namespace start1
open Jvm.ClassFile
def u (s : String) : CpInfo := .utf8 (stringToUtf16 s)
/-- a pool by its gaps: so many unusable entries, then the entry; so many at the end -/
def gap : Nat → List CpInfo → List CpInfo
  | 0, r => r
  | n + 1, r => .unusable :: gap n r
def poolList (es : List (Nat × CpInfo)) (last : Nat) : List CpInfo := es.foldr (fun e r => gap e.1 (e.2 :: r)) (gap last [])
def pool (es : List (Nat × CpInfo)) (last : Nat) : Array CpInfo := ⟨poolList es last⟩
def fileOf (pool : Array CpInfo) (this : Nat) (attrs : Array Attribute := #[]) (ms : Array MethodInfo := #[]) (fl : Nat := 33) (sup : Nat := 0) (ifs : Array Nat := #[]) (fds : Array FieldInfo := #[]) : ClassFile where
  minorVersion := 0
  majorVersion := 65
  constantPool := pool
  accessFlags := fl
  thisClass := this
  superClass := sup
  interfaces := ifs
  fields := fds
  methods := ms
  attributes := attrs
def plain (name : String) (sup : Option ClassId) : Class where
  name := name
  kind := .ordinary
  loader := none
  accessFlags := 33
  super := sup
  interfaces := #[]
  cf := none
  fields := #[]
  methods := #[]
  instanceTypes := #[]
  staticTypes := #[]
  resolved := #[]
  callSites := []
  init := .initialized
  statics := none
  mirror := none

def pool0 : Array CpInfo := pool [(5, u "<init>"), (0, u "()V"), (1, .class_ 10), (1, u "java/lang/Object")] 113

def k0c0 : Code := { maxStack := 0, maxLocals := 1, code := object_method_1_code, exceptionTable := #[], attributes := #[] }
def k0m0 : Method := { name := "<init>", desc := "()V", sig := { parameters := [], returnType := none }, accessFlags := 1, code := some k0c0 }
/-- java/lang/Object -/
def k0 : Class := { plain "java/lang/Object" none with
  accessFlags := 33
  interfaces := #[]
  cf := some (fileOf pool0 8 #[] #[{ accessFlags := 1, nameIndex := 5, descriptorIndex := 6, attributes := #[] }] 33 0 #[] #[])
  fields := #[]
  methods := #[k0m0]
  instanceTypes := #[]
  staticTypes := #[]
  resolved := Array.replicate 124 none
  statics := none }

def pool1 : Array CpInfo := pool [(2, .class_ 4), (0, .nameAndType 5 6), (0, u "java/lang/Object"), (0, u "<init>"), (0, u "()V"), (0, .integer 2147483647), (0, .fieldref 9 10), (0, .class_ 11), (0, .nameAndType 12 13), (0, u "com/example/ontoscribe/ontoscribe/sdml/Module$Reference$Form"), (0, u "NAME"), (0, u "Lcom/example/ontoscribe/ontoscribe/sdml/Module$Reference$Form;"), (0, .fieldref 9 15), (0, .nameAndType 16 13), (0, u "QUALIFIED"), (0, .fieldref 9 18), (0, .nameAndType 19 13), (0, u "BUILT_IN"), (0, .methodref 21 22), (0, .class_ 23), (0, .nameAndType 24 25), (0, u "com/example/ontoscribe/ontoscribe/sdml/VariantShownNamePinLaw"), (0, u "two"), (0, u "(I)Ljava/lang/String;"), (0, .class_ 27), (0, u "com/example/ontoscribe/ontoscribe/sdml/Module$Reference"), (0, .methodref 26 29), (0, .nameAndType 5 30), (0, u "(Lcom/example/ontoscribe/ontoscribe/sdml/Module$Reference$Form;Ljava/lang/String;Ljava/lang/String;Lcom/example/ontoscribe/ontoscribe/diagnostics/Position;)V"), (0, .class_ 32), (0, u "com/example/ontoscribe/ontoscribe/sdml/Module$Identifier"), (0, .methodref 31 34), (0, .nameAndType 5 35), (0, u "(Ljava/lang/String;Lcom/example/ontoscribe/ontoscribe/diagnostics/Position;)V"), (0, .class_ 37), (0, u "java/util/ArrayList"), (0, .methodref 36 3), (0, .class_ 40), (0, u "com/example/ontoscribe/ontoscribe/sdml/Module$Variant"), (0, .methodref 39 42), (0, .nameAndType 5 43), (0, u "(Lcom/example/ontoscribe/ontoscribe/sdml/Module$Reference;Lcom/example/ontoscribe/ontoscribe/sdml/Module$Identifier;Ljava/util/List;)V"), (0, .methodref 39 45), (0, .nameAndType 46 47), (0, u "shownName"), (0, u "()Ljava/lang/String;"), (0, .methodref 49 50), (0, .class_ 51), (0, .nameAndType 52 53), (0, u "java/lang/String"), (0, u "equals"), (0, u "(Ljava/lang/Object;)Z"), (0, .methodref 49 55), (0, .nameAndType 5 56), (0, u "([C)V"), (2, u "law"), (0, u "(IIII)Z")] 12

def k1m0 : Method := { name := "<init>", desc := "()V", sig := { parameters := [], returnType := none }, accessFlags := 1, code := none }
def k1c1 : Code := { maxStack := 6, maxLocals := 16, code := code, exceptionTable := #[], attributes := #[] }
def k1m1 : Method := { name := "law", desc := "(IIII)Z", sig := { parameters := [.int, .int, .int, .int], returnType := some .boolean }, accessFlags := 9, code := some k1c1 }
def k1c2 : Code := { maxStack := 4, maxLocals := 2, code := method_3_code, exceptionTable := #[], attributes := #[] }
def k1m2 : Method := { name := "two", desc := "(I)Ljava/lang/String;", sig := { parameters := [.int], returnType := some (.object "java/lang/String") }, accessFlags := 10, code := some k1c2 }
/-- com/example/ontoscribe/ontoscribe/sdml/VariantShownNamePinLaw -/
def k1 : Class := { plain "com/example/ontoscribe/ontoscribe/sdml/VariantShownNamePinLaw" (some 0) with
  accessFlags := 49
  interfaces := #[]
  cf := some (fileOf pool1 21 #[] #[{ accessFlags := 1, nameIndex := 5, descriptorIndex := 6, attributes := #[] }, { accessFlags := 9, nameIndex := 59, descriptorIndex := 60, attributes := #[] }, { accessFlags := 10, nameIndex := 24, descriptorIndex := 25, attributes := #[] }] 49 2 #[] #[])
  fields := #[]
  methods := #[k1m0, k1m1, k1m2]
  instanceTypes := #[]
  staticTypes := #[]
  resolved := Array.replicate 73 none
  statics := none }

def pool2 : Array CpInfo := pool [(1, .class_ 2), (0, u "java/lang/constant/Constable"), (0, .class_ 4), (0, u "java/lang/Object")] 6

/-- java/lang/constant/Constable -/
def k2 : Class := { plain "java/lang/constant/Constable" (some 0) with
  accessFlags := 1537
  interfaces := #[]
  cf := some (fileOf pool2 1 #[] #[] 1537 3 #[] #[])
  fields := #[]
  methods := #[]
  instanceTypes := #[]
  staticTypes := #[]
  resolved := Array.replicate 11 none
  statics := none }

def pool3 : Array CpInfo := pool [(1, .class_ 2), (0, u "java/lang/Comparable"), (0, .class_ 4), (0, u "java/lang/Object")] 7

/-- java/lang/Comparable -/
def k3 : Class := { plain "java/lang/Comparable" (some 0) with
  accessFlags := 1537
  interfaces := #[]
  cf := some (fileOf pool3 1 #[] #[] 1537 3 #[] #[])
  fields := #[]
  methods := #[]
  instanceTypes := #[]
  staticTypes := #[]
  resolved := Array.replicate 12 none
  statics := none }

def pool4 : Array CpInfo := pool [(1, .class_ 2), (0, u "java/io/Serializable"), (0, .class_ 4), (0, u "java/lang/Object")] 2

/-- java/io/Serializable -/
def k4 : Class := { plain "java/io/Serializable" (some 0) with
  accessFlags := 1537
  interfaces := #[]
  cf := some (fileOf pool4 1 #[] #[] 1537 3 #[] #[])
  fields := #[]
  methods := #[]
  instanceTypes := #[]
  staticTypes := #[]
  resolved := Array.replicate 7 none
  statics := none }

def pool5 : Array CpInfo := pool [(2, .class_ 4), (1, u "java/lang/Enum"), (0, u "name"), (0, u "Ljava/lang/String;"), (2, u "ordinal"), (0, u "I"), (1, .class_ 14), (1, u "java/lang/Object"), (4, u "hash"), (86, .class_ 108), (1, u "java/lang/Enum$EnumDesc"), (2, .class_ 112), (0, u "java/lang/constant/Constable"), (0, .class_ 114), (0, u "java/lang/Comparable"), (0, .class_ 116), (0, u "java/io/Serializable")] 87

/-- java/lang/Enum -/
def k5 : Class := { plain "java/lang/Enum" (some 0) with
  accessFlags := 1057
  interfaces := #[2, 3, 4]
  cf := some (fileOf pool5 2 #[.nestMembers #[106]] #[] 1057 12 #[111, 113, 115] #[{ accessFlags := 18, nameIndex := 5, descriptorIndex := 6, attributes := #[] }, { accessFlags := 18, nameIndex := 9, descriptorIndex := 10, attributes := #[] }, { accessFlags := 2, nameIndex := 19, descriptorIndex := 10, attributes := #[] }])
  fields := #[{ name := "name", type := (.object "java/lang/String"), accessFlags := 18, slot := 0, constantValue := 0 }, { name := "ordinal", type := .int, accessFlags := 18, slot := 1, constantValue := 0 }, { name := "hash", type := .int, accessFlags := 2, slot := 2, constantValue := 0 }]
  methods := #[]
  instanceTypes := #[(.object "java/lang/String"), .int, .int]
  staticTypes := #[]
  resolved := Array.replicate 204 none
  statics := none }

def pool6 : Array CpInfo := pool [(1, .class_ 2), (0, u "com/example/ontoscribe/ontoscribe/sdml/Module$Reference$Form"), (2, u "NAME"), (0, u "Lcom/example/ontoscribe/ontoscribe/sdml/Module$Reference$Form;"), (2, u "QUALIFIED"), (2, u "BUILT_IN"), (2, u "$VALUES"), (0, u "[Lcom/example/ontoscribe/ontoscribe/sdml/Module$Reference$Form;"), (6, .class_ 25), (1, u "java/lang/Enum"), (26, .class_ 53), (0, u "com/example/ontoscribe/ontoscribe/sdml/Module")] 5

/-- com/example/ontoscribe/ontoscribe/sdml/Module$Reference$Form -/
def k6 : Class := { plain "com/example/ontoscribe/ontoscribe/sdml/Module$Reference$Form" (some 5) with
  accessFlags := 16432
  interfaces := #[]
  cf := some (fileOf pool6 1 #[.nestHost 52] #[] 16432 23 #[] #[{ accessFlags := 16409, nameIndex := 5, descriptorIndex := 6, attributes := #[] }, { accessFlags := 16409, nameIndex := 9, descriptorIndex := 6, attributes := #[] }, { accessFlags := 16409, nameIndex := 12, descriptorIndex := 6, attributes := #[] }, { accessFlags := 4122, nameIndex := 15, descriptorIndex := 16, attributes := #[] }])
  fields := #[{ name := "NAME", type := (.object "com/example/ontoscribe/ontoscribe/sdml/Module$Reference$Form"), accessFlags := 16409, slot := 0, constantValue := 0 }, { name := "QUALIFIED", type := (.object "com/example/ontoscribe/ontoscribe/sdml/Module$Reference$Form"), accessFlags := 16409, slot := 1, constantValue := 0 }, { name := "BUILT_IN", type := (.object "com/example/ontoscribe/ontoscribe/sdml/Module$Reference$Form"), accessFlags := 16409, slot := 2, constantValue := 0 }, { name := "$VALUES", type := (.array (.object "com/example/ontoscribe/ontoscribe/sdml/Module$Reference$Form")), accessFlags := 4122, slot := 3, constantValue := 0 }]
  methods := #[]
  instanceTypes := #[(.object "java/lang/String"), .int, .int]
  staticTypes := #[(.object "com/example/ontoscribe/ontoscribe/sdml/Module$Reference$Form"), (.object "com/example/ontoscribe/ontoscribe/sdml/Module$Reference$Form"), (.object "com/example/ontoscribe/ontoscribe/sdml/Module$Reference$Form"), (.array (.object "com/example/ontoscribe/ontoscribe/sdml/Module$Reference$Form"))]
  resolved := Array.replicate 59 none
  statics := some 0 }

def pool7 : Array CpInfo := pool [(2, .class_ 4), (1, u "java/lang/CharSequence"), (42, .class_ 48), (0, u "java/lang/CharSequence$1CodePointIterator"), (10, .class_ 60), (0, u "java/lang/CharSequence$1CharIterator"), (5, .class_ 67), (0, u "java/lang/Object")] 63

/-- java/lang/CharSequence -/
def k7 : Class := { plain "java/lang/CharSequence" (some 0) with
  accessFlags := 1537
  interfaces := #[]
  cf := some (fileOf pool7 2 #[.nestMembers #[47, 59]] #[] 1537 66 #[] #[])
  fields := #[]
  methods := #[]
  instanceTypes := #[]
  staticTypes := #[]
  resolved := Array.replicate 131 none
  statics := none }

def pool8 : Array CpInfo := pool [(1, .class_ 2), (0, u "java/lang/constant/ConstantDesc"), (0, .class_ 4), (0, u "java/lang/Object")] 32

/-- java/lang/constant/ConstantDesc -/
def k8 : Class := { plain "java/lang/constant/ConstantDesc" (some 0) with
  accessFlags := 1537
  interfaces := #[]
  cf := some (fileOf pool8 1 #[] #[] 1537 3 #[] #[])
  fields := #[]
  methods := #[]
  instanceTypes := #[]
  staticTypes := #[]
  resolved := Array.replicate 37 none
  statics := none }

def pool9 : Array CpInfo := pool [(1, .methodref 2 3), (0, .class_ 4), (0, .nameAndType 5 6), (0, u "java/lang/Object"), (0, u "<init>"), (0, u "()V"), (2, .fieldref 10 11), (0, .class_ 12), (0, .nameAndType 13 14), (0, u "java/lang/String"), (0, u "value"), (0, u "[B"), (0, .fieldref 10 16), (0, .nameAndType 17 18), (0, u "coder"), (0, u "B"), (2, u "hash"), (0, u "I"), (2, u "hashIsZero"), (0, u "Z"), (0, .methodref 10 28), (0, .nameAndType 5 29), (0, u "([CIILjava/lang/Void;)V"), (8, .fieldref 10 39), (0, .nameAndType 40 26), (0, u "COMPACT_STRINGS"), (1, .class_ 44), (1, u "java/lang/StringUTF16"), (0, u "compress"), (1, .methodref 42 48), (0, .nameAndType 49 50), (0, u "coderFromArrayLen"), (0, u "([BI)B"), (126, .methodref 42 178), (0, .nameAndType 45 179), (0, u "([CII)[B"), (363, u "equals"), (29, u "(Ljava/lang/Object;)Z"), (1, .class_ 576), (0, u "java/lang/CharSequence"), (22, u "CASE_INSENSITIVE_ORDER"), (0, u "Ljava/util/Comparator;"), (409, u "([C)V"), (90, u "serialPersistentFields"), (0, u "[Ljava/io/ObjectStreamField;"), (0, .class_ 1104), (0, u "java/lang/String$CaseInsensitiveComparator"), (1, .class_ 1107), (0, u "java/io/Serializable"), (0, .class_ 1109), (0, u "java/lang/Comparable"), (0, .class_ 1111), (0, u "java/lang/constant/Constable"), (0, .class_ 1113), (0, u "java/lang/constant/ConstantDesc"), (2, u "serialVersionUID"), (0, u "J"), (3, u "REPL"), (0, u "C"), (2, u "LATIN1"), (1, u "UTF16")] 323

def k9m0 : Method := { name := "<init>", desc := "()V", sig := { parameters := [], returnType := none }, accessFlags := 1, code := none }
def k9c1 : Code := { maxStack := 5, maxLocals := 2, code := jdk_42_method_3_code, exceptionTable := #[], attributes := #[] }
def k9m1 : Method := { name := "<init>", desc := "([C)V", sig := { parameters := [(.array .char)], returnType := none }, accessFlags := 1, code := some k9c1 }
def k9c2 : Code := { maxStack := 2, maxLocals := 3, code := jdk_42_method_66_code, exceptionTable := #[], attributes := #[] }
def k9m2 : Method := { name := "equals", desc := "(Ljava/lang/Object;)Z", sig := { parameters := [(.object "java/lang/Object")], returnType := some .boolean }, accessFlags := 1, code := some k9c2 }
def k9c3 : Code := { maxStack := 4, maxLocals := 6, code := jdk_42_method_149_code, exceptionTable := #[], attributes := #[] }
def k9m3 : Method := { name := "<init>", desc := "([CIILjava/lang/Void;)V", sig := { parameters := [(.array .char), .int, .int, (.object "java/lang/Void")], returnType := none }, accessFlags := 2, code := some k9c3 }
/-- java/lang/String -/
def k9 : Class := { plain "java/lang/String" (some 0) with
  accessFlags := 49
  interfaces := #[4, 3, 7, 2, 8]
  cf := some (fileOf pool9 10 #[.nestMembers #[1103]] #[{ accessFlags := 1, nameIndex := 5, descriptorIndex := 6, attributes := #[] }, { accessFlags := 1, nameIndex := 5, descriptorIndex := 1010, attributes := #[] }, { accessFlags := 1, nameIndex := 543, descriptorIndex := 573, attributes := #[] }, { accessFlags := 2, nameIndex := 5, descriptorIndex := 29, attributes := #[] }] 49 2 #[1106, 1108, 575, 1110, 1112] #[{ accessFlags := 18, nameIndex := 13, descriptorIndex := 14, attributes := #[] }, { accessFlags := 18, nameIndex := 17, descriptorIndex := 18, attributes := #[] }, { accessFlags := 2, nameIndex := 21, descriptorIndex := 22, attributes := #[] }, { accessFlags := 2, nameIndex := 25, descriptorIndex := 26, attributes := #[] }, { accessFlags := 26, nameIndex := 1116, descriptorIndex := 1117, attributes := #[] }, { accessFlags := 24, nameIndex := 40, descriptorIndex := 26, attributes := #[] }, { accessFlags := 26, nameIndex := 1101, descriptorIndex := 1102, attributes := #[] }, { accessFlags := 26, nameIndex := 1121, descriptorIndex := 1122, attributes := #[] }, { accessFlags := 25, nameIndex := 599, descriptorIndex := 600, attributes := #[] }, { accessFlags := 24, nameIndex := 1125, descriptorIndex := 18, attributes := #[] }, { accessFlags := 24, nameIndex := 1127, descriptorIndex := 18, attributes := #[] }])
  fields := #[{ name := "value", type := (.array .byte), accessFlags := 18, slot := 0, constantValue := 0 }, { name := "coder", type := .byte, accessFlags := 18, slot := 1, constantValue := 0 }, { name := "hash", type := .int, accessFlags := 2, slot := 2, constantValue := 0 }, { name := "hashIsZero", type := .boolean, accessFlags := 2, slot := 3, constantValue := 0 }, { name := "serialVersionUID", type := .long, accessFlags := 26, slot := 0, constantValue := 0 }, { name := "COMPACT_STRINGS", type := .boolean, accessFlags := 24, slot := 1, constantValue := 0 }, { name := "serialPersistentFields", type := (.array (.object "java/io/ObjectStreamField")), accessFlags := 26, slot := 2, constantValue := 0 }, { name := "REPL", type := .char, accessFlags := 26, slot := 3, constantValue := 0 }, { name := "CASE_INSENSITIVE_ORDER", type := (.object "java/util/Comparator"), accessFlags := 25, slot := 4, constantValue := 0 }, { name := "LATIN1", type := .byte, accessFlags := 24, slot := 5, constantValue := 0 }, { name := "UTF16", type := .byte, accessFlags := 24, slot := 6, constantValue := 0 }]
  methods := #[k9m0, k9m1, k9m2, k9m3]
  instanceTypes := #[(.array .byte), .byte, .int, .boolean]
  staticTypes := #[.long, .boolean, (.array (.object "java/io/ObjectStreamField")), .char, (.object "java/util/Comparator"), .byte, .byte]
  resolved := Array.replicate 1451 none
  statics := some 1 }

def pool10 : Array CpInfo := pool [(6, .class_ 8), (1, u "java/lang/Object"), (0, u "<init>"), (0, u "()V"), (1, .class_ 14), (1, u "java/lang/StringUTF16"), (31, u "$assertionsDisabled"), (0, u "Z"), (13, u "HI_BYTE_SHIFT"), (0, u "I"), (2, u "LO_BYTE_SHIFT"), (49, .methodref 12 116), (0, .nameAndType 117 118), (0, u "compress"), (0, u "([CI[BII)I"), (3, u "([CII)[B"), (138, u "coderFromArrayLen"), (0, u "([BI)B"), (106, .class_ 371), (1, u "java/lang/StringUTF16$LinesSpliterator"), (58, u "MAX_LENGTH"), (196, .class_ 628), (0, u "java/lang/StringUTF16$CodePointsSpliterator"), (0, .class_ 630), (0, u "java/lang/StringUTF16$CharsSpliterator")] 4

def k10m0 : Method := { name := "<init>", desc := "()V", sig := { parameters := [], returnType := none }, accessFlags := 0, code := none }
def k10c1 : Code := { maxStack := 2, maxLocals := 2, code := jdk_52_method_15_code, exceptionTable := #[], attributes := #[] }
def k10m1 : Method := { name := "coderFromArrayLen", desc := "([BI)B", sig := { parameters := [(.array .byte), .int], returnType := some .byte }, accessFlags := 8, code := some k10c1 }
def k10c2 : Code := { maxStack := 5, maxLocals := 6, code := jdk_52_method_16_code, exceptionTable := #[], attributes := #[] }
def k10m2 : Method := { name := "compress", desc := "([CII)[B", sig := { parameters := [(.array .char), .int, .int], returnType := some (.array .byte) }, accessFlags := 9, code := some k10c2 }
def k10c3 : Code := { maxStack := 3, maxLocals := 7, code := jdk_52_method_21_code, exceptionTable := #[], attributes := #[] }
def k10m3 : Method := { name := "compress", desc := "([CI[BII)I", sig := { parameters := [(.array .char), .int, (.array .byte), .int, .int], returnType := some .int }, accessFlags := 9, code := some k10c3 }
/-- java/lang/StringUTF16 -/
def k10 : Class := { plain "java/lang/StringUTF16" (some 0) with
  accessFlags := 48
  interfaces := #[]
  cf := some (fileOf pool10 12 #[.nestMembers #[627, 629, 369]] #[{ accessFlags := 0, nameIndex := 9, descriptorIndex := 10, attributes := #[] }, { accessFlags := 8, nameIndex := 261, descriptorIndex := 262, attributes := #[] }, { accessFlags := 9, nameIndex := 117, descriptorIndex := 122, attributes := #[] }, { accessFlags := 9, nameIndex := 117, descriptorIndex := 118, attributes := #[] }] 48 6 #[] #[{ accessFlags := 26, nameIndex := 61, descriptorIndex := 62, attributes := #[] }, { accessFlags := 26, nameIndex := 65, descriptorIndex := 62, attributes := #[] }, { accessFlags := 24, nameIndex := 430, descriptorIndex := 62, attributes := #[] }, { accessFlags := 4120, nameIndex := 46, descriptorIndex := 47, attributes := #[] }])
  fields := #[{ name := "HI_BYTE_SHIFT", type := .int, accessFlags := 26, slot := 0, constantValue := 0 }, { name := "LO_BYTE_SHIFT", type := .int, accessFlags := 26, slot := 1, constantValue := 0 }, { name := "MAX_LENGTH", type := .int, accessFlags := 24, slot := 2, constantValue := 0 }, { name := "$assertionsDisabled", type := .boolean, accessFlags := 4120, slot := 3, constantValue := 0 }]
  methods := #[k10m0, k10m1, k10m2, k10m3]
  instanceTypes := #[]
  staticTypes := #[.int, .int, .int, .boolean]
  resolved := Array.replicate 635 none
  statics := none }

def pool11 : Array CpInfo := pool [(1, .methodref 2 3), (0, .class_ 4), (0, .nameAndType 5 6), (0, u "java/lang/Object"), (0, u "<init>"), (0, u "()V"), (0, .class_ 8), (0, u "java/lang/Record")] 13

def k11c0 : Code := { maxStack := 1, maxLocals := 1, code := jdk_30_method_1_code, exceptionTable := #[], attributes := #[] }
def k11m0 : Method := { name := "<init>", desc := "()V", sig := { parameters := [], returnType := none }, accessFlags := 4, code := some k11c0 }
/-- java/lang/Record -/
def k11 : Class := { plain "java/lang/Record" (some 0) with
  accessFlags := 1057
  interfaces := #[]
  cf := some (fileOf pool11 7 #[] #[{ accessFlags := 4, nameIndex := 5, descriptorIndex := 6, attributes := #[] }] 1057 2 #[] #[])
  fields := #[]
  methods := #[k11m0]
  instanceTypes := #[]
  staticTypes := #[]
  resolved := Array.replicate 22 none
  statics := none }

def pool12 : Array CpInfo := pool [(1, .class_ 2), (0, u "com/example/ontoscribe/ontoscribe/sdml/Module$Value"), (0, .class_ 4), (0, u "java/lang/Object"), (5, .class_ 11), (0, u "com/example/ontoscribe/ontoscribe/sdml/Module")] 12

/-- com/example/ontoscribe/ontoscribe/sdml/Module$Value -/
def k12 : Class := { plain "com/example/ontoscribe/ontoscribe/sdml/Module$Value" (some 0) with
  accessFlags := 1536
  interfaces := #[]
  cf := some (fileOf pool12 1 #[.nestHost 10] #[] 1536 3 #[] #[])
  fields := #[]
  methods := #[]
  instanceTypes := #[]
  staticTypes := #[]
  resolved := Array.replicate 24 none
  statics := none }

def pool13 : Array CpInfo := pool [(1, .methodref 2 3), (0, .class_ 4), (0, .nameAndType 5 6), (0, u "java/lang/Record"), (0, u "<init>"), (0, u "()V"), (0, .fieldref 8 9), (0, .class_ 10), (0, .nameAndType 11 12), (0, u "com/example/ontoscribe/ontoscribe/sdml/Module$Reference"), (0, u "form"), (0, u "Lcom/example/ontoscribe/ontoscribe/sdml/Module$Reference$Form;"), (0, .fieldref 8 14), (0, .nameAndType 15 16), (0, u "module"), (0, u "Ljava/lang/String;"), (0, .fieldref 8 18), (0, .nameAndType 19 16), (0, u "name"), (0, .fieldref 8 21), (0, .nameAndType 22 23), (0, u "position"), (0, u "Lcom/example/ontoscribe/ontoscribe/diagnostics/Position;"), (21, .class_ 46), (0, u "com/example/ontoscribe/ontoscribe/sdml/Module$Value"), (0, u "(Lcom/example/ontoscribe/ontoscribe/sdml/Module$Reference$Form;Ljava/lang/String;Ljava/lang/String;Lcom/example/ontoscribe/ontoscribe/diagnostics/Position;)V"), (4, u "()Ljava/lang/String;"), (10, .class_ 64), (0, u "com/example/ontoscribe/ontoscribe/sdml/Module")] 32

def k13c0 : Code := { maxStack := 2, maxLocals := 5, code := prog_31_method_1_code, exceptionTable := #[], attributes := #[] }
def k13m0 : Method := { name := "<init>", desc := "(Lcom/example/ontoscribe/ontoscribe/sdml/Module$Reference$Form;Ljava/lang/String;Ljava/lang/String;Lcom/example/ontoscribe/ontoscribe/diagnostics/Position;)V", sig := { parameters := [(.object "com/example/ontoscribe/ontoscribe/sdml/Module$Reference$Form"), (.object "java/lang/String"), (.object "java/lang/String"), (.object "com/example/ontoscribe/ontoscribe/diagnostics/Position")], returnType := none }, accessFlags := 0, code := some k13c0 }
def k13c1 : Code := { maxStack := 1, maxLocals := 1, code := prog_31_method_8_code, exceptionTable := #[], attributes := #[] }
def k13m1 : Method := { name := "name", desc := "()Ljava/lang/String;", sig := { parameters := [], returnType := some (.object "java/lang/String") }, accessFlags := 1, code := some k13c1 }
/-- com/example/ontoscribe/ontoscribe/sdml/Module$Reference -/
def k13 : Class := { plain "com/example/ontoscribe/ontoscribe/sdml/Module$Reference" (some 11) with
  accessFlags := 48
  interfaces := #[12]
  cf := some (fileOf pool13 8 #[.nestHost 63] #[{ accessFlags := 0, nameIndex := 5, descriptorIndex := 47, attributes := #[] }, { accessFlags := 1, nameIndex := 19, descriptorIndex := 52, attributes := #[] }] 48 2 #[45] #[{ accessFlags := 18, nameIndex := 11, descriptorIndex := 12, attributes := #[] }, { accessFlags := 18, nameIndex := 15, descriptorIndex := 16, attributes := #[] }, { accessFlags := 18, nameIndex := 19, descriptorIndex := 16, attributes := #[] }, { accessFlags := 18, nameIndex := 22, descriptorIndex := 23, attributes := #[] }])
  fields := #[{ name := "form", type := (.object "com/example/ontoscribe/ontoscribe/sdml/Module$Reference$Form"), accessFlags := 18, slot := 0, constantValue := 0 }, { name := "module", type := (.object "java/lang/String"), accessFlags := 18, slot := 1, constantValue := 0 }, { name := "name", type := (.object "java/lang/String"), accessFlags := 18, slot := 2, constantValue := 0 }, { name := "position", type := (.object "com/example/ontoscribe/ontoscribe/diagnostics/Position"), accessFlags := 18, slot := 3, constantValue := 0 }]
  methods := #[k13m0, k13m1]
  instanceTypes := #[(.object "com/example/ontoscribe/ontoscribe/sdml/Module$Reference$Form"), (.object "java/lang/String"), (.object "java/lang/String"), (.object "com/example/ontoscribe/ontoscribe/diagnostics/Position")]
  staticTypes := #[]
  resolved := Array.replicate 97 none
  statics := none }

def pool14 : Array CpInfo := pool [(1, .methodref 2 3), (0, .class_ 4), (0, .nameAndType 5 6), (0, u "java/lang/Record"), (0, u "<init>"), (0, u "()V"), (0, .fieldref 8 9), (0, .class_ 10), (0, .nameAndType 11 12), (0, u "com/example/ontoscribe/ontoscribe/sdml/Module$Identifier"), (0, u "text"), (0, u "Ljava/lang/String;"), (0, .fieldref 8 14), (0, .nameAndType 15 16), (0, u "position"), (0, u "Lcom/example/ontoscribe/ontoscribe/diagnostics/Position;"), (12, u "(Ljava/lang/String;Lcom/example/ontoscribe/ontoscribe/diagnostics/Position;)V"), (3, u "()Ljava/lang/String;"), (6, .class_ 41), (0, u "com/example/ontoscribe/ontoscribe/sdml/Module")] 20

def k14c0 : Code := { maxStack := 2, maxLocals := 3, code := prog_25_method_1_code, exceptionTable := #[], attributes := #[] }
def k14m0 : Method := { name := "<init>", desc := "(Ljava/lang/String;Lcom/example/ontoscribe/ontoscribe/diagnostics/Position;)V", sig := { parameters := [(.object "java/lang/String"), (.object "com/example/ontoscribe/ontoscribe/diagnostics/Position")], returnType := none }, accessFlags := 0, code := some k14c0 }
def k14c1 : Code := { maxStack := 1, maxLocals := 1, code := prog_25_method_5_code, exceptionTable := #[], attributes := #[] }
def k14m1 : Method := { name := "text", desc := "()Ljava/lang/String;", sig := { parameters := [], returnType := some (.object "java/lang/String") }, accessFlags := 1, code := some k14c1 }
/-- com/example/ontoscribe/ontoscribe/sdml/Module$Identifier -/
def k14 : Class := { plain "com/example/ontoscribe/ontoscribe/sdml/Module$Identifier" (some 11) with
  accessFlags := 48
  interfaces := #[]
  cf := some (fileOf pool14 8 #[.nestHost 40] #[{ accessFlags := 0, nameIndex := 5, descriptorIndex := 29, attributes := #[] }, { accessFlags := 1, nameIndex := 11, descriptorIndex := 33, attributes := #[] }] 48 2 #[] #[{ accessFlags := 18, nameIndex := 11, descriptorIndex := 12, attributes := #[] }, { accessFlags := 18, nameIndex := 15, descriptorIndex := 16, attributes := #[] }])
  fields := #[{ name := "text", type := (.object "java/lang/String"), accessFlags := 18, slot := 0, constantValue := 0 }, { name := "position", type := (.object "com/example/ontoscribe/ontoscribe/diagnostics/Position"), accessFlags := 18, slot := 1, constantValue := 0 }]
  methods := #[k14m0, k14m1]
  instanceTypes := #[(.object "java/lang/String"), (.object "com/example/ontoscribe/ontoscribe/diagnostics/Position")]
  staticTypes := #[]
  resolved := Array.replicate 62 none
  statics := none }

def pool15 : Array CpInfo := pool [(8, .class_ 10), (1, u "java/lang/Iterable"), (24, .class_ 36), (0, u "java/lang/Object")] 25

/-- java/lang/Iterable -/
def k15 : Class := { plain "java/lang/Iterable" (some 0) with
  accessFlags := 1537
  interfaces := #[]
  cf := some (fileOf pool15 8 #[] #[] 1537 35 #[] #[])
  fields := #[]
  methods := #[]
  instanceTypes := #[]
  staticTypes := #[]
  resolved := Array.replicate 62 none
  statics := none }

def pool16 : Array CpInfo := pool [(10, .class_ 12), (1, u "java/util/Collection"), (47, .class_ 61), (0, u "java/lang/Object"), (0, .class_ 63), (0, u "java/lang/Iterable")] 51

/-- java/util/Collection -/
def k16 : Class := { plain "java/util/Collection" (some 0) with
  accessFlags := 1537
  interfaces := #[15]
  cf := some (fileOf pool16 10 #[] #[] 1537 60 #[62] #[])
  fields := #[]
  methods := #[]
  instanceTypes := #[]
  staticTypes := #[]
  resolved := Array.replicate 115 none
  statics := none }

def pool17 : Array CpInfo := pool [(1, .methodref 2 3), (0, .class_ 4), (0, .nameAndType 5 6), (0, u "java/lang/Object"), (0, u "<init>"), (0, u "()V"), (1, .class_ 10), (1, u "java/util/AbstractCollection"), (66, .class_ 78), (0, u "java/util/Collection")] 81

def k17c0 : Code := { maxStack := 1, maxLocals := 1, code := jdk_22_method_1_code, exceptionTable := #[], attributes := #[] }
def k17m0 : Method := { name := "<init>", desc := "()V", sig := { parameters := [], returnType := none }, accessFlags := 4, code := some k17c0 }
/-- java/util/AbstractCollection -/
def k17 : Class := { plain "java/util/AbstractCollection" (some 0) with
  accessFlags := 1057
  interfaces := #[16]
  cf := some (fileOf pool17 8 #[] #[{ accessFlags := 4, nameIndex := 5, descriptorIndex := 6, attributes := #[] }] 1057 2 #[77] #[])
  fields := #[]
  methods := #[k17m0]
  instanceTypes := #[]
  staticTypes := #[]
  resolved := Array.replicate 160 none
  statics := none }

def pool18 : Array CpInfo := pool [(8, .class_ 10), (1, u "java/util/SequencedCollection"), (15, .class_ 27), (0, u "java/lang/Object"), (0, .class_ 29), (0, u "java/util/Collection")] 27

/-- java/util/SequencedCollection -/
def k18 : Class := { plain "java/util/SequencedCollection" (some 0) with
  accessFlags := 1537
  interfaces := #[16]
  cf := some (fileOf pool18 8 #[] #[] 1537 26 #[28] #[])
  fields := #[]
  methods := #[]
  instanceTypes := #[]
  staticTypes := #[]
  resolved := Array.replicate 57 none
  statics := none }

def pool19 : Array CpInfo := pool [(8, .class_ 10), (1, u "java/util/List"), (92, .class_ 104), (0, u "java/lang/Object"), (15, .class_ 121), (0, u "java/util/SequencedCollection")] 129

/-- java/util/List -/
def k19 : Class := { plain "java/util/List" (some 0) with
  accessFlags := 1537
  interfaces := #[18]
  cf := some (fileOf pool19 8 #[] #[] 1537 103 #[120] #[])
  fields := #[]
  methods := #[]
  instanceTypes := #[]
  staticTypes := #[]
  resolved := Array.replicate 251 none
  statics := none }

def pool20 : Array CpInfo := pool [(1, .methodref 2 3), (0, .class_ 4), (0, .nameAndType 5 6), (0, u "java/util/AbstractCollection"), (0, u "<init>"), (0, u "()V"), (0, .fieldref 8 9), (0, .class_ 10), (0, .nameAndType 11 12), (0, u "java/util/AbstractList"), (0, u "modCount"), (0, u "I"), (64, .class_ 78), (0, u "java/util/AbstractList$Itr"), (3, .class_ 83), (0, u "java/util/AbstractList$ListItr"), (9, .class_ 94), (0, u "java/util/AbstractList$RandomAccessSubList"), (3, .class_ 99), (0, u "java/util/AbstractList$SubList"), (33, .class_ 134), (0, u "java/util/List"), (73, .class_ 209), (0, u "java/util/AbstractList$SubList$1"), (0, .class_ 211), (0, u "java/util/AbstractList$RandomAccessSpliterator")] 6

def k20c0 : Code := { maxStack := 2, maxLocals := 1, code := jdk_39_method_1_code, exceptionTable := #[], attributes := #[] }
def k20m0 : Method := { name := "<init>", desc := "()V", sig := { parameters := [], returnType := none }, accessFlags := 4, code := some k20c0 }
/-- java/util/AbstractList -/
def k20 : Class := { plain "java/util/AbstractList" (some 17) with
  accessFlags := 1057
  interfaces := #[19]
  cf := some (fileOf pool20 8 #[.nestMembers #[93, 98, 208, 210, 82, 77]] #[{ accessFlags := 4, nameIndex := 5, descriptorIndex := 6, attributes := #[] }] 1057 2 #[133] #[{ accessFlags := 132, nameIndex := 11, descriptorIndex := 12, attributes := #[] }])
  fields := #[{ name := "modCount", type := .int, accessFlags := 132, slot := 0, constantValue := 0 }]
  methods := #[k20m0]
  instanceTypes := #[.int]
  staticTypes := #[]
  resolved := Array.replicate 218 none
  statics := none }

def pool21 : Array CpInfo := pool [(1, .class_ 2), (0, u "java/util/RandomAccess"), (0, .class_ 4), (0, u "java/lang/Object")] 2

/-- java/util/RandomAccess -/
def k21 : Class := { plain "java/util/RandomAccess" (some 0) with
  accessFlags := 1537
  interfaces := #[]
  cf := some (fileOf pool21 1 #[] #[] 1537 3 #[] #[])
  fields := #[]
  methods := #[]
  instanceTypes := #[]
  staticTypes := #[]
  resolved := Array.replicate 7 none
  statics := none }

def pool22 : Array CpInfo := pool [(1, .class_ 2), (0, u "java/lang/Cloneable"), (0, .class_ 4), (0, u "java/lang/Object")] 2

/-- java/lang/Cloneable -/
def k22 : Class := { plain "java/lang/Cloneable" (some 0) with
  accessFlags := 1537
  interfaces := #[]
  cf := some (fileOf pool22 1 #[] #[] 1537 3 #[] #[])
  fields := #[]
  methods := #[]
  instanceTypes := #[]
  staticTypes := #[]
  resolved := Array.replicate 7 none
  statics := none }

def pool23 : Array CpInfo := pool [(1, .methodref 2 3), (0, .class_ 4), (0, .nameAndType 5 6), (0, u "java/util/AbstractList"), (0, u "<init>"), (0, u "()V"), (2, .fieldref 10 11), (0, .class_ 12), (0, .nameAndType 13 14), (0, u "java/util/ArrayList"), (0, u "elementData"), (0, u "[Ljava/lang/Object;"), (2, u "EMPTY_ELEMENTDATA"), (21, .fieldref 10 40), (0, .nameAndType 41 14), (0, u "DEFAULTCAPACITY_EMPTY_ELEMENTDATA"), (8, u "size"), (0, u "I"), (96, .class_ 149), (0, u "java/util/List"), (112, .class_ 263), (0, u "java/util/ArrayList$ListItr"), (3, .class_ 268), (0, u "java/util/ArrayList$Itr"), (7, .class_ 277), (0, u "java/util/ArrayList$SubList"), (12, .class_ 291), (0, u "java/util/ArrayList$ArrayListSpliterator"), (37, .class_ 330), (0, u "java/util/RandomAccess"), (0, .class_ 332), (0, u "java/lang/Cloneable"), (0, .class_ 334), (0, u "java/io/Serializable"), (0, u "serialVersionUID"), (0, u "J"), (3, u "DEFAULT_CAPACITY"), (159, .class_ 501), (0, u "java/util/ArrayList$SubList$2"), (0, .class_ 503), (0, u "java/util/ArrayList$SubList$1")] 5

def k23c0 : Code := { maxStack := 2, maxLocals := 1, code := jdk_38_method_2_code, exceptionTable := #[], attributes := #[] }
def k23m0 : Method := { name := "<init>", desc := "()V", sig := { parameters := [], returnType := none }, accessFlags := 1, code := some k23c0 }
/-- java/util/ArrayList -/
def k23 : Class := { plain "java/util/ArrayList" (some 20) with
  accessFlags := 33
  interfaces := #[19, 21, 22, 4]
  cf := some (fileOf pool23 10 #[.nestMembers #[290, 276, 500, 502, 262, 267]] #[{ accessFlags := 1, nameIndex := 5, descriptorIndex := 6, attributes := #[] }] 33 2 #[148, 329, 331, 333] #[{ accessFlags := 26, nameIndex := 335, descriptorIndex := 336, attributes := #[] }, { accessFlags := 26, nameIndex := 340, descriptorIndex := 51, attributes := #[] }, { accessFlags := 26, nameIndex := 17, descriptorIndex := 14, attributes := #[] }, { accessFlags := 26, nameIndex := 41, descriptorIndex := 14, attributes := #[] }, { accessFlags := 128, nameIndex := 13, descriptorIndex := 14, attributes := #[] }, { accessFlags := 2, nameIndex := 50, descriptorIndex := 51, attributes := #[] }])
  fields := #[{ name := "serialVersionUID", type := .long, accessFlags := 26, slot := 0, constantValue := 0 }, { name := "DEFAULT_CAPACITY", type := .int, accessFlags := 26, slot := 1, constantValue := 0 }, { name := "EMPTY_ELEMENTDATA", type := (.array (.object "java/lang/Object")), accessFlags := 26, slot := 2, constantValue := 0 }, { name := "DEFAULTCAPACITY_EMPTY_ELEMENTDATA", type := (.array (.object "java/lang/Object")), accessFlags := 26, slot := 3, constantValue := 0 }, { name := "elementData", type := (.array (.object "java/lang/Object")), accessFlags := 128, slot := 1, constantValue := 0 }, { name := "size", type := .int, accessFlags := 2, slot := 2, constantValue := 0 }]
  methods := #[k23m0]
  instanceTypes := #[.int, (.array (.object "java/lang/Object")), .int]
  staticTypes := #[.long, .int, (.array (.object "java/lang/Object")), (.array (.object "java/lang/Object"))]
  resolved := Array.replicate 509 none
  statics := some 2 }

def pool24 : Array CpInfo := pool [(1, .methodref 2 3), (0, .class_ 4), (0, .nameAndType 5 6), (0, u "java/lang/Record"), (0, u "<init>"), (0, u "()V"), (0, .fieldref 8 9), (0, .class_ 10), (0, .nameAndType 11 12), (0, u "com/example/ontoscribe/ontoscribe/sdml/Module$Variant"), (0, u "type"), (0, u "Lcom/example/ontoscribe/ontoscribe/sdml/Module$Reference;"), (0, .fieldref 8 14), (0, .nameAndType 15 16), (0, u "rename"), (0, u "Lcom/example/ontoscribe/ontoscribe/sdml/Module$Identifier;"), (0, .fieldref 8 18), (0, .nameAndType 19 20), (0, u "annotations"), (0, u "Ljava/util/List;"), (0, .methodref 22 23), (0, .class_ 24), (0, .nameAndType 25 26), (0, u "com/example/ontoscribe/ontoscribe/sdml/Module$Reference"), (0, u "name"), (0, u "()Ljava/lang/String;"), (0, .methodref 28 29), (0, .class_ 30), (0, .nameAndType 31 26), (0, u "com/example/ontoscribe/ontoscribe/sdml/Module$Identifier"), (0, u "text"), (14, u "(Lcom/example/ontoscribe/ontoscribe/sdml/Module$Reference;Lcom/example/ontoscribe/ontoscribe/sdml/Module$Identifier;Ljava/util/List;)V"), (4, u "shownName"), (12, .class_ 65), (0, u "com/example/ontoscribe/ontoscribe/sdml/Module")] 26

def k24c0 : Code := { maxStack := 2, maxLocals := 4, code := prog_36_method_1_code, exceptionTable := #[], attributes := #[] }
def k24m0 : Method := { name := "<init>", desc := "(Lcom/example/ontoscribe/ontoscribe/sdml/Module$Reference;Lcom/example/ontoscribe/ontoscribe/sdml/Module$Identifier;Ljava/util/List;)V", sig := { parameters := [(.object "com/example/ontoscribe/ontoscribe/sdml/Module$Reference"), (.object "com/example/ontoscribe/ontoscribe/sdml/Module$Identifier"), (.object "java/util/List")], returnType := none }, accessFlags := 0, code := some k24c0 }
def k24c1 : Code := { maxStack := 1, maxLocals := 1, code := prog_36_method_2_code, exceptionTable := #[], attributes := #[] }
def k24m1 : Method := { name := "shownName", desc := "()Ljava/lang/String;", sig := { parameters := [], returnType := some (.object "java/lang/String") }, accessFlags := 0, code := some k24c1 }
/-- com/example/ontoscribe/ontoscribe/sdml/Module$Variant -/
def k24 : Class := { plain "com/example/ontoscribe/ontoscribe/sdml/Module$Variant" (some 11) with
  accessFlags := 48
  interfaces := #[]
  cf := some (fileOf pool24 8 #[.nestHost 64] #[{ accessFlags := 0, nameIndex := 5, descriptorIndex := 46, attributes := #[] }, { accessFlags := 0, nameIndex := 51, descriptorIndex := 26, attributes := #[] }] 48 2 #[] #[{ accessFlags := 18, nameIndex := 11, descriptorIndex := 12, attributes := #[] }, { accessFlags := 18, nameIndex := 15, descriptorIndex := 16, attributes := #[] }, { accessFlags := 18, nameIndex := 19, descriptorIndex := 20, attributes := #[] }])
  fields := #[{ name := "type", type := (.object "com/example/ontoscribe/ontoscribe/sdml/Module$Reference"), accessFlags := 18, slot := 0, constantValue := 0 }, { name := "rename", type := (.object "com/example/ontoscribe/ontoscribe/sdml/Module$Identifier"), accessFlags := 18, slot := 1, constantValue := 0 }, { name := "annotations", type := (.object "java/util/List"), accessFlags := 18, slot := 2, constantValue := 0 }]
  methods := #[k24m0, k24m1]
  instanceTypes := #[(.object "com/example/ontoscribe/ontoscribe/sdml/Module$Reference"), (.object "com/example/ontoscribe/ontoscribe/sdml/Module$Identifier"), (.object "java/util/List")]
  staticTypes := #[]
  resolved := Array.replicate 92 none
  statics := none }

def pool25 : Array CpInfo := pool [(4, .class_ 6), (1, u "java/lang/Object"), (0, u "<init>"), (0, u "()V"), (5, .class_ 16), (1, u "java/lang/StringLatin1"), (104, u "$assertionsDisabled"), (0, u "Z"), (98, .class_ 223), (1, u "java/lang/StringLatin1$LinesSpliterator"), (166, .class_ 391), (0, u "java/lang/StringLatin1$CharsSpliterator")] 3

def k25m0 : Method := { name := "<init>", desc := "()V", sig := { parameters := [], returnType := none }, accessFlags := 0, code := none }
/-- java/lang/StringLatin1 -/
def k25 : Class := { plain "java/lang/StringLatin1" (some 0) with
  accessFlags := 48
  interfaces := #[]
  cf := some (fileOf pool25 14 #[.nestMembers #[390, 221]] #[{ accessFlags := 0, nameIndex := 7, descriptorIndex := 8, attributes := #[] }] 48 4 #[] #[{ accessFlags := 4120, nameIndex := 121, descriptorIndex := 122, attributes := #[] }])
  fields := #[{ name := "$assertionsDisabled", type := .boolean, accessFlags := 4120, slot := 0, constantValue := 0 }]
  methods := #[k25m0]
  instanceTypes := #[]
  staticTypes := #[.boolean]
  resolved := Array.replicate 395 none
  statics := none }

def pool26 : Array CpInfo := pool [(2, .class_ 4), (1, u "java/lang/Object"), (0, u "<init>"), (0, u "()V"), (17, .class_ 26), (1, u "jdk/internal/util/Preconditions"), (28, .class_ 56), (0, u "jdk/internal/util/Preconditions$4"), (57, .class_ 115), (0, u "jdk/internal/util/Preconditions$1"), (7, u "SIOOBE_FORMATTER"), (0, u "Ljava/util/function/BiFunction;"), (0, .class_ 126), (0, u "jdk/internal/util/Preconditions$2"), (3, u "AIOOBE_FORMATTER"), (0, .class_ 132), (0, u "jdk/internal/util/Preconditions$3"), (3, u "IOOBE_FORMATTER")] 57

def k26m0 : Method := { name := "<init>", desc := "()V", sig := { parameters := [], returnType := none }, accessFlags := 1, code := none }
/-- jdk/internal/util/Preconditions -/
def k26 : Class := { plain "jdk/internal/util/Preconditions" (some 0) with
  accessFlags := 33
  interfaces := #[]
  cf := some (fileOf pool26 24 #[.nestMembers #[55, 131, 125, 114]] #[{ accessFlags := 1, nameIndex := 5, descriptorIndex := 6, attributes := #[] }] 33 2 #[] #[{ accessFlags := 25, nameIndex := 123, descriptorIndex := 124, attributes := #[] }, { accessFlags := 25, nameIndex := 130, descriptorIndex := 124, attributes := #[] }, { accessFlags := 25, nameIndex := 136, descriptorIndex := 124, attributes := #[] }])
  fields := #[{ name := "SIOOBE_FORMATTER", type := (.object "java/util/function/BiFunction"), accessFlags := 25, slot := 0, constantValue := 0 }, { name := "AIOOBE_FORMATTER", type := (.object "java/util/function/BiFunction"), accessFlags := 25, slot := 1, constantValue := 0 }, { name := "IOOBE_FORMATTER", type := (.object "java/util/function/BiFunction"), accessFlags := 25, slot := 2, constantValue := 0 }]
  methods := #[k26m0]
  instanceTypes := #[]
  staticTypes := #[(.object "java/util/function/BiFunction"), (.object "java/util/function/BiFunction"), (.object "java/util/function/BiFunction")]
  resolved := Array.replicate 194 none
  statics := some 3 }

def pool27 : Array CpInfo := pool [(9, u "<init>"), (6, .class_ 18), (1, u "java/lang/Object"), (0, u "()V"), (1, .class_ 23), (1, u "jdk/internal/util/ArraysSupport"), (0, u "LOG2_ARRAY_LONG_INDEX_SCALE"), (0, u "I"), (2, u "U"), (0, u "Ljdk/internal/misc/Unsafe;"), (8, u "BIG_ENDIAN"), (0, u "Z"), (8, u "LOG2_BYTE_BIT_SIZE"), (4, u "LOG2_ARRAY_INT_INDEX_SCALE"), (54, u "JLA"), (0, u "Ljdk/internal/access/JavaLangAccess;"), (11, u "LOG2_ARRAY_BOOLEAN_INDEX_SCALE"), (9, u "LOG2_ARRAY_BYTE_INDEX_SCALE"), (5, u "LOG2_ARRAY_CHAR_INDEX_SCALE"), (5, u "LOG2_ARRAY_SHORT_INDEX_SCALE"), (18, u "LOG2_ARRAY_FLOAT_INDEX_SCALE"), (24, u "LOG2_ARRAY_DOUBLE_INDEX_SCALE"), (89, u "T_BOOLEAN"), (2, u "T_CHAR"), (1, u "T_FLOAT"), (1, u "T_DOUBLE"), (1, u "T_BYTE"), (1, u "T_SHORT"), (1, u "T_INT"), (1, u "T_LONG"), (1, u "SOFT_MAX_ARRAY_LENGTH")] 83

def k27m0 : Method := { name := "<init>", desc := "()V", sig := { parameters := [], returnType := none }, accessFlags := 2, code := none }
/-- jdk/internal/util/ArraysSupport -/
def k27 : Class := { plain "jdk/internal/util/ArraysSupport" (some 0) with
  accessFlags := 33
  interfaces := #[]
  cf := some (fileOf pool27 21 #[] #[{ accessFlags := 2, nameIndex := 9, descriptorIndex := 19, attributes := #[] }] 33 16 #[] #[{ accessFlags := 24, nameIndex := 28, descriptorIndex := 29, attributes := #[] }, { accessFlags := 26, nameIndex := 38, descriptorIndex := 39, attributes := #[] }, { accessFlags := 25, nameIndex := 121, descriptorIndex := 25, attributes := #[] }, { accessFlags := 25, nameIndex := 131, descriptorIndex := 25, attributes := #[] }, { accessFlags := 25, nameIndex := 137, descriptorIndex := 25, attributes := #[] }, { accessFlags := 25, nameIndex := 143, descriptorIndex := 25, attributes := #[] }, { accessFlags := 25, nameIndex := 53, descriptorIndex := 25, attributes := #[] }, { accessFlags := 25, nameIndex := 24, descriptorIndex := 25, attributes := #[] }, { accessFlags := 25, nameIndex := 162, descriptorIndex := 25, attributes := #[] }, { accessFlags := 25, nameIndex := 187, descriptorIndex := 25, attributes := #[] }, { accessFlags := 26, nameIndex := 48, descriptorIndex := 25, attributes := #[] }, { accessFlags := 25, nameIndex := 277, descriptorIndex := 25, attributes := #[] }, { accessFlags := 25, nameIndex := 280, descriptorIndex := 25, attributes := #[] }, { accessFlags := 25, nameIndex := 282, descriptorIndex := 25, attributes := #[] }, { accessFlags := 25, nameIndex := 284, descriptorIndex := 25, attributes := #[] }, { accessFlags := 25, nameIndex := 286, descriptorIndex := 25, attributes := #[] }, { accessFlags := 25, nameIndex := 288, descriptorIndex := 25, attributes := #[] }, { accessFlags := 25, nameIndex := 290, descriptorIndex := 25, attributes := #[] }, { accessFlags := 25, nameIndex := 292, descriptorIndex := 25, attributes := #[] }, { accessFlags := 26, nameIndex := 108, descriptorIndex := 109, attributes := #[] }, { accessFlags := 25, nameIndex := 294, descriptorIndex := 25, attributes := #[] }])
  fields := #[{ name := "U", type := (.object "jdk/internal/misc/Unsafe"), accessFlags := 24, slot := 0, constantValue := 0 }, { name := "BIG_ENDIAN", type := .boolean, accessFlags := 26, slot := 1, constantValue := 0 }, { name := "LOG2_ARRAY_BOOLEAN_INDEX_SCALE", type := .int, accessFlags := 25, slot := 2, constantValue := 0 }, { name := "LOG2_ARRAY_BYTE_INDEX_SCALE", type := .int, accessFlags := 25, slot := 3, constantValue := 0 }, { name := "LOG2_ARRAY_CHAR_INDEX_SCALE", type := .int, accessFlags := 25, slot := 4, constantValue := 0 }, { name := "LOG2_ARRAY_SHORT_INDEX_SCALE", type := .int, accessFlags := 25, slot := 5, constantValue := 0 }, { name := "LOG2_ARRAY_INT_INDEX_SCALE", type := .int, accessFlags := 25, slot := 6, constantValue := 0 }, { name := "LOG2_ARRAY_LONG_INDEX_SCALE", type := .int, accessFlags := 25, slot := 7, constantValue := 0 }, { name := "LOG2_ARRAY_FLOAT_INDEX_SCALE", type := .int, accessFlags := 25, slot := 8, constantValue := 0 }, { name := "LOG2_ARRAY_DOUBLE_INDEX_SCALE", type := .int, accessFlags := 25, slot := 9, constantValue := 0 }, { name := "LOG2_BYTE_BIT_SIZE", type := .int, accessFlags := 26, slot := 10, constantValue := 0 }, { name := "T_BOOLEAN", type := .int, accessFlags := 25, slot := 11, constantValue := 0 }, { name := "T_CHAR", type := .int, accessFlags := 25, slot := 12, constantValue := 0 }, { name := "T_FLOAT", type := .int, accessFlags := 25, slot := 13, constantValue := 0 }, { name := "T_DOUBLE", type := .int, accessFlags := 25, slot := 14, constantValue := 0 }, { name := "T_BYTE", type := .int, accessFlags := 25, slot := 15, constantValue := 0 }, { name := "T_SHORT", type := .int, accessFlags := 25, slot := 16, constantValue := 0 }, { name := "T_INT", type := .int, accessFlags := 25, slot := 17, constantValue := 0 }, { name := "T_LONG", type := .int, accessFlags := 25, slot := 18, constantValue := 0 }, { name := "JLA", type := (.object "jdk/internal/access/JavaLangAccess"), accessFlags := 26, slot := 19, constantValue := 0 }, { name := "SOFT_MAX_ARRAY_LENGTH", type := .int, accessFlags := 25, slot := 20, constantValue := 0 }]
  methods := #[k27m0]
  instanceTypes := #[]
  staticTypes := #[(.object "jdk/internal/misc/Unsafe"), .boolean, .int, .int, .int, .int, .int, .int, .int, .int, .int, .int, .int, .int, .int, .int, .int, .int, .int, (.object "jdk/internal/access/JavaLangAccess"), .int]
  resolved := Array.replicate 378 none
  statics := none }

/-- the primitive byte -/
def k28 : Class := { plain "byte" none with kind := .primitive 'B', accessFlags := 0x411 }
/-- [B -/
def k29 : Class := { plain "[B" (some 0) with kind := .array 28 .byte, interfaces := #[22, 4], accessFlags := 1041 }

/-- the primitive char -/
def k30 : Class := { plain "char" none with kind := .primitive 'C', accessFlags := 0x411 }
/-- [C -/
def k31 : Class := { plain "[C" (some 0) with kind := .array 30 .char, interfaces := #[22, 4], accessFlags := 1041 }

/-- the primitive int -/
def k32 : Class := { plain "int" none with kind := .primitive 'I', accessFlags := 0x411 }
/-- [I -/
def k33 : Class := { plain "[I" (some 0) with kind := .array 32 .int, interfaces := #[22, 4], accessFlags := 1041 }

/-- [Ljava/lang/Object; -/
def k34 : Class := { plain "[Ljava/lang/Object;" (some 0) with kind := .array 0 (.object "java/lang/Object"), interfaces := #[22, 4], accessFlags := 1041 }

def heap : Heap := #[{ cls := 6, slots := #[.ref 4, .ref 6, .ref 5, .null], vm := .statics 6 },
  { cls := 9, slots := #[.long 0, .int 1, .null, .int 0, .null, .int 0, .int 0], vm := .statics 9 },
  { cls := 23, slots := #[.long 0, .int 0, .ref 7, .ref 8], vm := .statics 23 },
  { cls := 26, slots := #[.null, .null, .null], vm := .statics 26 },
  { cls := 6, slots := #[.null, .int 0, .int 0], vm := .none },
  { cls := 6, slots := #[.null, .int 1, .int 0], vm := .none },
  { cls := 6, slots := #[.null, .int 2, .int 0], vm := .none },
  { cls := 34, slots := #[], vm := .none },
  { cls := 34, slots := #[], vm := .none }]
def classes : Array Class := #[k0, k1, k2, k3, k4, k5, k6, k7, k8, k9, k10, k11, k12, k13, k14, k15, k16, k17, k18, k19, k20, k21, k22, k23, k24, k25, k26, k27, k28, k29, k30, k31, k32, k33, k34]
def interned : List (Array UInt16 × Addr) := []
def slotsUsed : Nat := 27
def theMethod : MethodId := ⟨1, 1⟩
def args0 : Array Value := #[.int 5, .int 65, .int 66, .int 1]
def aboutOver (below : List Frame) : State where
  vm := { classes := classes, interned := interned.toArray }
  heap := heap
  slotsUsed := slotsUsed
  threads := #[{ frames := .invoking theMethod args0 :: below }]
def below0 : List Frame := [.native { method := ⟨0, 0⟩, args := #[] }]
def about1 : State := aboutOver below0
def p0 : Program := .bare "" "" ""
def e0 : Env := launch0.env 0 0 0
theorem w_frames : about1.frames = Frame.invoking theMethod args0 :: below0 := rfl
set_option maxRecDepth 65536 in
theorem w_args : argsFit about1.vm theMethod args0 = true := by decide +kernel
set_option maxRecDepth 65536 in
theorem w_heap : heapFits about1 = true := by decide +kernel
set_option maxRecDepth 65536 in
theorem w_runnable : about1.curStatus? = some .runnable := by decide +kernel
set_option maxRecDepth 65536 in
theorem w_alone : about1.alone = true := by decide +kernel
set_option maxRecDepth 65536 in
theorem w_named : about1.methodNamed? x = some theMethod := by decide +kernel
set_option maxRecDepth 65536 in
theorem w_hears : about1.hears theMethod below0 = true := by decide +kernel
set_option maxRecDepth 65536 in
theorem w_ripe : about1.ripe theMethod args0 below0 = true := by decide +kernel
theorem w_running : about1.status = .running := rfl
set_option maxRecDepth 65536 in
theorem w_room : about1.hasRoom e0.platform room_1 = true :=
  launch0.hasRoom_least _ room_1 (by decide +kernel) (by decide +kernel) (by decide +kernel) (by decide +kernel) (by decide +kernel) (by decide +kernel)
theorem allAtoms_all (ts : List Jvm.Cond) (a : Array Jvm.Value) (st : Jvm.State) : (allAtoms ts).before a st = ts.all (fun c => c.before a st) := by
  induction ts with
  | nil => rfl
  | cons c t ih =>
    show (Jvm.Cond.and c (allAtoms t)).before a st = _
    rw [Jvm.Cond.before_and, ih, List.all_cons]
def words1 : List Jvm.Cond := Jvm.Cond.code x code maxLocals ret :: tables_1
/-- a 'code' word, met by the world's own term for the bytes: nothing is compared byte by byte -/
theorem code_word {y : MethodName} {bytes : ByteArray} {mx : Nat} {rt : Option FieldType} {a : Array Value} {s : State} {m : MethodId} {meth : Method} {c : Code} (h1 : s.methodNamed? y = some m) (h2 : s.vm.method? m = some meth) (h3 : meth.code = some c) (h4 : c.code = bytes)
    (h5 : (c.maxLocals == mx && c.exceptionTable.isEmpty && decide (c.maxStack ≤ mostOperands) && decide (meth.sig.returnType = rt) && !meth.locks && decide (parseMethodDescriptor y.desc = some meth.sig)) = true) : (Jvm.Cond.code y bytes mx rt).before a s = true := by
  simp only [Bool.and_eq_true, beq_iff_eq, Bool.not_eq_true', decide_eq_true_eq] at h5
  obtain ⟨⟨⟨⟨⟨g1, g2⟩, g3⟩, g4⟩, g5⟩, g6⟩ := h5
  simp [Cond.before, Cond.holds, Cond.value, h1, h2, h3, h4, g1, g2, g3, g4, g5, g6]
def isCode : Jvm.Cond → Bool
  | .code _ _ _ _ => true
  | _ => false
theorem all_split {L : List Jvm.Cond} {P : Jvm.Cond → Bool} (h1 : L.all (fun c => isCode c || P c) = true) (h2 : ∀ c ∈ L.filter isCode, P c = true) : L.all P = true := by
  refine List.all_eq_true.mpr fun c hc => ?_
  have h := List.all_eq_true.mp h1 c hc
  rcases Bool.eq_false_or_eq_true (isCode c) with hi | hi
  · exact h2 c (List.mem_filter.mpr ⟨hc, hi⟩)
  · simpa [hi] using h
set_option maxRecDepth 65536 in
theorem w_c0 : (Jvm.Cond.code x code maxLocals ret).before args0 about1 = true := code_word (m := ⟨1, 1⟩) (meth := k1m1) (c := k1c1) (by decide +kernel) rfl rfl rfl (by decide +kernel)
set_option maxRecDepth 65536 in
theorem w_c1 : (Jvm.Cond.code ({ cls := "com/example/ontoscribe/ontoscribe/sdml/VariantShownNamePinLaw", name := "two", desc := "(I)Ljava/lang/String;" } : Jvm.MethodName) method_3_code (2 : Nat) (Option.some (Jvm.ClassFile.FieldType.object "java/lang/String"))).before args0 about1 = true := code_word (m := ⟨1, 2⟩) (meth := k1m2) (c := k1c2) (by decide +kernel) rfl rfl rfl (by decide +kernel)
set_option maxRecDepth 65536 in
theorem w_c2 : (Jvm.Cond.code ({ cls := "java/lang/String", name := "<init>", desc := "([C)V" } : Jvm.MethodName) jdk_42_method_3_code (2 : Nat) (Option.none : Option Jvm.ClassFile.FieldType)).before args0 about1 = true := code_word (m := ⟨9, 1⟩) (meth := k9m1) (c := k9c1) (by decide +kernel) rfl rfl rfl (by decide +kernel)
set_option maxRecDepth 65536 in
theorem w_c3 : (Jvm.Cond.code ({ cls := "java/lang/String", name := "<init>", desc := "([CIILjava/lang/Void;)V" } : Jvm.MethodName) jdk_42_method_149_code (6 : Nat) (Option.none : Option Jvm.ClassFile.FieldType)).before args0 about1 = true := code_word (m := ⟨9, 3⟩) (meth := k9m3) (c := k9c3) (by decide +kernel) rfl rfl rfl (by decide +kernel)
set_option maxRecDepth 65536 in
theorem w_c4 : (Jvm.Cond.code ({ cls := "java/lang/Object", name := "<init>", desc := "()V" } : Jvm.MethodName) object_method_1_code (1 : Nat) (Option.none : Option Jvm.ClassFile.FieldType)).before args0 about1 = true := code_word (m := ⟨0, 0⟩) (meth := k0m0) (c := k0c0) (by decide +kernel) rfl rfl rfl (by decide +kernel)
set_option maxRecDepth 65536 in
theorem w_c5 : (Jvm.Cond.code ({ cls := "java/lang/StringUTF16", name := "compress", desc := "([CII)[B" } : Jvm.MethodName) jdk_52_method_16_code (6 : Nat) (Option.some (Jvm.ClassFile.FieldType.array Jvm.ClassFile.FieldType.byte))).before args0 about1 = true := code_word (m := ⟨10, 2⟩) (meth := k10m2) (c := k10c2) (by decide +kernel) rfl rfl rfl (by decide +kernel)
set_option maxRecDepth 65536 in
theorem w_c6 : (Jvm.Cond.code ({ cls := "java/lang/StringUTF16", name := "compress", desc := "([CI[BII)I" } : Jvm.MethodName) jdk_52_method_21_code (7 : Nat) (Option.some Jvm.ClassFile.FieldType.int)).before args0 about1 = true := code_word (m := ⟨10, 3⟩) (meth := k10m3) (c := k10c3) (by decide +kernel) rfl rfl rfl (by decide +kernel)
set_option maxRecDepth 65536 in
theorem w_c7 : (Jvm.Cond.code ({ cls := "java/lang/StringUTF16", name := "coderFromArrayLen", desc := "([BI)B" } : Jvm.MethodName) jdk_52_method_15_code (2 : Nat) (Option.some Jvm.ClassFile.FieldType.byte)).before args0 about1 = true := code_word (m := ⟨10, 1⟩) (meth := k10m1) (c := k10c1) (by decide +kernel) rfl rfl rfl (by decide +kernel)
set_option maxRecDepth 65536 in
theorem w_c8 : (Jvm.Cond.code ({ cls := "com/example/ontoscribe/ontoscribe/sdml/Module$Reference", name := "<init>", desc := "(Lcom/example/ontoscribe/ontoscribe/sdml/Module$Reference$Form;Ljava/lang/String;Ljava/lang/String;Lcom/example/ontoscribe/ontoscribe/diagnostics/Position;)V" } : Jvm.MethodName) prog_31_method_1_code (5 : Nat) (Option.none : Option Jvm.ClassFile.FieldType)).before args0 about1 = true := code_word (m := ⟨13, 0⟩) (meth := k13m0) (c := k13c0) (by decide +kernel) rfl rfl rfl (by decide +kernel)
set_option maxRecDepth 65536 in
theorem w_c9 : (Jvm.Cond.code ({ cls := "java/lang/Record", name := "<init>", desc := "()V" } : Jvm.MethodName) jdk_30_method_1_code (1 : Nat) (Option.none : Option Jvm.ClassFile.FieldType)).before args0 about1 = true := code_word (m := ⟨11, 0⟩) (meth := k11m0) (c := k11c0) (by decide +kernel) rfl rfl rfl (by decide +kernel)
set_option maxRecDepth 65536 in
theorem w_c10 : (Jvm.Cond.code ({ cls := "com/example/ontoscribe/ontoscribe/sdml/Module$Identifier", name := "<init>", desc := "(Ljava/lang/String;Lcom/example/ontoscribe/ontoscribe/diagnostics/Position;)V" } : Jvm.MethodName) prog_25_method_1_code (3 : Nat) (Option.none : Option Jvm.ClassFile.FieldType)).before args0 about1 = true := code_word (m := ⟨14, 0⟩) (meth := k14m0) (c := k14c0) (by decide +kernel) rfl rfl rfl (by decide +kernel)
set_option maxRecDepth 65536 in
theorem w_c11 : (Jvm.Cond.code ({ cls := "java/util/ArrayList", name := "<init>", desc := "()V" } : Jvm.MethodName) jdk_38_method_2_code (1 : Nat) (Option.none : Option Jvm.ClassFile.FieldType)).before args0 about1 = true := code_word (m := ⟨23, 0⟩) (meth := k23m0) (c := k23c0) (by decide +kernel) rfl rfl rfl (by decide +kernel)
set_option maxRecDepth 65536 in
theorem w_c12 : (Jvm.Cond.code ({ cls := "java/util/AbstractList", name := "<init>", desc := "()V" } : Jvm.MethodName) jdk_39_method_1_code (1 : Nat) (Option.none : Option Jvm.ClassFile.FieldType)).before args0 about1 = true := code_word (m := ⟨20, 0⟩) (meth := k20m0) (c := k20c0) (by decide +kernel) rfl rfl rfl (by decide +kernel)
set_option maxRecDepth 65536 in
theorem w_c13 : (Jvm.Cond.code ({ cls := "java/util/AbstractCollection", name := "<init>", desc := "()V" } : Jvm.MethodName) jdk_22_method_1_code (1 : Nat) (Option.none : Option Jvm.ClassFile.FieldType)).before args0 about1 = true := code_word (m := ⟨17, 0⟩) (meth := k17m0) (c := k17c0) (by decide +kernel) rfl rfl rfl (by decide +kernel)
set_option maxRecDepth 65536 in
theorem w_c14 : (Jvm.Cond.code ({ cls := "com/example/ontoscribe/ontoscribe/sdml/Module$Variant", name := "<init>", desc := "(Lcom/example/ontoscribe/ontoscribe/sdml/Module$Reference;Lcom/example/ontoscribe/ontoscribe/sdml/Module$Identifier;Ljava/util/List;)V" } : Jvm.MethodName) prog_36_method_1_code (4 : Nat) (Option.none : Option Jvm.ClassFile.FieldType)).before args0 about1 = true := code_word (m := ⟨24, 0⟩) (meth := k24m0) (c := k24c0) (by decide +kernel) rfl rfl rfl (by decide +kernel)
set_option maxRecDepth 65536 in
theorem w_c15 : (Jvm.Cond.code ({ cls := "com/example/ontoscribe/ontoscribe/sdml/Module$Variant", name := "shownName", desc := "()Ljava/lang/String;" } : Jvm.MethodName) prog_36_method_2_code (1 : Nat) (Option.some (Jvm.ClassFile.FieldType.object "java/lang/String"))).before args0 about1 = true := code_word (m := ⟨24, 1⟩) (meth := k24m1) (c := k24c1) (by decide +kernel) rfl rfl rfl (by decide +kernel)
set_option maxRecDepth 65536 in
theorem w_c16 : (Jvm.Cond.code ({ cls := "com/example/ontoscribe/ontoscribe/sdml/Module$Identifier", name := "text", desc := "()Ljava/lang/String;" } : Jvm.MethodName) prog_25_method_5_code (1 : Nat) (Option.some (Jvm.ClassFile.FieldType.object "java/lang/String"))).before args0 about1 = true := code_word (m := ⟨14, 1⟩) (meth := k14m1) (c := k14c1) (by decide +kernel) rfl rfl rfl (by decide +kernel)
set_option maxRecDepth 65536 in
theorem w_c17 : (Jvm.Cond.code ({ cls := "java/lang/String", name := "equals", desc := "(Ljava/lang/Object;)Z" } : Jvm.MethodName) jdk_42_method_66_code (3 : Nat) (Option.some Jvm.ClassFile.FieldType.boolean)).before args0 about1 = true := code_word (m := ⟨9, 2⟩) (meth := k9m2) (c := k9c2) (by decide +kernel) rfl rfl rfl (by decide +kernel)
set_option maxRecDepth 65536 in
theorem w_c18 : (Jvm.Cond.code ({ cls := "com/example/ontoscribe/ontoscribe/sdml/Module$Reference", name := "name", desc := "()Ljava/lang/String;" } : Jvm.MethodName) prog_31_method_8_code (1 : Nat) (Option.some (Jvm.ClassFile.FieldType.object "java/lang/String"))).before args0 about1 = true := code_word (m := ⟨13, 1⟩) (meth := k13m1) (c := k13c1) (by decide +kernel) rfl rfl rfl (by decide +kernel)
def codes1 : List Jvm.Cond := [Jvm.Cond.code x code maxLocals ret, Jvm.Cond.code ({ cls := "com/example/ontoscribe/ontoscribe/sdml/VariantShownNamePinLaw", name := "two", desc := "(I)Ljava/lang/String;" } : Jvm.MethodName) method_3_code (2 : Nat) (Option.some (Jvm.ClassFile.FieldType.object "java/lang/String")), Jvm.Cond.code ({ cls := "java/lang/String", name := "<init>", desc := "([C)V" } : Jvm.MethodName) jdk_42_method_3_code (2 : Nat) (Option.none : Option Jvm.ClassFile.FieldType), Jvm.Cond.code ({ cls := "java/lang/String", name := "<init>", desc := "([CIILjava/lang/Void;)V" } : Jvm.MethodName) jdk_42_method_149_code (6 : Nat) (Option.none : Option Jvm.ClassFile.FieldType), Jvm.Cond.code ({ cls := "java/lang/Object", name := "<init>", desc := "()V" } : Jvm.MethodName) object_method_1_code (1 : Nat) (Option.none : Option Jvm.ClassFile.FieldType), Jvm.Cond.code ({ cls := "java/lang/StringUTF16", name := "compress", desc := "([CII)[B" } : Jvm.MethodName) jdk_52_method_16_code (6 : Nat) (Option.some (Jvm.ClassFile.FieldType.array Jvm.ClassFile.FieldType.byte)), Jvm.Cond.code ({ cls := "java/lang/StringUTF16", name := "compress", desc := "([CI[BII)I" } : Jvm.MethodName) jdk_52_method_21_code (7 : Nat) (Option.some Jvm.ClassFile.FieldType.int), Jvm.Cond.code ({ cls := "java/lang/StringUTF16", name := "coderFromArrayLen", desc := "([BI)B" } : Jvm.MethodName) jdk_52_method_15_code (2 : Nat) (Option.some Jvm.ClassFile.FieldType.byte), Jvm.Cond.code ({ cls := "com/example/ontoscribe/ontoscribe/sdml/Module$Reference", name := "<init>", desc := "(Lcom/example/ontoscribe/ontoscribe/sdml/Module$Reference$Form;Ljava/lang/String;Ljava/lang/String;Lcom/example/ontoscribe/ontoscribe/diagnostics/Position;)V" } : Jvm.MethodName) prog_31_method_1_code (5 : Nat) (Option.none : Option Jvm.ClassFile.FieldType), Jvm.Cond.code ({ cls := "java/lang/Record", name := "<init>", desc := "()V" } : Jvm.MethodName) jdk_30_method_1_code (1 : Nat) (Option.none : Option Jvm.ClassFile.FieldType), Jvm.Cond.code ({ cls := "com/example/ontoscribe/ontoscribe/sdml/Module$Identifier", name := "<init>", desc := "(Ljava/lang/String;Lcom/example/ontoscribe/ontoscribe/diagnostics/Position;)V" } : Jvm.MethodName) prog_25_method_1_code (3 : Nat) (Option.none : Option Jvm.ClassFile.FieldType), Jvm.Cond.code ({ cls := "java/util/ArrayList", name := "<init>", desc := "()V" } : Jvm.MethodName) jdk_38_method_2_code (1 : Nat) (Option.none : Option Jvm.ClassFile.FieldType), Jvm.Cond.code ({ cls := "java/util/AbstractList", name := "<init>", desc := "()V" } : Jvm.MethodName) jdk_39_method_1_code (1 : Nat) (Option.none : Option Jvm.ClassFile.FieldType), Jvm.Cond.code ({ cls := "java/util/AbstractCollection", name := "<init>", desc := "()V" } : Jvm.MethodName) jdk_22_method_1_code (1 : Nat) (Option.none : Option Jvm.ClassFile.FieldType), Jvm.Cond.code ({ cls := "com/example/ontoscribe/ontoscribe/sdml/Module$Variant", name := "<init>", desc := "(Lcom/example/ontoscribe/ontoscribe/sdml/Module$Reference;Lcom/example/ontoscribe/ontoscribe/sdml/Module$Identifier;Ljava/util/List;)V" } : Jvm.MethodName) prog_36_method_1_code (4 : Nat) (Option.none : Option Jvm.ClassFile.FieldType), Jvm.Cond.code ({ cls := "com/example/ontoscribe/ontoscribe/sdml/Module$Variant", name := "shownName", desc := "()Ljava/lang/String;" } : Jvm.MethodName) prog_36_method_2_code (1 : Nat) (Option.some (Jvm.ClassFile.FieldType.object "java/lang/String")), Jvm.Cond.code ({ cls := "com/example/ontoscribe/ontoscribe/sdml/Module$Identifier", name := "text", desc := "()Ljava/lang/String;" } : Jvm.MethodName) prog_25_method_5_code (1 : Nat) (Option.some (Jvm.ClassFile.FieldType.object "java/lang/String")), Jvm.Cond.code ({ cls := "java/lang/String", name := "equals", desc := "(Ljava/lang/Object;)Z" } : Jvm.MethodName) jdk_42_method_66_code (3 : Nat) (Option.some Jvm.ClassFile.FieldType.boolean), Jvm.Cond.code ({ cls := "com/example/ontoscribe/ontoscribe/sdml/Module$Reference", name := "name", desc := "()Ljava/lang/String;" } : Jvm.MethodName) prog_31_method_8_code (1 : Nat) (Option.some (Jvm.ClassFile.FieldType.object "java/lang/String"))]
set_option maxRecDepth 65536 in
theorem codes_eq : words1.filter isCode = codes1 := rfl
theorem w_codes : ∀ c ∈ words1.filter isCode, c.before args0 about1 = true := by
  rw [codes_eq]
  intro c hc
  simp only [codes1, List.mem_cons, List.not_mem_nil, or_false] at hc
  rcases hc with rfl | rfl | rfl | rfl | rfl | rfl | rfl | rfl | rfl | rfl | rfl | rfl | rfl | rfl | rfl | rfl | rfl | rfl | rfl
  · exact w_c0
  · exact w_c1
  · exact w_c2
  · exact w_c3
  · exact w_c4
  · exact w_c5
  · exact w_c6
  · exact w_c7
  · exact w_c8
  · exact w_c9
  · exact w_c10
  · exact w_c11
  · exact w_c12
  · exact w_c13
  · exact w_c14
  · exact w_c15
  · exact w_c16
  · exact w_c17
  · exact w_c18
set_option maxRecDepth 65536 in
theorem w_t1 : (words1.take 24).all (fun c => isCode c || c.before args0 about1) = true := by decide +kernel
set_option maxRecDepth 65536 in
theorem w_t2 : ((words1.drop 24).take 24).all (fun c => isCode c || c.before args0 about1) = true := by decide +kernel
set_option maxRecDepth 65536 in
theorem w_t3 : (((words1.drop 24).drop 24).take 24).all (fun c => isCode c || c.before args0 about1) = true := by decide +kernel
set_option maxRecDepth 65536 in
theorem w_t4 : ((((words1.drop 24).drop 24).drop 24).take 24).all (fun c => isCode c || c.before args0 about1) = true := by decide +kernel
set_option maxRecDepth 65536 in
theorem w_t5 : (((((words1.drop 24).drop 24).drop 24).drop 24).take 24).all (fun c => isCode c || c.before args0 about1) = true := by decide +kernel
set_option maxRecDepth 65536 in
theorem w_t6 : (((((words1.drop 24).drop 24).drop 24).drop 24).drop 24).all (fun c => isCode c || c.before args0 about1) = true := by decide +kernel
theorem w_tables : (allAtoms (Jvm.Cond.code x code maxLocals ret :: tables_1)).before args0 about1 = true := by
  rw [allAtoms_all]
  show words1.all (fun c => c.before args0 about1) = true
  refine all_split ?_ w_codes
  rw [← List.take_append_drop 24 words1, List.all_append, w_t1, ← List.take_append_drop 24 (words1.drop 24), List.all_append, w_t2, ← List.take_append_drop 24 ((words1.drop 24).drop 24), List.all_append, w_t3, ← List.take_append_drop 24 (((words1.drop 24).drop 24).drop 24), List.all_append, w_t4, ← List.take_append_drop 24 ((((words1.drop 24).drop 24).drop 24).drop 24), List.all_append, w_t5, w_t6]
  rfl
set_option maxRecDepth 65536 in
theorem w_rest : rest_1_c.before args0 about1 = true := by decide +kernel
set_option maxRecDepth 65536 in
theorem w_case : (Jvm.Cond.and given_1 narrow_1).before args0 about1 = true := by decide +kernel
theorem w_applies : (headSpec (Jvm.Cond.code x code maxLocals ret :: tables_1) room_1).applies x e0.platform about1 = true :=
  (Spec.applies_iff w_frames).mpr ⟨w_running, w_runnable, w_alone, w_named, w_hears, w_ripe, w_room, w_tables⟩
theorem atStart : AtStart classFile x code maxLocals ret World_1 tables_1 room_1 Calls_1 rest_1 Pre_1 launch0 p0 e0 about1 theMethod args0 below0 :=
  ⟨lists_1, trivial, launch0.admits_env _ _ _, launch0.least_env, fairChoices_fair.cas, fairChoices_fair.clock, w_frames, w_args, w_heap, w_applies, trivial, w_rest, w_case⟩
end start1
theorem witness_1 : WitnessClaimed_1 := ⟨start1.p0, start1.e0, start1.about1, start1.theMethod, start1.args0, start1.below0, start1.atStart⟩
end Jvm.Pilot.@@N@@
