import JvmDerived
import JvmDerived.Pilot.@@N@@Statement
import JvmDerived.Pilot.@@N@@Code
set_option linter.unusedVariables false
set_option linter.unusedSimpArgs false
namespace Jvm.RoadKit
open Sem ClassFile Op Lib Jvm.Stand Jvm.Free Jvm.LawKit
/-- the run from S ends, and ends as Q says -/
def Go (tb : Tables) (e : Env) (below : List Frame) (Q : Outcome → State → Prop) (S : State) : Prop := ∃ s₂ o, Steps tb e below S s₂ ∧ s₂.status = .running ∧ Ended s₂ below o ∧ Q o s₂
theorem Go.by {tb : Tables} {e : Env} {below : List Frame} {Q : Outcome → State → Prop} {S S' : State} (h : ∀ t, Steps tb e below S' t → Steps tb e below S t) (k : Go tb e below Q S') : Go tb e below Q S := by
  obtain ⟨s₂, o, h1, r⟩ := k
  exact ⟨s₂, o, h _ h1, r⟩
/-- what is known of the tables vm and the heap h: the booked literals say their texts, and the cells of Fs are none of theirs -/
def Wi (Z : State) (EL : List (String × Nat)) (Fs : List Addr) (vm : Vm) (h : Heap) : Prop := Z.Warmed39 vm ∧ CHv Z EL vm h ∧ (∃ a1, EW Z a1 EL) ∧ ∀ x ∈ Fs, x < h.size ∧ Safe Z EL vm h x
/-- .. in a walk that began at s -/
def Wd (Z : State) (EL : List (String × Nat)) (Fs : List Addr) (s : State) (vm0 : Vm) (h : Heap) : Prop := (∃ k0, s.Since vm0 k0 ∧ k0 ≤ h.size) ∧ Wi Z EL Fs vm0 h ∧ CHr Z EL s.vm s.heap vm0 h
/-- what a contract says of the end -/
def Ret (Z : State) (EL : List (String × Nat)) (S1 : Option Value → Heap → Addr → Prop) (s : State) (n0 : Nat) (Q : Option Value → Heap → Prop) (C S : Nat) : Outcome → State → Prop := fun o U => ∃ v L, o = .returned v ∧ (Q v U.heap ∧ Fr n0 L) ∧ CHr Z EL s.vm s.heap U.vm U.heap ∧ (∀ x, S1 v U.heap x → x < U.heap.size ∧ Safe Z EL U.vm U.heap x) ∧ ReturnedEndW s o U L C S
def Met (l : Launch) (Z : State) (EL : List (String × Nat)) (F0 : List Addr) (S1 : Option Value → Heap → Addr → Prop) (n0 : Nat) (y : MethodName) (bytes : ByteArray) (maxL : Nat) (ret : Option FieldType) (ws : List Cond) (rm : Room) (as : Array Value) (h0 : Heap) (Q : Option Value → Heap → Prop) : Prop :=
  MetFree l y (head1 (Cond.code y bytes maxL ret :: ws) rm) (fun a U => a = as ∧ U.heap = h0 ∧ Wi Z EL F0 U.vm h0) (fun _ _ _ _ _ => True) (fun _ U o U' => Ret Z EL S1 U n0 Q rm.cells rm.slots o U')
/-- where the walk stands: the heap is h, k cells of n slots were made, nothing below n0 was written; literals may have been loaded -/
def Sd (Z : State) (EL : List (String × Nat)) (Fs : List Addr) (n0 : Nat) (p : Program) (l : Launch) (e : Env) (R : Room) (s : State) (m : MethodId) (args : Array Value) (below : List Frame) (meth : Method) (c : Code) (T : State) (h : Heap) (k n : Nat) : Prop :=
  ∃ vm0 locs, Stand p l e R (s.setVm vm0) m args below meth c T locs k n ∧ Fr n0 locs ∧ T.heap = h ∧ Wd Z EL Fs s vm0 h

section Sds
variable {n0 : Nat} {p : Program} {l : Launch} {e : Env} {R : Room} {s : State} {m : MethodId} {args : Array Value} {below : List Frame} {meth : Method} {c : Code} {T : State} {h : Heap} {k n : Nat} {Z : State} {a0 : Array Value} {EL : List (String × Nat)} {Fs : List Addr} {S1 : Option Value → Heap → Addr → Prop}
theorem Wd.hz0 {vm0 : Vm} (W : Wd Z EL Fs s vm0 h) : Z.Warmed39 vm0 := W.2.1.1
theorem Wd.hz {vm0 : Vm} (W : Wd Z EL Fs s vm0 h) : Z.Warmed39 (s.setVm vm0).vm := W.2.1.1
theorem Wd.own {vm0 : Vm} (W : Wd Z EL Fs s vm0 h) {o : String} {cc : ClassId} (q : s.vm.findClass o = some cc) : (s.setVm vm0).vm.findClass o = some cc := by
  obtain ⟨⟨k0, hS, -⟩, -⟩ := W
  rw [show (s.setVm vm0).vm = vm0 from rfl, hS.1.alike.findClass]; exact q
theorem Wd.safe {vm0 : Vm} (W : Wd Z EL Fs s vm0 h) {a : Addr} (q : a ∈ Fs) : Safe Z EL vm0 h a := (W.2.1.2.2.2 a q).2
theorem Wi.step {vm vm1 : Vm} {h h' : Heap} (W : Wi Z EL Fs vm h) (hz : Z.Warmed39 vm1) (C : CHr Z EL vm h vm1 h') : Wi Z EL Fs vm1 h' :=
  ⟨hz, C.1, W.2.2.1, fun x hx => ⟨Nat.lt_of_lt_of_le (W.2.2.2 x hx).1 C.2.1, C.safe (W.2.2.2 x hx).1 (W.2.2.2 x hx).2⟩⟩
theorem Wd.step {vm0 : Vm} {h h' : Heap} (W : Wd Z EL Fs s vm0 h) (C : CHr Z EL vm0 h vm0 h') : Wd Z EL Fs s vm0 h' := by
  obtain ⟨⟨k0, hS, hk⟩, W1, C0⟩ := W
  exact ⟨⟨k0, hS, Nat.le_trans hk C.2.1⟩, W1.step W1.1 C, C0.trans C⟩
theorem Wd.ext {vm0 : Vm} {h h' : Heap} (W : Wd Z EL Fs s vm0 h) (E : Ext h h') : Wd Z EL Fs s vm0 h' := W.step (CHr.ext E W.2.1.2.1)
theorem Wd.wr {vm0 : Vm} {h h' : Heap} {a : Addr} {sl : Nat} {v : Value} (W : Wd Z EL Fs s vm0 h) (w : Wr h h' a sl v) (S : Safe Z EL vm0 h a) : Wd Z EL Fs s vm0 h' := W.step (CHr.wr w S W.2.1.2.1)
theorem Wd.keep {vm0 : Vm} {h h' : Heap} {ws : List Addr} (W : Wd Z EL Fs s vm0 h) (K : Keep h h' ws) (hs : ∀ x ∈ ws, Safe Z EL vm0 h x) : Wd Z EL Fs s vm0 h' := W.step (CHr.keep K hs W.2.1.2.1)
theorem Wd.call {vm0 : Vm} {h : Heap} {T T' : State} (W : Wd Z EL Fs s vm0 h) (q : T.heap = h) (hS1 : (s.setVm vm0).Since T'.vm T'.heap.size) (hg : T.heap.size ≤ T'.heap.size) (C : CHr Z EL vm0 h T'.vm T'.heap) : Wd Z EL Fs s T'.vm T'.heap := by
  obtain ⟨⟨k0, hS, hk⟩, W1, C0⟩ := W
  exact ⟨⟨_, hS.trans hS1 (Nat.le_trans hk (by rw [← q]; exact hg)), Nat.le_refl _⟩, W1.step (State.Warmed39.trans (t := s.setVm vm0) W1.1 hS1.1) C, C0.trans C⟩
theorem Wi.at {vm0 : Vm} {locs : List Loc} {cells slots : Nat} (W : Wi Z EL Fs vm0 h) (X : Stand p l e R (s.setVm vm0) m args below meth c T locs cells slots) : Wi Z EL Fs T.vm h ∧ CHr Z EL vm0 h T.vm h := by
  obtain ⟨a1, w⟩ := W.2.2.1
  have C := CHv.at X W.1 w W.2.1
  exact ⟨W.step (wtrans (s := s.setVm vm0) W.1 X.warmed) C, C⟩
theorem Wi.sub {vm0 : Vm} {F0 : List Addr} (W : Wi Z EL Fs vm0 h) (hF : ∀ x ∈ F0, x ∈ Fs) : Wi Z EL F0 vm0 h := ⟨W.1, W.2.1, W.2.2.1, fun x hx => W.2.2.2 x (hF x hx)⟩
theorem Sd.sub {F0 : List Addr} (X : Sd Z EL Fs n0 p l e R s m args below meth c T h k n) (hF : ∀ x ∈ F0, x ∈ Fs) : Sd Z EL F0 n0 p l e R s m args below meth c T h k n := by
  obtain ⟨vm0, L, X, N, q, W⟩ := X
  exact ⟨vm0, L, X, N, q, W.1, W.2.1.sub hF, W.2.2⟩
theorem exa_lt {h : Heap} {a : Addr} {C : String} (E : Exa Z h a C) : a < h.size := by obtain ⟨c, _, h1, -⟩ := E; exact (Array.getElem?_eq_some_iff.mp h1).1
/-- a cell made by the last step is no literal's -/
theorem Wd.new {vm0 : Vm} {h h' : Heap} (W : Wd Z EL Fs s vm0 h) (E : Ext h h') (q : h.size < h'.size) : Wd Z EL (h.size :: Fs) s vm0 h' := by
  have W1 := W.ext E
  refine ⟨W1.1, ⟨W1.2.1.1, W1.2.1.2.1, W1.2.1.2.2.1, fun x hx => ?_⟩, W1.2.2⟩
  rcases List.mem_cons.mp hx with rfl | hx
  · exact ⟨q, Safe.ext E W.2.1.2.1 (Safe.new (Nat.le_refl _))⟩
  · exact W1.2.1.2.2.2 x hx
theorem f0n : ∀ x ∈ ([] : List Addr), x ∈ Fs := fun _ q => nomatch q
theorem f0s {a : Addr} {L : List Addr} (q : a ∈ Fs) (r : ∀ x ∈ L, x ∈ Fs) : ∀ x ∈ a :: L, x ∈ Fs := fun x hx => by
  rcases List.mem_cons.mp hx with rfl | hx
  · exact q
  · exact r x hx
theorem backW {y : MethodName} {bytes : ByteArray} {maxL : Nat} {ret : Option FieldType} {rm : Room} {len W : Nat} {as' : Array Value} {Q : Option Value → Heap → Prop} {F0 : List Addr} {vm0 : Vm}
    (hM : Met l Z EL F0 S1 n0 y bytes maxL ret [] rm as' h Q) (hW : Wi Z EL Fs vm0 h) (hF0 : ∀ x ∈ F0, x ∈ Fs) (wc : (Cond.code y bytes maxL ret).before a0 Z = true) (wz : (Cond.initialized y.cls).before a0 Z = true) (hf : rm.frames + 1 ≤ R.frames) (hl : W + (maxL + 11) + rm.locals ≤ R.locals) :
    BackS l R p e below (s.setVm vm0) args y len W (fun A a => a = as' ∧ A.U.heap = h ∧ A.cells + rm.cells ≤ R.cells ∧ A.slots + rm.slots ≤ R.slots)
      (fun A _ v B => ∃ L, (Q v B.U.heap ∧ Fr n0 L) ∧ B.locs = A.locs ++ L ∧ B.cells = A.cells + rm.cells ∧ B.slots = A.slots + rm.slots ∧ CHr Z EL vm0 h B.U.vm B.U.heap ∧ ∀ x, S1 v B.U.heap x → x < B.U.heap.size ∧ Safe Z EL B.U.vm B.U.heap x) :=
  BackS.of_freeW (bytes := bytes) (maxL := maxL) (ret := ret) (E := fun _ first o t L k n => k = rm.cells ∧ n = rm.slots ∧ (∃ v, o = .returned v ∧ (Q v t.heap ∧ Fr n0 L) ∧ ∀ x, S1 v t.heap x → x < t.heap.size ∧ Safe Z EL t.vm t.heap x) ∧ CHr Z EL first.vm first.heap t.vm t.heap) hM hf hl
    (fun m meth c A a Y hp => have hU : Z.Warmed39 A.U.vm := wtrans (s := s.setVm vm0) hW.1 Y.warmed
      ⟨by show (Cond.and _ .tt).before a A.U = true; rw [Cond.before_and, mv hU wc]; rfl, mv hU wc, mv hU wz, hp.2.2.1, hp.2.2.2⟩)
    (fun m meth c A a g mk Y hp => ⟨hp.1, hp.2.1, ((hW.at Y).1.sub hF0)⟩) (fun _ _ _ _ _ _ _ _ _ => trivial)
    (fun _ _ _ _ ⟨v, L, h1, h2, h3, h4, h5⟩ => ⟨L, _, _, h5, rfl, rfl, ⟨v, h1, h2, h4⟩, h3⟩)
    (fun m meth c A a g mk v t L k n Y hp _ _ ⟨e1, e2, ⟨v', e3, e4, e5⟩, e6⟩ => by
      cases e3; subst e1 e2
      refine ⟨L, e4, rfl, rfl, rfl, (hW.at Y).2.trans ?_, e5⟩
      rw [← hp.2.1]; exact e6)
theorem enter {y : MethodName} {bytes : ByteArray} {maxL : Nat} {ret : Option FieldType} {ws : List Cond} {rm : Room} {as : Array Value} {h0 : Heap} {Q : Option Value → Heap → Prop} {Ls : Array Slot}
    (hpl : plainFor y = true) (hef : ∀ m, entryFrame m as maxL = mkF m 0 Ls [])
    (body : ∀ (p : Program) (e : Env) (s : State) (m : MethodId) (below : List Frame) (meth : Method) (c : Code) (T0 : State), p.tables.exec = Jvm.exec → c.code = bytes → c.maxLocals = maxL → s.vm.findClass y.cls = some m.cls → meth.name = y.name → meth.sig.returnType = ret → meth.locks = false → Z.Warmed39 s.vm →
      Sd Z EL Fs n0 p l e rm s m as below meth c T0 h0 0 0 → Go p.tables e below (Ret Z EL S1 s n0 Q rm.cells rm.slots) (T0.setTop (mkF m 0 Ls []))) : Met l Z EL Fs S1 n0 y bytes maxL ret ws rm as h0 Q := by
  refine MetFree.of_bodySF hpl hisR ?_
  intro p e s m args below meth c s₁ Bd hml0 hP hK
  obtain ⟨rfl, hh, hW⟩ := hP
  have X0 : Stand p l e rm s m args below meth c s₁ [] 0 0 := Stand.of_body Bd
  have e0 : s₁.heap = h0 := by rw [← hh, Bd.state]; rfl
  have hlk : meth.locks = false := BodyLoose.notSynchronized Bd
  have hX : Stand p l e rm (s.setVm s.vm) m args below meth c s₁ [] 0 0 := X0
  have k := body p e s m below meth c s₁ Bd.exec Bd.bytes hml0 (findClass_of_methodNamed Bd.named) (name_of_methodNamed Bd.named Bd.method).1 Bd.returns hlk hW.1 ⟨s.vm, [], hX, Fr.nil n0, e0, ⟨0, (State.WarmedH.refl s).since 0, Nat.zero_le _⟩, hW, by rw [hh]; exact CHr.refl hW.2.1⟩
  obtain ⟨s₂, o, h1, h2, h3, h4⟩ := k
  exact ⟨s₂, o, castTop (hef m) h1, h2, h3, h4⟩
theorem Go.leave (X : Sd Z EL Fs n0 p l e R s m args below meth c T h k n) {Q : Option Value → Heap → Prop} {C S : Nat} {v : Option Value} {g : JFrame} (hlk : meth.locks = false) (hv : meth.sig.returnType = none → v = none)
    (hst : ∀ fs, (∀ (f : JFrame) (acts : List Action), f.method = m → f.locked = none → f.entered = [] → (doReturn e (T.setTop f) acts v).1 = T.setFrames fs) → Steps p.tables e below (T.setTop g) (T.setFrames fs))
    (hk : k ≤ C) (hn : n ≤ S) (hS1 : ∀ x, S1 v h x → x ∈ Fs) (hQ : Q v h) : Go p.tables e below (Ret Z EL S1 s n0 Q C S) (T.setTop g) := by
  obtain ⟨vm0, L, X, N, q, ⟨k0, hS, hk0⟩, W, C0⟩ := X
  obtain ⟨fs, hr, hrun, hended, hR⟩ := (X.more hk hn).leaveW hS (by rw [q]; exact hk0) (v := v) hv hlk
  have A := W.at X
  refine ⟨_, _, hst fs hr, hrun, hended, _, L, rfl, ⟨?_, N⟩, ?_, ?_, hR⟩
  · show Q v T.heap
    rw [q]; exact hQ
  · show CHr Z EL s.vm s.heap T.vm T.heap
    rw [q]; exact C0.trans A.2
  · intro x hx
    have := A.1.2.2.2 x (hS1 x (by rw [← q]; exact hx))
    show x < T.heap.size ∧ Safe Z EL T.vm T.heap x
    rw [q]; exact this

theorem catV {v : Value} (h : v.isRef = true) : v.category = 1 := by cases v <;> first | rfl | (cases h; done)
theorem Sd.here (X : Sd Z EL Fs n0 p l e R s m args below meth c T h k n) : At T m c below := by obtain ⟨_, _, X, -⟩ := X; exact X.here
theorem Sd.more (X : Sd Z EL Fs n0 p l e R s m args below meth c T h k n) {k' n' : Nat} (hk : k ≤ k') (hn : n ≤ n') : Sd Z EL Fs n0 p l e R s m args below meth c T h k' n' := by
  obtain ⟨vm0, L, X, N, q, W⟩ := X; exact ⟨vm0, L, X.more hk hn, N, q, W⟩
/-! returns -/
theorem Go.retN (X : Sd Z EL Fs n0 p l e R s m args below meth c T h k n) (hx : p.tables.exec = Jvm.exec) (hlk : meth.locks = false) {Q : Option Value → Heap → Prop} {C S : Nat} {t : FieldType} {pc : Nat} {Ls : Array Slot} {z z' : Int32} {rest : List Value} (hret : meth.sig.returnType = some t) (ht : t = .boolean ∨ t = .byte ∨ t = .char ∨ t = .short)
    (hd : decode c.code pc = .ok (.ireturn, 1)) (hz : nar t z = z') (hk : k ≤ C) (hn : n ≤ S) (hS1 : ∀ x, S1 (some (.int z')) h x → x ∈ Fs) (hQ : Q (some (.int z')) h) : Go p.tables e below (Ret Z EL S1 s n0 Q C S) (T.setTop (mkF m pc Ls (.int z :: rest))) := by
  subst hz
  refine Go.leave X hlk (fun q => by rw [hret] at q; cases q) (fun fs hr => ?_) hk hn hS1 hQ
  obtain ⟨vm0, L, X, -, q, Wd0⟩ := X
  exact Jvm.RoadKit.retN X hx hret ht hd hr
theorem Go.retI (X : Sd Z EL Fs n0 p l e R s m args below meth c T h k n) (hx : p.tables.exec = Jvm.exec) (hlk : meth.locks = false) {Q : Option Value → Heap → Prop} {C S : Nat} {pc : Nat} {Ls : Array Slot} {z : Int32} {rest : List Value} (hret : meth.sig.returnType = some .int)
    (hd : decode c.code pc = .ok (.ireturn, 1)) (hk : k ≤ C) (hn : n ≤ S) (hS1 : ∀ x, S1 (some (.int z)) h x → x ∈ Fs) (hQ : Q (some (.int z)) h) : Go p.tables e below (Ret Z EL S1 s n0 Q C S) (T.setTop (mkF m pc Ls (.int z :: rest))) := by
  refine Go.leave X hlk (fun q => by rw [hret] at q; cases q) (fun fs hr => ?_) hk hn hS1 hQ
  obtain ⟨vm0, L, X, -, q, Wd0⟩ := X
  exact retOut X hx hret rfl (Or.inl ⟨rfl, Or.inl rfl, _, rfl⟩) hd hr
theorem Go.retL (X : Sd Z EL Fs n0 p l e R s m args below meth c T h k n) (hx : p.tables.exec = Jvm.exec) (hlk : meth.locks = false) {Q : Option Value → Heap → Prop} {C S : Nat} {pc : Nat} {Ls : Array Slot} {z : Int64} {rest : List Value} (hret : meth.sig.returnType = some .long)
    (hd : decode c.code pc = .ok (.lreturn, 1)) (hk : k ≤ C) (hn : n ≤ S) (hS1 : ∀ x, S1 (some (.long z)) h x → x ∈ Fs) (hQ : Q (some (.long z)) h) : Go p.tables e below (Ret Z EL S1 s n0 Q C S) (T.setTop (mkF m pc Ls (.long z :: rest))) := by
  refine Go.leave X hlk (fun q => by rw [hret] at q; cases q) (fun fs hr => ?_) hk hn hS1 hQ
  obtain ⟨vm0, L, X, -, q, Wd0⟩ := X
  exact retOut X hx hret rfl (Or.inr (Or.inl ⟨rfl, rfl, _, rfl⟩)) hd hr
theorem Go.retA (X : Sd Z EL Fs n0 p l e R s m args below meth c T h k n) (hx : p.tables.exec = Jvm.exec) (hlk : meth.locks = false) {Q : Option Value → Heap → Prop} {C S : Nat} {t : FieldType} {pc : Nat} {Ls : Array Slot} {w : Value} {rest : List Value} (hret : meth.sig.returnType = some t) (ht : t.isReference = true) (hw : w.isRef = true)
    (hd : decode c.code pc = .ok (.areturn, 1)) (hk : k ≤ C) (hn : n ≤ S) (hS1 : ∀ x, S1 (some w) h x → x ∈ Fs) (hQ : Q (some w) h) : Go p.tables e below (Ret Z EL S1 s n0 Q C S) (T.setTop (mkF m pc Ls (w :: rest))) := by
  refine Go.leave X hlk (fun q => by rw [hret] at q; cases q) (fun fs hr => ?_) hk hn hS1 hQ
  obtain ⟨vm0, L, X, -, q, Wd0⟩ := X
  have hnar : narrow t w = w := by cases t <;> first | (cases ht; done) | (cases w <;> first | rfl | (cases hw; done))
  exact retOut X hx hret hnar (Or.inr (Or.inr (Or.inr (Or.inr ⟨rfl, ht, hw⟩)))) hd hr
theorem Go.ret0 (X : Sd Z EL Fs n0 p l e R s m args below meth c T h k n) (hx : p.tables.exec = Jvm.exec) (hlk : meth.locks = false) {Q : Option Value → Heap → Prop} {C S : Nat} {pc : Nat} {Ls : Array Slot} (hret : meth.sig.returnType = none)
    (hd : decode c.code pc = .ok (.return_, 1)) (hk : k ≤ C) (hn : n ≤ S) (hS1 : ∀ x, S1 none h x → x ∈ Fs) (hQ : Q none h) : Go p.tables e below (Ret Z EL S1 s n0 Q C S) (T.setTop (mkF m pc Ls [])) := by
  refine Go.leave X hlk (fun _ => rfl) (fun fs hr => ?_) hk hn hS1 hQ
  obtain ⟨vm0, L, X, -, q, Wd0⟩ := X
  exact X.returnOut hx hret hd hr
/-! fields, statics, casts -/
theorem Sd.getF (X : Sd Z EL Fs n0 p l e R s m args below meth c T h k n) (hx : p.tables.exec = Jvm.exec) (hZ : Z.Warmed39 s.vm) {own R0 O nm d host : String} {index : Nat} (hown : s.vm.findClass own = some m.cls) (w : (Cond.fieldLink own index R0 nm d).before a0 Z = true ∨ (Cond.fieldLinkNest own index R0 nm d host).before a0 Z = true) (via : Via Z R0 O nm d)
    {a : Addr} {v : Value} (F : Fld Z h a O nm d v) {g : JFrame} (hg : g.method = m) {rest : List Value} (hs : g.stack = .ref a :: rest) (hd : decode c.code g.pc = .ok (.getfield index, 3)) :
    ∃ T', Sd Z EL Fs n0 p l e R s m args below meth c T' h k n ∧ ∀ target, Steps p.tables e below (T'.setTop { g with pc := g.pc + 3, stack := v :: rest }) target → Steps p.tables e below (T.setTop g) target := by
  obtain ⟨vm0, L, X, N, q, Wd0⟩ := X
  replace hown := Wd0.own hown
  replace hZ := Wd0.hz (s := s)
  obtain ⟨T', X', e', st⟩ := Jvm.RoadKit.getF X hx hZ hown w via q F hg hs hd
  exact ⟨T', ⟨vm0, L, X', N, e', Wd0⟩, st⟩
theorem Sd.getS (X : Sd Z EL Fs n0 p l e R s m args below meth c T h k n) (hx : p.tables.exec = Jvm.exec) (hZ : Z.Warmed39 s.vm) {own R0 O nm d host : String} {index : Nat} (hown : s.vm.findClass own = some m.cls) (w : (Cond.fieldLink own index R0 nm d).before a0 Z = true ∨ (Cond.fieldLinkNest own index R0 nm d host).before a0 Z = true) (via : Via Z R0 O nm d)
    {v : Value} (F : Sta Z h O nm d v) {g : JFrame} (hg : g.method = m) (hd : decode c.code g.pc = .ok (.getstatic index, 3)) :
    ∃ T', Sd Z EL Fs n0 p l e R s m args below meth c T' h k n ∧ ∀ target, Steps p.tables e below (T'.setTop { g with pc := g.pc + 3, stack := v :: g.stack }) target → Steps p.tables e below (T.setTop g) target := by
  obtain ⟨vm0, L, X, N, q, Wd0⟩ := X
  replace hown := Wd0.own hown
  replace hZ := Wd0.hz (s := s)
  obtain ⟨T', X', e', st⟩ := getS2 X hx hZ hown w via q F hg hd
  exact ⟨T', ⟨vm0, L, X', N, e', Wd0⟩, st⟩
theorem Sd.putF (X : Sd Z EL Fs n0 p l e R s m args below meth c T h k n) (hx : p.tables.exec = Jvm.exec) (hZ : Z.Warmed39 s.vm) {own R0 O nm d host C : String} {index kk : Nat} {ty : FieldType} (hown : s.vm.findClass own = some m.cls) (w : (Cond.fieldLink own index R0 nm d).before a0 Z = true ∨ (Cond.fieldLinkNest own index R0 nm d host).before a0 Z = true) (via : Via Z R0 O nm d)
    {a : Addr} {v old : Value} (F : Fld Z h a O nm d old) (E : Exa Z h a C) (ga : n0 ≤ a) (hF : a ∈ Fs ∨ (C ≠ "java/lang/String" ∧ C ≠ "[B")) (L : (Cond.lays C O nm d).before a0 Z = true ∨ ((Cond.laysFinal C O nm d).before a0 Z = true ∧ own = O ∧ meth.name = "<init>")) (wi : (Cond.instantiable C kk).before a0 Z = true)
    (hty : parseFieldDescriptor d = some ty) (hnr : narrow ty v = v) (hf : fits ty v = true) {g : JFrame} (hg : g.method = m) {rest : List Value} (hs : g.stack = v :: .ref a :: rest) (hd : decode c.code g.pc = .ok (.putfield index, 3)) :
    ∃ T' h', Sd Z EL Fs n0 p l e R s m args below meth c T' h' k n ∧ Wr h h' a (slotOf Z O nm d) v ∧ ∀ target, Steps p.tables e below (T'.setTop { g with pc := g.pc + 3, stack := rest }) target → Steps p.tables e below (T.setTop g) target := by
  obtain ⟨vm0, Lc, X, N, q, Wd0⟩ := X
  replace hown := Wd0.own hown
  replace hZ := Wd0.hz (s := s)
  obtain ⟨T', h', X', e', W, st⟩ := Jvm.RoadKit.putF X hx hZ hown w via q F E L wi hty hnr hf hg hs hd
  exact ⟨T', h', ⟨vm0, _, X', Fr.snoc X' N ga, e', Wd0.wr W (hF.elim (fun z => Wd0.safe z) (fun z => Safe.exa Wd0.hz0.alike E z.1 z.2))⟩, W, st⟩
theorem Sd.putFN (X : Sd Z EL Fs n0 p l e R s m args below meth c T h k n) (hx : p.tables.exec = Jvm.exec) (hZ : Z.Warmed39 s.vm) {own R0 O nm d C : String} {index kk : Nat} {ty : FieldType} (hown : s.vm.findClass own = some m.cls) (w : (Cond.fieldLink own index R0 nm d).before a0 Z = true) (via : Via Z R0 O nm d)
    {a : Addr} {v v' old : Value} (F : Fld Z h a O nm d old) (E : Exa Z h a C) (ga : n0 ≤ a) (hF : a ∈ Fs ∨ (C ≠ "java/lang/String" ∧ C ≠ "[B")) (L : (Cond.lays C O nm d).before a0 Z = true ∨ ((Cond.laysFinal C O nm d).before a0 Z = true ∧ own = O ∧ meth.name = "<init>")) (wi : (Cond.instantiable C kk).before a0 Z = true)
    (hty : parseFieldDescriptor d = some ty) (hnr : narrow ty v = v') (hf : fits ty v' = true) {g : JFrame} (hg : g.method = m) {rest : List Value} (hs : g.stack = v :: .ref a :: rest) (hd : decode c.code g.pc = .ok (.putfield index, 3)) :
    ∃ T' h', Sd Z EL Fs n0 p l e R s m args below meth c T' h' k n ∧ Wr h h' a (slotOf Z O nm d) v' ∧ ∀ target, Steps p.tables e below (T'.setTop { g with pc := g.pc + 3, stack := rest }) target → Steps p.tables e below (T.setTop g) target := by
  obtain ⟨vm0, Lc, X, N, q, Wd0⟩ := X
  replace hown := Wd0.own hown
  replace hZ := Wd0.hz (s := s)
  obtain ⟨T', h', X', e', W, st⟩ := Jvm.RoadKit.putFN X hx hZ hown w via q F E L wi hty hnr hf hg hs hd
  exact ⟨T', h', ⟨vm0, _, X', Fr.snoc X' N ga, e', Wd0.wr W (hF.elim (fun z => Wd0.safe z) (fun z => Safe.exa Wd0.hz0.alike E z.1 z.2))⟩, W, st⟩
theorem Sd.castY (X : Sd Z EL Fs n0 p l e R s m args below meth c T h k n) (hx : p.tables.exec = Jvm.exec) (hZ : Z.Warmed39 s.vm) {own K : String} {index : Nat} (hown : s.vm.findClass own = some m.cls) (w : (Cond.classLink own index K).before a0 Z = true) {a : Addr} (F : Ins Z h a K true)
    {g : JFrame} (hg : g.method = m) {rest : List Value} (hs : g.stack = .ref a :: rest) (hd : decode c.code g.pc = .ok (.checkcast index, 3)) :
    ∃ T', Sd Z EL Fs n0 p l e R s m args below meth c T' h k n ∧ ∀ target, Steps p.tables e below (T'.setTop { g with pc := g.pc + 3 }) target → Steps p.tables e below (T.setTop g) target := by
  obtain ⟨vm0, L, X, N, q, Wd0⟩ := X
  replace hown := Wd0.own hown
  replace hZ := Wd0.hz (s := s)
  obtain ⟨T', X', e', st⟩ := Jvm.RoadKit.castY X hx hZ hown w q F hg hs hd
  exact ⟨T', ⟨vm0, L, X', N, e', Wd0⟩, st⟩
theorem Sd.instY (X : Sd Z EL Fs n0 p l e R s m args below meth c T h k n) (hx : p.tables.exec = Jvm.exec) (hZ : Z.Warmed39 s.vm) {own K : String} {index : Nat} (hown : s.vm.findClass own = some m.cls) (w : (Cond.classLink own index K).before a0 Z = true) {a : Addr} (F : Ins Z h a K true)
    {g : JFrame} (hg : g.method = m) {rest : List Value} (hs : g.stack = .ref a :: rest) (hd : decode c.code g.pc = .ok (.instanceof index, 3)) :
    ∃ T', Sd Z EL Fs n0 p l e R s m args below meth c T' h k n ∧ ∀ target, Steps p.tables e below (T'.setTop { g with pc := g.pc + 3, stack := .int 1 :: rest }) target → Steps p.tables e below (T.setTop g) target := by
  obtain ⟨vm0, L, X, N, q, Wd0⟩ := X
  replace hown := Wd0.own hown
  replace hZ := Wd0.hz (s := s)
  obtain ⟨T', X', e', st⟩ := Jvm.RoadKit.instY X hx hZ hown w q F hg hs hd
  exact ⟨T', ⟨vm0, L, X', N, e', Wd0⟩, st⟩
theorem Sd.instNull (X : Sd Z EL Fs n0 p l e R s m args below meth c T h k n) (hx : p.tables.exec = Jvm.exec) {index : Nat} {g : JFrame} (hg : g.method = m) {rest : List Value} (hs : g.stack = .null :: rest) (hd : decode c.code g.pc = .ok (.instanceof index, 3)) :
    ∀ target, Steps p.tables e below (T.setTop { g with pc := g.pc + 3, stack := .int 0 :: rest }) target → Steps p.tables e below (T.setTop g) target := by
  obtain ⟨vm0, L, X, -, q, Wd0⟩ := X
  exact X.instanceofNull hx hg hs hd
theorem Sd.ldcInt (X : Sd Z EL Fs n0 p l e R s m args below meth c T h k n) (hx : p.tables.exec = Jvm.exec) (hZ : Z.Warmed39 s.vm) {own : String} {index : Nat} {v : Int32} (hown : s.vm.findClass own = some m.cls) (w : (Cond.constant own index v).before a0 Z = true) {g : JFrame} (hg : g.method = m) (hd : decode c.code g.pc = .ok (.ldc index, 2)) :
    ∀ target, Steps p.tables e below (T.setTop { g with pc := g.pc + 2, stack := .int v :: g.stack }) target → Steps p.tables e below (T.setTop g) target := by
  obtain ⟨vm0, L, X, -, q, Wd0⟩ := X
  replace hown := Wd0.own hown
  replace hZ := Wd0.hz (s := s)
  exact X.ldcInt hx hown (mvT hZ w) hg hd
theorem Sd.ldc2Long (X : Sd Z EL Fs n0 p l e R s m args below meth c T h k n) (hx : p.tables.exec = Jvm.exec) (hZ : Z.Warmed39 s.vm) {own : String} {index : Nat} {v : Int64} (hown : s.vm.findClass own = some m.cls) (w : (Cond.constantLong own index v).before a0 Z = true) {g : JFrame} (hg : g.method = m) (hd : decode c.code g.pc = .ok (.ldc2_w index, 3)) :
    ∀ target, Steps p.tables e below (T.setTop { g with pc := g.pc + 3, stack := .long v :: g.stack }) target → Steps p.tables e below (T.setTop g) target := by
  obtain ⟨vm0, L, X, -, q, Wd0⟩ := X
  replace hown := Wd0.own hown
  replace hZ := Wd0.hz (s := s)
  exact X.ldc2Long hx hown (mvT hZ w) hg hd
theorem Sd.acmp {g : JFrame} (X : Sd Z EL Fs n0 p l e R s m args below meth c T h k n) (hx : p.tables.exec = Jvm.exec) (hg : g.method = m) {cd : ACond} {x y : Value} (h1 : x.isRef = true) (h2 : y.isRef = true) {rest : List Value} {o : Int} {pc0 pc' : Nat} {same : Bool} (hpc : g.pc = pc0)
    (hd : decode c.code g.pc = .ok (.if_acmp cd o, 3)) (hs : g.stack = y :: x :: rest) (hq : decide (x = y) = same) (ho : 0 ≤ (pc0 : Int) + o) (hp : pc' = if acV cd same = true then ((pc0 : Int) + o).toNat else pc0 + 3) :
    ∀ target, Steps p.tables e below (T.setTop { g with pc := pc', stack := rest }) target → Steps p.tables e below (T.setTop g) target := by
  obtain ⟨vm0, L, X, -, q, Wd0⟩ := X
  exact fun _ => Jvm.RoadKit.acmp X hx hg h1 h2 hpc hd hs hq ho hp
theorem Sd.getFR (X : Sd Z EL Fs n0 p l e R s m args below meth c T h k n) (hx : p.tables.exec = Jvm.exec) (hZ : Z.Warmed39 s.vm) {own O nm d : String} {index : Nat} (hown : s.vm.findClass own = some m.cls) (w : (Cond.fieldRef own index O nm d).before a0 Z = true)
    {a : Addr} {v : Value} (F : Fld Z h a O nm d v) {g : JFrame} (hg : g.method = m) {rest : List Value} (hs : g.stack = .ref a :: rest) (hd : decode c.code g.pc = .ok (.getfield index, 3)) :
    ∀ target, Steps p.tables e below (T.setTop { g with pc := g.pc + 3, stack := v :: rest }) target → Steps p.tables e below (T.setTop g) target := by
  obtain ⟨vm0, L, X, N, q, Wd0⟩ := X
  replace hown := Wd0.own hown
  replace hZ := Wd0.hz (s := s)
  obtain ⟨cell, cf, kk, i, f, h1, h2, h3, h4, h5, h6, h7⟩ := F
  have hT : Z.Warmed39 T.vm := wtrans hZ X.warmed
  have w' := Cond.fieldRef_warmed39 hT w
  have hcur : (Z.setVm T.vm).vm.findClass own = some m.cls := by show T.vm.findClass own = _; rw [X.warmed.alike.findClass]; exact hown
  obtain ⟨c', k', i', f', e1, e2⟩ := Cond.fieldRef_spec hcur w'
  obtain ⟨k2, hi, -⟩ := State.fieldFound?_setVm (s := Z) hT.alike h2
  cases e1.symm.trans hi
  intro target hrest
  subst hg
  jvm_step X.here [hx, hd, getfield.wp_ready (e := e) (s := T) (f := g) X.here.top e2 h3 hs (by rw [q]; exact h1) h4 h7]
  exact hrest
/-! making -/
theorem Sd.newOF (X : Sd Z EL Fs n0 p l e R s m args below meth c T h k n) (hx : p.tables.exec = Jvm.exec) (hZ : Z.Warmed39 s.vm) {own C : String} {index sz k' n' : Nat} (hown : s.vm.findClass own = some m.cls) (w : (Cond.classLink own index C).before a0 Z = true) (wi : (Cond.instantiable C sz).before a0 Z = true) (wz : (Cond.initialized C).before a0 Z = true)
    {g : JFrame} (hg : g.method = m) (hd : decode c.code g.pc = .ok (.new index, 3)) (hk : k + 1 = k') (hn : n + sz = n') (hc : k' ≤ R.cells) (hl : n' ≤ R.slots) :
    ∃ T' h' a, Sd Z EL (a :: Fs) n0 p l e R s m args below meth c T' h' k' n' ∧ a = h.size ∧ Ext h h' ∧ Exa Z h' a C ∧ (∀ {O nm d : String} {ty : FieldType}, Laid Z a0 C O nm d → parseFieldDescriptor d = some ty → Fld Z h' a O nm d (defaultValue ty)) ∧
      ∀ target, Steps p.tables e below (T'.setTop { g with pc := g.pc + 3, stack := .ref a :: g.stack }) target → Steps p.tables e below (T.setTop g) target := by
  subst hk hn
  obtain ⟨vm0, L, X, N, q, Wd0⟩ := X
  replace hown := Wd0.own hown
  replace hZ := Wd0.hz (s := s)
  obtain ⟨T', h', X', e', E, A, D, -, st⟩ := Jvm.RoadKit.newO X hx hZ hown w wi wz q hg hd hc hl
  exact ⟨T', h', _, ⟨vm0, L, X', N, e', Wd0.new E (exa_lt A)⟩, rfl, E, A, D, st⟩
theorem Sd.newO (X : Sd Z EL Fs n0 p l e R s m args below meth c T h k n) (hx : p.tables.exec = Jvm.exec) (hZ : Z.Warmed39 s.vm) {own C : String} {index sz k' n' : Nat} (hown : s.vm.findClass own = some m.cls) (w : (Cond.classLink own index C).before a0 Z = true) (wi : (Cond.instantiable C sz).before a0 Z = true) (wz : (Cond.initialized C).before a0 Z = true)
    {g : JFrame} (hg : g.method = m) (hd : decode c.code g.pc = .ok (.new index, 3)) (hk : k + 1 = k') (hn : n + sz = n') (hc : k' ≤ R.cells) (hl : n' ≤ R.slots) :
    ∃ T' h' a, Sd Z EL Fs n0 p l e R s m args below meth c T' h' k' n' ∧ a = h.size ∧ Ext h h' ∧ Exa Z h' a C ∧ (∀ {O nm d : String} {ty : FieldType}, Laid Z a0 C O nm d → parseFieldDescriptor d = some ty → Fld Z h' a O nm d (defaultValue ty)) ∧
      ∀ target, Steps p.tables e below (T'.setTop { g with pc := g.pc + 3, stack := .ref a :: g.stack }) target → Steps p.tables e below (T.setTop g) target := by
  subst hk hn
  obtain ⟨vm0, L, X, N, q, Wd0⟩ := X
  replace hown := Wd0.own hown
  replace hZ := Wd0.hz (s := s)
  obtain ⟨T', h', X', e', E, A, D, -, st⟩ := Jvm.RoadKit.newO X hx hZ hown w wi wz q hg hd hc hl
  exact ⟨T', h', _, ⟨vm0, L, X', N, e', Wd0.ext E⟩, rfl, E, A, D, st⟩
theorem Sd.initO (X : Sd Z EL Fs n0 p l e R s m args below meth c T h k n) (hx : p.tables.exec = Jvm.exec) (hZ : Z.Warmed39 s.vm) {own : String} {idx : Nat} (hown : s.vm.findClass own = some m.cls) (w1 : (Cond.methodLink own idx Lib.objectInit).before a0 Z = true) (w2 : (Cond.instanceMethod Lib.objectInit).before a0 Z = true)
    (w3 : (Cond.code Lib.objectInit ⟨#[0xb1]⟩ 1 none).before a0 Z = true) {g : JFrame} (hg : g.method = m) (hsize : g.locals.size = c.maxLocals) {a : Addr} {rest : List Value} (hs : g.stack = .ref a :: rest) (hd : decode c.code g.pc = .ok (.invokespecial idx, 3))
    (hf : 1 ≤ R.frames) (hl : 2 * g.monitorRoom + (rest.map fun v => v.category).sum + 12 ≤ R.locals) :
    ∃ T', Sd Z EL Fs n0 p l e R s m args below meth c T' h k n ∧ ∀ target, Steps p.tables e below (T'.setTop { g with pc := g.pc + 3, stack := rest }) target → Steps p.tables e below (T.setTop g) target := by
  obtain ⟨vm0, L, X, N, q, Wd0⟩ := X
  replace hown := Wd0.own hown
  replace hZ := Wd0.hz (s := s)
  obtain ⟨T', X', e', st⟩ := Jvm.RoadKit.initO X hx hZ hown w1 w2 w3 q hg hsize hs hd hf (W := 2 * g.monitorRoom + (rest.map fun v => v.category).sum) (Nat.le_refl _) hl
  exact ⟨T', ⟨vm0, L, X', N, e', Wd0⟩, st⟩
/-- an array of n' places, place i holds f i -/
def Avf (Z : State) (h : Heap) (a : Addr) (kc : ClassId) (ty : FieldType) (sz : Nat) (f : Nat → Value) : Prop := ∃ cl : Cell, Arr Z h a cl ty ∧ cl.cls = kc ∧ cl.slots.size = sz ∧ sz < 2 ^ 31 ∧ ∀ i, i < sz → cl.slots[i]? = some (f i) ∧ fits ty (f i) = true
theorem Avf.lt {h : Heap} {a : Addr} {kc : ClassId} {ty : FieldType} {sz : Nat} {f : Nat → Value} (F : Avf Z h a kc ty sz f) : a < h.size := by obtain ⟨_, A, -⟩ := F; exact A.lt
theorem Avf.ext {h h' : Heap} {a : Addr} {kc : ClassId} {ty : FieldType} {sz : Nat} {f : Nat → Value} (F : Avf Z h a kc ty sz f) (E : Ext h h') : Avf Z h' a kc ty sz f := by obtain ⟨cl, A, r⟩ := F; exact ⟨cl, A.ext E, r⟩
theorem Avf.other {h h' : Heap} {a b : Addr} {kc : ClassId} {ty : FieldType} {sz sl : Nat} {f : Nat → Value} {v : Value} (F : Avf Z h b kc ty sz f) (W : Wr h h' a sl v) (q : b ≠ a) : Avf Z h' b kc ty sz f := by obtain ⟨cl, A, r⟩ := F; exact ⟨cl, A.other W q, r⟩
theorem Avf.keep {h h' : Heap} {a : Addr} {kc : ClassId} {ty : FieldType} {sz : Nat} {f : Nat → Value} {ws : List Addr} (F : Avf Z h a kc ty sz f) (K : Keep h h' ws) (q : a ∉ ws) : Avf Z h' a kc ty sz f := by obtain ⟨cl, A, r⟩ := F; exact ⟨cl, ⟨K.2.1 a cl A.1 q, A.2⟩, r⟩
theorem Avf.cong {h : Heap} {a : Addr} {kc : ClassId} {ty : FieldType} {sz : Nat} {f g : Nat → Value} (F : Avf Z h a kc ty sz f) (q : ∀ i, i < sz → f i = g i) : Avf Z h a kc ty sz g := by
  obtain ⟨cl, A, r1, r2, r3, r4⟩ := F; exact ⟨cl, A, r1, r2, r3, fun i hi => by rw [← q i hi]; exact r4 i hi⟩
theorem Avf.set {h h' : Heap} {a : Addr} {kc : ClassId} {ty : FieldType} {sz : Nat} {f : Nat → Value} {v : Value} {j : Nat} (F : Avf Z h a kc ty sz f) (W : Wr h h' a j v) (hv : fits ty v = true) : Avf Z h' a kc ty sz (fun i => if i = j then v else f i) := by
  obtain ⟨cl, A, r1, r2, r3, r4⟩ := F
  refine ⟨_, A.same W, r1, by rw [sz_set]; exact r2, r3, fun i hi => ?_⟩
  by_cases q : i = j
  · subst q; simp [Cell.setSlot, r2, hi, hv]
  · simp [Cell.setSlot, q, r4 i hi, Array.getElem?_setIfInBounds_ne (Ne.symm q)]
theorem Avf.of_arv {h : Heap} {a : Addr} {kc : ClassId} {ty : FieldType} {z : Int32} {vs : List Value} {dv : Value} (F : Arv Z h a kc ty z vs dv) : Avf Z h a kc ty z.toNatClampNeg (fun i => vs.getD i dv) := by
  obtain ⟨cl, A, r1, r2, r3, H, G⟩ := F
  exact ⟨cl, A, r1, r2, (back32 r3).2, fun i hi => ⟨H i (by rw [r2]; exact hi), G i (by rw [r2]; exact hi)⟩⟩
theorem Sd.newPF (X : Sd Z EL Fs n0 p l e R s m args below meth c T h k n) (hx : p.tables.exec = Jvm.exec) (hZ : Z.Warmed39 s.vm) {aty : ArrayType} (w : (Cond.arrayClass (newarray.typeOf aty)).before a0 Z = true) {g : JFrame} (hg : g.method = m) (hd : decode c.code g.pc = .ok (.newarray aty, 2)) {z : Int32} {rest : List Value} (hs : g.stack = .int z :: rest)
    (hz : ¬ z < 0) {sz cap k' n' : Nat} (hsz : z.toNatClampNeg = sz) (hcap : sz ≤ cap) (hb : cap * 8 ≤ 536870912) (hk : k + 1 = k') (hn : n + cap = n') (hc : k' ≤ R.cells) (hl : n' ≤ R.slots) {ad : String} (had : "[" ++ (newarray.typeOf aty).toString = ad) :
    ∃ T' h' kc a, Sd Z EL (a :: Fs) n0 p l e R s m args below meth c T' h' k' n' ∧ a = h.size ∧ Ext h h' ∧ Exa Z h' a ad ∧ Avf Z h' a kc (newarray.typeOf aty) sz (fun _ => defaultValue (newarray.typeOf aty)) ∧
      ∀ target, Steps p.tables e below (T'.setTop { g with pc := g.pc + 2, stack := .ref a :: rest }) target → Steps p.tables e below (T.setTop g) target := by
  subst hk hn hsz
  obtain ⟨vm0, L, X, N, q, Wd0⟩ := X
  replace hZ := Wd0.hz (s := s)
  obtain ⟨T', h', kc, X', e', E, A, Ex, st⟩ := Jvm.RoadKit.newPE X hx hZ w q hg hd hs hz hcap hb hc hl had
  refine ⟨T', h', kc, _, ⟨vm0, L, X', N, e', Wd0.new E (exa_lt Ex)⟩, rfl, E, Ex, ⟨_, A, rfl, sz_new _ _ _, (back32 hz).2, fun i hi => ⟨by simp [newA, hi], ?_⟩⟩, st⟩
  cases aty <;> rfl
theorem Sd.newP (X : Sd Z EL Fs n0 p l e R s m args below meth c T h k n) (hx : p.tables.exec = Jvm.exec) (hZ : Z.Warmed39 s.vm) {aty : ArrayType} (w : (Cond.arrayClass (newarray.typeOf aty)).before a0 Z = true) {g : JFrame} (hg : g.method = m) (hd : decode c.code g.pc = .ok (.newarray aty, 2)) {z : Int32} {rest : List Value} (hs : g.stack = .int z :: rest)
    (hz : ¬ z < 0) {sz cap k' n' : Nat} (hsz : z.toNatClampNeg = sz) (hcap : sz ≤ cap) (hb : cap * 8 ≤ 536870912) (hk : k + 1 = k') (hn : n + cap = n') (hc : k' ≤ R.cells) (hl : n' ≤ R.slots) {ad : String} (had : "[" ++ (newarray.typeOf aty).toString = ad) :
    ∃ T' h' kc a, Sd Z EL Fs n0 p l e R s m args below meth c T' h' k' n' ∧ a = h.size ∧ Ext h h' ∧ Exa Z h' a ad ∧ Avf Z h' a kc (newarray.typeOf aty) sz (fun _ => defaultValue (newarray.typeOf aty)) ∧
      ∀ target, Steps p.tables e below (T'.setTop { g with pc := g.pc + 2, stack := .ref a :: rest }) target → Steps p.tables e below (T.setTop g) target := by
  subst hk hn hsz
  obtain ⟨vm0, L, X, N, q, Wd0⟩ := X
  replace hZ := Wd0.hz (s := s)
  obtain ⟨T', h', kc, X', e', E, A, Ex, st⟩ := Jvm.RoadKit.newPE X hx hZ w q hg hd hs hz hcap hb hc hl had
  refine ⟨T', h', kc, _, ⟨vm0, L, X', N, e', Wd0.ext E⟩, rfl, E, Ex, ⟨_, A, rfl, sz_new _ _ _, (back32 hz).2, fun i hi => ⟨by simp [newA, hi], ?_⟩⟩, st⟩
  cases aty <;> rfl
theorem Sd.newR (X : Sd Z EL Fs n0 p l e R s m args below meth c T h k n) (hx : p.tables.exec = Jvm.exec) (hZ : Z.Warmed39 s.vm) {own C : String} {index : Nat} (hown : s.vm.findClass own = some m.cls) (w1 : (Cond.classLink own index C).before a0 Z = true) (w2 : (Cond.arrayOver (.object C)).before a0 Z = true)
    {g : JFrame} (hg : g.method = m) (hd : decode c.code g.pc = .ok (.anewarray index, 3)) {z : Int32} {rest : List Value} (hs : g.stack = .int z :: rest)
    (hz : ¬ z < 0) {sz cap k' n' : Nat} (hsz : z.toNatClampNeg = sz) (hcap : sz ≤ cap) (hb : cap * 8 ≤ 536870912) (hk : k + 1 = k') (hn : n + cap = n') (hc : k' ≤ R.cells) (hl : n' ≤ R.slots) {ad : String} (had : "[" ++ (FieldType.object C).toString = ad) :
    ∃ T' h' kc a, Sd Z EL Fs n0 p l e R s m args below meth c T' h' k' n' ∧ a = h.size ∧ Ext h h' ∧ Exa Z h' a ad ∧ Avf Z h' a kc (.object C) sz (fun _ => .null) ∧ Ovr Z kc C ∧
      ∀ target, Steps p.tables e below (T'.setTop { g with pc := g.pc + 3, stack := .ref a :: rest }) target → Steps p.tables e below (T.setTop g) target := by
  subst hk hn hsz
  obtain ⟨vm0, L, X, N, q, Wd0⟩ := X
  replace hown := Wd0.own hown
  replace hZ := Wd0.hz (s := s)
  obtain ⟨T', h', kc, X', e', E, A, Ex, O, st⟩ := Jvm.RoadKit.newRE X hx hZ hown w1 w2 q hg hd hs hz hcap hb hc hl had
  exact ⟨T', h', kc, _, ⟨vm0, L, X', N, e', Wd0.ext E⟩, rfl, E, Ex, ⟨_, A, rfl, sz_new _ _ _, (back32 hz).2, fun i hi => ⟨by simp [newA, hi, defaultValue], rfl⟩⟩, O, st⟩
theorem Sd.clone (X : Sd Z EL Fs n0 p l e R s m args below meth c T h k n) (hx : p.tables.exec = Jvm.exec) (hZ : Z.Warmed39 s.vm) {own ad : String} {index : Nat} (hown : s.vm.findClass own = some m.cls)
    (w1 : (Cond.methodLink own index ⟨ad, "clone", "()Ljava/lang/Object;"⟩).before a0 Z = true) (w2 : (Cond.sameMethod ad "java/lang/Object" "clone" "()Ljava/lang/Object;").before a0 Z = true) (w3 : (Cond.native ⟨"java/lang/Object", "clone", "()Ljava/lang/Object;"⟩).before a0 Z = true)
    (w4 : (Cond.instanceMethod ⟨"java/lang/Object", "clone", "()Ljava/lang/Object;"⟩).before a0 Z = true) (w5 : (Cond.selects ad ⟨ad, "clone", "()Ljava/lang/Object;"⟩ ⟨"java/lang/Object", "clone", "()Ljava/lang/Object;"⟩).before a0 Z = true) (w6 : (Cond.castable ad "java/lang/Cloneable").before a0 Z = true)
    {a : Addr} {kc : ClassId} {ty : FieldType} {sz : Nat} {f : Nat → Value} (F : Avf Z h a kc ty sz f) (E : Exa Z h a ad) {g : JFrame} (hg : g.method = m) (hsize : g.locals.size = c.maxLocals) {rest : List Value} (hst : g.stack = .ref a :: rest) (hd : decode c.code g.pc = .ok (.invokevirtual index, 3))
    (hf : 1 ≤ R.frames) (hl : 2 * g.monitorRoom + (rest.map fun v => v.category).sum + 14 ≤ R.locals) {cap k' n' : Nat} (hcap : sz ≤ cap) (hk : k + 1 = k') (hn : n + cap = n') (hc : k' ≤ R.cells) (hs : n' ≤ R.slots) :
    ∃ T' h' b, Sd Z EL Fs n0 p l e R s m args below meth c T' h' k' n' ∧ b = h.size ∧ Ext h h' ∧ Exa Z h' b ad ∧ Avf Z h' b kc ty sz f ∧ ∀ target, Steps p.tables e below (T'.setTop { g with pc := g.pc + 3, stack := .ref b :: rest }) target → Steps p.tables e below (T.setTop g) target := by
  subst hk hn
  obtain ⟨vm0, L, X, N, q, Wd0⟩ := X
  replace hown := Wd0.own hown
  replace hZ := Wd0.hz (s := s)
  obtain ⟨cl, A, r1, r2, r3, r4⟩ := F
  have FC : FitC Z cl := fitC_of A fun i hi v hv => by rw [(r4 i (r2 ▸ hi)).1] at hv; cases hv; exact (r4 i (r2 ▸ hi)).2
  obtain ⟨T', h', X', e', ex, A', E', st⟩ := cloneA X hx hZ hown w1 w2 w3 w4 w5 w6 q A E FC hg hsize hst hd hf (W := 2 * g.monitorRoom + (rest.map fun v => v.category).sum) (Nat.le_refl _) hl (by rw [r2]; exact hcap) hc hs
  exact ⟨T', h', _, ⟨vm0, L, X', N, e', Wd0.ext ex⟩, rfl, ex, E', ⟨cloneOf cl, A', r1, r2, r3, r4⟩, st⟩
theorem Avf.arv {h : Heap} {a : Addr} {kc : ClassId} {ty : FieldType} {sz : Nat} {f : Nat → Value} (F : Avf Z h a kc ty sz f) (d : Value) : Arv Z h a kc ty sz.toInt32 ((List.range sz).map f) d := by
  obtain ⟨cl, A, r1, r2, r3, r4⟩ := F
  have q1 : sz.toInt32.toInt = sz := len_toInt r3
  have q2 : sz.toInt32.toNatClampNeg = sz := by simp only [Int32.toNatClampNeg, q1]; omega
  have q3 : ¬ sz.toInt32 < 0 := by
    rw [Int32.lt_iff_toInt_lt, q1]
    have : (0 : Int32).toInt = 0 := rfl
    omega
  have g : ∀ i, i < sz → ((List.range sz).map f).getD i d = f i := fun i hi => by simp [List.getD_eq_getElem?_getD, hi]
  refine ⟨cl, A, r1, by rw [q2]; exact r2, q3, fun i hi => ?_, fun i hi => ?_⟩
  · rw [g i (r2 ▸ hi)]; exact (r4 i (r2 ▸ hi)).1
  · rw [g i (r2 ▸ hi)]; exact (r4 i (r2 ▸ hi)).2
theorem Sd.acopy (X : Sd Z EL Fs n0 p l e R s m args below meth c T h k n) (hx : p.tables.exec = Jvm.exec) (hZ : Z.Warmed39 s.vm) {own : String} {index : Nat} (hown : s.vm.findClass own = some m.cls)
    (w1 : (Cond.methodLink own index Jvm.Stand.acN).before a0 Z = true) (w2 : (Cond.native Jvm.Stand.acN).before a0 Z = true) (w3 : (Cond.static Jvm.Stand.acN).before a0 Z = true) (w4 : (Cond.initialized "java/lang/System").before a0 Z = true)
    {a b : Addr} {ka kb : ClassId} {ty : FieldType} {sa sb : Nat} {f f' : Nat → Value} (A : Avf Z h a ka ty sa f) (B : Avf Z h b kb ty sb f') (hty : refKind ty = false) (gb : n0 ≤ b) (hF : b ∈ Fs ∨ ty ≠ .byte) {sp dp nn : Int32} (h1 : ¬ sp < 0) (h2 : ¬ dp < 0) (h3 : ¬ nn < 0) {i j cc : Nat} (hi : sp.toNatClampNeg = i) (hj : dp.toNatClampNeg = j) (hc : nn.toNatClampNeg = cc) (h4 : i + cc ≤ sa) (h5 : j + cc ≤ sb)
    {g : JFrame} (hg : g.method = m) (hsize : g.locals.size = c.maxLocals) {rest : List Value} (hs : g.stack = .int nn :: .int dp :: .ref b :: .int sp :: .ref a :: rest) (hd : decode c.code g.pc = .ok (.invokestatic index, 3))
    (hf : 1 ≤ R.frames) (hlo : 2 * g.monitorRoom + (rest.map fun v => v.category).sum + (nativeFrameWords "java/lang/System" "arraycopy" 5 + 11) ≤ R.locals) :
    ∃ T' h', Sd Z EL Fs n0 p l e R s m args below meth c T' h' k n ∧ Keep h h' [b] ∧ Avf Z h' b kb ty sb (fun t => if j ≤ t ∧ t < j + cc then f (i + (t - j)) else f' t) ∧
      ∀ target, Steps p.tables e below (T'.setTop { g with pc := g.pc + 3, stack := rest }) target → Steps p.tables e below (T.setTop g) target := by
  subst hi hj hc
  obtain ⟨vm0, L, X, N, q, Wd0⟩ := X
  replace hown := Wd0.own hown
  replace hZ := Wd0.hz (s := s)
  have ra : sa.toInt32.toNatClampNeg = sa := by obtain ⟨_, _, _, _, r3, _⟩ := A; simp only [Int32.toNatClampNeg, len_toInt r3]; omega
  have rb : sb.toInt32.toNatClampNeg = sb := by obtain ⟨_, _, _, _, r3, _⟩ := B; simp only [Int32.toNatClampNeg, len_toInt r3]; omega
  obtain ⟨T', h', L', X', e', N', K, V, st⟩ := cpA X hx hZ hown w1 w2 w3 w4 q (A.arv .null) (B.arv .null) (us := (List.range nn.toNatClampNeg).map fun t => ((List.range sa).map f).getD (sp.toNatClampNeg + t) .null) (Or.inl ⟨rfl, hty⟩) h1 h2 h3 (by rw [ra]; exact h4) (by rw [rb]; exact h5) rfl (by simpa using h5) N gb hg hsize hs hd hf (W := 2 * g.monitorRoom + (rest.map fun v => v.category).sum) (Nat.le_refl _) hlo
  refine ⟨T', h', ⟨vm0, L', X', N', e', Wd0.keep K (sfS (hF.elim (fun z => Wd0.safe z) (fun z => by obtain ⟨_, Ab, -⟩ := B; exact Safe.arr Wd0.hz0.alike Ab z)) sf0)⟩, K, ?_, st⟩
  have V' := Avf.of_arv V
  rw [rb] at V'
  refine V'.cong fun t ht => ?_
  have hj : dp.toNatClampNeg ≤ sb := by omega
  simp only [List.getD_eq_getElem?_getD]
  by_cases c1 : t < dp.toNatClampNeg
  · have c2 : ¬ (dp.toNatClampNeg ≤ t ∧ t < dp.toNatClampNeg + nn.toNatClampNeg) := by omega
    rw [if_neg c2, List.append_assoc, List.getElem?_append_left (by simp; omega)]
    simp [c1, ht]
  · by_cases c2 : t < dp.toNatClampNeg + nn.toNatClampNeg
    · have c3 : dp.toNatClampNeg ≤ t ∧ t < dp.toNatClampNeg + nn.toNatClampNeg := by omega
      have c4 : t - dp.toNatClampNeg < nn.toNatClampNeg := by omega
      have c5 : sp.toNatClampNeg + (t - dp.toNatClampNeg) < sa := by omega
      rw [if_pos c3, List.append_assoc, List.getElem?_append_right (by simp; omega), List.getElem?_append_left (by simp; omega)]
      simp [Nat.min_eq_left hj, c4, c5]
    · have c3 : ¬ (dp.toNatClampNeg ≤ t ∧ t < dp.toNatClampNeg + nn.toNatClampNeg) := by omega
      rw [if_neg c3, List.getElem?_append_right (by simp; omega)]
      have c6 : dp.toNatClampNeg + nn.toNatClampNeg + (t - (dp.toNatClampNeg + nn.toNatClampNeg)) = t := by omega
      simp [Nat.min_eq_left hj, c6, ht]
/-! arrays: length, load, store -/
theorem Sd.len (X : Sd Z EL Fs n0 p l e R s m args below meth c T h k n) (hx : p.tables.exec = Jvm.exec) (hZ : Z.Warmed39 s.vm) {a : Addr} {kc : ClassId} {ty : FieldType} {sz : Nat} {f : Nat → Value} (F : Avf Z h a kc ty sz f) {z : Int32} (hz : sz.toInt32 = z)
    {g : JFrame} (hg : g.method = m) {rest : List Value} (hs : g.stack = .ref a :: rest) (hd : decode c.code g.pc = .ok (.arraylength, 1)) :
    ∀ target, Steps p.tables e below (T.setTop { g with pc := g.pc + 1, stack := .int z :: rest }) target → Steps p.tables e below (T.setTop g) target := by
  obtain ⟨vm0, L, X, -, q, Wd0⟩ := X
  replace hZ := Wd0.hz (s := s)
  obtain ⟨cl, A, r1, r2, r3, r4⟩ := F
  intro t kt
  refine X.arraylength hx (by rw [q]; exact A.1) (State.isArrayOf_alike hZ.alike A.2.1) hg hs hd _ ?_
  rw [r2, hz]; exact kt
theorem inb {cl : Cell} {sz i : Nat} {j : Int32} (r2 : cl.slots.size = sz) (hj : ¬ j < 0) (hi : j.toNatClampNeg = i) (hlt : i < sz) : ¬ (j < 0 ∨ cl.slots.size ≤ j.toNatClampNeg) := fun q => q.elim hj fun q => by omega
theorem Sd.ldI (X : Sd Z EL Fs n0 p l e R s m args below meth c T h k n) (hx : p.tables.exec = Jvm.exec) (hZ : Z.Warmed39 s.vm) {a : Addr} {kc : ClassId} {sz : Nat} {f : Nat → Value} (F : Avf Z h a kc .int sz f) {j : Int32} (hj : ¬ j < 0) {i : Nat} (hi : j.toNatClampNeg = i) (hlt : i < sz) {v : Value} (hv : f i = v)
    {g : JFrame} (hg : g.method = m) {rest : List Value} (hs : g.stack = .int j :: .ref a :: rest) (hd : decode c.code g.pc = .ok (.iaload, 1)) :
    ∀ target, Steps p.tables e below (T.setTop { g with pc := g.pc + 1, stack := v :: rest }) target → Steps p.tables e below (T.setTop g) target := by
  subst hv
  obtain ⟨vm0, L, X, -, q, Wd0⟩ := X
  replace hZ := Wd0.hz (s := s)
  obtain ⟨cl, A, r1, r2, r3, r4⟩ := F
  exact X.iaload hx (by rw [q]; exact A.1) (State.isArrayOf_alike hZ.alike A.2.1) A.2.2 (inb r2 hj hi hlt) (by rw [hi]; exact (r4 i hlt).1) hg hs hd
theorem Sd.ldJ (X : Sd Z EL Fs n0 p l e R s m args below meth c T h k n) (hx : p.tables.exec = Jvm.exec) (hZ : Z.Warmed39 s.vm) {a : Addr} {kc : ClassId} {sz : Nat} {f : Nat → Value} (F : Avf Z h a kc .long sz f) {j : Int32} (hj : ¬ j < 0) {i : Nat} (hi : j.toNatClampNeg = i) (hlt : i < sz) {v : Value} (hv : f i = v)
    {g : JFrame} (hg : g.method = m) {rest : List Value} (hs : g.stack = .int j :: .ref a :: rest) (hd : decode c.code g.pc = .ok (.laload, 1)) :
    ∀ target, Steps p.tables e below (T.setTop { g with pc := g.pc + 1, stack := v :: rest }) target → Steps p.tables e below (T.setTop g) target := by
  subst hv
  obtain ⟨vm0, L, X, -, q, Wd0⟩ := X
  replace hZ := Wd0.hz (s := s)
  obtain ⟨cl, A, r1, r2, r3, r4⟩ := F
  exact X.laload hx (by rw [q]; exact A.1) (State.isArrayOf_alike hZ.alike A.2.1) A.2.2 (inb r2 hj hi hlt) (by rw [hi]; exact (r4 i hlt).1) hg hs hd
theorem Sd.ldC (X : Sd Z EL Fs n0 p l e R s m args below meth c T h k n) (hx : p.tables.exec = Jvm.exec) (hZ : Z.Warmed39 s.vm) {a : Addr} {kc : ClassId} {sz : Nat} {f : Nat → Value} (F : Avf Z h a kc .char sz f) {j : Int32} (hj : ¬ j < 0) {i : Nat} (hi : j.toNatClampNeg = i) (hlt : i < sz) {v : Value} (hv : f i = v)
    {g : JFrame} (hg : g.method = m) {rest : List Value} (hs : g.stack = .int j :: .ref a :: rest) (hd : decode c.code g.pc = .ok (.caload, 1)) :
    ∀ target, Steps p.tables e below (T.setTop { g with pc := g.pc + 1, stack := v :: rest }) target → Steps p.tables e below (T.setTop g) target := by
  subst hv
  obtain ⟨vm0, L, X, -, q, Wd0⟩ := X
  replace hZ := Wd0.hz (s := s)
  obtain ⟨cl, A, r1, r2, r3, r4⟩ := F
  exact X.caload hx (by rw [q]; exact A.1) (State.isArrayOf_alike hZ.alike A.2.1) A.2.2 (inb r2 hj hi hlt) (by rw [hi]; exact (r4 i hlt).1) hg hs hd
theorem Sd.ldB (X : Sd Z EL Fs n0 p l e R s m args below meth c T h k n) (hx : p.tables.exec = Jvm.exec) (hZ : Z.Warmed39 s.vm) {a : Addr} {kc : ClassId} {sz : Nat} {f : Nat → Value} (F : Avf Z h a kc .byte sz f) {j : Int32} (hj : ¬ j < 0) {i : Nat} (hi : j.toNatClampNeg = i) (hlt : i < sz) {v : Value} (hv : f i = v)
    {g : JFrame} (hg : g.method = m) {rest : List Value} (hs : g.stack = .int j :: .ref a :: rest) (hd : decode c.code g.pc = .ok (.baload, 1)) :
    ∀ target, Steps p.tables e below (T.setTop { g with pc := g.pc + 1, stack := v :: rest }) target → Steps p.tables e below (T.setTop g) target := by
  subst hv
  obtain ⟨vm0, L, X, -, q, Wd0⟩ := X
  replace hZ := Wd0.hz (s := s)
  obtain ⟨cl, A, r1, r2, r3, r4⟩ := F
  exact X.baloadBytes hx (by rw [q]; exact A.1) (State.isArrayOf_alike hZ.alike A.2.1) A.2.2 (inb r2 hj hi hlt) (by rw [hi]; exact (r4 i hlt).1) hg hs hd
theorem Sd.ldA (X : Sd Z EL Fs n0 p l e R s m args below meth c T h k n) (hx : p.tables.exec = Jvm.exec) (hZ : Z.Warmed39 s.vm) {a : Addr} {kc : ClassId} {ty : FieldType} {sz : Nat} {f : Nat → Value} (F : Avf Z h a kc ty sz f) (hty : ty.isReference = true) {j : Int32} (hj : ¬ j < 0) {i : Nat} (hi : j.toNatClampNeg = i) (hlt : i < sz) {v : Value} (hv : f i = v)
    {g : JFrame} (hg : g.method = m) {rest : List Value} (hs : g.stack = .int j :: .ref a :: rest) (hd : decode c.code g.pc = .ok (.aaload, 1)) :
    ∀ target, Steps p.tables e below (T.setTop { g with pc := g.pc + 1, stack := v :: rest }) target → Steps p.tables e below (T.setTop g) target := by
  subst hv
  obtain ⟨vm0, L, X, -, q, Wd0⟩ := X
  replace hZ := Wd0.hz (s := s)
  obtain ⟨cl, A, r1, r2, r3, r4⟩ := F
  exact X.aaload hx (by rw [q]; exact A.1) (State.isArrayOf_alike hZ.alike A.2.1) hty A.2.2 (inb r2 hj hi hlt) (by rw [hi]; exact (r4 i hlt).1) hg hs hd
theorem Sd.stI (X : Sd Z EL Fs n0 p l e R s m args below meth c T h k n) (hx : p.tables.exec = Jvm.exec) (hZ : Z.Warmed39 s.vm) {a : Addr} {kc : ClassId} {sz : Nat} {f : Nat → Value} (F : Avf Z h a kc .int sz f) (ga : n0 ≤ a) {j x : Int32} (hj : ¬ j < 0) {i : Nat} (hi : j.toNatClampNeg = i) (hlt : i < sz)
    {g : JFrame} (hg : g.method = m) {rest : List Value} (hs : g.stack = .int x :: .int j :: .ref a :: rest) (hd : decode c.code g.pc = .ok (.iastore, 1)) :
    ∃ T' h', Sd Z EL Fs n0 p l e R s m args below meth c T' h' k n ∧ Wr h h' a i (.int x) ∧ Avf Z h' a kc .int sz (fun t => if t = i then .int x else f t) ∧ ∀ target, Steps p.tables e below (T'.setTop { g with pc := g.pc + 1, stack := rest }) target → Steps p.tables e below (T.setTop g) target := by
  obtain ⟨vm0, L, X, N, q, Wd0⟩ := X
  replace hZ := Wd0.hz (s := s)
  obtain ⟨cl, A, r1, r2, r3, r4⟩ := F
  obtain ⟨T', h', X', e', W, st⟩ := Jvm.RoadKit.stI X hx hZ q A (inb r2 hj hi hlt) hg hs hd
  subst hi
  exact ⟨T', h', ⟨vm0, _, X', Fr.snoc X' N ga, e', Wd0.wr W (Safe.arr Wd0.hz0.alike A (fun z => by cases z))⟩, W, Avf.set ⟨cl, A, r1, r2, r3, r4⟩ W rfl, st⟩
theorem Sd.stJ (X : Sd Z EL Fs n0 p l e R s m args below meth c T h k n) (hx : p.tables.exec = Jvm.exec) (hZ : Z.Warmed39 s.vm) {a : Addr} {kc : ClassId} {sz : Nat} {f : Nat → Value} (F : Avf Z h a kc .long sz f) (ga : n0 ≤ a) {j : Int32} {x : Int64} (hj : ¬ j < 0) {i : Nat} (hi : j.toNatClampNeg = i) (hlt : i < sz)
    {g : JFrame} (hg : g.method = m) {rest : List Value} (hs : g.stack = .long x :: .int j :: .ref a :: rest) (hd : decode c.code g.pc = .ok (.lastore, 1)) :
    ∃ T' h', Sd Z EL Fs n0 p l e R s m args below meth c T' h' k n ∧ Wr h h' a i (.long x) ∧ Avf Z h' a kc .long sz (fun t => if t = i then .long x else f t) ∧ ∀ target, Steps p.tables e below (T'.setTop { g with pc := g.pc + 1, stack := rest }) target → Steps p.tables e below (T.setTop g) target := by
  obtain ⟨vm0, L, X, N, q, Wd0⟩ := X
  replace hZ := Wd0.hz (s := s)
  obtain ⟨cl, A, r1, r2, r3, r4⟩ := F
  obtain ⟨T', h', X', e', W, st⟩ := Jvm.RoadKit.stJ X hx hZ q A (inb r2 hj hi hlt) hg hs hd
  subst hi
  exact ⟨T', h', ⟨vm0, _, X', Fr.snoc X' N ga, e', Wd0.wr W (Safe.arr Wd0.hz0.alike A (fun z => by cases z))⟩, W, Avf.set ⟨cl, A, r1, r2, r3, r4⟩ W rfl, st⟩
theorem Sd.stB (X : Sd Z EL Fs n0 p l e R s m args below meth c T h k n) (hx : p.tables.exec = Jvm.exec) (hZ : Z.Warmed39 s.vm) {a : Addr} {kc : ClassId} {sz : Nat} {f : Nat → Value} (F : Avf Z h a kc .byte sz f) (ga : n0 ≤ a) (hF : a ∈ Fs) {j x : Int32} (hj : ¬ j < 0) {i : Nat} (hi : j.toNatClampNeg = i) (hlt : i < sz)
    {g : JFrame} (hg : g.method = m) {rest : List Value} (hs : g.stack = .int x :: .int j :: .ref a :: rest) (hd : decode c.code g.pc = .ok (.bastore, 1)) :
    ∃ T' h', Sd Z EL Fs n0 p l e R s m args below meth c T' h' k n ∧ Wr h h' a i (.int x.toInt8.toInt32) ∧ Avf Z h' a kc .byte sz (fun t => if t = i then .int x.toInt8.toInt32 else f t) ∧ ∀ target, Steps p.tables e below (T'.setTop { g with pc := g.pc + 1, stack := rest }) target → Steps p.tables e below (T.setTop g) target := by
  obtain ⟨vm0, L, X, N, q, Wd0⟩ := X
  replace hZ := Wd0.hz (s := s)
  obtain ⟨cl, A, r1, r2, r3, r4⟩ := F
  obtain ⟨T', h', X', e', W, st⟩ := Jvm.RoadKit.stB X hx hZ q A (inb r2 hj hi hlt) hg hs hd
  subst hi
  exact ⟨T', h', ⟨vm0, _, X', Fr.snoc X' N ga, e', Wd0.wr W (Wd0.safe hF)⟩, W, Avf.set ⟨cl, A, r1, r2, r3, r4⟩ W (fits_nar_byte _), st⟩
theorem Sd.stC (X : Sd Z EL Fs n0 p l e R s m args below meth c T h k n) (hx : p.tables.exec = Jvm.exec) (hZ : Z.Warmed39 s.vm) {a : Addr} {kc : ClassId} {sz : Nat} {f : Nat → Value} (F : Avf Z h a kc .char sz f) (ga : n0 ≤ a) {j x : Int32} (hj : ¬ j < 0) {i : Nat} (hi : j.toNatClampNeg = i) (hlt : i < sz)
    {g : JFrame} (hg : g.method = m) {rest : List Value} (hs : g.stack = .int x :: .int j :: .ref a :: rest) (hd : decode c.code g.pc = .ok (.castore, 1)) :
    ∃ T' h', Sd Z EL Fs n0 p l e R s m args below meth c T' h' k n ∧ Wr h h' a i (.int (nar .char x)) ∧ Avf Z h' a kc .char sz (fun t => if t = i then .int (nar .char x) else f t) ∧ ∀ target, Steps p.tables e below (T'.setTop { g with pc := g.pc + 1, stack := rest }) target → Steps p.tables e below (T.setTop g) target := by
  obtain ⟨vm0, L, X, N, q, Wd0⟩ := X
  replace hZ := Wd0.hz (s := s)
  obtain ⟨cl, A, r1, r2, r3, r4⟩ := F
  obtain ⟨T', h', X', e', W, st⟩ := Jvm.RoadKit.stC X hx hZ q A (inb r2 hj hi hlt) hg hs hd
  subst hi
  exact ⟨T', h', ⟨vm0, _, X', Fr.snoc X' N ga, e', Wd0.wr W (Safe.arr Wd0.hz0.alike A (fun z => by cases z))⟩, W, Avf.set ⟨cl, A, r1, r2, r3, r4⟩ W (fits_nar_char _), st⟩
theorem Sd.newRA (X : Sd Z EL Fs n0 p l e R s m args below meth c T h k n) (hx : p.tables.exec = Jvm.exec) (hZ : Z.Warmed39 s.vm) {own C : String} {ty : FieldType} {index : Nat} (hown : s.vm.findClass own = some m.cls) (hC : (FieldType.array ty).toString = C) (w1 : (Cond.classLink own index C).before a0 Z = true) (w2 : (Cond.arrayOver (.array ty)).before a0 Z = true)
    {g : JFrame} (hg : g.method = m) (hd : decode c.code g.pc = .ok (.anewarray index, 3)) {z : Int32} {rest : List Value} (hs : g.stack = .int z :: rest)
    (hz : ¬ z < 0) {sz cap k' n' : Nat} (hsz : z.toNatClampNeg = sz) (hcap : sz ≤ cap) (hb : cap * 8 ≤ 536870912) (hk : k + 1 = k') (hn : n + cap = n') (hc : k' ≤ R.cells) (hl : n' ≤ R.slots) {ad : String} (had : "[" ++ C = ad) :
    ∃ T' h' kc a, Sd Z EL Fs n0 p l e R s m args below meth c T' h' k' n' ∧ a = h.size ∧ Ext h h' ∧ Exa Z h' a ad ∧ Avf Z h' a kc (.array ty) sz (fun _ => .null) ∧ OvrA Z kc ty C ∧
      ∀ target, Steps p.tables e below (T'.setTop { g with pc := g.pc + 3, stack := .ref a :: rest }) target → Steps p.tables e below (T.setTop g) target := by
  subst hk hn hsz
  obtain ⟨vm0, L, X, N, q, Wd0⟩ := X
  replace hown := Wd0.own hown
  replace hZ := Wd0.hz (s := s)
  obtain ⟨T', h', kc, X', e', E, A, Ex, O, st⟩ := Jvm.RoadKit.newRA X hx hZ hown hC w1 w2 q hg hd hs hz hcap hb hc hl had
  exact ⟨T', h', kc, _, ⟨vm0, L, X', N, e', Wd0.ext E⟩, rfl, E, Ex, ⟨_, A, rfl, sz_new _ _ _, (back32 hz).2, fun i hi => ⟨by simp [newA, hi, defaultValue], rfl⟩⟩, O, st⟩
theorem Sd.stR (X : Sd Z EL Fs n0 p l e R s m args below meth c T h k n) (hx : p.tables.exec = Jvm.exec) (hZ : Z.Warmed39 s.vm) {a : Addr} {kc : ClassId} {ty : FieldType} {sz : Nat} {f : Nat → Value} (F : Avf Z h a kc ty sz f) (ga : n0 ≤ a) (hty : ty.isReference = true) {j : Int32} {v : Value} (hv : v.isRef = true) (St : Sto Z h a v) (hj : ¬ j < 0) {i : Nat} (hi : j.toNatClampNeg = i) (hlt : i < sz)
    {g : JFrame} (hg : g.method = m) {rest : List Value} (hs : g.stack = v :: .int j :: .ref a :: rest) (hd : decode c.code g.pc = .ok (.aastore, 1)) :
    ∃ T' h', Sd Z EL Fs n0 p l e R s m args below meth c T' h' k n ∧ Wr h h' a i v ∧ Avf Z h' a kc ty sz (fun t => if t = i then v else f t) ∧ ∀ target, Steps p.tables e below (T'.setTop { g with pc := g.pc + 1, stack := rest }) target → Steps p.tables e below (T.setTop g) target := by
  obtain ⟨vm0, L, X, N, q, Wd0⟩ := X
  replace hZ := Wd0.hz (s := s)
  obtain ⟨cl, A, r1, r2, r3, r4⟩ := F
  obtain ⟨T', h', X', e', W, st⟩ := Jvm.RoadKit.stR X hx hZ q A (inb r2 hj hi hlt) hty St hg hs hd
  subst hi
  have hf : fits ty v = true := by cases ty <;> first | (cases hty; done) | (cases v <;> first | rfl | (cases hv; done))
  exact ⟨T', h', ⟨vm0, _, X', Fr.snoc X' N ga, e', Wd0.wr W (Safe.arr Wd0.hz0.alike A (fun z => by rw [z] at hty; cases hty))⟩, W, Avf.set ⟨cl, A, r1, r2, r3, r4⟩ W hf, st⟩
theorem sto_avf {h : Heap} {a y : Addr} {kc : ClassId} {ty ty' : FieldType} {sz : Nat} {f : Nat → Value} {C : String} (F : Avf Z h a kc ty sz f) (O : OvrA Z kc ty' C) (I : Ins Z h y C true) : Sto Z h a (.ref y) := by
  obtain ⟨cl, A, r1, -⟩ := F
  exact Sto.ofVA A r1 O I
/-! calls -/
theorem Sd.callS (X : Sd Z EL Fs n0 p l e R s m args below meth c T h k n) (hx : p.tables.exec = Jvm.exec) (hZ : Z.Warmed39 s.vm) {own : String} {index : Nat} {y : MethodName} {bytes : ByteArray} {maxL : Nat} {ret : Option FieldType} {rm : Room} {as' : Array Value} {Q : Option Value → Heap → Prop} {F0 : List Addr} (hF0 : ∀ x ∈ F0, x ∈ Fs)
    (hown : s.vm.findClass own = some m.cls) (w1 : (Cond.methodLink own index y).before a0 Z = true) (w2 : (Cond.static y).before a0 Z = true) (w3 : (Cond.initialized y.cls).before a0 Z = true) (w4 : (Cond.code y bytes maxL ret).before a0 Z = true) (hy : y.cls ≠ "java/lang/invoke/MethodHandle" ∧ y.cls ≠ "java/lang/invoke/VarHandle")
    (hM : Met l Z EL F0 S1 n0 y bytes maxL ret [] rm as' h Q) {g : JFrame} (hg : g.method = m) (hsize : g.locals.size = c.maxLocals) {argsL rest : List Value} (hlen : ∀ sig, parseMethodDescriptor y.desc = some sig → argsL.length = sig.parameters.length)
    (hstack : g.stack = argsL.reverse ++ rest) (hd : decode c.code g.pc = .ok (.invokestatic index, 3)) (has : argsL.toArray = as') (hf : rm.frames + 1 ≤ R.frames) (hl : 2 * g.monitorRoom + (rest.map fun v => v.category).sum + (maxL + 11) + rm.locals ≤ R.locals)
    {k' n' : Nat} (hk : k + rm.cells = k') (hn : n + rm.slots = n') (hc : k' ≤ R.cells) (hs : n' ≤ R.slots) :
    ∃ v T' h', Sd Z EL Fs n0 p l e R s m args below meth c T' h' k' n' ∧ Q v h' ∧ (∀ Gs, (∀ x ∈ Gs, x ∈ Fs ∨ S1 v h' x) → Sd Z EL Gs n0 p l e R s m args below meth c T' h' k' n') ∧ ∀ target, Steps p.tables e below (T'.setTop { g with pc := g.pc + 3, stack := v.toList ++ rest }) target → Steps p.tables e below (T.setTop g) target := by
  subst hk hn
  obtain ⟨vm0, L, X, N, q, Wd0⟩ := X
  replace hown := Wd0.own hown
  replace hZ := Wd0.hz (s := s)
  obtain ⟨v, _, ⟨T', L', k1, n1⟩, -, X', hS1, hg1, ⟨Lc, hQ, q1, q2, q3, hC, hs1⟩, st⟩ := callSS X hx (y := y) hown (mvT hZ w1) (mvT hZ w2) (mvT hZ w3) (mvT hZ w4) hy (backW hM Wd0.2.1 hF0 w4 w3 hf hl) hg hsize hlen hstack (Nat.le_refl _) hd (fun _ _ => ⟨has, q, hc, hs⟩)
  dsimp only [Pt.U, Pt.locs, Pt.cells, Pt.slots] at X' q1 q2 q3 st hQ hC hs1 hS1 hg1
  subst q1 q2 q3
  have W1 := Wd0.call q hS1 hg1 hC
  refine ⟨v, T', _, ⟨_, _, X', Fr.app N hQ.2, rfl, W1⟩, hQ.1, fun Gs hG => ⟨_, _, X', Fr.app N hQ.2, rfl, W1.1, ⟨W1.2.1.1, W1.2.1.2.1, W1.2.1.2.2.1, fun x hx => (hG x hx).elim (fun z => W1.2.1.2.2.2 x z) (fun z => hs1 x z)⟩, W1.2.2⟩, fun _ kt => st.trans kt⟩
theorem Sd.callI (X : Sd Z EL Fs n0 p l e R s m args below meth c T h k n) (hx : p.tables.exec = Jvm.exec) (hZ : Z.Warmed39 s.vm) {own : String} {index : Nat} {y : MethodName} {bytes : ByteArray} {maxL : Nat} {rm : Room} {as' : Array Value} {Q : Option Value → Heap → Prop} {F0 : List Addr} (hF0 : ∀ x ∈ F0, x ∈ Fs) (hy1 : y.name = "<init>")
    (hown : s.vm.findClass own = some m.cls) (w1 : (Cond.methodLink own index y).before a0 Z = true) (w2 : (Cond.instanceMethod y).before a0 Z = true) (w3 : (Cond.initialized y.cls).before a0 Z = true) (w4 : (Cond.code y bytes maxL none).before a0 Z = true) (hy : y.cls ≠ "java/lang/invoke/MethodHandle" ∧ y.cls ≠ "java/lang/invoke/VarHandle")
    (hM : Met l Z EL F0 S1 n0 y bytes maxL none [] rm as' h Q) {g : JFrame} (hg : g.method = m) (hsize : g.locals.size = c.maxLocals) {a : Addr} {argsL rest : List Value} (hlen : ∀ sig, parseMethodDescriptor y.desc = some sig → argsL.length = sig.parameters.length)
    (hstack : g.stack = argsL.reverse ++ .ref a :: rest) (hd : decode c.code g.pc = .ok (.invokespecial index, 3)) (has : (.ref a :: argsL).toArray = as') (hf : rm.frames + 1 ≤ R.frames) (hl : 2 * g.monitorRoom + (rest.map fun v => v.category).sum + (maxL + 11) + rm.locals ≤ R.locals)
    {k' n' : Nat} (hk : k + rm.cells = k') (hn : n + rm.slots = n') (hc : k' ≤ R.cells) (hs : n' ≤ R.slots) :
    ∃ v T' h', Sd Z EL Fs n0 p l e R s m args below meth c T' h' k' n' ∧ Q v h' ∧ (∀ Gs, (∀ x ∈ Gs, x ∈ Fs ∨ S1 v h' x) → Sd Z EL Gs n0 p l e R s m args below meth c T' h' k' n') ∧ ∀ target, Steps p.tables e below (T'.setTop { g with pc := g.pc + 3, stack := v.toList ++ rest }) target → Steps p.tables e below (T.setTop g) target := by
  subst hk hn
  obtain ⟨vm0, L, X, N, q, Wd0⟩ := X
  replace hown := Wd0.own hown
  replace hZ := Wd0.hz (s := s)
  obtain ⟨v, _, ⟨T', L', k1, n1⟩, -, X', hS1, hg1, ⟨Lc, hQ, q1, q2, q3, hC, hs1⟩, st⟩ := X.specialBackS hx (y := y) hy1 hown (mvT hZ w1) (mvT hZ w2) (mvT hZ w4) hy (backW hM Wd0.2.1 hF0 w4 w3 hf hl) hg hsize (Steps.refl _) hlen hstack (Nat.le_refl _) hd (fun _ _ => ⟨has, q, hc, hs⟩)
  dsimp only [Pt.U, Pt.locs, Pt.cells, Pt.slots] at X' q1 q2 q3 st hQ hC hs1 hS1 hg1
  subst q1 q2 q3
  have W1 := Wd0.call q hS1 hg1 hC
  refine ⟨v, T', _, ⟨_, _, X', Fr.app N hQ.2, rfl, W1⟩, hQ.1, fun Gs hG => ⟨_, _, X', Fr.app N hQ.2, rfl, W1.1, ⟨W1.2.1.1, W1.2.1.2.1, W1.2.1.2.2.1, fun x hx => (hG x hx).elim (fun z => W1.2.1.2.2.2 x z) (fun z => hs1 x z)⟩, W1.2.2⟩, fun _ kt => st.trans kt⟩
theorem Sd.callV (X : Sd Z EL Fs n0 p l e R s m args below meth c T h k n) (hx : p.tables.exec = Jvm.exec) (hZ : Z.Warmed39 s.vm) {own C : String} {index : Nat} {y z : MethodName} {bytes : ByteArray} {maxL : Nat} {ret : Option FieldType} {rm : Room} {as' : Array Value} {Q : Option Value → Heap → Prop} {F0 : List Addr} (hF0 : ∀ x ∈ F0, x ∈ Fs)
    (hown : s.vm.findClass own = some m.cls) (w1 : (Cond.methodLink own index y).before a0 Z = true) (w2 : (Cond.declares y).before a0 Z = true) (hnf : ∀ S : State, Z.Warmed39 S.vm → NotFace S y) (w5 : (Cond.selects C y z).before a0 Z = true) (w6 : (Cond.instanceMethod z).before a0 Z = true) (w3 : (Cond.initialized z.cls).before a0 Z = true) (w4 : (Cond.code z bytes maxL ret).before a0 Z = true) (hy : y.cls ≠ "java/lang/invoke/MethodHandle" ∧ y.cls ≠ "java/lang/invoke/VarHandle")
    (hM : Met l Z EL F0 S1 n0 z bytes maxL ret [] rm as' h Q) {a : Addr} (E : Exa Z h a C) {g : JFrame} (hg : g.method = m) (hsize : g.locals.size = c.maxLocals) {argsL rest : List Value} (hlen : ∀ sig, parseMethodDescriptor y.desc = some sig → argsL.length = sig.parameters.length)
    (hstack : g.stack = argsL.reverse ++ .ref a :: rest) (hd : decode c.code g.pc = .ok (.invokevirtual index, 3)) (has : (.ref a :: argsL).toArray = as') (hf : rm.frames + 1 ≤ R.frames) (hl : 2 * g.monitorRoom + (rest.map fun v => v.category).sum + (maxL + 11) + rm.locals ≤ R.locals)
    {k' n' : Nat} (hk : k + rm.cells = k') (hn : n + rm.slots = n') (hc : k' ≤ R.cells) (hs : n' ≤ R.slots) :
    ∃ v T' h', Sd Z EL Fs n0 p l e R s m args below meth c T' h' k' n' ∧ Q v h' ∧ (∀ Gs, (∀ x ∈ Gs, x ∈ Fs ∨ S1 v h' x) → Sd Z EL Gs n0 p l e R s m args below meth c T' h' k' n') ∧ ∀ target, Steps p.tables e below (T'.setTop { g with pc := g.pc + 3, stack := v.toList ++ rest }) target → Steps p.tables e below (T.setTop g) target := by
  subst hk hn
  obtain ⟨vm0, L, X, N, q, Wd0⟩ := X
  replace hown := Wd0.own hown
  replace hZ := Wd0.hz (s := s)
  obtain ⟨cB, kB, b1, b2, b3⟩ := isOf (T := T) hZ q E
  obtain ⟨v, _, ⟨T', L', k1, n1⟩, -, X', hS1, hg1, ⟨Lc, hQ, q1, q2, q3, hC, hs1⟩, st⟩ := X.virtualBackS hx (y := y) (z := z) hown (mvT hZ w1) (mvT hZ w2) (hnf _ hZ) (mvT hZ w5) (mvT hZ w6) hy (backW hM Wd0.2.1 hF0 w4 w3 hf hl) b1 b3 hg hsize (Steps.refl _) hlen hstack (Nat.le_refl _) hd (fun _ _ => ⟨has, q, hc, hs⟩)
  dsimp only [Pt.U, Pt.locs, Pt.cells, Pt.slots] at X' q1 q2 q3 st hQ hC hs1 hS1 hg1
  subst q1 q2 q3
  have W1 := Wd0.call q hS1 hg1 hC
  refine ⟨v, T', _, ⟨_, _, X', Fr.app N hQ.2, rfl, W1⟩, hQ.1, fun Gs hG => ⟨_, _, X', Fr.app N hQ.2, rfl, W1.1, ⟨W1.2.1.1, W1.2.1.2.1, W1.2.1.2.2.1, fun x hx => (hG x hx).elim (fun z => W1.2.1.2.2.2 x z) (fun z => hs1 x z)⟩, W1.2.2⟩, fun _ kt => st.trans kt⟩
theorem Sd.callP (X : Sd Z EL Fs n0 p l e R s m args below meth c T h k n) (hx : p.tables.exec = Jvm.exec) (hZ : Z.Warmed39 s.vm) {own C : String} {index : Nat} {y : MethodName} {bytes : ByteArray} {maxL : Nat} {ret : Option FieldType} {rm : Room} {as' : Array Value} {Q : Option Value → Heap → Prop} {F0 : List Addr} (hF0 : ∀ x ∈ F0, x ∈ Fs)
    (hown : s.vm.findClass own = some m.cls) (w1 : (Cond.methodLink own index y).before a0 Z = true) (w6 : (Cond.instanceMethod y).before a0 Z = true) (w5 : (Cond.selects y.cls y y).before a0 Z = true) (w7 : (Cond.privateMethod y).before a0 Z = true) (w3 : (Cond.initialized y.cls).before a0 Z = true) (w4 : (Cond.code y bytes maxL ret).before a0 Z = true) (hy : y.cls ≠ "java/lang/invoke/MethodHandle" ∧ y.cls ≠ "java/lang/invoke/VarHandle")
    (hM : Met l Z EL F0 S1 n0 y bytes maxL ret [] rm as' h Q) {a : Addr} (E : Exa Z h a C) {g : JFrame} (hg : g.method = m) (hsize : g.locals.size = c.maxLocals) {argsL rest : List Value} (hlen : ∀ sig, parseMethodDescriptor y.desc = some sig → argsL.length = sig.parameters.length)
    (hstack : g.stack = argsL.reverse ++ .ref a :: rest) (hd : decode c.code g.pc = .ok (.invokevirtual index, 3)) (has : (.ref a :: argsL).toArray = as') (hf : rm.frames + 1 ≤ R.frames) (hl : 2 * g.monitorRoom + (rest.map fun v => v.category).sum + (maxL + 11) + rm.locals ≤ R.locals)
    {k' n' : Nat} (hk : k + rm.cells = k') (hn : n + rm.slots = n') (hc : k' ≤ R.cells) (hs : n' ≤ R.slots) :
    ∃ v T' h', Sd Z EL Fs n0 p l e R s m args below meth c T' h' k' n' ∧ Q v h' ∧ (∀ Gs, (∀ x ∈ Gs, x ∈ Fs ∨ S1 v h' x) → Sd Z EL Gs n0 p l e R s m args below meth c T' h' k' n') ∧ ∀ target, Steps p.tables e below (T'.setTop { g with pc := g.pc + 3, stack := v.toList ++ rest }) target → Steps p.tables e below (T.setTop g) target := by
  subst hk hn
  obtain ⟨vm0, L, X, N, q, Wd0⟩ := X
  replace hown := Wd0.own hown
  replace hZ := Wd0.hz (s := s)
  obtain ⟨cl, b1, b2⟩ := E.cell
  obtain ⟨v, _, ⟨T', L', k1, n1⟩, -, X', hS1, hg1, ⟨Lc, hQ, q1, q2, q3, hC, hs1⟩, st⟩ := X.privateBackS hx (y := y) hown (mvT hZ w1) (mvT hZ w6) (mvT hZ w5) (Cond.privateMethod_at (mvP hZ w7 (args := #[]))) (mvT hZ w4) hy (backW hM Wd0.2.1 hF0 w4 w3 hf hl) hg hsize (Steps.refl _) (a := a) (by rw [q]; exact b1) b2 hlen hstack (Nat.le_refl _) hd (fun _ _ => ⟨has, q, hc, hs⟩)
  dsimp only [Pt.U, Pt.locs, Pt.cells, Pt.slots] at X' q1 q2 q3 st hQ hC hs1 hS1 hg1
  subst q1 q2 q3
  have W1 := Wd0.call q hS1 hg1 hC
  refine ⟨v, T', _, ⟨_, _, X', Fr.app N hQ.2, rfl, W1⟩, hQ.1, fun Gs hG => ⟨_, _, X', Fr.app N hQ.2, rfl, W1.1, ⟨W1.2.1.1, W1.2.1.2.1, W1.2.1.2.2.1, fun x hx => (hG x hx).elim (fun z => W1.2.1.2.2.2 x z) (fun z => hs1 x z)⟩, W1.2.2⟩, fun _ kt => st.trans kt⟩
theorem Sd.callU (X : Sd Z EL Fs n0 p l e R s m args below meth c T h k n) (hx : p.tables.exec = Jvm.exec) (hZ : Z.Warmed39 s.vm) {own C owner : String} {index : Nat} {y z : MethodName} {bytes : ByteArray} {maxL : Nat} {ret : Option FieldType} {rm : Room} {as' : Array Value} {Q : Option Value → Heap → Prop} {F0 : List Addr} (hF0 : ∀ x ∈ F0, x ∈ Fs)
    (hown : s.vm.findClass own = some m.cls) (w1 : (Cond.methodLink own index y).before a0 Z = true) (w2 : (Cond.sameMethod y.cls owner y.name y.desc).before a0 Z = true) (w7 : (Cond.declares ⟨owner, y.name, y.desc⟩).before a0 Z = true) (ho : owner ≠ "java/lang/invoke/MethodHandle" ∧ owner ≠ "java/lang/invoke/VarHandle") (w5 : (Cond.selects C y z).before a0 Z = true) (w6 : (Cond.instanceMethod z).before a0 Z = true) (w3 : (Cond.initialized z.cls).before a0 Z = true) (w4 : (Cond.code z bytes maxL ret).before a0 Z = true)
    (hM : Met l Z EL F0 S1 n0 z bytes maxL ret [] rm as' h Q) {a : Addr} (E : Exa Z h a C) {g : JFrame} (hg : g.method = m) (hsize : g.locals.size = c.maxLocals) {argsL rest : List Value} (hlen : ∀ sig, parseMethodDescriptor y.desc = some sig → argsL.length = sig.parameters.length)
    (hstack : g.stack = argsL.reverse ++ .ref a :: rest) (hd : decode c.code g.pc = .ok (.invokevirtual index, 3)) (has : (.ref a :: argsL).toArray = as') (hf : rm.frames + 1 ≤ R.frames) (hl : 2 * g.monitorRoom + (rest.map fun v => v.category).sum + (maxL + 11) + rm.locals ≤ R.locals)
    {k' n' : Nat} (hk : k + rm.cells = k') (hn : n + rm.slots = n') (hc : k' ≤ R.cells) (hs : n' ≤ R.slots) :
    ∃ v T' h', Sd Z EL Fs n0 p l e R s m args below meth c T' h' k' n' ∧ Q v h' ∧ (∀ Gs, (∀ x ∈ Gs, x ∈ Fs ∨ S1 v h' x) → Sd Z EL Gs n0 p l e R s m args below meth c T' h' k' n') ∧ ∀ target, Steps p.tables e below (T'.setTop { g with pc := g.pc + 3, stack := v.toList ++ rest }) target → Steps p.tables e below (T.setTop g) target := by
  subst hk hn
  obtain ⟨vm0, L, X, N, q, Wd0⟩ := X
  replace hown := Wd0.own hown
  replace hZ := Wd0.hz (s := s)
  obtain ⟨cB, kB, b1, b2, b3⟩ := isOf (T := T) hZ q E
  obtain ⟨v, _, ⟨T', L', k1, n1⟩, -, X', hS1, hg1, ⟨Lc, hQ, q1, q2, q3, hC, hs1⟩, st⟩ := X.virtualBackUpS hx (x := y) (y := z) hown (mvT hZ w1) (mvT hZ w2) (mvT hZ w7) ho (mvT hZ w5) (mvT hZ w6) (backW hM Wd0.2.1 hF0 w4 w3 hf hl) b1 b3 hg hsize (Steps.refl _) hlen hstack (Nat.le_refl _) hd (fun _ _ => ⟨has, q, hc, hs⟩)
  dsimp only [Pt.U, Pt.locs, Pt.cells, Pt.slots] at X' q1 q2 q3 st hQ hC hs1 hS1 hg1
  subst q1 q2 q3
  have W1 := Wd0.call q hS1 hg1 hC
  refine ⟨v, T', _, ⟨_, _, X', Fr.app N hQ.2, rfl, W1⟩, hQ.1, fun Gs hG => ⟨_, _, X', Fr.app N hQ.2, rfl, W1.1, ⟨W1.2.1.1, W1.2.1.2.1, W1.2.1.2.2.1, fun x hx => (hG x hx).elim (fun z => W1.2.1.2.2.2 x z) (fun z => hs1 x z)⟩, W1.2.2⟩, fun _ kt => st.trans kt⟩
theorem Sd.instNo (X : Sd Z EL Fs n0 p l e R s m args below meth c T h k n) (hx : p.tables.exec = Jvm.exec) (hZ : Z.Warmed39 s.vm) {own K C : String} {index : Nat} (hown : s.vm.findClass own = some m.cls) (w : (Cond.classLink own index K).before a0 Z = true) {a : Addr} (E : Exa Z h a C) (F : ∃ c t, Z.vm.findClass C = some c ∧ Z.vm.findClass K = some t ∧ Z.vm.assignable c t = false)
    {g : JFrame} (hg : g.method = m) {rest : List Value} (hs : g.stack = .ref a :: rest) (hd : decode c.code g.pc = .ok (.instanceof index, 3)) :
    ∃ T', Sd Z EL Fs n0 p l e R s m args below meth c T' h k n ∧ ∀ target, Steps p.tables e below (T'.setTop { g with pc := g.pc + 3, stack := .int 0 :: rest }) target → Steps p.tables e below (T.setTop g) target := by
  obtain ⟨vm0, L, X, N, q, Wd0⟩ := X
  replace hown := Wd0.own hown
  replace hZ := Wd0.hz (s := s)
  obtain ⟨T', X', e', st⟩ := Jvm.RoadKit.instNo X hx hZ hown w q E F hg hs hd
  exact ⟨T', ⟨vm0, L, X', N, e', Wd0⟩, st⟩
theorem ns_root {O K : String} {kk : Nat} (w : (Cond.noSuperclass O).before a0 Z = true) (wk : (Cond.instantiable K kk).before a0 Z = true) (hn : O ≠ K) : NS Z O K := by
  obtain ⟨c, k, h1, h2, h3, -, -⟩ := Cond.noSuperclass_spec w
  obtain ⟨t, k2, g1, -⟩ := Cond.instantiable_spec wk
  have ne := ids_ne h1 g1 hn
  refine ⟨c, t, h1, g1, fun fuel => ?_⟩
  cases fuel with
  | zero => rfl
  | succ f => simp [Vm.isSubclassAux, ne, h2, h3]
theorem ns_no {C K : String} {k1 k2 : Nat} (w : (Cond.instantiable C k1).before a0 Z = true) (wk : (Cond.instantiable K k2).before a0 Z = true) (n : NS Z C K) (hn : C ≠ K) : ∃ c t, Z.vm.findClass C = some c ∧ Z.vm.findClass K = some t ∧ Z.vm.assignable c t = false := by
  obtain ⟨c, t, h0, g0, n3⟩ := n
  obtain ⟨c', kc, h1, h2, h3, h4, -⟩ := Cond.instantiable_spec w
  obtain ⟨t', kt, g1, g2, g3, g4, -⟩ := Cond.instantiable_spec wk
  cases h0.symm.trans h1
  cases g0.symm.trans g1
  have ne := ids_ne h0 g0 hn
  refine ⟨c, t, h0, g0, ?_⟩
  have g5 : kt.isInterface = false := by simp at g4; exact g4.1
  show Z.vm.assignableAux (255 + 1) c t = false
  simp [Vm.assignableAux, ne, h2, g2, h3, g3, g5, Vm.isSubclass, n3]
theorem keep_ext {h h' : Heap} (K : Keep h h' []) : Ext h h' := ⟨K.1, fun x c q => K.2.1 x c q nin0⟩
theorem Exa.plain {h : Heap} {a : Addr} {C : String} (F : Exa Z h a C) : ∀ cell : Cell, h[a]? = some cell → cell.vm.isStatics = false := fun cell hc => by
  obtain ⟨c, k, h1, -, -, h4, -⟩ := F
  cases h1.symm.trans hc; exact h4
theorem Avf.plain {h : Heap} {a : Addr} {kc : ClassId} {ty : FieldType} {sz : Nat} {f : Nat → Value} (F : Avf Z h a kc ty sz f) : ∀ cell : Cell, h[a]? = some cell → cell.vm.isStatics = false := fun cell hc => by
  obtain ⟨cl, A, -⟩ := F
  cases A.1.symm.trans hc; exact Arr.plain A
theorem Sta.keepN {h h' : Heap} {C f d : String} {v : Value} {ws : List Addr} (F : Sta Z h C f d v) (K : Keep h h' ws) (q : ∀ x ∈ ws, ∀ cell : Cell, h[x]? = some cell → cell.vm.isStatics = false) : Sta Z h' C f d v := by
  obtain ⟨cf, i, k, fl, st, cell, h1, h2, h3, h4, h5, h6, h7⟩ := F
  exact ⟨cf, i, k, fl, st, cell, h1, h2, h3, h4, K.2.1 st cell h5 (fun z => by rw [q st z cell h5] at h6; cases h6), h6, h7⟩
/-! at the start -/
theorem sta_exa {args : Array Value} {C f d K : String} (hx : (Cond.exactly (.static C f d) K).value args Z none Z [] = some true) (wi : (Cond.initialized C).before args Z = true) (wl : (Cond.laysStatic C f d).before args Z = true) : ∃ a, (Term.static C f d).eval args Z none [] Z = some (.ref a) ∧ Sta Z Z.heap C f d (.ref a) ∧ Exa Z Z.heap a K := by
  obtain ⟨a, ev⟩ := exa_v hx
  exact ⟨a, ev, Sta.start ev (Or.inr ⟨wi, wl⟩), Exa.start ev hx⟩
theorem sta_arr {args : Array Value} {C f d : String} {ty : FieldType} (hx : (Cond.arrayOf (.static C f d) ty).value args Z none Z [] = some true) (wi : (Cond.initialized C).before args Z = true) (wl : (Cond.laysStatic C f d).before args Z = true) : ∃ a cl, (Term.static C f d).eval args Z none [] Z = some (.ref a) ∧ Sta Z Z.heap C f d (.ref a) ∧ Arr Z Z.heap a cl ty := by
  obtain ⟨a, ev⟩ := arr_v hx
  obtain ⟨cl, A⟩ := Arr.start ev hx
  exact ⟨a, cl, ev, Sta.start ev (Or.inr ⟨wi, wl⟩), A⟩
theorem int_of_eq {args : Array Value} {t : Term} {kk : Int32} (h : (Cond.eq t (.int kk)).value args Z none Z [] = some true) : t.eval args Z none [] Z = some (.int kk) := by
  obtain ⟨x, y, h1, h2, k1, k2⟩ := cmp_v (Or.inl h)
  cases (Option.some.inj h2 : Value.int kk = y)
  obtain ⟨z, rfl⟩ : ∃ z, x = .int z := k2
  have q : z = kk := by simpa [Cond.value, h1, Term.eval] using h
  rw [h1, q]
theorem fld_eq {args : Array Value} {t : Term} {C f d : String} {a : Addr} {kk : Int32} (ht : t.eval args Z none [] Z = some (.ref a)) (h : (Cond.eq (.field t C f d) (.int kk)).value args Z none Z [] = some true) : Fld Z Z.heap a C f d (.int kk) :=
  Fld.start ((fld_at ht).symm.trans (int_of_eq h))
theorem ref_of_eq {args : Array Value} {t u : Term} {a : Addr} (hu : u.eval args Z none [] Z = some (.ref a)) (h : (Cond.eq t u).value args Z none Z [] = some true) : t.eval args Z none [] Z = some (.ref a) := by
  obtain ⟨x, y, h1, h2, k1, k2⟩ := cmp_v (Or.inl h)
  cases (Option.some.inj (hu.symm.trans h2) : Value.ref a = y)
  have kx : x.isRef = true := k2.2
  rw [h1, gotT (eq_R h1 hu kx rfl) h]
theorem avf_len {args : Array Value} {t : Term} {a : Addr} {cl : Cell} {ty : FieldType} {z : Int32} {sz : Nat} (A : Arr Z Z.heap a cl ty) (ev : t.eval args Z none [] Z = some (.ref a)) (h : (Term.length t).eval args Z none [] Z = some (.int z)) (hz : z.toNatClampNeg = sz) : cl.slots.size = sz := by
  have ha : Z.arrayAt? a = some cl := A.fin (Vm.Alike.refl _)
  simp only [Term.eval, ev, ha, Option.bind_eq_bind, Option.bind_some] at h
  split at h
  · rename_i hl
    have e : cl.slots.size.toInt32 = z := by simpa using h
    rw [← hz, ← e]
    have q := len_toInt hl
    simp only [Int32.toNatClampNeg, q]; omega
  · cases h
theorem iremS {g : JFrame} {target : State} (X : Sd Z EL Fs n0 p l e R s m args below meth c T h k n) (hx : p.tables.exec = Jvm.exec) (hg : g.method = m) {x y : Int32} {rest : List Value} (hd : decode c.code g.pc = .ok (.irem, 1)) (hs : g.stack = .int y :: .int x :: rest) (hy : y ≠ 0)
    (hr : Steps p.tables e below (T.setTop { g with pc := g.pc + 1, stack := .int (x % y) :: rest }) target) : Steps p.tables e below (T.setTop g) target := by
  obtain ⟨vm0, L, X, -, q, Wd0⟩ := X
  exact iremM X hx hg hd hs hy hr
/-- ldc of a String constant of EL, read -/
theorem Sd.ldcR (X : Sd Z EL Fs n0 p l e R s m args below meth c T h k n) (hx : p.tables.exec = Jvm.exec) {own text : String} {index : Nat} (hown : s.vm.findClass own = some m.cls) (w : (Cond.stringLink own index text).before a0 Z = true) (wS : ∀ a ∈ Bundle.stringAtoms, a.before a0 Z = true) (hmem : (own, index) ∈ EL)
    {vs : List Value} {z : Int32} {sz : Nat} (ht : (∀ c ∈ text.toList, c.toNat < 256) ∧ text.toList.map (fun c => Value.int (Jvm.Lit.byteI c.toNat.toUInt16)) = vs) (hz : ¬ z < 0) (hl : z.toNatClampNeg = vs.length) (hsz : z.toNatClampNeg = sz)
    {g : JFrame} (hg : g.method = m) (hd : decode c.code g.pc = .ok (.ldc index, 2)) {nn k' n' : Nat} (hn : 4 * text.toList.length ≤ nn) (hbig : nn ≤ 536870912) (hk : k + 2 = k') (hn' : n + (nn + 4) = n') (hc : k' ≤ R.cells) (hl' : n' ≤ R.slots) :
    ∃ T' h' a b kc, Sd Z EL Fs n0 p l e R s m args below meth c T' h' k' n' ∧ Ext h h' ∧ Exa Z h' a "java/lang/String" ∧ Fld Z h' a "java/lang/String" "coder" "B" (.int 0) ∧ Fld Z h' a "java/lang/String" "value" "[B" (.ref b) ∧ Avf Z h' b kc .byte sz (fun i => vs.getD i (.int 0)) ∧ (∀ x ∈ Fs, a ≠ x ∧ b ≠ x) ∧
      ∀ target, Steps p.tables e below (T'.setTop { g with pc := g.pc + 2, stack := .ref a :: g.stack }) target → Steps p.tables e below (T.setTop g) target := by
  subst hk hn' hsz
  obtain ⟨vm0, L, X, N, q, ⟨k0, hS, hk0⟩, W, C0⟩ := X
  obtain ⟨a1, hEL⟩ := W.2.2.1
  have hEL' : EW Z a0 EL := fun p hp => by
    obtain ⟨t, w1, w2⟩ := hEL p hp
    exact ⟨t, by simpa only [Cond.before, Cond.holds, Cond.value] using w1, w2⟩
  obtain ⟨a, T', h', k1, b, kc, X', e', E, hS', hk1, hW', -, r1, r2, r3, r4, -, -, C1, -, sf, st⟩ := ldcCH X hx W.1 (by rw [hS.1.alike.findClass]; exact hown) w wS q hS hk0 hEL' hmem W.2.1 ht hz hl hg hd hn hbig hc hl'
  exact ⟨T', h', a, b, kc, ⟨T'.vm, L, X', N, e', ⟨k1, hS', hk1⟩, W.step hW' C1, C0.trans C1⟩, E, r1, r2, r3, Avf.of_arv r4, fun x hx => ⟨Ne.symm (sf x ((W.step hW' C1).2.2.2 x hx).2).1, Ne.symm (sf x ((W.step hW' C1).2.2.2 x hx).2).2⟩, st⟩
/-- ldc of a String constant, not read -/
theorem Sd.ldcN (X : Sd Z EL Fs n0 p l e R s m args below meth c T h k n) (hx : p.tables.exec = Jvm.exec) {own text : String} {index : Nat} (hown : s.vm.findClass own = some m.cls) (w : (Cond.stringLink own index text).before a0 Z = true) (wS : ∀ a ∈ Bundle.stringAtoms, a.before a0 Z = true)
    {g : JFrame} (hg : g.method = m) (hd : decode c.code g.pc = .ok (.ldc index, 2)) {nn k' n' : Nat} (hn : 4 * text.toList.length ≤ nn) (hbig : nn ≤ 536870912) (hk : k + 2 = k') (hn' : n + (nn + 4) = n') (hc : k' ≤ R.cells) (hl' : n' ≤ R.slots) :
    ∃ T' h' a, Sd Z EL Fs n0 p l e R s m args below meth c T' h' k' n' ∧ Ext h h' ∧
      ∀ target, Steps p.tables e below (T'.setTop { g with pc := g.pc + 2, stack := .ref a :: g.stack }) target → Steps p.tables e below (T.setTop g) target := by
  subst hk hn'
  obtain ⟨vm0, L, X, N, q, ⟨k0, hS, hk0⟩, W, C0⟩ := X
  obtain ⟨a1, hEL⟩ := W.2.2.1
  have hEL' : EW Z a0 EL := fun p hp => by
    obtain ⟨t, w1, w2⟩ := hEL p hp
    exact ⟨t, by simpa only [Cond.before, Cond.holds, Cond.value] using w1, w2⟩
  obtain ⟨a, T', h', k1, X', e', E, hS', hk1, hW', -, C1, -, st⟩ := ldcOH X hx W.1 (by rw [hS.1.alike.findClass]; exact hown) w wS q hS hk0 hEL' W.2.1 hg hd hn hbig hc hl'
  exact ⟨T', h', a, ⟨T'.vm, L, X', N, e', ⟨k1, hS', hk1⟩, W.step hW' C1, C0.trans C1⟩, E, st⟩
theorem avf_ne {h : Heap} {a b : Addr} {k1 k2 : ClassId} {t1 t2 : FieldType} {s1 s2 : Nat} {f1 f2 : Nat → Value} (A : Avf Z h a k1 t1 s1 f1) (B : Avf Z h b k2 t2 s2 f2) (q : t1 ≠ t2) : a ≠ b := fun e => by
  subst e
  obtain ⟨c1, ⟨e1, ⟨-, q1, g1, cm1, kd1⟩, -⟩, -⟩ := A
  obtain ⟨c2, ⟨e2, ⟨-, q2, g2, cm2, kd2⟩, -⟩, -⟩ := B
  cases e1.symm.trans e2
  cases g1.symm.trans g2
  rw [kd1] at kd2; cases kd2; exact q rfl
theorem exa_nev {h : Heap} {x b : Addr} {C : String} {kk : Nat} {k2 : ClassId} {ty : FieldType} {sz : Nat} {f : Nat → Value} (E : Exa Z h x C) (w : (Cond.instantiable C kk).before a0 Z = true) (B : Avf Z h b k2 ty sz f) : b ≠ x := fun e => (E.neArv (B.arv .null) w) e.symm

end Sds
end Jvm.RoadKit
namespace Jvm.Pilot.@@N@@
open Jvm Jvm.ClassFile Sem Op Lib Jvm.Free Jvm.Stand Jvm.LawKit Jvm.RoadKit Bundle Jvm.Pilot.@@N@@.Jvm.D
theorem tw {a0 : Array Value} {Z : State} (hw : ∀ d ∈ tables_1, d.before a0 Z = true) (i : Nat) {d : Jvm.Cond} (h : tables_1[i]? = some d) : d.before a0 Z = true := hw _ (List.mem_of_getElem? h)
abbrev EL : List (String × Nat) := consts_1
theorem atoms_S {a0 : Array Value} {Z : State} (hw : ∀ d ∈ tables_1, d.before a0 Z = true) : ∀ a ∈ Bundle.stringAtoms, a.before a0 Z = true := fun a ha => hw a ((by decide +kernel : ∀ a ∈ Bundle.stringAtoms, a ∈ tables_1) a ha)
theorem i32_succ (i : Nat) : Int32.ofNat i + (1 : Int32) = Int32.ofNat (i + 1) := by
  rw [show (1 : Int32) = Int32.ofNat 1 from rfl, ← Int32.ofNat_add]
theorem i32_lt {i n : Nat} (h : i < n) (hn : n < 2 ^ 31) : Int32.ofNat i < n.toInt32 := by
  rw [Int32.lt_iff_toInt_lt, show (Int32.ofNat i).toInt = i from len_toInt (by omega), len_toInt hn]; omega
theorem i32_nlt {i n : Nat} (h : n ≤ i) (hi : i < 2 ^ 31) : ¬ Int32.ofNat i < n.toInt32 := by
  rw [Int32.lt_iff_toInt_lt, show (Int32.ofNat i).toInt = i from len_toInt hi, len_toInt (by omega)]; omega
theorem i32_nneg {i : Nat} (hi : i < 2 ^ 31) : ¬ Int32.ofNat i < 0 := by
  rw [Int32.lt_iff_toInt_lt, show (Int32.ofNat i).toInt = i from len_toInt hi]
  have : (0 : Int32).toInt = 0 := rfl
  omega
theorem i32_nat {i : Nat} (hi : i < 2 ^ 31) : (Int32.ofNat i).toNatClampNeg = i := by
  simp only [Int32.toNatClampNeg, show (Int32.ofNat i).toInt = i from len_toInt hi]; omega
theorem i32_inj {m n : Nat} (hm : m < 2 ^ 31) (hn : n < 2 ^ 31) (h : m.toInt32 = n.toInt32) : m = n := by
  have := congrArg Int32.toInt h
  rw [len_toInt hm, len_toInt hn] at this; omega
theorem avf_sz {Z : State} {h : Heap} {a : Addr} {kc : ClassId} {ty : FieldType} {sz : Nat} {f : Nat → Value} (F : Avf Z h a kc ty sz f) : sz < 2 ^ 31 := by obtain ⟨_, _, _, _, r, _⟩ := F; exact r
theorem avf_uniq {Z : State} {h : Heap} {a : Addr} {k1 k2 : ClassId} {ty : FieldType} {s1 s2 : Nat} {f1 f2 : Nat → Value} (F : Avf Z h a k1 ty s1 f1) (G : Avf Z h a k2 ty s2 f2) : s1 = s2 ∧ ∀ i, i < s1 → f1 i = f2 i := by
  obtain ⟨c1, A1, _, q1, _, r1⟩ := F
  obtain ⟨c2, A2, _, q2, _, r2⟩ := G
  obtain rfl : c1 = c2 := Option.some.inj (A1.1.symm.trans A2.1)
  refine ⟨q1.symm.trans q2, fun i hi => ?_⟩
  exact Option.some.inj ((r1 i hi).1.symm.trans (r2 i (by omega)).1)
theorem fld_uniq {Z : State} {h : Heap} {a : Addr} {C n d : String} {v w : Value} (F : Fld Z h a C n d v) (G : Fld Z h a C n d w) : v = w := by
  obtain ⟨c1, cf1, k1, i1, f1, h1, h2, h3, h4, h5, h6, h7⟩ := F
  obtain ⟨c2, cf2, k2, i2, f2, g1, g2, g3, g4, g5, g6, g7⟩ := G
  cases h1.symm.trans g1
  cases h2.symm.trans g2
  exact Option.some.inj (h7.symm.trans g7)
def clsN (p : Int32) : String := (if p = (0 : Int32) then "com/example/interlace/interlace/DataType$1" else (if p = (1 : Int32) then "com/example/interlace/interlace/DataType$2" else (if p = (2 : Int32) then "com/example/interlace/interlace/DataType$3" else (if p = (3 : Int32) then "com/example/interlace/interlace/DataType$4" else (if p = (4 : Int32) then "com/example/interlace/interlace/DataType$5" else (if p = (5 : Int32) then "com/example/interlace/interlace/DataType$6" else (if p = (6 : Int32) then "com/example/interlace/interlace/DataType$7" else (if p = (7 : Int32) then "com/example/interlace/interlace/DataType$8" else (if p = (8 : Int32) then "com/example/interlace/interlace/DataType$9" else (if p = (9 : Int32) then "com/example/interlace/interlace/DataType$10" else "com/example/interlace/interlace/DataType$11"))))))))))
abbrev nmN (n : Int32) : Nat := n.toNatClampNeg
def nmB (x y : Int32) (i : Nat) : Int32 := if i = 0 then x.toInt8.toInt32 else y.toInt8.toInt32
def chc (x y : Int32) (i : Nat) : Int32 := if i = 0 then x else y
theorem own_c (x : Int32) : ¬ (255 : Int32) < (x &&& (255 : Int32)).toUInt32.toUInt16.toUInt32.toInt32 := by
  have q := c_mask x 255 8 (by decide) (by decide)
  rw [i2c_mask, Int32.lt_iff_toInt_lt, q]
  have e1 : (255 : Int32).toInt = 255 := rfl
  rw [e1]
  omega
theorem own_m255 (x : Int32) : 0 ≤ (x &&& (255 : Int32)).toInt ∧ (x &&& (255 : Int32)).toInt ≤ 255 := by
  have q := c_mask x 255 8 (by decide) (by decide)
  rw [q]; omega
theorem own_m3 (x : Int32) : 0 ≤ (x &&& (3 : Int32)).toInt := by
  have q := c_mask x 3 2 (by decide) (by decide)
  rw [q]; omega
theorem own_m11 (x : Int32) : 0 ≤ ((x &&& (15 : Int32)) % (11 : Int32)).toInt ∧ ((x &&& (15 : Int32)) % (11 : Int32)).toInt ≤ 10 := by
  have q := c_mask x 15 4 (by decide) (by decide)
  have r := Int32.toInt_mod (x &&& (15 : Int32)) 11
  have e3 : (11 : Int32).toInt = 11 := rfl
  rw [e3, Int.tmod_eq_emod_of_nonneg (by omega)] at r
  omega
theorem own_nc {x : Int32} (h : 0 ≤ x.toInt ∧ x.toInt ≤ 255) : nar .char (x.toUInt32.toUInt16.toUInt32.toInt32) = x := by
  have e : x &&& (255 : Int32) = x := by
    have q := c_mask x 255 8 (by decide) (by decide)
    rw [← Int32.toInt_inj, q]
    omega
  have q := i2c_mask x
  rw [e] at q
  show (x.toUInt32.toUInt16.toUInt32.toInt32).toUInt32.toUInt16.toUInt32.toInt32 = x
  rw [q, q]
theorem own_hc {x y : Int32} (h1 : x.toInt ≤ 255) (h2 : y.toInt ≤ 255) (i : Nat) : ¬ (255 : Int32) < chc x y i := by
  have e1 : (255 : Int32).toInt = 255 := rfl
  unfold chc
  split <;> (rw [Int32.lt_iff_toInt_lt, e1]; omega)
theorem own_i8 {x y : Int32} (h1 : 0 ≤ x.toInt ∧ x.toInt ≤ 255) (h2 : 0 ≤ y.toInt ∧ y.toInt ≤ 255) (h : x.toInt8.toInt32 = y.toInt8.toInt32) : x = y := by
  have q := congrArg Int32.toInt h
  have a1 : (x.toInt8.toInt32).toInt = x.toInt.bmod 256 := by simp
  have a2 : (y.toInt8.toInt32).toInt = y.toInt.bmod 256 := by simp
  rw [a1, a2] at q
  rw [← Int32.toInt_inj]
  simp only [Int.bmod_def] at q
  split at q <;> split at q <;> omega
theorem own_alike {n m x u y w : Int32} (hn : 0 ≤ n.toInt ∧ n.toInt ≤ 2) (hm : 0 ≤ m.toInt ∧ m.toInt ≤ 2) (hx : 0 ≤ x.toInt ∧ x.toInt ≤ 255) (hu : 0 ≤ u.toInt ∧ u.toInt ≤ 255) (hy : 0 ≤ y.toInt ∧ y.toInt ≤ 255) (hw : 0 ≤ w.toInt ∧ w.toInt ≤ 255) :
    (nmN n = nmN m ∧ ∀ i, i < nmN n → nmB x y i = nmB u w i) ↔ (n = m ∧ (n < 1 ∨ x = u) ∧ (n < 2 ∨ y = w)) := by
  have e1 : (1 : Int32).toInt = 1 := rfl
  have e2 : (2 : Int32).toInt = 2 := rfl
  have en : (nmN n : Int) = n.toInt := by show (n.toInt.toNat : Int) = _; omega
  have em : (nmN m : Int) = m.toInt := by show (m.toInt.toNat : Int) = _; omega
  simp only [Int32.lt_iff_toInt_lt, e1, e2]
  constructor
  · rintro ⟨h1, h2⟩
    refine ⟨by rw [← Int32.toInt_inj]; omega, ?_, ?_⟩
    · by_cases c : n.toInt < 1
      · exact Or.inl c
      · exact Or.inr (own_i8 hx hu (h2 0 (by omega)))
    · by_cases c : n.toInt < 2
      · exact Or.inl c
      · exact Or.inr (own_i8 hy hw (h2 1 (by omega)))
  · rintro ⟨rfl, h2, h3⟩
    refine ⟨rfl, fun i hi => ?_⟩
    unfold nmB
    split
    · rcases h2 with q | rfl
      · omega
      · rfl
    · rcases h3 with q | rfl
      · omega
      · rfl
theorem own_cls {p q : Int32} (hp : 0 ≤ p.toInt ∧ p.toInt ≤ 10) (hq : 0 ≤ q.toInt ∧ q.toInt ≤ 10) (h : clsN p = clsN q) : p = q := by
  have key : ∀ i j : Fin 11, clsN (Int32.ofNat i) = clsN (Int32.ofNat j) → i = j := by decide +kernel
  have ep : p = Int32.ofNat p.toInt.toNat := by rw [← Int32.toInt_inj, show (Int32.ofNat p.toInt.toNat).toInt = p.toInt.toNat from len_toInt (by omega)]; omega
  have eq : q = Int32.ofNat q.toInt.toNat := by rw [← Int32.toInt_inj, show (Int32.ofNat q.toInt.toNat).toInt = q.toInt.toNat from len_toInt (by omega)]; omega
  have r := key ⟨p.toInt.toNat, by omega⟩ ⟨q.toInt.toNat, by omega⟩ (by rw [← ep, ← eq]; exact h)
  have r2 : p.toInt.toNat = q.toInt.toNat := congrArg Fin.val r
  rw [ep, eq, r2]
theorem own_min {x r : Int32} (h : 0 ≤ x.toInt) (hr : r.toInt = min x.toInt (2 : Int32).toInt) : 0 ≤ r.toInt ∧ r.toInt ≤ 2 := by
  have e : (2 : Int32).toInt = 2 := rfl
  rw [e] at hr; omega
theorem d16_0 : decode jdk_43_method_13_code 0 = .ok (.aload_n 0, 1) := by decide +kernel
theorem d16_1 : decode jdk_43_method_13_code 1 = .ok (.arraylength, 1) := by decide +kernel
theorem d16_2 : decode jdk_43_method_13_code 2 = .ok (.aload_n 1, 1) := by decide +kernel
theorem d16_3 : decode jdk_43_method_13_code 3 = .ok (.arraylength, 1) := by decide +kernel
theorem d16_4 : decode jdk_43_method_13_code 4 = .ok (.if_icmp .ne 30, 3) := by decide +kernel
theorem d16_7 : decode jdk_43_method_13_code 7 = .ok (.iconst 0, 1) := by decide +kernel
theorem d16_8 : decode jdk_43_method_13_code 8 = .ok (.istore_n 2, 1) := by decide +kernel
theorem d16_9 : decode jdk_43_method_13_code 9 = .ok (.iload_n 2, 1) := by decide +kernel
theorem d16_10 : decode jdk_43_method_13_code 10 = .ok (.aload_n 0, 1) := by decide +kernel
theorem d16_11 : decode jdk_43_method_13_code 11 = .ok (.arraylength, 1) := by decide +kernel
theorem d16_12 : decode jdk_43_method_13_code 12 = .ok (.if_icmp .ge 20, 3) := by decide +kernel
theorem d16_32 : decode jdk_43_method_13_code 32 = .ok (.iconst 1, 1) := by decide +kernel
theorem d16_33 : decode jdk_43_method_13_code 33 = .ok (.ireturn, 1) := by decide +kernel
theorem d16_15 : decode jdk_43_method_13_code 15 = .ok (.aload_n 0, 1) := by decide +kernel
theorem d16_16 : decode jdk_43_method_13_code 16 = .ok (.iload_n 2, 1) := by decide +kernel
theorem d16_17 : decode jdk_43_method_13_code 17 = .ok (.baload, 1) := by decide +kernel
theorem d16_18 : decode jdk_43_method_13_code 18 = .ok (.aload_n 1, 1) := by decide +kernel
theorem d16_19 : decode jdk_43_method_13_code 19 = .ok (.iload_n 2, 1) := by decide +kernel
theorem d16_20 : decode jdk_43_method_13_code 20 = .ok (.baload, 1) := by decide +kernel
theorem d16_21 : decode jdk_43_method_13_code 21 = .ok (.if_icmp .eq 5, 3) := by decide +kernel
theorem d16_26 : decode jdk_43_method_13_code 26 = .ok (.iinc 2 1, 3) := by decide +kernel
theorem d16_29 : decode jdk_43_method_13_code 29 = .ok (.goto (-20), 3) := by decide +kernel
theorem d16_24 : decode jdk_43_method_13_code 24 = .ok (.iconst 0, 1) := by decide +kernel
theorem d16_25 : decode jdk_43_method_13_code 25 = .ok (.ireturn, 1) := by decide +kernel
theorem d16_34 : decode jdk_43_method_13_code 34 = .ok (.iconst 0, 1) := by decide +kernel
theorem d16_35 : decode jdk_43_method_13_code 35 = .ok (.ireturn, 1) := by decide +kernel
abbrev Rm16 : Room := { frames := 0, cells := 0, slots := 0, locals := 0 }
theorem pn0 : plainName "java/lang/StringLatin1" = true := by first | (simp [plainName, overriddenIn]; done) | decide +kernel
set_option maxRecDepth 65536 in
set_option maxHeartbeats 40000000 in
theorem rm16 (l : Launch) (Z : State) (a0 : Array Value) (hw : ∀ d ∈ tables_1, d.before a0 Z = true) (ws : List Jvm.Cond) (b1 : Addr) (b2 : Addr) (k1 k2 : ClassId) (N1 N2 : Nat) (g1 g2 : Nat → Int32) (h0 : Heap) (n0 : Nat) (Z0 : n0 ≤ h0.size) (V_b1 : Avf Z h0 b1 k1 .byte N1 (fun i => (.int (g1 i)))) (V_b2 : Avf Z h0 b2 k2 .byte N2 (fun i => (.int (g2 i)))) :
    Met l Z EL [] (fun _ _ _ => False) n0 (⟨"java/lang/StringLatin1", "equals", "([B[B)Z"⟩ : MethodName) jdk_43_method_13_code 3 (some .boolean) ws Rm16 #[(.ref b1), (.ref b2)] h0 (fun v h => (((N1 = N2 ∧ ∀ i, i < N1 → g1 i = g2 i) ∧ v = some (.int 1)) ∨ (¬ (N1 = N2 ∧ ∀ i, i < N1 → g1 i = g2 i) ∧ v = some (.int 0))) ∧ h0 = h) := by
  refine enter (Ls := #[.val (.ref b1), .val (.ref b2), .unset]) (plainFor_of_name pn0) (fun m => by first | (simp [entryFrame, mkF, argsToLocals, Value.category]; done) | rfl) ?_
  intro p e s m below meth c T0 hx hby hml hown hnm hret hlk hZ X0
  show Go p.tables e below _ (T0.setTop (mkF m 0 #[.val (.ref b1), .val (.ref b2), .unset] []))
  refine Go.by (fun _ => XS.aloadN X0.here hx rfl (hb hby d16_0) rfl rfl) ?_
  show Go p.tables e below _ (T0.setTop (mkF m 1 #[.val (.ref b1), .val (.ref b2), .unset] [(.ref b1)]))
  refine Go.by (X0.len hx hZ V_b1 (z := (N1.toInt32)) rfl (g := (mkF m 1 #[.val (.ref b1), .val (.ref b2), .unset] [(.ref b1)])) rfl rfl (hb hby d16_1)) ?_
  show Go p.tables e below _ (T0.setTop (mkF m 2 #[.val (.ref b1), .val (.ref b2), .unset] [(.int (N1.toInt32))]))
  refine Go.by (fun _ => XS.aloadN X0.here hx rfl (hb hby d16_2) rfl rfl) ?_
  show Go p.tables e below _ (T0.setTop (mkF m 3 #[.val (.ref b1), .val (.ref b2), .unset] [(.ref b2), (.int (N1.toInt32))]))
  refine Go.by (X0.len hx hZ V_b2 (z := (N2.toInt32)) rfl (g := (mkF m 3 #[.val (.ref b1), .val (.ref b2), .unset] [(.ref b2), (.int (N1.toInt32))])) rfl rfl (hb hby d16_3)) ?_
  show Go p.tables e below _ (T0.setTop (mkF m 4 #[.val (.ref b1), .val (.ref b2), .unset] [(.int (N2.toInt32)), (.int (N1.toInt32))]))
  by_cases hc4_1 : (N1.toInt32) = (N2.toInt32)
  · skip
    refine Go.by (fun _ => XS.icmpNo X0.here hx rfl (hb hby d16_4) rfl (teq hc4_1).2) ?_
    show Go p.tables e below _ (T0.setTop (mkF m 7 #[.val (.ref b1), .val (.ref b2), .unset] []))
    refine Go.by (fun _ => XS.iconst X0.here hx rfl (hb hby d16_7)) ?_
    show Go p.tables e below _ (T0.setTop (mkF m 8 #[.val (.ref b1), .val (.ref b2), .unset] [(.int (0 : Int32))]))
    refine Go.by (fun _ => XS.istoreN X0.here hx rfl (hb hby d16_8) rfl (l' := #[.val (.ref b1), .val (.ref b2), .val (.int (0 : Int32))]) rfl) ?_
    show Go p.tables e below _ (T0.setTop (mkF m 9 #[.val (.ref b1), .val (.ref b2), .val (.int (0 : Int32))] []))
    have eN : N1 = N2 := i32_inj (avf_sz V_b1) (avf_sz V_b2) hc4_1
    have J : ∀ (kk i : Nat), i + kk = N1 → (∀ j, j < i → g1 j = g2 j) → ∀ (Tj : State), Sd Z EL [] n0 p l e Rm16 s m #[(.ref b1), (.ref b2)] below meth c Tj h0 0 0 → Go p.tables e below (Ret Z EL (fun _ _ _ => False) s n0 (fun v h => (((N1 = N2 ∧ ∀ i, i < N1 → g1 i = g2 i) ∧ v = some (.int 1)) ∨ (¬ (N1 = N2 ∧ ∀ i, i < N1 → g1 i = g2 i) ∧ v = some (.int 0))) ∧ h0 = h) Rm16.cells Rm16.slots) (Tj.setTop (mkF m 9 #[.val (.ref b1), .val (.ref b2), .val (.int (Int32.ofNat i))] [])) := by
      intro kk
      have hN := avf_sz V_b1
      induction kk with
      | zero =>
        intro i hi hinv Tj Xj
        have hi : i = N1 := hi
        have hg : ¬ Int32.ofNat i < N1.toInt32 := i32_nlt (by omega) (by omega)
        refine Go.by (fun _ => XS.iloadN Xj.here hx rfl (hb hby d16_9) rfl) ?_
        show Go p.tables e below _ (Tj.setTop (mkF m 10 #[.val (.ref b1), .val (.ref b2), .val (.int (Int32.ofNat i))] [(.int (Int32.ofNat i))]))
        refine Go.by (fun _ => XS.aloadN Xj.here hx rfl (hb hby d16_10) rfl rfl) ?_
        show Go p.tables e below _ (Tj.setTop (mkF m 11 #[.val (.ref b1), .val (.ref b2), .val (.int (Int32.ofNat i))] [(.ref b1), (.int (Int32.ofNat i))]))
        refine Go.by (Xj.len hx hZ V_b1 (z := (N1.toInt32)) rfl (g := (mkF m 11 #[.val (.ref b1), .val (.ref b2), .val (.int (Int32.ofNat i))] [(.ref b1), (.int (Int32.ofNat i))])) rfl rfl (hb hby d16_11)) ?_
        show Go p.tables e below _ (Tj.setTop (mkF m 12 #[.val (.ref b1), .val (.ref b2), .val (.int (Int32.ofNat i))] [(.int (N1.toInt32)), (.int (Int32.ofNat i))]))
        refine Go.by (fun _ => XS.icmpYes Xj.here hx rfl (pc0 := 12) (pc' := 32) rfl (hb hby d16_12) rfl (flt hg).2.1 (by decide) (by decide)) ?_
        show Go p.tables e below _ (Tj.setTop (mkF m 32 #[.val (.ref b1), .val (.ref b2), .val (.int (Int32.ofNat i))] []))
        refine Go.by (fun _ => XS.iconst Xj.here hx rfl (hb hby d16_32)) ?_
        show Go p.tables e below _ (Tj.setTop (mkF m 33 #[.val (.ref b1), .val (.ref b2), .val (.int (Int32.ofNat i))] [(.int (1 : Int32))]))
        exact Go.retN Xj hx hlk (z' := (1 : Int32)) hret (by simp) (hb hby d16_33) rfl (by decide) (by decide) (fun _ z => z.elim) ⟨Or.inl ⟨⟨eN, fun j hj => hinv j (by omega)⟩, rfl⟩, rfl⟩
      | succ kk ih =>
        intro i hi hinv Tj Xj
        have hlt : i < N1 := by omega
        have hg : Int32.ofNat i < N1.toInt32 := i32_lt hlt hN
        refine Go.by (fun _ => XS.iloadN Xj.here hx rfl (hb hby d16_9) rfl) ?_
        show Go p.tables e below _ (Tj.setTop (mkF m 10 #[.val (.ref b1), .val (.ref b2), .val (.int (Int32.ofNat i))] [(.int (Int32.ofNat i))]))
        refine Go.by (fun _ => XS.aloadN Xj.here hx rfl (hb hby d16_10) rfl rfl) ?_
        show Go p.tables e below _ (Tj.setTop (mkF m 11 #[.val (.ref b1), .val (.ref b2), .val (.int (Int32.ofNat i))] [(.ref b1), (.int (Int32.ofNat i))]))
        refine Go.by (Xj.len hx hZ V_b1 (z := (N1.toInt32)) rfl (g := (mkF m 11 #[.val (.ref b1), .val (.ref b2), .val (.int (Int32.ofNat i))] [(.ref b1), (.int (Int32.ofNat i))])) rfl rfl (hb hby d16_11)) ?_
        show Go p.tables e below _ (Tj.setTop (mkF m 12 #[.val (.ref b1), .val (.ref b2), .val (.int (Int32.ofNat i))] [(.int (N1.toInt32)), (.int (Int32.ofNat i))]))
        refine Go.by (fun _ => XS.icmpNo Xj.here hx rfl (hb hby d16_12) rfl (tlt hg).2.1) ?_
        show Go p.tables e below _ (Tj.setTop (mkF m 15 #[.val (.ref b1), .val (.ref b2), .val (.int (Int32.ofNat i))] []))
        refine Go.by (fun _ => XS.aloadN Xj.here hx rfl (hb hby d16_15) rfl rfl) ?_
        show Go p.tables e below _ (Tj.setTop (mkF m 16 #[.val (.ref b1), .val (.ref b2), .val (.int (Int32.ofNat i))] [(.ref b1)]))
        refine Go.by (fun _ => XS.iloadN Xj.here hx rfl (hb hby d16_16) rfl) ?_
        show Go p.tables e below _ (Tj.setTop (mkF m 17 #[.val (.ref b1), .val (.ref b2), .val (.int (Int32.ofNat i))] [(.int (Int32.ofNat i)), (.ref b1)]))
        refine Go.by (Xj.ldB hx hZ V_b1 (i32_nneg (by omega)) (i := i) (i32_nat (by omega)) (by omega) (v := (.int (g1 i))) rfl (g := (mkF m 17 #[.val (.ref b1), .val (.ref b2), .val (.int (Int32.ofNat i))] [(.int (Int32.ofNat i)), (.ref b1)])) rfl rfl (hb hby d16_17)) ?_
        show Go p.tables e below _ (Tj.setTop (mkF m 18 #[.val (.ref b1), .val (.ref b2), .val (.int (Int32.ofNat i))] [(.int (g1 i))]))
        refine Go.by (fun _ => XS.aloadN Xj.here hx rfl (hb hby d16_18) rfl rfl) ?_
        show Go p.tables e below _ (Tj.setTop (mkF m 19 #[.val (.ref b1), .val (.ref b2), .val (.int (Int32.ofNat i))] [(.ref b2), (.int (g1 i))]))
        refine Go.by (fun _ => XS.iloadN Xj.here hx rfl (hb hby d16_19) rfl) ?_
        show Go p.tables e below _ (Tj.setTop (mkF m 20 #[.val (.ref b1), .val (.ref b2), .val (.int (Int32.ofNat i))] [(.int (Int32.ofNat i)), (.ref b2), (.int (g1 i))]))
        refine Go.by (Xj.ldB hx hZ V_b2 (i32_nneg (by omega)) (i := i) (i32_nat (by omega)) (by omega) (v := (.int (g2 i))) rfl (g := (mkF m 20 #[.val (.ref b1), .val (.ref b2), .val (.int (Int32.ofNat i))] [(.int (Int32.ofNat i)), (.ref b2), (.int (g1 i))])) rfl rfl (hb hby d16_20)) ?_
        show Go p.tables e below _ (Tj.setTop (mkF m 21 #[.val (.ref b1), .val (.ref b2), .val (.int (Int32.ofNat i))] [(.int (g2 i)), (.int (g1 i))]))
        by_cases hc21_3 : (g1 i) = (g2 i)
        · skip
          refine Go.by (fun _ => XS.icmpYes Xj.here hx rfl (pc0 := 21) (pc' := 26) rfl (hb hby d16_21) rfl (teq hc21_3).1 (by decide) (by decide)) ?_
          show Go p.tables e below _ (Tj.setTop (mkF m 26 #[.val (.ref b1), .val (.ref b2), .val (.int (Int32.ofNat i))] []))
          refine Go.by (fun _ => XS.iinc Xj.here hx rfl (hb hby d16_26) rfl (l' := #[.val (.ref b1), .val (.ref b2), .val (.int ((Int32.ofNat i) + (1 : Int32)))]) rfl) ?_
          show Go p.tables e below _ (Tj.setTop (mkF m 29 #[.val (.ref b1), .val (.ref b2), .val (.int ((Int32.ofNat i) + (1 : Int32)))] []))
          refine Go.by (fun _ => XS.goto Xj.here hx rfl (pc0 := 29) (pc' := 9) rfl (hb hby d16_29) (by decide) (by decide)) ?_
          show Go p.tables e below _ (Tj.setTop (mkF m 9 #[.val (.ref b1), .val (.ref b2), .val (.int ((Int32.ofNat i) + (1 : Int32)))] []))
          rw [i32_succ]
          exact ih (i + 1) (by omega) (fun j hj => by
            rcases Nat.lt_succ_iff_lt_or_eq.mp hj with q | rfl
            · exact hinv j q
            · exact hc21_3) _ Xj
        · skip
          refine Go.by (fun _ => XS.icmpNo Xj.here hx rfl (hb hby d16_21) rfl (feq hc21_3).1) ?_
          show Go p.tables e below _ (Tj.setTop (mkF m 24 #[.val (.ref b1), .val (.ref b2), .val (.int (Int32.ofNat i))] []))
          refine Go.by (fun _ => XS.iconst Xj.here hx rfl (hb hby d16_24)) ?_
          show Go p.tables e below _ (Tj.setTop (mkF m 25 #[.val (.ref b1), .val (.ref b2), .val (.int (Int32.ofNat i))] [(.int (0 : Int32))]))
          exact Go.retN Xj hx hlk (z' := (0 : Int32)) hret (by simp) (hb hby d16_25) rfl (by decide) (by decide) (fun _ z => z.elim) ⟨Or.inr ⟨fun q => hc21_3 (q.2 i hlt), rfl⟩, rfl⟩
    exact J N1 0 (by omega) (fun _ q => absurd q (Nat.not_lt_zero _)) _ X0
  · skip
    refine Go.by (fun _ => XS.icmpYes X0.here hx rfl (pc0 := 4) (pc' := 34) rfl (hb hby d16_4) rfl (feq hc4_1).2 (by decide) (by decide)) ?_
    show Go p.tables e below _ (T0.setTop (mkF m 34 #[.val (.ref b1), .val (.ref b2), .unset] []))
    refine Go.by (fun _ => XS.iconst X0.here hx rfl (hb hby d16_34)) ?_
    show Go p.tables e below _ (T0.setTop (mkF m 35 #[.val (.ref b1), .val (.ref b2), .unset] [(.int (0 : Int32))]))
    exact Go.retN X0 hx hlk (z' := (0 : Int32)) hret (by simp) (hb hby d16_35) rfl (by decide) (by decide) (fun _ z => z.elim) ⟨Or.inr ⟨fun q => hc4_1 (congrArg Nat.toInt32 q.1), rfl⟩, rfl⟩
theorem d15_0 : decode jdk_42_method_66_code 0 = .ok (.aload_n 0, 1) := by decide +kernel
theorem d15_1 : decode jdk_42_method_66_code 1 = .ok (.aload_n 1, 1) := by decide +kernel
theorem d15_2 : decode jdk_42_method_66_code 2 = .ok (.if_acmp .ne 5, 3) := by decide +kernel
theorem d15_5 : decode jdk_42_method_66_code 5 = .ok (.iconst 1, 1) := by decide +kernel
theorem d15_6 : decode jdk_42_method_66_code 6 = .ok (.ireturn, 1) := by decide +kernel
theorem d15_7 : decode jdk_42_method_66_code 7 = .ok (.aload_n 1, 1) := by decide +kernel
theorem d15_8 : decode jdk_42_method_66_code 8 = .ok (.instanceof 10, 3) := by decide +kernel
theorem d15_11 : decode jdk_42_method_66_code 11 = .ok (.ifCond .eq 43, 3) := by decide +kernel
theorem d15_14 : decode jdk_42_method_66_code 14 = .ok (.aload_n 1, 1) := by decide +kernel
theorem d15_15 : decode jdk_42_method_66_code 15 = .ok (.checkcast 10, 3) := by decide +kernel
theorem d15_18 : decode jdk_42_method_66_code 18 = .ok (.astore_n 2, 1) := by decide +kernel
theorem d15_19 : decode jdk_42_method_66_code 19 = .ok (.getstatic 38, 3) := by decide +kernel
theorem d15_22 : decode jdk_42_method_66_code 22 = .ok (.ifCond .eq 14, 3) := by decide +kernel
theorem d15_25 : decode jdk_42_method_66_code 25 = .ok (.aload_n 0, 1) := by decide +kernel
theorem d15_26 : decode jdk_42_method_66_code 26 = .ok (.getfield 15, 3) := by decide +kernel
theorem d15_29 : decode jdk_42_method_66_code 29 = .ok (.aload_n 2, 1) := by decide +kernel
theorem d15_30 : decode jdk_42_method_66_code 30 = .ok (.getfield 15, 3) := by decide +kernel
theorem d15_33 : decode jdk_42_method_66_code 33 = .ok (.if_icmp .ne 21, 3) := by decide +kernel
theorem d15_36 : decode jdk_42_method_66_code 36 = .ok (.aload_n 0, 1) := by decide +kernel
theorem d15_37 : decode jdk_42_method_66_code 37 = .ok (.getfield 9, 3) := by decide +kernel
theorem d15_40 : decode jdk_42_method_66_code 40 = .ok (.aload_n 2, 1) := by decide +kernel
theorem d15_41 : decode jdk_42_method_66_code 41 = .ok (.getfield 9, 3) := by decide +kernel
theorem d15_44 : decode jdk_42_method_66_code 44 = .ok (.invokestatic 541, 3) := by decide +kernel
theorem pd0 : parseMethodDescriptor "([B[B)Z" = some ⟨[(.array .byte), (.array .byte)], some .boolean⟩ := by decide +kernel
theorem d15_47 : decode jdk_42_method_66_code 47 = .ok (.ifCond .eq 7, 3) := by decide +kernel
theorem d15_50 : decode jdk_42_method_66_code 50 = .ok (.iconst 1, 1) := by decide +kernel
theorem d15_51 : decode jdk_42_method_66_code 51 = .ok (.goto 4, 3) := by decide +kernel
theorem d15_55 : decode jdk_42_method_66_code 55 = .ok (.ireturn, 1) := by decide +kernel
theorem d15_54 : decode jdk_42_method_66_code 54 = .ok (.iconst 0, 1) := by decide +kernel
abbrev Rm15 : Room := { frames := 1, cells := 0, slots := 0, locals := 14 }
theorem pn1 : plainName "java/lang/String" = true := by first | (simp [plainName, overriddenIn]; done) | decide +kernel
set_option maxRecDepth 65536 in
set_option maxHeartbeats 40000000 in
theorem rm15 (l : Launch) (Z : State) (a0 : Array Value) (hw : ∀ d ∈ tables_1, d.before a0 Z = true) (ws : List Jvm.Cond) (a1 : Addr) (a2 : Addr) (cs : Int32) (b1 b2 : Addr) (k1 k2 : ClassId) (N1 N2 : Nat) (g1 g2 : Nat → Int32) (h0 : Heap) (n0 : Nat) (Z0 : n0 ≤ h0.size) (O0 : Old Z n0 h0) (S_CS0 : Sta Z Z.heap "java/lang/String" "COMPACT_STRINGS" "Z" (.int cs)) (hcs : ¬ cs = 0) (E_a1 : Exa Z h0 a1 "java/lang/String") (Fv_a1 : Fld Z h0 a1 "java/lang/String" "value" "[B" (.ref b1)) (Fc_a1 : Fld Z h0 a1 "java/lang/String" "coder" "B" (.int (0 : Int32))) (V_b1 : Avf Z h0 b1 k1 .byte N1 (fun i => (.int (g1 i)))) (E_a2 : Exa Z h0 a2 "java/lang/String") (Fv_a2 : Fld Z h0 a2 "java/lang/String" "value" "[B" (.ref b2)) (Fc_a2 : Fld Z h0 a2 "java/lang/String" "coder" "B" (.int (0 : Int32))) (V_b2 : Avf Z h0 b2 k2 .byte N2 (fun i => (.int (g2 i)))) :
    Met l Z EL [] (fun _ _ _ => False) n0 (⟨"java/lang/String", "equals", "(Ljava/lang/Object;)Z"⟩ : MethodName) jdk_42_method_66_code 3 (some .boolean) ws Rm15 #[(.ref a1), (.ref a2)] h0 (fun v h => (((N1 = N2 ∧ ∀ i, i < N1 → g1 i = g2 i) ∧ v = some (.int 1)) ∨ (¬ (N1 = N2 ∧ ∀ i, i < N1 → g1 i = g2 i) ∧ v = some (.int 0))) ∧ h0 = h) := by
  refine enter (Ls := #[.val (.ref a1), .val (.ref a2), .unset]) (plainFor_of_name pn1) (fun m => by first | (simp [entryFrame, mkF, argsToLocals, Value.category]; done) | rfl) ?_
  intro p e s m below meth c T0 hx hby hml hown hnm hret hlk hZ X0
  have S_CS := S_CS0.ext O0.2
  show Go p.tables e below _ (T0.setTop (mkF m 0 #[.val (.ref a1), .val (.ref a2), .unset] []))
  refine Go.by (fun _ => XS.aloadN X0.here hx rfl (hb hby d15_0) rfl rfl) ?_
  show Go p.tables e below _ (T0.setTop (mkF m 1 #[.val (.ref a1), .val (.ref a2), .unset] [(.ref a1)]))
  refine Go.by (fun _ => XS.aloadN X0.here hx rfl (hb hby d15_1) rfl rfl) ?_
  show Go p.tables e below _ (T0.setTop (mkF m 2 #[.val (.ref a1), .val (.ref a2), .unset] [(.ref a2), (.ref a1)]))
  by_cases ha2_1 : a1 = a2
  · skip
    refine Go.by (X0.acmp (g := (mkF m 2 #[.val (.ref a1), .val (.ref a2), .unset] [(.ref a2), (.ref a1)])) hx rfl rfl rfl (pc0 := 2) (pc' := 5) (same := true) rfl (hb hby d15_2) rfl (decide_eq_true (congrArg Value.ref ha2_1)) (by decide) (by decide)) ?_
    show Go p.tables e below _ (T0.setTop (mkF m 5 #[.val (.ref a1), .val (.ref a2), .unset] []))
    refine Go.by (fun _ => XS.iconst X0.here hx rfl (hb hby d15_5)) ?_
    show Go p.tables e below _ (T0.setTop (mkF m 6 #[.val (.ref a1), .val (.ref a2), .unset] [(.int (1 : Int32))]))
    refine Go.retN X0 hx hlk (z' := (1 : Int32)) hret (by simp) (hb hby d15_6) rfl (by decide) (by decide) (fun _ z => z.elim) ?_
    subst ha2_1
    have eb : b1 = b2 := Value.ref.inj (fld_uniq Fv_a1 Fv_a2)
    subst eb
    obtain ⟨u1, u2⟩ := avf_uniq V_b1 V_b2
    exact ⟨Or.inl ⟨⟨u1, fun i hi => Value.int.inj (u2 i hi)⟩, rfl⟩, rfl⟩
  · skip
    refine Go.by (X0.acmp (g := (mkF m 2 #[.val (.ref a1), .val (.ref a2), .unset] [(.ref a2), (.ref a1)])) hx rfl rfl rfl (pc0 := 2) (pc' := 7) (same := false) rfl (hb hby d15_2) rfl (decide_eq_false fun q => ha2_1 (Value.ref.inj q)) (by decide) (by decide)) ?_
    show Go p.tables e below _ (T0.setTop (mkF m 7 #[.val (.ref a1), .val (.ref a2), .unset] []))
    refine Go.by (fun _ => XS.aloadN X0.here hx rfl (hb hby d15_7) rfl rfl) ?_
    show Go p.tables e below _ (T0.setTop (mkF m 8 #[.val (.ref a1), .val (.ref a2), .unset] [(.ref a2)]))
    obtain ⟨T2, X2, st2⟩ := X0.instY hx hZ hown (tw hw 87 rfl) (Ins.self E_a2) (g := (mkF m 8 #[.val (.ref a1), .val (.ref a2), .unset] [(.ref a2)])) rfl rfl (hb hby d15_8)
    refine Go.by st2 ?_
    show Go p.tables e below _ (T2.setTop (mkF m 11 #[.val (.ref a1), .val (.ref a2), .unset] [(.int (1 : Int32))]))
    refine Go.by (fun _ => XS.ifNo X2.here hx rfl (hb hby d15_11) rfl ((if0 _ _).trans (feq (by decide)).1)) ?_
    show Go p.tables e below _ (T2.setTop (mkF m 14 #[.val (.ref a1), .val (.ref a2), .unset] []))
    refine Go.by (fun _ => XS.aloadN X2.here hx rfl (hb hby d15_14) rfl rfl) ?_
    show Go p.tables e below _ (T2.setTop (mkF m 15 #[.val (.ref a1), .val (.ref a2), .unset] [(.ref a2)]))
    obtain ⟨T3, X3, st3⟩ := X2.castY hx hZ hown (tw hw 87 rfl) (Ins.self E_a2) (g := (mkF m 15 #[.val (.ref a1), .val (.ref a2), .unset] [(.ref a2)])) rfl rfl (hb hby d15_15)
    refine Go.by st3 ?_
    show Go p.tables e below _ (T3.setTop (mkF m 18 #[.val (.ref a1), .val (.ref a2), .unset] [(.ref a2)]))
    refine Go.by (fun _ => XS.astoreN X3.here hx rfl (hb hby d15_18) rfl rfl (l' := #[.val (.ref a1), .val (.ref a2), .val (.ref a2)]) rfl) ?_
    show Go p.tables e below _ (T3.setTop (mkF m 19 #[.val (.ref a1), .val (.ref a2), .val (.ref a2)] []))
    obtain ⟨T4, X4, st4⟩ := X3.getS hx hZ hown (host := "") (Or.inl (tw hw 66 rfl)) Via.refl S_CS (g := (mkF m 19 #[.val (.ref a1), .val (.ref a2), .val (.ref a2)] [])) rfl (hb hby d15_19)
    refine Go.by st4 ?_
    show Go p.tables e below _ (T4.setTop (mkF m 22 #[.val (.ref a1), .val (.ref a2), .val (.ref a2)] [(.int cs)]))
    refine Go.by (fun _ => XS.ifNo X4.here hx rfl (hb hby d15_22) rfl ((if0 _ _).trans (feq hcs).1)) ?_
    show Go p.tables e below _ (T4.setTop (mkF m 25 #[.val (.ref a1), .val (.ref a2), .val (.ref a2)] []))
    refine Go.by (fun _ => XS.aloadN X4.here hx rfl (hb hby d15_25) rfl rfl) ?_
    show Go p.tables e below _ (T4.setTop (mkF m 26 #[.val (.ref a1), .val (.ref a2), .val (.ref a2)] [(.ref a1)]))
    obtain ⟨T5, X5, st5⟩ := X4.getF hx hZ hown (host := "") (Or.inl (tw hw 40 rfl)) Via.refl Fc_a1 (g := (mkF m 26 #[.val (.ref a1), .val (.ref a2), .val (.ref a2)] [(.ref a1)])) rfl rfl (hb hby d15_26)
    refine Go.by st5 ?_
    show Go p.tables e below _ (T5.setTop (mkF m 29 #[.val (.ref a1), .val (.ref a2), .val (.ref a2)] [(.int (0 : Int32))]))
    refine Go.by (fun _ => XS.aloadN X5.here hx rfl (hb hby d15_29) rfl rfl) ?_
    show Go p.tables e below _ (T5.setTop (mkF m 30 #[.val (.ref a1), .val (.ref a2), .val (.ref a2)] [(.ref a2), (.int (0 : Int32))]))
    obtain ⟨T6, X6, st6⟩ := X5.getF hx hZ hown (host := "") (Or.inl (tw hw 40 rfl)) Via.refl Fc_a2 (g := (mkF m 30 #[.val (.ref a1), .val (.ref a2), .val (.ref a2)] [(.ref a2), (.int (0 : Int32))])) rfl rfl (hb hby d15_30)
    refine Go.by st6 ?_
    show Go p.tables e below _ (T6.setTop (mkF m 33 #[.val (.ref a1), .val (.ref a2), .val (.ref a2)] [(.int (0 : Int32)), (.int (0 : Int32))]))
    refine Go.by (fun _ => XS.icmpNo X6.here hx rfl (hb hby d15_33) rfl (teq (by decide)).2) ?_
    show Go p.tables e below _ (T6.setTop (mkF m 36 #[.val (.ref a1), .val (.ref a2), .val (.ref a2)] []))
    refine Go.by (fun _ => XS.aloadN X6.here hx rfl (hb hby d15_36) rfl rfl) ?_
    show Go p.tables e below _ (T6.setTop (mkF m 37 #[.val (.ref a1), .val (.ref a2), .val (.ref a2)] [(.ref a1)]))
    obtain ⟨T7, X7, st7⟩ := X6.getF hx hZ hown (host := "") (Or.inl (tw hw 39 rfl)) Via.refl Fv_a1 (g := (mkF m 37 #[.val (.ref a1), .val (.ref a2), .val (.ref a2)] [(.ref a1)])) rfl rfl (hb hby d15_37)
    refine Go.by st7 ?_
    show Go p.tables e below _ (T7.setTop (mkF m 40 #[.val (.ref a1), .val (.ref a2), .val (.ref a2)] [(.ref b1)]))
    refine Go.by (fun _ => XS.aloadN X7.here hx rfl (hb hby d15_40) rfl rfl) ?_
    show Go p.tables e below _ (T7.setTop (mkF m 41 #[.val (.ref a1), .val (.ref a2), .val (.ref a2)] [(.ref a2), (.ref b1)]))
    obtain ⟨T8, X8, st8⟩ := X7.getF hx hZ hown (host := "") (Or.inl (tw hw 39 rfl)) Via.refl Fv_a2 (g := (mkF m 41 #[.val (.ref a1), .val (.ref a2), .val (.ref a2)] [(.ref a2), (.ref b1)])) rfl rfl (hb hby d15_41)
    refine Go.by st8 ?_
    show Go p.tables e below _ (T8.setTop (mkF m 44 #[.val (.ref a1), .val (.ref a2), .val (.ref a2)] [(.ref b2), (.ref b1)]))
    obtain ⟨v9, T9, h9, X9, q9, xs9, st9⟩ := X8.callS hx hZ f0n (y := (⟨"java/lang/StringLatin1", "equals", "([B[B)Z"⟩ : MethodName)) hown (tw hw 88 rfl) (tw hw 89 rfl) (tw hw 90 rfl) (tw hw 91 rfl) (by decide) (rm16 l Z a0 hw [] b1 b2 k1 k2 N1 N2 g1 g2 h0 n0 Z0 V_b1 V_b2) (g := (mkF m 44 #[.val (.ref a1), .val (.ref a2), .val (.ref a2)] [(.ref b2), (.ref b1)])) rfl (by rw [hml]; rfl) (argsL := [(.ref b1), (.ref b2)]) (rest := []) (lenOf pd0 rfl) rfl (hb hby d15_44) rfl (by decide) (Nat.le_of_ble_eq_true rfl) (k' := 0) (n' := 0) rfl rfl (by decide) (by decide)
    refine Go.by st9 ?_
    rcases q9 with ⟨⟨hq9, rfl⟩ | ⟨hq9, rfl⟩, rfl⟩
    · skip
      show Go p.tables e below _ (T9.setTop (mkF m 47 #[.val (.ref a1), .val (.ref a2), .val (.ref a2)] [(.int (1 : Int32))]))
      refine Go.by (fun _ => XS.ifNo X9.here hx rfl (hb hby d15_47) rfl ((if0 _ _).trans (feq (by decide)).1)) ?_
      show Go p.tables e below _ (T9.setTop (mkF m 50 #[.val (.ref a1), .val (.ref a2), .val (.ref a2)] []))
      refine Go.by (fun _ => XS.iconst X9.here hx rfl (hb hby d15_50)) ?_
      show Go p.tables e below _ (T9.setTop (mkF m 51 #[.val (.ref a1), .val (.ref a2), .val (.ref a2)] [(.int (1 : Int32))]))
      refine Go.by (fun _ => XS.goto X9.here hx rfl (pc0 := 51) (pc' := 55) rfl (hb hby d15_51) (by decide) (by decide)) ?_
      show Go p.tables e below _ (T9.setTop (mkF m 55 #[.val (.ref a1), .val (.ref a2), .val (.ref a2)] [(.int (1 : Int32))]))
      exact Go.retN X9 hx hlk (z' := (1 : Int32)) hret (by simp) (hb hby d15_55) rfl (by decide) (by decide) (fun _ z => z.elim) ⟨Or.inl ⟨hq9, rfl⟩, rfl⟩
    · skip
      show Go p.tables e below _ (T9.setTop (mkF m 47 #[.val (.ref a1), .val (.ref a2), .val (.ref a2)] [(.int (0 : Int32))]))
      refine Go.by (fun _ => XS.ifYes X9.here hx rfl (pc0 := 47) (pc' := 54) rfl (hb hby d15_47) rfl ((if0 _ _).trans (teq (by decide)).1) (by decide) (by decide)) ?_
      show Go p.tables e below _ (T9.setTop (mkF m 54 #[.val (.ref a1), .val (.ref a2), .val (.ref a2)] []))
      refine Go.by (fun _ => XS.iconst X9.here hx rfl (hb hby d15_54)) ?_
      show Go p.tables e below _ (T9.setTop (mkF m 55 #[.val (.ref a1), .val (.ref a2), .val (.ref a2)] [(.int (0 : Int32))]))
      exact Go.retN X9 hx hlk (z' := (0 : Int32)) hret (by simp) (hb hby d15_55) rfl (by decide) (by decide) (fun _ z => z.elim) ⟨Or.inr ⟨hq9, rfl⟩, rfl⟩
theorem d12_0 : decode jdk_52_method_21_code 0 = .ok (.iconst 0, 1) := by decide +kernel
theorem d12_1 : decode jdk_52_method_21_code 1 = .ok (.istore 5, 2) := by decide +kernel
theorem d12_3 : decode jdk_52_method_21_code 3 = .ok (.iload 5, 2) := by decide +kernel
theorem d12_5 : decode jdk_52_method_21_code 5 = .ok (.iload 4, 2) := by decide +kernel
theorem d12_7 : decode jdk_52_method_21_code 7 = .ok (.if_icmp .ge 37, 3) := by decide +kernel
theorem d12_10 : decode jdk_52_method_21_code 10 = .ok (.aload_n 0, 1) := by decide +kernel
theorem d12_11 : decode jdk_52_method_21_code 11 = .ok (.iload_n 1, 1) := by decide +kernel
theorem d12_12 : decode jdk_52_method_21_code 12 = .ok (.caload, 1) := by decide +kernel
theorem d12_13 : decode jdk_52_method_21_code 13 = .ok (.istore 6, 2) := by decide +kernel
theorem d12_15 : decode jdk_52_method_21_code 15 = .ok (.iload 6, 2) := by decide +kernel
theorem d12_17 : decode jdk_52_method_21_code 17 = .ok (.sipush 255, 3) := by decide +kernel
theorem d12_20 : decode jdk_52_method_21_code 20 = .ok (.if_icmp .le 6, 3) := by decide +kernel
theorem d12_26 : decode jdk_52_method_21_code 26 = .ok (.aload_n 2, 1) := by decide +kernel
theorem d12_27 : decode jdk_52_method_21_code 27 = .ok (.iload_n 3, 1) := by decide +kernel
theorem d12_28 : decode jdk_52_method_21_code 28 = .ok (.iload 6, 2) := by decide +kernel
theorem d12_30 : decode jdk_52_method_21_code 30 = .ok (.i2b, 1) := by decide +kernel
theorem d12_31 : decode jdk_52_method_21_code 31 = .ok (.bastore, 1) := by decide +kernel
theorem d12_32 : decode jdk_52_method_21_code 32 = .ok (.iinc 1 1, 3) := by decide +kernel
theorem d12_35 : decode jdk_52_method_21_code 35 = .ok (.iinc 3 1, 3) := by decide +kernel
theorem d12_38 : decode jdk_52_method_21_code 38 = .ok (.iinc 5 1, 3) := by decide +kernel
theorem d12_41 : decode jdk_52_method_21_code 41 = .ok (.goto (-38), 3) := by decide +kernel
theorem d12_44 : decode jdk_52_method_21_code 44 = .ok (.iload 4, 2) := by decide +kernel
theorem d12_46 : decode jdk_52_method_21_code 46 = .ok (.ireturn, 1) := by decide +kernel
abbrev RmP1 : Room := { frames := 0, cells := 0, slots := 0, locals := 0 }
theorem pn2 : plainName "java/lang/StringUTF16" = true := by first | (simp [plainName, overriddenIn]; done) | decide +kernel
set_option maxRecDepth 65536 in
set_option maxHeartbeats 40000000 in
theorem rmP1 (l : Launch) (Z : State) (a0 : Array Value) (hw : ∀ d ∈ tables_1, d.before a0 Z = true) (ws : List Jvm.Cond) (a1 : Addr) (a3 : Addr) (k1 k3 : ClassId) (cf : Nat → Int32) (f3 : Nat → Value) (h0 : Heap) (n0 : Nat) (Z0 : n0 ≤ h0.size) (V_a1 : Avf Z h0 a1 k1 .char 1 (fun i => (.int (cf i)))) (V_a3 : Avf Z h0 a3 k3 .byte 1 f3) (g_a3 : n0 ≤ a3) (hc : ∀ i, i < 1 → ¬ (255 : Int32) < cf i) :
    Met l Z EL [a3] (fun _ _ _ => False) n0 (⟨"java/lang/StringUTF16", "compress", "([CI[BII)I"⟩ : MethodName) jdk_52_method_21_code 7 (some .int) ws RmP1 #[(.ref a1), (.int (0 : Int32)), (.ref a3), (.int (0 : Int32)), (.int (1 : Int32))] h0 (fun v h => v = some (.int 1) ∧ Keep h0 h [a3] ∧ Avf Z h a3 k3 .byte 1 (fun i => (.int ((fun j => (cf j).toInt8.toInt32) i)))) := by
  refine enter (Ls := #[.val (.ref a1), .val (.int (0 : Int32)), .val (.ref a3), .val (.int (0 : Int32)), .val (.int (1 : Int32)), .unset, .unset]) (plainFor_of_name pn2) (fun m => by first | (simp [entryFrame, mkF, argsToLocals, Value.category]; done) | rfl) ?_
  intro p e s m below meth c T0 hx hby hml hown hnm hret hlk hZ X0
  have ne13 : a1 ≠ a3 := avf_ne V_a1 V_a3 (by decide)
  have K0 := Keep.refl h0 [a3]
  show Go p.tables e below _ (T0.setTop (mkF m 0 #[.val (.ref a1), .val (.int (0 : Int32)), .val (.ref a3), .val (.int (0 : Int32)), .val (.int (1 : Int32)), .unset, .unset] []))
  refine Go.by (fun _ => XS.iconst X0.here hx rfl (hb hby d12_0)) ?_
  show Go p.tables e below _ (T0.setTop (mkF m 1 #[.val (.ref a1), .val (.int (0 : Int32)), .val (.ref a3), .val (.int (0 : Int32)), .val (.int (1 : Int32)), .unset, .unset] [(.int (0 : Int32))]))
  refine Go.by (fun _ => XS.istore X0.here hx rfl (hb hby d12_1) rfl (l' := #[.val (.ref a1), .val (.int (0 : Int32)), .val (.ref a3), .val (.int (0 : Int32)), .val (.int (1 : Int32)), .val (.int (0 : Int32)), .unset]) rfl) ?_
  show Go p.tables e below _ (T0.setTop (mkF m 3 #[.val (.ref a1), .val (.int (0 : Int32)), .val (.ref a3), .val (.int (0 : Int32)), .val (.int (1 : Int32)), .val (.int (0 : Int32)), .unset] []))
  refine Go.by (fun _ => XS.iload X0.here hx rfl (hb hby d12_3) rfl) ?_
  show Go p.tables e below _ (T0.setTop (mkF m 5 #[.val (.ref a1), .val (.int (0 : Int32)), .val (.ref a3), .val (.int (0 : Int32)), .val (.int (1 : Int32)), .val (.int (0 : Int32)), .unset] [(.int (0 : Int32))]))
  refine Go.by (fun _ => XS.iload X0.here hx rfl (hb hby d12_5) rfl) ?_
  show Go p.tables e below _ (T0.setTop (mkF m 7 #[.val (.ref a1), .val (.int (0 : Int32)), .val (.ref a3), .val (.int (0 : Int32)), .val (.int (1 : Int32)), .val (.int (0 : Int32)), .unset] [(.int (1 : Int32)), (.int (0 : Int32))]))
  refine Go.by (fun _ => XS.icmpNo X0.here hx rfl (hb hby d12_7) rfl (tlt (by decide)).2.1) ?_
  show Go p.tables e below _ (T0.setTop (mkF m 10 #[.val (.ref a1), .val (.int (0 : Int32)), .val (.ref a3), .val (.int (0 : Int32)), .val (.int (1 : Int32)), .val (.int (0 : Int32)), .unset] []))
  refine Go.by (fun _ => XS.aloadN X0.here hx rfl (hb hby d12_10) rfl rfl) ?_
  show Go p.tables e below _ (T0.setTop (mkF m 11 #[.val (.ref a1), .val (.int (0 : Int32)), .val (.ref a3), .val (.int (0 : Int32)), .val (.int (1 : Int32)), .val (.int (0 : Int32)), .unset] [(.ref a1)]))
  refine Go.by (fun _ => XS.iloadN X0.here hx rfl (hb hby d12_11) rfl) ?_
  show Go p.tables e below _ (T0.setTop (mkF m 12 #[.val (.ref a1), .val (.int (0 : Int32)), .val (.ref a3), .val (.int (0 : Int32)), .val (.int (1 : Int32)), .val (.int (0 : Int32)), .unset] [(.int (0 : Int32)), (.ref a1)]))
  refine Go.by (X0.ldC hx hZ V_a1 (by decide) (i := 0) rfl (by decide) (v := (.int (cf 0))) rfl (g := (mkF m 12 #[.val (.ref a1), .val (.int (0 : Int32)), .val (.ref a3), .val (.int (0 : Int32)), .val (.int (1 : Int32)), .val (.int (0 : Int32)), .unset] [(.int (0 : Int32)), (.ref a1)])) rfl rfl (hb hby d12_12)) ?_
  show Go p.tables e below _ (T0.setTop (mkF m 13 #[.val (.ref a1), .val (.int (0 : Int32)), .val (.ref a3), .val (.int (0 : Int32)), .val (.int (1 : Int32)), .val (.int (0 : Int32)), .unset] [(.int (cf 0))]))
  refine Go.by (fun _ => XS.istore X0.here hx rfl (hb hby d12_13) rfl (l' := #[.val (.ref a1), .val (.int (0 : Int32)), .val (.ref a3), .val (.int (0 : Int32)), .val (.int (1 : Int32)), .val (.int (0 : Int32)), .val (.int (cf 0))]) rfl) ?_
  show Go p.tables e below _ (T0.setTop (mkF m 15 #[.val (.ref a1), .val (.int (0 : Int32)), .val (.ref a3), .val (.int (0 : Int32)), .val (.int (1 : Int32)), .val (.int (0 : Int32)), .val (.int (cf 0))] []))
  refine Go.by (fun _ => XS.iload X0.here hx rfl (hb hby d12_15) rfl) ?_
  show Go p.tables e below _ (T0.setTop (mkF m 17 #[.val (.ref a1), .val (.int (0 : Int32)), .val (.ref a3), .val (.int (0 : Int32)), .val (.int (1 : Int32)), .val (.int (0 : Int32)), .val (.int (cf 0))] [(.int (cf 0))]))
  refine Go.by (fun _ => XS.sipush X0.here hx rfl (hb hby d12_17)) ?_
  show Go p.tables e below _ (T0.setTop (mkF m 20 #[.val (.ref a1), .val (.int (0 : Int32)), .val (.ref a3), .val (.int (0 : Int32)), .val (.int (1 : Int32)), .val (.int (0 : Int32)), .val (.int (cf 0))] [(.int (255 : Int32)), (.int (cf 0))]))
  refine Go.by (fun _ => XS.icmpYes X0.here hx rfl (pc0 := 20) (pc' := 26) rfl (hb hby d12_20) rfl (flt ((hc 0 (by decide)))).2.2.2 (by decide) (by decide)) ?_
  show Go p.tables e below _ (T0.setTop (mkF m 26 #[.val (.ref a1), .val (.int (0 : Int32)), .val (.ref a3), .val (.int (0 : Int32)), .val (.int (1 : Int32)), .val (.int (0 : Int32)), .val (.int (cf 0))] []))
  refine Go.by (fun _ => XS.aloadN X0.here hx rfl (hb hby d12_26) rfl rfl) ?_
  show Go p.tables e below _ (T0.setTop (mkF m 27 #[.val (.ref a1), .val (.int (0 : Int32)), .val (.ref a3), .val (.int (0 : Int32)), .val (.int (1 : Int32)), .val (.int (0 : Int32)), .val (.int (cf 0))] [(.ref a3)]))
  refine Go.by (fun _ => XS.iloadN X0.here hx rfl (hb hby d12_27) rfl) ?_
  show Go p.tables e below _ (T0.setTop (mkF m 28 #[.val (.ref a1), .val (.int (0 : Int32)), .val (.ref a3), .val (.int (0 : Int32)), .val (.int (1 : Int32)), .val (.int (0 : Int32)), .val (.int (cf 0))] [(.int (0 : Int32)), (.ref a3)]))
  refine Go.by (fun _ => XS.iload X0.here hx rfl (hb hby d12_28) rfl) ?_
  show Go p.tables e below _ (T0.setTop (mkF m 30 #[.val (.ref a1), .val (.int (0 : Int32)), .val (.ref a3), .val (.int (0 : Int32)), .val (.int (1 : Int32)), .val (.int (0 : Int32)), .val (.int (cf 0))] [(.int (cf 0)), (.int (0 : Int32)), (.ref a3)]))
  refine Go.by (fun _ => XS.i2b X0.here hx rfl (hb hby d12_30) rfl) ?_
  show Go p.tables e below _ (T0.setTop (mkF m 31 #[.val (.ref a1), .val (.int (0 : Int32)), .val (.ref a3), .val (.int (0 : Int32)), .val (.int (1 : Int32)), .val (.int (0 : Int32)), .val (.int (cf 0))] [(.int ((cf 0).toInt8.toInt32)), (.int (0 : Int32)), (.ref a3)]))
  obtain ⟨T1, h1, X1, W1, V1, st1⟩ := X0.stB hx hZ V_a3 g_a3 (List.mem_cons_self ..) (by decide) (i := 0) rfl (by decide) (g := (mkF m 31 #[.val (.ref a1), .val (.int (0 : Int32)), .val (.ref a3), .val (.int (0 : Int32)), .val (.int (1 : Int32)), .val (.int (0 : Int32)), .val (.int (cf 0))] [(.int ((cf 0).toInt8.toInt32)), (.int (0 : Int32)), (.ref a3)])) rfl rfl (hb hby d12_31)
  have f2_36 := Avf.other V_a1 W1 ne13
  have f2_37 := K0.wr W1 (Or.inl (List.mem_of_getElem? (i := 0) rfl))
  have Zs2 : n0 ≤ h1.size := by rw [W1.size]; exact Z0
  refine Go.by st1 ?_
  show Go p.tables e below _ (T1.setTop (mkF m 32 #[.val (.ref a1), .val (.int (0 : Int32)), .val (.ref a3), .val (.int (0 : Int32)), .val (.int (1 : Int32)), .val (.int (0 : Int32)), .val (.int (cf 0))] []))
  refine Go.by (fun _ => XS.iinc X1.here hx rfl (hb hby d12_32) rfl (l' := #[.val (.ref a1), .val (.int (1 : Int32)), .val (.ref a3), .val (.int (0 : Int32)), .val (.int (1 : Int32)), .val (.int (0 : Int32)), .val (.int (cf 0))]) rfl) ?_
  show Go p.tables e below _ (T1.setTop (mkF m 35 #[.val (.ref a1), .val (.int (1 : Int32)), .val (.ref a3), .val (.int (0 : Int32)), .val (.int (1 : Int32)), .val (.int (0 : Int32)), .val (.int (cf 0))] []))
  refine Go.by (fun _ => XS.iinc X1.here hx rfl (hb hby d12_35) rfl (l' := #[.val (.ref a1), .val (.int (1 : Int32)), .val (.ref a3), .val (.int (1 : Int32)), .val (.int (1 : Int32)), .val (.int (0 : Int32)), .val (.int (cf 0))]) rfl) ?_
  show Go p.tables e below _ (T1.setTop (mkF m 38 #[.val (.ref a1), .val (.int (1 : Int32)), .val (.ref a3), .val (.int (1 : Int32)), .val (.int (1 : Int32)), .val (.int (0 : Int32)), .val (.int (cf 0))] []))
  refine Go.by (fun _ => XS.iinc X1.here hx rfl (hb hby d12_38) rfl (l' := #[.val (.ref a1), .val (.int (1 : Int32)), .val (.ref a3), .val (.int (1 : Int32)), .val (.int (1 : Int32)), .val (.int (1 : Int32)), .val (.int (cf 0))]) rfl) ?_
  show Go p.tables e below _ (T1.setTop (mkF m 41 #[.val (.ref a1), .val (.int (1 : Int32)), .val (.ref a3), .val (.int (1 : Int32)), .val (.int (1 : Int32)), .val (.int (1 : Int32)), .val (.int (cf 0))] []))
  refine Go.by (fun _ => XS.goto X1.here hx rfl (pc0 := 41) (pc' := 3) rfl (hb hby d12_41) (by decide) (by decide)) ?_
  show Go p.tables e below _ (T1.setTop (mkF m 3 #[.val (.ref a1), .val (.int (1 : Int32)), .val (.ref a3), .val (.int (1 : Int32)), .val (.int (1 : Int32)), .val (.int (1 : Int32)), .val (.int (cf 0))] []))
  refine Go.by (fun _ => XS.iload X1.here hx rfl (hb hby d12_3) rfl) ?_
  show Go p.tables e below _ (T1.setTop (mkF m 5 #[.val (.ref a1), .val (.int (1 : Int32)), .val (.ref a3), .val (.int (1 : Int32)), .val (.int (1 : Int32)), .val (.int (1 : Int32)), .val (.int (cf 0))] [(.int (1 : Int32))]))
  refine Go.by (fun _ => XS.iload X1.here hx rfl (hb hby d12_5) rfl) ?_
  show Go p.tables e below _ (T1.setTop (mkF m 7 #[.val (.ref a1), .val (.int (1 : Int32)), .val (.ref a3), .val (.int (1 : Int32)), .val (.int (1 : Int32)), .val (.int (1 : Int32)), .val (.int (cf 0))] [(.int (1 : Int32)), (.int (1 : Int32))]))
  refine Go.by (fun _ => XS.icmpYes X1.here hx rfl (pc0 := 7) (pc' := 44) rfl (hb hby d12_7) rfl (flt (by decide)).2.1 (by decide) (by decide)) ?_
  show Go p.tables e below _ (T1.setTop (mkF m 44 #[.val (.ref a1), .val (.int (1 : Int32)), .val (.ref a3), .val (.int (1 : Int32)), .val (.int (1 : Int32)), .val (.int (1 : Int32)), .val (.int (cf 0))] []))
  refine Go.by (fun _ => XS.iload X1.here hx rfl (hb hby d12_44) rfl) ?_
  show Go p.tables e below _ (T1.setTop (mkF m 46 #[.val (.ref a1), .val (.int (1 : Int32)), .val (.ref a3), .val (.int (1 : Int32)), .val (.int (1 : Int32)), .val (.int (1 : Int32)), .val (.int (cf 0))] [(.int (1 : Int32))]))
  refine Go.retI X1 hx hlk hret (hb hby d12_46) (by decide) (by decide) (fun _ z => z.elim) ?_
  refine ⟨rfl, f2_37, Avf.cong V1 (fun i hi => ?_)⟩
  match i, hi with
  | 0, _ => simp
abbrev RmP2 : Room := { frames := 0, cells := 0, slots := 0, locals := 0 }
set_option maxRecDepth 65536 in
set_option maxHeartbeats 40000000 in
theorem rmP2 (l : Launch) (Z : State) (a0 : Array Value) (hw : ∀ d ∈ tables_1, d.before a0 Z = true) (ws : List Jvm.Cond) (a1 : Addr) (a3 : Addr) (k1 k3 : ClassId) (cf : Nat → Int32) (f3 : Nat → Value) (h0 : Heap) (n0 : Nat) (Z0 : n0 ≤ h0.size) (V_a1 : Avf Z h0 a1 k1 .char 2 (fun i => (.int (cf i)))) (V_a3 : Avf Z h0 a3 k3 .byte 2 f3) (g_a3 : n0 ≤ a3) (hc : ∀ i, i < 2 → ¬ (255 : Int32) < cf i) :
    Met l Z EL [a3] (fun _ _ _ => False) n0 (⟨"java/lang/StringUTF16", "compress", "([CI[BII)I"⟩ : MethodName) jdk_52_method_21_code 7 (some .int) ws RmP2 #[(.ref a1), (.int (0 : Int32)), (.ref a3), (.int (0 : Int32)), (.int (2 : Int32))] h0 (fun v h => v = some (.int 2) ∧ Keep h0 h [a3] ∧ Avf Z h a3 k3 .byte 2 (fun i => (.int ((fun j => (cf j).toInt8.toInt32) i)))) := by
  refine enter (Ls := #[.val (.ref a1), .val (.int (0 : Int32)), .val (.ref a3), .val (.int (0 : Int32)), .val (.int (2 : Int32)), .unset, .unset]) (plainFor_of_name pn2) (fun m => by first | (simp [entryFrame, mkF, argsToLocals, Value.category]; done) | rfl) ?_
  intro p e s m below meth c T0 hx hby hml hown hnm hret hlk hZ X0
  have ne13 : a1 ≠ a3 := avf_ne V_a1 V_a3 (by decide)
  have K0 := Keep.refl h0 [a3]
  show Go p.tables e below _ (T0.setTop (mkF m 0 #[.val (.ref a1), .val (.int (0 : Int32)), .val (.ref a3), .val (.int (0 : Int32)), .val (.int (2 : Int32)), .unset, .unset] []))
  refine Go.by (fun _ => XS.iconst X0.here hx rfl (hb hby d12_0)) ?_
  show Go p.tables e below _ (T0.setTop (mkF m 1 #[.val (.ref a1), .val (.int (0 : Int32)), .val (.ref a3), .val (.int (0 : Int32)), .val (.int (2 : Int32)), .unset, .unset] [(.int (0 : Int32))]))
  refine Go.by (fun _ => XS.istore X0.here hx rfl (hb hby d12_1) rfl (l' := #[.val (.ref a1), .val (.int (0 : Int32)), .val (.ref a3), .val (.int (0 : Int32)), .val (.int (2 : Int32)), .val (.int (0 : Int32)), .unset]) rfl) ?_
  show Go p.tables e below _ (T0.setTop (mkF m 3 #[.val (.ref a1), .val (.int (0 : Int32)), .val (.ref a3), .val (.int (0 : Int32)), .val (.int (2 : Int32)), .val (.int (0 : Int32)), .unset] []))
  refine Go.by (fun _ => XS.iload X0.here hx rfl (hb hby d12_3) rfl) ?_
  show Go p.tables e below _ (T0.setTop (mkF m 5 #[.val (.ref a1), .val (.int (0 : Int32)), .val (.ref a3), .val (.int (0 : Int32)), .val (.int (2 : Int32)), .val (.int (0 : Int32)), .unset] [(.int (0 : Int32))]))
  refine Go.by (fun _ => XS.iload X0.here hx rfl (hb hby d12_5) rfl) ?_
  show Go p.tables e below _ (T0.setTop (mkF m 7 #[.val (.ref a1), .val (.int (0 : Int32)), .val (.ref a3), .val (.int (0 : Int32)), .val (.int (2 : Int32)), .val (.int (0 : Int32)), .unset] [(.int (2 : Int32)), (.int (0 : Int32))]))
  refine Go.by (fun _ => XS.icmpNo X0.here hx rfl (hb hby d12_7) rfl (tlt (by decide)).2.1) ?_
  show Go p.tables e below _ (T0.setTop (mkF m 10 #[.val (.ref a1), .val (.int (0 : Int32)), .val (.ref a3), .val (.int (0 : Int32)), .val (.int (2 : Int32)), .val (.int (0 : Int32)), .unset] []))
  refine Go.by (fun _ => XS.aloadN X0.here hx rfl (hb hby d12_10) rfl rfl) ?_
  show Go p.tables e below _ (T0.setTop (mkF m 11 #[.val (.ref a1), .val (.int (0 : Int32)), .val (.ref a3), .val (.int (0 : Int32)), .val (.int (2 : Int32)), .val (.int (0 : Int32)), .unset] [(.ref a1)]))
  refine Go.by (fun _ => XS.iloadN X0.here hx rfl (hb hby d12_11) rfl) ?_
  show Go p.tables e below _ (T0.setTop (mkF m 12 #[.val (.ref a1), .val (.int (0 : Int32)), .val (.ref a3), .val (.int (0 : Int32)), .val (.int (2 : Int32)), .val (.int (0 : Int32)), .unset] [(.int (0 : Int32)), (.ref a1)]))
  refine Go.by (X0.ldC hx hZ V_a1 (by decide) (i := 0) rfl (by decide) (v := (.int (cf 0))) rfl (g := (mkF m 12 #[.val (.ref a1), .val (.int (0 : Int32)), .val (.ref a3), .val (.int (0 : Int32)), .val (.int (2 : Int32)), .val (.int (0 : Int32)), .unset] [(.int (0 : Int32)), (.ref a1)])) rfl rfl (hb hby d12_12)) ?_
  show Go p.tables e below _ (T0.setTop (mkF m 13 #[.val (.ref a1), .val (.int (0 : Int32)), .val (.ref a3), .val (.int (0 : Int32)), .val (.int (2 : Int32)), .val (.int (0 : Int32)), .unset] [(.int (cf 0))]))
  refine Go.by (fun _ => XS.istore X0.here hx rfl (hb hby d12_13) rfl (l' := #[.val (.ref a1), .val (.int (0 : Int32)), .val (.ref a3), .val (.int (0 : Int32)), .val (.int (2 : Int32)), .val (.int (0 : Int32)), .val (.int (cf 0))]) rfl) ?_
  show Go p.tables e below _ (T0.setTop (mkF m 15 #[.val (.ref a1), .val (.int (0 : Int32)), .val (.ref a3), .val (.int (0 : Int32)), .val (.int (2 : Int32)), .val (.int (0 : Int32)), .val (.int (cf 0))] []))
  refine Go.by (fun _ => XS.iload X0.here hx rfl (hb hby d12_15) rfl) ?_
  show Go p.tables e below _ (T0.setTop (mkF m 17 #[.val (.ref a1), .val (.int (0 : Int32)), .val (.ref a3), .val (.int (0 : Int32)), .val (.int (2 : Int32)), .val (.int (0 : Int32)), .val (.int (cf 0))] [(.int (cf 0))]))
  refine Go.by (fun _ => XS.sipush X0.here hx rfl (hb hby d12_17)) ?_
  show Go p.tables e below _ (T0.setTop (mkF m 20 #[.val (.ref a1), .val (.int (0 : Int32)), .val (.ref a3), .val (.int (0 : Int32)), .val (.int (2 : Int32)), .val (.int (0 : Int32)), .val (.int (cf 0))] [(.int (255 : Int32)), (.int (cf 0))]))
  refine Go.by (fun _ => XS.icmpYes X0.here hx rfl (pc0 := 20) (pc' := 26) rfl (hb hby d12_20) rfl (flt ((hc 0 (by decide)))).2.2.2 (by decide) (by decide)) ?_
  show Go p.tables e below _ (T0.setTop (mkF m 26 #[.val (.ref a1), .val (.int (0 : Int32)), .val (.ref a3), .val (.int (0 : Int32)), .val (.int (2 : Int32)), .val (.int (0 : Int32)), .val (.int (cf 0))] []))
  refine Go.by (fun _ => XS.aloadN X0.here hx rfl (hb hby d12_26) rfl rfl) ?_
  show Go p.tables e below _ (T0.setTop (mkF m 27 #[.val (.ref a1), .val (.int (0 : Int32)), .val (.ref a3), .val (.int (0 : Int32)), .val (.int (2 : Int32)), .val (.int (0 : Int32)), .val (.int (cf 0))] [(.ref a3)]))
  refine Go.by (fun _ => XS.iloadN X0.here hx rfl (hb hby d12_27) rfl) ?_
  show Go p.tables e below _ (T0.setTop (mkF m 28 #[.val (.ref a1), .val (.int (0 : Int32)), .val (.ref a3), .val (.int (0 : Int32)), .val (.int (2 : Int32)), .val (.int (0 : Int32)), .val (.int (cf 0))] [(.int (0 : Int32)), (.ref a3)]))
  refine Go.by (fun _ => XS.iload X0.here hx rfl (hb hby d12_28) rfl) ?_
  show Go p.tables e below _ (T0.setTop (mkF m 30 #[.val (.ref a1), .val (.int (0 : Int32)), .val (.ref a3), .val (.int (0 : Int32)), .val (.int (2 : Int32)), .val (.int (0 : Int32)), .val (.int (cf 0))] [(.int (cf 0)), (.int (0 : Int32)), (.ref a3)]))
  refine Go.by (fun _ => XS.i2b X0.here hx rfl (hb hby d12_30) rfl) ?_
  show Go p.tables e below _ (T0.setTop (mkF m 31 #[.val (.ref a1), .val (.int (0 : Int32)), .val (.ref a3), .val (.int (0 : Int32)), .val (.int (2 : Int32)), .val (.int (0 : Int32)), .val (.int (cf 0))] [(.int ((cf 0).toInt8.toInt32)), (.int (0 : Int32)), (.ref a3)]))
  obtain ⟨T1, h1, X1, W1, V1, st1⟩ := X0.stB hx hZ V_a3 g_a3 (List.mem_cons_self ..) (by decide) (i := 0) rfl (by decide) (g := (mkF m 31 #[.val (.ref a1), .val (.int (0 : Int32)), .val (.ref a3), .val (.int (0 : Int32)), .val (.int (2 : Int32)), .val (.int (0 : Int32)), .val (.int (cf 0))] [(.int ((cf 0).toInt8.toInt32)), (.int (0 : Int32)), (.ref a3)])) rfl rfl (hb hby d12_31)
  have f2_36 := Avf.other V_a1 W1 ne13
  have f2_37 := K0.wr W1 (Or.inl (List.mem_of_getElem? (i := 0) rfl))
  have Zs2 : n0 ≤ h1.size := by rw [W1.size]; exact Z0
  refine Go.by st1 ?_
  show Go p.tables e below _ (T1.setTop (mkF m 32 #[.val (.ref a1), .val (.int (0 : Int32)), .val (.ref a3), .val (.int (0 : Int32)), .val (.int (2 : Int32)), .val (.int (0 : Int32)), .val (.int (cf 0))] []))
  refine Go.by (fun _ => XS.iinc X1.here hx rfl (hb hby d12_32) rfl (l' := #[.val (.ref a1), .val (.int (1 : Int32)), .val (.ref a3), .val (.int (0 : Int32)), .val (.int (2 : Int32)), .val (.int (0 : Int32)), .val (.int (cf 0))]) rfl) ?_
  show Go p.tables e below _ (T1.setTop (mkF m 35 #[.val (.ref a1), .val (.int (1 : Int32)), .val (.ref a3), .val (.int (0 : Int32)), .val (.int (2 : Int32)), .val (.int (0 : Int32)), .val (.int (cf 0))] []))
  refine Go.by (fun _ => XS.iinc X1.here hx rfl (hb hby d12_35) rfl (l' := #[.val (.ref a1), .val (.int (1 : Int32)), .val (.ref a3), .val (.int (1 : Int32)), .val (.int (2 : Int32)), .val (.int (0 : Int32)), .val (.int (cf 0))]) rfl) ?_
  show Go p.tables e below _ (T1.setTop (mkF m 38 #[.val (.ref a1), .val (.int (1 : Int32)), .val (.ref a3), .val (.int (1 : Int32)), .val (.int (2 : Int32)), .val (.int (0 : Int32)), .val (.int (cf 0))] []))
  refine Go.by (fun _ => XS.iinc X1.here hx rfl (hb hby d12_38) rfl (l' := #[.val (.ref a1), .val (.int (1 : Int32)), .val (.ref a3), .val (.int (1 : Int32)), .val (.int (2 : Int32)), .val (.int (1 : Int32)), .val (.int (cf 0))]) rfl) ?_
  show Go p.tables e below _ (T1.setTop (mkF m 41 #[.val (.ref a1), .val (.int (1 : Int32)), .val (.ref a3), .val (.int (1 : Int32)), .val (.int (2 : Int32)), .val (.int (1 : Int32)), .val (.int (cf 0))] []))
  refine Go.by (fun _ => XS.goto X1.here hx rfl (pc0 := 41) (pc' := 3) rfl (hb hby d12_41) (by decide) (by decide)) ?_
  show Go p.tables e below _ (T1.setTop (mkF m 3 #[.val (.ref a1), .val (.int (1 : Int32)), .val (.ref a3), .val (.int (1 : Int32)), .val (.int (2 : Int32)), .val (.int (1 : Int32)), .val (.int (cf 0))] []))
  refine Go.by (fun _ => XS.iload X1.here hx rfl (hb hby d12_3) rfl) ?_
  show Go p.tables e below _ (T1.setTop (mkF m 5 #[.val (.ref a1), .val (.int (1 : Int32)), .val (.ref a3), .val (.int (1 : Int32)), .val (.int (2 : Int32)), .val (.int (1 : Int32)), .val (.int (cf 0))] [(.int (1 : Int32))]))
  refine Go.by (fun _ => XS.iload X1.here hx rfl (hb hby d12_5) rfl) ?_
  show Go p.tables e below _ (T1.setTop (mkF m 7 #[.val (.ref a1), .val (.int (1 : Int32)), .val (.ref a3), .val (.int (1 : Int32)), .val (.int (2 : Int32)), .val (.int (1 : Int32)), .val (.int (cf 0))] [(.int (2 : Int32)), (.int (1 : Int32))]))
  refine Go.by (fun _ => XS.icmpNo X1.here hx rfl (hb hby d12_7) rfl (tlt (by decide)).2.1) ?_
  show Go p.tables e below _ (T1.setTop (mkF m 10 #[.val (.ref a1), .val (.int (1 : Int32)), .val (.ref a3), .val (.int (1 : Int32)), .val (.int (2 : Int32)), .val (.int (1 : Int32)), .val (.int (cf 0))] []))
  refine Go.by (fun _ => XS.aloadN X1.here hx rfl (hb hby d12_10) rfl rfl) ?_
  show Go p.tables e below _ (T1.setTop (mkF m 11 #[.val (.ref a1), .val (.int (1 : Int32)), .val (.ref a3), .val (.int (1 : Int32)), .val (.int (2 : Int32)), .val (.int (1 : Int32)), .val (.int (cf 0))] [(.ref a1)]))
  refine Go.by (fun _ => XS.iloadN X1.here hx rfl (hb hby d12_11) rfl) ?_
  show Go p.tables e below _ (T1.setTop (mkF m 12 #[.val (.ref a1), .val (.int (1 : Int32)), .val (.ref a3), .val (.int (1 : Int32)), .val (.int (2 : Int32)), .val (.int (1 : Int32)), .val (.int (cf 0))] [(.int (1 : Int32)), (.ref a1)]))
  refine Go.by (X1.ldC hx hZ f2_36 (by decide) (i := 1) rfl (by decide) (v := (.int (cf 1))) rfl (g := (mkF m 12 #[.val (.ref a1), .val (.int (1 : Int32)), .val (.ref a3), .val (.int (1 : Int32)), .val (.int (2 : Int32)), .val (.int (1 : Int32)), .val (.int (cf 0))] [(.int (1 : Int32)), (.ref a1)])) rfl rfl (hb hby d12_12)) ?_
  show Go p.tables e below _ (T1.setTop (mkF m 13 #[.val (.ref a1), .val (.int (1 : Int32)), .val (.ref a3), .val (.int (1 : Int32)), .val (.int (2 : Int32)), .val (.int (1 : Int32)), .val (.int (cf 0))] [(.int (cf 1))]))
  refine Go.by (fun _ => XS.istore X1.here hx rfl (hb hby d12_13) rfl (l' := #[.val (.ref a1), .val (.int (1 : Int32)), .val (.ref a3), .val (.int (1 : Int32)), .val (.int (2 : Int32)), .val (.int (1 : Int32)), .val (.int (cf 1))]) rfl) ?_
  show Go p.tables e below _ (T1.setTop (mkF m 15 #[.val (.ref a1), .val (.int (1 : Int32)), .val (.ref a3), .val (.int (1 : Int32)), .val (.int (2 : Int32)), .val (.int (1 : Int32)), .val (.int (cf 1))] []))
  refine Go.by (fun _ => XS.iload X1.here hx rfl (hb hby d12_15) rfl) ?_
  show Go p.tables e below _ (T1.setTop (mkF m 17 #[.val (.ref a1), .val (.int (1 : Int32)), .val (.ref a3), .val (.int (1 : Int32)), .val (.int (2 : Int32)), .val (.int (1 : Int32)), .val (.int (cf 1))] [(.int (cf 1))]))
  refine Go.by (fun _ => XS.sipush X1.here hx rfl (hb hby d12_17)) ?_
  show Go p.tables e below _ (T1.setTop (mkF m 20 #[.val (.ref a1), .val (.int (1 : Int32)), .val (.ref a3), .val (.int (1 : Int32)), .val (.int (2 : Int32)), .val (.int (1 : Int32)), .val (.int (cf 1))] [(.int (255 : Int32)), (.int (cf 1))]))
  refine Go.by (fun _ => XS.icmpYes X1.here hx rfl (pc0 := 20) (pc' := 26) rfl (hb hby d12_20) rfl (flt ((hc 1 (by decide)))).2.2.2 (by decide) (by decide)) ?_
  show Go p.tables e below _ (T1.setTop (mkF m 26 #[.val (.ref a1), .val (.int (1 : Int32)), .val (.ref a3), .val (.int (1 : Int32)), .val (.int (2 : Int32)), .val (.int (1 : Int32)), .val (.int (cf 1))] []))
  refine Go.by (fun _ => XS.aloadN X1.here hx rfl (hb hby d12_26) rfl rfl) ?_
  show Go p.tables e below _ (T1.setTop (mkF m 27 #[.val (.ref a1), .val (.int (1 : Int32)), .val (.ref a3), .val (.int (1 : Int32)), .val (.int (2 : Int32)), .val (.int (1 : Int32)), .val (.int (cf 1))] [(.ref a3)]))
  refine Go.by (fun _ => XS.iloadN X1.here hx rfl (hb hby d12_27) rfl) ?_
  show Go p.tables e below _ (T1.setTop (mkF m 28 #[.val (.ref a1), .val (.int (1 : Int32)), .val (.ref a3), .val (.int (1 : Int32)), .val (.int (2 : Int32)), .val (.int (1 : Int32)), .val (.int (cf 1))] [(.int (1 : Int32)), (.ref a3)]))
  refine Go.by (fun _ => XS.iload X1.here hx rfl (hb hby d12_28) rfl) ?_
  show Go p.tables e below _ (T1.setTop (mkF m 30 #[.val (.ref a1), .val (.int (1 : Int32)), .val (.ref a3), .val (.int (1 : Int32)), .val (.int (2 : Int32)), .val (.int (1 : Int32)), .val (.int (cf 1))] [(.int (cf 1)), (.int (1 : Int32)), (.ref a3)]))
  refine Go.by (fun _ => XS.i2b X1.here hx rfl (hb hby d12_30) rfl) ?_
  show Go p.tables e below _ (T1.setTop (mkF m 31 #[.val (.ref a1), .val (.int (1 : Int32)), .val (.ref a3), .val (.int (1 : Int32)), .val (.int (2 : Int32)), .val (.int (1 : Int32)), .val (.int (cf 1))] [(.int ((cf 1).toInt8.toInt32)), (.int (1 : Int32)), (.ref a3)]))
  obtain ⟨T3, h3, X3, W3, V3, st3⟩ := X1.stB hx hZ V1 g_a3 (List.mem_cons_self ..) (by decide) (i := 1) rfl (by decide) (g := (mkF m 31 #[.val (.ref a1), .val (.int (1 : Int32)), .val (.ref a3), .val (.int (1 : Int32)), .val (.int (2 : Int32)), .val (.int (1 : Int32)), .val (.int (cf 1))] [(.int ((cf 1).toInt8.toInt32)), (.int (1 : Int32)), (.ref a3)])) rfl rfl (hb hby d12_31)
  have f4_78 := Avf.other f2_36 W3 ne13
  have f4_79 := f2_37.wr W3 (Or.inl (List.mem_of_getElem? (i := 0) rfl))
  have Zs4 : n0 ≤ h3.size := by rw [W3.size]; exact Zs2
  refine Go.by st3 ?_
  show Go p.tables e below _ (T3.setTop (mkF m 32 #[.val (.ref a1), .val (.int (1 : Int32)), .val (.ref a3), .val (.int (1 : Int32)), .val (.int (2 : Int32)), .val (.int (1 : Int32)), .val (.int (cf 1))] []))
  refine Go.by (fun _ => XS.iinc X3.here hx rfl (hb hby d12_32) rfl (l' := #[.val (.ref a1), .val (.int (2 : Int32)), .val (.ref a3), .val (.int (1 : Int32)), .val (.int (2 : Int32)), .val (.int (1 : Int32)), .val (.int (cf 1))]) rfl) ?_
  show Go p.tables e below _ (T3.setTop (mkF m 35 #[.val (.ref a1), .val (.int (2 : Int32)), .val (.ref a3), .val (.int (1 : Int32)), .val (.int (2 : Int32)), .val (.int (1 : Int32)), .val (.int (cf 1))] []))
  refine Go.by (fun _ => XS.iinc X3.here hx rfl (hb hby d12_35) rfl (l' := #[.val (.ref a1), .val (.int (2 : Int32)), .val (.ref a3), .val (.int (2 : Int32)), .val (.int (2 : Int32)), .val (.int (1 : Int32)), .val (.int (cf 1))]) rfl) ?_
  show Go p.tables e below _ (T3.setTop (mkF m 38 #[.val (.ref a1), .val (.int (2 : Int32)), .val (.ref a3), .val (.int (2 : Int32)), .val (.int (2 : Int32)), .val (.int (1 : Int32)), .val (.int (cf 1))] []))
  refine Go.by (fun _ => XS.iinc X3.here hx rfl (hb hby d12_38) rfl (l' := #[.val (.ref a1), .val (.int (2 : Int32)), .val (.ref a3), .val (.int (2 : Int32)), .val (.int (2 : Int32)), .val (.int (2 : Int32)), .val (.int (cf 1))]) rfl) ?_
  show Go p.tables e below _ (T3.setTop (mkF m 41 #[.val (.ref a1), .val (.int (2 : Int32)), .val (.ref a3), .val (.int (2 : Int32)), .val (.int (2 : Int32)), .val (.int (2 : Int32)), .val (.int (cf 1))] []))
  refine Go.by (fun _ => XS.goto X3.here hx rfl (pc0 := 41) (pc' := 3) rfl (hb hby d12_41) (by decide) (by decide)) ?_
  show Go p.tables e below _ (T3.setTop (mkF m 3 #[.val (.ref a1), .val (.int (2 : Int32)), .val (.ref a3), .val (.int (2 : Int32)), .val (.int (2 : Int32)), .val (.int (2 : Int32)), .val (.int (cf 1))] []))
  refine Go.by (fun _ => XS.iload X3.here hx rfl (hb hby d12_3) rfl) ?_
  show Go p.tables e below _ (T3.setTop (mkF m 5 #[.val (.ref a1), .val (.int (2 : Int32)), .val (.ref a3), .val (.int (2 : Int32)), .val (.int (2 : Int32)), .val (.int (2 : Int32)), .val (.int (cf 1))] [(.int (2 : Int32))]))
  refine Go.by (fun _ => XS.iload X3.here hx rfl (hb hby d12_5) rfl) ?_
  show Go p.tables e below _ (T3.setTop (mkF m 7 #[.val (.ref a1), .val (.int (2 : Int32)), .val (.ref a3), .val (.int (2 : Int32)), .val (.int (2 : Int32)), .val (.int (2 : Int32)), .val (.int (cf 1))] [(.int (2 : Int32)), (.int (2 : Int32))]))
  refine Go.by (fun _ => XS.icmpYes X3.here hx rfl (pc0 := 7) (pc' := 44) rfl (hb hby d12_7) rfl (flt (by decide)).2.1 (by decide) (by decide)) ?_
  show Go p.tables e below _ (T3.setTop (mkF m 44 #[.val (.ref a1), .val (.int (2 : Int32)), .val (.ref a3), .val (.int (2 : Int32)), .val (.int (2 : Int32)), .val (.int (2 : Int32)), .val (.int (cf 1))] []))
  refine Go.by (fun _ => XS.iload X3.here hx rfl (hb hby d12_44) rfl) ?_
  show Go p.tables e below _ (T3.setTop (mkF m 46 #[.val (.ref a1), .val (.int (2 : Int32)), .val (.ref a3), .val (.int (2 : Int32)), .val (.int (2 : Int32)), .val (.int (2 : Int32)), .val (.int (cf 1))] [(.int (2 : Int32))]))
  refine Go.retI X3 hx hlk hret (hb hby d12_46) (by decide) (by decide) (fun _ z => z.elim) ?_
  refine ⟨rfl, f4_79, Avf.cong V3 (fun i hi => ?_)⟩
  match i, hi with
  | 0, _ => simp
  | 1, _ => simp
theorem d11_0 : decode jdk_52_method_16_code 0 = .ok (.iload_n 2, 1) := by decide +kernel
theorem d11_1 : decode jdk_52_method_16_code 1 = .ok (.newarray .byte, 2) := by decide +kernel
theorem d11_3 : decode jdk_52_method_16_code 3 = .ok (.astore_n 3, 1) := by decide +kernel
theorem d11_4 : decode jdk_52_method_16_code 4 = .ok (.aload_n 0, 1) := by decide +kernel
theorem d11_5 : decode jdk_52_method_16_code 5 = .ok (.iload_n 1, 1) := by decide +kernel
theorem d11_6 : decode jdk_52_method_16_code 6 = .ok (.aload_n 3, 1) := by decide +kernel
theorem d11_7 : decode jdk_52_method_16_code 7 = .ok (.iconst 0, 1) := by decide +kernel
theorem d11_8 : decode jdk_52_method_16_code 8 = .ok (.iload_n 2, 1) := by decide +kernel
theorem d11_9 : decode jdk_52_method_16_code 9 = .ok (.invokestatic 115, 3) := by decide +kernel
theorem pd1 : parseMethodDescriptor "([CI[BII)I" = some ⟨[(.array .char), .int, (.array .byte), .int, .int], some .int⟩ := by decide +kernel
theorem d11_12 : decode jdk_52_method_16_code 12 = .ok (.istore 4, 2) := by decide +kernel
theorem d11_14 : decode jdk_52_method_16_code 14 = .ok (.iload 4, 2) := by decide +kernel
theorem d11_16 : decode jdk_52_method_16_code 16 = .ok (.iload_n 2, 1) := by decide +kernel
theorem d11_17 : decode jdk_52_method_16_code 17 = .ok (.if_icmp .eq 40, 3) := by decide +kernel
theorem d11_57 : decode jdk_52_method_16_code 57 = .ok (.aload_n 3, 1) := by decide +kernel
theorem d11_58 : decode jdk_52_method_16_code 58 = .ok (.areturn, 1) := by decide +kernel
abbrev RmQ1 : Room := { frames := 1, cells := 1, slots := 1, locals := 18 }
set_option maxRecDepth 65536 in
set_option maxHeartbeats 40000000 in
theorem rmQ1 (l : Launch) (Z : State) (a0 : Array Value) (hw : ∀ d ∈ tables_1, d.before a0 Z = true) (ws : List Jvm.Cond) (a1 : Addr) (k1 : ClassId) (cf : Nat → Int32) (h0 : Heap) (n0 : Nat) (Z0 : n0 ≤ h0.size) (V_a1 : Avf Z h0 a1 k1 .char 1 (fun i => (.int (cf i)))) (hc : ∀ i, i < 1 → ¬ (255 : Int32) < cf i) :
    Met l Z EL [] (fun _ _ _ => False) n0 (⟨"java/lang/StringUTF16", "compress", "([CII)[B"⟩ : MethodName) jdk_52_method_16_code 6 (some (.array .byte)) ws RmQ1 #[(.ref a1), (.int (0 : Int32)), (.int (1 : Int32))] h0 (fun v h => ∃ b kc, v = some (.ref b) ∧ h0.size ≤ b ∧ Keep h0 h [] ∧ Avf Z h b kc .byte 1 (fun i => (.int ((fun j => (cf j).toInt8.toInt32) i)))) := by
  refine enter (Ls := #[.val (.ref a1), .val (.int (0 : Int32)), .val (.int (1 : Int32)), .unset, .unset, .unset]) (plainFor_of_name pn2) (fun m => by first | (simp [entryFrame, mkF, argsToLocals, Value.category]; done) | rfl) ?_
  intro p e s m below meth c T0 hx hby hml hown hnm hret hlk hZ X0
  have K0 := Keep.refl h0 []
  show Go p.tables e below _ (T0.setTop (mkF m 0 #[.val (.ref a1), .val (.int (0 : Int32)), .val (.int (1 : Int32)), .unset, .unset, .unset] []))
  refine Go.by (fun _ => XS.iloadN X0.here hx rfl (hb hby d11_0) rfl) ?_
  show Go p.tables e below _ (T0.setTop (mkF m 1 #[.val (.ref a1), .val (.int (0 : Int32)), .val (.int (1 : Int32)), .unset, .unset, .unset] [(.int (1 : Int32))]))
  obtain ⟨T1, h1, kc1, b1, X1, g1, E1, A1, V1, st1⟩ := X0.newPF hx hZ (tw hw 34 rfl) (g := (mkF m 1 #[.val (.ref a1), .val (.int (0 : Int32)), .val (.int (1 : Int32)), .unset, .unset, .unset] [(.int (1 : Int32))])) rfl (hb hby d11_1) rfl (by decide) (sz := 1) (cap := 1) (k' := 1) (n' := 1) rfl (Nat.le_refl _) (by decide) rfl rfl (by decide) (by decide) (ad := "[B") (by decide)
  have g_b1 : n0 ≤ b1 := by rw [g1]; exact Z0
  have sz_b1 : h0.size ≤ b1 := by rw [g1]; exact K0.1
  have ne_a1_b1 : a1 ≠ b1 := Nat.ne_of_lt (by rw [g1]; exact V_a1.lt)
  have f2_8 := Avf.ext V_a1 E1
  have f2_9 := K0.ext E1
  have Zs2 : n0 ≤ h1.size := Nat.le_trans Z0 E1.1
  refine Go.by st1 ?_
  show Go p.tables e below _ (T1.setTop (mkF m 3 #[.val (.ref a1), .val (.int (0 : Int32)), .val (.int (1 : Int32)), .unset, .unset, .unset] [(.ref b1)]))
  refine Go.by (fun _ => XS.astoreN X1.here hx rfl (hb hby d11_3) rfl rfl (l' := #[.val (.ref a1), .val (.int (0 : Int32)), .val (.int (1 : Int32)), .val (.ref b1), .unset, .unset]) rfl) ?_
  show Go p.tables e below _ (T1.setTop (mkF m 4 #[.val (.ref a1), .val (.int (0 : Int32)), .val (.int (1 : Int32)), .val (.ref b1), .unset, .unset] []))
  refine Go.by (fun _ => XS.aloadN X1.here hx rfl (hb hby d11_4) rfl rfl) ?_
  show Go p.tables e below _ (T1.setTop (mkF m 5 #[.val (.ref a1), .val (.int (0 : Int32)), .val (.int (1 : Int32)), .val (.ref b1), .unset, .unset] [(.ref a1)]))
  refine Go.by (fun _ => XS.iloadN X1.here hx rfl (hb hby d11_5) rfl) ?_
  show Go p.tables e below _ (T1.setTop (mkF m 6 #[.val (.ref a1), .val (.int (0 : Int32)), .val (.int (1 : Int32)), .val (.ref b1), .unset, .unset] [(.int (0 : Int32)), (.ref a1)]))
  refine Go.by (fun _ => XS.aloadN X1.here hx rfl (hb hby d11_6) rfl rfl) ?_
  show Go p.tables e below _ (T1.setTop (mkF m 7 #[.val (.ref a1), .val (.int (0 : Int32)), .val (.int (1 : Int32)), .val (.ref b1), .unset, .unset] [(.ref b1), (.int (0 : Int32)), (.ref a1)]))
  refine Go.by (fun _ => XS.iconst X1.here hx rfl (hb hby d11_7)) ?_
  show Go p.tables e below _ (T1.setTop (mkF m 8 #[.val (.ref a1), .val (.int (0 : Int32)), .val (.int (1 : Int32)), .val (.ref b1), .unset, .unset] [(.int (0 : Int32)), (.ref b1), (.int (0 : Int32)), (.ref a1)]))
  refine Go.by (fun _ => XS.iloadN X1.here hx rfl (hb hby d11_8) rfl) ?_
  show Go p.tables e below _ (T1.setTop (mkF m 9 #[.val (.ref a1), .val (.int (0 : Int32)), .val (.int (1 : Int32)), .val (.ref b1), .unset, .unset] [(.int (1 : Int32)), (.int (0 : Int32)), (.ref b1), (.int (0 : Int32)), (.ref a1)]))
  obtain ⟨v3, T3, h3, X3, q3, xs3, st3⟩ := X1.callS hx hZ (f0s (List.mem_cons_self ..) f0n) (y := (⟨"java/lang/StringUTF16", "compress", "([CI[BII)I"⟩ : MethodName)) hown (tw hw 71 rfl) (tw hw 72 rfl) (tw hw 69 rfl) (tw hw 73 rfl) (by decide) (rmP1 l Z a0 hw [] a1 b1 k1 kc1 cf (fun _ => (.int 0)) h1 n0 Zs2 f2_8 V1 g_b1 hc) (g := (mkF m 9 #[.val (.ref a1), .val (.int (0 : Int32)), .val (.int (1 : Int32)), .val (.ref b1), .unset, .unset] [(.int (1 : Int32)), (.int (0 : Int32)), (.ref b1), (.int (0 : Int32)), (.ref a1)])) rfl (by rw [hml]; rfl) (argsL := [(.ref a1), (.int (0 : Int32)), (.ref b1), (.int (0 : Int32)), (.int (1 : Int32))]) (rest := []) (lenOf pd1 rfl) rfl (hb hby d11_9) rfl (by decide) (Nat.le_of_ble_eq_true rfl) (k' := 1) (n' := 1) rfl rfl (by decide) (by decide)
  refine Go.by st3 ?_
  obtain ⟨rfl, K3, V3⟩ := q3
  have f4_28 := Avf.keep f2_8 K3 (ninS ne_a1_b1 nin0)
  have f4_29 := f2_9.trans K3 (allS (Or.inr sz_b1) all0)
  have f4_30 := A1.keep K3
  have Zs4 : n0 ≤ h3.size := Nat.le_trans Zs2 K3.1
  show Go p.tables e below _ (T3.setTop (mkF m 12 #[.val (.ref a1), .val (.int (0 : Int32)), .val (.int (1 : Int32)), .val (.ref b1), .unset, .unset] [(.int (1 : Int32))]))
  refine Go.by (fun _ => XS.istore X3.here hx rfl (hb hby d11_12) rfl (l' := #[.val (.ref a1), .val (.int (0 : Int32)), .val (.int (1 : Int32)), .val (.ref b1), .val (.int (1 : Int32)), .unset]) rfl) ?_
  show Go p.tables e below _ (T3.setTop (mkF m 14 #[.val (.ref a1), .val (.int (0 : Int32)), .val (.int (1 : Int32)), .val (.ref b1), .val (.int (1 : Int32)), .unset] []))
  refine Go.by (fun _ => XS.iload X3.here hx rfl (hb hby d11_14) rfl) ?_
  show Go p.tables e below _ (T3.setTop (mkF m 16 #[.val (.ref a1), .val (.int (0 : Int32)), .val (.int (1 : Int32)), .val (.ref b1), .val (.int (1 : Int32)), .unset] [(.int (1 : Int32))]))
  refine Go.by (fun _ => XS.iloadN X3.here hx rfl (hb hby d11_16) rfl) ?_
  show Go p.tables e below _ (T3.setTop (mkF m 17 #[.val (.ref a1), .val (.int (0 : Int32)), .val (.int (1 : Int32)), .val (.ref b1), .val (.int (1 : Int32)), .unset] [(.int (1 : Int32)), (.int (1 : Int32))]))
  refine Go.by (fun _ => XS.icmpYes X3.here hx rfl (pc0 := 17) (pc' := 57) rfl (hb hby d11_17) rfl (teq (by decide)).1 (by decide) (by decide)) ?_
  show Go p.tables e below _ (T3.setTop (mkF m 57 #[.val (.ref a1), .val (.int (0 : Int32)), .val (.int (1 : Int32)), .val (.ref b1), .val (.int (1 : Int32)), .unset] []))
  refine Go.by (fun _ => XS.aloadN X3.here hx rfl (hb hby d11_57) rfl rfl) ?_
  show Go p.tables e below _ (T3.setTop (mkF m 58 #[.val (.ref a1), .val (.int (0 : Int32)), .val (.int (1 : Int32)), .val (.ref b1), .val (.int (1 : Int32)), .unset] [(.ref b1)]))
  exact Go.retA X3 hx hlk hret rfl rfl (hb hby d11_58) (by decide) (by decide) (fun _ z => z.elim) ⟨b1, kc1, rfl, sz_b1, f4_29, V3⟩
theorem d13_0 : decode jdk_52_method_15_code 0 = .ok (.iload_n 1, 1) := by decide +kernel
theorem d13_1 : decode jdk_52_method_15_code 1 = .ok (.aload_n 0, 1) := by decide +kernel
theorem d13_2 : decode jdk_52_method_15_code 2 = .ok (.arraylength, 1) := by decide +kernel
theorem d13_3 : decode jdk_52_method_15_code 3 = .ok (.isub, 1) := by decide +kernel
theorem d13_4 : decode jdk_52_method_15_code 4 = .ok (.bipush 31, 2) := by decide +kernel
theorem d13_6 : decode jdk_52_method_15_code 6 = .ok (.iushr, 1) := by decide +kernel
theorem d13_7 : decode jdk_52_method_15_code 7 = .ok (.i2b, 1) := by decide +kernel
theorem d13_8 : decode jdk_52_method_15_code 8 = .ok (.ireturn, 1) := by decide +kernel
abbrev RmU1 : Room := { frames := 0, cells := 0, slots := 0, locals := 0 }
set_option maxRecDepth 65536 in
set_option maxHeartbeats 40000000 in
theorem rmU1 (l : Launch) (Z : State) (a0 : Array Value) (hw : ∀ d ∈ tables_1, d.before a0 Z = true) (ws : List Jvm.Cond) (a1 : Addr) (k1 : ClassId) (f1 : Nat → Value) (h0 : Heap) (n0 : Nat) (Z0 : n0 ≤ h0.size) (V_a1 : Avf Z h0 a1 k1 .byte 1 f1) :
    Met l Z EL [] (fun _ _ _ => False) n0 (⟨"java/lang/StringUTF16", "coderFromArrayLen", "([BI)B"⟩ : MethodName) jdk_52_method_15_code 2 (some .byte) ws RmU1 #[(.ref a1), (.int (1 : Int32))] h0 (fun v h => v = some (.int 0) ∧ h0 = h) := by
  refine enter (Ls := #[.val (.ref a1), .val (.int (1 : Int32))]) (plainFor_of_name pn2) (fun m => by first | (simp [entryFrame, mkF, argsToLocals, Value.category]; done) | rfl) ?_
  intro p e s m below meth c T0 hx hby hml hown hnm hret hlk hZ X0
  show Go p.tables e below _ (T0.setTop (mkF m 0 #[.val (.ref a1), .val (.int (1 : Int32))] []))
  refine Go.by (fun _ => XS.iloadN X0.here hx rfl (hb hby d13_0) rfl) ?_
  show Go p.tables e below _ (T0.setTop (mkF m 1 #[.val (.ref a1), .val (.int (1 : Int32))] [(.int (1 : Int32))]))
  refine Go.by (fun _ => XS.aloadN X0.here hx rfl (hb hby d13_1) rfl rfl) ?_
  show Go p.tables e below _ (T0.setTop (mkF m 2 #[.val (.ref a1), .val (.int (1 : Int32))] [(.ref a1), (.int (1 : Int32))]))
  refine Go.by (X0.len hx hZ V_a1 (z := (1 : Int32)) rfl (g := (mkF m 2 #[.val (.ref a1), .val (.int (1 : Int32))] [(.ref a1), (.int (1 : Int32))])) rfl rfl (hb hby d13_2)) ?_
  show Go p.tables e below _ (T0.setTop (mkF m 3 #[.val (.ref a1), .val (.int (1 : Int32))] [(.int (1 : Int32)), (.int (1 : Int32))]))
  refine Go.by (fun _ => XS.isub X0.here hx rfl (hb hby d13_3) rfl) ?_
  show Go p.tables e below _ (T0.setTop (mkF m 4 #[.val (.ref a1), .val (.int (1 : Int32))] [(.int (0 : Int32))]))
  refine Go.by (fun _ => XS.bipush X0.here hx rfl (hb hby d13_4)) ?_
  show Go p.tables e below _ (T0.setTop (mkF m 6 #[.val (.ref a1), .val (.int (1 : Int32))] [(.int (31 : Int32)), (.int (0 : Int32))]))
  refine Go.by (fun _ => XS.iushr X0.here hx rfl (hb hby d13_6) rfl) ?_
  show Go p.tables e below _ (T0.setTop (mkF m 7 #[.val (.ref a1), .val (.int (1 : Int32))] [(.int (0 : Int32))]))
  refine Go.by (fun _ => XS.i2b X0.here hx rfl (hb hby d13_7) rfl) ?_
  show Go p.tables e below _ (T0.setTop (mkF m 8 #[.val (.ref a1), .val (.int (1 : Int32))] [(.int ((0 : Int32).toInt8.toInt32))]))
  exact Go.retN X0 hx hlk (z' := (nar .byte ((0 : Int32).toInt8.toInt32))) hret (by simp) (hb hby d13_8) rfl (by decide) (by decide) (fun _ z => z.elim) ⟨rfl, rfl⟩
abbrev RmQ2 : Room := { frames := 1, cells := 1, slots := 2, locals := 18 }
set_option maxRecDepth 65536 in
set_option maxHeartbeats 40000000 in
theorem rmQ2 (l : Launch) (Z : State) (a0 : Array Value) (hw : ∀ d ∈ tables_1, d.before a0 Z = true) (ws : List Jvm.Cond) (a1 : Addr) (k1 : ClassId) (cf : Nat → Int32) (h0 : Heap) (n0 : Nat) (Z0 : n0 ≤ h0.size) (V_a1 : Avf Z h0 a1 k1 .char 2 (fun i => (.int (cf i)))) (hc : ∀ i, i < 2 → ¬ (255 : Int32) < cf i) :
    Met l Z EL [] (fun _ _ _ => False) n0 (⟨"java/lang/StringUTF16", "compress", "([CII)[B"⟩ : MethodName) jdk_52_method_16_code 6 (some (.array .byte)) ws RmQ2 #[(.ref a1), (.int (0 : Int32)), (.int (2 : Int32))] h0 (fun v h => ∃ b kc, v = some (.ref b) ∧ h0.size ≤ b ∧ Keep h0 h [] ∧ Avf Z h b kc .byte 2 (fun i => (.int ((fun j => (cf j).toInt8.toInt32) i)))) := by
  refine enter (Ls := #[.val (.ref a1), .val (.int (0 : Int32)), .val (.int (2 : Int32)), .unset, .unset, .unset]) (plainFor_of_name pn2) (fun m => by first | (simp [entryFrame, mkF, argsToLocals, Value.category]; done) | rfl) ?_
  intro p e s m below meth c T0 hx hby hml hown hnm hret hlk hZ X0
  have K0 := Keep.refl h0 []
  show Go p.tables e below _ (T0.setTop (mkF m 0 #[.val (.ref a1), .val (.int (0 : Int32)), .val (.int (2 : Int32)), .unset, .unset, .unset] []))
  refine Go.by (fun _ => XS.iloadN X0.here hx rfl (hb hby d11_0) rfl) ?_
  show Go p.tables e below _ (T0.setTop (mkF m 1 #[.val (.ref a1), .val (.int (0 : Int32)), .val (.int (2 : Int32)), .unset, .unset, .unset] [(.int (2 : Int32))]))
  obtain ⟨T1, h1, kc1, b1, X1, g1, E1, A1, V1, st1⟩ := X0.newPF hx hZ (tw hw 34 rfl) (g := (mkF m 1 #[.val (.ref a1), .val (.int (0 : Int32)), .val (.int (2 : Int32)), .unset, .unset, .unset] [(.int (2 : Int32))])) rfl (hb hby d11_1) rfl (by decide) (sz := 2) (cap := 2) (k' := 1) (n' := 2) rfl (Nat.le_refl _) (by decide) rfl rfl (by decide) (by decide) (ad := "[B") (by decide)
  have g_b1 : n0 ≤ b1 := by rw [g1]; exact Z0
  have sz_b1 : h0.size ≤ b1 := by rw [g1]; exact K0.1
  have ne_a1_b1 : a1 ≠ b1 := Nat.ne_of_lt (by rw [g1]; exact V_a1.lt)
  have f2_8 := Avf.ext V_a1 E1
  have f2_9 := K0.ext E1
  have Zs2 : n0 ≤ h1.size := Nat.le_trans Z0 E1.1
  refine Go.by st1 ?_
  show Go p.tables e below _ (T1.setTop (mkF m 3 #[.val (.ref a1), .val (.int (0 : Int32)), .val (.int (2 : Int32)), .unset, .unset, .unset] [(.ref b1)]))
  refine Go.by (fun _ => XS.astoreN X1.here hx rfl (hb hby d11_3) rfl rfl (l' := #[.val (.ref a1), .val (.int (0 : Int32)), .val (.int (2 : Int32)), .val (.ref b1), .unset, .unset]) rfl) ?_
  show Go p.tables e below _ (T1.setTop (mkF m 4 #[.val (.ref a1), .val (.int (0 : Int32)), .val (.int (2 : Int32)), .val (.ref b1), .unset, .unset] []))
  refine Go.by (fun _ => XS.aloadN X1.here hx rfl (hb hby d11_4) rfl rfl) ?_
  show Go p.tables e below _ (T1.setTop (mkF m 5 #[.val (.ref a1), .val (.int (0 : Int32)), .val (.int (2 : Int32)), .val (.ref b1), .unset, .unset] [(.ref a1)]))
  refine Go.by (fun _ => XS.iloadN X1.here hx rfl (hb hby d11_5) rfl) ?_
  show Go p.tables e below _ (T1.setTop (mkF m 6 #[.val (.ref a1), .val (.int (0 : Int32)), .val (.int (2 : Int32)), .val (.ref b1), .unset, .unset] [(.int (0 : Int32)), (.ref a1)]))
  refine Go.by (fun _ => XS.aloadN X1.here hx rfl (hb hby d11_6) rfl rfl) ?_
  show Go p.tables e below _ (T1.setTop (mkF m 7 #[.val (.ref a1), .val (.int (0 : Int32)), .val (.int (2 : Int32)), .val (.ref b1), .unset, .unset] [(.ref b1), (.int (0 : Int32)), (.ref a1)]))
  refine Go.by (fun _ => XS.iconst X1.here hx rfl (hb hby d11_7)) ?_
  show Go p.tables e below _ (T1.setTop (mkF m 8 #[.val (.ref a1), .val (.int (0 : Int32)), .val (.int (2 : Int32)), .val (.ref b1), .unset, .unset] [(.int (0 : Int32)), (.ref b1), (.int (0 : Int32)), (.ref a1)]))
  refine Go.by (fun _ => XS.iloadN X1.here hx rfl (hb hby d11_8) rfl) ?_
  show Go p.tables e below _ (T1.setTop (mkF m 9 #[.val (.ref a1), .val (.int (0 : Int32)), .val (.int (2 : Int32)), .val (.ref b1), .unset, .unset] [(.int (2 : Int32)), (.int (0 : Int32)), (.ref b1), (.int (0 : Int32)), (.ref a1)]))
  obtain ⟨v3, T3, h3, X3, q3, xs3, st3⟩ := X1.callS hx hZ (f0s (List.mem_cons_self ..) f0n) (y := (⟨"java/lang/StringUTF16", "compress", "([CI[BII)I"⟩ : MethodName)) hown (tw hw 71 rfl) (tw hw 72 rfl) (tw hw 69 rfl) (tw hw 73 rfl) (by decide) (rmP2 l Z a0 hw [] a1 b1 k1 kc1 cf (fun _ => (.int 0)) h1 n0 Zs2 f2_8 V1 g_b1 hc) (g := (mkF m 9 #[.val (.ref a1), .val (.int (0 : Int32)), .val (.int (2 : Int32)), .val (.ref b1), .unset, .unset] [(.int (2 : Int32)), (.int (0 : Int32)), (.ref b1), (.int (0 : Int32)), (.ref a1)])) rfl (by rw [hml]; rfl) (argsL := [(.ref a1), (.int (0 : Int32)), (.ref b1), (.int (0 : Int32)), (.int (2 : Int32))]) (rest := []) (lenOf pd1 rfl) rfl (hb hby d11_9) rfl (by decide) (Nat.le_of_ble_eq_true rfl) (k' := 1) (n' := 2) rfl rfl (by decide) (by decide)
  refine Go.by st3 ?_
  obtain ⟨rfl, K3, V3⟩ := q3
  have f4_28 := Avf.keep f2_8 K3 (ninS ne_a1_b1 nin0)
  have f4_29 := f2_9.trans K3 (allS (Or.inr sz_b1) all0)
  have f4_30 := A1.keep K3
  have Zs4 : n0 ≤ h3.size := Nat.le_trans Zs2 K3.1
  show Go p.tables e below _ (T3.setTop (mkF m 12 #[.val (.ref a1), .val (.int (0 : Int32)), .val (.int (2 : Int32)), .val (.ref b1), .unset, .unset] [(.int (2 : Int32))]))
  refine Go.by (fun _ => XS.istore X3.here hx rfl (hb hby d11_12) rfl (l' := #[.val (.ref a1), .val (.int (0 : Int32)), .val (.int (2 : Int32)), .val (.ref b1), .val (.int (2 : Int32)), .unset]) rfl) ?_
  show Go p.tables e below _ (T3.setTop (mkF m 14 #[.val (.ref a1), .val (.int (0 : Int32)), .val (.int (2 : Int32)), .val (.ref b1), .val (.int (2 : Int32)), .unset] []))
  refine Go.by (fun _ => XS.iload X3.here hx rfl (hb hby d11_14) rfl) ?_
  show Go p.tables e below _ (T3.setTop (mkF m 16 #[.val (.ref a1), .val (.int (0 : Int32)), .val (.int (2 : Int32)), .val (.ref b1), .val (.int (2 : Int32)), .unset] [(.int (2 : Int32))]))
  refine Go.by (fun _ => XS.iloadN X3.here hx rfl (hb hby d11_16) rfl) ?_
  show Go p.tables e below _ (T3.setTop (mkF m 17 #[.val (.ref a1), .val (.int (0 : Int32)), .val (.int (2 : Int32)), .val (.ref b1), .val (.int (2 : Int32)), .unset] [(.int (2 : Int32)), (.int (2 : Int32))]))
  refine Go.by (fun _ => XS.icmpYes X3.here hx rfl (pc0 := 17) (pc' := 57) rfl (hb hby d11_17) rfl (teq (by decide)).1 (by decide) (by decide)) ?_
  show Go p.tables e below _ (T3.setTop (mkF m 57 #[.val (.ref a1), .val (.int (0 : Int32)), .val (.int (2 : Int32)), .val (.ref b1), .val (.int (2 : Int32)), .unset] []))
  refine Go.by (fun _ => XS.aloadN X3.here hx rfl (hb hby d11_57) rfl rfl) ?_
  show Go p.tables e below _ (T3.setTop (mkF m 58 #[.val (.ref a1), .val (.int (0 : Int32)), .val (.int (2 : Int32)), .val (.ref b1), .val (.int (2 : Int32)), .unset] [(.ref b1)]))
  exact Go.retA X3 hx hlk hret rfl rfl (hb hby d11_58) (by decide) (by decide) (fun _ z => z.elim) ⟨b1, kc1, rfl, sz_b1, f4_29, V3⟩
abbrev RmU2 : Room := { frames := 0, cells := 0, slots := 0, locals := 0 }
set_option maxRecDepth 65536 in
set_option maxHeartbeats 40000000 in
theorem rmU2 (l : Launch) (Z : State) (a0 : Array Value) (hw : ∀ d ∈ tables_1, d.before a0 Z = true) (ws : List Jvm.Cond) (a1 : Addr) (k1 : ClassId) (f1 : Nat → Value) (h0 : Heap) (n0 : Nat) (Z0 : n0 ≤ h0.size) (V_a1 : Avf Z h0 a1 k1 .byte 2 f1) :
    Met l Z EL [] (fun _ _ _ => False) n0 (⟨"java/lang/StringUTF16", "coderFromArrayLen", "([BI)B"⟩ : MethodName) jdk_52_method_15_code 2 (some .byte) ws RmU2 #[(.ref a1), (.int (2 : Int32))] h0 (fun v h => v = some (.int 0) ∧ h0 = h) := by
  refine enter (Ls := #[.val (.ref a1), .val (.int (2 : Int32))]) (plainFor_of_name pn2) (fun m => by first | (simp [entryFrame, mkF, argsToLocals, Value.category]; done) | rfl) ?_
  intro p e s m below meth c T0 hx hby hml hown hnm hret hlk hZ X0
  show Go p.tables e below _ (T0.setTop (mkF m 0 #[.val (.ref a1), .val (.int (2 : Int32))] []))
  refine Go.by (fun _ => XS.iloadN X0.here hx rfl (hb hby d13_0) rfl) ?_
  show Go p.tables e below _ (T0.setTop (mkF m 1 #[.val (.ref a1), .val (.int (2 : Int32))] [(.int (2 : Int32))]))
  refine Go.by (fun _ => XS.aloadN X0.here hx rfl (hb hby d13_1) rfl rfl) ?_
  show Go p.tables e below _ (T0.setTop (mkF m 2 #[.val (.ref a1), .val (.int (2 : Int32))] [(.ref a1), (.int (2 : Int32))]))
  refine Go.by (X0.len hx hZ V_a1 (z := (2 : Int32)) rfl (g := (mkF m 2 #[.val (.ref a1), .val (.int (2 : Int32))] [(.ref a1), (.int (2 : Int32))])) rfl rfl (hb hby d13_2)) ?_
  show Go p.tables e below _ (T0.setTop (mkF m 3 #[.val (.ref a1), .val (.int (2 : Int32))] [(.int (2 : Int32)), (.int (2 : Int32))]))
  refine Go.by (fun _ => XS.isub X0.here hx rfl (hb hby d13_3) rfl) ?_
  show Go p.tables e below _ (T0.setTop (mkF m 4 #[.val (.ref a1), .val (.int (2 : Int32))] [(.int (0 : Int32))]))
  refine Go.by (fun _ => XS.bipush X0.here hx rfl (hb hby d13_4)) ?_
  show Go p.tables e below _ (T0.setTop (mkF m 6 #[.val (.ref a1), .val (.int (2 : Int32))] [(.int (31 : Int32)), (.int (0 : Int32))]))
  refine Go.by (fun _ => XS.iushr X0.here hx rfl (hb hby d13_6) rfl) ?_
  show Go p.tables e below _ (T0.setTop (mkF m 7 #[.val (.ref a1), .val (.int (2 : Int32))] [(.int (0 : Int32))]))
  refine Go.by (fun _ => XS.i2b X0.here hx rfl (hb hby d13_7) rfl) ?_
  show Go p.tables e below _ (T0.setTop (mkF m 8 #[.val (.ref a1), .val (.int (2 : Int32))] [(.int ((0 : Int32).toInt8.toInt32))]))
  exact Go.retN X0 hx hlk (z' := (nar .byte ((0 : Int32).toInt8.toInt32))) hret (by simp) (hb hby d13_8) rfl (by decide) (by decide) (fun _ z => z.elim) ⟨rfl, rfl⟩
theorem d6_0 : decode jdk_42_method_149_code 0 = .ok (.aload_n 0, 1) := by decide +kernel
theorem d6_1 : decode jdk_42_method_149_code 1 = .ok (.invokespecial 1, 3) := by decide +kernel
theorem d6_4 : decode jdk_42_method_149_code 4 = .ok (.iload_n 3, 1) := by decide +kernel
theorem d6_5 : decode jdk_42_method_149_code 5 = .ok (.ifCond .ne 22, 3) := by decide +kernel
theorem d6_8 : decode jdk_42_method_149_code 8 = .ok (.aload_n 0, 1) := by decide +kernel
theorem d6_9 : decode jdk_42_method_149_code 9 = .ok (.ldc 7, 2) := by decide +kernel
theorem d6_11 : decode jdk_42_method_149_code 11 = .ok (.getfield 9, 3) := by decide +kernel
theorem d6_14 : decode jdk_42_method_149_code 14 = .ok (.putfield 9, 3) := by decide +kernel
theorem d6_17 : decode jdk_42_method_149_code 17 = .ok (.aload_n 0, 1) := by decide +kernel
theorem d6_18 : decode jdk_42_method_149_code 18 = .ok (.ldc 7, 2) := by decide +kernel
theorem d6_20 : decode jdk_42_method_149_code 20 = .ok (.getfield 15, 3) := by decide +kernel
theorem d6_23 : decode jdk_42_method_149_code 23 = .ok (.putfield 15, 3) := by decide +kernel
theorem d6_26 : decode jdk_42_method_149_code 26 = .ok (.return_, 1) := by decide +kernel
abbrev RmV0 : Room := { frames := 1, cells := 4, slots := 8, locals := 12 }
set_option maxRecDepth 65536 in
set_option maxHeartbeats 40000000 in
theorem rmV0 (l : Launch) (Z : State) (a0 : Array Value) (hw : ∀ d ∈ tables_1, d.before a0 Z = true) (ws : List Jvm.Cond) (a1 : Addr) (a2 : Addr) (k2 : ClassId) (cf : Nat → Int32) (cs : Int32) (h0 : Heap) (n0 : Nat) (Z0 : n0 ≤ h0.size) (O0 : Old Z n0 h0) (S_CS0 : Sta Z Z.heap "java/lang/String" "COMPACT_STRINGS" "Z" (.int cs)) (hcs : ¬ cs = 0) (E_a1 : Exa Z h0 a1 "java/lang/String") (g_a1 : n0 ≤ a1) (Fv : Fld Z h0 a1 "java/lang/String" "value" "[B" .null) (Fc : Fld Z h0 a1 "java/lang/String" "coder" "B" (.int (0 : Int32))) (V_a2 : Avf Z h0 a2 k2 .char 0 (fun i => (.int (cf i)))) (hc : ∀ i, i < 0 → ¬ (255 : Int32) < cf i) :
    Met l Z EL [a1] (fun _ _ _ => False) n0 (⟨"java/lang/String", "<init>", "([CIILjava/lang/Void;)V"⟩ : MethodName) jdk_42_method_149_code 6 none ws RmV0 #[(.ref a1), (.ref a2), (.int (0 : Int32)), (.int (0 : Int32)), .null] h0 (fun v h => v = none ∧ Keep h0 h [a1] ∧ Exa Z h a1 "java/lang/String" ∧ ∃ b kc, Fld Z h a1 "java/lang/String" "value" "[B" (.ref b) ∧ Fld Z h a1 "java/lang/String" "coder" "B" (.int (0 : Int32)) ∧ Avf Z h b kc .byte 0 (fun i => (.int ((fun j => (cf j).toInt8.toInt32) i)))) := by
  refine enter (Ls := #[.val (.ref a1), .val (.ref a2), .val (.int (0 : Int32)), .val (.int (0 : Int32)), .val .null, .unset]) (plainFor_of_name pn1) (fun m => by first | (simp [entryFrame, mkF, argsToLocals, Value.category]; done) | rfl) ?_
  intro p e s m below meth c T0 hx hby hml hown hnm hret hlk hZ X0
  have S_CS := S_CS0.ext O0.2
  have ne21 : a2 ≠ a1 := exa_nev E_a1 (tw hw 20 rfl) V_a2
  have K0 := Keep.refl h0 [a1]
  show Go p.tables e below _ (T0.setTop (mkF m 0 #[.val (.ref a1), .val (.ref a2), .val (.int (0 : Int32)), .val (.int (0 : Int32)), .val .null, .unset] []))
  refine Go.by (fun _ => XS.aloadN X0.here hx rfl (hb hby d6_0) rfl rfl) ?_
  show Go p.tables e below _ (T0.setTop (mkF m 1 #[.val (.ref a1), .val (.ref a2), .val (.int (0 : Int32)), .val (.int (0 : Int32)), .val .null, .unset] [(.ref a1)]))
  obtain ⟨T1, X1, st1⟩ := X0.initO hx hZ hown (tw hw 30 rfl) (tw hw 31 rfl) (tw hw 32 rfl) (g := (mkF m 1 #[.val (.ref a1), .val (.ref a2), .val (.int (0 : Int32)), .val (.int (0 : Int32)), .val .null, .unset] [(.ref a1)])) rfl (by rw [hml]; rfl) rfl (hb hby d6_1) (by decide) (Nat.le_of_ble_eq_true rfl)
  refine Go.by st1 ?_
  show Go p.tables e below _ (T1.setTop (mkF m 4 #[.val (.ref a1), .val (.ref a2), .val (.int (0 : Int32)), .val (.int (0 : Int32)), .val .null, .unset] []))
  refine Go.by (fun _ => XS.iloadN X1.here hx rfl (hb hby d6_4) rfl) ?_
  show Go p.tables e below _ (T1.setTop (mkF m 5 #[.val (.ref a1), .val (.ref a2), .val (.int (0 : Int32)), .val (.int (0 : Int32)), .val .null, .unset] [(.int (0 : Int32))]))
  refine Go.by (fun _ => XS.ifNo X1.here hx rfl (hb hby d6_5) rfl ((if0 _ _).trans (teq (by decide)).2)) ?_
  show Go p.tables e below _ (T1.setTop (mkF m 8 #[.val (.ref a1), .val (.ref a2), .val (.int (0 : Int32)), .val (.int (0 : Int32)), .val .null, .unset] []))
  refine Go.by (fun _ => XS.aloadN X1.here hx rfl (hb hby d6_8) rfl rfl) ?_
  show Go p.tables e below _ (T1.setTop (mkF m 9 #[.val (.ref a1), .val (.ref a2), .val (.int (0 : Int32)), .val (.int (0 : Int32)), .val .null, .unset] [(.ref a1)]))
  obtain ⟨T2, h2, s2, t2, kc2, X2, E2, A2, Fc2, Fv2, V2, ns2, st2⟩ := X1.ldcR hx hown (tw hw 33 rfl) (atoms_S hw) (List.mem_of_getElem? (i := 0) rfl) (vs := []) (z := 0) (sz := 0) (by decide) (by decide) (by decide) (by decide) (g := (mkF m 9 #[.val (.ref a1), .val (.ref a2), .val (.int (0 : Int32)), .val (.int (0 : Int32)), .val .null, .unset] [(.ref a1)])) rfl (hb hby d6_9) (nn := 0) (k' := 2) (n' := 4) (by decide) (by decide) rfl rfl (by decide) (by decide)
  have f3_16 := S_CS.ext E2
  have f3_17 := E_a1.ext E2
  have f3_18 := Fv.ext E2
  have f3_19 := Fc.ext E2
  have f3_20 := Avf.ext V_a2 E2
  have f3_21 := O0.ext E2
  have f3_22 := K0.ext E2
  have Zs3 : n0 ≤ h2.size := Nat.le_trans Z0 E2.1
  have ne_t2_s2 : t2 ≠ s2 := exa_nev A2 (tw hw 20 rfl) V2
  refine Go.by st2 ?_
  show Go p.tables e below _ (T2.setTop (mkF m 11 #[.val (.ref a1), .val (.ref a2), .val (.int (0 : Int32)), .val (.int (0 : Int32)), .val .null, .unset] [(.ref s2), (.ref a1)]))
  obtain ⟨T4, X4, st4⟩ := X2.getF hx hZ hown (host := "") (Or.inl (tw hw 39 rfl)) Via.refl Fv2 (g := (mkF m 11 #[.val (.ref a1), .val (.ref a2), .val (.int (0 : Int32)), .val (.int (0 : Int32)), .val .null, .unset] [(.ref s2), (.ref a1)])) rfl rfl (hb hby d6_11)
  refine Go.by st4 ?_
  show Go p.tables e below _ (T4.setTop (mkF m 14 #[.val (.ref a1), .val (.ref a2), .val (.int (0 : Int32)), .val (.int (0 : Int32)), .val .null, .unset] [(.ref t2), (.ref a1)]))
  obtain ⟨T5, h5, X5, W5, st5⟩ := X4.putF hx hZ hown (host := "") (Or.inl (tw hw 39 rfl)) Via.refl f3_18 f3_17 g_a1 (Or.inl (List.mem_cons_self ..)) (Or.inr ⟨(tw hw 35 rfl), rfl, hnm⟩) (tw hw 20 rfl) (ty := (.array .byte)) (by decide) rfl rfl (g := (mkF m 14 #[.val (.ref a1), .val (.ref a2), .val (.int (0 : Int32)), .val (.int (0 : Int32)), .val .null, .unset] [(.ref t2), (.ref a1)])) rfl rfl (hb hby d6_14)
  have Fw5 := f3_18.same W5
  have f6_32 := f3_16.wr W5
  have f6_33 := f3_17.wr W5
  have f6_34 := f3_19.other W5 (Or.inr (slot_ne (Or.inr (tw hw 36 rfl)) (Or.inr (tw hw 35 rfl)) (by decide) (t := .byte) (t' := (.array .byte)) (by decide) (by decide)))
  have f6_35 := Avf.other f3_20 W5 ne21
  have f6_36 := f3_21.wr W5 g_a1
  have f6_37 := f3_22.wr W5 (Or.inl (List.mem_of_getElem? (i := 0) rfl))
  have f6_38 := A2.wr W5
  have f6_39 := Fc2.other W5 (Or.inl (ns2 _ (List.mem_cons_self ..)).1)
  have f6_40 := Fv2.other W5 (Or.inl (ns2 _ (List.mem_cons_self ..)).1)
  have f6_41 := Avf.other V2 W5 (ns2 _ (List.mem_cons_self ..)).2
  have Zs6 : n0 ≤ h5.size := by rw [W5.size]; exact Zs3
  refine Go.by st5 ?_
  show Go p.tables e below _ (T5.setTop (mkF m 17 #[.val (.ref a1), .val (.ref a2), .val (.int (0 : Int32)), .val (.int (0 : Int32)), .val .null, .unset] []))
  refine Go.by (fun _ => XS.aloadN X5.here hx rfl (hb hby d6_17) rfl rfl) ?_
  show Go p.tables e below _ (T5.setTop (mkF m 18 #[.val (.ref a1), .val (.ref a2), .val (.int (0 : Int32)), .val (.int (0 : Int32)), .val .null, .unset] [(.ref a1)]))
  obtain ⟨T7, h7, s7, t7, kc7, X7, E7, A7, Fc7, Fv7, V7, ns7, st7⟩ := X5.ldcR hx hown (tw hw 33 rfl) (atoms_S hw) (List.mem_of_getElem? (i := 0) rfl) (vs := []) (z := 0) (sz := 0) (by decide) (by decide) (by decide) (by decide) (g := (mkF m 18 #[.val (.ref a1), .val (.ref a2), .val (.int (0 : Int32)), .val (.int (0 : Int32)), .val .null, .unset] [(.ref a1)])) rfl (hb hby d6_18) (nn := 0) (k' := 4) (n' := 8) (by decide) (by decide) rfl rfl (by decide) (by decide)
  have f8_48 := f6_32.ext E7
  have f8_49 := f6_33.ext E7
  have f8_50 := Fw5.ext E7
  have f8_51 := f6_34.ext E7
  have f8_52 := Avf.ext f6_35 E7
  have f8_53 := f6_36.ext E7
  have f8_54 := f6_37.ext E7
  have f8_55 := f6_38.ext E7
  have f8_56 := f6_39.ext E7
  have f8_57 := f6_40.ext E7
  have f8_58 := Avf.ext f6_41 E7
  have Zs8 : n0 ≤ h7.size := Nat.le_trans Zs6 E7.1
  have ne_t7_s2 : t7 ≠ s2 := exa_nev f8_55 (tw hw 20 rfl) V7
  have ne_t7_s7 : t7 ≠ s7 := exa_nev A7 (tw hw 20 rfl) V7
  refine Go.by st7 ?_
  show Go p.tables e below _ (T7.setTop (mkF m 20 #[.val (.ref a1), .val (.ref a2), .val (.int (0 : Int32)), .val (.int (0 : Int32)), .val .null, .unset] [(.ref s7), (.ref a1)]))
  obtain ⟨T9, X9, st9⟩ := X7.getF hx hZ hown (host := "") (Or.inl (tw hw 40 rfl)) Via.refl Fc7 (g := (mkF m 20 #[.val (.ref a1), .val (.ref a2), .val (.int (0 : Int32)), .val (.int (0 : Int32)), .val .null, .unset] [(.ref s7), (.ref a1)])) rfl rfl (hb hby d6_20)
  refine Go.by st9 ?_
  show Go p.tables e below _ (T9.setTop (mkF m 23 #[.val (.ref a1), .val (.ref a2), .val (.int (0 : Int32)), .val (.int (0 : Int32)), .val .null, .unset] [(.int (0 : Int32)), (.ref a1)]))
  obtain ⟨T10, h10, X10, W10, st10⟩ := X9.putFN hx hZ hown (tw hw 40 rfl) Via.refl f8_51 f8_49 g_a1 (Or.inl (List.mem_cons_self ..)) (Or.inr ⟨(tw hw 36 rfl), rfl, hnm⟩) (tw hw 20 rfl) (ty := .byte) (v' := (.int (0 : Int32))) (by decide) rfl rfl (g := (mkF m 23 #[.val (.ref a1), .val (.ref a2), .val (.int (0 : Int32)), .val (.int (0 : Int32)), .val .null, .unset] [(.int (0 : Int32)), (.ref a1)])) rfl rfl (hb hby d6_23)
  have Fw10 := f8_51.same W10
  have f11_69 := f8_48.wr W10
  have f11_70 := f8_49.wr W10
  have f11_71 := f8_50.other W10 (Or.inr (slot_ne (Or.inr (tw hw 35 rfl)) (Or.inr (tw hw 36 rfl)) (by decide) (t := (.array .byte)) (t' := .byte) (by decide) (by decide)))
  have f11_72 := Avf.other f8_52 W10 ne21
  have f11_73 := f8_53.wr W10 g_a1
  have f11_74 := f8_54.wr W10 (Or.inl (List.mem_of_getElem? (i := 0) rfl))
  have f11_75 := f8_55.wr W10
  have f11_76 := f8_56.other W10 (Or.inl (ns2 _ (List.mem_cons_self ..)).1)
  have f11_77 := f8_57.other W10 (Or.inl (ns2 _ (List.mem_cons_self ..)).1)
  have f11_78 := Avf.other f8_58 W10 (ns2 _ (List.mem_cons_self ..)).2
  have f11_79 := A7.wr W10
  have f11_80 := Fc7.other W10 (Or.inl (ns7 _ (List.mem_cons_self ..)).1)
  have f11_81 := Fv7.other W10 (Or.inl (ns7 _ (List.mem_cons_self ..)).1)
  have f11_82 := Avf.other V7 W10 (ns7 _ (List.mem_cons_self ..)).2
  have Zs11 : n0 ≤ h10.size := by rw [W10.size]; exact Zs8
  refine Go.by st10 ?_
  show Go p.tables e below _ (T10.setTop (mkF m 26 #[.val (.ref a1), .val (.ref a2), .val (.int (0 : Int32)), .val (.int (0 : Int32)), .val .null, .unset] []))
  exact Go.ret0 X10 hx hlk hret (hb hby d6_26) (by decide) (by decide) (fun _ z => z.elim) ⟨rfl, f11_74, f11_70, t2, kc2, f11_71, Fw10, (Avf.cong f11_78 (fun i hi => absurd hi (Nat.not_lt_zero _)))⟩
theorem d6_27 : decode jdk_42_method_149_code 27 = .ok (.getstatic 38, 3) := by decide +kernel
theorem d6_30 : decode jdk_42_method_149_code 30 = .ok (.ifCond .eq 28, 3) := by decide +kernel
theorem d6_33 : decode jdk_42_method_149_code 33 = .ok (.aload_n 1, 1) := by decide +kernel
theorem d6_34 : decode jdk_42_method_149_code 34 = .ok (.iload_n 2, 1) := by decide +kernel
theorem d6_35 : decode jdk_42_method_149_code 35 = .ok (.iload_n 3, 1) := by decide +kernel
theorem d6_36 : decode jdk_42_method_149_code 36 = .ok (.invokestatic 177, 3) := by decide +kernel
theorem pd2 : parseMethodDescriptor "([CII)[B" = some ⟨[(.array .char), .int, .int], some (.array .byte)⟩ := by decide +kernel
theorem d6_39 : decode jdk_42_method_149_code 39 = .ok (.astore 5, 2) := by decide +kernel
theorem d6_41 : decode jdk_42_method_149_code 41 = .ok (.aload_n 0, 1) := by decide +kernel
theorem d6_42 : decode jdk_42_method_149_code 42 = .ok (.aload 5, 2) := by decide +kernel
theorem d6_44 : decode jdk_42_method_149_code 44 = .ok (.iload_n 3, 1) := by decide +kernel
theorem d6_45 : decode jdk_42_method_149_code 45 = .ok (.invokestatic 47, 3) := by decide +kernel
theorem pd3 : parseMethodDescriptor "([BI)B" = some ⟨[(.array .byte), .int], some .byte⟩ := by decide +kernel
theorem d6_48 : decode jdk_42_method_149_code 48 = .ok (.putfield 15, 3) := by decide +kernel
theorem d6_51 : decode jdk_42_method_149_code 51 = .ok (.aload_n 0, 1) := by decide +kernel
theorem d6_52 : decode jdk_42_method_149_code 52 = .ok (.aload 5, 2) := by decide +kernel
theorem d6_54 : decode jdk_42_method_149_code 54 = .ok (.putfield 9, 3) := by decide +kernel
theorem d6_57 : decode jdk_42_method_149_code 57 = .ok (.return_, 1) := by decide +kernel
abbrev RmV1 : Room := { frames := 2, cells := 1, slots := 1, locals := 35 }
set_option maxRecDepth 65536 in
set_option maxHeartbeats 40000000 in
theorem rmV1 (l : Launch) (Z : State) (a0 : Array Value) (hw : ∀ d ∈ tables_1, d.before a0 Z = true) (ws : List Jvm.Cond) (a1 : Addr) (a2 : Addr) (k2 : ClassId) (cf : Nat → Int32) (cs : Int32) (h0 : Heap) (n0 : Nat) (Z0 : n0 ≤ h0.size) (O0 : Old Z n0 h0) (S_CS0 : Sta Z Z.heap "java/lang/String" "COMPACT_STRINGS" "Z" (.int cs)) (hcs : ¬ cs = 0) (E_a1 : Exa Z h0 a1 "java/lang/String") (g_a1 : n0 ≤ a1) (Fv : Fld Z h0 a1 "java/lang/String" "value" "[B" .null) (Fc : Fld Z h0 a1 "java/lang/String" "coder" "B" (.int (0 : Int32))) (V_a2 : Avf Z h0 a2 k2 .char 1 (fun i => (.int (cf i)))) (hc : ∀ i, i < 1 → ¬ (255 : Int32) < cf i) :
    Met l Z EL [a1] (fun _ _ _ => False) n0 (⟨"java/lang/String", "<init>", "([CIILjava/lang/Void;)V"⟩ : MethodName) jdk_42_method_149_code 6 none ws RmV1 #[(.ref a1), (.ref a2), (.int (0 : Int32)), (.int (1 : Int32)), .null] h0 (fun v h => v = none ∧ Keep h0 h [a1] ∧ Exa Z h a1 "java/lang/String" ∧ ∃ b kc, Fld Z h a1 "java/lang/String" "value" "[B" (.ref b) ∧ Fld Z h a1 "java/lang/String" "coder" "B" (.int (0 : Int32)) ∧ Avf Z h b kc .byte 1 (fun i => (.int ((fun j => (cf j).toInt8.toInt32) i)))) := by
  refine enter (Ls := #[.val (.ref a1), .val (.ref a2), .val (.int (0 : Int32)), .val (.int (1 : Int32)), .val .null, .unset]) (plainFor_of_name pn1) (fun m => by first | (simp [entryFrame, mkF, argsToLocals, Value.category]; done) | rfl) ?_
  intro p e s m below meth c T0 hx hby hml hown hnm hret hlk hZ X0
  have S_CS := S_CS0.ext O0.2
  have ne21 : a2 ≠ a1 := exa_nev E_a1 (tw hw 20 rfl) V_a2
  have K0 := Keep.refl h0 [a1]
  show Go p.tables e below _ (T0.setTop (mkF m 0 #[.val (.ref a1), .val (.ref a2), .val (.int (0 : Int32)), .val (.int (1 : Int32)), .val .null, .unset] []))
  refine Go.by (fun _ => XS.aloadN X0.here hx rfl (hb hby d6_0) rfl rfl) ?_
  show Go p.tables e below _ (T0.setTop (mkF m 1 #[.val (.ref a1), .val (.ref a2), .val (.int (0 : Int32)), .val (.int (1 : Int32)), .val .null, .unset] [(.ref a1)]))
  obtain ⟨T1, X1, st1⟩ := X0.initO hx hZ hown (tw hw 30 rfl) (tw hw 31 rfl) (tw hw 32 rfl) (g := (mkF m 1 #[.val (.ref a1), .val (.ref a2), .val (.int (0 : Int32)), .val (.int (1 : Int32)), .val .null, .unset] [(.ref a1)])) rfl (by rw [hml]; rfl) rfl (hb hby d6_1) (by decide) (Nat.le_of_ble_eq_true rfl)
  refine Go.by st1 ?_
  show Go p.tables e below _ (T1.setTop (mkF m 4 #[.val (.ref a1), .val (.ref a2), .val (.int (0 : Int32)), .val (.int (1 : Int32)), .val .null, .unset] []))
  refine Go.by (fun _ => XS.iloadN X1.here hx rfl (hb hby d6_4) rfl) ?_
  show Go p.tables e below _ (T1.setTop (mkF m 5 #[.val (.ref a1), .val (.ref a2), .val (.int (0 : Int32)), .val (.int (1 : Int32)), .val .null, .unset] [(.int (1 : Int32))]))
  refine Go.by (fun _ => XS.ifYes X1.here hx rfl (pc0 := 5) (pc' := 27) rfl (hb hby d6_5) rfl ((if0 _ _).trans (feq (by decide)).2) (by decide) (by decide)) ?_
  show Go p.tables e below _ (T1.setTop (mkF m 27 #[.val (.ref a1), .val (.ref a2), .val (.int (0 : Int32)), .val (.int (1 : Int32)), .val .null, .unset] []))
  obtain ⟨T2, X2, st2⟩ := X1.getS hx hZ hown (host := "") (Or.inl (tw hw 66 rfl)) Via.refl S_CS (g := (mkF m 27 #[.val (.ref a1), .val (.ref a2), .val (.int (0 : Int32)), .val (.int (1 : Int32)), .val .null, .unset] [])) rfl (hb hby d6_27)
  refine Go.by st2 ?_
  show Go p.tables e below _ (T2.setTop (mkF m 30 #[.val (.ref a1), .val (.ref a2), .val (.int (0 : Int32)), .val (.int (1 : Int32)), .val .null, .unset] [(.int cs)]))
  refine Go.by (fun _ => XS.ifNo X2.here hx rfl (hb hby d6_30) rfl ((if0 _ _).trans (feq hcs).1)) ?_
  show Go p.tables e below _ (T2.setTop (mkF m 33 #[.val (.ref a1), .val (.ref a2), .val (.int (0 : Int32)), .val (.int (1 : Int32)), .val .null, .unset] []))
  refine Go.by (fun _ => XS.aloadN X2.here hx rfl (hb hby d6_33) rfl rfl) ?_
  show Go p.tables e below _ (T2.setTop (mkF m 34 #[.val (.ref a1), .val (.ref a2), .val (.int (0 : Int32)), .val (.int (1 : Int32)), .val .null, .unset] [(.ref a2)]))
  refine Go.by (fun _ => XS.iloadN X2.here hx rfl (hb hby d6_34) rfl) ?_
  show Go p.tables e below _ (T2.setTop (mkF m 35 #[.val (.ref a1), .val (.ref a2), .val (.int (0 : Int32)), .val (.int (1 : Int32)), .val .null, .unset] [(.int (0 : Int32)), (.ref a2)]))
  refine Go.by (fun _ => XS.iloadN X2.here hx rfl (hb hby d6_35) rfl) ?_
  show Go p.tables e below _ (T2.setTop (mkF m 36 #[.val (.ref a1), .val (.ref a2), .val (.int (0 : Int32)), .val (.int (1 : Int32)), .val .null, .unset] [(.int (1 : Int32)), (.int (0 : Int32)), (.ref a2)]))
  obtain ⟨v3, T3, h3, X3, q3, xs3, st3⟩ := X2.callS hx hZ f0n (y := (⟨"java/lang/StringUTF16", "compress", "([CII)[B"⟩ : MethodName)) hown (tw hw 67 rfl) (tw hw 68 rfl) (tw hw 69 rfl) (tw hw 70 rfl) (by decide) (rmQ1 l Z a0 hw [] a2 k2 cf h0 n0 Z0 V_a2 hc) (g := (mkF m 36 #[.val (.ref a1), .val (.ref a2), .val (.int (0 : Int32)), .val (.int (1 : Int32)), .val .null, .unset] [(.int (1 : Int32)), (.int (0 : Int32)), (.ref a2)])) rfl (by rw [hml]; rfl) (argsL := [(.ref a2), (.int (0 : Int32)), (.int (1 : Int32))]) (rest := []) (lenOf pd2 rfl) rfl (hb hby d6_36) rfl (by decide) (Nat.le_of_ble_eq_true rfl) (k' := 1) (n' := 1) rfl rfl (by decide) (by decide)
  refine Go.by st3 ?_
  obtain ⟨d3, kc3, rfl, sd3, K3, V3⟩ := q3
  have g_d3 : n0 ≤ d3 := Nat.le_trans Z0 sd3
  have sz_d3 : h0.size ≤ d3 := Nat.le_trans K0.1 sd3
  have ne_a1_d3 : a1 ≠ d3 := Nat.ne_of_lt (Nat.lt_of_lt_of_le E_a1.lt sd3)
  have ne_a2_d3 : a2 ≠ d3 := Nat.ne_of_lt (Nat.lt_of_lt_of_le V_a2.lt sd3)
  have f4_31 := S_CS.ext (keep_ext K3)
  have f4_32 := E_a1.ext (keep_ext K3)
  have f4_33 := Fv.ext (keep_ext K3)
  have f4_34 := Fc.ext (keep_ext K3)
  have f4_35 := Avf.ext V_a2 (keep_ext K3)
  have f4_36 := O0.ext (keep_ext K3)
  have f4_37 := K0.ext (keep_ext K3)
  have Zs4 : n0 ≤ h3.size := Nat.le_trans Z0 (keep_ext K3).1
  show Go p.tables e below _ (T3.setTop (mkF m 39 #[.val (.ref a1), .val (.ref a2), .val (.int (0 : Int32)), .val (.int (1 : Int32)), .val .null, .unset] [(.ref d3)]))
  refine Go.by (fun _ => XS.astore X3.here hx rfl (hb hby d6_39) rfl rfl (l' := #[.val (.ref a1), .val (.ref a2), .val (.int (0 : Int32)), .val (.int (1 : Int32)), .val .null, .val (.ref d3)]) rfl) ?_
  show Go p.tables e below _ (T3.setTop (mkF m 41 #[.val (.ref a1), .val (.ref a2), .val (.int (0 : Int32)), .val (.int (1 : Int32)), .val .null, .val (.ref d3)] []))
  refine Go.by (fun _ => XS.aloadN X3.here hx rfl (hb hby d6_41) rfl rfl) ?_
  show Go p.tables e below _ (T3.setTop (mkF m 42 #[.val (.ref a1), .val (.ref a2), .val (.int (0 : Int32)), .val (.int (1 : Int32)), .val .null, .val (.ref d3)] [(.ref a1)]))
  refine Go.by (fun _ => XS.aload X3.here hx rfl (hb hby d6_42) rfl rfl) ?_
  show Go p.tables e below _ (T3.setTop (mkF m 44 #[.val (.ref a1), .val (.ref a2), .val (.int (0 : Int32)), .val (.int (1 : Int32)), .val .null, .val (.ref d3)] [(.ref d3), (.ref a1)]))
  refine Go.by (fun _ => XS.iloadN X3.here hx rfl (hb hby d6_44) rfl) ?_
  show Go p.tables e below _ (T3.setTop (mkF m 45 #[.val (.ref a1), .val (.ref a2), .val (.int (0 : Int32)), .val (.int (1 : Int32)), .val .null, .val (.ref d3)] [(.int (1 : Int32)), (.ref d3), (.ref a1)]))
  obtain ⟨v5, T5, h5, X5, q5, xs5, st5⟩ := X3.callS hx hZ f0n (y := (⟨"java/lang/StringUTF16", "coderFromArrayLen", "([BI)B"⟩ : MethodName)) hown (tw hw 74 rfl) (tw hw 75 rfl) (tw hw 69 rfl) (tw hw 76 rfl) (by decide) (rmU1 l Z a0 hw [] d3 kc3 (fun i => (.int ((fun j => (cf j).toInt8.toInt32) i))) h3 n0 Zs4 V3) (g := (mkF m 45 #[.val (.ref a1), .val (.ref a2), .val (.int (0 : Int32)), .val (.int (1 : Int32)), .val .null, .val (.ref d3)] [(.int (1 : Int32)), (.ref d3), (.ref a1)])) rfl (by rw [hml]; rfl) (argsL := [(.ref d3), (.int (1 : Int32))]) (rest := [(.ref a1)]) (lenOf pd3 rfl) rfl (hb hby d6_45) rfl (by decide) (Nat.le_of_ble_eq_true rfl) (k' := 1) (n' := 1) rfl rfl (by decide) (by decide)
  refine Go.by st5 ?_
  obtain ⟨rfl, rfl⟩ := q5
  show Go p.tables e below _ (T5.setTop (mkF m 48 #[.val (.ref a1), .val (.ref a2), .val (.int (0 : Int32)), .val (.int (1 : Int32)), .val .null, .val (.ref d3)] [(.int (0 : Int32)), (.ref a1)]))
  obtain ⟨T6, h6, X6, W6, st6⟩ := X5.putFN hx hZ hown (tw hw 40 rfl) Via.refl f4_34 f4_32 g_a1 (Or.inl (List.mem_cons_self ..)) (Or.inr ⟨(tw hw 36 rfl), rfl, hnm⟩) (tw hw 20 rfl) (ty := .byte) (v' := (.int (0 : Int32))) (by decide) rfl rfl (g := (mkF m 48 #[.val (.ref a1), .val (.ref a2), .val (.int (0 : Int32)), .val (.int (1 : Int32)), .val .null, .val (.ref d3)] [(.int (0 : Int32)), (.ref a1)])) rfl rfl (hb hby d6_48)
  have Fw6 := f4_34.same W6
  have f7_54 := f4_31.wr W6
  have f7_55 := f4_32.wr W6
  have f7_56 := f4_33.other W6 (Or.inr (slot_ne (Or.inr (tw hw 35 rfl)) (Or.inr (tw hw 36 rfl)) (by decide) (t := (.array .byte)) (t' := .byte) (by decide) (by decide)))
  have f7_57 := Avf.other f4_35 W6 ne21
  have f7_58 := f4_36.wr W6 g_a1
  have f7_59 := f4_37.wr W6 (Or.inl (List.mem_of_getElem? (i := 0) rfl))
  have f7_60 := Avf.other V3 W6 (Ne.symm ne_a1_d3)
  have Zs7 : n0 ≤ h6.size := by rw [W6.size]; exact Zs4
  refine Go.by st6 ?_
  show Go p.tables e below _ (T6.setTop (mkF m 51 #[.val (.ref a1), .val (.ref a2), .val (.int (0 : Int32)), .val (.int (1 : Int32)), .val .null, .val (.ref d3)] []))
  refine Go.by (fun _ => XS.aloadN X6.here hx rfl (hb hby d6_51) rfl rfl) ?_
  show Go p.tables e below _ (T6.setTop (mkF m 52 #[.val (.ref a1), .val (.ref a2), .val (.int (0 : Int32)), .val (.int (1 : Int32)), .val .null, .val (.ref d3)] [(.ref a1)]))
  refine Go.by (fun _ => XS.aload X6.here hx rfl (hb hby d6_52) rfl rfl) ?_
  show Go p.tables e below _ (T6.setTop (mkF m 54 #[.val (.ref a1), .val (.ref a2), .val (.int (0 : Int32)), .val (.int (1 : Int32)), .val .null, .val (.ref d3)] [(.ref d3), (.ref a1)]))
  obtain ⟨T8, h8, X8, W8, st8⟩ := X6.putF hx hZ hown (host := "") (Or.inl (tw hw 39 rfl)) Via.refl f7_56 f7_55 g_a1 (Or.inl (List.mem_cons_self ..)) (Or.inr ⟨(tw hw 35 rfl), rfl, hnm⟩) (tw hw 20 rfl) (ty := (.array .byte)) (by decide) rfl rfl (g := (mkF m 54 #[.val (.ref a1), .val (.ref a2), .val (.int (0 : Int32)), .val (.int (1 : Int32)), .val .null, .val (.ref d3)] [(.ref d3), (.ref a1)])) rfl rfl (hb hby d6_54)
  have Fw8 := f7_56.same W8
  have f9_70 := f7_54.wr W8
  have f9_71 := f7_55.wr W8
  have f9_72 := Fw6.other W8 (Or.inr (slot_ne (Or.inr (tw hw 36 rfl)) (Or.inr (tw hw 35 rfl)) (by decide) (t := .byte) (t' := (.array .byte)) (by decide) (by decide)))
  have f9_73 := Avf.other f7_57 W8 ne21
  have f9_74 := f7_58.wr W8 g_a1
  have f9_75 := f7_59.wr W8 (Or.inl (List.mem_of_getElem? (i := 0) rfl))
  have f9_76 := Avf.other f7_60 W8 (Ne.symm ne_a1_d3)
  have Zs9 : n0 ≤ h8.size := by rw [W8.size]; exact Zs7
  refine Go.by st8 ?_
  show Go p.tables e below _ (T8.setTop (mkF m 57 #[.val (.ref a1), .val (.ref a2), .val (.int (0 : Int32)), .val (.int (1 : Int32)), .val .null, .val (.ref d3)] []))
  exact Go.ret0 X8 hx hlk hret (hb hby d6_57) (by decide) (by decide) (fun _ z => z.elim) ⟨rfl, f9_75, f9_71, d3, kc3, Fw8, f9_72, f9_76⟩
abbrev RmV2 : Room := { frames := 2, cells := 1, slots := 2, locals := 35 }
set_option maxRecDepth 65536 in
set_option maxHeartbeats 40000000 in
theorem rmV2 (l : Launch) (Z : State) (a0 : Array Value) (hw : ∀ d ∈ tables_1, d.before a0 Z = true) (ws : List Jvm.Cond) (a1 : Addr) (a2 : Addr) (k2 : ClassId) (cf : Nat → Int32) (cs : Int32) (h0 : Heap) (n0 : Nat) (Z0 : n0 ≤ h0.size) (O0 : Old Z n0 h0) (S_CS0 : Sta Z Z.heap "java/lang/String" "COMPACT_STRINGS" "Z" (.int cs)) (hcs : ¬ cs = 0) (E_a1 : Exa Z h0 a1 "java/lang/String") (g_a1 : n0 ≤ a1) (Fv : Fld Z h0 a1 "java/lang/String" "value" "[B" .null) (Fc : Fld Z h0 a1 "java/lang/String" "coder" "B" (.int (0 : Int32))) (V_a2 : Avf Z h0 a2 k2 .char 2 (fun i => (.int (cf i)))) (hc : ∀ i, i < 2 → ¬ (255 : Int32) < cf i) :
    Met l Z EL [a1] (fun _ _ _ => False) n0 (⟨"java/lang/String", "<init>", "([CIILjava/lang/Void;)V"⟩ : MethodName) jdk_42_method_149_code 6 none ws RmV2 #[(.ref a1), (.ref a2), (.int (0 : Int32)), (.int (2 : Int32)), .null] h0 (fun v h => v = none ∧ Keep h0 h [a1] ∧ Exa Z h a1 "java/lang/String" ∧ ∃ b kc, Fld Z h a1 "java/lang/String" "value" "[B" (.ref b) ∧ Fld Z h a1 "java/lang/String" "coder" "B" (.int (0 : Int32)) ∧ Avf Z h b kc .byte 2 (fun i => (.int ((fun j => (cf j).toInt8.toInt32) i)))) := by
  refine enter (Ls := #[.val (.ref a1), .val (.ref a2), .val (.int (0 : Int32)), .val (.int (2 : Int32)), .val .null, .unset]) (plainFor_of_name pn1) (fun m => by first | (simp [entryFrame, mkF, argsToLocals, Value.category]; done) | rfl) ?_
  intro p e s m below meth c T0 hx hby hml hown hnm hret hlk hZ X0
  have S_CS := S_CS0.ext O0.2
  have ne21 : a2 ≠ a1 := exa_nev E_a1 (tw hw 20 rfl) V_a2
  have K0 := Keep.refl h0 [a1]
  show Go p.tables e below _ (T0.setTop (mkF m 0 #[.val (.ref a1), .val (.ref a2), .val (.int (0 : Int32)), .val (.int (2 : Int32)), .val .null, .unset] []))
  refine Go.by (fun _ => XS.aloadN X0.here hx rfl (hb hby d6_0) rfl rfl) ?_
  show Go p.tables e below _ (T0.setTop (mkF m 1 #[.val (.ref a1), .val (.ref a2), .val (.int (0 : Int32)), .val (.int (2 : Int32)), .val .null, .unset] [(.ref a1)]))
  obtain ⟨T1, X1, st1⟩ := X0.initO hx hZ hown (tw hw 30 rfl) (tw hw 31 rfl) (tw hw 32 rfl) (g := (mkF m 1 #[.val (.ref a1), .val (.ref a2), .val (.int (0 : Int32)), .val (.int (2 : Int32)), .val .null, .unset] [(.ref a1)])) rfl (by rw [hml]; rfl) rfl (hb hby d6_1) (by decide) (Nat.le_of_ble_eq_true rfl)
  refine Go.by st1 ?_
  show Go p.tables e below _ (T1.setTop (mkF m 4 #[.val (.ref a1), .val (.ref a2), .val (.int (0 : Int32)), .val (.int (2 : Int32)), .val .null, .unset] []))
  refine Go.by (fun _ => XS.iloadN X1.here hx rfl (hb hby d6_4) rfl) ?_
  show Go p.tables e below _ (T1.setTop (mkF m 5 #[.val (.ref a1), .val (.ref a2), .val (.int (0 : Int32)), .val (.int (2 : Int32)), .val .null, .unset] [(.int (2 : Int32))]))
  refine Go.by (fun _ => XS.ifYes X1.here hx rfl (pc0 := 5) (pc' := 27) rfl (hb hby d6_5) rfl ((if0 _ _).trans (feq (by decide)).2) (by decide) (by decide)) ?_
  show Go p.tables e below _ (T1.setTop (mkF m 27 #[.val (.ref a1), .val (.ref a2), .val (.int (0 : Int32)), .val (.int (2 : Int32)), .val .null, .unset] []))
  obtain ⟨T2, X2, st2⟩ := X1.getS hx hZ hown (host := "") (Or.inl (tw hw 66 rfl)) Via.refl S_CS (g := (mkF m 27 #[.val (.ref a1), .val (.ref a2), .val (.int (0 : Int32)), .val (.int (2 : Int32)), .val .null, .unset] [])) rfl (hb hby d6_27)
  refine Go.by st2 ?_
  show Go p.tables e below _ (T2.setTop (mkF m 30 #[.val (.ref a1), .val (.ref a2), .val (.int (0 : Int32)), .val (.int (2 : Int32)), .val .null, .unset] [(.int cs)]))
  refine Go.by (fun _ => XS.ifNo X2.here hx rfl (hb hby d6_30) rfl ((if0 _ _).trans (feq hcs).1)) ?_
  show Go p.tables e below _ (T2.setTop (mkF m 33 #[.val (.ref a1), .val (.ref a2), .val (.int (0 : Int32)), .val (.int (2 : Int32)), .val .null, .unset] []))
  refine Go.by (fun _ => XS.aloadN X2.here hx rfl (hb hby d6_33) rfl rfl) ?_
  show Go p.tables e below _ (T2.setTop (mkF m 34 #[.val (.ref a1), .val (.ref a2), .val (.int (0 : Int32)), .val (.int (2 : Int32)), .val .null, .unset] [(.ref a2)]))
  refine Go.by (fun _ => XS.iloadN X2.here hx rfl (hb hby d6_34) rfl) ?_
  show Go p.tables e below _ (T2.setTop (mkF m 35 #[.val (.ref a1), .val (.ref a2), .val (.int (0 : Int32)), .val (.int (2 : Int32)), .val .null, .unset] [(.int (0 : Int32)), (.ref a2)]))
  refine Go.by (fun _ => XS.iloadN X2.here hx rfl (hb hby d6_35) rfl) ?_
  show Go p.tables e below _ (T2.setTop (mkF m 36 #[.val (.ref a1), .val (.ref a2), .val (.int (0 : Int32)), .val (.int (2 : Int32)), .val .null, .unset] [(.int (2 : Int32)), (.int (0 : Int32)), (.ref a2)]))
  obtain ⟨v3, T3, h3, X3, q3, xs3, st3⟩ := X2.callS hx hZ f0n (y := (⟨"java/lang/StringUTF16", "compress", "([CII)[B"⟩ : MethodName)) hown (tw hw 67 rfl) (tw hw 68 rfl) (tw hw 69 rfl) (tw hw 70 rfl) (by decide) (rmQ2 l Z a0 hw [] a2 k2 cf h0 n0 Z0 V_a2 hc) (g := (mkF m 36 #[.val (.ref a1), .val (.ref a2), .val (.int (0 : Int32)), .val (.int (2 : Int32)), .val .null, .unset] [(.int (2 : Int32)), (.int (0 : Int32)), (.ref a2)])) rfl (by rw [hml]; rfl) (argsL := [(.ref a2), (.int (0 : Int32)), (.int (2 : Int32))]) (rest := []) (lenOf pd2 rfl) rfl (hb hby d6_36) rfl (by decide) (Nat.le_of_ble_eq_true rfl) (k' := 1) (n' := 2) rfl rfl (by decide) (by decide)
  refine Go.by st3 ?_
  obtain ⟨d3, kc3, rfl, sd3, K3, V3⟩ := q3
  have g_d3 : n0 ≤ d3 := Nat.le_trans Z0 sd3
  have sz_d3 : h0.size ≤ d3 := Nat.le_trans K0.1 sd3
  have ne_a1_d3 : a1 ≠ d3 := Nat.ne_of_lt (Nat.lt_of_lt_of_le E_a1.lt sd3)
  have ne_a2_d3 : a2 ≠ d3 := Nat.ne_of_lt (Nat.lt_of_lt_of_le V_a2.lt sd3)
  have f4_31 := S_CS.ext (keep_ext K3)
  have f4_32 := E_a1.ext (keep_ext K3)
  have f4_33 := Fv.ext (keep_ext K3)
  have f4_34 := Fc.ext (keep_ext K3)
  have f4_35 := Avf.ext V_a2 (keep_ext K3)
  have f4_36 := O0.ext (keep_ext K3)
  have f4_37 := K0.ext (keep_ext K3)
  have Zs4 : n0 ≤ h3.size := Nat.le_trans Z0 (keep_ext K3).1
  show Go p.tables e below _ (T3.setTop (mkF m 39 #[.val (.ref a1), .val (.ref a2), .val (.int (0 : Int32)), .val (.int (2 : Int32)), .val .null, .unset] [(.ref d3)]))
  refine Go.by (fun _ => XS.astore X3.here hx rfl (hb hby d6_39) rfl rfl (l' := #[.val (.ref a1), .val (.ref a2), .val (.int (0 : Int32)), .val (.int (2 : Int32)), .val .null, .val (.ref d3)]) rfl) ?_
  show Go p.tables e below _ (T3.setTop (mkF m 41 #[.val (.ref a1), .val (.ref a2), .val (.int (0 : Int32)), .val (.int (2 : Int32)), .val .null, .val (.ref d3)] []))
  refine Go.by (fun _ => XS.aloadN X3.here hx rfl (hb hby d6_41) rfl rfl) ?_
  show Go p.tables e below _ (T3.setTop (mkF m 42 #[.val (.ref a1), .val (.ref a2), .val (.int (0 : Int32)), .val (.int (2 : Int32)), .val .null, .val (.ref d3)] [(.ref a1)]))
  refine Go.by (fun _ => XS.aload X3.here hx rfl (hb hby d6_42) rfl rfl) ?_
  show Go p.tables e below _ (T3.setTop (mkF m 44 #[.val (.ref a1), .val (.ref a2), .val (.int (0 : Int32)), .val (.int (2 : Int32)), .val .null, .val (.ref d3)] [(.ref d3), (.ref a1)]))
  refine Go.by (fun _ => XS.iloadN X3.here hx rfl (hb hby d6_44) rfl) ?_
  show Go p.tables e below _ (T3.setTop (mkF m 45 #[.val (.ref a1), .val (.ref a2), .val (.int (0 : Int32)), .val (.int (2 : Int32)), .val .null, .val (.ref d3)] [(.int (2 : Int32)), (.ref d3), (.ref a1)]))
  obtain ⟨v5, T5, h5, X5, q5, xs5, st5⟩ := X3.callS hx hZ f0n (y := (⟨"java/lang/StringUTF16", "coderFromArrayLen", "([BI)B"⟩ : MethodName)) hown (tw hw 74 rfl) (tw hw 75 rfl) (tw hw 69 rfl) (tw hw 76 rfl) (by decide) (rmU2 l Z a0 hw [] d3 kc3 (fun i => (.int ((fun j => (cf j).toInt8.toInt32) i))) h3 n0 Zs4 V3) (g := (mkF m 45 #[.val (.ref a1), .val (.ref a2), .val (.int (0 : Int32)), .val (.int (2 : Int32)), .val .null, .val (.ref d3)] [(.int (2 : Int32)), (.ref d3), (.ref a1)])) rfl (by rw [hml]; rfl) (argsL := [(.ref d3), (.int (2 : Int32))]) (rest := [(.ref a1)]) (lenOf pd3 rfl) rfl (hb hby d6_45) rfl (by decide) (Nat.le_of_ble_eq_true rfl) (k' := 1) (n' := 2) rfl rfl (by decide) (by decide)
  refine Go.by st5 ?_
  obtain ⟨rfl, rfl⟩ := q5
  show Go p.tables e below _ (T5.setTop (mkF m 48 #[.val (.ref a1), .val (.ref a2), .val (.int (0 : Int32)), .val (.int (2 : Int32)), .val .null, .val (.ref d3)] [(.int (0 : Int32)), (.ref a1)]))
  obtain ⟨T6, h6, X6, W6, st6⟩ := X5.putFN hx hZ hown (tw hw 40 rfl) Via.refl f4_34 f4_32 g_a1 (Or.inl (List.mem_cons_self ..)) (Or.inr ⟨(tw hw 36 rfl), rfl, hnm⟩) (tw hw 20 rfl) (ty := .byte) (v' := (.int (0 : Int32))) (by decide) rfl rfl (g := (mkF m 48 #[.val (.ref a1), .val (.ref a2), .val (.int (0 : Int32)), .val (.int (2 : Int32)), .val .null, .val (.ref d3)] [(.int (0 : Int32)), (.ref a1)])) rfl rfl (hb hby d6_48)
  have Fw6 := f4_34.same W6
  have f7_54 := f4_31.wr W6
  have f7_55 := f4_32.wr W6
  have f7_56 := f4_33.other W6 (Or.inr (slot_ne (Or.inr (tw hw 35 rfl)) (Or.inr (tw hw 36 rfl)) (by decide) (t := (.array .byte)) (t' := .byte) (by decide) (by decide)))
  have f7_57 := Avf.other f4_35 W6 ne21
  have f7_58 := f4_36.wr W6 g_a1
  have f7_59 := f4_37.wr W6 (Or.inl (List.mem_of_getElem? (i := 0) rfl))
  have f7_60 := Avf.other V3 W6 (Ne.symm ne_a1_d3)
  have Zs7 : n0 ≤ h6.size := by rw [W6.size]; exact Zs4
  refine Go.by st6 ?_
  show Go p.tables e below _ (T6.setTop (mkF m 51 #[.val (.ref a1), .val (.ref a2), .val (.int (0 : Int32)), .val (.int (2 : Int32)), .val .null, .val (.ref d3)] []))
  refine Go.by (fun _ => XS.aloadN X6.here hx rfl (hb hby d6_51) rfl rfl) ?_
  show Go p.tables e below _ (T6.setTop (mkF m 52 #[.val (.ref a1), .val (.ref a2), .val (.int (0 : Int32)), .val (.int (2 : Int32)), .val .null, .val (.ref d3)] [(.ref a1)]))
  refine Go.by (fun _ => XS.aload X6.here hx rfl (hb hby d6_52) rfl rfl) ?_
  show Go p.tables e below _ (T6.setTop (mkF m 54 #[.val (.ref a1), .val (.ref a2), .val (.int (0 : Int32)), .val (.int (2 : Int32)), .val .null, .val (.ref d3)] [(.ref d3), (.ref a1)]))
  obtain ⟨T8, h8, X8, W8, st8⟩ := X6.putF hx hZ hown (host := "") (Or.inl (tw hw 39 rfl)) Via.refl f7_56 f7_55 g_a1 (Or.inl (List.mem_cons_self ..)) (Or.inr ⟨(tw hw 35 rfl), rfl, hnm⟩) (tw hw 20 rfl) (ty := (.array .byte)) (by decide) rfl rfl (g := (mkF m 54 #[.val (.ref a1), .val (.ref a2), .val (.int (0 : Int32)), .val (.int (2 : Int32)), .val .null, .val (.ref d3)] [(.ref d3), (.ref a1)])) rfl rfl (hb hby d6_54)
  have Fw8 := f7_56.same W8
  have f9_70 := f7_54.wr W8
  have f9_71 := f7_55.wr W8
  have f9_72 := Fw6.other W8 (Or.inr (slot_ne (Or.inr (tw hw 36 rfl)) (Or.inr (tw hw 35 rfl)) (by decide) (t := .byte) (t' := (.array .byte)) (by decide) (by decide)))
  have f9_73 := Avf.other f7_57 W8 ne21
  have f9_74 := f7_58.wr W8 g_a1
  have f9_75 := f7_59.wr W8 (Or.inl (List.mem_of_getElem? (i := 0) rfl))
  have f9_76 := Avf.other f7_60 W8 (Ne.symm ne_a1_d3)
  have Zs9 : n0 ≤ h8.size := by rw [W8.size]; exact Zs7
  refine Go.by st8 ?_
  show Go p.tables e below _ (T8.setTop (mkF m 57 #[.val (.ref a1), .val (.ref a2), .val (.int (0 : Int32)), .val (.int (2 : Int32)), .val .null, .val (.ref d3)] []))
  exact Go.ret0 X8 hx hlk hret (hb hby d6_57) (by decide) (by decide) (fun _ z => z.elim) ⟨rfl, f9_75, f9_71, d3, kc3, Fw8, f9_72, f9_76⟩
theorem d5_0 : decode jdk_42_method_3_code 0 = .ok (.aload_n 0, 1) := by decide +kernel
theorem d5_1 : decode jdk_42_method_3_code 1 = .ok (.aload_n 1, 1) := by decide +kernel
theorem d5_2 : decode jdk_42_method_3_code 2 = .ok (.iconst 0, 1) := by decide +kernel
theorem d5_3 : decode jdk_42_method_3_code 3 = .ok (.aload_n 1, 1) := by decide +kernel
theorem d5_4 : decode jdk_42_method_3_code 4 = .ok (.arraylength, 1) := by decide +kernel
theorem d5_5 : decode jdk_42_method_3_code 5 = .ok (.aconst_null, 1) := by decide +kernel
theorem d5_6 : decode jdk_42_method_3_code 6 = .ok (.invokespecial 27, 3) := by decide +kernel
theorem pd4 : parseMethodDescriptor "([CIILjava/lang/Void;)V" = some ⟨[(.array .char), .int, .int, (.object "java/lang/Void")], none⟩ := by decide +kernel
theorem d5_9 : decode jdk_42_method_3_code 9 = .ok (.return_, 1) := by decide +kernel
abbrev RmW0 : Room := { frames := 2, cells := 4, slots := 8, locals := 29 }
set_option maxRecDepth 65536 in
set_option maxHeartbeats 40000000 in
theorem rmW0 (l : Launch) (Z : State) (a0 : Array Value) (hw : ∀ d ∈ tables_1, d.before a0 Z = true) (ws : List Jvm.Cond) (a1 : Addr) (a2 : Addr) (k2 : ClassId) (cf : Nat → Int32) (cs : Int32) (h0 : Heap) (n0 : Nat) (Z0 : n0 ≤ h0.size) (O0 : Old Z n0 h0) (S_CS0 : Sta Z Z.heap "java/lang/String" "COMPACT_STRINGS" "Z" (.int cs)) (hcs : ¬ cs = 0) (E_a1 : Exa Z h0 a1 "java/lang/String") (g_a1 : n0 ≤ a1) (Fv : Fld Z h0 a1 "java/lang/String" "value" "[B" .null) (Fc : Fld Z h0 a1 "java/lang/String" "coder" "B" (.int (0 : Int32))) (V_a2 : Avf Z h0 a2 k2 .char 0 (fun i => (.int (cf i)))) (hc : ∀ i, i < 0 → ¬ (255 : Int32) < cf i) :
    Met l Z EL [a1] (fun _ _ _ => False) n0 (⟨"java/lang/String", "<init>", "([C)V"⟩ : MethodName) jdk_42_method_3_code 2 none ws RmW0 #[(.ref a1), (.ref a2)] h0 (fun v h => v = none ∧ Keep h0 h [a1] ∧ Exa Z h a1 "java/lang/String" ∧ ∃ b kc, Fld Z h a1 "java/lang/String" "value" "[B" (.ref b) ∧ Fld Z h a1 "java/lang/String" "coder" "B" (.int (0 : Int32)) ∧ Avf Z h b kc .byte 0 (fun i => (.int ((fun j => (cf j).toInt8.toInt32) i)))) := by
  refine enter (Ls := #[.val (.ref a1), .val (.ref a2)]) (plainFor_of_name pn1) (fun m => by first | (simp [entryFrame, mkF, argsToLocals, Value.category]; done) | rfl) ?_
  intro p e s m below meth c T0 hx hby hml hown hnm hret hlk hZ X0
  have S_CS := S_CS0.ext O0.2
  have ne21 : a2 ≠ a1 := exa_nev E_a1 (tw hw 20 rfl) V_a2
  have K0 := Keep.refl h0 [a1]
  show Go p.tables e below _ (T0.setTop (mkF m 0 #[.val (.ref a1), .val (.ref a2)] []))
  refine Go.by (fun _ => XS.aloadN X0.here hx rfl (hb hby d5_0) rfl rfl) ?_
  show Go p.tables e below _ (T0.setTop (mkF m 1 #[.val (.ref a1), .val (.ref a2)] [(.ref a1)]))
  refine Go.by (fun _ => XS.aloadN X0.here hx rfl (hb hby d5_1) rfl rfl) ?_
  show Go p.tables e below _ (T0.setTop (mkF m 2 #[.val (.ref a1), .val (.ref a2)] [(.ref a2), (.ref a1)]))
  refine Go.by (fun _ => XS.iconst X0.here hx rfl (hb hby d5_2)) ?_
  show Go p.tables e below _ (T0.setTop (mkF m 3 #[.val (.ref a1), .val (.ref a2)] [(.int (0 : Int32)), (.ref a2), (.ref a1)]))
  refine Go.by (fun _ => XS.aloadN X0.here hx rfl (hb hby d5_3) rfl rfl) ?_
  show Go p.tables e below _ (T0.setTop (mkF m 4 #[.val (.ref a1), .val (.ref a2)] [(.ref a2), (.int (0 : Int32)), (.ref a2), (.ref a1)]))
  refine Go.by (X0.len hx hZ V_a2 (z := (0 : Int32)) rfl (g := (mkF m 4 #[.val (.ref a1), .val (.ref a2)] [(.ref a2), (.int (0 : Int32)), (.ref a2), (.ref a1)])) rfl rfl (hb hby d5_4)) ?_
  show Go p.tables e below _ (T0.setTop (mkF m 5 #[.val (.ref a1), .val (.ref a2)] [(.int (0 : Int32)), (.int (0 : Int32)), (.ref a2), (.ref a1)]))
  refine Go.by (fun _ => XS.aconstNull X0.here hx rfl (hb hby d5_5)) ?_
  show Go p.tables e below _ (T0.setTop (mkF m 6 #[.val (.ref a1), .val (.ref a2)] [.null, (.int (0 : Int32)), (.int (0 : Int32)), (.ref a2), (.ref a1)]))
  obtain ⟨v1, T1, h1, X1, q1, xs1, st1⟩ := X0.callI hx hZ (f0s (List.mem_cons_self ..) f0n) (y := (⟨"java/lang/String", "<init>", "([CIILjava/lang/Void;)V"⟩ : MethodName)) rfl hown (tw hw 26 rfl) (tw hw 27 rfl) (tw hw 21 rfl) (tw hw 29 rfl) (by decide) (rmV0 l Z a0 hw [] a1 a2 k2 cf cs h0 n0 Z0 O0 S_CS0 hcs E_a1 g_a1 Fv Fc V_a2 hc) (g := (mkF m 6 #[.val (.ref a1), .val (.ref a2)] [.null, (.int (0 : Int32)), (.int (0 : Int32)), (.ref a2), (.ref a1)])) rfl (by rw [hml]; rfl) (argsL := [(.ref a2), (.int (0 : Int32)), (.int (0 : Int32)), .null]) (rest := []) (lenOf pd4 rfl) rfl (hb hby d5_6) rfl (by decide) (Nat.le_of_ble_eq_true rfl) (k' := 4) (n' := 8) rfl rfl (by decide) (by decide)
  refine Go.by st1 ?_
  obtain ⟨rfl, K1, Ex1, d1, kc1, Fv1, Fc1, V1⟩ := q1
  have f2_19 := Sta.keepN S_CS K1 (allS E_a1.plain all0)
  have f2_20 := E_a1.keep K1
  have f2_21 := Avf.keep V_a2 K1 (ninS ne21 nin0)
  have f2_22 := O0.keep K1 (allS g_a1 all0)
  have f2_23 := K0.trans K1 (allS (Or.inl (List.mem_of_getElem? (i := 0) rfl)) all0)
  have Zs2 : n0 ≤ h1.size := Nat.le_trans Z0 K1.1
  have ne_d1_a1 : d1 ≠ a1 := exa_nev Ex1 (tw hw 20 rfl) V1
  show Go p.tables e below _ (T1.setTop (mkF m 9 #[.val (.ref a1), .val (.ref a2)] []))
  exact Go.ret0 X1 hx hlk hret (hb hby d5_9) (by decide) (by decide) (fun _ z => z.elim) ⟨rfl, f2_23, Ex1, d1, kc1, Fv1, Fc1, (Avf.cong V1 (fun i hi => absurd hi (Nat.not_lt_zero _)))⟩
abbrev RmW1 : Room := { frames := 3, cells := 1, slots := 1, locals := 52 }
set_option maxRecDepth 65536 in
set_option maxHeartbeats 40000000 in
theorem rmW1 (l : Launch) (Z : State) (a0 : Array Value) (hw : ∀ d ∈ tables_1, d.before a0 Z = true) (ws : List Jvm.Cond) (a1 : Addr) (a2 : Addr) (k2 : ClassId) (cf : Nat → Int32) (cs : Int32) (h0 : Heap) (n0 : Nat) (Z0 : n0 ≤ h0.size) (O0 : Old Z n0 h0) (S_CS0 : Sta Z Z.heap "java/lang/String" "COMPACT_STRINGS" "Z" (.int cs)) (hcs : ¬ cs = 0) (E_a1 : Exa Z h0 a1 "java/lang/String") (g_a1 : n0 ≤ a1) (Fv : Fld Z h0 a1 "java/lang/String" "value" "[B" .null) (Fc : Fld Z h0 a1 "java/lang/String" "coder" "B" (.int (0 : Int32))) (V_a2 : Avf Z h0 a2 k2 .char 1 (fun i => (.int (cf i)))) (hc : ∀ i, i < 1 → ¬ (255 : Int32) < cf i) :
    Met l Z EL [a1] (fun _ _ _ => False) n0 (⟨"java/lang/String", "<init>", "([C)V"⟩ : MethodName) jdk_42_method_3_code 2 none ws RmW1 #[(.ref a1), (.ref a2)] h0 (fun v h => v = none ∧ Keep h0 h [a1] ∧ Exa Z h a1 "java/lang/String" ∧ ∃ b kc, Fld Z h a1 "java/lang/String" "value" "[B" (.ref b) ∧ Fld Z h a1 "java/lang/String" "coder" "B" (.int (0 : Int32)) ∧ Avf Z h b kc .byte 1 (fun i => (.int ((fun j => (cf j).toInt8.toInt32) i)))) := by
  refine enter (Ls := #[.val (.ref a1), .val (.ref a2)]) (plainFor_of_name pn1) (fun m => by first | (simp [entryFrame, mkF, argsToLocals, Value.category]; done) | rfl) ?_
  intro p e s m below meth c T0 hx hby hml hown hnm hret hlk hZ X0
  have S_CS := S_CS0.ext O0.2
  have ne21 : a2 ≠ a1 := exa_nev E_a1 (tw hw 20 rfl) V_a2
  have K0 := Keep.refl h0 [a1]
  show Go p.tables e below _ (T0.setTop (mkF m 0 #[.val (.ref a1), .val (.ref a2)] []))
  refine Go.by (fun _ => XS.aloadN X0.here hx rfl (hb hby d5_0) rfl rfl) ?_
  show Go p.tables e below _ (T0.setTop (mkF m 1 #[.val (.ref a1), .val (.ref a2)] [(.ref a1)]))
  refine Go.by (fun _ => XS.aloadN X0.here hx rfl (hb hby d5_1) rfl rfl) ?_
  show Go p.tables e below _ (T0.setTop (mkF m 2 #[.val (.ref a1), .val (.ref a2)] [(.ref a2), (.ref a1)]))
  refine Go.by (fun _ => XS.iconst X0.here hx rfl (hb hby d5_2)) ?_
  show Go p.tables e below _ (T0.setTop (mkF m 3 #[.val (.ref a1), .val (.ref a2)] [(.int (0 : Int32)), (.ref a2), (.ref a1)]))
  refine Go.by (fun _ => XS.aloadN X0.here hx rfl (hb hby d5_3) rfl rfl) ?_
  show Go p.tables e below _ (T0.setTop (mkF m 4 #[.val (.ref a1), .val (.ref a2)] [(.ref a2), (.int (0 : Int32)), (.ref a2), (.ref a1)]))
  refine Go.by (X0.len hx hZ V_a2 (z := (1 : Int32)) rfl (g := (mkF m 4 #[.val (.ref a1), .val (.ref a2)] [(.ref a2), (.int (0 : Int32)), (.ref a2), (.ref a1)])) rfl rfl (hb hby d5_4)) ?_
  show Go p.tables e below _ (T0.setTop (mkF m 5 #[.val (.ref a1), .val (.ref a2)] [(.int (1 : Int32)), (.int (0 : Int32)), (.ref a2), (.ref a1)]))
  refine Go.by (fun _ => XS.aconstNull X0.here hx rfl (hb hby d5_5)) ?_
  show Go p.tables e below _ (T0.setTop (mkF m 6 #[.val (.ref a1), .val (.ref a2)] [.null, (.int (1 : Int32)), (.int (0 : Int32)), (.ref a2), (.ref a1)]))
  obtain ⟨v1, T1, h1, X1, q1, xs1, st1⟩ := X0.callI hx hZ (f0s (List.mem_cons_self ..) f0n) (y := (⟨"java/lang/String", "<init>", "([CIILjava/lang/Void;)V"⟩ : MethodName)) rfl hown (tw hw 26 rfl) (tw hw 27 rfl) (tw hw 21 rfl) (tw hw 29 rfl) (by decide) (rmV1 l Z a0 hw [] a1 a2 k2 cf cs h0 n0 Z0 O0 S_CS0 hcs E_a1 g_a1 Fv Fc V_a2 hc) (g := (mkF m 6 #[.val (.ref a1), .val (.ref a2)] [.null, (.int (1 : Int32)), (.int (0 : Int32)), (.ref a2), (.ref a1)])) rfl (by rw [hml]; rfl) (argsL := [(.ref a2), (.int (0 : Int32)), (.int (1 : Int32)), .null]) (rest := []) (lenOf pd4 rfl) rfl (hb hby d5_6) rfl (by decide) (Nat.le_of_ble_eq_true rfl) (k' := 1) (n' := 1) rfl rfl (by decide) (by decide)
  refine Go.by st1 ?_
  obtain ⟨rfl, K1, Ex1, d1, kc1, Fv1, Fc1, V1⟩ := q1
  have f2_19 := Sta.keepN S_CS K1 (allS E_a1.plain all0)
  have f2_20 := E_a1.keep K1
  have f2_21 := Avf.keep V_a2 K1 (ninS ne21 nin0)
  have f2_22 := O0.keep K1 (allS g_a1 all0)
  have f2_23 := K0.trans K1 (allS (Or.inl (List.mem_of_getElem? (i := 0) rfl)) all0)
  have Zs2 : n0 ≤ h1.size := Nat.le_trans Z0 K1.1
  have ne_d1_a1 : d1 ≠ a1 := exa_nev Ex1 (tw hw 20 rfl) V1
  show Go p.tables e below _ (T1.setTop (mkF m 9 #[.val (.ref a1), .val (.ref a2)] []))
  exact Go.ret0 X1 hx hlk hret (hb hby d5_9) (by decide) (by decide) (fun _ z => z.elim) ⟨rfl, f2_23, Ex1, d1, kc1, Fv1, Fc1, V1⟩
abbrev RmW2 : Room := { frames := 3, cells := 1, slots := 2, locals := 52 }
set_option maxRecDepth 65536 in
set_option maxHeartbeats 40000000 in
theorem rmW2 (l : Launch) (Z : State) (a0 : Array Value) (hw : ∀ d ∈ tables_1, d.before a0 Z = true) (ws : List Jvm.Cond) (a1 : Addr) (a2 : Addr) (k2 : ClassId) (cf : Nat → Int32) (cs : Int32) (h0 : Heap) (n0 : Nat) (Z0 : n0 ≤ h0.size) (O0 : Old Z n0 h0) (S_CS0 : Sta Z Z.heap "java/lang/String" "COMPACT_STRINGS" "Z" (.int cs)) (hcs : ¬ cs = 0) (E_a1 : Exa Z h0 a1 "java/lang/String") (g_a1 : n0 ≤ a1) (Fv : Fld Z h0 a1 "java/lang/String" "value" "[B" .null) (Fc : Fld Z h0 a1 "java/lang/String" "coder" "B" (.int (0 : Int32))) (V_a2 : Avf Z h0 a2 k2 .char 2 (fun i => (.int (cf i)))) (hc : ∀ i, i < 2 → ¬ (255 : Int32) < cf i) :
    Met l Z EL [a1] (fun _ _ _ => False) n0 (⟨"java/lang/String", "<init>", "([C)V"⟩ : MethodName) jdk_42_method_3_code 2 none ws RmW2 #[(.ref a1), (.ref a2)] h0 (fun v h => v = none ∧ Keep h0 h [a1] ∧ Exa Z h a1 "java/lang/String" ∧ ∃ b kc, Fld Z h a1 "java/lang/String" "value" "[B" (.ref b) ∧ Fld Z h a1 "java/lang/String" "coder" "B" (.int (0 : Int32)) ∧ Avf Z h b kc .byte 2 (fun i => (.int ((fun j => (cf j).toInt8.toInt32) i)))) := by
  refine enter (Ls := #[.val (.ref a1), .val (.ref a2)]) (plainFor_of_name pn1) (fun m => by first | (simp [entryFrame, mkF, argsToLocals, Value.category]; done) | rfl) ?_
  intro p e s m below meth c T0 hx hby hml hown hnm hret hlk hZ X0
  have S_CS := S_CS0.ext O0.2
  have ne21 : a2 ≠ a1 := exa_nev E_a1 (tw hw 20 rfl) V_a2
  have K0 := Keep.refl h0 [a1]
  show Go p.tables e below _ (T0.setTop (mkF m 0 #[.val (.ref a1), .val (.ref a2)] []))
  refine Go.by (fun _ => XS.aloadN X0.here hx rfl (hb hby d5_0) rfl rfl) ?_
  show Go p.tables e below _ (T0.setTop (mkF m 1 #[.val (.ref a1), .val (.ref a2)] [(.ref a1)]))
  refine Go.by (fun _ => XS.aloadN X0.here hx rfl (hb hby d5_1) rfl rfl) ?_
  show Go p.tables e below _ (T0.setTop (mkF m 2 #[.val (.ref a1), .val (.ref a2)] [(.ref a2), (.ref a1)]))
  refine Go.by (fun _ => XS.iconst X0.here hx rfl (hb hby d5_2)) ?_
  show Go p.tables e below _ (T0.setTop (mkF m 3 #[.val (.ref a1), .val (.ref a2)] [(.int (0 : Int32)), (.ref a2), (.ref a1)]))
  refine Go.by (fun _ => XS.aloadN X0.here hx rfl (hb hby d5_3) rfl rfl) ?_
  show Go p.tables e below _ (T0.setTop (mkF m 4 #[.val (.ref a1), .val (.ref a2)] [(.ref a2), (.int (0 : Int32)), (.ref a2), (.ref a1)]))
  refine Go.by (X0.len hx hZ V_a2 (z := (2 : Int32)) rfl (g := (mkF m 4 #[.val (.ref a1), .val (.ref a2)] [(.ref a2), (.int (0 : Int32)), (.ref a2), (.ref a1)])) rfl rfl (hb hby d5_4)) ?_
  show Go p.tables e below _ (T0.setTop (mkF m 5 #[.val (.ref a1), .val (.ref a2)] [(.int (2 : Int32)), (.int (0 : Int32)), (.ref a2), (.ref a1)]))
  refine Go.by (fun _ => XS.aconstNull X0.here hx rfl (hb hby d5_5)) ?_
  show Go p.tables e below _ (T0.setTop (mkF m 6 #[.val (.ref a1), .val (.ref a2)] [.null, (.int (2 : Int32)), (.int (0 : Int32)), (.ref a2), (.ref a1)]))
  obtain ⟨v1, T1, h1, X1, q1, xs1, st1⟩ := X0.callI hx hZ (f0s (List.mem_cons_self ..) f0n) (y := (⟨"java/lang/String", "<init>", "([CIILjava/lang/Void;)V"⟩ : MethodName)) rfl hown (tw hw 26 rfl) (tw hw 27 rfl) (tw hw 21 rfl) (tw hw 29 rfl) (by decide) (rmV2 l Z a0 hw [] a1 a2 k2 cf cs h0 n0 Z0 O0 S_CS0 hcs E_a1 g_a1 Fv Fc V_a2 hc) (g := (mkF m 6 #[.val (.ref a1), .val (.ref a2)] [.null, (.int (2 : Int32)), (.int (0 : Int32)), (.ref a2), (.ref a1)])) rfl (by rw [hml]; rfl) (argsL := [(.ref a2), (.int (0 : Int32)), (.int (2 : Int32)), .null]) (rest := []) (lenOf pd4 rfl) rfl (hb hby d5_6) rfl (by decide) (Nat.le_of_ble_eq_true rfl) (k' := 1) (n' := 2) rfl rfl (by decide) (by decide)
  refine Go.by st1 ?_
  obtain ⟨rfl, K1, Ex1, d1, kc1, Fv1, Fc1, V1⟩ := q1
  have f2_19 := Sta.keepN S_CS K1 (allS E_a1.plain all0)
  have f2_20 := E_a1.keep K1
  have f2_21 := Avf.keep V_a2 K1 (ninS ne21 nin0)
  have f2_22 := O0.keep K1 (allS g_a1 all0)
  have f2_23 := K0.trans K1 (allS (Or.inl (List.mem_of_getElem? (i := 0) rfl)) all0)
  have Zs2 : n0 ≤ h1.size := Nat.le_trans Z0 K1.1
  have ne_d1_a1 : d1 ≠ a1 := exa_nev Ex1 (tw hw 20 rfl) V1
  show Go p.tables e below _ (T1.setTop (mkF m 9 #[.val (.ref a1), .val (.ref a2)] []))
  exact Go.ret0 X1 hx hlk hret (hb hby d5_9) (by decide) (by decide) (fun _ z => z.elim) ⟨rfl, f2_23, Ex1, d1, kc1, Fv1, Fc1, V1⟩
theorem d18_0 : decode jdk_43_method_3_code 0 = .ok (.iload_n 0, 1) := by decide +kernel
theorem d18_1 : decode jdk_43_method_3_code 1 = .ok (.sipush 255, 3) := by decide +kernel
theorem d18_4 : decode jdk_43_method_3_code 4 = .ok (.if_icmp .gt 7, 3) := by decide +kernel
theorem d18_7 : decode jdk_43_method_3_code 7 = .ok (.iconst 1, 1) := by decide +kernel
theorem d18_8 : decode jdk_43_method_3_code 8 = .ok (.goto 4, 3) := by decide +kernel
theorem d18_12 : decode jdk_43_method_3_code 12 = .ok (.ireturn, 1) := by decide +kernel
abbrev Rm18 : Room := { frames := 0, cells := 0, slots := 0, locals := 0 }
set_option maxRecDepth 65536 in
set_option maxHeartbeats 40000000 in
theorem rm18 (l : Launch) (Z : State) (a0 : Array Value) (hw : ∀ d ∈ tables_1, d.before a0 Z = true) (ws : List Jvm.Cond) (p1 : Int32) (h0 : Heap) (n0 : Nat) (Z0 : n0 ≤ h0.size) (hp : ¬ (255 : Int32) < p1) :
    Met l Z EL [] (fun _ _ _ => False) n0 (⟨"java/lang/StringLatin1", "canEncode", "(C)Z"⟩ : MethodName) jdk_43_method_3_code 1 (some .boolean) ws Rm18 #[(.int p1)] h0 (fun v h => v = some (.int 1) ∧ h0 = h) := by
  refine enter (Ls := #[.val (.int p1)]) (plainFor_of_name pn0) (fun m => by first | (simp [entryFrame, mkF, argsToLocals, Value.category]; done) | rfl) ?_
  intro p e s m below meth c T0 hx hby hml hown hnm hret hlk hZ X0
  show Go p.tables e below _ (T0.setTop (mkF m 0 #[.val (.int p1)] []))
  refine Go.by (fun _ => XS.iloadN X0.here hx rfl (hb hby d18_0) rfl) ?_
  show Go p.tables e below _ (T0.setTop (mkF m 1 #[.val (.int p1)] [(.int p1)]))
  refine Go.by (fun _ => XS.sipush X0.here hx rfl (hb hby d18_1)) ?_
  show Go p.tables e below _ (T0.setTop (mkF m 4 #[.val (.int p1)] [(.int (255 : Int32)), (.int p1)]))
  refine Go.by (fun _ => XS.icmpNo X0.here hx rfl (hb hby d18_4) rfl (flt hp).2.2.1) ?_
  show Go p.tables e below _ (T0.setTop (mkF m 7 #[.val (.int p1)] []))
  refine Go.by (fun _ => XS.iconst X0.here hx rfl (hb hby d18_7)) ?_
  show Go p.tables e below _ (T0.setTop (mkF m 8 #[.val (.int p1)] [(.int (1 : Int32))]))
  refine Go.by (fun _ => XS.goto X0.here hx rfl (pc0 := 8) (pc' := 12) rfl (hb hby d18_8) (by decide) (by decide)) ?_
  show Go p.tables e below _ (T0.setTop (mkF m 12 #[.val (.int p1)] [(.int (1 : Int32))]))
  exact Go.retN X0 hx hlk (z' := (1 : Int32)) hret (by simp) (hb hby d18_12) rfl (by decide) (by decide) (fun _ z => z.elim) ⟨rfl, rfl⟩
theorem d19_0 : decode jdk_43_method_46_code 0 = .ok (.iconst 1, 1) := by decide +kernel
theorem d19_1 : decode jdk_43_method_46_code 1 = .ok (.newarray .byte, 2) := by decide +kernel
theorem d19_3 : decode jdk_43_method_46_code 3 = .ok (.dup, 1) := by decide +kernel
theorem d19_4 : decode jdk_43_method_46_code 4 = .ok (.iconst 0, 1) := by decide +kernel
theorem d19_5 : decode jdk_43_method_46_code 5 = .ok (.iload_n 0, 1) := by decide +kernel
theorem d19_6 : decode jdk_43_method_46_code 6 = .ok (.i2b, 1) := by decide +kernel
theorem d19_7 : decode jdk_43_method_46_code 7 = .ok (.bastore, 1) := by decide +kernel
theorem d19_8 : decode jdk_43_method_46_code 8 = .ok (.areturn, 1) := by decide +kernel
abbrev Rm19 : Room := { frames := 0, cells := 1, slots := 1, locals := 0 }
set_option maxRecDepth 65536 in
set_option maxHeartbeats 40000000 in
theorem rm19 (l : Launch) (Z : State) (a0 : Array Value) (hw : ∀ d ∈ tables_1, d.before a0 Z = true) (ws : List Jvm.Cond) (p1 : Int32) (h0 : Heap) (n0 : Nat) (Z0 : n0 ≤ h0.size) :
    Met l Z EL [] (fun _ _ _ => False) n0 (⟨"java/lang/StringLatin1", "toBytes", "(C)[B"⟩ : MethodName) jdk_43_method_46_code 1 (some (.array .byte)) ws Rm19 #[(.int p1)] h0 (fun v h => ∃ b kc, v = some (.ref b) ∧ h0.size ≤ b ∧ Keep h0 h [] ∧ Avf Z h b kc .byte 1 (fun _ => (.int (p1.toInt8.toInt32)))) := by
  refine enter (Ls := #[.val (.int p1)]) (plainFor_of_name pn0) (fun m => by first | (simp [entryFrame, mkF, argsToLocals, Value.category]; done) | rfl) ?_
  intro p e s m below meth c T0 hx hby hml hown hnm hret hlk hZ X0
  have K0 := Keep.refl h0 []
  show Go p.tables e below _ (T0.setTop (mkF m 0 #[.val (.int p1)] []))
  refine Go.by (fun _ => XS.iconst X0.here hx rfl (hb hby d19_0)) ?_
  show Go p.tables e below _ (T0.setTop (mkF m 1 #[.val (.int p1)] [(.int (1 : Int32))]))
  obtain ⟨T1, h1, kc1, b1, X1, g1, E1, A1, V1, st1⟩ := X0.newPF hx hZ (tw hw 34 rfl) (g := (mkF m 1 #[.val (.int p1)] [(.int (1 : Int32))])) rfl (hb hby d19_1) rfl (by decide) (sz := 1) (cap := 1) (k' := 1) (n' := 1) rfl (Nat.le_refl _) (by decide) rfl rfl (by decide) (by decide) (ad := "[B") (by decide)
  have g_b1 : n0 ≤ b1 := by rw [g1]; exact Z0
  have sz_b1 : h0.size ≤ b1 := by rw [g1]; exact K0.1
  have f2_7 := K0.ext E1
  have Zs2 : n0 ≤ h1.size := Nat.le_trans Z0 E1.1
  refine Go.by st1 ?_
  show Go p.tables e below _ (T1.setTop (mkF m 3 #[.val (.int p1)] [(.ref b1)]))
  refine Go.by (fun _ => XS.dup X1.here hx rfl (hb hby d19_3) rfl rfl) ?_
  show Go p.tables e below _ (T1.setTop (mkF m 4 #[.val (.int p1)] [(.ref b1), (.ref b1)]))
  refine Go.by (fun _ => XS.iconst X1.here hx rfl (hb hby d19_4)) ?_
  show Go p.tables e below _ (T1.setTop (mkF m 5 #[.val (.int p1)] [(.int (0 : Int32)), (.ref b1), (.ref b1)]))
  refine Go.by (fun _ => XS.iloadN X1.here hx rfl (hb hby d19_5) rfl) ?_
  show Go p.tables e below _ (T1.setTop (mkF m 6 #[.val (.int p1)] [(.int p1), (.int (0 : Int32)), (.ref b1), (.ref b1)]))
  refine Go.by (fun _ => XS.i2b X1.here hx rfl (hb hby d19_6) rfl) ?_
  show Go p.tables e below _ (T1.setTop (mkF m 7 #[.val (.int p1)] [(.int (p1.toInt8.toInt32)), (.int (0 : Int32)), (.ref b1), (.ref b1)]))
  obtain ⟨T3, h3, X3, W3, V3, st3⟩ := X1.stB hx hZ V1 g_b1 (List.mem_cons_self ..) (by decide) (i := 0) rfl (by decide) (g := (mkF m 7 #[.val (.int p1)] [(.int (p1.toInt8.toInt32)), (.int (0 : Int32)), (.ref b1), (.ref b1)])) rfl rfl (hb hby d19_7)
  have f4_20 := f2_7.wr W3 (Or.inr sz_b1)
  have f4_21 := A1.wr W3
  have Zs4 : n0 ≤ h3.size := by rw [W3.size]; exact Zs2
  refine Go.by st3 ?_
  show Go p.tables e below _ (T3.setTop (mkF m 8 #[.val (.int p1)] [(.ref b1)]))
  refine Go.retA X3 hx hlk hret rfl rfl (hb hby d19_8) (by decide) (by decide) (fun _ z => z.elim) ?_
  refine ⟨b1, kc1, rfl, sz_b1, f4_20, Avf.cong V3 (fun i hi => ?_)⟩
  match i, hi with
  | 0, _ => simp
theorem d20_0 : decode jdk_42_method_151_code 0 = .ok (.aload_n 0, 1) := by decide +kernel
theorem d20_1 : decode jdk_42_method_151_code 1 = .ok (.invokespecial 1, 3) := by decide +kernel
theorem d20_4 : decode jdk_42_method_151_code 4 = .ok (.aload_n 0, 1) := by decide +kernel
theorem d20_5 : decode jdk_42_method_151_code 5 = .ok (.aload_n 1, 1) := by decide +kernel
theorem d20_6 : decode jdk_42_method_151_code 6 = .ok (.putfield 9, 3) := by decide +kernel
theorem d20_9 : decode jdk_42_method_151_code 9 = .ok (.aload_n 0, 1) := by decide +kernel
theorem d20_10 : decode jdk_42_method_151_code 10 = .ok (.iload_n 2, 1) := by decide +kernel
theorem d20_11 : decode jdk_42_method_151_code 11 = .ok (.putfield 15, 3) := by decide +kernel
theorem d20_14 : decode jdk_42_method_151_code 14 = .ok (.return_, 1) := by decide +kernel
abbrev Rm20 : Room := { frames := 1, cells := 0, slots := 0, locals := 12 }
set_option maxRecDepth 65536 in
set_option maxHeartbeats 40000000 in
theorem rm20 (l : Launch) (Z : State) (a0 : Array Value) (hw : ∀ d ∈ tables_1, d.before a0 Z = true) (ws : List Jvm.Cond) (a1 : Addr) (a2 : Addr) (h0 : Heap) (n0 : Nat) (Z0 : n0 ≤ h0.size) (E_a1 : Exa Z h0 a1 "java/lang/String") (g_a1 : n0 ≤ a1) (Fv : Fld Z h0 a1 "java/lang/String" "value" "[B" .null) (Fc : Fld Z h0 a1 "java/lang/String" "coder" "B" (.int (0 : Int32))) :
    Met l Z EL [a1] (fun _ _ _ => False) n0 (⟨"java/lang/String", "<init>", "([BB)V"⟩ : MethodName) jdk_42_method_151_code 3 none ws Rm20 #[(.ref a1), (.ref a2), (.int (0 : Int32))] h0 (fun v h => v = none ∧ Keep h0 h [a1] ∧ Exa Z h a1 "java/lang/String" ∧ Fld Z h a1 "java/lang/String" "value" "[B" (.ref a2) ∧ Fld Z h a1 "java/lang/String" "coder" "B" (.int (0 : Int32))) := by
  refine enter (Ls := #[.val (.ref a1), .val (.ref a2), .val (.int (0 : Int32))]) (plainFor_of_name pn1) (fun m => by first | (simp [entryFrame, mkF, argsToLocals, Value.category]; done) | rfl) ?_
  intro p e s m below meth c T0 hx hby hml hown hnm hret hlk hZ X0
  have K0 := Keep.refl h0 [a1]
  show Go p.tables e below _ (T0.setTop (mkF m 0 #[.val (.ref a1), .val (.ref a2), .val (.int (0 : Int32))] []))
  refine Go.by (fun _ => XS.aloadN X0.here hx rfl (hb hby d20_0) rfl rfl) ?_
  show Go p.tables e below _ (T0.setTop (mkF m 1 #[.val (.ref a1), .val (.ref a2), .val (.int (0 : Int32))] [(.ref a1)]))
  obtain ⟨T1, X1, st1⟩ := X0.initO hx hZ hown (tw hw 30 rfl) (tw hw 31 rfl) (tw hw 32 rfl) (g := (mkF m 1 #[.val (.ref a1), .val (.ref a2), .val (.int (0 : Int32))] [(.ref a1)])) rfl (by rw [hml]; rfl) rfl (hb hby d20_1) (by decide) (Nat.le_of_ble_eq_true rfl)
  refine Go.by st1 ?_
  show Go p.tables e below _ (T1.setTop (mkF m 4 #[.val (.ref a1), .val (.ref a2), .val (.int (0 : Int32))] []))
  refine Go.by (fun _ => XS.aloadN X1.here hx rfl (hb hby d20_4) rfl rfl) ?_
  show Go p.tables e below _ (T1.setTop (mkF m 5 #[.val (.ref a1), .val (.ref a2), .val (.int (0 : Int32))] [(.ref a1)]))
  refine Go.by (fun _ => XS.aloadN X1.here hx rfl (hb hby d20_5) rfl rfl) ?_
  show Go p.tables e below _ (T1.setTop (mkF m 6 #[.val (.ref a1), .val (.ref a2), .val (.int (0 : Int32))] [(.ref a2), (.ref a1)]))
  obtain ⟨T2, h2, X2, W2, st2⟩ := X1.putF hx hZ hown (host := "") (Or.inl (tw hw 39 rfl)) Via.refl Fv E_a1 g_a1 (Or.inl (List.mem_cons_self ..)) (Or.inr ⟨(tw hw 35 rfl), rfl, hnm⟩) (tw hw 20 rfl) (ty := (.array .byte)) (by decide) rfl rfl (g := (mkF m 6 #[.val (.ref a1), .val (.ref a2), .val (.int (0 : Int32))] [(.ref a2), (.ref a1)])) rfl rfl (hb hby d20_6)
  have Fw2 := Fv.same W2
  have f3_13 := E_a1.wr W2
  have f3_14 := Fc.other W2 (Or.inr (slot_ne (Or.inr (tw hw 36 rfl)) (Or.inr (tw hw 35 rfl)) (by decide) (t := .byte) (t' := (.array .byte)) (by decide) (by decide)))
  have f3_15 := K0.wr W2 (Or.inl (List.mem_of_getElem? (i := 0) rfl))
  have Zs3 : n0 ≤ h2.size := by rw [W2.size]; exact Z0
  refine Go.by st2 ?_
  show Go p.tables e below _ (T2.setTop (mkF m 9 #[.val (.ref a1), .val (.ref a2), .val (.int (0 : Int32))] []))
  refine Go.by (fun _ => XS.aloadN X2.here hx rfl (hb hby d20_9) rfl rfl) ?_
  show Go p.tables e below _ (T2.setTop (mkF m 10 #[.val (.ref a1), .val (.ref a2), .val (.int (0 : Int32))] [(.ref a1)]))
  refine Go.by (fun _ => XS.iloadN X2.here hx rfl (hb hby d20_10) rfl) ?_
  show Go p.tables e below _ (T2.setTop (mkF m 11 #[.val (.ref a1), .val (.ref a2), .val (.int (0 : Int32))] [(.int (0 : Int32)), (.ref a1)]))
  obtain ⟨T4, h4, X4, W4, st4⟩ := X2.putFN hx hZ hown (tw hw 40 rfl) Via.refl f3_14 f3_13 g_a1 (Or.inl (List.mem_cons_self ..)) (Or.inr ⟨(tw hw 36 rfl), rfl, hnm⟩) (tw hw 20 rfl) (ty := .byte) (v' := (.int (0 : Int32))) (by decide) rfl rfl (g := (mkF m 11 #[.val (.ref a1), .val (.ref a2), .val (.int (0 : Int32))] [(.int (0 : Int32)), (.ref a1)])) rfl rfl (hb hby d20_11)
  have Fw4 := f3_14.same W4
  have f5_25 := f3_13.wr W4
  have f5_26 := Fw2.other W4 (Or.inr (slot_ne (Or.inr (tw hw 35 rfl)) (Or.inr (tw hw 36 rfl)) (by decide) (t := (.array .byte)) (t' := .byte) (by decide) (by decide)))
  have f5_27 := f3_15.wr W4 (Or.inl (List.mem_of_getElem? (i := 0) rfl))
  have Zs5 : n0 ≤ h4.size := by rw [W4.size]; exact Zs3
  refine Go.by st4 ?_
  show Go p.tables e below _ (T4.setTop (mkF m 14 #[.val (.ref a1), .val (.ref a2), .val (.int (0 : Int32))] []))
  exact Go.ret0 X4 hx hlk hret (hb hby d20_14) (by decide) (by decide) (fun _ z => z.elim) ⟨rfl, f5_27, f5_25, f5_26, Fw4⟩
theorem d17_0 : decode jdk_42_method_139_code 0 = .ok (.getstatic 38, 3) := by decide +kernel
theorem d17_3 : decode jdk_42_method_139_code 3 = .ok (.ifCond .eq 23, 3) := by decide +kernel
theorem d17_6 : decode jdk_42_method_139_code 6 = .ok (.iload_n 0, 1) := by decide +kernel
theorem d17_7 : decode jdk_42_method_139_code 7 = .ok (.invokestatic 1015, 3) := by decide +kernel
theorem pd5 : parseMethodDescriptor "(C)Z" = some ⟨[.char], some .boolean⟩ := by decide +kernel
theorem d17_10 : decode jdk_42_method_139_code 10 = .ok (.ifCond .eq 16, 3) := by decide +kernel
theorem d17_13 : decode jdk_42_method_139_code 13 = .ok (.new 10, 3) := by decide +kernel
theorem d17_16 : decode jdk_42_method_139_code 16 = .ok (.dup, 1) := by decide +kernel
theorem d17_17 : decode jdk_42_method_139_code 17 = .ok (.iload_n 0, 1) := by decide +kernel
theorem d17_18 : decode jdk_42_method_139_code 18 = .ok (.invokestatic 1018, 3) := by decide +kernel
theorem pd6 : parseMethodDescriptor "(C)[B" = some ⟨[.char], some (.array .byte)⟩ := by decide +kernel
theorem d17_21 : decode jdk_42_method_139_code 21 = .ok (.iconst 0, 1) := by decide +kernel
theorem d17_22 : decode jdk_42_method_139_code 22 = .ok (.invokespecial 209, 3) := by decide +kernel
theorem pd7 : parseMethodDescriptor "([BB)V" = some ⟨[(.array .byte), .byte], none⟩ := by decide +kernel
theorem d17_25 : decode jdk_42_method_139_code 25 = .ok (.areturn, 1) := by decide +kernel
abbrev Rm17 : Room := { frames := 2, cells := 2, slots := 5, locals := 27 }
set_option maxRecDepth 65536 in
set_option maxHeartbeats 40000000 in
theorem rm17 (l : Launch) (Z : State) (a0 : Array Value) (hw : ∀ d ∈ tables_1, d.before a0 Z = true) (ws : List Jvm.Cond) (p1 : Int32) (cs : Int32) (h0 : Heap) (n0 : Nat) (Z0 : n0 ≤ h0.size) (O0 : Old Z n0 h0) (S_CS0 : Sta Z Z.heap "java/lang/String" "COMPACT_STRINGS" "Z" (.int cs)) (hcs : ¬ cs = 0) (hp : ¬ (255 : Int32) < p1) :
    Met l Z EL [] (fun _ _ _ => False) n0 (⟨"java/lang/String", "valueOf", "(C)Ljava/lang/String;"⟩ : MethodName) jdk_42_method_139_code 1 (some (.object "java/lang/String")) ws Rm17 #[(.int p1)] h0 (fun v h => ∃ r b kc, v = some (.ref r) ∧ h0.size ≤ r ∧ h0.size ≤ b ∧ Keep h0 h [] ∧ Exa Z h r "java/lang/String" ∧ Fld Z h r "java/lang/String" "value" "[B" (.ref b) ∧ Fld Z h r "java/lang/String" "coder" "B" (.int (0 : Int32)) ∧ Avf Z h b kc .byte 1 (fun _ => (.int (p1.toInt8.toInt32)))) := by
  refine enter (Ls := #[.val (.int p1)]) (plainFor_of_name pn1) (fun m => by first | (simp [entryFrame, mkF, argsToLocals, Value.category]; done) | rfl) ?_
  intro p e s m below meth c T0 hx hby hml hown hnm hret hlk hZ X0
  have S_CS := S_CS0.ext O0.2
  have K0 := Keep.refl h0 []
  show Go p.tables e below _ (T0.setTop (mkF m 0 #[.val (.int p1)] []))
  obtain ⟨T1, X1, st1⟩ := X0.getS hx hZ hown (host := "") (Or.inl (tw hw 66 rfl)) Via.refl S_CS (g := (mkF m 0 #[.val (.int p1)] [])) rfl (hb hby d17_0)
  refine Go.by st1 ?_
  show Go p.tables e below _ (T1.setTop (mkF m 3 #[.val (.int p1)] [(.int cs)]))
  refine Go.by (fun _ => XS.ifNo X1.here hx rfl (hb hby d17_3) rfl ((if0 _ _).trans (feq hcs).1)) ?_
  show Go p.tables e below _ (T1.setTop (mkF m 6 #[.val (.int p1)] []))
  refine Go.by (fun _ => XS.iloadN X1.here hx rfl (hb hby d17_6) rfl) ?_
  show Go p.tables e below _ (T1.setTop (mkF m 7 #[.val (.int p1)] [(.int p1)]))
  obtain ⟨v2, T2, h2, X2, q2, xs2, st2⟩ := X1.callS hx hZ f0n (y := (⟨"java/lang/StringLatin1", "canEncode", "(C)Z"⟩ : MethodName)) hown (tw hw 99 rfl) (tw hw 100 rfl) (tw hw 90 rfl) (tw hw 101 rfl) (by decide) (rm18 l Z a0 hw [] p1 h0 n0 Z0 hp) (g := (mkF m 7 #[.val (.int p1)] [(.int p1)])) rfl (by rw [hml]; rfl) (argsL := [(.int p1)]) (rest := []) (lenOf pd5 rfl) rfl (hb hby d17_7) rfl (by decide) (Nat.le_of_ble_eq_true rfl) (k' := 0) (n' := 0) rfl rfl (by decide) (by decide)
  refine Go.by st2 ?_
  obtain ⟨rfl, rfl⟩ := q2
  show Go p.tables e below _ (T2.setTop (mkF m 10 #[.val (.int p1)] [(.int (1 : Int32))]))
  refine Go.by (fun _ => XS.ifNo X2.here hx rfl (hb hby d17_10) rfl ((if0 _ _).trans (feq (by decide)).1)) ?_
  show Go p.tables e below _ (T2.setTop (mkF m 13 #[.val (.int p1)] []))
  obtain ⟨T3, h3, b3, X3, g3, E3, A3, D3, st3⟩ := X2.newOF hx hZ hown (tw hw 87 rfl) (tw hw 20 rfl) (tw hw 21 rfl) (g := (mkF m 13 #[.val (.int p1)] [])) rfl (hb hby d17_13) (k' := 1) (n' := 4) rfl rfl (by decide) (by decide)
  have g_b3 : n0 ≤ b3 := by rw [g3]; exact Z0
  have sz_b3 : h0.size ≤ b3 := by rw [g3]; exact K0.1
  have f4_19 := S_CS.ext E3
  have f4_20 := K0.ext E3
  have Zs4 : n0 ≤ h3.size := Nat.le_trans Z0 E3.1
  have F3_value : Fld Z h3 b3 "java/lang/String" "value" "[B" .null := D3 (Or.inr (tw hw 35 rfl)) (ty := (.array .byte)) (by decide)
  have F3_coder : Fld Z h3 b3 "java/lang/String" "coder" "B" (.int (0 : Int32)) := D3 (Or.inr (tw hw 36 rfl)) (ty := .byte) (by decide)
  refine Go.by st3 ?_
  show Go p.tables e below _ (T3.setTop (mkF m 16 #[.val (.int p1)] [(.ref b3)]))
  refine Go.by (fun _ => XS.dup X3.here hx rfl (hb hby d17_16) rfl rfl) ?_
  show Go p.tables e below _ (T3.setTop (mkF m 17 #[.val (.int p1)] [(.ref b3), (.ref b3)]))
  refine Go.by (fun _ => XS.iloadN X3.here hx rfl (hb hby d17_17) rfl) ?_
  show Go p.tables e below _ (T3.setTop (mkF m 18 #[.val (.int p1)] [(.int p1), (.ref b3), (.ref b3)]))
  obtain ⟨v5, T5, h5, X5, q5, xs5, st5⟩ := X3.callS hx hZ f0n (y := (⟨"java/lang/StringLatin1", "toBytes", "(C)[B"⟩ : MethodName)) hown (tw hw 102 rfl) (tw hw 103 rfl) (tw hw 90 rfl) (tw hw 104 rfl) (by decide) (rm19 l Z a0 hw [] p1 h3 n0 Zs4) (g := (mkF m 18 #[.val (.int p1)] [(.int p1), (.ref b3), (.ref b3)])) rfl (by rw [hml]; rfl) (argsL := [(.int p1)]) (rest := [(.ref b3), (.ref b3)]) (lenOf pd6 rfl) rfl (hb hby d17_18) rfl (by decide) (Nat.le_of_ble_eq_true rfl) (k' := 2) (n' := 5) rfl rfl (by decide) (by decide)
  refine Go.by st5 ?_
  obtain ⟨d5, kc5, rfl, sd5, K5, V5⟩ := q5
  have g_d5 : n0 ≤ d5 := Nat.le_trans Zs4 sd5
  have sz_d5 : h0.size ≤ d5 := Nat.le_trans f4_20.1 sd5
  have ne_b3_d5 : b3 ≠ d5 := Nat.ne_of_lt (Nat.lt_of_lt_of_le A3.lt sd5)
  have f6_36 := f4_19.ext (keep_ext K5)
  have f6_37 := f4_20.ext (keep_ext K5)
  have f6_38 := A3.ext (keep_ext K5)
  have f6_39 := F3_value.ext (keep_ext K5)
  have f6_40 := F3_coder.ext (keep_ext K5)
  have Zs6 : n0 ≤ h5.size := Nat.le_trans Zs4 (keep_ext K5).1
  show Go p.tables e below _ (T5.setTop (mkF m 21 #[.val (.int p1)] [(.ref d5), (.ref b3), (.ref b3)]))
  refine Go.by (fun _ => XS.iconst X5.here hx rfl (hb hby d17_21)) ?_
  show Go p.tables e below _ (T5.setTop (mkF m 22 #[.val (.int p1)] [(.int (0 : Int32)), (.ref d5), (.ref b3), (.ref b3)]))
  obtain ⟨v7, T7, h7, X7, q7, xs7, st7⟩ := X5.callI hx hZ (f0s (List.mem_cons_self ..) f0n) (y := (⟨"java/lang/String", "<init>", "([BB)V"⟩ : MethodName)) rfl hown (tw hw 105 rfl) (tw hw 106 rfl) (tw hw 21 rfl) (tw hw 107 rfl) (by decide) (rm20 l Z a0 hw [] b3 d5 h5 n0 Zs6 f6_38 g_b3 f6_39 f6_40) (g := (mkF m 22 #[.val (.int p1)] [(.int (0 : Int32)), (.ref d5), (.ref b3), (.ref b3)])) rfl (by rw [hml]; rfl) (argsL := [(.ref d5), (.int (0 : Int32))]) (rest := [(.ref b3)]) (lenOf pd7 rfl) rfl (hb hby d17_22) rfl (by decide) (Nat.le_of_ble_eq_true rfl) (k' := 2) (n' := 5) rfl rfl (by decide) (by decide)
  refine Go.by st7 ?_
  obtain ⟨rfl, K7, Ex7, Fv7, Fc7⟩ := q7
  have f8_48 := Sta.keepN f6_36 K7 (allS f6_38.plain all0)
  have f8_49 := f6_37.trans K7 (allS (Or.inr sz_b3) all0)
  have f8_50 := f6_38.keep K7
  have f8_51 := Avf.keep V5 K7 (ninS (Ne.symm ne_b3_d5) nin0)
  have Zs8 : n0 ≤ h7.size := Nat.le_trans Zs6 K7.1
  show Go p.tables e below _ (T7.setTop (mkF m 25 #[.val (.int p1)] [(.ref b3)]))
  exact Go.retA X7 hx hlk hret rfl rfl (hb hby d17_25) (by decide) (by decide) (fun _ z => z.elim) ⟨b3, d5, kc5, rfl, sz_b3, sz_d5, f8_49, Ex7, Fv7, Fc7, f8_51⟩
theorem d1_0 : decode jdk_29_method_69_code 0 = .ok (.iload_n 0, 1) := by decide +kernel
theorem d1_1 : decode jdk_29_method_69_code 1 = .ok (.iload_n 1, 1) := by decide +kernel
theorem d1_2 : decode jdk_29_method_69_code 2 = .ok (.if_icmp .gt 7, 3) := by decide +kernel
theorem d1_9 : decode jdk_29_method_69_code 9 = .ok (.iload_n 1, 1) := by decide +kernel
theorem d1_10 : decode jdk_29_method_69_code 10 = .ok (.ireturn, 1) := by decide +kernel
theorem d1_5 : decode jdk_29_method_69_code 5 = .ok (.iload_n 0, 1) := by decide +kernel
theorem d1_6 : decode jdk_29_method_69_code 6 = .ok (.goto 4, 3) := by decide +kernel
abbrev Rm1 : Room := { frames := 0, cells := 0, slots := 0, locals := 0 }
set_option maxRecDepth 65536 in
set_option maxHeartbeats 40000000 in
theorem rm1 (l : Launch) (Z : State) (a0 : Array Value) (hw : ∀ d ∈ tables_1, d.before a0 Z = true) (ws : List Jvm.Cond) (p1 : Int32) (p2 : Int32) (h0 : Heap) (n0 : Nat) (Z0 : n0 ≤ h0.size) :
    Met l Z EL [] (fun _ _ _ => False) n0 (⟨"java/lang/Math", "min", "(II)I"⟩ : MethodName) jdk_29_method_69_code 2 (some .int) ws Rm1 #[(.int p1), (.int p2)] h0 (fun v h => ∃ r : Int32, v = some (.int r) ∧ r.toInt = min p1.toInt p2.toInt ∧ h0 = h) := by
  refine enter (Ls := #[.val (.int p1), .val (.int p2)]) (Jvm.Free.JP.mathPlain rfl (by decide +kernel)) (fun m => by first | (simp [entryFrame, mkF, argsToLocals, Value.category]; done) | rfl) ?_
  intro p e s m below meth c T0 hx hby hml hown hnm hret hlk hZ X0
  show Go p.tables e below _ (T0.setTop (mkF m 0 #[.val (.int p1), .val (.int p2)] []))
  refine Go.by (fun _ => XS.iloadN X0.here hx rfl (hb hby d1_0) rfl) ?_
  show Go p.tables e below _ (T0.setTop (mkF m 1 #[.val (.int p1), .val (.int p2)] [(.int p1)]))
  refine Go.by (fun _ => XS.iloadN X0.here hx rfl (hb hby d1_1) rfl) ?_
  show Go p.tables e below _ (T0.setTop (mkF m 2 #[.val (.int p1), .val (.int p2)] [(.int p2), (.int p1)]))
  by_cases hc2_1 : p2 < p1
  · skip
    refine Go.by (fun _ => XS.icmpYes X0.here hx rfl (pc0 := 2) (pc' := 9) rfl (hb hby d1_2) rfl (tlt hc2_1).2.2.1 (by decide) (by decide)) ?_
    show Go p.tables e below _ (T0.setTop (mkF m 9 #[.val (.int p1), .val (.int p2)] []))
    refine Go.by (fun _ => XS.iloadN X0.here hx rfl (hb hby d1_9) rfl) ?_
    show Go p.tables e below _ (T0.setTop (mkF m 10 #[.val (.int p1), .val (.int p2)] [(.int p2)]))
    refine Go.retI X0 hx hlk hret (hb hby d1_10) (by decide) (by decide) (fun _ z => z.elim) ?_
    refine ⟨_, rfl, ?_, rfl⟩
    simp only [Int32.lt_iff_toInt_lt, ← Int32.toInt_inj, Int32.reduceToInt] at hc2_1
    omega
  · skip
    refine Go.by (fun _ => XS.icmpNo X0.here hx rfl (hb hby d1_2) rfl (flt hc2_1).2.2.1) ?_
    show Go p.tables e below _ (T0.setTop (mkF m 5 #[.val (.int p1), .val (.int p2)] []))
    refine Go.by (fun _ => XS.iloadN X0.here hx rfl (hb hby d1_5) rfl) ?_
    show Go p.tables e below _ (T0.setTop (mkF m 6 #[.val (.int p1), .val (.int p2)] [(.int p1)]))
    refine Go.by (fun _ => XS.goto X0.here hx rfl (pc0 := 6) (pc' := 10) rfl (hb hby d1_6) (by decide) (by decide)) ?_
    show Go p.tables e below _ (T0.setTop (mkF m 10 #[.val (.int p1), .val (.int p2)] [(.int p1)]))
    refine Go.retI X0 hx hlk hret (hb hby d1_10) (by decide) (by decide) (fun _ z => z.elim) ?_
    refine ⟨_, rfl, ?_, rfl⟩
    simp only [Int32.lt_iff_toInt_lt, ← Int32.toInt_inj, Int32.reduceToInt] at hc2_1
    omega
theorem d10_0 : decode jdk_30_method_1_code 0 = .ok (.aload_n 0, 1) := by decide +kernel
theorem d10_1 : decode jdk_30_method_1_code 1 = .ok (.invokespecial 1, 3) := by decide +kernel
theorem d10_4 : decode jdk_30_method_1_code 4 = .ok (.return_, 1) := by decide +kernel
abbrev Rm10 : Room := { frames := 1, cells := 0, slots := 0, locals := 12 }
theorem pn3 : plainName "java/lang/Record" = true := by first | (simp [plainName, overriddenIn]; done) | decide +kernel
set_option maxRecDepth 65536 in
set_option maxHeartbeats 40000000 in
theorem rm10 (l : Launch) (Z : State) (a0 : Array Value) (hw : ∀ d ∈ tables_1, d.before a0 Z = true) (ws : List Jvm.Cond) (a1 : Addr) (h0 : Heap) (n0 : Nat) (Z0 : n0 ≤ h0.size) :
    Met l Z EL [] (fun _ _ _ => False) n0 (⟨"java/lang/Record", "<init>", "()V"⟩ : MethodName) jdk_30_method_1_code 1 none ws Rm10 #[(.ref a1)] h0 (fun v h => v = none ∧ h0 = h) := by
  refine enter (Ls := #[.val (.ref a1)]) (plainFor_of_name pn3) (fun m => by first | (simp [entryFrame, mkF, argsToLocals, Value.category]; done) | rfl) ?_
  intro p e s m below meth c T0 hx hby hml hown hnm hret hlk hZ X0
  show Go p.tables e below _ (T0.setTop (mkF m 0 #[.val (.ref a1)] []))
  refine Go.by (fun _ => XS.aloadN X0.here hx rfl (hb hby d10_0) rfl rfl) ?_
  show Go p.tables e below _ (T0.setTop (mkF m 1 #[.val (.ref a1)] [(.ref a1)]))
  obtain ⟨T1, X1, st1⟩ := X0.initO hx hZ hown (tw hw 55 rfl) (tw hw 31 rfl) (tw hw 32 rfl) (g := (mkF m 1 #[.val (.ref a1)] [(.ref a1)])) rfl (by rw [hml]; rfl) rfl (hb hby d10_1) (by decide) (Nat.le_of_ble_eq_true rfl)
  refine Go.by st1 ?_
  show Go p.tables e below _ (T1.setTop (mkF m 4 #[.val (.ref a1)] []))
  exact Go.ret0 X1 hx hlk hret (hb hby d10_4) (by decide) (by decide) (fun _ z => z.elim) ⟨rfl, rfl⟩
theorem d3_0 : decode jdk_32_method_1_code 0 = .ok (.getstatic 1, 3) := by decide +kernel
theorem d3_3 : decode jdk_32_method_1_code 3 = .ok (.astore_n 0, 1) := by decide +kernel
theorem d3_4 : decode jdk_32_method_1_code 4 = .ok (.aload_n 0, 1) := by decide +kernel
theorem d3_5 : decode jdk_32_method_1_code 5 = .ok (.areturn, 1) := by decide +kernel
abbrev Rm3 : Room := { frames := 0, cells := 0, slots := 0, locals := 0 }
theorem pn4 : plainName "java/util/Optional" = true := by first | (simp [plainName, overriddenIn]; done) | decide +kernel
set_option maxRecDepth 65536 in
set_option maxHeartbeats 40000000 in
theorem rm3 (l : Launch) (Z : State) (a0 : Array Value) (hw : ∀ d ∈ tables_1, d.before a0 Z = true) (ws : List Jvm.Cond) (ae : Addr) (h0 : Heap) (n0 : Nat) (Z0 : n0 ≤ h0.size) (O0 : Old Z n0 h0) (S_E0 : Sta Z Z.heap "java/util/Optional" "EMPTY" "Ljava/util/Optional;" (.ref ae)) :
    Met l Z EL [] (fun _ _ _ => False) n0 (⟨"java/util/Optional", "empty", "()Ljava/util/Optional;"⟩ : MethodName) jdk_32_method_1_code 1 (some (.object "java/util/Optional")) ws Rm3 #[] h0 (fun v h => v = some (.ref ae) ∧ h0 = h) := by
  refine enter (Ls := #[.unset]) (plainFor_of_name pn4) (fun m => by first | (simp [entryFrame, mkF, argsToLocals, Value.category]; done) | rfl) ?_
  intro p e s m below meth c T0 hx hby hml hown hnm hret hlk hZ X0
  have S_E := S_E0.ext O0.2
  show Go p.tables e below _ (T0.setTop (mkF m 0 #[.unset] []))
  obtain ⟨T1, X1, st1⟩ := X0.getS hx hZ hown (host := "") (Or.inl (tw hw 12 rfl)) Via.refl S_E (g := (mkF m 0 #[.unset] [])) rfl (hb hby d3_0)
  refine Go.by st1 ?_
  show Go p.tables e below _ (T1.setTop (mkF m 3 #[.unset] [(.ref ae)]))
  refine Go.by (fun _ => XS.astoreN X1.here hx rfl (hb hby d3_3) rfl rfl (l' := #[.val (.ref ae)]) rfl) ?_
  show Go p.tables e below _ (T1.setTop (mkF m 4 #[.val (.ref ae)] []))
  refine Go.by (fun _ => XS.aloadN X1.here hx rfl (hb hby d3_4) rfl rfl) ?_
  show Go p.tables e below _ (T1.setTop (mkF m 5 #[.val (.ref ae)] [(.ref ae)]))
  exact Go.retA X1 hx hlk hret rfl rfl (hb hby d3_5) (by decide) (by decide) (fun _ z => z.elim) ⟨rfl, rfl⟩
theorem d22_0 : decode jdk_31_method_10_code 0 = .ok (.aload_n 0, 1) := by decide +kernel
theorem d22_1 : decode jdk_31_method_10_code 1 = .ok (.ifnonnull 11, 3) := by decide +kernel
theorem d22_12 : decode jdk_31_method_10_code 12 = .ok (.aload_n 0, 1) := by decide +kernel
theorem d22_13 : decode jdk_31_method_10_code 13 = .ok (.areturn, 1) := by decide +kernel
abbrev Rm22 : Room := { frames := 0, cells := 0, slots := 0, locals := 0 }
theorem pn5 : plainName "java/util/Objects" = true := by first | (simp [plainName, overriddenIn]; done) | decide +kernel
set_option maxRecDepth 65536 in
set_option maxHeartbeats 40000000 in
theorem rm22 (l : Launch) (Z : State) (a0 : Array Value) (hw : ∀ d ∈ tables_1, d.before a0 Z = true) (ws : List Jvm.Cond) (a1 : Addr) (h0 : Heap) (n0 : Nat) (Z0 : n0 ≤ h0.size) :
    Met l Z EL [] (fun _ _ _ => False) n0 (⟨"java/util/Objects", "requireNonNull", "(Ljava/lang/Object;)Ljava/lang/Object;"⟩ : MethodName) jdk_31_method_10_code 1 (some (.object "java/lang/Object")) ws Rm22 #[(.ref a1)] h0 (fun v h => v = some (.ref a1) ∧ h0 = h) := by
  refine enter (Ls := #[.val (.ref a1)]) (plainFor_of_name pn5) (fun m => by first | (simp [entryFrame, mkF, argsToLocals, Value.category]; done) | rfl) ?_
  intro p e s m below meth c T0 hx hby hml hown hnm hret hlk hZ X0
  show Go p.tables e below _ (T0.setTop (mkF m 0 #[.val (.ref a1)] []))
  refine Go.by (fun _ => XS.aloadN X0.here hx rfl (hb hby d22_0) rfl rfl) ?_
  show Go p.tables e below _ (T0.setTop (mkF m 1 #[.val (.ref a1)] [(.ref a1)]))
  refine Go.by (fun _ => XS.ifnonnullYes X0.here hx rfl (pc0 := 1) (pc' := 12) rfl (hb hby d22_1) rfl (by decide) (by decide)) ?_
  show Go p.tables e below _ (T0.setTop (mkF m 12 #[.val (.ref a1)] []))
  refine Go.by (fun _ => XS.aloadN X0.here hx rfl (hb hby d22_12) rfl rfl) ?_
  show Go p.tables e below _ (T0.setTop (mkF m 13 #[.val (.ref a1)] [(.ref a1)]))
  exact Go.retA X0 hx hlk hret rfl rfl (hb hby d22_13) (by decide) (by decide) (fun _ z => z.elim) ⟨rfl, rfl⟩
theorem d23_0 : decode jdk_32_method_2_code 0 = .ok (.aload_n 0, 1) := by decide +kernel
theorem d23_1 : decode jdk_32_method_2_code 1 = .ok (.invokespecial 7, 3) := by decide +kernel
theorem d23_4 : decode jdk_32_method_2_code 4 = .ok (.aload_n 0, 1) := by decide +kernel
theorem d23_5 : decode jdk_32_method_2_code 5 = .ok (.aload_n 1, 1) := by decide +kernel
theorem d23_6 : decode jdk_32_method_2_code 6 = .ok (.putfield 13, 3) := by decide +kernel
theorem d23_9 : decode jdk_32_method_2_code 9 = .ok (.return_, 1) := by decide +kernel
abbrev Rm23 : Room := { frames := 1, cells := 0, slots := 0, locals := 12 }
set_option maxRecDepth 65536 in
set_option maxHeartbeats 40000000 in
theorem rm23 (l : Launch) (Z : State) (a0 : Array Value) (hw : ∀ d ∈ tables_1, d.before a0 Z = true) (ws : List Jvm.Cond) (a1 : Addr) (a2 : Addr) (h0 : Heap) (n0 : Nat) (Z0 : n0 ≤ h0.size) (E_a1 : Exa Z h0 a1 "java/util/Optional") (g_a1 : n0 ≤ a1) (Fv : Fld Z h0 a1 "java/util/Optional" "value" "Ljava/lang/Object;" .null) :
    Met l Z EL [] (fun _ _ _ => False) n0 (⟨"java/util/Optional", "<init>", "(Ljava/lang/Object;)V"⟩ : MethodName) jdk_32_method_2_code 2 none ws Rm23 #[(.ref a1), (.ref a2)] h0 (fun v h => v = none ∧ Keep h0 h [a1]) := by
  refine enter (Ls := #[.val (.ref a1), .val (.ref a2)]) (plainFor_of_name pn4) (fun m => by first | (simp [entryFrame, mkF, argsToLocals, Value.category]; done) | rfl) ?_
  intro p e s m below meth c T0 hx hby hml hown hnm hret hlk hZ X0
  have K0 := Keep.refl h0 [a1]
  show Go p.tables e below _ (T0.setTop (mkF m 0 #[.val (.ref a1), .val (.ref a2)] []))
  refine Go.by (fun _ => XS.aloadN X0.here hx rfl (hb hby d23_0) rfl rfl) ?_
  show Go p.tables e below _ (T0.setTop (mkF m 1 #[.val (.ref a1), .val (.ref a2)] [(.ref a1)]))
  obtain ⟨T1, X1, st1⟩ := X0.initO hx hZ hown (tw hw 121 rfl) (tw hw 31 rfl) (tw hw 32 rfl) (g := (mkF m 1 #[.val (.ref a1), .val (.ref a2)] [(.ref a1)])) rfl (by rw [hml]; rfl) rfl (hb hby d23_1) (by decide) (Nat.le_of_ble_eq_true rfl)
  refine Go.by st1 ?_
  show Go p.tables e below _ (T1.setTop (mkF m 4 #[.val (.ref a1), .val (.ref a2)] []))
  refine Go.by (fun _ => XS.aloadN X1.here hx rfl (hb hby d23_4) rfl rfl) ?_
  show Go p.tables e below _ (T1.setTop (mkF m 5 #[.val (.ref a1), .val (.ref a2)] [(.ref a1)]))
  refine Go.by (fun _ => XS.aloadN X1.here hx rfl (hb hby d23_5) rfl rfl) ?_
  show Go p.tables e below _ (T1.setTop (mkF m 6 #[.val (.ref a1), .val (.ref a2)] [(.ref a2), (.ref a1)]))
  obtain ⟨T2, h2, X2, W2, st2⟩ := X1.putF hx hZ hown (host := "") (Or.inl (tw hw 122 rfl)) Via.refl Fv E_a1 g_a1 (Or.inr (by decide)) (Or.inr ⟨(tw hw 123 rfl), rfl, hnm⟩) (tw hw 112 rfl) (ty := (.object "java/lang/Object")) (by decide) rfl rfl (g := (mkF m 6 #[.val (.ref a1), .val (.ref a2)] [(.ref a2), (.ref a1)])) rfl rfl (hb hby d23_6)
  have Fw2 := Fv.same W2
  have f3_13 := E_a1.wr W2
  have f3_14 := K0.wr W2 (Or.inl (List.mem_of_getElem? (i := 0) rfl))
  have Zs3 : n0 ≤ h2.size := by rw [W2.size]; exact Z0
  refine Go.by st2 ?_
  show Go p.tables e below _ (T2.setTop (mkF m 9 #[.val (.ref a1), .val (.ref a2)] []))
  exact Go.ret0 X2 hx hlk hret (hb hby d23_9) (by decide) (by decide) (fun _ z => z.elim) ⟨rfl, f3_14⟩
theorem d21_0 : decode jdk_32_method_3_code 0 = .ok (.new 2, 3) := by decide +kernel
theorem d21_3 : decode jdk_32_method_3_code 3 = .ok (.dup, 1) := by decide +kernel
theorem d21_4 : decode jdk_32_method_3_code 4 = .ok (.aload_n 0, 1) := by decide +kernel
theorem d21_5 : decode jdk_32_method_3_code 5 = .ok (.invokestatic 17, 3) := by decide +kernel
theorem pd8 : parseMethodDescriptor "(Ljava/lang/Object;)Ljava/lang/Object;" = some ⟨[(.object "java/lang/Object")], some (.object "java/lang/Object")⟩ := by decide +kernel
theorem d21_8 : decode jdk_32_method_3_code 8 = .ok (.invokespecial 23, 3) := by decide +kernel
theorem pd9 : parseMethodDescriptor "(Ljava/lang/Object;)V" = some ⟨[(.object "java/lang/Object")], none⟩ := by decide +kernel
theorem d21_11 : decode jdk_32_method_3_code 11 = .ok (.areturn, 1) := by decide +kernel
abbrev Rm21 : Room := { frames := 2, cells := 1, slots := 1, locals := 26 }
set_option maxRecDepth 65536 in
set_option maxHeartbeats 40000000 in
theorem rm21 (l : Launch) (Z : State) (a0 : Array Value) (hw : ∀ d ∈ tables_1, d.before a0 Z = true) (ws : List Jvm.Cond) (a1 : Addr) (h0 : Heap) (n0 : Nat) (Z0 : n0 ≤ h0.size) :
    Met l Z EL [] (fun _ _ _ => False) n0 (⟨"java/util/Optional", "of", "(Ljava/lang/Object;)Ljava/util/Optional;"⟩ : MethodName) jdk_32_method_3_code 1 (some (.object "java/util/Optional")) ws Rm21 #[(.ref a1)] h0 (fun v h => ∃ r, v = some (.ref r) ∧ h0.size ≤ r ∧ Keep h0 h []) := by
  refine enter (Ls := #[.val (.ref a1)]) (plainFor_of_name pn4) (fun m => by first | (simp [entryFrame, mkF, argsToLocals, Value.category]; done) | rfl) ?_
  intro p e s m below meth c T0 hx hby hml hown hnm hret hlk hZ X0
  have K0 := Keep.refl h0 []
  show Go p.tables e below _ (T0.setTop (mkF m 0 #[.val (.ref a1)] []))
  obtain ⟨T1, h1, b1, X1, g1, E1, A1, D1, st1⟩ := X0.newO hx hZ hown (tw hw 111 rfl) (tw hw 112 rfl) (tw hw 10 rfl) (g := (mkF m 0 #[.val (.ref a1)] [])) rfl (hb hby d21_0) (k' := 1) (n' := 1) rfl rfl (by decide) (by decide)
  have g_b1 : n0 ≤ b1 := by rw [g1]; exact Z0
  have sz_b1 : h0.size ≤ b1 := by rw [g1]; exact K0.1
  have f2_5 := K0.ext E1
  have Zs2 : n0 ≤ h1.size := Nat.le_trans Z0 E1.1
  have F1_value : Fld Z h1 b1 "java/util/Optional" "value" "Ljava/lang/Object;" .null := D1 (Or.inr (tw hw 123 rfl)) (ty := (.object "java/lang/Object")) (by decide)
  refine Go.by st1 ?_
  show Go p.tables e below _ (T1.setTop (mkF m 3 #[.val (.ref a1)] [(.ref b1)]))
  refine Go.by (fun _ => XS.dup X1.here hx rfl (hb hby d21_3) rfl rfl) ?_
  show Go p.tables e below _ (T1.setTop (mkF m 4 #[.val (.ref a1)] [(.ref b1), (.ref b1)]))
  refine Go.by (fun _ => XS.aloadN X1.here hx rfl (hb hby d21_4) rfl rfl) ?_
  show Go p.tables e below _ (T1.setTop (mkF m 5 #[.val (.ref a1)] [(.ref a1), (.ref b1), (.ref b1)]))
  obtain ⟨v3, T3, h3, X3, q3, xs3, st3⟩ := X1.callS hx hZ f0n (y := (⟨"java/util/Objects", "requireNonNull", "(Ljava/lang/Object;)Ljava/lang/Object;"⟩ : MethodName)) hown (tw hw 113 rfl) (tw hw 114 rfl) (tw hw 115 rfl) (tw hw 116 rfl) (by decide) (rm22 l Z a0 hw [] a1 h1 n0 Zs2) (g := (mkF m 5 #[.val (.ref a1)] [(.ref a1), (.ref b1), (.ref b1)])) rfl (by rw [hml]; rfl) (argsL := [(.ref a1)]) (rest := [(.ref b1), (.ref b1)]) (lenOf pd8 rfl) rfl (hb hby d21_5) rfl (by decide) (Nat.le_of_ble_eq_true rfl) (k' := 1) (n' := 1) rfl rfl (by decide) (by decide)
  refine Go.by st3 ?_
  obtain ⟨rfl, rfl⟩ := q3
  show Go p.tables e below _ (T3.setTop (mkF m 8 #[.val (.ref a1)] [(.ref a1), (.ref b1), (.ref b1)]))
  obtain ⟨v4, T4, h4, X4, q4, xs4, st4⟩ := X3.callI hx hZ f0n (y := (⟨"java/util/Optional", "<init>", "(Ljava/lang/Object;)V"⟩ : MethodName)) rfl hown (tw hw 117 rfl) (tw hw 118 rfl) (tw hw 10 rfl) (tw hw 120 rfl) (by decide) (rm23 l Z a0 hw [] b1 a1 h1 n0 Zs2 A1 g_b1 F1_value) (g := (mkF m 8 #[.val (.ref a1)] [(.ref a1), (.ref b1), (.ref b1)])) rfl (by rw [hml]; rfl) (argsL := [(.ref a1)]) (rest := [(.ref b1)]) (lenOf pd9 rfl) rfl (hb hby d21_8) rfl (by decide) (Nat.le_of_ble_eq_true rfl) (k' := 1) (n' := 1) rfl rfl (by decide) (by decide)
  refine Go.by st4 ?_
  obtain ⟨rfl, K4⟩ := q4
  have f5_21 := f2_5.trans K4 (allS (Or.inr sz_b1) all0)
  have f5_22 := A1.keep K4
  have Zs5 : n0 ≤ h4.size := Nat.le_trans Zs2 K4.1
  show Go p.tables e below _ (T4.setTop (mkF m 11 #[.val (.ref a1)] [(.ref b1)]))
  exact Go.retA X4 hx hlk hret rfl rfl (hb hby d21_11) (by decide) (by decide) (fun _ z => z.elim) ⟨b1, rfl, sz_b1, f5_21⟩
theorem d2_0 : decode method_4_code 0 = .ok (.iload_n 0, 1) := by decide +kernel
theorem d2_1 : decode method_4_code 1 = .ok (.ifCond .ne 7, 3) := by decide +kernel
theorem d2_4 : decode method_4_code 4 = .ok (.invokestatic 41, 3) := by decide +kernel
theorem pd10 : parseMethodDescriptor "()Ljava/util/Optional;" = some ⟨[], some (.object "java/util/Optional")⟩ := by decide +kernel
theorem d2_7 : decode method_4_code 7 = .ok (.areturn, 1) := by decide +kernel
theorem d2_8 : decode method_4_code 8 = .ok (.iload_n 1, 1) := by decide +kernel
theorem d2_9 : decode method_4_code 9 = .ok (.sipush 255, 3) := by decide +kernel
theorem d2_12 : decode method_4_code 12 = .ok (.iand, 1) := by decide +kernel
theorem d2_13 : decode method_4_code 13 = .ok (.i2c, 1) := by decide +kernel
theorem d2_14 : decode method_4_code 14 = .ok (.invokestatic 47, 3) := by decide +kernel
theorem pd11 : parseMethodDescriptor "(C)Ljava/lang/String;" = some ⟨[.char], some (.object "java/lang/String")⟩ := by decide +kernel
theorem d2_17 : decode method_4_code 17 = .ok (.invokestatic 51, 3) := by decide +kernel
theorem pd12 : parseMethodDescriptor "(Ljava/lang/Object;)Ljava/util/Optional;" = some ⟨[(.object "java/lang/Object")], some (.object "java/util/Optional")⟩ := by decide +kernel
theorem d2_20 : decode method_4_code 20 = .ok (.areturn, 1) := by decide +kernel
abbrev Rm2 : Room := { frames := 3, cells := 3, slots := 6, locals := 39 }
theorem pn6 : plainName "com/example/interlace/interlace/ColumnHoldsAlikePinLaw" = true := by first | (simp [plainName, overriddenIn]; done) | decide +kernel
set_option maxRecDepth 65536 in
set_option maxHeartbeats 40000000 in
theorem rm2 (l : Launch) (Z : State) (a0 : Array Value) (hw : ∀ d ∈ tables_1, d.before a0 Z = true) (ws : List Jvm.Cond) (p1 : Int32) (p2 : Int32) (cs : Int32) (ae : Addr) (h0 : Heap) (n0 : Nat) (Z0 : n0 ≤ h0.size) (O0 : Old Z n0 h0) (S_CS0 : Sta Z Z.heap "java/lang/String" "COMPACT_STRINGS" "Z" (.int cs)) (hcs : ¬ cs = 0) (S_E0 : Sta Z Z.heap "java/util/Optional" "EMPTY" "Ljava/util/Optional;" (.ref ae)) :
    Met l Z EL [] (fun _ _ _ => False) n0 (⟨"com/example/interlace/interlace/ColumnHoldsAlikePinLaw", "def", "(II)Ljava/util/Optional;"⟩ : MethodName) method_4_code 2 (some (.object "java/util/Optional")) ws Rm2 #[(.int p1), (.int p2)] h0 (fun v h => ∃ r, v = some (.ref r) ∧ Keep h0 h []) := by
  refine enter (Ls := #[.val (.int p1), .val (.int p2)]) (plainFor_of_name pn6) (fun m => by first | (simp [entryFrame, mkF, argsToLocals, Value.category]; done) | rfl) ?_
  intro p e s m below meth c T0 hx hby hml hown hnm hret hlk hZ X0
  have K0 := Keep.refl h0 []
  show Go p.tables e below _ (T0.setTop (mkF m 0 #[.val (.int p1), .val (.int p2)] []))
  refine Go.by (fun _ => XS.iloadN X0.here hx rfl (hb hby d2_0) rfl) ?_
  show Go p.tables e below _ (T0.setTop (mkF m 1 #[.val (.int p1), .val (.int p2)] [(.int p1)]))
  by_cases hc1_1 : p1 = (0 : Int32)
  · skip
    refine Go.by (fun _ => XS.ifNo X0.here hx rfl (hb hby d2_1) rfl ((if0 _ _).trans (teq hc1_1).2)) ?_
    show Go p.tables e below _ (T0.setTop (mkF m 4 #[.val (.int p1), .val (.int p2)] []))
    obtain ⟨v2, T2, h2, X2, q2, xs2, st2⟩ := X0.callS hx hZ f0n (y := (⟨"java/util/Optional", "empty", "()Ljava/util/Optional;"⟩ : MethodName)) hown (tw hw 8 rfl) (tw hw 9 rfl) (tw hw 10 rfl) (tw hw 11 rfl) (by decide) (rm3 l Z a0 hw [] ae h0 n0 Z0 O0 S_E0) (g := (mkF m 4 #[.val (.int p1), .val (.int p2)] [])) rfl (by rw [hml]; rfl) (argsL := []) (rest := []) (lenOf pd10 rfl) rfl (hb hby d2_4) rfl (by decide) (Nat.le_of_ble_eq_true rfl) (k' := 0) (n' := 0) rfl rfl (by decide) (by decide)
    refine Go.by st2 ?_
    obtain ⟨rfl, rfl⟩ := q2
    show Go p.tables e below _ (T2.setTop (mkF m 7 #[.val (.int p1), .val (.int p2)] [(.ref ae)]))
    exact Go.retA X2 hx hlk hret rfl rfl (hb hby d2_7) (by decide) (by decide) (fun _ z => z.elim) ⟨ae, rfl, K0⟩
  · skip
    refine Go.by (fun _ => XS.ifYes X0.here hx rfl (pc0 := 1) (pc' := 8) rfl (hb hby d2_1) rfl ((if0 _ _).trans (feq hc1_1).2) (by decide) (by decide)) ?_
    show Go p.tables e below _ (T0.setTop (mkF m 8 #[.val (.int p1), .val (.int p2)] []))
    refine Go.by (fun _ => XS.iloadN X0.here hx rfl (hb hby d2_8) rfl) ?_
    show Go p.tables e below _ (T0.setTop (mkF m 9 #[.val (.int p1), .val (.int p2)] [(.int p2)]))
    refine Go.by (fun _ => XS.sipush X0.here hx rfl (hb hby d2_9)) ?_
    show Go p.tables e below _ (T0.setTop (mkF m 12 #[.val (.int p1), .val (.int p2)] [(.int (255 : Int32)), (.int p2)]))
    refine Go.by (fun _ => XS.iand X0.here hx rfl (hb hby d2_12) rfl) ?_
    show Go p.tables e below _ (T0.setTop (mkF m 13 #[.val (.int p1), .val (.int p2)] [(.int (p2 &&& (255 : Int32)))]))
    refine Go.by (fun _ => XS.i2c X0.here hx rfl (hb hby d2_13) rfl) ?_
    show Go p.tables e below _ (T0.setTop (mkF m 14 #[.val (.int p1), .val (.int p2)] [(.int ((p2 &&& (255 : Int32)).toUInt32.toUInt16.toUInt32.toInt32))]))
    obtain ⟨v3, T3, h3, X3, q3, xs3, st3⟩ := X0.callS hx hZ f0n (y := (⟨"java/lang/String", "valueOf", "(C)Ljava/lang/String;"⟩ : MethodName)) hown (tw hw 96 rfl) (tw hw 97 rfl) (tw hw 21 rfl) (tw hw 98 rfl) (by decide) (rm17 l Z a0 hw [] ((p2 &&& (255 : Int32)).toUInt32.toUInt16.toUInt32.toInt32) cs h0 n0 Z0 O0 S_CS0 hcs (own_c _)) (g := (mkF m 14 #[.val (.int p1), .val (.int p2)] [(.int ((p2 &&& (255 : Int32)).toUInt32.toUInt16.toUInt32.toInt32))])) rfl (by rw [hml]; rfl) (argsL := [(.int ((p2 &&& (255 : Int32)).toUInt32.toUInt16.toUInt32.toInt32))]) (rest := []) (lenOf pd11 rfl) rfl (hb hby d2_14) rfl (by decide) (Nat.le_of_ble_eq_true rfl) (k' := 2) (n' := 5) rfl rfl (by decide) (by decide)
    refine Go.by st3 ?_
    obtain ⟨r3, d3, kc3, rfl, sr3, sd3, K3, Ex3, Fv3, Fc3, V3⟩ := q3
    have g_r3 : n0 ≤ r3 := Nat.le_trans Z0 sr3
    have sz_r3 : h0.size ≤ r3 := Nat.le_trans K0.1 sr3
    have g_d3 : n0 ≤ d3 := Nat.le_trans Z0 sd3
    have sz_d3 : h0.size ≤ d3 := Nat.le_trans K0.1 sd3
    have f4_31 := O0.ext (keep_ext K3)
    have f4_32 := K0.ext (keep_ext K3)
    have Zs4 : n0 ≤ h3.size := Nat.le_trans Z0 (keep_ext K3).1
    show Go p.tables e below _ (T3.setTop (mkF m 17 #[.val (.int p1), .val (.int p2)] [(.ref r3)]))
    obtain ⟨v5, T5, h5, X5, q5, xs5, st5⟩ := X3.callS hx hZ f0n (y := (⟨"java/util/Optional", "of", "(Ljava/lang/Object;)Ljava/util/Optional;"⟩ : MethodName)) hown (tw hw 108 rfl) (tw hw 109 rfl) (tw hw 10 rfl) (tw hw 110 rfl) (by decide) (rm21 l Z a0 hw [] r3 h3 n0 Zs4) (g := (mkF m 17 #[.val (.int p1), .val (.int p2)] [(.ref r3)])) rfl (by rw [hml]; rfl) (argsL := [(.ref r3)]) (rest := []) (lenOf pd12 rfl) rfl (hb hby d2_17) rfl (by decide) (Nat.le_of_ble_eq_true rfl) (k' := 3) (n' := 6) rfl rfl (by decide) (by decide)
    refine Go.by st5 ?_
    obtain ⟨r5, rfl, sr5, K5⟩ := q5
    have f6_38 := f4_31.ext (keep_ext K5)
    have f6_39 := f4_32.ext (keep_ext K5)
    have f6_40 := Ex3.ext (keep_ext K5)
    have f6_41 := Fv3.ext (keep_ext K5)
    have f6_42 := Fc3.ext (keep_ext K5)
    have f6_43 := Avf.ext V3 (keep_ext K5)
    have Zs6 : n0 ≤ h5.size := Nat.le_trans Zs4 (keep_ext K5).1
    show Go p.tables e below _ (T5.setTop (mkF m 20 #[.val (.int p1), .val (.int p2)] [(.ref r5)]))
    exact Go.retA X5 hx hlk hret rfl rfl (hb hby d2_20) (by decide) (by decide) (fun _ z => z.elim) ⟨r5, rfl, f6_39⟩
theorem d4_0 : decode method_3_code 0 = .ok (.iload_n 0, 1) := by decide +kernel
theorem d4_1 : decode method_3_code 1 = .ok (.ifCond .ne 14, 3) := by decide +kernel
theorem d4_4 : decode method_3_code 4 = .ok (.new 36, 3) := by decide +kernel
theorem d4_7 : decode method_3_code 7 = .ok (.dup, 1) := by decide +kernel
theorem d4_8 : decode method_3_code 8 = .ok (.iconst 0, 1) := by decide +kernel
theorem d4_9 : decode method_3_code 9 = .ok (.newarray .char, 2) := by decide +kernel
theorem d4_11 : decode method_3_code 11 = .ok (.invokespecial 38, 3) := by decide +kernel
theorem pd13 : parseMethodDescriptor "([C)V" = some ⟨[(.array .char)], none⟩ := by decide +kernel
theorem d4_14 : decode method_3_code 14 = .ok (.areturn, 1) := by decide +kernel
theorem d4_15 : decode method_3_code 15 = .ok (.iload_n 0, 1) := by decide +kernel
theorem d4_16 : decode method_3_code 16 = .ok (.iconst 1, 1) := by decide +kernel
theorem d4_17 : decode method_3_code 17 = .ok (.if_icmp .ne 19, 3) := by decide +kernel
theorem d4_20 : decode method_3_code 20 = .ok (.new 36, 3) := by decide +kernel
theorem d4_23 : decode method_3_code 23 = .ok (.dup, 1) := by decide +kernel
theorem d4_24 : decode method_3_code 24 = .ok (.iconst 1, 1) := by decide +kernel
theorem d4_25 : decode method_3_code 25 = .ok (.newarray .char, 2) := by decide +kernel
theorem d4_27 : decode method_3_code 27 = .ok (.dup, 1) := by decide +kernel
theorem d4_28 : decode method_3_code 28 = .ok (.iconst 0, 1) := by decide +kernel
theorem d4_29 : decode method_3_code 29 = .ok (.iload_n 1, 1) := by decide +kernel
theorem d4_30 : decode method_3_code 30 = .ok (.i2c, 1) := by decide +kernel
theorem d4_31 : decode method_3_code 31 = .ok (.castore, 1) := by decide +kernel
theorem d4_32 : decode method_3_code 32 = .ok (.invokespecial 38, 3) := by decide +kernel
theorem d4_35 : decode method_3_code 35 = .ok (.areturn, 1) := by decide +kernel
theorem d4_36 : decode method_3_code 36 = .ok (.new 36, 3) := by decide +kernel
theorem d4_39 : decode method_3_code 39 = .ok (.dup, 1) := by decide +kernel
theorem d4_40 : decode method_3_code 40 = .ok (.iconst 2, 1) := by decide +kernel
theorem d4_41 : decode method_3_code 41 = .ok (.newarray .char, 2) := by decide +kernel
theorem d4_43 : decode method_3_code 43 = .ok (.dup, 1) := by decide +kernel
theorem d4_44 : decode method_3_code 44 = .ok (.iconst 0, 1) := by decide +kernel
theorem d4_45 : decode method_3_code 45 = .ok (.iload_n 1, 1) := by decide +kernel
theorem d4_46 : decode method_3_code 46 = .ok (.i2c, 1) := by decide +kernel
theorem d4_47 : decode method_3_code 47 = .ok (.castore, 1) := by decide +kernel
theorem d4_48 : decode method_3_code 48 = .ok (.dup, 1) := by decide +kernel
theorem d4_49 : decode method_3_code 49 = .ok (.iconst 1, 1) := by decide +kernel
theorem d4_50 : decode method_3_code 50 = .ok (.iload_n 2, 1) := by decide +kernel
theorem d4_51 : decode method_3_code 51 = .ok (.i2c, 1) := by decide +kernel
theorem d4_52 : decode method_3_code 52 = .ok (.castore, 1) := by decide +kernel
theorem d4_53 : decode method_3_code 53 = .ok (.invokespecial 38, 3) := by decide +kernel
theorem d4_56 : decode method_3_code 56 = .ok (.areturn, 1) := by decide +kernel
abbrev Rm4 : Room := { frames := 4, cells := 6, slots := 12, locals := 66 }
set_option maxRecDepth 65536 in
set_option maxHeartbeats 40000000 in
theorem rm4 (l : Launch) (Z : State) (a0 : Array Value) (hw : ∀ d ∈ tables_1, d.before a0 Z = true) (ws : List Jvm.Cond) (p1 : Int32) (p2 : Int32) (p3 : Int32) (cs : Int32) (h0 : Heap) (n0 : Nat) (Z0 : n0 ≤ h0.size) (O0 : Old Z n0 h0) (S_CS0 : Sta Z Z.heap "java/lang/String" "COMPACT_STRINGS" "Z" (.int cs)) (hcs : ¬ cs = 0) (hn1 : 0 ≤ p1.toInt ∧ p1.toInt ≤ 2) (hx2 : 0 ≤ p2.toInt ∧ p2.toInt ≤ 255) (hx3 : 0 ≤ p3.toInt ∧ p3.toInt ≤ 255) :
    Met l Z EL [] (fun _ _ _ => False) n0 (⟨"com/example/interlace/interlace/ColumnHoldsAlikePinLaw", "name", "(III)Ljava/lang/String;"⟩ : MethodName) method_3_code 3 (some (.object "java/lang/String")) ws Rm4 #[(.int p1), (.int p2), (.int p3)] h0 (fun v h => ∃ r b kc, v = some (.ref r) ∧ h0.size ≤ r ∧ Keep h0 h [] ∧ Exa Z h r "java/lang/String" ∧ Fld Z h r "java/lang/String" "value" "[B" (.ref b) ∧ Fld Z h r "java/lang/String" "coder" "B" (.int (0 : Int32)) ∧ Avf Z h b kc .byte (nmN p1) (fun i => (.int ((nmB p2 p3) i)))) := by
  refine enter (Ls := #[.val (.int p1), .val (.int p2), .val (.int p3)]) (plainFor_of_name pn6) (fun m => by first | (simp [entryFrame, mkF, argsToLocals, Value.category]; done) | rfl) ?_
  intro p e s m below meth c T0 hx hby hml hown hnm hret hlk hZ X0
  have K0 := Keep.refl h0 []
  show Go p.tables e below _ (T0.setTop (mkF m 0 #[.val (.int p1), .val (.int p2), .val (.int p3)] []))
  refine Go.by (fun _ => XS.iloadN X0.here hx rfl (hb hby d4_0) rfl) ?_
  show Go p.tables e below _ (T0.setTop (mkF m 1 #[.val (.int p1), .val (.int p2), .val (.int p3)] [(.int p1)]))
  by_cases hc1_1 : p1 = (0 : Int32)
  · skip
    refine Go.by (fun _ => XS.ifNo X0.here hx rfl (hb hby d4_1) rfl ((if0 _ _).trans (teq hc1_1).2)) ?_
    show Go p.tables e below _ (T0.setTop (mkF m 4 #[.val (.int p1), .val (.int p2), .val (.int p3)] []))
    obtain ⟨T2, h2, b2, X2, g2, E2, A2, D2, st2⟩ := X0.newOF hx hZ hown (tw hw 19 rfl) (tw hw 20 rfl) (tw hw 21 rfl) (g := (mkF m 4 #[.val (.int p1), .val (.int p2), .val (.int p3)] [])) rfl (hb hby d4_4) (k' := 1) (n' := 4) rfl rfl (by decide) (by decide)
    have g_b2 : n0 ≤ b2 := by rw [g2]; exact Z0
    have sz_b2 : h0.size ≤ b2 := by rw [g2]; exact K0.1
    have f3_11 := O0.ext E2
    have f3_12 := K0.ext E2
    have Zs3 : n0 ≤ h2.size := Nat.le_trans Z0 E2.1
    have F2_value : Fld Z h2 b2 "java/lang/String" "value" "[B" .null := D2 (Or.inr (tw hw 35 rfl)) (ty := (.array .byte)) (by decide)
    have F2_coder : Fld Z h2 b2 "java/lang/String" "coder" "B" (.int (0 : Int32)) := D2 (Or.inr (tw hw 36 rfl)) (ty := .byte) (by decide)
    refine Go.by st2 ?_
    show Go p.tables e below _ (T2.setTop (mkF m 7 #[.val (.int p1), .val (.int p2), .val (.int p3)] [(.ref b2)]))
    refine Go.by (fun _ => XS.dup X2.here hx rfl (hb hby d4_7) rfl rfl) ?_
    show Go p.tables e below _ (T2.setTop (mkF m 8 #[.val (.int p1), .val (.int p2), .val (.int p3)] [(.ref b2), (.ref b2)]))
    refine Go.by (fun _ => XS.iconst X2.here hx rfl (hb hby d4_8)) ?_
    show Go p.tables e below _ (T2.setTop (mkF m 9 #[.val (.int p1), .val (.int p2), .val (.int p3)] [(.int (0 : Int32)), (.ref b2), (.ref b2)]))
    obtain ⟨T4, h4, kc4, b4, X4, g4, E4, A4, V4, st4⟩ := X2.newP hx hZ (tw hw 22 rfl) (g := (mkF m 9 #[.val (.int p1), .val (.int p2), .val (.int p3)] [(.int (0 : Int32)), (.ref b2), (.ref b2)])) rfl (hb hby d4_9) rfl (by decide) (sz := 0) (cap := 0) (k' := 2) (n' := 4) rfl (Nat.le_refl _) (by decide) rfl rfl (by decide) (by decide) (ad := "[C") (by decide)
    have g_b4 : n0 ≤ b4 := by rw [g4]; exact Zs3
    have sz_b4 : h0.size ≤ b4 := by rw [g4]; exact f3_12.1
    have ne_b2_b4 : b2 ≠ b4 := Nat.ne_of_lt (by rw [g4]; exact A2.lt)
    have f5_26 := f3_11.ext E4
    have f5_27 := f3_12.ext E4
    have f5_28 := A2.ext E4
    have f5_29 := F2_value.ext E4
    have f5_30 := F2_coder.ext E4
    have Zs5 : n0 ≤ h4.size := Nat.le_trans Zs3 E4.1
    refine Go.by st4 ?_
    show Go p.tables e below _ (T4.setTop (mkF m 11 #[.val (.int p1), .val (.int p2), .val (.int p3)] [(.ref b4), (.ref b2), (.ref b2)]))
    have Vc6 := Avf.cong V4 (g := fun i => (.int ((chc p2 p3) i))) (fun i hi => by
      match i, hi with
      | k, q => exact absurd q (Nat.not_lt_zero _))
    obtain ⟨v7, T7, h7, X7, q7, xs7, st7⟩ := X4.callI hx hZ (f0s (List.mem_cons_self ..) f0n) (y := (⟨"java/lang/String", "<init>", "([C)V"⟩ : MethodName)) rfl hown (tw hw 23 rfl) (tw hw 24 rfl) (tw hw 21 rfl) (tw hw 25 rfl) (by decide) (rmW0 l Z a0 hw [] b2 b4 kc4 (chc p2 p3) cs h4 n0 Zs5 f5_26 S_CS0 hcs f5_28 g_b2 f5_29 f5_30 Vc6 (fun i _ => own_hc hx2.2 hx3.2 i)) (g := (mkF m 11 #[.val (.int p1), .val (.int p2), .val (.int p3)] [(.ref b4), (.ref b2), (.ref b2)])) rfl (by rw [hml]; rfl) (argsL := [(.ref b4)]) (rest := [(.ref b2)]) (lenOf pd13 rfl) rfl (hb hby d4_11) rfl (by decide) (Nat.le_of_ble_eq_true rfl) (k' := 6) (n' := 12) rfl rfl (by decide) (by decide)
    refine Go.by st7 ?_
    obtain ⟨rfl, K7, Ex7, d7, kc7, Fv7, Fc7, V7⟩ := q7
    have f8_40 := f5_26.keep K7 (allS g_b2 all0)
    have f8_41 := f5_27.trans K7 (allS (Or.inr sz_b2) all0)
    have f8_42 := f5_28.keep K7
    have f8_43 := A4.keep K7
    have f8_44 := Avf.keep Vc6 K7 (ninS (Ne.symm ne_b2_b4) nin0)
    have Zs8 : n0 ≤ h7.size := Nat.le_trans Zs5 K7.1
    have ne_d7_b2 : d7 ≠ b2 := exa_nev Ex7 (tw hw 20 rfl) V7
    have ne_d7_b4 : d7 ≠ b4 := avf_ne V7 f8_44 (by decide)
    show Go p.tables e below _ (T7.setTop (mkF m 14 #[.val (.int p1), .val (.int p2), .val (.int p3)] [(.ref b2)]))
    refine Go.retA X7 hx hlk hret rfl rfl (hb hby d4_14) (by decide) (by decide) (fun _ z => z.elim) ?_
    have eN : nmN p1 = 0 := by
      have e0 : (0 : Int32).toInt = 0 := rfl
      have e1 : (1 : Int32).toInt = 1 := rfl
      simp only [Int32.lt_iff_toInt_lt, ← Int32.toInt_inj, Int32.reduceToInt] at hc1_1
      show p1.toInt.toNat = 0
      omega
    refine ⟨b2, d7, kc7, rfl, sz_b2, f8_41, Ex7, Fv7, Fc7, ?_⟩
    rw [eN]
    refine Avf.cong V7 (fun i hi => ?_)
    simp only [chc, nmB]
    split <;> rfl
  · skip
    refine Go.by (fun _ => XS.ifYes X0.here hx rfl (pc0 := 1) (pc' := 15) rfl (hb hby d4_1) rfl ((if0 _ _).trans (feq hc1_1).2) (by decide) (by decide)) ?_
    show Go p.tables e below _ (T0.setTop (mkF m 15 #[.val (.int p1), .val (.int p2), .val (.int p3)] []))
    refine Go.by (fun _ => XS.iloadN X0.here hx rfl (hb hby d4_15) rfl) ?_
    show Go p.tables e below _ (T0.setTop (mkF m 16 #[.val (.int p1), .val (.int p2), .val (.int p3)] [(.int p1)]))
    refine Go.by (fun _ => XS.iconst X0.here hx rfl (hb hby d4_16)) ?_
    show Go p.tables e below _ (T0.setTop (mkF m 17 #[.val (.int p1), .val (.int p2), .val (.int p3)] [(.int (1 : Int32)), (.int p1)]))
    by_cases hc17_9 : p1 = (1 : Int32)
    · skip
      refine Go.by (fun _ => XS.icmpNo X0.here hx rfl (hb hby d4_17) rfl (teq hc17_9).2) ?_
      show Go p.tables e below _ (T0.setTop (mkF m 20 #[.val (.int p1), .val (.int p2), .val (.int p3)] []))
      obtain ⟨T10, h10, b10, X10, g10, E10, A10, D10, st10⟩ := X0.newOF hx hZ hown (tw hw 19 rfl) (tw hw 20 rfl) (tw hw 21 rfl) (g := (mkF m 20 #[.val (.int p1), .val (.int p2), .val (.int p3)] [])) rfl (hb hby d4_20) (k' := 1) (n' := 4) rfl rfl (by decide) (by decide)
      have g_b10 : n0 ≤ b10 := by rw [g10]; exact Z0
      have sz_b10 : h0.size ≤ b10 := by rw [g10]; exact K0.1
      have f11_75 := O0.ext E10
      have f11_76 := K0.ext E10
      have Zs11 : n0 ≤ h10.size := Nat.le_trans Z0 E10.1
      have F10_value : Fld Z h10 b10 "java/lang/String" "value" "[B" .null := D10 (Or.inr (tw hw 35 rfl)) (ty := (.array .byte)) (by decide)
      have F10_coder : Fld Z h10 b10 "java/lang/String" "coder" "B" (.int (0 : Int32)) := D10 (Or.inr (tw hw 36 rfl)) (ty := .byte) (by decide)
      refine Go.by st10 ?_
      show Go p.tables e below _ (T10.setTop (mkF m 23 #[.val (.int p1), .val (.int p2), .val (.int p3)] [(.ref b10)]))
      refine Go.by (fun _ => XS.dup X10.here hx rfl (hb hby d4_23) rfl rfl) ?_
      show Go p.tables e below _ (T10.setTop (mkF m 24 #[.val (.int p1), .val (.int p2), .val (.int p3)] [(.ref b10), (.ref b10)]))
      refine Go.by (fun _ => XS.iconst X10.here hx rfl (hb hby d4_24)) ?_
      show Go p.tables e below _ (T10.setTop (mkF m 25 #[.val (.int p1), .val (.int p2), .val (.int p3)] [(.int (1 : Int32)), (.ref b10), (.ref b10)]))
      obtain ⟨T12, h12, kc12, b12, X12, g12, E12, A12, V12, st12⟩ := X10.newP hx hZ (tw hw 22 rfl) (g := (mkF m 25 #[.val (.int p1), .val (.int p2), .val (.int p3)] [(.int (1 : Int32)), (.ref b10), (.ref b10)])) rfl (hb hby d4_25) rfl (by decide) (sz := 1) (cap := 1) (k' := 2) (n' := 5) rfl (Nat.le_refl _) (by decide) rfl rfl (by decide) (by decide) (ad := "[C") (by decide)
      have g_b12 : n0 ≤ b12 := by rw [g12]; exact Zs11
      have sz_b12 : h0.size ≤ b12 := by rw [g12]; exact f11_76.1
      have ne_b10_b12 : b10 ≠ b12 := Nat.ne_of_lt (by rw [g12]; exact A10.lt)
      have f13_90 := f11_75.ext E12
      have f13_91 := f11_76.ext E12
      have f13_92 := A10.ext E12
      have f13_93 := F10_value.ext E12
      have f13_94 := F10_coder.ext E12
      have Zs13 : n0 ≤ h12.size := Nat.le_trans Zs11 E12.1
      refine Go.by st12 ?_
      show Go p.tables e below _ (T12.setTop (mkF m 27 #[.val (.int p1), .val (.int p2), .val (.int p3)] [(.ref b12), (.ref b10), (.ref b10)]))
      refine Go.by (fun _ => XS.dup X12.here hx rfl (hb hby d4_27) rfl rfl) ?_
      show Go p.tables e below _ (T12.setTop (mkF m 28 #[.val (.int p1), .val (.int p2), .val (.int p3)] [(.ref b12), (.ref b12), (.ref b10), (.ref b10)]))
      refine Go.by (fun _ => XS.iconst X12.here hx rfl (hb hby d4_28)) ?_
      show Go p.tables e below _ (T12.setTop (mkF m 29 #[.val (.int p1), .val (.int p2), .val (.int p3)] [(.int (0 : Int32)), (.ref b12), (.ref b12), (.ref b10), (.ref b10)]))
      refine Go.by (fun _ => XS.iloadN X12.here hx rfl (hb hby d4_29) rfl) ?_
      show Go p.tables e below _ (T12.setTop (mkF m 30 #[.val (.int p1), .val (.int p2), .val (.int p3)] [(.int p2), (.int (0 : Int32)), (.ref b12), (.ref b12), (.ref b10), (.ref b10)]))
      refine Go.by (fun _ => XS.i2c X12.here hx rfl (hb hby d4_30) rfl) ?_
      show Go p.tables e below _ (T12.setTop (mkF m 31 #[.val (.int p1), .val (.int p2), .val (.int p3)] [(.int (p2.toUInt32.toUInt16.toUInt32.toInt32)), (.int (0 : Int32)), (.ref b12), (.ref b12), (.ref b10), (.ref b10)]))
      obtain ⟨T14, h14, X14, W14, V14, st14⟩ := X12.stC hx hZ V12 g_b12 (by decide) (i := 0) rfl (by decide) (g := (mkF m 31 #[.val (.int p1), .val (.int p2), .val (.int p3)] [(.int (p2.toUInt32.toUInt16.toUInt32.toInt32)), (.int (0 : Int32)), (.ref b12), (.ref b12), (.ref b10), (.ref b10)])) rfl rfl (hb hby d4_31)
      have f15_107 := f13_90.wr W14 g_b12
      have f15_108 := f13_91.wr W14 (Or.inr sz_b12)
      have f15_109 := f13_92.wr W14
      have f15_110 := f13_93.other W14 (Or.inl ne_b10_b12)
      have f15_111 := f13_94.other W14 (Or.inl ne_b10_b12)
      have f15_112 := A12.wr W14
      have Zs15 : n0 ≤ h14.size := by rw [W14.size]; exact Zs13
      refine Go.by st14 ?_
      show Go p.tables e below _ (T14.setTop (mkF m 32 #[.val (.int p1), .val (.int p2), .val (.int p3)] [(.ref b12), (.ref b10), (.ref b10)]))
      have Vc16 := Avf.cong V14 (g := fun i => (.int ((chc p2 p3) i))) (fun i hi => by
        match i, hi with
        | 0, _ => exact congrArg Value.int (own_nc hx2))
      obtain ⟨v17, T17, h17, X17, q17, xs17, st17⟩ := X14.callI hx hZ (f0s (List.mem_cons_self ..) f0n) (y := (⟨"java/lang/String", "<init>", "([C)V"⟩ : MethodName)) rfl hown (tw hw 23 rfl) (tw hw 24 rfl) (tw hw 21 rfl) (tw hw 25 rfl) (by decide) (rmW1 l Z a0 hw [] b10 b12 kc12 (chc p2 p3) cs h14 n0 Zs15 f15_107 S_CS0 hcs f15_109 g_b10 f15_110 f15_111 Vc16 (fun i _ => own_hc hx2.2 hx3.2 i)) (g := (mkF m 32 #[.val (.int p1), .val (.int p2), .val (.int p3)] [(.ref b12), (.ref b10), (.ref b10)])) rfl (by rw [hml]; rfl) (argsL := [(.ref b12)]) (rest := [(.ref b10)]) (lenOf pd13 rfl) rfl (hb hby d4_32) rfl (by decide) (Nat.le_of_ble_eq_true rfl) (k' := 3) (n' := 6) rfl rfl (by decide) (by decide)
      refine Go.by st17 ?_
      obtain ⟨rfl, K17, Ex17, d17, kc17, Fv17, Fc17, V17⟩ := q17
      have f18_122 := f15_107.keep K17 (allS g_b10 all0)
      have f18_123 := f15_108.trans K17 (allS (Or.inr sz_b10) all0)
      have f18_124 := f15_109.keep K17
      have f18_125 := f15_112.keep K17
      have f18_126 := Avf.keep Vc16 K17 (ninS (Ne.symm ne_b10_b12) nin0)
      have Zs18 : n0 ≤ h17.size := Nat.le_trans Zs15 K17.1
      have ne_d17_b10 : d17 ≠ b10 := exa_nev Ex17 (tw hw 20 rfl) V17
      have ne_d17_b12 : d17 ≠ b12 := avf_ne V17 f18_126 (by decide)
      show Go p.tables e below _ (T17.setTop (mkF m 35 #[.val (.int p1), .val (.int p2), .val (.int p3)] [(.ref b10)]))
      refine Go.retA X17 hx hlk hret rfl rfl (hb hby d4_35) (by decide) (by decide) (fun _ z => z.elim) ?_
      have eN : nmN p1 = 1 := by
        have e0 : (0 : Int32).toInt = 0 := rfl
        have e1 : (1 : Int32).toInt = 1 := rfl
        simp only [Int32.lt_iff_toInt_lt, ← Int32.toInt_inj, Int32.reduceToInt] at hc1_1
        simp only [Int32.lt_iff_toInt_lt, ← Int32.toInt_inj, Int32.reduceToInt] at hc17_9
        show p1.toInt.toNat = 1
        omega
      refine ⟨b10, d17, kc17, rfl, sz_b10, f18_123, Ex17, Fv17, Fc17, ?_⟩
      rw [eN]
      refine Avf.cong V17 (fun i hi => ?_)
      simp only [chc, nmB]
      split <;> rfl
    · skip
      refine Go.by (fun _ => XS.icmpYes X0.here hx rfl (pc0 := 17) (pc' := 36) rfl (hb hby d4_17) rfl (feq hc17_9).2 (by decide) (by decide)) ?_
      show Go p.tables e below _ (T0.setTop (mkF m 36 #[.val (.int p1), .val (.int p2), .val (.int p3)] []))
      obtain ⟨T19, h19, b19, X19, g19, E19, A19, D19, st19⟩ := X0.newOF hx hZ hown (tw hw 19 rfl) (tw hw 20 rfl) (tw hw 21 rfl) (g := (mkF m 36 #[.val (.int p1), .val (.int p2), .val (.int p3)] [])) rfl (hb hby d4_36) (k' := 1) (n' := 4) rfl rfl (by decide) (by decide)
      have g_b19 : n0 ≤ b19 := by rw [g19]; exact Z0
      have sz_b19 : h0.size ≤ b19 := by rw [g19]; exact K0.1
      have f20_150 := O0.ext E19
      have f20_151 := K0.ext E19
      have Zs20 : n0 ≤ h19.size := Nat.le_trans Z0 E19.1
      have F19_value : Fld Z h19 b19 "java/lang/String" "value" "[B" .null := D19 (Or.inr (tw hw 35 rfl)) (ty := (.array .byte)) (by decide)
      have F19_coder : Fld Z h19 b19 "java/lang/String" "coder" "B" (.int (0 : Int32)) := D19 (Or.inr (tw hw 36 rfl)) (ty := .byte) (by decide)
      refine Go.by st19 ?_
      show Go p.tables e below _ (T19.setTop (mkF m 39 #[.val (.int p1), .val (.int p2), .val (.int p3)] [(.ref b19)]))
      refine Go.by (fun _ => XS.dup X19.here hx rfl (hb hby d4_39) rfl rfl) ?_
      show Go p.tables e below _ (T19.setTop (mkF m 40 #[.val (.int p1), .val (.int p2), .val (.int p3)] [(.ref b19), (.ref b19)]))
      refine Go.by (fun _ => XS.iconst X19.here hx rfl (hb hby d4_40)) ?_
      show Go p.tables e below _ (T19.setTop (mkF m 41 #[.val (.int p1), .val (.int p2), .val (.int p3)] [(.int (2 : Int32)), (.ref b19), (.ref b19)]))
      obtain ⟨T21, h21, kc21, b21, X21, g21, E21, A21, V21, st21⟩ := X19.newP hx hZ (tw hw 22 rfl) (g := (mkF m 41 #[.val (.int p1), .val (.int p2), .val (.int p3)] [(.int (2 : Int32)), (.ref b19), (.ref b19)])) rfl (hb hby d4_41) rfl (by decide) (sz := 2) (cap := 2) (k' := 2) (n' := 6) rfl (Nat.le_refl _) (by decide) rfl rfl (by decide) (by decide) (ad := "[C") (by decide)
      have g_b21 : n0 ≤ b21 := by rw [g21]; exact Zs20
      have sz_b21 : h0.size ≤ b21 := by rw [g21]; exact f20_151.1
      have ne_b19_b21 : b19 ≠ b21 := Nat.ne_of_lt (by rw [g21]; exact A19.lt)
      have f22_165 := f20_150.ext E21
      have f22_166 := f20_151.ext E21
      have f22_167 := A19.ext E21
      have f22_168 := F19_value.ext E21
      have f22_169 := F19_coder.ext E21
      have Zs22 : n0 ≤ h21.size := Nat.le_trans Zs20 E21.1
      refine Go.by st21 ?_
      show Go p.tables e below _ (T21.setTop (mkF m 43 #[.val (.int p1), .val (.int p2), .val (.int p3)] [(.ref b21), (.ref b19), (.ref b19)]))
      refine Go.by (fun _ => XS.dup X21.here hx rfl (hb hby d4_43) rfl rfl) ?_
      show Go p.tables e below _ (T21.setTop (mkF m 44 #[.val (.int p1), .val (.int p2), .val (.int p3)] [(.ref b21), (.ref b21), (.ref b19), (.ref b19)]))
      refine Go.by (fun _ => XS.iconst X21.here hx rfl (hb hby d4_44)) ?_
      show Go p.tables e below _ (T21.setTop (mkF m 45 #[.val (.int p1), .val (.int p2), .val (.int p3)] [(.int (0 : Int32)), (.ref b21), (.ref b21), (.ref b19), (.ref b19)]))
      refine Go.by (fun _ => XS.iloadN X21.here hx rfl (hb hby d4_45) rfl) ?_
      show Go p.tables e below _ (T21.setTop (mkF m 46 #[.val (.int p1), .val (.int p2), .val (.int p3)] [(.int p2), (.int (0 : Int32)), (.ref b21), (.ref b21), (.ref b19), (.ref b19)]))
      refine Go.by (fun _ => XS.i2c X21.here hx rfl (hb hby d4_46) rfl) ?_
      show Go p.tables e below _ (T21.setTop (mkF m 47 #[.val (.int p1), .val (.int p2), .val (.int p3)] [(.int (p2.toUInt32.toUInt16.toUInt32.toInt32)), (.int (0 : Int32)), (.ref b21), (.ref b21), (.ref b19), (.ref b19)]))
      obtain ⟨T23, h23, X23, W23, V23, st23⟩ := X21.stC hx hZ V21 g_b21 (by decide) (i := 0) rfl (by decide) (g := (mkF m 47 #[.val (.int p1), .val (.int p2), .val (.int p3)] [(.int (p2.toUInt32.toUInt16.toUInt32.toInt32)), (.int (0 : Int32)), (.ref b21), (.ref b21), (.ref b19), (.ref b19)])) rfl rfl (hb hby d4_47)
      have f24_182 := f22_165.wr W23 g_b21
      have f24_183 := f22_166.wr W23 (Or.inr sz_b21)
      have f24_184 := f22_167.wr W23
      have f24_185 := f22_168.other W23 (Or.inl ne_b19_b21)
      have f24_186 := f22_169.other W23 (Or.inl ne_b19_b21)
      have f24_187 := A21.wr W23
      have Zs24 : n0 ≤ h23.size := by rw [W23.size]; exact Zs22
      refine Go.by st23 ?_
      show Go p.tables e below _ (T23.setTop (mkF m 48 #[.val (.int p1), .val (.int p2), .val (.int p3)] [(.ref b21), (.ref b19), (.ref b19)]))
      refine Go.by (fun _ => XS.dup X23.here hx rfl (hb hby d4_48) rfl rfl) ?_
      show Go p.tables e below _ (T23.setTop (mkF m 49 #[.val (.int p1), .val (.int p2), .val (.int p3)] [(.ref b21), (.ref b21), (.ref b19), (.ref b19)]))
      refine Go.by (fun _ => XS.iconst X23.here hx rfl (hb hby d4_49)) ?_
      show Go p.tables e below _ (T23.setTop (mkF m 50 #[.val (.int p1), .val (.int p2), .val (.int p3)] [(.int (1 : Int32)), (.ref b21), (.ref b21), (.ref b19), (.ref b19)]))
      refine Go.by (fun _ => XS.iloadN X23.here hx rfl (hb hby d4_50) rfl) ?_
      show Go p.tables e below _ (T23.setTop (mkF m 51 #[.val (.int p1), .val (.int p2), .val (.int p3)] [(.int p3), (.int (1 : Int32)), (.ref b21), (.ref b21), (.ref b19), (.ref b19)]))
      refine Go.by (fun _ => XS.i2c X23.here hx rfl (hb hby d4_51) rfl) ?_
      show Go p.tables e below _ (T23.setTop (mkF m 52 #[.val (.int p1), .val (.int p2), .val (.int p3)] [(.int (p3.toUInt32.toUInt16.toUInt32.toInt32)), (.int (1 : Int32)), (.ref b21), (.ref b21), (.ref b19), (.ref b19)]))
      obtain ⟨T25, h25, X25, W25, V25, st25⟩ := X23.stC hx hZ V23 g_b21 (by decide) (i := 1) rfl (by decide) (g := (mkF m 52 #[.val (.int p1), .val (.int p2), .val (.int p3)] [(.int (p3.toUInt32.toUInt16.toUInt32.toInt32)), (.int (1 : Int32)), (.ref b21), (.ref b21), (.ref b19), (.ref b19)])) rfl rfl (hb hby d4_52)
      have f26_200 := f24_182.wr W25 g_b21
      have f26_201 := f24_183.wr W25 (Or.inr sz_b21)
      have f26_202 := f24_184.wr W25
      have f26_203 := f24_185.other W25 (Or.inl ne_b19_b21)
      have f26_204 := f24_186.other W25 (Or.inl ne_b19_b21)
      have f26_205 := f24_187.wr W25
      have Zs26 : n0 ≤ h25.size := by rw [W25.size]; exact Zs24
      refine Go.by st25 ?_
      show Go p.tables e below _ (T25.setTop (mkF m 53 #[.val (.int p1), .val (.int p2), .val (.int p3)] [(.ref b21), (.ref b19), (.ref b19)]))
      have Vc27 := Avf.cong V25 (g := fun i => (.int ((chc p2 p3) i))) (fun i hi => by
        match i, hi with
        | 0, _ => exact congrArg Value.int (own_nc hx2)
        | 1, _ => exact congrArg Value.int (own_nc hx3))
      obtain ⟨v28, T28, h28, X28, q28, xs28, st28⟩ := X25.callI hx hZ (f0s (List.mem_cons_self ..) f0n) (y := (⟨"java/lang/String", "<init>", "([C)V"⟩ : MethodName)) rfl hown (tw hw 23 rfl) (tw hw 24 rfl) (tw hw 21 rfl) (tw hw 25 rfl) (by decide) (rmW2 l Z a0 hw [] b19 b21 kc21 (chc p2 p3) cs h25 n0 Zs26 f26_200 S_CS0 hcs f26_202 g_b19 f26_203 f26_204 Vc27 (fun i _ => own_hc hx2.2 hx3.2 i)) (g := (mkF m 53 #[.val (.int p1), .val (.int p2), .val (.int p3)] [(.ref b21), (.ref b19), (.ref b19)])) rfl (by rw [hml]; rfl) (argsL := [(.ref b21)]) (rest := [(.ref b19)]) (lenOf pd13 rfl) rfl (hb hby d4_53) rfl (by decide) (Nat.le_of_ble_eq_true rfl) (k' := 3) (n' := 8) rfl rfl (by decide) (by decide)
      refine Go.by st28 ?_
      obtain ⟨rfl, K28, Ex28, d28, kc28, Fv28, Fc28, V28⟩ := q28
      have f29_216 := f26_200.keep K28 (allS g_b19 all0)
      have f29_217 := f26_201.trans K28 (allS (Or.inr sz_b19) all0)
      have f29_218 := f26_202.keep K28
      have f29_219 := f26_205.keep K28
      have f29_220 := Avf.keep Vc27 K28 (ninS (Ne.symm ne_b19_b21) nin0)
      have Zs29 : n0 ≤ h28.size := Nat.le_trans Zs26 K28.1
      have ne_d28_b19 : d28 ≠ b19 := exa_nev Ex28 (tw hw 20 rfl) V28
      have ne_d28_b21 : d28 ≠ b21 := avf_ne V28 f29_220 (by decide)
      show Go p.tables e below _ (T28.setTop (mkF m 56 #[.val (.int p1), .val (.int p2), .val (.int p3)] [(.ref b19)]))
      refine Go.retA X28 hx hlk hret rfl rfl (hb hby d4_56) (by decide) (by decide) (fun _ z => z.elim) ?_
      have eN : nmN p1 = 2 := by
        have e0 : (0 : Int32).toInt = 0 := rfl
        have e1 : (1 : Int32).toInt = 1 := rfl
        simp only [Int32.lt_iff_toInt_lt, ← Int32.toInt_inj, Int32.reduceToInt] at hc1_1
        simp only [Int32.lt_iff_toInt_lt, ← Int32.toInt_inj, Int32.reduceToInt] at hc17_9
        show p1.toInt.toNat = 2
        omega
      refine ⟨b19, d28, kc28, rfl, sz_b19, f29_217, Ex28, Fv28, Fc28, ?_⟩
      rw [eN]
      refine Avf.cong V28 (fun i hi => ?_)
      simp only [chc, nmB]
      split <;> rfl
theorem d8_0 : decode method_5_code 0 = .ok (.iload_n 0, 1) := by decide +kernel
theorem d8_1 : decode method_5_code 1 = .ok (.ifCond .ne 7, 3) := by decide +kernel
theorem d8_4 : decode method_5_code 4 = .ok (.getstatic 55, 3) := by decide +kernel
theorem d8_7 : decode method_5_code 7 = .ok (.areturn, 1) := by decide +kernel
theorem d8_8 : decode method_5_code 8 = .ok (.iload_n 0, 1) := by decide +kernel
theorem d8_9 : decode method_5_code 9 = .ok (.iconst 1, 1) := by decide +kernel
theorem d8_10 : decode method_5_code 10 = .ok (.if_icmp .ne 7, 3) := by decide +kernel
theorem d8_13 : decode method_5_code 13 = .ok (.getstatic 61, 3) := by decide +kernel
theorem d8_16 : decode method_5_code 16 = .ok (.areturn, 1) := by decide +kernel
theorem d8_17 : decode method_5_code 17 = .ok (.iload_n 0, 1) := by decide +kernel
theorem d8_18 : decode method_5_code 18 = .ok (.iconst 2, 1) := by decide +kernel
theorem d8_19 : decode method_5_code 19 = .ok (.if_icmp .ne 7, 3) := by decide +kernel
theorem d8_22 : decode method_5_code 22 = .ok (.getstatic 64, 3) := by decide +kernel
theorem d8_25 : decode method_5_code 25 = .ok (.areturn, 1) := by decide +kernel
theorem d8_26 : decode method_5_code 26 = .ok (.iload_n 0, 1) := by decide +kernel
theorem d8_27 : decode method_5_code 27 = .ok (.iconst 3, 1) := by decide +kernel
theorem d8_28 : decode method_5_code 28 = .ok (.if_icmp .ne 7, 3) := by decide +kernel
theorem d8_31 : decode method_5_code 31 = .ok (.getstatic 67, 3) := by decide +kernel
theorem d8_34 : decode method_5_code 34 = .ok (.areturn, 1) := by decide +kernel
theorem d8_35 : decode method_5_code 35 = .ok (.iload_n 0, 1) := by decide +kernel
theorem d8_36 : decode method_5_code 36 = .ok (.iconst 4, 1) := by decide +kernel
theorem d8_37 : decode method_5_code 37 = .ok (.if_icmp .ne 7, 3) := by decide +kernel
theorem d8_40 : decode method_5_code 40 = .ok (.getstatic 70, 3) := by decide +kernel
theorem d8_43 : decode method_5_code 43 = .ok (.areturn, 1) := by decide +kernel
theorem d8_44 : decode method_5_code 44 = .ok (.iload_n 0, 1) := by decide +kernel
theorem d8_45 : decode method_5_code 45 = .ok (.iconst 5, 1) := by decide +kernel
theorem d8_46 : decode method_5_code 46 = .ok (.if_icmp .ne 7, 3) := by decide +kernel
theorem d8_49 : decode method_5_code 49 = .ok (.getstatic 73, 3) := by decide +kernel
theorem d8_52 : decode method_5_code 52 = .ok (.areturn, 1) := by decide +kernel
theorem d8_53 : decode method_5_code 53 = .ok (.iload_n 0, 1) := by decide +kernel
theorem d8_54 : decode method_5_code 54 = .ok (.bipush 6, 2) := by decide +kernel
theorem d8_56 : decode method_5_code 56 = .ok (.if_icmp .ne 7, 3) := by decide +kernel
theorem d8_59 : decode method_5_code 59 = .ok (.getstatic 76, 3) := by decide +kernel
theorem d8_62 : decode method_5_code 62 = .ok (.areturn, 1) := by decide +kernel
theorem d8_63 : decode method_5_code 63 = .ok (.iload_n 0, 1) := by decide +kernel
theorem d8_64 : decode method_5_code 64 = .ok (.bipush 7, 2) := by decide +kernel
theorem d8_66 : decode method_5_code 66 = .ok (.if_icmp .ne 7, 3) := by decide +kernel
theorem d8_69 : decode method_5_code 69 = .ok (.getstatic 79, 3) := by decide +kernel
theorem d8_72 : decode method_5_code 72 = .ok (.areturn, 1) := by decide +kernel
theorem d8_73 : decode method_5_code 73 = .ok (.iload_n 0, 1) := by decide +kernel
theorem d8_74 : decode method_5_code 74 = .ok (.bipush 8, 2) := by decide +kernel
theorem d8_76 : decode method_5_code 76 = .ok (.if_icmp .ne 7, 3) := by decide +kernel
theorem d8_79 : decode method_5_code 79 = .ok (.getstatic 82, 3) := by decide +kernel
theorem d8_82 : decode method_5_code 82 = .ok (.areturn, 1) := by decide +kernel
theorem d8_83 : decode method_5_code 83 = .ok (.iload_n 0, 1) := by decide +kernel
theorem d8_84 : decode method_5_code 84 = .ok (.bipush 9, 2) := by decide +kernel
theorem d8_86 : decode method_5_code 86 = .ok (.if_icmp .ne 7, 3) := by decide +kernel
theorem d8_89 : decode method_5_code 89 = .ok (.getstatic 85, 3) := by decide +kernel
theorem d8_92 : decode method_5_code 92 = .ok (.areturn, 1) := by decide +kernel
theorem d8_93 : decode method_5_code 93 = .ok (.getstatic 88, 3) := by decide +kernel
theorem d8_96 : decode method_5_code 96 = .ok (.areturn, 1) := by decide +kernel
abbrev Rm8 : Room := { frames := 0, cells := 0, slots := 0, locals := 0 }
set_option maxRecDepth 65536 in
set_option maxHeartbeats 40000000 in
theorem rm8 (l : Launch) (Z : State) (a0 : Array Value) (hw : ∀ d ∈ tables_1, d.before a0 Z = true) (ws : List Jvm.Cond) (p1 : Int32) (a_SMALLINT : Addr) (a_INTEGER : Addr) (a_NUMERIC : Addr) (a_REAL : Addr) (a_TIMESTAMPTZ : Addr) (a_JSONB : Addr) (a_BIGINT : Addr) (a_DOUBLE_PRECISION : Addr) (a_BOOLEAN : Addr) (a_TEXT : Addr) (a_VARCHAR : Addr) (h0 : Heap) (n0 : Nat) (Z0 : n0 ≤ h0.size) (O0 : Old Z n0 h0) (S_SMALLINT0 : Sta Z Z.heap "com/example/interlace/interlace/DataType" "SMALLINT" "Lcom/example/interlace/interlace/DataType;" (.ref a_SMALLINT)) (S_INTEGER0 : Sta Z Z.heap "com/example/interlace/interlace/DataType" "INTEGER" "Lcom/example/interlace/interlace/DataType;" (.ref a_INTEGER)) (S_NUMERIC0 : Sta Z Z.heap "com/example/interlace/interlace/DataType" "NUMERIC" "Lcom/example/interlace/interlace/DataType;" (.ref a_NUMERIC)) (S_REAL0 : Sta Z Z.heap "com/example/interlace/interlace/DataType" "REAL" "Lcom/example/interlace/interlace/DataType;" (.ref a_REAL)) (S_TIMESTAMPTZ0 : Sta Z Z.heap "com/example/interlace/interlace/DataType" "TIMESTAMPTZ" "Lcom/example/interlace/interlace/DataType;" (.ref a_TIMESTAMPTZ)) (S_JSONB0 : Sta Z Z.heap "com/example/interlace/interlace/DataType" "JSONB" "Lcom/example/interlace/interlace/DataType;" (.ref a_JSONB)) (S_BIGINT0 : Sta Z Z.heap "com/example/interlace/interlace/DataType" "BIGINT" "Lcom/example/interlace/interlace/DataType;" (.ref a_BIGINT)) (S_DOUBLE_PRECISION0 : Sta Z Z.heap "com/example/interlace/interlace/DataType" "DOUBLE_PRECISION" "Lcom/example/interlace/interlace/DataType;" (.ref a_DOUBLE_PRECISION)) (S_BOOLEAN0 : Sta Z Z.heap "com/example/interlace/interlace/DataType" "BOOLEAN" "Lcom/example/interlace/interlace/DataType;" (.ref a_BOOLEAN)) (S_TEXT0 : Sta Z Z.heap "com/example/interlace/interlace/DataType" "TEXT" "Lcom/example/interlace/interlace/DataType;" (.ref a_TEXT)) (S_VARCHAR0 : Sta Z Z.heap "com/example/interlace/interlace/DataType" "VARCHAR" "Lcom/example/interlace/interlace/DataType;" (.ref a_VARCHAR)) (E_SMALLINT0 : Exa Z Z.heap a_SMALLINT "com/example/interlace/interlace/DataType$1") (E_INTEGER0 : Exa Z Z.heap a_INTEGER "com/example/interlace/interlace/DataType$2") (E_NUMERIC0 : Exa Z Z.heap a_NUMERIC "com/example/interlace/interlace/DataType$3") (E_REAL0 : Exa Z Z.heap a_REAL "com/example/interlace/interlace/DataType$4") (E_TIMESTAMPTZ0 : Exa Z Z.heap a_TIMESTAMPTZ "com/example/interlace/interlace/DataType$5") (E_JSONB0 : Exa Z Z.heap a_JSONB "com/example/interlace/interlace/DataType$6") (E_BIGINT0 : Exa Z Z.heap a_BIGINT "com/example/interlace/interlace/DataType$7") (E_DOUBLE_PRECISION0 : Exa Z Z.heap a_DOUBLE_PRECISION "com/example/interlace/interlace/DataType$8") (E_BOOLEAN0 : Exa Z Z.heap a_BOOLEAN "com/example/interlace/interlace/DataType$9") (E_TEXT0 : Exa Z Z.heap a_TEXT "com/example/interlace/interlace/DataType$10") (E_VARCHAR0 : Exa Z Z.heap a_VARCHAR "com/example/interlace/interlace/DataType$11") :
    Met l Z EL [] (fun _ _ _ => False) n0 (⟨"com/example/interlace/interlace/ColumnHoldsAlikePinLaw", "type", "(I)Lcom/example/interlace/interlace/DataType;"⟩ : MethodName) method_5_code 1 (some (.object "com/example/interlace/interlace/DataType")) ws Rm8 #[(.int p1)] h0 (fun v h => ∃ t, v = some (.ref t) ∧ t = (if p1 = (0 : Int32) then a_SMALLINT else (if p1 = (1 : Int32) then a_INTEGER else (if p1 = (2 : Int32) then a_NUMERIC else (if p1 = (3 : Int32) then a_REAL else (if p1 = (4 : Int32) then a_TIMESTAMPTZ else (if p1 = (5 : Int32) then a_JSONB else (if p1 = (6 : Int32) then a_BIGINT else (if p1 = (7 : Int32) then a_DOUBLE_PRECISION else (if p1 = (8 : Int32) then a_BOOLEAN else (if p1 = (9 : Int32) then a_TEXT else a_VARCHAR)))))))))) ∧ Exa Z h0 t (clsN p1) ∧ h0 = h) := by
  refine enter (Ls := #[.val (.int p1)]) (plainFor_of_name pn6) (fun m => by first | (simp [entryFrame, mkF, argsToLocals, Value.category]; done) | rfl) ?_
  intro p e s m below meth c T0 hx hby hml hown hnm hret hlk hZ X0
  have S_SMALLINT := S_SMALLINT0.ext O0.2
  have S_INTEGER := S_INTEGER0.ext O0.2
  have S_NUMERIC := S_NUMERIC0.ext O0.2
  have S_REAL := S_REAL0.ext O0.2
  have S_TIMESTAMPTZ := S_TIMESTAMPTZ0.ext O0.2
  have S_JSONB := S_JSONB0.ext O0.2
  have S_BIGINT := S_BIGINT0.ext O0.2
  have S_DOUBLE_PRECISION := S_DOUBLE_PRECISION0.ext O0.2
  have S_BOOLEAN := S_BOOLEAN0.ext O0.2
  have S_TEXT := S_TEXT0.ext O0.2
  have S_VARCHAR := S_VARCHAR0.ext O0.2
  have E_SMALLINT := E_SMALLINT0.ext O0.2
  have E_INTEGER := E_INTEGER0.ext O0.2
  have E_NUMERIC := E_NUMERIC0.ext O0.2
  have E_REAL := E_REAL0.ext O0.2
  have E_TIMESTAMPTZ := E_TIMESTAMPTZ0.ext O0.2
  have E_JSONB := E_JSONB0.ext O0.2
  have E_BIGINT := E_BIGINT0.ext O0.2
  have E_DOUBLE_PRECISION := E_DOUBLE_PRECISION0.ext O0.2
  have E_BOOLEAN := E_BOOLEAN0.ext O0.2
  have E_TEXT := E_TEXT0.ext O0.2
  have E_VARCHAR := E_VARCHAR0.ext O0.2
  show Go p.tables e below _ (T0.setTop (mkF m 0 #[.val (.int p1)] []))
  refine Go.by (fun _ => XS.iloadN X0.here hx rfl (hb hby d8_0) rfl) ?_
  show Go p.tables e below _ (T0.setTop (mkF m 1 #[.val (.int p1)] [(.int p1)]))
  by_cases hc1_1 : p1 = (0 : Int32)
  · skip
    refine Go.by (fun _ => XS.ifNo X0.here hx rfl (hb hby d8_1) rfl ((if0 _ _).trans (teq hc1_1).2)) ?_
    show Go p.tables e below _ (T0.setTop (mkF m 4 #[.val (.int p1)] []))
    obtain ⟨T2, X2, st2⟩ := X0.getS hx hZ hown (host := "") (Or.inl (tw hw 94 rfl)) Via.refl S_SMALLINT (g := (mkF m 4 #[.val (.int p1)] [])) rfl (hb hby d8_4)
    refine Go.by st2 ?_
    show Go p.tables e below _ (T2.setTop (mkF m 7 #[.val (.int p1)] [(.ref a_SMALLINT)]))
    refine Go.retA X2 hx hlk hret rfl rfl (hb hby d8_7) (by decide) (by decide) (fun _ z => z.elim) ?_
    refine ⟨_, rfl, by rw [if_pos hc1_1], ?_, rfl⟩
    rw [show clsN p1 = "com/example/interlace/interlace/DataType$1" from by unfold clsN; rw [if_pos hc1_1]]
    exact E_SMALLINT
  · skip
    refine Go.by (fun _ => XS.ifYes X0.here hx rfl (pc0 := 1) (pc' := 8) rfl (hb hby d8_1) rfl ((if0 _ _).trans (feq hc1_1).2) (by decide) (by decide)) ?_
    show Go p.tables e below _ (T0.setTop (mkF m 8 #[.val (.int p1)] []))
    refine Go.by (fun _ => XS.iloadN X0.here hx rfl (hb hby d8_8) rfl) ?_
    show Go p.tables e below _ (T0.setTop (mkF m 9 #[.val (.int p1)] [(.int p1)]))
    refine Go.by (fun _ => XS.iconst X0.here hx rfl (hb hby d8_9)) ?_
    show Go p.tables e below _ (T0.setTop (mkF m 10 #[.val (.int p1)] [(.int (1 : Int32)), (.int p1)]))
    by_cases hc10_3 : p1 = (1 : Int32)
    · skip
      refine Go.by (fun _ => XS.icmpNo X0.here hx rfl (hb hby d8_10) rfl (teq hc10_3).2) ?_
      show Go p.tables e below _ (T0.setTop (mkF m 13 #[.val (.int p1)] []))
      obtain ⟨T4, X4, st4⟩ := X0.getS hx hZ hown (host := "") (Or.inl (tw hw 128 rfl)) Via.refl S_INTEGER (g := (mkF m 13 #[.val (.int p1)] [])) rfl (hb hby d8_13)
      refine Go.by st4 ?_
      show Go p.tables e below _ (T4.setTop (mkF m 16 #[.val (.int p1)] [(.ref a_INTEGER)]))
      refine Go.retA X4 hx hlk hret rfl rfl (hb hby d8_16) (by decide) (by decide) (fun _ z => z.elim) ?_
      refine ⟨_, rfl, by rw [if_neg hc1_1, if_pos hc10_3], ?_, rfl⟩
      rw [show clsN p1 = "com/example/interlace/interlace/DataType$2" from by unfold clsN; rw [if_neg hc1_1, if_pos hc10_3]]
      exact E_INTEGER
    · skip
      refine Go.by (fun _ => XS.icmpYes X0.here hx rfl (pc0 := 10) (pc' := 17) rfl (hb hby d8_10) rfl (feq hc10_3).2 (by decide) (by decide)) ?_
      show Go p.tables e below _ (T0.setTop (mkF m 17 #[.val (.int p1)] []))
      refine Go.by (fun _ => XS.iloadN X0.here hx rfl (hb hby d8_17) rfl) ?_
      show Go p.tables e below _ (T0.setTop (mkF m 18 #[.val (.int p1)] [(.int p1)]))
      refine Go.by (fun _ => XS.iconst X0.here hx rfl (hb hby d8_18)) ?_
      show Go p.tables e below _ (T0.setTop (mkF m 19 #[.val (.int p1)] [(.int (2 : Int32)), (.int p1)]))
      by_cases hc19_5 : p1 = (2 : Int32)
      · skip
        refine Go.by (fun _ => XS.icmpNo X0.here hx rfl (hb hby d8_19) rfl (teq hc19_5).2) ?_
        show Go p.tables e below _ (T0.setTop (mkF m 22 #[.val (.int p1)] []))
        obtain ⟨T6, X6, st6⟩ := X0.getS hx hZ hown (host := "") (Or.inl (tw hw 44 rfl)) Via.refl S_NUMERIC (g := (mkF m 22 #[.val (.int p1)] [])) rfl (hb hby d8_22)
        refine Go.by st6 ?_
        show Go p.tables e below _ (T6.setTop (mkF m 25 #[.val (.int p1)] [(.ref a_NUMERIC)]))
        refine Go.retA X6 hx hlk hret rfl rfl (hb hby d8_25) (by decide) (by decide) (fun _ z => z.elim) ?_
        refine ⟨_, rfl, by rw [if_neg hc1_1, if_neg hc10_3, if_pos hc19_5], ?_, rfl⟩
        rw [show clsN p1 = "com/example/interlace/interlace/DataType$3" from by unfold clsN; rw [if_neg hc1_1, if_neg hc10_3, if_pos hc19_5]]
        exact E_NUMERIC
      · skip
        refine Go.by (fun _ => XS.icmpYes X0.here hx rfl (pc0 := 19) (pc' := 26) rfl (hb hby d8_19) rfl (feq hc19_5).2 (by decide) (by decide)) ?_
        show Go p.tables e below _ (T0.setTop (mkF m 26 #[.val (.int p1)] []))
        refine Go.by (fun _ => XS.iloadN X0.here hx rfl (hb hby d8_26) rfl) ?_
        show Go p.tables e below _ (T0.setTop (mkF m 27 #[.val (.int p1)] [(.int p1)]))
        refine Go.by (fun _ => XS.iconst X0.here hx rfl (hb hby d8_27)) ?_
        show Go p.tables e below _ (T0.setTop (mkF m 28 #[.val (.int p1)] [(.int (3 : Int32)), (.int p1)]))
        by_cases hc28_7 : p1 = (3 : Int32)
        · skip
          refine Go.by (fun _ => XS.icmpNo X0.here hx rfl (hb hby d8_28) rfl (teq hc28_7).2) ?_
          show Go p.tables e below _ (T0.setTop (mkF m 31 #[.val (.int p1)] []))
          obtain ⟨T8, X8, st8⟩ := X0.getS hx hZ hown (host := "") (Or.inl (tw hw 126 rfl)) Via.refl S_REAL (g := (mkF m 31 #[.val (.int p1)] [])) rfl (hb hby d8_31)
          refine Go.by st8 ?_
          show Go p.tables e below _ (T8.setTop (mkF m 34 #[.val (.int p1)] [(.ref a_REAL)]))
          refine Go.retA X8 hx hlk hret rfl rfl (hb hby d8_34) (by decide) (by decide) (fun _ z => z.elim) ?_
          refine ⟨_, rfl, by rw [if_neg hc1_1, if_neg hc10_3, if_neg hc19_5, if_pos hc28_7], ?_, rfl⟩
          rw [show clsN p1 = "com/example/interlace/interlace/DataType$4" from by unfold clsN; rw [if_neg hc1_1, if_neg hc10_3, if_neg hc19_5, if_pos hc28_7]]
          exact E_REAL
        · skip
          refine Go.by (fun _ => XS.icmpYes X0.here hx rfl (pc0 := 28) (pc' := 35) rfl (hb hby d8_28) rfl (feq hc28_7).2 (by decide) (by decide)) ?_
          show Go p.tables e below _ (T0.setTop (mkF m 35 #[.val (.int p1)] []))
          refine Go.by (fun _ => XS.iloadN X0.here hx rfl (hb hby d8_35) rfl) ?_
          show Go p.tables e below _ (T0.setTop (mkF m 36 #[.val (.int p1)] [(.int p1)]))
          refine Go.by (fun _ => XS.iconst X0.here hx rfl (hb hby d8_36)) ?_
          show Go p.tables e below _ (T0.setTop (mkF m 37 #[.val (.int p1)] [(.int (4 : Int32)), (.int p1)]))
          by_cases hc37_9 : p1 = (4 : Int32)
          · skip
            refine Go.by (fun _ => XS.icmpNo X0.here hx rfl (hb hby d8_37) rfl (teq hc37_9).2) ?_
            show Go p.tables e below _ (T0.setTop (mkF m 40 #[.val (.int p1)] []))
            obtain ⟨T10, X10, st10⟩ := X0.getS hx hZ hown (host := "") (Or.inl (tw hw 124 rfl)) Via.refl S_TIMESTAMPTZ (g := (mkF m 40 #[.val (.int p1)] [])) rfl (hb hby d8_40)
            refine Go.by st10 ?_
            show Go p.tables e below _ (T10.setTop (mkF m 43 #[.val (.int p1)] [(.ref a_TIMESTAMPTZ)]))
            refine Go.retA X10 hx hlk hret rfl rfl (hb hby d8_43) (by decide) (by decide) (fun _ z => z.elim) ?_
            refine ⟨_, rfl, by rw [if_neg hc1_1, if_neg hc10_3, if_neg hc19_5, if_neg hc28_7, if_pos hc37_9], ?_, rfl⟩
            rw [show clsN p1 = "com/example/interlace/interlace/DataType$5" from by unfold clsN; rw [if_neg hc1_1, if_neg hc10_3, if_neg hc19_5, if_neg hc28_7, if_pos hc37_9]]
            exact E_TIMESTAMPTZ
          · skip
            refine Go.by (fun _ => XS.icmpYes X0.here hx rfl (pc0 := 37) (pc' := 44) rfl (hb hby d8_37) rfl (feq hc37_9).2 (by decide) (by decide)) ?_
            show Go p.tables e below _ (T0.setTop (mkF m 44 #[.val (.int p1)] []))
            refine Go.by (fun _ => XS.iloadN X0.here hx rfl (hb hby d8_44) rfl) ?_
            show Go p.tables e below _ (T0.setTop (mkF m 45 #[.val (.int p1)] [(.int p1)]))
            refine Go.by (fun _ => XS.iconst X0.here hx rfl (hb hby d8_45)) ?_
            show Go p.tables e below _ (T0.setTop (mkF m 46 #[.val (.int p1)] [(.int (5 : Int32)), (.int p1)]))
            by_cases hc46_11 : p1 = (5 : Int32)
            · skip
              refine Go.by (fun _ => XS.icmpNo X0.here hx rfl (hb hby d8_46) rfl (teq hc46_11).2) ?_
              show Go p.tables e below _ (T0.setTop (mkF m 49 #[.val (.int p1)] []))
              obtain ⟨T12, X12, st12⟩ := X0.getS hx hZ hown (host := "") (Or.inl (tw hw 134 rfl)) Via.refl S_JSONB (g := (mkF m 49 #[.val (.int p1)] [])) rfl (hb hby d8_49)
              refine Go.by st12 ?_
              show Go p.tables e below _ (T12.setTop (mkF m 52 #[.val (.int p1)] [(.ref a_JSONB)]))
              refine Go.retA X12 hx hlk hret rfl rfl (hb hby d8_52) (by decide) (by decide) (fun _ z => z.elim) ?_
              refine ⟨_, rfl, by rw [if_neg hc1_1, if_neg hc10_3, if_neg hc19_5, if_neg hc28_7, if_neg hc37_9, if_pos hc46_11], ?_, rfl⟩
              rw [show clsN p1 = "com/example/interlace/interlace/DataType$6" from by unfold clsN; rw [if_neg hc1_1, if_neg hc10_3, if_neg hc19_5, if_neg hc28_7, if_neg hc37_9, if_pos hc46_11]]
              exact E_JSONB
            · skip
              refine Go.by (fun _ => XS.icmpYes X0.here hx rfl (pc0 := 46) (pc' := 53) rfl (hb hby d8_46) rfl (feq hc46_11).2 (by decide) (by decide)) ?_
              show Go p.tables e below _ (T0.setTop (mkF m 53 #[.val (.int p1)] []))
              refine Go.by (fun _ => XS.iloadN X0.here hx rfl (hb hby d8_53) rfl) ?_
              show Go p.tables e below _ (T0.setTop (mkF m 54 #[.val (.int p1)] [(.int p1)]))
              refine Go.by (fun _ => XS.bipush X0.here hx rfl (hb hby d8_54)) ?_
              show Go p.tables e below _ (T0.setTop (mkF m 56 #[.val (.int p1)] [(.int (6 : Int32)), (.int p1)]))
              by_cases hc56_13 : p1 = (6 : Int32)
              · skip
                refine Go.by (fun _ => XS.icmpNo X0.here hx rfl (hb hby d8_56) rfl (teq hc56_13).2) ?_
                show Go p.tables e below _ (T0.setTop (mkF m 59 #[.val (.int p1)] []))
                obtain ⟨T14, X14, st14⟩ := X0.getS hx hZ hown (host := "") (Or.inl (tw hw 136 rfl)) Via.refl S_BIGINT (g := (mkF m 59 #[.val (.int p1)] [])) rfl (hb hby d8_59)
                refine Go.by st14 ?_
                show Go p.tables e below _ (T14.setTop (mkF m 62 #[.val (.int p1)] [(.ref a_BIGINT)]))
                refine Go.retA X14 hx hlk hret rfl rfl (hb hby d8_62) (by decide) (by decide) (fun _ z => z.elim) ?_
                refine ⟨_, rfl, by rw [if_neg hc1_1, if_neg hc10_3, if_neg hc19_5, if_neg hc28_7, if_neg hc37_9, if_neg hc46_11, if_pos hc56_13], ?_, rfl⟩
                rw [show clsN p1 = "com/example/interlace/interlace/DataType$7" from by unfold clsN; rw [if_neg hc1_1, if_neg hc10_3, if_neg hc19_5, if_neg hc28_7, if_neg hc37_9, if_neg hc46_11, if_pos hc56_13]]
                exact E_BIGINT
              · skip
                refine Go.by (fun _ => XS.icmpYes X0.here hx rfl (pc0 := 56) (pc' := 63) rfl (hb hby d8_56) rfl (feq hc56_13).2 (by decide) (by decide)) ?_
                show Go p.tables e below _ (T0.setTop (mkF m 63 #[.val (.int p1)] []))
                refine Go.by (fun _ => XS.iloadN X0.here hx rfl (hb hby d8_63) rfl) ?_
                show Go p.tables e below _ (T0.setTop (mkF m 64 #[.val (.int p1)] [(.int p1)]))
                refine Go.by (fun _ => XS.bipush X0.here hx rfl (hb hby d8_64)) ?_
                show Go p.tables e below _ (T0.setTop (mkF m 66 #[.val (.int p1)] [(.int (7 : Int32)), (.int p1)]))
                by_cases hc66_15 : p1 = (7 : Int32)
                · skip
                  refine Go.by (fun _ => XS.icmpNo X0.here hx rfl (hb hby d8_66) rfl (teq hc66_15).2) ?_
                  show Go p.tables e below _ (T0.setTop (mkF m 69 #[.val (.int p1)] []))
                  obtain ⟨T16, X16, st16⟩ := X0.getS hx hZ hown (host := "") (Or.inl (tw hw 130 rfl)) Via.refl S_DOUBLE_PRECISION (g := (mkF m 69 #[.val (.int p1)] [])) rfl (hb hby d8_69)
                  refine Go.by st16 ?_
                  show Go p.tables e below _ (T16.setTop (mkF m 72 #[.val (.int p1)] [(.ref a_DOUBLE_PRECISION)]))
                  refine Go.retA X16 hx hlk hret rfl rfl (hb hby d8_72) (by decide) (by decide) (fun _ z => z.elim) ?_
                  refine ⟨_, rfl, by rw [if_neg hc1_1, if_neg hc10_3, if_neg hc19_5, if_neg hc28_7, if_neg hc37_9, if_neg hc46_11, if_neg hc56_13, if_pos hc66_15], ?_, rfl⟩
                  rw [show clsN p1 = "com/example/interlace/interlace/DataType$8" from by unfold clsN; rw [if_neg hc1_1, if_neg hc10_3, if_neg hc19_5, if_neg hc28_7, if_neg hc37_9, if_neg hc46_11, if_neg hc56_13, if_pos hc66_15]]
                  exact E_DOUBLE_PRECISION
                · skip
                  refine Go.by (fun _ => XS.icmpYes X0.here hx rfl (pc0 := 66) (pc' := 73) rfl (hb hby d8_66) rfl (feq hc66_15).2 (by decide) (by decide)) ?_
                  show Go p.tables e below _ (T0.setTop (mkF m 73 #[.val (.int p1)] []))
                  refine Go.by (fun _ => XS.iloadN X0.here hx rfl (hb hby d8_73) rfl) ?_
                  show Go p.tables e below _ (T0.setTop (mkF m 74 #[.val (.int p1)] [(.int p1)]))
                  refine Go.by (fun _ => XS.bipush X0.here hx rfl (hb hby d8_74)) ?_
                  show Go p.tables e below _ (T0.setTop (mkF m 76 #[.val (.int p1)] [(.int (8 : Int32)), (.int p1)]))
                  by_cases hc76_17 : p1 = (8 : Int32)
                  · skip
                    refine Go.by (fun _ => XS.icmpNo X0.here hx rfl (hb hby d8_76) rfl (teq hc76_17).2) ?_
                    show Go p.tables e below _ (T0.setTop (mkF m 79 #[.val (.int p1)] []))
                    obtain ⟨T18, X18, st18⟩ := X0.getS hx hZ hown (host := "") (Or.inl (tw hw 138 rfl)) Via.refl S_BOOLEAN (g := (mkF m 79 #[.val (.int p1)] [])) rfl (hb hby d8_79)
                    refine Go.by st18 ?_
                    show Go p.tables e below _ (T18.setTop (mkF m 82 #[.val (.int p1)] [(.ref a_BOOLEAN)]))
                    refine Go.retA X18 hx hlk hret rfl rfl (hb hby d8_82) (by decide) (by decide) (fun _ z => z.elim) ?_
                    refine ⟨_, rfl, by rw [if_neg hc1_1, if_neg hc10_3, if_neg hc19_5, if_neg hc28_7, if_neg hc37_9, if_neg hc46_11, if_neg hc56_13, if_neg hc66_15, if_pos hc76_17], ?_, rfl⟩
                    rw [show clsN p1 = "com/example/interlace/interlace/DataType$9" from by unfold clsN; rw [if_neg hc1_1, if_neg hc10_3, if_neg hc19_5, if_neg hc28_7, if_neg hc37_9, if_neg hc46_11, if_neg hc56_13, if_neg hc66_15, if_pos hc76_17]]
                    exact E_BOOLEAN
                  · skip
                    refine Go.by (fun _ => XS.icmpYes X0.here hx rfl (pc0 := 76) (pc' := 83) rfl (hb hby d8_76) rfl (feq hc76_17).2 (by decide) (by decide)) ?_
                    show Go p.tables e below _ (T0.setTop (mkF m 83 #[.val (.int p1)] []))
                    refine Go.by (fun _ => XS.iloadN X0.here hx rfl (hb hby d8_83) rfl) ?_
                    show Go p.tables e below _ (T0.setTop (mkF m 84 #[.val (.int p1)] [(.int p1)]))
                    refine Go.by (fun _ => XS.bipush X0.here hx rfl (hb hby d8_84)) ?_
                    show Go p.tables e below _ (T0.setTop (mkF m 86 #[.val (.int p1)] [(.int (9 : Int32)), (.int p1)]))
                    by_cases hc86_19 : p1 = (9 : Int32)
                    · skip
                      refine Go.by (fun _ => XS.icmpNo X0.here hx rfl (hb hby d8_86) rfl (teq hc86_19).2) ?_
                      show Go p.tables e below _ (T0.setTop (mkF m 89 #[.val (.int p1)] []))
                      obtain ⟨T20, X20, st20⟩ := X0.getS hx hZ hown (host := "") (Or.inl (tw hw 132 rfl)) Via.refl S_TEXT (g := (mkF m 89 #[.val (.int p1)] [])) rfl (hb hby d8_89)
                      refine Go.by st20 ?_
                      show Go p.tables e below _ (T20.setTop (mkF m 92 #[.val (.int p1)] [(.ref a_TEXT)]))
                      refine Go.retA X20 hx hlk hret rfl rfl (hb hby d8_92) (by decide) (by decide) (fun _ z => z.elim) ?_
                      refine ⟨_, rfl, by rw [if_neg hc1_1, if_neg hc10_3, if_neg hc19_5, if_neg hc28_7, if_neg hc37_9, if_neg hc46_11, if_neg hc56_13, if_neg hc66_15, if_neg hc76_17, if_pos hc86_19], ?_, rfl⟩
                      rw [show clsN p1 = "com/example/interlace/interlace/DataType$10" from by unfold clsN; rw [if_neg hc1_1, if_neg hc10_3, if_neg hc19_5, if_neg hc28_7, if_neg hc37_9, if_neg hc46_11, if_neg hc56_13, if_neg hc66_15, if_neg hc76_17, if_pos hc86_19]]
                      exact E_TEXT
                    · skip
                      refine Go.by (fun _ => XS.icmpYes X0.here hx rfl (pc0 := 86) (pc' := 93) rfl (hb hby d8_86) rfl (feq hc86_19).2 (by decide) (by decide)) ?_
                      show Go p.tables e below _ (T0.setTop (mkF m 93 #[.val (.int p1)] []))
                      obtain ⟨T21, X21, st21⟩ := X0.getS hx hZ hown (host := "") (Or.inl (tw hw 92 rfl)) Via.refl S_VARCHAR (g := (mkF m 93 #[.val (.int p1)] [])) rfl (hb hby d8_93)
                      refine Go.by st21 ?_
                      show Go p.tables e below _ (T21.setTop (mkF m 96 #[.val (.int p1)] [(.ref a_VARCHAR)]))
                      refine Go.retA X21 hx hlk hret rfl rfl (hb hby d8_96) (by decide) (by decide) (fun _ z => z.elim) ?_
                      refine ⟨_, rfl, by rw [if_neg hc1_1, if_neg hc10_3, if_neg hc19_5, if_neg hc28_7, if_neg hc37_9, if_neg hc46_11, if_neg hc56_13, if_neg hc66_15, if_neg hc76_17, if_neg hc86_19], ?_, rfl⟩
                      rw [show clsN p1 = "com/example/interlace/interlace/DataType$11" from by unfold clsN; rw [if_neg hc1_1, if_neg hc10_3, if_neg hc19_5, if_neg hc28_7, if_neg hc37_9, if_neg hc46_11, if_neg hc56_13, if_neg hc66_15, if_neg hc76_17, if_neg hc86_19]]
                      exact E_VARCHAR
theorem d9_0 : decode prog_11_method_2_code 0 = .ok (.aload_n 0, 1) := by decide +kernel
theorem d9_1 : decode prog_11_method_2_code 1 = .ok (.invokespecial 1, 3) := by decide +kernel
theorem pd14 : parseMethodDescriptor "()V" = some ⟨[], none⟩ := by decide +kernel
theorem d9_4 : decode prog_11_method_2_code 4 = .ok (.aload_n 0, 1) := by decide +kernel
theorem d9_5 : decode prog_11_method_2_code 5 = .ok (.aload_n 1, 1) := by decide +kernel
theorem d9_6 : decode prog_11_method_2_code 6 = .ok (.putfield 7, 3) := by decide +kernel
theorem d9_9 : decode prog_11_method_2_code 9 = .ok (.aload_n 0, 1) := by decide +kernel
theorem d9_10 : decode prog_11_method_2_code 10 = .ok (.aload_n 2, 1) := by decide +kernel
theorem d9_11 : decode prog_11_method_2_code 11 = .ok (.putfield 13, 3) := by decide +kernel
theorem d9_14 : decode prog_11_method_2_code 14 = .ok (.aload_n 0, 1) := by decide +kernel
theorem d9_15 : decode prog_11_method_2_code 15 = .ok (.iload_n 3, 1) := by decide +kernel
theorem d9_16 : decode prog_11_method_2_code 16 = .ok (.putfield 17, 3) := by decide +kernel
theorem d9_19 : decode prog_11_method_2_code 19 = .ok (.aload_n 0, 1) := by decide +kernel
theorem d9_20 : decode prog_11_method_2_code 20 = .ok (.iload 4, 2) := by decide +kernel
theorem d9_22 : decode prog_11_method_2_code 22 = .ok (.putfield 21, 3) := by decide +kernel
theorem d9_25 : decode prog_11_method_2_code 25 = .ok (.aload_n 0, 1) := by decide +kernel
theorem d9_26 : decode prog_11_method_2_code 26 = .ok (.aload 5, 2) := by decide +kernel
theorem d9_28 : decode prog_11_method_2_code 28 = .ok (.putfield 25, 3) := by decide +kernel
theorem d9_31 : decode prog_11_method_2_code 31 = .ok (.return_, 1) := by decide +kernel
abbrev Rm9 : Room := { frames := 2, cells := 0, slots := 0, locals := 24 }
theorem pn7 : plainName "com/example/interlace/interlace/Column" = true := by first | (simp [plainName, overriddenIn]; done) | decide +kernel
set_option maxRecDepth 65536 in
set_option maxHeartbeats 40000000 in
theorem rm9 (l : Launch) (Z : State) (a0 : Array Value) (hw : ∀ d ∈ tables_1, d.before a0 Z = true) (ws : List Jvm.Cond) (a1 : Addr) (a2 : Addr) (a3 : Addr) (p4 : Int32) (p5 : Int32) (a6 : Addr) (h0 : Heap) (n0 : Nat) (Z0 : n0 ≤ h0.size) (E_a1 : Exa Z h0 a1 "com/example/interlace/interlace/Column") (g_a1 : n0 ≤ a1) (F_name : Fld Z h0 a1 "com/example/interlace/interlace/Column" "name" "Ljava/lang/String;" .null) (F_type : Fld Z h0 a1 "com/example/interlace/interlace/Column" "type" "Lcom/example/interlace/interlace/DataType;" .null) (F_maxLength : Fld Z h0 a1 "com/example/interlace/interlace/Column" "maxLength" "I" (.int (0 : Int32))) (F_notNull : Fld Z h0 a1 "com/example/interlace/interlace/Column" "notNull" "Z" (.int (0 : Int32))) (F_defaultExpression : Fld Z h0 a1 "com/example/interlace/interlace/Column" "defaultExpression" "Ljava/util/Optional;" .null) :
    Met l Z EL [] (fun _ _ _ => False) n0 (⟨"com/example/interlace/interlace/Column", "<init>", "(Ljava/lang/String;Lcom/example/interlace/interlace/DataType;IZLjava/util/Optional;)V"⟩ : MethodName) prog_11_method_2_code 6 none ws Rm9 #[(.ref a1), (.ref a2), (.ref a3), (.int p4), (.int p5), (.ref a6)] h0 (fun v h => v = none ∧ Keep h0 h [a1] ∧ Exa Z h a1 "com/example/interlace/interlace/Column" ∧ Fld Z h a1 "com/example/interlace/interlace/Column" "name" "Ljava/lang/String;" (.ref a2) ∧ Fld Z h a1 "com/example/interlace/interlace/Column" "type" "Lcom/example/interlace/interlace/DataType;" (.ref a3) ∧ Fld Z h a1 "com/example/interlace/interlace/Column" "maxLength" "I" (.int p4)) := by
  refine enter (Ls := #[.val (.ref a1), .val (.ref a2), .val (.ref a3), .val (.int p4), .val (.int p5), .val (.ref a6)]) (plainFor_of_name pn7) (fun m => by first | (simp [entryFrame, mkF, argsToLocals, Value.category]; done) | rfl) ?_
  intro p e s m below meth c T0 hx hby hml hown hnm hret hlk hZ X0
  have K0 := Keep.refl h0 [a1]
  show Go p.tables e below _ (T0.setTop (mkF m 0 #[.val (.ref a1), .val (.ref a2), .val (.ref a3), .val (.int p4), .val (.int p5), .val (.ref a6)] []))
  refine Go.by (fun _ => XS.aloadN X0.here hx rfl (hb hby d9_0) rfl rfl) ?_
  show Go p.tables e below _ (T0.setTop (mkF m 1 #[.val (.ref a1), .val (.ref a2), .val (.ref a3), .val (.int p4), .val (.int p5), .val (.ref a6)] [(.ref a1)]))
  obtain ⟨v1, T1, h1, X1, q1, xs1, st1⟩ := X0.callI hx hZ f0n (y := (⟨"java/lang/Record", "<init>", "()V"⟩ : MethodName)) rfl hown (tw hw 50 rfl) (tw hw 51 rfl) (tw hw 53 rfl) (tw hw 54 rfl) (by decide) (rm10 l Z a0 hw [] a1 h0 n0 Z0) (g := (mkF m 1 #[.val (.ref a1), .val (.ref a2), .val (.ref a3), .val (.int p4), .val (.int p5), .val (.ref a6)] [(.ref a1)])) rfl (by rw [hml]; rfl) (argsL := []) (rest := []) (lenOf pd14 rfl) rfl (hb hby d9_1) rfl (by decide) (Nat.le_of_ble_eq_true rfl) (k' := 0) (n' := 0) rfl rfl (by decide) (by decide)
  refine Go.by st1 ?_
  obtain ⟨rfl, rfl⟩ := q1
  show Go p.tables e below _ (T1.setTop (mkF m 4 #[.val (.ref a1), .val (.ref a2), .val (.ref a3), .val (.int p4), .val (.int p5), .val (.ref a6)] []))
  refine Go.by (fun _ => XS.aloadN X1.here hx rfl (hb hby d9_4) rfl rfl) ?_
  show Go p.tables e below _ (T1.setTop (mkF m 5 #[.val (.ref a1), .val (.ref a2), .val (.ref a3), .val (.int p4), .val (.int p5), .val (.ref a6)] [(.ref a1)]))
  refine Go.by (fun _ => XS.aloadN X1.here hx rfl (hb hby d9_5) rfl rfl) ?_
  show Go p.tables e below _ (T1.setTop (mkF m 6 #[.val (.ref a1), .val (.ref a2), .val (.ref a3), .val (.int p4), .val (.int p5), .val (.ref a6)] [(.ref a2), (.ref a1)]))
  obtain ⟨T2, h2, X2, W2, st2⟩ := X1.putF hx hZ hown (host := "") (Or.inl (tw hw 56 rfl)) Via.refl F_name E_a1 g_a1 (Or.inr (by decide)) (Or.inr ⟨(tw hw 57 rfl), rfl, hnm⟩) (tw hw 14 rfl) (ty := (.object "java/lang/String")) (by decide) rfl rfl (g := (mkF m 6 #[.val (.ref a1), .val (.ref a2), .val (.ref a3), .val (.int p4), .val (.int p5), .val (.ref a6)] [(.ref a2), (.ref a1)])) rfl rfl (hb hby d9_6)
  have Fw2 := F_name.same W2
  have f3_14 := E_a1.wr W2
  have f3_15 := F_type.other W2 (Or.inr (slot_ne (Or.inr (tw hw 59 rfl)) (Or.inr (tw hw 57 rfl)) (by decide) (t := (.object "com/example/interlace/interlace/DataType")) (t' := (.object "java/lang/String")) (by decide) (by decide)))
  have f3_16 := F_maxLength.other W2 (Or.inr (slot_ne (Or.inr (tw hw 61 rfl)) (Or.inr (tw hw 57 rfl)) (by decide) (t := .int) (t' := (.object "java/lang/String")) (by decide) (by decide)))
  have f3_17 := F_notNull.other W2 (Or.inr (slot_ne (Or.inr (tw hw 63 rfl)) (Or.inr (tw hw 57 rfl)) (by decide) (t := .boolean) (t' := (.object "java/lang/String")) (by decide) (by decide)))
  have f3_18 := F_defaultExpression.other W2 (Or.inr (slot_ne (Or.inr (tw hw 65 rfl)) (Or.inr (tw hw 57 rfl)) (by decide) (t := (.object "java/util/Optional")) (t' := (.object "java/lang/String")) (by decide) (by decide)))
  have f3_19 := K0.wr W2 (Or.inl (List.mem_of_getElem? (i := 0) rfl))
  have Zs3 : n0 ≤ h2.size := by rw [W2.size]; exact Z0
  refine Go.by st2 ?_
  show Go p.tables e below _ (T2.setTop (mkF m 9 #[.val (.ref a1), .val (.ref a2), .val (.ref a3), .val (.int p4), .val (.int p5), .val (.ref a6)] []))
  refine Go.by (fun _ => XS.aloadN X2.here hx rfl (hb hby d9_9) rfl rfl) ?_
  show Go p.tables e below _ (T2.setTop (mkF m 10 #[.val (.ref a1), .val (.ref a2), .val (.ref a3), .val (.int p4), .val (.int p5), .val (.ref a6)] [(.ref a1)]))
  refine Go.by (fun _ => XS.aloadN X2.here hx rfl (hb hby d9_10) rfl rfl) ?_
  show Go p.tables e below _ (T2.setTop (mkF m 11 #[.val (.ref a1), .val (.ref a2), .val (.ref a3), .val (.int p4), .val (.int p5), .val (.ref a6)] [(.ref a3), (.ref a1)]))
  obtain ⟨T4, h4, X4, W4, st4⟩ := X2.putF hx hZ hown (host := "") (Or.inl (tw hw 58 rfl)) Via.refl f3_15 f3_14 g_a1 (Or.inr (by decide)) (Or.inr ⟨(tw hw 59 rfl), rfl, hnm⟩) (tw hw 14 rfl) (ty := (.object "com/example/interlace/interlace/DataType")) (by decide) rfl rfl (g := (mkF m 11 #[.val (.ref a1), .val (.ref a2), .val (.ref a3), .val (.int p4), .val (.int p5), .val (.ref a6)] [(.ref a3), (.ref a1)])) rfl rfl (hb hby d9_11)
  have Fw4 := f3_15.same W4
  have f5_29 := f3_14.wr W4
  have f5_30 := Fw2.other W4 (Or.inr (slot_ne (Or.inr (tw hw 57 rfl)) (Or.inr (tw hw 59 rfl)) (by decide) (t := (.object "java/lang/String")) (t' := (.object "com/example/interlace/interlace/DataType")) (by decide) (by decide)))
  have f5_31 := f3_16.other W4 (Or.inr (slot_ne (Or.inr (tw hw 61 rfl)) (Or.inr (tw hw 59 rfl)) (by decide) (t := .int) (t' := (.object "com/example/interlace/interlace/DataType")) (by decide) (by decide)))
  have f5_32 := f3_17.other W4 (Or.inr (slot_ne (Or.inr (tw hw 63 rfl)) (Or.inr (tw hw 59 rfl)) (by decide) (t := .boolean) (t' := (.object "com/example/interlace/interlace/DataType")) (by decide) (by decide)))
  have f5_33 := f3_18.other W4 (Or.inr (slot_ne (Or.inr (tw hw 65 rfl)) (Or.inr (tw hw 59 rfl)) (by decide) (t := (.object "java/util/Optional")) (t' := (.object "com/example/interlace/interlace/DataType")) (by decide) (by decide)))
  have f5_34 := f3_19.wr W4 (Or.inl (List.mem_of_getElem? (i := 0) rfl))
  have Zs5 : n0 ≤ h4.size := by rw [W4.size]; exact Zs3
  refine Go.by st4 ?_
  show Go p.tables e below _ (T4.setTop (mkF m 14 #[.val (.ref a1), .val (.ref a2), .val (.ref a3), .val (.int p4), .val (.int p5), .val (.ref a6)] []))
  refine Go.by (fun _ => XS.aloadN X4.here hx rfl (hb hby d9_14) rfl rfl) ?_
  show Go p.tables e below _ (T4.setTop (mkF m 15 #[.val (.ref a1), .val (.ref a2), .val (.ref a3), .val (.int p4), .val (.int p5), .val (.ref a6)] [(.ref a1)]))
  refine Go.by (fun _ => XS.iloadN X4.here hx rfl (hb hby d9_15) rfl) ?_
  show Go p.tables e below _ (T4.setTop (mkF m 16 #[.val (.ref a1), .val (.ref a2), .val (.ref a3), .val (.int p4), .val (.int p5), .val (.ref a6)] [(.int p4), (.ref a1)]))
  obtain ⟨T6, h6, X6, W6, st6⟩ := X4.putF hx hZ hown (host := "") (Or.inl (tw hw 60 rfl)) Via.refl f5_31 f5_29 g_a1 (Or.inr (by decide)) (Or.inr ⟨(tw hw 61 rfl), rfl, hnm⟩) (tw hw 14 rfl) (ty := .int) (by decide) rfl rfl (g := (mkF m 16 #[.val (.ref a1), .val (.ref a2), .val (.ref a3), .val (.int p4), .val (.int p5), .val (.ref a6)] [(.int p4), (.ref a1)])) rfl rfl (hb hby d9_16)
  have Fw6 := f5_31.same W6
  have f7_44 := f5_29.wr W6
  have f7_45 := f5_30.other W6 (Or.inr (slot_ne (Or.inr (tw hw 57 rfl)) (Or.inr (tw hw 61 rfl)) (by decide) (t := (.object "java/lang/String")) (t' := .int) (by decide) (by decide)))
  have f7_46 := Fw4.other W6 (Or.inr (slot_ne (Or.inr (tw hw 59 rfl)) (Or.inr (tw hw 61 rfl)) (by decide) (t := (.object "com/example/interlace/interlace/DataType")) (t' := .int) (by decide) (by decide)))
  have f7_47 := f5_32.other W6 (Or.inr (slot_ne (Or.inr (tw hw 63 rfl)) (Or.inr (tw hw 61 rfl)) (by decide) (t := .boolean) (t' := .int) (by decide) (by decide)))
  have f7_48 := f5_33.other W6 (Or.inr (slot_ne (Or.inr (tw hw 65 rfl)) (Or.inr (tw hw 61 rfl)) (by decide) (t := (.object "java/util/Optional")) (t' := .int) (by decide) (by decide)))
  have f7_49 := f5_34.wr W6 (Or.inl (List.mem_of_getElem? (i := 0) rfl))
  have Zs7 : n0 ≤ h6.size := by rw [W6.size]; exact Zs5
  refine Go.by st6 ?_
  show Go p.tables e below _ (T6.setTop (mkF m 19 #[.val (.ref a1), .val (.ref a2), .val (.ref a3), .val (.int p4), .val (.int p5), .val (.ref a6)] []))
  refine Go.by (fun _ => XS.aloadN X6.here hx rfl (hb hby d9_19) rfl rfl) ?_
  show Go p.tables e below _ (T6.setTop (mkF m 20 #[.val (.ref a1), .val (.ref a2), .val (.ref a3), .val (.int p4), .val (.int p5), .val (.ref a6)] [(.ref a1)]))
  refine Go.by (fun _ => XS.iload X6.here hx rfl (hb hby d9_20) rfl) ?_
  show Go p.tables e below _ (T6.setTop (mkF m 22 #[.val (.ref a1), .val (.ref a2), .val (.ref a3), .val (.int p4), .val (.int p5), .val (.ref a6)] [(.int p5), (.ref a1)]))
  obtain ⟨T8, h8, X8, W8, st8⟩ := X6.putFN hx hZ hown (tw hw 62 rfl) Via.refl f7_47 f7_44 g_a1 (Or.inr (by decide)) (Or.inr ⟨(tw hw 63 rfl), rfl, hnm⟩) (tw hw 14 rfl) (ty := .boolean) (v' := (.int (nar .boolean p5))) (by decide) rfl (fits_nar_bool _) (g := (mkF m 22 #[.val (.ref a1), .val (.ref a2), .val (.ref a3), .val (.int p4), .val (.int p5), .val (.ref a6)] [(.int p5), (.ref a1)])) rfl rfl (hb hby d9_22)
  have Fw8 := f7_47.same W8
  have f9_59 := f7_44.wr W8
  have f9_60 := f7_45.other W8 (Or.inr (slot_ne (Or.inr (tw hw 57 rfl)) (Or.inr (tw hw 63 rfl)) (by decide) (t := (.object "java/lang/String")) (t' := .boolean) (by decide) (by decide)))
  have f9_61 := f7_46.other W8 (Or.inr (slot_ne (Or.inr (tw hw 59 rfl)) (Or.inr (tw hw 63 rfl)) (by decide) (t := (.object "com/example/interlace/interlace/DataType")) (t' := .boolean) (by decide) (by decide)))
  have f9_62 := Fw6.other W8 (Or.inr (slot_ne (Or.inr (tw hw 61 rfl)) (Or.inr (tw hw 63 rfl)) (by decide) (t := .int) (t' := .boolean) (by decide) (by decide)))
  have f9_63 := f7_48.other W8 (Or.inr (slot_ne (Or.inr (tw hw 65 rfl)) (Or.inr (tw hw 63 rfl)) (by decide) (t := (.object "java/util/Optional")) (t' := .boolean) (by decide) (by decide)))
  have f9_64 := f7_49.wr W8 (Or.inl (List.mem_of_getElem? (i := 0) rfl))
  have Zs9 : n0 ≤ h8.size := by rw [W8.size]; exact Zs7
  refine Go.by st8 ?_
  show Go p.tables e below _ (T8.setTop (mkF m 25 #[.val (.ref a1), .val (.ref a2), .val (.ref a3), .val (.int p4), .val (.int p5), .val (.ref a6)] []))
  refine Go.by (fun _ => XS.aloadN X8.here hx rfl (hb hby d9_25) rfl rfl) ?_
  show Go p.tables e below _ (T8.setTop (mkF m 26 #[.val (.ref a1), .val (.ref a2), .val (.ref a3), .val (.int p4), .val (.int p5), .val (.ref a6)] [(.ref a1)]))
  refine Go.by (fun _ => XS.aload X8.here hx rfl (hb hby d9_26) rfl rfl) ?_
  show Go p.tables e below _ (T8.setTop (mkF m 28 #[.val (.ref a1), .val (.ref a2), .val (.ref a3), .val (.int p4), .val (.int p5), .val (.ref a6)] [(.ref a6), (.ref a1)]))
  obtain ⟨T10, h10, X10, W10, st10⟩ := X8.putF hx hZ hown (host := "") (Or.inl (tw hw 64 rfl)) Via.refl f9_63 f9_59 g_a1 (Or.inr (by decide)) (Or.inr ⟨(tw hw 65 rfl), rfl, hnm⟩) (tw hw 14 rfl) (ty := (.object "java/util/Optional")) (by decide) rfl rfl (g := (mkF m 28 #[.val (.ref a1), .val (.ref a2), .val (.ref a3), .val (.int p4), .val (.int p5), .val (.ref a6)] [(.ref a6), (.ref a1)])) rfl rfl (hb hby d9_28)
  have Fw10 := f9_63.same W10
  have f11_74 := f9_59.wr W10
  have f11_75 := f9_60.other W10 (Or.inr (slot_ne (Or.inr (tw hw 57 rfl)) (Or.inr (tw hw 65 rfl)) (by decide) (t := (.object "java/lang/String")) (t' := (.object "java/util/Optional")) (by decide) (by decide)))
  have f11_76 := f9_61.other W10 (Or.inr (slot_ne (Or.inr (tw hw 59 rfl)) (Or.inr (tw hw 65 rfl)) (by decide) (t := (.object "com/example/interlace/interlace/DataType")) (t' := (.object "java/util/Optional")) (by decide) (by decide)))
  have f11_77 := f9_62.other W10 (Or.inr (slot_ne (Or.inr (tw hw 61 rfl)) (Or.inr (tw hw 65 rfl)) (by decide) (t := .int) (t' := (.object "java/util/Optional")) (by decide) (by decide)))
  have f11_78 := Fw8.other W10 (Or.inr (slot_ne (Or.inr (tw hw 63 rfl)) (Or.inr (tw hw 65 rfl)) (by decide) (t := .boolean) (t' := (.object "java/util/Optional")) (by decide) (by decide)))
  have f11_79 := f9_64.wr W10 (Or.inl (List.mem_of_getElem? (i := 0) rfl))
  have Zs11 : n0 ≤ h10.size := by rw [W10.size]; exact Zs9
  refine Go.by st10 ?_
  show Go p.tables e below _ (T10.setTop (mkF m 31 #[.val (.ref a1), .val (.ref a2), .val (.ref a3), .val (.int p4), .val (.int p5), .val (.ref a6)] []))
  exact Go.ret0 X10 hx hlk hret (hb hby d9_31) (by decide) (by decide) (fun _ z => z.elim) ⟨rfl, f11_79, f11_74, f11_75, f11_76, f11_77⟩
theorem d14_0 : decode prog_11_method_9_code 0 = .ok (.aload_n 0, 1) := by decide +kernel
theorem d14_1 : decode prog_11_method_9_code 1 = .ok (.getfield 7, 3) := by decide +kernel
theorem d14_4 : decode prog_11_method_9_code 4 = .ok (.aload_n 1, 1) := by decide +kernel
theorem d14_5 : decode prog_11_method_9_code 5 = .ok (.getfield 7, 3) := by decide +kernel
theorem d14_8 : decode prog_11_method_9_code 8 = .ok (.invokevirtual 101, 3) := by decide +kernel
theorem pd15 : parseMethodDescriptor "(Ljava/lang/Object;)Z" = some ⟨[(.object "java/lang/Object")], some .boolean⟩ := by decide +kernel
theorem d14_11 : decode prog_11_method_9_code 11 = .ok (.ifCond .eq 29, 3) := by decide +kernel
theorem d14_14 : decode prog_11_method_9_code 14 = .ok (.aload_n 0, 1) := by decide +kernel
theorem d14_15 : decode prog_11_method_9_code 15 = .ok (.getfield 13, 3) := by decide +kernel
theorem d14_18 : decode prog_11_method_9_code 18 = .ok (.aload_n 1, 1) := by decide +kernel
theorem d14_19 : decode prog_11_method_9_code 19 = .ok (.getfield 13, 3) := by decide +kernel
theorem d14_22 : decode prog_11_method_9_code 22 = .ok (.if_acmp .ne 18, 3) := by decide +kernel
theorem d14_25 : decode prog_11_method_9_code 25 = .ok (.aload_n 0, 1) := by decide +kernel
theorem d14_26 : decode prog_11_method_9_code 26 = .ok (.getfield 17, 3) := by decide +kernel
theorem d14_29 : decode prog_11_method_9_code 29 = .ok (.aload_n 1, 1) := by decide +kernel
theorem d14_30 : decode prog_11_method_9_code 30 = .ok (.getfield 17, 3) := by decide +kernel
theorem d14_33 : decode prog_11_method_9_code 33 = .ok (.if_icmp .ne 7, 3) := by decide +kernel
theorem d14_36 : decode prog_11_method_9_code 36 = .ok (.iconst 1, 1) := by decide +kernel
theorem d14_37 : decode prog_11_method_9_code 37 = .ok (.goto 4, 3) := by decide +kernel
theorem d14_41 : decode prog_11_method_9_code 41 = .ok (.ireturn, 1) := by decide +kernel
theorem d14_40 : decode prog_11_method_9_code 40 = .ok (.iconst 0, 1) := by decide +kernel
abbrev Rm14 : Room := { frames := 2, cells := 0, slots := 0, locals := 28 }
set_option maxRecDepth 65536 in
set_option maxHeartbeats 40000000 in
theorem rm14 (l : Launch) (Z : State) (a0 : Array Value) (hw : ∀ d ∈ tables_1, d.before a0 Z = true) (ws : List Jvm.Cond) (c1 : Addr) (c2 : Addr) (cs : Int32) (a1 a2 b1 b2 t1 t2 : Addr) (k1 k2 : ClassId) (N1 N2 : Nat) (g1 g2 : Nat → Int32) (m1 m2 : Int32) (h0 : Heap) (n0 : Nat) (Z0 : n0 ≤ h0.size) (O0 : Old Z n0 h0) (S_CS0 : Sta Z Z.heap "java/lang/String" "COMPACT_STRINGS" "Z" (.int cs)) (hcs : ¬ cs = 0) (E_c1 : Exa Z h0 c1 "com/example/interlace/interlace/Column") (Fn_c1 : Fld Z h0 c1 "com/example/interlace/interlace/Column" "name" "Ljava/lang/String;" (.ref a1)) (Ft_c1 : Fld Z h0 c1 "com/example/interlace/interlace/Column" "type" "Lcom/example/interlace/interlace/DataType;" (.ref t1)) (Fm_c1 : Fld Z h0 c1 "com/example/interlace/interlace/Column" "maxLength" "I" (.int m1)) (E_a1 : Exa Z h0 a1 "java/lang/String") (Fv_a1 : Fld Z h0 a1 "java/lang/String" "value" "[B" (.ref b1)) (Fc_a1 : Fld Z h0 a1 "java/lang/String" "coder" "B" (.int (0 : Int32))) (V_b1 : Avf Z h0 b1 k1 .byte N1 (fun i => (.int (g1 i)))) (E_c2 : Exa Z h0 c2 "com/example/interlace/interlace/Column") (Fn_c2 : Fld Z h0 c2 "com/example/interlace/interlace/Column" "name" "Ljava/lang/String;" (.ref a2)) (Ft_c2 : Fld Z h0 c2 "com/example/interlace/interlace/Column" "type" "Lcom/example/interlace/interlace/DataType;" (.ref t2)) (Fm_c2 : Fld Z h0 c2 "com/example/interlace/interlace/Column" "maxLength" "I" (.int m2)) (E_a2 : Exa Z h0 a2 "java/lang/String") (Fv_a2 : Fld Z h0 a2 "java/lang/String" "value" "[B" (.ref b2)) (Fc_a2 : Fld Z h0 a2 "java/lang/String" "coder" "B" (.int (0 : Int32))) (V_b2 : Avf Z h0 b2 k2 .byte N2 (fun i => (.int (g2 i)))) :
    Met l Z EL [] (fun _ _ _ => False) n0 (⟨"com/example/interlace/interlace/Column", "holdsAlike", "(Lcom/example/interlace/interlace/Column;)Z"⟩ : MethodName) prog_11_method_9_code 2 (some .boolean) ws Rm14 #[(.ref c1), (.ref c2)] h0 (fun v h => ((((N1 = N2 ∧ ∀ i, i < N1 → g1 i = g2 i) ∧ t1 = t2 ∧ m1 = m2) ∧ v = some (.int 1)) ∨ (¬ ((N1 = N2 ∧ ∀ i, i < N1 → g1 i = g2 i) ∧ t1 = t2 ∧ m1 = m2) ∧ v = some (.int 0))) ∧ h0 = h) := by
  refine enter (Ls := #[.val (.ref c1), .val (.ref c2)]) (plainFor_of_name pn7) (fun m => by first | (simp [entryFrame, mkF, argsToLocals, Value.category]; done) | rfl) ?_
  intro p e s m below meth c T0 hx hby hml hown hnm hret hlk hZ X0
  show Go p.tables e below _ (T0.setTop (mkF m 0 #[.val (.ref c1), .val (.ref c2)] []))
  refine Go.by (fun _ => XS.aloadN X0.here hx rfl (hb hby d14_0) rfl rfl) ?_
  show Go p.tables e below _ (T0.setTop (mkF m 1 #[.val (.ref c1), .val (.ref c2)] [(.ref c1)]))
  obtain ⟨T1, X1, st1⟩ := X0.getF hx hZ hown (host := "") (Or.inl (tw hw 56 rfl)) Via.refl Fn_c1 (g := (mkF m 1 #[.val (.ref c1), .val (.ref c2)] [(.ref c1)])) rfl rfl (hb hby d14_1)
  refine Go.by st1 ?_
  show Go p.tables e below _ (T1.setTop (mkF m 4 #[.val (.ref c1), .val (.ref c2)] [(.ref a1)]))
  refine Go.by (fun _ => XS.aloadN X1.here hx rfl (hb hby d14_4) rfl rfl) ?_
  show Go p.tables e below _ (T1.setTop (mkF m 5 #[.val (.ref c1), .val (.ref c2)] [(.ref c2), (.ref a1)]))
  obtain ⟨T2, X2, st2⟩ := X1.getF hx hZ hown (host := "") (Or.inl (tw hw 56 rfl)) Via.refl Fn_c2 (g := (mkF m 5 #[.val (.ref c1), .val (.ref c2)] [(.ref c2), (.ref a1)])) rfl rfl (hb hby d14_5)
  refine Go.by st2 ?_
  show Go p.tables e below _ (T2.setTop (mkF m 8 #[.val (.ref c1), .val (.ref c2)] [(.ref a2), (.ref a1)]))
  obtain ⟨v3, T3, h3, X3, q3, xs3, st3⟩ := X2.callV hx hZ f0n (y := (⟨"java/lang/String", "equals", "(Ljava/lang/Object;)Z"⟩ : MethodName)) (z := (⟨"java/lang/String", "equals", "(Ljava/lang/Object;)Z"⟩ : MethodName)) hown (tw hw 82 rfl) (tw hw 83 rfl) (fun _ hZ => notFace_of_selects (args := #[]) (mvT hZ (tw hw 85 rfl))) (tw hw 85 rfl) (tw hw 84 rfl) (tw hw 21 rfl) (tw hw 86 rfl) (by decide) (rm15 l Z a0 hw [] a1 a2 cs b1 b2 k1 k2 N1 N2 g1 g2 h0 n0 Z0 O0 S_CS0 hcs E_a1 Fv_a1 Fc_a1 V_b1 E_a2 Fv_a2 Fc_a2 V_b2) E_a1 (g := (mkF m 8 #[.val (.ref c1), .val (.ref c2)] [(.ref a2), (.ref a1)])) rfl (by rw [hml]; rfl) (argsL := [(.ref a2)]) (rest := []) (lenOf pd15 rfl) rfl (hb hby d14_8) rfl (by decide) (Nat.le_of_ble_eq_true rfl) (k' := 0) (n' := 0) rfl rfl (by decide) (by decide)
  refine Go.by st3 ?_
  rcases q3 with ⟨⟨hq3, rfl⟩ | ⟨hq3, rfl⟩, rfl⟩
  · skip
    show Go p.tables e below _ (T3.setTop (mkF m 11 #[.val (.ref c1), .val (.ref c2)] [(.int (1 : Int32))]))
    refine Go.by (fun _ => XS.ifNo X3.here hx rfl (hb hby d14_11) rfl ((if0 _ _).trans (feq (by decide)).1)) ?_
    show Go p.tables e below _ (T3.setTop (mkF m 14 #[.val (.ref c1), .val (.ref c2)] []))
    refine Go.by (fun _ => XS.aloadN X3.here hx rfl (hb hby d14_14) rfl rfl) ?_
    show Go p.tables e below _ (T3.setTop (mkF m 15 #[.val (.ref c1), .val (.ref c2)] [(.ref c1)]))
    obtain ⟨T4, X4, st4⟩ := X3.getF hx hZ hown (host := "") (Or.inl (tw hw 58 rfl)) Via.refl Ft_c1 (g := (mkF m 15 #[.val (.ref c1), .val (.ref c2)] [(.ref c1)])) rfl rfl (hb hby d14_15)
    refine Go.by st4 ?_
    show Go p.tables e below _ (T4.setTop (mkF m 18 #[.val (.ref c1), .val (.ref c2)] [(.ref t1)]))
    refine Go.by (fun _ => XS.aloadN X4.here hx rfl (hb hby d14_18) rfl rfl) ?_
    show Go p.tables e below _ (T4.setTop (mkF m 19 #[.val (.ref c1), .val (.ref c2)] [(.ref c2), (.ref t1)]))
    obtain ⟨T5, X5, st5⟩ := X4.getF hx hZ hown (host := "") (Or.inl (tw hw 58 rfl)) Via.refl Ft_c2 (g := (mkF m 19 #[.val (.ref c1), .val (.ref c2)] [(.ref c2), (.ref t1)])) rfl rfl (hb hby d14_19)
    refine Go.by st5 ?_
    show Go p.tables e below _ (T5.setTop (mkF m 22 #[.val (.ref c1), .val (.ref c2)] [(.ref t2), (.ref t1)]))
    by_cases ha22_6 : t1 = t2
    · skip
      refine Go.by (X5.acmp (g := (mkF m 22 #[.val (.ref c1), .val (.ref c2)] [(.ref t2), (.ref t1)])) hx rfl rfl rfl (pc0 := 22) (pc' := 25) (same := true) rfl (hb hby d14_22) rfl (decide_eq_true (congrArg Value.ref ha22_6)) (by decide) (by decide)) ?_
      show Go p.tables e below _ (T5.setTop (mkF m 25 #[.val (.ref c1), .val (.ref c2)] []))
      refine Go.by (fun _ => XS.aloadN X5.here hx rfl (hb hby d14_25) rfl rfl) ?_
      show Go p.tables e below _ (T5.setTop (mkF m 26 #[.val (.ref c1), .val (.ref c2)] [(.ref c1)]))
      obtain ⟨T7, X7, st7⟩ := X5.getF hx hZ hown (host := "") (Or.inl (tw hw 60 rfl)) Via.refl Fm_c1 (g := (mkF m 26 #[.val (.ref c1), .val (.ref c2)] [(.ref c1)])) rfl rfl (hb hby d14_26)
      refine Go.by st7 ?_
      show Go p.tables e below _ (T7.setTop (mkF m 29 #[.val (.ref c1), .val (.ref c2)] [(.int m1)]))
      refine Go.by (fun _ => XS.aloadN X7.here hx rfl (hb hby d14_29) rfl rfl) ?_
      show Go p.tables e below _ (T7.setTop (mkF m 30 #[.val (.ref c1), .val (.ref c2)] [(.ref c2), (.int m1)]))
      obtain ⟨T8, X8, st8⟩ := X7.getF hx hZ hown (host := "") (Or.inl (tw hw 60 rfl)) Via.refl Fm_c2 (g := (mkF m 30 #[.val (.ref c1), .val (.ref c2)] [(.ref c2), (.int m1)])) rfl rfl (hb hby d14_30)
      refine Go.by st8 ?_
      show Go p.tables e below _ (T8.setTop (mkF m 33 #[.val (.ref c1), .val (.ref c2)] [(.int m2), (.int m1)]))
      by_cases hc33_9 : m1 = m2
      · skip
        refine Go.by (fun _ => XS.icmpNo X8.here hx rfl (hb hby d14_33) rfl (teq hc33_9).2) ?_
        show Go p.tables e below _ (T8.setTop (mkF m 36 #[.val (.ref c1), .val (.ref c2)] []))
        refine Go.by (fun _ => XS.iconst X8.here hx rfl (hb hby d14_36)) ?_
        show Go p.tables e below _ (T8.setTop (mkF m 37 #[.val (.ref c1), .val (.ref c2)] [(.int (1 : Int32))]))
        refine Go.by (fun _ => XS.goto X8.here hx rfl (pc0 := 37) (pc' := 41) rfl (hb hby d14_37) (by decide) (by decide)) ?_
        show Go p.tables e below _ (T8.setTop (mkF m 41 #[.val (.ref c1), .val (.ref c2)] [(.int (1 : Int32))]))
        exact Go.retN X8 hx hlk (z' := (1 : Int32)) hret (by simp) (hb hby d14_41) rfl (by decide) (by decide) (fun _ z => z.elim) ⟨Or.inl ⟨⟨hq3, ha22_6, hc33_9⟩, rfl⟩, rfl⟩
      · skip
        refine Go.by (fun _ => XS.icmpYes X8.here hx rfl (pc0 := 33) (pc' := 40) rfl (hb hby d14_33) rfl (feq hc33_9).2 (by decide) (by decide)) ?_
        show Go p.tables e below _ (T8.setTop (mkF m 40 #[.val (.ref c1), .val (.ref c2)] []))
        refine Go.by (fun _ => XS.iconst X8.here hx rfl (hb hby d14_40)) ?_
        show Go p.tables e below _ (T8.setTop (mkF m 41 #[.val (.ref c1), .val (.ref c2)] [(.int (0 : Int32))]))
        exact Go.retN X8 hx hlk (z' := (0 : Int32)) hret (by simp) (hb hby d14_41) rfl (by decide) (by decide) (fun _ z => z.elim) ⟨Or.inr ⟨fun q => hc33_9 q.2.2, rfl⟩, rfl⟩
    · skip
      refine Go.by (X5.acmp (g := (mkF m 22 #[.val (.ref c1), .val (.ref c2)] [(.ref t2), (.ref t1)])) hx rfl rfl rfl (pc0 := 22) (pc' := 40) (same := false) rfl (hb hby d14_22) rfl (decide_eq_false fun q => ha22_6 (Value.ref.inj q)) (by decide) (by decide)) ?_
      show Go p.tables e below _ (T5.setTop (mkF m 40 #[.val (.ref c1), .val (.ref c2)] []))
      refine Go.by (fun _ => XS.iconst X5.here hx rfl (hb hby d14_40)) ?_
      show Go p.tables e below _ (T5.setTop (mkF m 41 #[.val (.ref c1), .val (.ref c2)] [(.int (0 : Int32))]))
      exact Go.retN X5 hx hlk (z' := (0 : Int32)) hret (by simp) (hb hby d14_41) rfl (by decide) (by decide) (fun _ z => z.elim) ⟨Or.inr ⟨fun q => ha22_6 q.2.1, rfl⟩, rfl⟩
  · skip
    show Go p.tables e below _ (T3.setTop (mkF m 11 #[.val (.ref c1), .val (.ref c2)] [(.int (0 : Int32))]))
    refine Go.by (fun _ => XS.ifYes X3.here hx rfl (pc0 := 11) (pc' := 40) rfl (hb hby d14_11) rfl ((if0 _ _).trans (teq (by decide)).1) (by decide) (by decide)) ?_
    show Go p.tables e below _ (T3.setTop (mkF m 40 #[.val (.ref c1), .val (.ref c2)] []))
    refine Go.by (fun _ => XS.iconst X3.here hx rfl (hb hby d14_40)) ?_
    show Go p.tables e below _ (T3.setTop (mkF m 41 #[.val (.ref c1), .val (.ref c2)] [(.int (0 : Int32))]))
    exact Go.retN X3 hx hlk (z' := (0 : Int32)) hret (by simp) (hb hby d14_41) rfl (by decide) (by decide) (fun _ z => z.elim) ⟨Or.inr ⟨fun q => hq3 q.1, rfl⟩, rfl⟩
theorem pd16 : parseMethodDescriptor "(II)I" = some ⟨[.int, .int], some .int⟩ := by decide +kernel
theorem pd17 : parseMethodDescriptor "(II)Ljava/util/Optional;" = some ⟨[.int, .int], some (.object "java/util/Optional")⟩ := by decide +kernel
theorem pd18 : parseMethodDescriptor "(III)Ljava/lang/String;" = some ⟨[.int, .int, .int], some (.object "java/lang/String")⟩ := by decide +kernel
theorem pd19 : parseMethodDescriptor "(I)Lcom/example/interlace/interlace/DataType;" = some ⟨[.int], some (.object "com/example/interlace/interlace/DataType")⟩ := by decide +kernel
theorem pd20 : parseMethodDescriptor "(Ljava/lang/String;Lcom/example/interlace/interlace/DataType;IZLjava/util/Optional;)V" = some ⟨[(.object "java/lang/String"), (.object "com/example/interlace/interlace/DataType"), .int, .boolean, (.object "java/util/Optional")], none⟩ := by decide +kernel
theorem pd21 : parseMethodDescriptor "(Lcom/example/interlace/interlace/Column;)Z" = some ⟨[(.object "com/example/interlace/interlace/Column")], some .boolean⟩ := by decide +kernel
set_option maxRecDepth 65536 in
set_option maxHeartbeats 40000000 in
theorem rm0 (l : Launch) (Z : State) (a0 : Array Value) (hw : ∀ d ∈ tables_1, d.before a0 Z = true) (ws : List Jvm.Cond) (p0 : Int32) (p1 : Int32) (p2 : Int32) (p3 : Int32) (p4 : Int32) (a_SMALLINT : Addr) (a_INTEGER : Addr) (a_NUMERIC : Addr) (a_REAL : Addr) (a_TIMESTAMPTZ : Addr) (a_JSONB : Addr) (a_BIGINT : Addr) (a_DOUBLE_PRECISION : Addr) (a_BOOLEAN : Addr) (a_TEXT : Addr) (a_VARCHAR : Addr) (cs : Int32) (ae : Addr) (h0 : Heap) (n0 : Nat) (Z0 : n0 ≤ h0.size) (O0 : Old Z n0 h0) (S_CS0 : Sta Z Z.heap "java/lang/String" "COMPACT_STRINGS" "Z" (.int cs)) (hcs : ¬ cs = 0) (S_SMALLINT0 : Sta Z Z.heap "com/example/interlace/interlace/DataType" "SMALLINT" "Lcom/example/interlace/interlace/DataType;" (.ref a_SMALLINT)) (S_INTEGER0 : Sta Z Z.heap "com/example/interlace/interlace/DataType" "INTEGER" "Lcom/example/interlace/interlace/DataType;" (.ref a_INTEGER)) (S_NUMERIC0 : Sta Z Z.heap "com/example/interlace/interlace/DataType" "NUMERIC" "Lcom/example/interlace/interlace/DataType;" (.ref a_NUMERIC)) (S_REAL0 : Sta Z Z.heap "com/example/interlace/interlace/DataType" "REAL" "Lcom/example/interlace/interlace/DataType;" (.ref a_REAL)) (S_TIMESTAMPTZ0 : Sta Z Z.heap "com/example/interlace/interlace/DataType" "TIMESTAMPTZ" "Lcom/example/interlace/interlace/DataType;" (.ref a_TIMESTAMPTZ)) (S_JSONB0 : Sta Z Z.heap "com/example/interlace/interlace/DataType" "JSONB" "Lcom/example/interlace/interlace/DataType;" (.ref a_JSONB)) (S_BIGINT0 : Sta Z Z.heap "com/example/interlace/interlace/DataType" "BIGINT" "Lcom/example/interlace/interlace/DataType;" (.ref a_BIGINT)) (S_DOUBLE_PRECISION0 : Sta Z Z.heap "com/example/interlace/interlace/DataType" "DOUBLE_PRECISION" "Lcom/example/interlace/interlace/DataType;" (.ref a_DOUBLE_PRECISION)) (S_BOOLEAN0 : Sta Z Z.heap "com/example/interlace/interlace/DataType" "BOOLEAN" "Lcom/example/interlace/interlace/DataType;" (.ref a_BOOLEAN)) (S_TEXT0 : Sta Z Z.heap "com/example/interlace/interlace/DataType" "TEXT" "Lcom/example/interlace/interlace/DataType;" (.ref a_TEXT)) (S_VARCHAR0 : Sta Z Z.heap "com/example/interlace/interlace/DataType" "VARCHAR" "Lcom/example/interlace/interlace/DataType;" (.ref a_VARCHAR)) (E_SMALLINT0 : Exa Z Z.heap a_SMALLINT "com/example/interlace/interlace/DataType$1") (E_INTEGER0 : Exa Z Z.heap a_INTEGER "com/example/interlace/interlace/DataType$2") (E_NUMERIC0 : Exa Z Z.heap a_NUMERIC "com/example/interlace/interlace/DataType$3") (E_REAL0 : Exa Z Z.heap a_REAL "com/example/interlace/interlace/DataType$4") (E_TIMESTAMPTZ0 : Exa Z Z.heap a_TIMESTAMPTZ "com/example/interlace/interlace/DataType$5") (E_JSONB0 : Exa Z Z.heap a_JSONB "com/example/interlace/interlace/DataType$6") (E_BIGINT0 : Exa Z Z.heap a_BIGINT "com/example/interlace/interlace/DataType$7") (E_DOUBLE_PRECISION0 : Exa Z Z.heap a_DOUBLE_PRECISION "com/example/interlace/interlace/DataType$8") (E_BOOLEAN0 : Exa Z Z.heap a_BOOLEAN "com/example/interlace/interlace/DataType$9") (E_TEXT0 : Exa Z Z.heap a_TEXT "com/example/interlace/interlace/DataType$10") (E_VARCHAR0 : Exa Z Z.heap a_VARCHAR "com/example/interlace/interlace/DataType$11") (S_E0 : Sta Z Z.heap "java/util/Optional" "EMPTY" "Ljava/util/Optional;" (.ref ae)) :
    Met l Z EL [] (fun _ _ _ => False) n0 x code maxLocals ret ws room_1 #[(.int p0), (.int p1), (.int p2), (.int p3), (.int p4)] h0 (fun v h => v = some (.int 1)) := by
  refine enter (Ls := #[.val (.int p0), .val (.int p1), .val (.int p2), .val (.int p3), .val (.int p4), .unset, .unset, .unset, .unset, .unset, .unset, .unset, .unset, .unset, .unset, .unset, .unset, .unset, .unset, .unset, .unset, .unset, .unset]) (plainFor_of_name pn6) (fun m => by first | (simp [entryFrame, mkF, argsToLocals, Value.category, maxLocals]; done) | rfl) ?_
  intro p e s m below meth c T0 hx hby hml hown hnm hret hlk hZ X0
  show Go p.tables e below _ (T0.setTop (mkF m 0 #[.val (.int p0), .val (.int p1), .val (.int p2), .val (.int p3), .val (.int p4), .unset, .unset, .unset, .unset, .unset, .unset, .unset, .unset, .unset, .unset, .unset, .unset, .unset, .unset, .unset, .unset, .unset, .unset] []))
  refine Go.by (fun _ => XS.iloadN X0.here hx rfl (hb hby at_0) rfl) ?_
  show Go p.tables e below _ (T0.setTop (mkF m 1 #[.val (.int p0), .val (.int p1), .val (.int p2), .val (.int p3), .val (.int p4), .unset, .unset, .unset, .unset, .unset, .unset, .unset, .unset, .unset, .unset, .unset, .unset, .unset, .unset, .unset, .unset, .unset, .unset] [(.int p0)]))
  refine Go.by (fun _ => XS.iconst X0.here hx rfl (hb hby at_1)) ?_
  show Go p.tables e below _ (T0.setTop (mkF m 2 #[.val (.int p0), .val (.int p1), .val (.int p2), .val (.int p3), .val (.int p4), .unset, .unset, .unset, .unset, .unset, .unset, .unset, .unset, .unset, .unset, .unset, .unset, .unset, .unset, .unset, .unset, .unset, .unset] [(.int (3 : Int32)), (.int p0)]))
  refine Go.by (fun _ => XS.iand X0.here hx rfl (hb hby at_2) rfl) ?_
  show Go p.tables e below _ (T0.setTop (mkF m 3 #[.val (.int p0), .val (.int p1), .val (.int p2), .val (.int p3), .val (.int p4), .unset, .unset, .unset, .unset, .unset, .unset, .unset, .unset, .unset, .unset, .unset, .unset, .unset, .unset, .unset, .unset, .unset, .unset] [(.int (p0 &&& (3 : Int32)))]))
  refine Go.by (fun _ => XS.iconst X0.here hx rfl (hb hby at_3)) ?_
  show Go p.tables e below _ (T0.setTop (mkF m 4 #[.val (.int p0), .val (.int p1), .val (.int p2), .val (.int p3), .val (.int p4), .unset, .unset, .unset, .unset, .unset, .unset, .unset, .unset, .unset, .unset, .unset, .unset, .unset, .unset, .unset, .unset, .unset, .unset] [(.int (2 : Int32)), (.int (p0 &&& (3 : Int32)))]))
  obtain ⟨v1, T1, h1, X1, q1, xs1, st1⟩ := X0.callS hx hZ f0n (y := (⟨"java/lang/Math", "min", "(II)I"⟩ : MethodName)) hown (tw hw 0 rfl) (tw hw 1 rfl) (tw hw 2 rfl) (tw hw 3 rfl) (by decide) (rm1 l Z a0 hw [] (p0 &&& (3 : Int32)) (2 : Int32) h0 n0 Z0) (g := (mkF m 4 #[.val (.int p0), .val (.int p1), .val (.int p2), .val (.int p3), .val (.int p4), .unset, .unset, .unset, .unset, .unset, .unset, .unset, .unset, .unset, .unset, .unset, .unset, .unset, .unset, .unset, .unset, .unset, .unset] [(.int (2 : Int32)), (.int (p0 &&& (3 : Int32)))])) rfl (by rw [hml]; rfl) (argsL := [(.int (p0 &&& (3 : Int32))), (.int (2 : Int32))]) (rest := []) (lenOf pd16 rfl) rfl (hb hby at_4) rfl (by decide) (Nat.le_of_ble_eq_true rfl) (k' := 0) (n' := 0) rfl rfl (by decide) (by decide)
  refine Go.by st1 ?_
  obtain ⟨r1, rfl, hr1, rfl⟩ := q1
  show Go p.tables e below _ (T1.setTop (mkF m 7 #[.val (.int p0), .val (.int p1), .val (.int p2), .val (.int p3), .val (.int p4), .unset, .unset, .unset, .unset, .unset, .unset, .unset, .unset, .unset, .unset, .unset, .unset, .unset, .unset, .unset, .unset, .unset, .unset] [(.int r1)]))
  have bn1 := own_min (own_m3 _) hr1
  refine Go.by (fun _ => XS.istore X1.here hx rfl (hb hby at_7) rfl (l' := #[.val (.int p0), .val (.int p1), .val (.int p2), .val (.int p3), .val (.int p4), .val (.int r1), .unset, .unset, .unset, .unset, .unset, .unset, .unset, .unset, .unset, .unset, .unset, .unset, .unset, .unset, .unset, .unset, .unset]) rfl) ?_
  show Go p.tables e below _ (T1.setTop (mkF m 9 #[.val (.int p0), .val (.int p1), .val (.int p2), .val (.int p3), .val (.int p4), .val (.int r1), .unset, .unset, .unset, .unset, .unset, .unset, .unset, .unset, .unset, .unset, .unset, .unset, .unset, .unset, .unset, .unset, .unset] []))
  refine Go.by (fun _ => XS.iloadN X1.here hx rfl (hb hby at_9) rfl) ?_
  show Go p.tables e below _ (T1.setTop (mkF m 10 #[.val (.int p0), .val (.int p1), .val (.int p2), .val (.int p3), .val (.int p4), .val (.int r1), .unset, .unset, .unset, .unset, .unset, .unset, .unset, .unset, .unset, .unset, .unset, .unset, .unset, .unset, .unset, .unset, .unset] [(.int p0)]))
  refine Go.by (fun _ => XS.iconst X1.here hx rfl (hb hby at_10)) ?_
  show Go p.tables e below _ (T1.setTop (mkF m 11 #[.val (.int p0), .val (.int p1), .val (.int p2), .val (.int p3), .val (.int p4), .val (.int r1), .unset, .unset, .unset, .unset, .unset, .unset, .unset, .unset, .unset, .unset, .unset, .unset, .unset, .unset, .unset, .unset, .unset] [(.int (2 : Int32)), (.int p0)]))
  refine Go.by (fun _ => XS.iushr X1.here hx rfl (hb hby at_11) rfl) ?_
  show Go p.tables e below _ (T1.setTop (mkF m 12 #[.val (.int p0), .val (.int p1), .val (.int p2), .val (.int p3), .val (.int p4), .val (.int r1), .unset, .unset, .unset, .unset, .unset, .unset, .unset, .unset, .unset, .unset, .unset, .unset, .unset, .unset, .unset, .unset, .unset] [(.int ((p0.toUInt32 >>> ((2 : Int32) &&& 31).toUInt32).toInt32))]))
  refine Go.by (fun _ => XS.sipush X1.here hx rfl (hb hby at_12)) ?_
  show Go p.tables e below _ (T1.setTop (mkF m 15 #[.val (.int p0), .val (.int p1), .val (.int p2), .val (.int p3), .val (.int p4), .val (.int r1), .unset, .unset, .unset, .unset, .unset, .unset, .unset, .unset, .unset, .unset, .unset, .unset, .unset, .unset, .unset, .unset, .unset] [(.int (255 : Int32)), (.int ((p0.toUInt32 >>> ((2 : Int32) &&& 31).toUInt32).toInt32))]))
  refine Go.by (fun _ => XS.iand X1.here hx rfl (hb hby at_15) rfl) ?_
  show Go p.tables e below _ (T1.setTop (mkF m 16 #[.val (.int p0), .val (.int p1), .val (.int p2), .val (.int p3), .val (.int p4), .val (.int r1), .unset, .unset, .unset, .unset, .unset, .unset, .unset, .unset, .unset, .unset, .unset, .unset, .unset, .unset, .unset, .unset, .unset] [(.int (((p0.toUInt32 >>> ((2 : Int32) &&& 31).toUInt32).toInt32) &&& (255 : Int32)))]))
  have b_x6 : 0 ≤ (((p0.toUInt32 >>> ((2 : Int32) &&& 31).toUInt32).toInt32) &&& (255 : Int32)).toInt ∧ (((p0.toUInt32 >>> ((2 : Int32) &&& 31).toUInt32).toInt32) &&& (255 : Int32)).toInt ≤ 255 := own_m255 _
  generalize (((p0.toUInt32 >>> ((2 : Int32) &&& 31).toUInt32).toInt32) &&& (255 : Int32)) = x6 at b_x6 ⊢
  show Go p.tables e below _ (T1.setTop (mkF m 16 #[.val (.int p0), .val (.int p1), .val (.int p2), .val (.int p3), .val (.int p4), .val (.int r1), .unset, .unset, .unset, .unset, .unset, .unset, .unset, .unset, .unset, .unset, .unset, .unset, .unset, .unset, .unset, .unset, .unset] [(.int x6)]))
  refine Go.by (fun _ => XS.istore X1.here hx rfl (hb hby at_16) rfl (l' := #[.val (.int p0), .val (.int p1), .val (.int p2), .val (.int p3), .val (.int p4), .val (.int r1), .val (.int x6), .unset, .unset, .unset, .unset, .unset, .unset, .unset, .unset, .unset, .unset, .unset, .unset, .unset, .unset, .unset, .unset]) rfl) ?_
  show Go p.tables e below _ (T1.setTop (mkF m 18 #[.val (.int p0), .val (.int p1), .val (.int p2), .val (.int p3), .val (.int p4), .val (.int r1), .val (.int x6), .unset, .unset, .unset, .unset, .unset, .unset, .unset, .unset, .unset, .unset, .unset, .unset, .unset, .unset, .unset, .unset] []))
  refine Go.by (fun _ => XS.iloadN X1.here hx rfl (hb hby at_18) rfl) ?_
  show Go p.tables e below _ (T1.setTop (mkF m 19 #[.val (.int p0), .val (.int p1), .val (.int p2), .val (.int p3), .val (.int p4), .val (.int r1), .val (.int x6), .unset, .unset, .unset, .unset, .unset, .unset, .unset, .unset, .unset, .unset, .unset, .unset, .unset, .unset, .unset, .unset] [(.int p0)]))
  refine Go.by (fun _ => XS.bipush X1.here hx rfl (hb hby at_19)) ?_
  show Go p.tables e below _ (T1.setTop (mkF m 21 #[.val (.int p0), .val (.int p1), .val (.int p2), .val (.int p3), .val (.int p4), .val (.int r1), .val (.int x6), .unset, .unset, .unset, .unset, .unset, .unset, .unset, .unset, .unset, .unset, .unset, .unset, .unset, .unset, .unset, .unset] [(.int (10 : Int32)), (.int p0)]))
  refine Go.by (fun _ => XS.iushr X1.here hx rfl (hb hby at_21) rfl) ?_
  show Go p.tables e below _ (T1.setTop (mkF m 22 #[.val (.int p0), .val (.int p1), .val (.int p2), .val (.int p3), .val (.int p4), .val (.int r1), .val (.int x6), .unset, .unset, .unset, .unset, .unset, .unset, .unset, .unset, .unset, .unset, .unset, .unset, .unset, .unset, .unset, .unset] [(.int ((p0.toUInt32 >>> ((10 : Int32) &&& 31).toUInt32).toInt32))]))
  refine Go.by (fun _ => XS.sipush X1.here hx rfl (hb hby at_22)) ?_
  show Go p.tables e below _ (T1.setTop (mkF m 25 #[.val (.int p0), .val (.int p1), .val (.int p2), .val (.int p3), .val (.int p4), .val (.int r1), .val (.int x6), .unset, .unset, .unset, .unset, .unset, .unset, .unset, .unset, .unset, .unset, .unset, .unset, .unset, .unset, .unset, .unset] [(.int (255 : Int32)), (.int ((p0.toUInt32 >>> ((10 : Int32) &&& 31).toUInt32).toInt32))]))
  refine Go.by (fun _ => XS.iand X1.here hx rfl (hb hby at_25) rfl) ?_
  show Go p.tables e below _ (T1.setTop (mkF m 26 #[.val (.int p0), .val (.int p1), .val (.int p2), .val (.int p3), .val (.int p4), .val (.int r1), .val (.int x6), .unset, .unset, .unset, .unset, .unset, .unset, .unset, .unset, .unset, .unset, .unset, .unset, .unset, .unset, .unset, .unset] [(.int (((p0.toUInt32 >>> ((10 : Int32) &&& 31).toUInt32).toInt32) &&& (255 : Int32)))]))
  have b_y7 : 0 ≤ (((p0.toUInt32 >>> ((10 : Int32) &&& 31).toUInt32).toInt32) &&& (255 : Int32)).toInt ∧ (((p0.toUInt32 >>> ((10 : Int32) &&& 31).toUInt32).toInt32) &&& (255 : Int32)).toInt ≤ 255 := own_m255 _
  generalize (((p0.toUInt32 >>> ((10 : Int32) &&& 31).toUInt32).toInt32) &&& (255 : Int32)) = y7 at b_y7 ⊢
  show Go p.tables e below _ (T1.setTop (mkF m 26 #[.val (.int p0), .val (.int p1), .val (.int p2), .val (.int p3), .val (.int p4), .val (.int r1), .val (.int x6), .unset, .unset, .unset, .unset, .unset, .unset, .unset, .unset, .unset, .unset, .unset, .unset, .unset, .unset, .unset, .unset] [(.int y7)]))
  refine Go.by (fun _ => XS.istore X1.here hx rfl (hb hby at_26) rfl (l' := #[.val (.int p0), .val (.int p1), .val (.int p2), .val (.int p3), .val (.int p4), .val (.int r1), .val (.int x6), .val (.int y7), .unset, .unset, .unset, .unset, .unset, .unset, .unset, .unset, .unset, .unset, .unset, .unset, .unset, .unset, .unset]) rfl) ?_
  show Go p.tables e below _ (T1.setTop (mkF m 28 #[.val (.int p0), .val (.int p1), .val (.int p2), .val (.int p3), .val (.int p4), .val (.int r1), .val (.int x6), .val (.int y7), .unset, .unset, .unset, .unset, .unset, .unset, .unset, .unset, .unset, .unset, .unset, .unset, .unset, .unset, .unset] []))
  refine Go.by (fun _ => XS.iloadN X1.here hx rfl (hb hby at_28) rfl) ?_
  show Go p.tables e below _ (T1.setTop (mkF m 29 #[.val (.int p0), .val (.int p1), .val (.int p2), .val (.int p3), .val (.int p4), .val (.int r1), .val (.int x6), .val (.int y7), .unset, .unset, .unset, .unset, .unset, .unset, .unset, .unset, .unset, .unset, .unset, .unset, .unset, .unset, .unset] [(.int p1)]))
  refine Go.by (fun _ => XS.iconst X1.here hx rfl (hb hby at_29)) ?_
  show Go p.tables e below _ (T1.setTop (mkF m 30 #[.val (.int p0), .val (.int p1), .val (.int p2), .val (.int p3), .val (.int p4), .val (.int r1), .val (.int x6), .val (.int y7), .unset, .unset, .unset, .unset, .unset, .unset, .unset, .unset, .unset, .unset, .unset, .unset, .unset, .unset, .unset] [(.int (1 : Int32)), (.int p1)]))
  refine Go.by (fun _ => XS.iand X1.here hx rfl (hb hby at_30) rfl) ?_
  show Go p.tables e below _ (T1.setTop (mkF m 31 #[.val (.int p0), .val (.int p1), .val (.int p2), .val (.int p3), .val (.int p4), .val (.int r1), .val (.int x6), .val (.int y7), .unset, .unset, .unset, .unset, .unset, .unset, .unset, .unset, .unset, .unset, .unset, .unset, .unset, .unset, .unset] [(.int (p1 &&& (1 : Int32)))]))
  have J2 : ∀ (Tj2 : State), Sd Z EL [] n0 p l e room_1 s m #[(.int p0), (.int p1), (.int p2), (.int p3), (.int p4)] below meth c Tj2 h0 0 0 → ∀ (fl : Int32), True → Go p.tables e below (Ret Z EL (fun _ _ _ => False) s n0 (fun v h => v = some (.int 1)) room_1.cells room_1.slots) (Tj2.setTop (mkF m 39 #[.val (.int p0), .val (.int p1), .val (.int p2), .val (.int p3), .val (.int p4), .val (.int r1), .val (.int x6), .val (.int y7), .unset, .unset, .unset, .unset, .unset, .unset, .unset, .unset, .unset, .unset, .unset, .unset, .unset, .unset, .unset] [(.int fl)])) := by
    intro Tj2 Xj2 fl hj2
    refine Go.by (fun _ => XS.istore Xj2.here hx rfl (hb hby at_39) rfl (l' := #[.val (.int p0), .val (.int p1), .val (.int p2), .val (.int p3), .val (.int p4), .val (.int r1), .val (.int x6), .val (.int y7), .val (.int fl), .unset, .unset, .unset, .unset, .unset, .unset, .unset, .unset, .unset, .unset, .unset, .unset, .unset, .unset]) rfl) ?_
    show Go p.tables e below _ (Tj2.setTop (mkF m 41 #[.val (.int p0), .val (.int p1), .val (.int p2), .val (.int p3), .val (.int p4), .val (.int r1), .val (.int x6), .val (.int y7), .val (.int fl), .unset, .unset, .unset, .unset, .unset, .unset, .unset, .unset, .unset, .unset, .unset, .unset, .unset, .unset] []))
    refine Go.by (fun _ => XS.iload Xj2.here hx rfl (hb hby at_41) rfl) ?_
    show Go p.tables e below _ (Tj2.setTop (mkF m 43 #[.val (.int p0), .val (.int p1), .val (.int p2), .val (.int p3), .val (.int p4), .val (.int r1), .val (.int x6), .val (.int y7), .val (.int fl), .unset, .unset, .unset, .unset, .unset, .unset, .unset, .unset, .unset, .unset, .unset, .unset, .unset, .unset] [(.int fl)]))
    have J3 : ∀ (Tj3 : State), Sd Z EL [] n0 p l e room_1 s m #[(.int p0), (.int p1), (.int p2), (.int p3), (.int p4)] below meth c Tj3 h0 0 0 → ∀ (n9 : Int32), 0 ≤ n9.toInt ∧ n9.toInt ≤ 2 → Go p.tables e below (Ret Z EL (fun _ _ _ => False) s n0 (fun v h => v = some (.int 1)) room_1.cells room_1.slots) (Tj3.setTop (mkF m 60 #[.val (.int p0), .val (.int p1), .val (.int p2), .val (.int p3), .val (.int p4), .val (.int r1), .val (.int x6), .val (.int y7), .val (.int fl), .unset, .unset, .unset, .unset, .unset, .unset, .unset, .unset, .unset, .unset, .unset, .unset, .unset, .unset] [(.int n9)])) := by
      intro Tj3 Xj3 n9 hj3
      refine Go.by (fun _ => XS.istore Xj3.here hx rfl (hb hby at_60) rfl (l' := #[.val (.int p0), .val (.int p1), .val (.int p2), .val (.int p3), .val (.int p4), .val (.int r1), .val (.int x6), .val (.int y7), .val (.int fl), .val (.int n9), .unset, .unset, .unset, .unset, .unset, .unset, .unset, .unset, .unset, .unset, .unset, .unset, .unset]) rfl) ?_
      show Go p.tables e below _ (Tj3.setTop (mkF m 62 #[.val (.int p0), .val (.int p1), .val (.int p2), .val (.int p3), .val (.int p4), .val (.int r1), .val (.int x6), .val (.int y7), .val (.int fl), .val (.int n9), .unset, .unset, .unset, .unset, .unset, .unset, .unset, .unset, .unset, .unset, .unset, .unset, .unset] []))
      refine Go.by (fun _ => XS.iload Xj3.here hx rfl (hb hby at_62) rfl) ?_
      show Go p.tables e below _ (Tj3.setTop (mkF m 64 #[.val (.int p0), .val (.int p1), .val (.int p2), .val (.int p3), .val (.int p4), .val (.int r1), .val (.int x6), .val (.int y7), .val (.int fl), .val (.int n9), .unset, .unset, .unset, .unset, .unset, .unset, .unset, .unset, .unset, .unset, .unset, .unset, .unset] [(.int fl)]))
      have J4 : ∀ (Tj4 : State), Sd Z EL [] n0 p l e room_1 s m #[(.int p0), (.int p1), (.int p2), (.int p3), (.int p4)] below meth c Tj4 h0 0 0 → ∀ (x10 : Int32), 0 ≤ x10.toInt ∧ x10.toInt ≤ 255 → Go p.tables e below (Ret Z EL (fun _ _ _ => False) s n0 (fun v h => v = some (.int 1)) room_1.cells room_1.slots) (Tj4.setTop (mkF m 79 #[.val (.int p0), .val (.int p1), .val (.int p2), .val (.int p3), .val (.int p4), .val (.int r1), .val (.int x6), .val (.int y7), .val (.int fl), .val (.int n9), .unset, .unset, .unset, .unset, .unset, .unset, .unset, .unset, .unset, .unset, .unset, .unset, .unset] [(.int x10)])) := by
        intro Tj4 Xj4 x10 hj4
        refine Go.by (fun _ => XS.istore Xj4.here hx rfl (hb hby at_79) rfl (l' := #[.val (.int p0), .val (.int p1), .val (.int p2), .val (.int p3), .val (.int p4), .val (.int r1), .val (.int x6), .val (.int y7), .val (.int fl), .val (.int n9), .val (.int x10), .unset, .unset, .unset, .unset, .unset, .unset, .unset, .unset, .unset, .unset, .unset, .unset]) rfl) ?_
        show Go p.tables e below _ (Tj4.setTop (mkF m 81 #[.val (.int p0), .val (.int p1), .val (.int p2), .val (.int p3), .val (.int p4), .val (.int r1), .val (.int x6), .val (.int y7), .val (.int fl), .val (.int n9), .val (.int x10), .unset, .unset, .unset, .unset, .unset, .unset, .unset, .unset, .unset, .unset, .unset, .unset] []))
        refine Go.by (fun _ => XS.iload Xj4.here hx rfl (hb hby at_81) rfl) ?_
        show Go p.tables e below _ (Tj4.setTop (mkF m 83 #[.val (.int p0), .val (.int p1), .val (.int p2), .val (.int p3), .val (.int p4), .val (.int r1), .val (.int x6), .val (.int y7), .val (.int fl), .val (.int n9), .val (.int x10), .unset, .unset, .unset, .unset, .unset, .unset, .unset, .unset, .unset, .unset, .unset, .unset] [(.int fl)]))
        have J5 : ∀ (Tj5 : State), Sd Z EL [] n0 p l e room_1 s m #[(.int p0), (.int p1), (.int p2), (.int p3), (.int p4)] below meth c Tj5 h0 0 0 → ∀ (y11 : Int32), 0 ≤ y11.toInt ∧ y11.toInt ≤ 255 → Go p.tables e below (Ret Z EL (fun _ _ _ => False) s n0 (fun v h => v = some (.int 1)) room_1.cells room_1.slots) (Tj5.setTop (mkF m 99 #[.val (.int p0), .val (.int p1), .val (.int p2), .val (.int p3), .val (.int p4), .val (.int r1), .val (.int x6), .val (.int y7), .val (.int fl), .val (.int n9), .val (.int x10), .unset, .unset, .unset, .unset, .unset, .unset, .unset, .unset, .unset, .unset, .unset, .unset] [(.int y11)])) := by
          intro Tj5 Xj5 y11 hj5
          refine Go.by (fun _ => XS.istore Xj5.here hx rfl (hb hby at_99) rfl (l' := #[.val (.int p0), .val (.int p1), .val (.int p2), .val (.int p3), .val (.int p4), .val (.int r1), .val (.int x6), .val (.int y7), .val (.int fl), .val (.int n9), .val (.int x10), .val (.int y11), .unset, .unset, .unset, .unset, .unset, .unset, .unset, .unset, .unset, .unset, .unset]) rfl) ?_
          show Go p.tables e below _ (Tj5.setTop (mkF m 101 #[.val (.int p0), .val (.int p1), .val (.int p2), .val (.int p3), .val (.int p4), .val (.int r1), .val (.int x6), .val (.int y7), .val (.int fl), .val (.int n9), .val (.int x10), .val (.int y11), .unset, .unset, .unset, .unset, .unset, .unset, .unset, .unset, .unset, .unset, .unset] []))
          refine Go.by (fun _ => XS.iloadN Xj5.here hx rfl (hb hby at_101) rfl) ?_
          show Go p.tables e below _ (Tj5.setTop (mkF m 102 #[.val (.int p0), .val (.int p1), .val (.int p2), .val (.int p3), .val (.int p4), .val (.int r1), .val (.int x6), .val (.int y7), .val (.int fl), .val (.int n9), .val (.int x10), .val (.int y11), .unset, .unset, .unset, .unset, .unset, .unset, .unset, .unset, .unset, .unset, .unset] [(.int p2)]))
          refine Go.by (fun _ => XS.bipush Xj5.here hx rfl (hb hby at_102)) ?_
          show Go p.tables e below _ (Tj5.setTop (mkF m 104 #[.val (.int p0), .val (.int p1), .val (.int p2), .val (.int p3), .val (.int p4), .val (.int r1), .val (.int x6), .val (.int y7), .val (.int fl), .val (.int n9), .val (.int x10), .val (.int y11), .unset, .unset, .unset, .unset, .unset, .unset, .unset, .unset, .unset, .unset, .unset] [(.int (15 : Int32)), (.int p2)]))
          refine Go.by (fun _ => XS.iand Xj5.here hx rfl (hb hby at_104) rfl) ?_
          show Go p.tables e below _ (Tj5.setTop (mkF m 105 #[.val (.int p0), .val (.int p1), .val (.int p2), .val (.int p3), .val (.int p4), .val (.int r1), .val (.int x6), .val (.int y7), .val (.int fl), .val (.int n9), .val (.int x10), .val (.int y11), .unset, .unset, .unset, .unset, .unset, .unset, .unset, .unset, .unset, .unset, .unset] [(.int (p2 &&& (15 : Int32)))]))
          refine Go.by (fun _ => XS.bipush Xj5.here hx rfl (hb hby at_105)) ?_
          show Go p.tables e below _ (Tj5.setTop (mkF m 107 #[.val (.int p0), .val (.int p1), .val (.int p2), .val (.int p3), .val (.int p4), .val (.int r1), .val (.int x6), .val (.int y7), .val (.int fl), .val (.int n9), .val (.int x10), .val (.int y11), .unset, .unset, .unset, .unset, .unset, .unset, .unset, .unset, .unset, .unset, .unset] [(.int (11 : Int32)), (.int (p2 &&& (15 : Int32)))]))
          refine Go.by (fun _ => iremS Xj5 hx rfl (hb hby at_107) rfl (by decide)) ?_
          show Go p.tables e below _ (Tj5.setTop (mkF m 108 #[.val (.int p0), .val (.int p1), .val (.int p2), .val (.int p3), .val (.int p4), .val (.int r1), .val (.int x6), .val (.int y7), .val (.int fl), .val (.int n9), .val (.int x10), .val (.int y11), .unset, .unset, .unset, .unset, .unset, .unset, .unset, .unset, .unset, .unset, .unset] [(.int ((p2 &&& (15 : Int32)) % (11 : Int32)))]))
          have b_i12 : 0 ≤ ((p2 &&& (15 : Int32)) % (11 : Int32)).toInt ∧ ((p2 &&& (15 : Int32)) % (11 : Int32)).toInt ≤ 10 := own_m11 _
          generalize ((p2 &&& (15 : Int32)) % (11 : Int32)) = i12 at b_i12 ⊢
          show Go p.tables e below _ (Tj5.setTop (mkF m 108 #[.val (.int p0), .val (.int p1), .val (.int p2), .val (.int p3), .val (.int p4), .val (.int r1), .val (.int x6), .val (.int y7), .val (.int fl), .val (.int n9), .val (.int x10), .val (.int y11), .unset, .unset, .unset, .unset, .unset, .unset, .unset, .unset, .unset, .unset, .unset] [(.int i12)]))
          refine Go.by (fun _ => XS.istore Xj5.here hx rfl (hb hby at_108) rfl (l' := #[.val (.int p0), .val (.int p1), .val (.int p2), .val (.int p3), .val (.int p4), .val (.int r1), .val (.int x6), .val (.int y7), .val (.int fl), .val (.int n9), .val (.int x10), .val (.int y11), .val (.int i12), .unset, .unset, .unset, .unset, .unset, .unset, .unset, .unset, .unset, .unset]) rfl) ?_
          show Go p.tables e below _ (Tj5.setTop (mkF m 110 #[.val (.int p0), .val (.int p1), .val (.int p2), .val (.int p3), .val (.int p4), .val (.int r1), .val (.int x6), .val (.int y7), .val (.int fl), .val (.int n9), .val (.int x10), .val (.int y11), .val (.int i12), .unset, .unset, .unset, .unset, .unset, .unset, .unset, .unset, .unset, .unset] []))
          refine Go.by (fun _ => XS.iloadN Xj5.here hx rfl (hb hby at_110) rfl) ?_
          show Go p.tables e below _ (Tj5.setTop (mkF m 111 #[.val (.int p0), .val (.int p1), .val (.int p2), .val (.int p3), .val (.int p4), .val (.int r1), .val (.int x6), .val (.int y7), .val (.int fl), .val (.int n9), .val (.int x10), .val (.int y11), .val (.int i12), .unset, .unset, .unset, .unset, .unset, .unset, .unset, .unset, .unset, .unset] [(.int p2)]))
          refine Go.by (fun _ => XS.iconst Xj5.here hx rfl (hb hby at_111)) ?_
          show Go p.tables e below _ (Tj5.setTop (mkF m 112 #[.val (.int p0), .val (.int p1), .val (.int p2), .val (.int p3), .val (.int p4), .val (.int r1), .val (.int x6), .val (.int y7), .val (.int fl), .val (.int n9), .val (.int x10), .val (.int y11), .val (.int i12), .unset, .unset, .unset, .unset, .unset, .unset, .unset, .unset, .unset, .unset] [(.int (4 : Int32)), (.int p2)]))
          refine Go.by (fun _ => XS.iushr Xj5.here hx rfl (hb hby at_112) rfl) ?_
          show Go p.tables e below _ (Tj5.setTop (mkF m 113 #[.val (.int p0), .val (.int p1), .val (.int p2), .val (.int p3), .val (.int p4), .val (.int r1), .val (.int x6), .val (.int y7), .val (.int fl), .val (.int n9), .val (.int x10), .val (.int y11), .val (.int i12), .unset, .unset, .unset, .unset, .unset, .unset, .unset, .unset, .unset, .unset] [(.int ((p2.toUInt32 >>> ((4 : Int32) &&& 31).toUInt32).toInt32))]))
          refine Go.by (fun _ => XS.iconst Xj5.here hx rfl (hb hby at_113)) ?_
          show Go p.tables e below _ (Tj5.setTop (mkF m 114 #[.val (.int p0), .val (.int p1), .val (.int p2), .val (.int p3), .val (.int p4), .val (.int r1), .val (.int x6), .val (.int y7), .val (.int fl), .val (.int n9), .val (.int x10), .val (.int y11), .val (.int i12), .unset, .unset, .unset, .unset, .unset, .unset, .unset, .unset, .unset, .unset] [(.int (1 : Int32)), (.int ((p2.toUInt32 >>> ((4 : Int32) &&& 31).toUInt32).toInt32))]))
          refine Go.by (fun _ => XS.iand Xj5.here hx rfl (hb hby at_114) rfl) ?_
          show Go p.tables e below _ (Tj5.setTop (mkF m 115 #[.val (.int p0), .val (.int p1), .val (.int p2), .val (.int p3), .val (.int p4), .val (.int r1), .val (.int x6), .val (.int y7), .val (.int fl), .val (.int n9), .val (.int x10), .val (.int y11), .val (.int i12), .unset, .unset, .unset, .unset, .unset, .unset, .unset, .unset, .unset, .unset] [(.int (((p2.toUInt32 >>> ((4 : Int32) &&& 31).toUInt32).toInt32) &&& (1 : Int32)))]))
          have J6 : ∀ (Tj6 : State), Sd Z EL [] n0 p l e room_1 s m #[(.int p0), (.int p1), (.int p2), (.int p3), (.int p4)] below meth c Tj6 h0 0 0 → ∀ (i13 : Int32), 0 ≤ i13.toInt ∧ i13.toInt ≤ 10 → Go p.tables e below (Ret Z EL (fun _ _ _ => False) s n0 (fun v h => v = some (.int 1)) room_1.cells room_1.slots) (Tj6.setTop (mkF m 132 #[.val (.int p0), .val (.int p1), .val (.int p2), .val (.int p3), .val (.int p4), .val (.int r1), .val (.int x6), .val (.int y7), .val (.int fl), .val (.int n9), .val (.int x10), .val (.int y11), .val (.int i12), .unset, .unset, .unset, .unset, .unset, .unset, .unset, .unset, .unset, .unset] [(.int i13)])) := by
            intro Tj6 Xj6 i13 hj6
            refine Go.by (fun _ => XS.istore Xj6.here hx rfl (hb hby at_132) rfl (l' := #[.val (.int p0), .val (.int p1), .val (.int p2), .val (.int p3), .val (.int p4), .val (.int r1), .val (.int x6), .val (.int y7), .val (.int fl), .val (.int n9), .val (.int x10), .val (.int y11), .val (.int i12), .val (.int i13), .unset, .unset, .unset, .unset, .unset, .unset, .unset, .unset, .unset]) rfl) ?_
            show Go p.tables e below _ (Tj6.setTop (mkF m 134 #[.val (.int p0), .val (.int p1), .val (.int p2), .val (.int p3), .val (.int p4), .val (.int r1), .val (.int x6), .val (.int y7), .val (.int fl), .val (.int n9), .val (.int x10), .val (.int y11), .val (.int i12), .val (.int i13), .unset, .unset, .unset, .unset, .unset, .unset, .unset, .unset, .unset] []))
            refine Go.by (fun _ => XS.iloadN Xj6.here hx rfl (hb hby at_134) rfl) ?_
            show Go p.tables e below _ (Tj6.setTop (mkF m 135 #[.val (.int p0), .val (.int p1), .val (.int p2), .val (.int p3), .val (.int p4), .val (.int r1), .val (.int x6), .val (.int y7), .val (.int fl), .val (.int n9), .val (.int x10), .val (.int y11), .val (.int i12), .val (.int i13), .unset, .unset, .unset, .unset, .unset, .unset, .unset, .unset, .unset] [(.int p2)]))
            refine Go.by (fun _ => XS.bipush Xj6.here hx rfl (hb hby at_135)) ?_
            show Go p.tables e below _ (Tj6.setTop (mkF m 137 #[.val (.int p0), .val (.int p1), .val (.int p2), .val (.int p3), .val (.int p4), .val (.int r1), .val (.int x6), .val (.int y7), .val (.int fl), .val (.int n9), .val (.int x10), .val (.int y11), .val (.int i12), .val (.int i13), .unset, .unset, .unset, .unset, .unset, .unset, .unset, .unset, .unset] [(.int (9 : Int32)), (.int p2)]))
            refine Go.by (fun _ => XS.iushr Xj6.here hx rfl (hb hby at_137) rfl) ?_
            show Go p.tables e below _ (Tj6.setTop (mkF m 138 #[.val (.int p0), .val (.int p1), .val (.int p2), .val (.int p3), .val (.int p4), .val (.int r1), .val (.int x6), .val (.int y7), .val (.int fl), .val (.int n9), .val (.int x10), .val (.int y11), .val (.int i12), .val (.int i13), .unset, .unset, .unset, .unset, .unset, .unset, .unset, .unset, .unset] [(.int ((p2.toUInt32 >>> ((9 : Int32) &&& 31).toUInt32).toInt32))]))
            refine Go.by (fun _ => XS.iconst Xj6.here hx rfl (hb hby at_138)) ?_
            show Go p.tables e below _ (Tj6.setTop (mkF m 139 #[.val (.int p0), .val (.int p1), .val (.int p2), .val (.int p3), .val (.int p4), .val (.int r1), .val (.int x6), .val (.int y7), .val (.int fl), .val (.int n9), .val (.int x10), .val (.int y11), .val (.int i12), .val (.int i13), .unset, .unset, .unset, .unset, .unset, .unset, .unset, .unset, .unset] [(.int (1 : Int32)), (.int ((p2.toUInt32 >>> ((9 : Int32) &&& 31).toUInt32).toInt32))]))
            refine Go.by (fun _ => XS.iand Xj6.here hx rfl (hb hby at_139) rfl) ?_
            show Go p.tables e below _ (Tj6.setTop (mkF m 140 #[.val (.int p0), .val (.int p1), .val (.int p2), .val (.int p3), .val (.int p4), .val (.int r1), .val (.int x6), .val (.int y7), .val (.int fl), .val (.int n9), .val (.int x10), .val (.int y11), .val (.int i12), .val (.int i13), .unset, .unset, .unset, .unset, .unset, .unset, .unset, .unset, .unset] [(.int (((p2.toUInt32 >>> ((9 : Int32) &&& 31).toUInt32).toInt32) &&& (1 : Int32)))]))
            have J7 : ∀ (Tj7 : State), Sd Z EL [] n0 p l e room_1 s m #[(.int p0), (.int p1), (.int p2), (.int p3), (.int p4)] below meth c Tj7 h0 0 0 → ∀ (m14 : Int32), True → Go p.tables e below (Ret Z EL (fun _ _ _ => False) s n0 (fun v h => v = some (.int 1)) room_1.cells room_1.slots) (Tj7.setTop (mkF m 149 #[.val (.int p0), .val (.int p1), .val (.int p2), .val (.int p3), .val (.int p4), .val (.int r1), .val (.int x6), .val (.int y7), .val (.int fl), .val (.int n9), .val (.int x10), .val (.int y11), .val (.int i12), .val (.int i13), .unset, .unset, .unset, .unset, .unset, .unset, .unset, .unset, .unset] [(.int m14)])) := by
              intro Tj7 Xj7 m14 hj7
              refine Go.by (fun _ => XS.istore Xj7.here hx rfl (hb hby at_149) rfl (l' := #[.val (.int p0), .val (.int p1), .val (.int p2), .val (.int p3), .val (.int p4), .val (.int r1), .val (.int x6), .val (.int y7), .val (.int fl), .val (.int n9), .val (.int x10), .val (.int y11), .val (.int i12), .val (.int i13), .val (.int m14), .unset, .unset, .unset, .unset, .unset, .unset, .unset, .unset]) rfl) ?_
              show Go p.tables e below _ (Tj7.setTop (mkF m 151 #[.val (.int p0), .val (.int p1), .val (.int p2), .val (.int p3), .val (.int p4), .val (.int r1), .val (.int x6), .val (.int y7), .val (.int fl), .val (.int n9), .val (.int x10), .val (.int y11), .val (.int i12), .val (.int i13), .val (.int m14), .unset, .unset, .unset, .unset, .unset, .unset, .unset, .unset] []))
              refine Go.by (fun _ => XS.iloadN Xj7.here hx rfl (hb hby at_151) rfl) ?_
              show Go p.tables e below _ (Tj7.setTop (mkF m 152 #[.val (.int p0), .val (.int p1), .val (.int p2), .val (.int p3), .val (.int p4), .val (.int r1), .val (.int x6), .val (.int y7), .val (.int fl), .val (.int n9), .val (.int x10), .val (.int y11), .val (.int i12), .val (.int i13), .val (.int m14), .unset, .unset, .unset, .unset, .unset, .unset, .unset, .unset] [(.int p1)]))
              refine Go.by (fun _ => XS.bipush Xj7.here hx rfl (hb hby at_152)) ?_
              show Go p.tables e below _ (Tj7.setTop (mkF m 154 #[.val (.int p0), .val (.int p1), .val (.int p2), .val (.int p3), .val (.int p4), .val (.int r1), .val (.int x6), .val (.int y7), .val (.int fl), .val (.int n9), .val (.int x10), .val (.int y11), .val (.int i12), .val (.int i13), .val (.int m14), .unset, .unset, .unset, .unset, .unset, .unset, .unset, .unset] [(.int (19 : Int32)), (.int p1)]))
              refine Go.by (fun _ => XS.iushr Xj7.here hx rfl (hb hby at_154) rfl) ?_
              show Go p.tables e below _ (Tj7.setTop (mkF m 155 #[.val (.int p0), .val (.int p1), .val (.int p2), .val (.int p3), .val (.int p4), .val (.int r1), .val (.int x6), .val (.int y7), .val (.int fl), .val (.int n9), .val (.int x10), .val (.int y11), .val (.int i12), .val (.int i13), .val (.int m14), .unset, .unset, .unset, .unset, .unset, .unset, .unset, .unset] [(.int ((p1.toUInt32 >>> ((19 : Int32) &&& 31).toUInt32).toInt32))]))
              refine Go.by (fun _ => XS.iconst Xj7.here hx rfl (hb hby at_155)) ?_
              show Go p.tables e below _ (Tj7.setTop (mkF m 156 #[.val (.int p0), .val (.int p1), .val (.int p2), .val (.int p3), .val (.int p4), .val (.int r1), .val (.int x6), .val (.int y7), .val (.int fl), .val (.int n9), .val (.int x10), .val (.int y11), .val (.int i12), .val (.int i13), .val (.int m14), .unset, .unset, .unset, .unset, .unset, .unset, .unset, .unset] [(.int (1 : Int32)), (.int ((p1.toUInt32 >>> ((19 : Int32) &&& 31).toUInt32).toInt32))]))
              refine Go.by (fun _ => XS.iand Xj7.here hx rfl (hb hby at_156) rfl) ?_
              show Go p.tables e below _ (Tj7.setTop (mkF m 157 #[.val (.int p0), .val (.int p1), .val (.int p2), .val (.int p3), .val (.int p4), .val (.int r1), .val (.int x6), .val (.int y7), .val (.int fl), .val (.int n9), .val (.int x10), .val (.int y11), .val (.int i12), .val (.int i13), .val (.int m14), .unset, .unset, .unset, .unset, .unset, .unset, .unset, .unset] [(.int (((p1.toUInt32 >>> ((19 : Int32) &&& 31).toUInt32).toInt32) &&& (1 : Int32)))]))
              have J8 : ∀ (Tj8 : State), Sd Z EL [] n0 p l e room_1 s m #[(.int p0), (.int p1), (.int p2), (.int p3), (.int p4)] below meth c Tj8 h0 0 0 → ∀ (z15 : Int32), True → Go p.tables e below (Ret Z EL (fun _ _ _ => False) s n0 (fun v h => v = some (.int 1)) room_1.cells room_1.slots) (Tj8.setTop (mkF m 165 #[.val (.int p0), .val (.int p1), .val (.int p2), .val (.int p3), .val (.int p4), .val (.int r1), .val (.int x6), .val (.int y7), .val (.int fl), .val (.int n9), .val (.int x10), .val (.int y11), .val (.int i12), .val (.int i13), .val (.int m14), .unset, .unset, .unset, .unset, .unset, .unset, .unset, .unset] [(.int z15)])) := by
                intro Tj8 Xj8 z15 hj8
                refine Go.by (fun _ => XS.istore Xj8.here hx rfl (hb hby at_165) rfl (l' := #[.val (.int p0), .val (.int p1), .val (.int p2), .val (.int p3), .val (.int p4), .val (.int r1), .val (.int x6), .val (.int y7), .val (.int fl), .val (.int n9), .val (.int x10), .val (.int y11), .val (.int i12), .val (.int i13), .val (.int m14), .val (.int z15), .unset, .unset, .unset, .unset, .unset, .unset, .unset]) rfl) ?_
                show Go p.tables e below _ (Tj8.setTop (mkF m 167 #[.val (.int p0), .val (.int p1), .val (.int p2), .val (.int p3), .val (.int p4), .val (.int r1), .val (.int x6), .val (.int y7), .val (.int fl), .val (.int n9), .val (.int x10), .val (.int y11), .val (.int i12), .val (.int i13), .val (.int m14), .val (.int z15), .unset, .unset, .unset, .unset, .unset, .unset, .unset] []))
                refine Go.by (fun _ => XS.iloadN Xj8.here hx rfl (hb hby at_167) rfl) ?_
                show Go p.tables e below _ (Tj8.setTop (mkF m 168 #[.val (.int p0), .val (.int p1), .val (.int p2), .val (.int p3), .val (.int p4), .val (.int r1), .val (.int x6), .val (.int y7), .val (.int fl), .val (.int n9), .val (.int x10), .val (.int y11), .val (.int i12), .val (.int i13), .val (.int m14), .val (.int z15), .unset, .unset, .unset, .unset, .unset, .unset, .unset] [(.int p1)]))
                refine Go.by (fun _ => XS.bipush Xj8.here hx rfl (hb hby at_168)) ?_
                show Go p.tables e below _ (Tj8.setTop (mkF m 170 #[.val (.int p0), .val (.int p1), .val (.int p2), .val (.int p3), .val (.int p4), .val (.int r1), .val (.int x6), .val (.int y7), .val (.int fl), .val (.int n9), .val (.int x10), .val (.int y11), .val (.int i12), .val (.int i13), .val (.int m14), .val (.int z15), .unset, .unset, .unset, .unset, .unset, .unset, .unset] [(.int (20 : Int32)), (.int p1)]))
                refine Go.by (fun _ => XS.iushr Xj8.here hx rfl (hb hby at_170) rfl) ?_
                show Go p.tables e below _ (Tj8.setTop (mkF m 171 #[.val (.int p0), .val (.int p1), .val (.int p2), .val (.int p3), .val (.int p4), .val (.int r1), .val (.int x6), .val (.int y7), .val (.int fl), .val (.int n9), .val (.int x10), .val (.int y11), .val (.int i12), .val (.int i13), .val (.int m14), .val (.int z15), .unset, .unset, .unset, .unset, .unset, .unset, .unset] [(.int ((p1.toUInt32 >>> ((20 : Int32) &&& 31).toUInt32).toInt32))]))
                refine Go.by (fun _ => XS.iconst Xj8.here hx rfl (hb hby at_171)) ?_
                show Go p.tables e below _ (Tj8.setTop (mkF m 172 #[.val (.int p0), .val (.int p1), .val (.int p2), .val (.int p3), .val (.int p4), .val (.int r1), .val (.int x6), .val (.int y7), .val (.int fl), .val (.int n9), .val (.int x10), .val (.int y11), .val (.int i12), .val (.int i13), .val (.int m14), .val (.int z15), .unset, .unset, .unset, .unset, .unset, .unset, .unset] [(.int (1 : Int32)), (.int ((p1.toUInt32 >>> ((20 : Int32) &&& 31).toUInt32).toInt32))]))
                refine Go.by (fun _ => XS.iand Xj8.here hx rfl (hb hby at_172) rfl) ?_
                show Go p.tables e below _ (Tj8.setTop (mkF m 173 #[.val (.int p0), .val (.int p1), .val (.int p2), .val (.int p3), .val (.int p4), .val (.int r1), .val (.int x6), .val (.int y7), .val (.int fl), .val (.int n9), .val (.int x10), .val (.int y11), .val (.int i12), .val (.int i13), .val (.int m14), .val (.int z15), .unset, .unset, .unset, .unset, .unset, .unset, .unset] [(.int (((p1.toUInt32 >>> ((20 : Int32) &&& 31).toUInt32).toInt32) &&& (1 : Int32)))]))
                have J9 : ∀ (Tj9 : State), Sd Z EL [] n0 p l e room_1 s m #[(.int p0), (.int p1), (.int p2), (.int p3), (.int p4)] below meth c Tj9 h0 0 0 → ∀ (z16 : Int32), True → Go p.tables e below (Ret Z EL (fun _ _ _ => False) s n0 (fun v h => v = some (.int 1)) room_1.cells room_1.slots) (Tj9.setTop (mkF m 181 #[.val (.int p0), .val (.int p1), .val (.int p2), .val (.int p3), .val (.int p4), .val (.int r1), .val (.int x6), .val (.int y7), .val (.int fl), .val (.int n9), .val (.int x10), .val (.int y11), .val (.int i12), .val (.int i13), .val (.int m14), .val (.int z15), .unset, .unset, .unset, .unset, .unset, .unset, .unset] [(.int z16)])) := by
                  intro Tj9 Xj9 z16 hj9
                  refine Go.by (fun _ => XS.istore Xj9.here hx rfl (hb hby at_181) rfl (l' := #[.val (.int p0), .val (.int p1), .val (.int p2), .val (.int p3), .val (.int p4), .val (.int r1), .val (.int x6), .val (.int y7), .val (.int fl), .val (.int n9), .val (.int x10), .val (.int y11), .val (.int i12), .val (.int i13), .val (.int m14), .val (.int z15), .val (.int z16), .unset, .unset, .unset, .unset, .unset, .unset]) rfl) ?_
                  show Go p.tables e below _ (Tj9.setTop (mkF m 183 #[.val (.int p0), .val (.int p1), .val (.int p2), .val (.int p3), .val (.int p4), .val (.int r1), .val (.int x6), .val (.int y7), .val (.int fl), .val (.int n9), .val (.int x10), .val (.int y11), .val (.int i12), .val (.int i13), .val (.int m14), .val (.int z15), .val (.int z16), .unset, .unset, .unset, .unset, .unset, .unset] []))
                  refine Go.by (fun _ => XS.iloadN Xj9.here hx rfl (hb hby at_183) rfl) ?_
                  show Go p.tables e below _ (Tj9.setTop (mkF m 184 #[.val (.int p0), .val (.int p1), .val (.int p2), .val (.int p3), .val (.int p4), .val (.int r1), .val (.int x6), .val (.int y7), .val (.int fl), .val (.int n9), .val (.int x10), .val (.int y11), .val (.int i12), .val (.int i13), .val (.int m14), .val (.int z15), .val (.int z16), .unset, .unset, .unset, .unset, .unset, .unset] [(.int p1)]))
                  refine Go.by (fun _ => XS.bipush Xj9.here hx rfl (hb hby at_184)) ?_
                  show Go p.tables e below _ (Tj9.setTop (mkF m 186 #[.val (.int p0), .val (.int p1), .val (.int p2), .val (.int p3), .val (.int p4), .val (.int r1), .val (.int x6), .val (.int y7), .val (.int fl), .val (.int n9), .val (.int x10), .val (.int y11), .val (.int i12), .val (.int i13), .val (.int m14), .val (.int z15), .val (.int z16), .unset, .unset, .unset, .unset, .unset, .unset] [(.int (21 : Int32)), (.int p1)]))
                  refine Go.by (fun _ => XS.iushr Xj9.here hx rfl (hb hby at_186) rfl) ?_
                  show Go p.tables e below _ (Tj9.setTop (mkF m 187 #[.val (.int p0), .val (.int p1), .val (.int p2), .val (.int p3), .val (.int p4), .val (.int r1), .val (.int x6), .val (.int y7), .val (.int fl), .val (.int n9), .val (.int x10), .val (.int y11), .val (.int i12), .val (.int i13), .val (.int m14), .val (.int z15), .val (.int z16), .unset, .unset, .unset, .unset, .unset, .unset] [(.int ((p1.toUInt32 >>> ((21 : Int32) &&& 31).toUInt32).toInt32))]))
                  refine Go.by (fun _ => XS.iconst Xj9.here hx rfl (hb hby at_187)) ?_
                  show Go p.tables e below _ (Tj9.setTop (mkF m 188 #[.val (.int p0), .val (.int p1), .val (.int p2), .val (.int p3), .val (.int p4), .val (.int r1), .val (.int x6), .val (.int y7), .val (.int fl), .val (.int n9), .val (.int x10), .val (.int y11), .val (.int i12), .val (.int i13), .val (.int m14), .val (.int z15), .val (.int z16), .unset, .unset, .unset, .unset, .unset, .unset] [(.int (1 : Int32)), (.int ((p1.toUInt32 >>> ((21 : Int32) &&& 31).toUInt32).toInt32))]))
                  refine Go.by (fun _ => XS.iand Xj9.here hx rfl (hb hby at_188) rfl) ?_
                  show Go p.tables e below _ (Tj9.setTop (mkF m 189 #[.val (.int p0), .val (.int p1), .val (.int p2), .val (.int p3), .val (.int p4), .val (.int r1), .val (.int x6), .val (.int y7), .val (.int fl), .val (.int n9), .val (.int x10), .val (.int y11), .val (.int i12), .val (.int i13), .val (.int m14), .val (.int z15), .val (.int z16), .unset, .unset, .unset, .unset, .unset, .unset] [(.int (((p1.toUInt32 >>> ((21 : Int32) &&& 31).toUInt32).toInt32) &&& (1 : Int32)))]))
                  refine Go.by (fun _ => XS.iloadN Xj9.here hx rfl (hb hby at_189) rfl) ?_
                  show Go p.tables e below _ (Tj9.setTop (mkF m 190 #[.val (.int p0), .val (.int p1), .val (.int p2), .val (.int p3), .val (.int p4), .val (.int r1), .val (.int x6), .val (.int y7), .val (.int fl), .val (.int n9), .val (.int x10), .val (.int y11), .val (.int i12), .val (.int i13), .val (.int m14), .val (.int z15), .val (.int z16), .unset, .unset, .unset, .unset, .unset, .unset] [(.int p2), (.int (((p1.toUInt32 >>> ((21 : Int32) &&& 31).toUInt32).toInt32) &&& (1 : Int32)))]))
                  refine Go.by (fun _ => XS.bipush Xj9.here hx rfl (hb hby at_190)) ?_
                  show Go p.tables e below _ (Tj9.setTop (mkF m 192 #[.val (.int p0), .val (.int p1), .val (.int p2), .val (.int p3), .val (.int p4), .val (.int r1), .val (.int x6), .val (.int y7), .val (.int fl), .val (.int n9), .val (.int x10), .val (.int y11), .val (.int i12), .val (.int i13), .val (.int m14), .val (.int z15), .val (.int z16), .unset, .unset, .unset, .unset, .unset, .unset] [(.int (10 : Int32)), (.int p2), (.int (((p1.toUInt32 >>> ((21 : Int32) &&& 31).toUInt32).toInt32) &&& (1 : Int32)))]))
                  refine Go.by (fun _ => XS.iushr Xj9.here hx rfl (hb hby at_192) rfl) ?_
                  show Go p.tables e below _ (Tj9.setTop (mkF m 193 #[.val (.int p0), .val (.int p1), .val (.int p2), .val (.int p3), .val (.int p4), .val (.int r1), .val (.int x6), .val (.int y7), .val (.int fl), .val (.int n9), .val (.int x10), .val (.int y11), .val (.int i12), .val (.int i13), .val (.int m14), .val (.int z15), .val (.int z16), .unset, .unset, .unset, .unset, .unset, .unset] [(.int ((p2.toUInt32 >>> ((10 : Int32) &&& 31).toUInt32).toInt32)), (.int (((p1.toUInt32 >>> ((21 : Int32) &&& 31).toUInt32).toInt32) &&& (1 : Int32)))]))
                  refine Go.by (fun _ => XS.sipush Xj9.here hx rfl (hb hby at_193)) ?_
                  show Go p.tables e below _ (Tj9.setTop (mkF m 196 #[.val (.int p0), .val (.int p1), .val (.int p2), .val (.int p3), .val (.int p4), .val (.int r1), .val (.int x6), .val (.int y7), .val (.int fl), .val (.int n9), .val (.int x10), .val (.int y11), .val (.int i12), .val (.int i13), .val (.int m14), .val (.int z15), .val (.int z16), .unset, .unset, .unset, .unset, .unset, .unset] [(.int (255 : Int32)), (.int ((p2.toUInt32 >>> ((10 : Int32) &&& 31).toUInt32).toInt32)), (.int (((p1.toUInt32 >>> ((21 : Int32) &&& 31).toUInt32).toInt32) &&& (1 : Int32)))]))
                  refine Go.by (fun _ => XS.iand Xj9.here hx rfl (hb hby at_196) rfl) ?_
                  show Go p.tables e below _ (Tj9.setTop (mkF m 197 #[.val (.int p0), .val (.int p1), .val (.int p2), .val (.int p3), .val (.int p4), .val (.int r1), .val (.int x6), .val (.int y7), .val (.int fl), .val (.int n9), .val (.int x10), .val (.int y11), .val (.int i12), .val (.int i13), .val (.int m14), .val (.int z15), .val (.int z16), .unset, .unset, .unset, .unset, .unset, .unset] [(.int (((p2.toUInt32 >>> ((10 : Int32) &&& 31).toUInt32).toInt32) &&& (255 : Int32))), (.int (((p1.toUInt32 >>> ((21 : Int32) &&& 31).toUInt32).toInt32) &&& (1 : Int32)))]))
                  obtain ⟨v10, T10, h10, X10, q10, xs10, st10⟩ := Xj9.callS hx hZ f0n (y := (⟨"com/example/interlace/interlace/ColumnHoldsAlikePinLaw", "def", "(II)Ljava/util/Optional;"⟩ : MethodName)) hown (tw hw 4 rfl) (tw hw 5 rfl) (tw hw 6 rfl) (tw hw 7 rfl) (by decide) (rm2 l Z a0 hw [] (((p1.toUInt32 >>> ((21 : Int32) &&& 31).toUInt32).toInt32) &&& (1 : Int32)) (((p2.toUInt32 >>> ((10 : Int32) &&& 31).toUInt32).toInt32) &&& (255 : Int32)) cs ae h0 n0 Z0 O0 S_CS0 hcs S_E0) (g := (mkF m 197 #[.val (.int p0), .val (.int p1), .val (.int p2), .val (.int p3), .val (.int p4), .val (.int r1), .val (.int x6), .val (.int y7), .val (.int fl), .val (.int n9), .val (.int x10), .val (.int y11), .val (.int i12), .val (.int i13), .val (.int m14), .val (.int z15), .val (.int z16), .unset, .unset, .unset, .unset, .unset, .unset] [(.int (((p2.toUInt32 >>> ((10 : Int32) &&& 31).toUInt32).toInt32) &&& (255 : Int32))), (.int (((p1.toUInt32 >>> ((21 : Int32) &&& 31).toUInt32).toInt32) &&& (1 : Int32)))])) rfl (by rw [hml]; rfl) (argsL := [(.int (((p1.toUInt32 >>> ((21 : Int32) &&& 31).toUInt32).toInt32) &&& (1 : Int32))), (.int (((p2.toUInt32 >>> ((10 : Int32) &&& 31).toUInt32).toInt32) &&& (255 : Int32)))]) (rest := []) (lenOf pd17 rfl) rfl (hb hby at_197) rfl (by decide) (Nat.le_of_ble_eq_true rfl) (k' := 3) (n' := 6) rfl rfl (by decide) (by decide)
                  refine Go.by st10 ?_
                  obtain ⟨r10, rfl, K10⟩ := q10
                  have f11_168 := O0.ext (keep_ext K10)
                  have Zs11 : n0 ≤ h10.size := Nat.le_trans Z0 (keep_ext K10).1
                  show Go p.tables e below _ (T10.setTop (mkF m 200 #[.val (.int p0), .val (.int p1), .val (.int p2), .val (.int p3), .val (.int p4), .val (.int r1), .val (.int x6), .val (.int y7), .val (.int fl), .val (.int n9), .val (.int x10), .val (.int y11), .val (.int i12), .val (.int i13), .val (.int m14), .val (.int z15), .val (.int z16), .unset, .unset, .unset, .unset, .unset, .unset] [(.ref r10)]))
                  refine Go.by (fun _ => XS.astore X10.here hx rfl (hb hby at_200) rfl rfl (l' := #[.val (.int p0), .val (.int p1), .val (.int p2), .val (.int p3), .val (.int p4), .val (.int r1), .val (.int x6), .val (.int y7), .val (.int fl), .val (.int n9), .val (.int x10), .val (.int y11), .val (.int i12), .val (.int i13), .val (.int m14), .val (.int z15), .val (.int z16), .val (.ref r10), .unset, .unset, .unset, .unset, .unset]) rfl) ?_
                  show Go p.tables e below _ (T10.setTop (mkF m 202 #[.val (.int p0), .val (.int p1), .val (.int p2), .val (.int p3), .val (.int p4), .val (.int r1), .val (.int x6), .val (.int y7), .val (.int fl), .val (.int n9), .val (.int x10), .val (.int y11), .val (.int i12), .val (.int i13), .val (.int m14), .val (.int z15), .val (.int z16), .val (.ref r10), .unset, .unset, .unset, .unset, .unset] []))
                  refine Go.by (fun _ => XS.iloadN X10.here hx rfl (hb hby at_202) rfl) ?_
                  show Go p.tables e below _ (T10.setTop (mkF m 203 #[.val (.int p0), .val (.int p1), .val (.int p2), .val (.int p3), .val (.int p4), .val (.int r1), .val (.int x6), .val (.int y7), .val (.int fl), .val (.int n9), .val (.int x10), .val (.int y11), .val (.int i12), .val (.int i13), .val (.int m14), .val (.int z15), .val (.int z16), .val (.ref r10), .unset, .unset, .unset, .unset, .unset] [(.int p1)]))
                  refine Go.by (fun _ => XS.bipush X10.here hx rfl (hb hby at_203)) ?_
                  show Go p.tables e below _ (T10.setTop (mkF m 205 #[.val (.int p0), .val (.int p1), .val (.int p2), .val (.int p3), .val (.int p4), .val (.int r1), .val (.int x6), .val (.int y7), .val (.int fl), .val (.int n9), .val (.int x10), .val (.int y11), .val (.int i12), .val (.int i13), .val (.int m14), .val (.int z15), .val (.int z16), .val (.ref r10), .unset, .unset, .unset, .unset, .unset] [(.int (22 : Int32)), (.int p1)]))
                  refine Go.by (fun _ => XS.iushr X10.here hx rfl (hb hby at_205) rfl) ?_
                  show Go p.tables e below _ (T10.setTop (mkF m 206 #[.val (.int p0), .val (.int p1), .val (.int p2), .val (.int p3), .val (.int p4), .val (.int r1), .val (.int x6), .val (.int y7), .val (.int fl), .val (.int n9), .val (.int x10), .val (.int y11), .val (.int i12), .val (.int i13), .val (.int m14), .val (.int z15), .val (.int z16), .val (.ref r10), .unset, .unset, .unset, .unset, .unset] [(.int ((p1.toUInt32 >>> ((22 : Int32) &&& 31).toUInt32).toInt32))]))
                  refine Go.by (fun _ => XS.iconst X10.here hx rfl (hb hby at_206)) ?_
                  show Go p.tables e below _ (T10.setTop (mkF m 207 #[.val (.int p0), .val (.int p1), .val (.int p2), .val (.int p3), .val (.int p4), .val (.int r1), .val (.int x6), .val (.int y7), .val (.int fl), .val (.int n9), .val (.int x10), .val (.int y11), .val (.int i12), .val (.int i13), .val (.int m14), .val (.int z15), .val (.int z16), .val (.ref r10), .unset, .unset, .unset, .unset, .unset] [(.int (1 : Int32)), (.int ((p1.toUInt32 >>> ((22 : Int32) &&& 31).toUInt32).toInt32))]))
                  refine Go.by (fun _ => XS.iand X10.here hx rfl (hb hby at_207) rfl) ?_
                  show Go p.tables e below _ (T10.setTop (mkF m 208 #[.val (.int p0), .val (.int p1), .val (.int p2), .val (.int p3), .val (.int p4), .val (.int r1), .val (.int x6), .val (.int y7), .val (.int fl), .val (.int n9), .val (.int x10), .val (.int y11), .val (.int i12), .val (.int i13), .val (.int m14), .val (.int z15), .val (.int z16), .val (.ref r10), .unset, .unset, .unset, .unset, .unset] [(.int (((p1.toUInt32 >>> ((22 : Int32) &&& 31).toUInt32).toInt32) &&& (1 : Int32)))]))
                  refine Go.by (fun _ => XS.iloadN X10.here hx rfl (hb hby at_208) rfl) ?_
                  show Go p.tables e below _ (T10.setTop (mkF m 209 #[.val (.int p0), .val (.int p1), .val (.int p2), .val (.int p3), .val (.int p4), .val (.int r1), .val (.int x6), .val (.int y7), .val (.int fl), .val (.int n9), .val (.int x10), .val (.int y11), .val (.int i12), .val (.int i13), .val (.int m14), .val (.int z15), .val (.int z16), .val (.ref r10), .unset, .unset, .unset, .unset, .unset] [(.int p2), (.int (((p1.toUInt32 >>> ((22 : Int32) &&& 31).toUInt32).toInt32) &&& (1 : Int32)))]))
                  refine Go.by (fun _ => XS.bipush X10.here hx rfl (hb hby at_209)) ?_
                  show Go p.tables e below _ (T10.setTop (mkF m 211 #[.val (.int p0), .val (.int p1), .val (.int p2), .val (.int p3), .val (.int p4), .val (.int r1), .val (.int x6), .val (.int y7), .val (.int fl), .val (.int n9), .val (.int x10), .val (.int y11), .val (.int i12), .val (.int i13), .val (.int m14), .val (.int z15), .val (.int z16), .val (.ref r10), .unset, .unset, .unset, .unset, .unset] [(.int (18 : Int32)), (.int p2), (.int (((p1.toUInt32 >>> ((22 : Int32) &&& 31).toUInt32).toInt32) &&& (1 : Int32)))]))
                  refine Go.by (fun _ => XS.iushr X10.here hx rfl (hb hby at_211) rfl) ?_
                  show Go p.tables e below _ (T10.setTop (mkF m 212 #[.val (.int p0), .val (.int p1), .val (.int p2), .val (.int p3), .val (.int p4), .val (.int r1), .val (.int x6), .val (.int y7), .val (.int fl), .val (.int n9), .val (.int x10), .val (.int y11), .val (.int i12), .val (.int i13), .val (.int m14), .val (.int z15), .val (.int z16), .val (.ref r10), .unset, .unset, .unset, .unset, .unset] [(.int ((p2.toUInt32 >>> ((18 : Int32) &&& 31).toUInt32).toInt32)), (.int (((p1.toUInt32 >>> ((22 : Int32) &&& 31).toUInt32).toInt32) &&& (1 : Int32)))]))
                  refine Go.by (fun _ => XS.sipush X10.here hx rfl (hb hby at_212)) ?_
                  show Go p.tables e below _ (T10.setTop (mkF m 215 #[.val (.int p0), .val (.int p1), .val (.int p2), .val (.int p3), .val (.int p4), .val (.int r1), .val (.int x6), .val (.int y7), .val (.int fl), .val (.int n9), .val (.int x10), .val (.int y11), .val (.int i12), .val (.int i13), .val (.int m14), .val (.int z15), .val (.int z16), .val (.ref r10), .unset, .unset, .unset, .unset, .unset] [(.int (255 : Int32)), (.int ((p2.toUInt32 >>> ((18 : Int32) &&& 31).toUInt32).toInt32)), (.int (((p1.toUInt32 >>> ((22 : Int32) &&& 31).toUInt32).toInt32) &&& (1 : Int32)))]))
                  refine Go.by (fun _ => XS.iand X10.here hx rfl (hb hby at_215) rfl) ?_
                  show Go p.tables e below _ (T10.setTop (mkF m 216 #[.val (.int p0), .val (.int p1), .val (.int p2), .val (.int p3), .val (.int p4), .val (.int r1), .val (.int x6), .val (.int y7), .val (.int fl), .val (.int n9), .val (.int x10), .val (.int y11), .val (.int i12), .val (.int i13), .val (.int m14), .val (.int z15), .val (.int z16), .val (.ref r10), .unset, .unset, .unset, .unset, .unset] [(.int (((p2.toUInt32 >>> ((18 : Int32) &&& 31).toUInt32).toInt32) &&& (255 : Int32))), (.int (((p1.toUInt32 >>> ((22 : Int32) &&& 31).toUInt32).toInt32) &&& (1 : Int32)))]))
                  obtain ⟨v12, T12, h12, X12, q12, xs12, st12⟩ := X10.callS hx hZ f0n (y := (⟨"com/example/interlace/interlace/ColumnHoldsAlikePinLaw", "def", "(II)Ljava/util/Optional;"⟩ : MethodName)) hown (tw hw 4 rfl) (tw hw 5 rfl) (tw hw 6 rfl) (tw hw 7 rfl) (by decide) (rm2 l Z a0 hw [] (((p1.toUInt32 >>> ((22 : Int32) &&& 31).toUInt32).toInt32) &&& (1 : Int32)) (((p2.toUInt32 >>> ((18 : Int32) &&& 31).toUInt32).toInt32) &&& (255 : Int32)) cs ae h10 n0 Zs11 f11_168 S_CS0 hcs S_E0) (g := (mkF m 216 #[.val (.int p0), .val (.int p1), .val (.int p2), .val (.int p3), .val (.int p4), .val (.int r1), .val (.int x6), .val (.int y7), .val (.int fl), .val (.int n9), .val (.int x10), .val (.int y11), .val (.int i12), .val (.int i13), .val (.int m14), .val (.int z15), .val (.int z16), .val (.ref r10), .unset, .unset, .unset, .unset, .unset] [(.int (((p2.toUInt32 >>> ((18 : Int32) &&& 31).toUInt32).toInt32) &&& (255 : Int32))), (.int (((p1.toUInt32 >>> ((22 : Int32) &&& 31).toUInt32).toInt32) &&& (1 : Int32)))])) rfl (by rw [hml]; rfl) (argsL := [(.int (((p1.toUInt32 >>> ((22 : Int32) &&& 31).toUInt32).toInt32) &&& (1 : Int32))), (.int (((p2.toUInt32 >>> ((18 : Int32) &&& 31).toUInt32).toInt32) &&& (255 : Int32)))]) (rest := []) (lenOf pd17 rfl) rfl (hb hby at_216) rfl (by decide) (Nat.le_of_ble_eq_true rfl) (k' := 6) (n' := 12) rfl rfl (by decide) (by decide)
                  refine Go.by st12 ?_
                  obtain ⟨r12, rfl, K12⟩ := q12
                  have f13_196 := f11_168.ext (keep_ext K12)
                  have Zs13 : n0 ≤ h12.size := Nat.le_trans Zs11 (keep_ext K12).1
                  show Go p.tables e below _ (T12.setTop (mkF m 219 #[.val (.int p0), .val (.int p1), .val (.int p2), .val (.int p3), .val (.int p4), .val (.int r1), .val (.int x6), .val (.int y7), .val (.int fl), .val (.int n9), .val (.int x10), .val (.int y11), .val (.int i12), .val (.int i13), .val (.int m14), .val (.int z15), .val (.int z16), .val (.ref r10), .unset, .unset, .unset, .unset, .unset] [(.ref r12)]))
                  refine Go.by (fun _ => XS.astore X12.here hx rfl (hb hby at_219) rfl rfl (l' := #[.val (.int p0), .val (.int p1), .val (.int p2), .val (.int p3), .val (.int p4), .val (.int r1), .val (.int x6), .val (.int y7), .val (.int fl), .val (.int n9), .val (.int x10), .val (.int y11), .val (.int i12), .val (.int i13), .val (.int m14), .val (.int z15), .val (.int z16), .val (.ref r10), .val (.ref r12), .unset, .unset, .unset, .unset]) rfl) ?_
                  show Go p.tables e below _ (T12.setTop (mkF m 221 #[.val (.int p0), .val (.int p1), .val (.int p2), .val (.int p3), .val (.int p4), .val (.int r1), .val (.int x6), .val (.int y7), .val (.int fl), .val (.int n9), .val (.int x10), .val (.int y11), .val (.int i12), .val (.int i13), .val (.int m14), .val (.int z15), .val (.int z16), .val (.ref r10), .val (.ref r12), .unset, .unset, .unset, .unset] []))
                  obtain ⟨T14, h14, b14, X14, g14, E14, A14, D14, st14⟩ := X12.newO hx hZ hown (tw hw 13 rfl) (tw hw 14 rfl) (tw hw 15 rfl) (g := (mkF m 221 #[.val (.int p0), .val (.int p1), .val (.int p2), .val (.int p3), .val (.int p4), .val (.int r1), .val (.int x6), .val (.int y7), .val (.int fl), .val (.int n9), .val (.int x10), .val (.int y11), .val (.int i12), .val (.int i13), .val (.int m14), .val (.int z15), .val (.int z16), .val (.ref r10), .val (.ref r12), .unset, .unset, .unset, .unset] [])) rfl (hb hby at_221) (k' := 7) (n' := 17) rfl rfl (by decide) (by decide)
                  have g_b14 : n0 ≤ b14 := by rw [g14]; exact Zs13
                  have f15_203 := f13_196.ext E14
                  have Zs15 : n0 ≤ h14.size := Nat.le_trans Zs13 E14.1
                  have F14_name : Fld Z h14 b14 "com/example/interlace/interlace/Column" "name" "Ljava/lang/String;" .null := D14 (Or.inr (tw hw 57 rfl)) (ty := (.object "java/lang/String")) (by decide)
                  have F14_type : Fld Z h14 b14 "com/example/interlace/interlace/Column" "type" "Lcom/example/interlace/interlace/DataType;" .null := D14 (Or.inr (tw hw 59 rfl)) (ty := (.object "com/example/interlace/interlace/DataType")) (by decide)
                  have F14_maxLength : Fld Z h14 b14 "com/example/interlace/interlace/Column" "maxLength" "I" (.int (0 : Int32)) := D14 (Or.inr (tw hw 61 rfl)) (ty := .int) (by decide)
                  have F14_notNull : Fld Z h14 b14 "com/example/interlace/interlace/Column" "notNull" "Z" (.int (0 : Int32)) := D14 (Or.inr (tw hw 63 rfl)) (ty := .boolean) (by decide)
                  have F14_defaultExpression : Fld Z h14 b14 "com/example/interlace/interlace/Column" "defaultExpression" "Ljava/util/Optional;" .null := D14 (Or.inr (tw hw 65 rfl)) (ty := (.object "java/util/Optional")) (by decide)
                  refine Go.by st14 ?_
                  show Go p.tables e below _ (T14.setTop (mkF m 224 #[.val (.int p0), .val (.int p1), .val (.int p2), .val (.int p3), .val (.int p4), .val (.int r1), .val (.int x6), .val (.int y7), .val (.int fl), .val (.int n9), .val (.int x10), .val (.int y11), .val (.int i12), .val (.int i13), .val (.int m14), .val (.int z15), .val (.int z16), .val (.ref r10), .val (.ref r12), .unset, .unset, .unset, .unset] [(.ref b14)]))
                  refine Go.by (fun _ => XS.dup X14.here hx rfl (hb hby at_224) rfl rfl) ?_
                  show Go p.tables e below _ (T14.setTop (mkF m 225 #[.val (.int p0), .val (.int p1), .val (.int p2), .val (.int p3), .val (.int p4), .val (.int r1), .val (.int x6), .val (.int y7), .val (.int fl), .val (.int n9), .val (.int x10), .val (.int y11), .val (.int i12), .val (.int i13), .val (.int m14), .val (.int z15), .val (.int z16), .val (.ref r10), .val (.ref r12), .unset, .unset, .unset, .unset] [(.ref b14), (.ref b14)]))
                  refine Go.by (fun _ => XS.iload X14.here hx rfl (hb hby at_225) rfl) ?_
                  show Go p.tables e below _ (T14.setTop (mkF m 227 #[.val (.int p0), .val (.int p1), .val (.int p2), .val (.int p3), .val (.int p4), .val (.int r1), .val (.int x6), .val (.int y7), .val (.int fl), .val (.int n9), .val (.int x10), .val (.int y11), .val (.int i12), .val (.int i13), .val (.int m14), .val (.int z15), .val (.int z16), .val (.ref r10), .val (.ref r12), .unset, .unset, .unset, .unset] [(.int r1), (.ref b14), (.ref b14)]))
                  refine Go.by (fun _ => XS.iload X14.here hx rfl (hb hby at_227) rfl) ?_
                  show Go p.tables e below _ (T14.setTop (mkF m 229 #[.val (.int p0), .val (.int p1), .val (.int p2), .val (.int p3), .val (.int p4), .val (.int r1), .val (.int x6), .val (.int y7), .val (.int fl), .val (.int n9), .val (.int x10), .val (.int y11), .val (.int i12), .val (.int i13), .val (.int m14), .val (.int z15), .val (.int z16), .val (.ref r10), .val (.ref r12), .unset, .unset, .unset, .unset] [(.int x6), (.int r1), (.ref b14), (.ref b14)]))
                  refine Go.by (fun _ => XS.iload X14.here hx rfl (hb hby at_229) rfl) ?_
                  show Go p.tables e below _ (T14.setTop (mkF m 231 #[.val (.int p0), .val (.int p1), .val (.int p2), .val (.int p3), .val (.int p4), .val (.int r1), .val (.int x6), .val (.int y7), .val (.int fl), .val (.int n9), .val (.int x10), .val (.int y11), .val (.int i12), .val (.int i13), .val (.int m14), .val (.int z15), .val (.int z16), .val (.ref r10), .val (.ref r12), .unset, .unset, .unset, .unset] [(.int y7), (.int x6), (.int r1), (.ref b14), (.ref b14)]))
                  obtain ⟨v16, T16, h16, X16, q16, xs16, st16⟩ := X14.callS hx hZ f0n (y := (⟨"com/example/interlace/interlace/ColumnHoldsAlikePinLaw", "name", "(III)Ljava/lang/String;"⟩ : MethodName)) hown (tw hw 16 rfl) (tw hw 17 rfl) (tw hw 6 rfl) (tw hw 18 rfl) (by decide) (rm4 l Z a0 hw [] r1 x6 y7 cs h14 n0 Zs15 f15_203 S_CS0 hcs bn1 b_x6 b_y7) (g := (mkF m 231 #[.val (.int p0), .val (.int p1), .val (.int p2), .val (.int p3), .val (.int p4), .val (.int r1), .val (.int x6), .val (.int y7), .val (.int fl), .val (.int n9), .val (.int x10), .val (.int y11), .val (.int i12), .val (.int i13), .val (.int m14), .val (.int z15), .val (.int z16), .val (.ref r10), .val (.ref r12), .unset, .unset, .unset, .unset] [(.int y7), (.int x6), (.int r1), (.ref b14), (.ref b14)])) rfl (by rw [hml]; rfl) (argsL := [(.int r1), (.int x6), (.int y7)]) (rest := [(.ref b14), (.ref b14)]) (lenOf pd18 rfl) rfl (hb hby at_231) rfl (by decide) (Nat.le_of_ble_eq_true rfl) (k' := 13) (n' := 29) rfl rfl (by decide) (by decide)
                  refine Go.by st16 ?_
                  obtain ⟨r16, d16, kc16, rfl, sr16, K16, Ex16, Fv16, Fc16, V16⟩ := q16
                  have g_r16 : n0 ≤ r16 := Nat.le_trans Zs15 sr16
                  have ne_b14_r16 : b14 ≠ r16 := Nat.ne_of_lt (Nat.lt_of_lt_of_le A14.lt sr16)
                  have f17_225 := f15_203.ext (keep_ext K16)
                  have f17_226 := A14.ext (keep_ext K16)
                  have f17_227 := F14_name.ext (keep_ext K16)
                  have f17_228 := F14_type.ext (keep_ext K16)
                  have f17_229 := F14_maxLength.ext (keep_ext K16)
                  have f17_230 := F14_notNull.ext (keep_ext K16)
                  have f17_231 := F14_defaultExpression.ext (keep_ext K16)
                  have Zs17 : n0 ≤ h16.size := Nat.le_trans Zs15 (keep_ext K16).1
                  have ne_d16_b14 : d16 ≠ b14 := exa_nev f17_226 (tw hw 14 rfl) V16
                  have ne_d16_r16 : d16 ≠ r16 := exa_nev Ex16 (tw hw 20 rfl) V16
                  show Go p.tables e below _ (T16.setTop (mkF m 234 #[.val (.int p0), .val (.int p1), .val (.int p2), .val (.int p3), .val (.int p4), .val (.int r1), .val (.int x6), .val (.int y7), .val (.int fl), .val (.int n9), .val (.int x10), .val (.int y11), .val (.int i12), .val (.int i13), .val (.int m14), .val (.int z15), .val (.int z16), .val (.ref r10), .val (.ref r12), .unset, .unset, .unset, .unset] [(.ref r16), (.ref b14), (.ref b14)]))
                  refine Go.by (fun _ => XS.iload X16.here hx rfl (hb hby at_234) rfl) ?_
                  show Go p.tables e below _ (T16.setTop (mkF m 236 #[.val (.int p0), .val (.int p1), .val (.int p2), .val (.int p3), .val (.int p4), .val (.int r1), .val (.int x6), .val (.int y7), .val (.int fl), .val (.int n9), .val (.int x10), .val (.int y11), .val (.int i12), .val (.int i13), .val (.int m14), .val (.int z15), .val (.int z16), .val (.ref r10), .val (.ref r12), .unset, .unset, .unset, .unset] [(.int i12), (.ref r16), (.ref b14), (.ref b14)]))
                  obtain ⟨v18, T18, h18, X18, q18, xs18, st18⟩ := X16.callS hx hZ f0n (y := (⟨"com/example/interlace/interlace/ColumnHoldsAlikePinLaw", "type", "(I)Lcom/example/interlace/interlace/DataType;"⟩ : MethodName)) hown (tw hw 41 rfl) (tw hw 42 rfl) (tw hw 6 rfl) (tw hw 43 rfl) (by decide) (rm8 l Z a0 hw [] i12 a_SMALLINT a_INTEGER a_NUMERIC a_REAL a_TIMESTAMPTZ a_JSONB a_BIGINT a_DOUBLE_PRECISION a_BOOLEAN a_TEXT a_VARCHAR h16 n0 Zs17 f17_225 S_SMALLINT0 S_INTEGER0 S_NUMERIC0 S_REAL0 S_TIMESTAMPTZ0 S_JSONB0 S_BIGINT0 S_DOUBLE_PRECISION0 S_BOOLEAN0 S_TEXT0 S_VARCHAR0 E_SMALLINT0 E_INTEGER0 E_NUMERIC0 E_REAL0 E_TIMESTAMPTZ0 E_JSONB0 E_BIGINT0 E_DOUBLE_PRECISION0 E_BOOLEAN0 E_TEXT0 E_VARCHAR0) (g := (mkF m 236 #[.val (.int p0), .val (.int p1), .val (.int p2), .val (.int p3), .val (.int p4), .val (.int r1), .val (.int x6), .val (.int y7), .val (.int fl), .val (.int n9), .val (.int x10), .val (.int y11), .val (.int i12), .val (.int i13), .val (.int m14), .val (.int z15), .val (.int z16), .val (.ref r10), .val (.ref r12), .unset, .unset, .unset, .unset] [(.int i12), (.ref r16), (.ref b14), (.ref b14)])) rfl (by rw [hml]; rfl) (argsL := [(.int i12)]) (rest := [(.ref r16), (.ref b14), (.ref b14)]) (lenOf pd19 rfl) rfl (hb hby at_236) rfl (by decide) (Nat.le_of_ble_eq_true rfl) (k' := 13) (n' := 29) rfl rfl (by decide) (by decide)
                  refine Go.by st18 ?_
                  obtain ⟨t18, rfl, ht18, Et18, rfl⟩ := q18
                  show Go p.tables e below _ (T18.setTop (mkF m 239 #[.val (.int p0), .val (.int p1), .val (.int p2), .val (.int p3), .val (.int p4), .val (.int r1), .val (.int x6), .val (.int y7), .val (.int fl), .val (.int n9), .val (.int x10), .val (.int y11), .val (.int i12), .val (.int i13), .val (.int m14), .val (.int z15), .val (.int z16), .val (.ref r10), .val (.ref r12), .unset, .unset, .unset, .unset] [(.ref t18), (.ref r16), (.ref b14), (.ref b14)]))
                  refine Go.by (fun _ => XS.iloadN X18.here hx rfl (hb hby at_239) rfl) ?_
                  show Go p.tables e below _ (T18.setTop (mkF m 240 #[.val (.int p0), .val (.int p1), .val (.int p2), .val (.int p3), .val (.int p4), .val (.int r1), .val (.int x6), .val (.int y7), .val (.int fl), .val (.int n9), .val (.int x10), .val (.int y11), .val (.int i12), .val (.int i13), .val (.int m14), .val (.int z15), .val (.int z16), .val (.ref r10), .val (.ref r12), .unset, .unset, .unset, .unset] [(.int p3), (.ref t18), (.ref r16), (.ref b14), (.ref b14)]))
                  refine Go.by (fun _ => XS.iload X18.here hx rfl (hb hby at_240) rfl) ?_
                  show Go p.tables e below _ (T18.setTop (mkF m 242 #[.val (.int p0), .val (.int p1), .val (.int p2), .val (.int p3), .val (.int p4), .val (.int r1), .val (.int x6), .val (.int y7), .val (.int fl), .val (.int n9), .val (.int x10), .val (.int y11), .val (.int i12), .val (.int i13), .val (.int m14), .val (.int z15), .val (.int z16), .val (.ref r10), .val (.ref r12), .unset, .unset, .unset, .unset] [(.int z15), (.int p3), (.ref t18), (.ref r16), (.ref b14), (.ref b14)]))
                  refine Go.by (fun _ => XS.aload X18.here hx rfl (hb hby at_242) rfl rfl) ?_
                  show Go p.tables e below _ (T18.setTop (mkF m 244 #[.val (.int p0), .val (.int p1), .val (.int p2), .val (.int p3), .val (.int p4), .val (.int r1), .val (.int x6), .val (.int y7), .val (.int fl), .val (.int n9), .val (.int x10), .val (.int y11), .val (.int i12), .val (.int i13), .val (.int m14), .val (.int z15), .val (.int z16), .val (.ref r10), .val (.ref r12), .unset, .unset, .unset, .unset] [(.ref r10), (.int z15), (.int p3), (.ref t18), (.ref r16), (.ref b14), (.ref b14)]))
                  obtain ⟨v19, T19, h19, X19, q19, xs19, st19⟩ := X18.callI hx hZ f0n (y := (⟨"com/example/interlace/interlace/Column", "<init>", "(Ljava/lang/String;Lcom/example/interlace/interlace/DataType;IZLjava/util/Optional;)V"⟩ : MethodName)) rfl hown (tw hw 47 rfl) (tw hw 48 rfl) (tw hw 15 rfl) (tw hw 49 rfl) (by decide) (rm9 l Z a0 hw [] b14 r16 t18 p3 z15 r10 h16 n0 Zs17 f17_226 g_b14 f17_227 f17_228 f17_229 f17_230 f17_231) (g := (mkF m 244 #[.val (.int p0), .val (.int p1), .val (.int p2), .val (.int p3), .val (.int p4), .val (.int r1), .val (.int x6), .val (.int y7), .val (.int fl), .val (.int n9), .val (.int x10), .val (.int y11), .val (.int i12), .val (.int i13), .val (.int m14), .val (.int z15), .val (.int z16), .val (.ref r10), .val (.ref r12), .unset, .unset, .unset, .unset] [(.ref r10), (.int z15), (.int p3), (.ref t18), (.ref r16), (.ref b14), (.ref b14)])) rfl (by rw [hml]; rfl) (argsL := [(.ref r16), (.ref t18), (.int p3), (.int z15), (.ref r10)]) (rest := [(.ref b14)]) (lenOf pd20 rfl) rfl (hb hby at_244) rfl (by decide) (Nat.le_of_ble_eq_true rfl) (k' := 13) (n' := 29) rfl rfl (by decide) (by decide)
                  refine Go.by st19 ?_
                  obtain ⟨rfl, K19, Ex19, Fn19, Ft19, Fm19⟩ := q19
                  have f20_251 := f17_225.keep K19 (allS g_b14 all0)
                  have f20_252 := f17_226.keep K19
                  have f20_253 := Ex16.keep K19
                  have f20_254 := Fv16.keep K19 (ninS (Ne.symm ne_b14_r16) nin0)
                  have f20_255 := Fc16.keep K19 (ninS (Ne.symm ne_b14_r16) nin0)
                  have f20_256 := Avf.keep V16 K19 (ninS ne_d16_b14 nin0)
                  have f20_257 := Et18.keep K19
                  have Zs20 : n0 ≤ h19.size := Nat.le_trans Zs17 K19.1
                  show Go p.tables e below _ (T19.setTop (mkF m 247 #[.val (.int p0), .val (.int p1), .val (.int p2), .val (.int p3), .val (.int p4), .val (.int r1), .val (.int x6), .val (.int y7), .val (.int fl), .val (.int n9), .val (.int x10), .val (.int y11), .val (.int i12), .val (.int i13), .val (.int m14), .val (.int z15), .val (.int z16), .val (.ref r10), .val (.ref r12), .unset, .unset, .unset, .unset] [(.ref b14)]))
                  refine Go.by (fun _ => XS.astore X19.here hx rfl (hb hby at_247) rfl rfl (l' := #[.val (.int p0), .val (.int p1), .val (.int p2), .val (.int p3), .val (.int p4), .val (.int r1), .val (.int x6), .val (.int y7), .val (.int fl), .val (.int n9), .val (.int x10), .val (.int y11), .val (.int i12), .val (.int i13), .val (.int m14), .val (.int z15), .val (.int z16), .val (.ref r10), .val (.ref r12), .val (.ref b14), .unset, .unset, .unset]) rfl) ?_
                  show Go p.tables e below _ (T19.setTop (mkF m 249 #[.val (.int p0), .val (.int p1), .val (.int p2), .val (.int p3), .val (.int p4), .val (.int r1), .val (.int x6), .val (.int y7), .val (.int fl), .val (.int n9), .val (.int x10), .val (.int y11), .val (.int i12), .val (.int i13), .val (.int m14), .val (.int z15), .val (.int z16), .val (.ref r10), .val (.ref r12), .val (.ref b14), .unset, .unset, .unset] []))
                  obtain ⟨T21, h21, b21, X21, g21, E21, A21, D21, st21⟩ := X19.newO hx hZ hown (tw hw 13 rfl) (tw hw 14 rfl) (tw hw 15 rfl) (g := (mkF m 249 #[.val (.int p0), .val (.int p1), .val (.int p2), .val (.int p3), .val (.int p4), .val (.int r1), .val (.int x6), .val (.int y7), .val (.int fl), .val (.int n9), .val (.int x10), .val (.int y11), .val (.int i12), .val (.int i13), .val (.int m14), .val (.int z15), .val (.int z16), .val (.ref r10), .val (.ref r12), .val (.ref b14), .unset, .unset, .unset] [])) rfl (hb hby at_249) (k' := 14) (n' := 34) rfl rfl (by decide) (by decide)
                  have g_b21 : n0 ≤ b21 := by rw [g21]; exact Zs20
                  have ne_b14_b21 : b14 ≠ b21 := Nat.ne_of_lt (by rw [g21]; exact Ex19.lt)
                  have ne_r16_b21 : r16 ≠ b21 := Nat.ne_of_lt (by rw [g21]; exact f20_253.lt)
                  have ne_d16_b21 : d16 ≠ b21 := Nat.ne_of_lt (by rw [g21]; exact f20_256.lt)
                  have ne_t18_b21 : t18 ≠ b21 := Nat.ne_of_lt (by rw [g21]; exact f20_257.lt)
                  have f22_268 := f20_251.ext E21
                  have f22_269 := Ex19.ext E21
                  have f22_270 := f20_253.ext E21
                  have f22_271 := f20_254.ext E21
                  have f22_272 := f20_255.ext E21
                  have f22_273 := Avf.ext f20_256 E21
                  have f22_274 := f20_257.ext E21
                  have f22_275 := Fn19.ext E21
                  have f22_276 := Ft19.ext E21
                  have f22_277 := Fm19.ext E21
                  have Zs22 : n0 ≤ h21.size := Nat.le_trans Zs20 E21.1
                  have F21_name : Fld Z h21 b21 "com/example/interlace/interlace/Column" "name" "Ljava/lang/String;" .null := D21 (Or.inr (tw hw 57 rfl)) (ty := (.object "java/lang/String")) (by decide)
                  have F21_type : Fld Z h21 b21 "com/example/interlace/interlace/Column" "type" "Lcom/example/interlace/interlace/DataType;" .null := D21 (Or.inr (tw hw 59 rfl)) (ty := (.object "com/example/interlace/interlace/DataType")) (by decide)
                  have F21_maxLength : Fld Z h21 b21 "com/example/interlace/interlace/Column" "maxLength" "I" (.int (0 : Int32)) := D21 (Or.inr (tw hw 61 rfl)) (ty := .int) (by decide)
                  have F21_notNull : Fld Z h21 b21 "com/example/interlace/interlace/Column" "notNull" "Z" (.int (0 : Int32)) := D21 (Or.inr (tw hw 63 rfl)) (ty := .boolean) (by decide)
                  have F21_defaultExpression : Fld Z h21 b21 "com/example/interlace/interlace/Column" "defaultExpression" "Ljava/util/Optional;" .null := D21 (Or.inr (tw hw 65 rfl)) (ty := (.object "java/util/Optional")) (by decide)
                  refine Go.by st21 ?_
                  show Go p.tables e below _ (T21.setTop (mkF m 252 #[.val (.int p0), .val (.int p1), .val (.int p2), .val (.int p3), .val (.int p4), .val (.int r1), .val (.int x6), .val (.int y7), .val (.int fl), .val (.int n9), .val (.int x10), .val (.int y11), .val (.int i12), .val (.int i13), .val (.int m14), .val (.int z15), .val (.int z16), .val (.ref r10), .val (.ref r12), .val (.ref b14), .unset, .unset, .unset] [(.ref b21)]))
                  refine Go.by (fun _ => XS.dup X21.here hx rfl (hb hby at_252) rfl rfl) ?_
                  show Go p.tables e below _ (T21.setTop (mkF m 253 #[.val (.int p0), .val (.int p1), .val (.int p2), .val (.int p3), .val (.int p4), .val (.int r1), .val (.int x6), .val (.int y7), .val (.int fl), .val (.int n9), .val (.int x10), .val (.int y11), .val (.int i12), .val (.int i13), .val (.int m14), .val (.int z15), .val (.int z16), .val (.ref r10), .val (.ref r12), .val (.ref b14), .unset, .unset, .unset] [(.ref b21), (.ref b21)]))
                  refine Go.by (fun _ => XS.iload X21.here hx rfl (hb hby at_253) rfl) ?_
                  show Go p.tables e below _ (T21.setTop (mkF m 255 #[.val (.int p0), .val (.int p1), .val (.int p2), .val (.int p3), .val (.int p4), .val (.int r1), .val (.int x6), .val (.int y7), .val (.int fl), .val (.int n9), .val (.int x10), .val (.int y11), .val (.int i12), .val (.int i13), .val (.int m14), .val (.int z15), .val (.int z16), .val (.ref r10), .val (.ref r12), .val (.ref b14), .unset, .unset, .unset] [(.int n9), (.ref b21), (.ref b21)]))
                  refine Go.by (fun _ => XS.iload X21.here hx rfl (hb hby at_255) rfl) ?_
                  show Go p.tables e below _ (T21.setTop (mkF m 257 #[.val (.int p0), .val (.int p1), .val (.int p2), .val (.int p3), .val (.int p4), .val (.int r1), .val (.int x6), .val (.int y7), .val (.int fl), .val (.int n9), .val (.int x10), .val (.int y11), .val (.int i12), .val (.int i13), .val (.int m14), .val (.int z15), .val (.int z16), .val (.ref r10), .val (.ref r12), .val (.ref b14), .unset, .unset, .unset] [(.int x10), (.int n9), (.ref b21), (.ref b21)]))
                  refine Go.by (fun _ => XS.iload X21.here hx rfl (hb hby at_257) rfl) ?_
                  show Go p.tables e below _ (T21.setTop (mkF m 259 #[.val (.int p0), .val (.int p1), .val (.int p2), .val (.int p3), .val (.int p4), .val (.int r1), .val (.int x6), .val (.int y7), .val (.int fl), .val (.int n9), .val (.int x10), .val (.int y11), .val (.int i12), .val (.int i13), .val (.int m14), .val (.int z15), .val (.int z16), .val (.ref r10), .val (.ref r12), .val (.ref b14), .unset, .unset, .unset] [(.int y11), (.int x10), (.int n9), (.ref b21), (.ref b21)]))
                  obtain ⟨v23, T23, h23, X23, q23, xs23, st23⟩ := X21.callS hx hZ f0n (y := (⟨"com/example/interlace/interlace/ColumnHoldsAlikePinLaw", "name", "(III)Ljava/lang/String;"⟩ : MethodName)) hown (tw hw 16 rfl) (tw hw 17 rfl) (tw hw 6 rfl) (tw hw 18 rfl) (by decide) (rm4 l Z a0 hw [] n9 x10 y11 cs h21 n0 Zs22 f22_268 S_CS0 hcs hj3 hj4 hj5) (g := (mkF m 259 #[.val (.int p0), .val (.int p1), .val (.int p2), .val (.int p3), .val (.int p4), .val (.int r1), .val (.int x6), .val (.int y7), .val (.int fl), .val (.int n9), .val (.int x10), .val (.int y11), .val (.int i12), .val (.int i13), .val (.int m14), .val (.int z15), .val (.int z16), .val (.ref r10), .val (.ref r12), .val (.ref b14), .unset, .unset, .unset] [(.int y11), (.int x10), (.int n9), (.ref b21), (.ref b21)])) rfl (by rw [hml]; rfl) (argsL := [(.int n9), (.int x10), (.int y11)]) (rest := [(.ref b21), (.ref b21)]) (lenOf pd18 rfl) rfl (hb hby at_259) rfl (by decide) (Nat.le_of_ble_eq_true rfl) (k' := 20) (n' := 46) rfl rfl (by decide) (by decide)
                  refine Go.by st23 ?_
                  obtain ⟨r23, d23, kc23, rfl, sr23, K23, Ex23, Fv23, Fc23, V23⟩ := q23
                  have g_r23 : n0 ≤ r23 := Nat.le_trans Zs22 sr23
                  have ne_b14_r23 : b14 ≠ r23 := Nat.ne_of_lt (Nat.lt_of_lt_of_le f22_269.lt sr23)
                  have ne_r16_r23 : r16 ≠ r23 := Nat.ne_of_lt (Nat.lt_of_lt_of_le f22_270.lt sr23)
                  have ne_d16_r23 : d16 ≠ r23 := Nat.ne_of_lt (Nat.lt_of_lt_of_le f22_273.lt sr23)
                  have ne_t18_r23 : t18 ≠ r23 := Nat.ne_of_lt (Nat.lt_of_lt_of_le f22_274.lt sr23)
                  have ne_b21_r23 : b21 ≠ r23 := Nat.ne_of_lt (Nat.lt_of_lt_of_le A21.lt sr23)
                  have f24_303 := f22_268.ext (keep_ext K23)
                  have f24_304 := f22_269.ext (keep_ext K23)
                  have f24_305 := f22_270.ext (keep_ext K23)
                  have f24_306 := f22_271.ext (keep_ext K23)
                  have f24_307 := f22_272.ext (keep_ext K23)
                  have f24_308 := Avf.ext f22_273 (keep_ext K23)
                  have f24_309 := f22_274.ext (keep_ext K23)
                  have f24_310 := f22_275.ext (keep_ext K23)
                  have f24_311 := f22_276.ext (keep_ext K23)
                  have f24_312 := f22_277.ext (keep_ext K23)
                  have f24_313 := A21.ext (keep_ext K23)
                  have f24_314 := F21_name.ext (keep_ext K23)
                  have f24_315 := F21_type.ext (keep_ext K23)
                  have f24_316 := F21_maxLength.ext (keep_ext K23)
                  have f24_317 := F21_notNull.ext (keep_ext K23)
                  have f24_318 := F21_defaultExpression.ext (keep_ext K23)
                  have Zs24 : n0 ≤ h23.size := Nat.le_trans Zs22 (keep_ext K23).1
                  have ne_d23_b14 : d23 ≠ b14 := exa_nev f24_304 (tw hw 14 rfl) V23
                  have ne_d23_r16 : d23 ≠ r16 := exa_nev f24_305 (tw hw 20 rfl) V23
                  have ne_d23_b21 : d23 ≠ b21 := exa_nev f24_313 (tw hw 14 rfl) V23
                  have ne_d23_r23 : d23 ≠ r23 := exa_nev Ex23 (tw hw 20 rfl) V23
                  show Go p.tables e below _ (T23.setTop (mkF m 262 #[.val (.int p0), .val (.int p1), .val (.int p2), .val (.int p3), .val (.int p4), .val (.int r1), .val (.int x6), .val (.int y7), .val (.int fl), .val (.int n9), .val (.int x10), .val (.int y11), .val (.int i12), .val (.int i13), .val (.int m14), .val (.int z15), .val (.int z16), .val (.ref r10), .val (.ref r12), .val (.ref b14), .unset, .unset, .unset] [(.ref r23), (.ref b21), (.ref b21)]))
                  refine Go.by (fun _ => XS.iload X23.here hx rfl (hb hby at_262) rfl) ?_
                  show Go p.tables e below _ (T23.setTop (mkF m 264 #[.val (.int p0), .val (.int p1), .val (.int p2), .val (.int p3), .val (.int p4), .val (.int r1), .val (.int x6), .val (.int y7), .val (.int fl), .val (.int n9), .val (.int x10), .val (.int y11), .val (.int i12), .val (.int i13), .val (.int m14), .val (.int z15), .val (.int z16), .val (.ref r10), .val (.ref r12), .val (.ref b14), .unset, .unset, .unset] [(.int i13), (.ref r23), (.ref b21), (.ref b21)]))
                  obtain ⟨v25, T25, h25, X25, q25, xs25, st25⟩ := X23.callS hx hZ f0n (y := (⟨"com/example/interlace/interlace/ColumnHoldsAlikePinLaw", "type", "(I)Lcom/example/interlace/interlace/DataType;"⟩ : MethodName)) hown (tw hw 41 rfl) (tw hw 42 rfl) (tw hw 6 rfl) (tw hw 43 rfl) (by decide) (rm8 l Z a0 hw [] i13 a_SMALLINT a_INTEGER a_NUMERIC a_REAL a_TIMESTAMPTZ a_JSONB a_BIGINT a_DOUBLE_PRECISION a_BOOLEAN a_TEXT a_VARCHAR h23 n0 Zs24 f24_303 S_SMALLINT0 S_INTEGER0 S_NUMERIC0 S_REAL0 S_TIMESTAMPTZ0 S_JSONB0 S_BIGINT0 S_DOUBLE_PRECISION0 S_BOOLEAN0 S_TEXT0 S_VARCHAR0 E_SMALLINT0 E_INTEGER0 E_NUMERIC0 E_REAL0 E_TIMESTAMPTZ0 E_JSONB0 E_BIGINT0 E_DOUBLE_PRECISION0 E_BOOLEAN0 E_TEXT0 E_VARCHAR0) (g := (mkF m 264 #[.val (.int p0), .val (.int p1), .val (.int p2), .val (.int p3), .val (.int p4), .val (.int r1), .val (.int x6), .val (.int y7), .val (.int fl), .val (.int n9), .val (.int x10), .val (.int y11), .val (.int i12), .val (.int i13), .val (.int m14), .val (.int z15), .val (.int z16), .val (.ref r10), .val (.ref r12), .val (.ref b14), .unset, .unset, .unset] [(.int i13), (.ref r23), (.ref b21), (.ref b21)])) rfl (by rw [hml]; rfl) (argsL := [(.int i13)]) (rest := [(.ref r23), (.ref b21), (.ref b21)]) (lenOf pd19 rfl) rfl (hb hby at_264) rfl (by decide) (Nat.le_of_ble_eq_true rfl) (k' := 20) (n' := 46) rfl rfl (by decide) (by decide)
                  refine Go.by st25 ?_
                  obtain ⟨t25, rfl, ht25, Et25, rfl⟩ := q25
                  show Go p.tables e below _ (T25.setTop (mkF m 267 #[.val (.int p0), .val (.int p1), .val (.int p2), .val (.int p3), .val (.int p4), .val (.int r1), .val (.int x6), .val (.int y7), .val (.int fl), .val (.int n9), .val (.int x10), .val (.int y11), .val (.int i12), .val (.int i13), .val (.int m14), .val (.int z15), .val (.int z16), .val (.ref r10), .val (.ref r12), .val (.ref b14), .unset, .unset, .unset] [(.ref t25), (.ref r23), (.ref b21), (.ref b21)]))
                  refine Go.by (fun _ => XS.iload X25.here hx rfl (hb hby at_267) rfl) ?_
                  show Go p.tables e below _ (T25.setTop (mkF m 269 #[.val (.int p0), .val (.int p1), .val (.int p2), .val (.int p3), .val (.int p4), .val (.int r1), .val (.int x6), .val (.int y7), .val (.int fl), .val (.int n9), .val (.int x10), .val (.int y11), .val (.int i12), .val (.int i13), .val (.int m14), .val (.int z15), .val (.int z16), .val (.ref r10), .val (.ref r12), .val (.ref b14), .unset, .unset, .unset] [(.int m14), (.ref t25), (.ref r23), (.ref b21), (.ref b21)]))
                  refine Go.by (fun _ => XS.iload X25.here hx rfl (hb hby at_269) rfl) ?_
                  show Go p.tables e below _ (T25.setTop (mkF m 271 #[.val (.int p0), .val (.int p1), .val (.int p2), .val (.int p3), .val (.int p4), .val (.int r1), .val (.int x6), .val (.int y7), .val (.int fl), .val (.int n9), .val (.int x10), .val (.int y11), .val (.int i12), .val (.int i13), .val (.int m14), .val (.int z15), .val (.int z16), .val (.ref r10), .val (.ref r12), .val (.ref b14), .unset, .unset, .unset] [(.int z16), (.int m14), (.ref t25), (.ref r23), (.ref b21), (.ref b21)]))
                  refine Go.by (fun _ => XS.aload X25.here hx rfl (hb hby at_271) rfl rfl) ?_
                  show Go p.tables e below _ (T25.setTop (mkF m 273 #[.val (.int p0), .val (.int p1), .val (.int p2), .val (.int p3), .val (.int p4), .val (.int r1), .val (.int x6), .val (.int y7), .val (.int fl), .val (.int n9), .val (.int x10), .val (.int y11), .val (.int i12), .val (.int i13), .val (.int m14), .val (.int z15), .val (.int z16), .val (.ref r10), .val (.ref r12), .val (.ref b14), .unset, .unset, .unset] [(.ref r12), (.int z16), (.int m14), (.ref t25), (.ref r23), (.ref b21), (.ref b21)]))
                  obtain ⟨v26, T26, h26, X26, q26, xs26, st26⟩ := X25.callI hx hZ f0n (y := (⟨"com/example/interlace/interlace/Column", "<init>", "(Ljava/lang/String;Lcom/example/interlace/interlace/DataType;IZLjava/util/Optional;)V"⟩ : MethodName)) rfl hown (tw hw 47 rfl) (tw hw 48 rfl) (tw hw 15 rfl) (tw hw 49 rfl) (by decide) (rm9 l Z a0 hw [] b21 r23 t25 m14 z16 r12 h23 n0 Zs24 f24_313 g_b21 f24_314 f24_315 f24_316 f24_317 f24_318) (g := (mkF m 273 #[.val (.int p0), .val (.int p1), .val (.int p2), .val (.int p3), .val (.int p4), .val (.int r1), .val (.int x6), .val (.int y7), .val (.int fl), .val (.int n9), .val (.int x10), .val (.int y11), .val (.int i12), .val (.int i13), .val (.int m14), .val (.int z15), .val (.int z16), .val (.ref r10), .val (.ref r12), .val (.ref b14), .unset, .unset, .unset] [(.ref r12), (.int z16), (.int m14), (.ref t25), (.ref r23), (.ref b21), (.ref b21)])) rfl (by rw [hml]; rfl) (argsL := [(.ref r23), (.ref t25), (.int m14), (.int z16), (.ref r12)]) (rest := [(.ref b21)]) (lenOf pd20 rfl) rfl (hb hby at_273) rfl (by decide) (Nat.le_of_ble_eq_true rfl) (k' := 20) (n' := 46) rfl rfl (by decide) (by decide)
                  refine Go.by st26 ?_
                  obtain ⟨rfl, K26, Ex26, Fn26, Ft26, Fm26⟩ := q26
                  have f27_340 := f24_303.keep K26 (allS g_b21 all0)
                  have f27_341 := f24_304.keep K26
                  have f27_342 := f24_305.keep K26
                  have f27_343 := f24_306.keep K26 (ninS ne_r16_b21 nin0)
                  have f27_344 := f24_307.keep K26 (ninS ne_r16_b21 nin0)
                  have f27_345 := Avf.keep f24_308 K26 (ninS ne_d16_b21 nin0)
                  have f27_346 := f24_309.keep K26
                  have f27_347 := f24_310.keep K26 (ninS ne_b14_b21 nin0)
                  have f27_348 := f24_311.keep K26 (ninS ne_b14_b21 nin0)
                  have f27_349 := f24_312.keep K26 (ninS ne_b14_b21 nin0)
                  have f27_350 := f24_313.keep K26
                  have f27_351 := Ex23.keep K26
                  have f27_352 := Fv23.keep K26 (ninS (Ne.symm ne_b21_r23) nin0)
                  have f27_353 := Fc23.keep K26 (ninS (Ne.symm ne_b21_r23) nin0)
                  have f27_354 := Avf.keep V23 K26 (ninS ne_d23_b21 nin0)
                  have f27_355 := Et25.keep K26
                  have Zs27 : n0 ≤ h26.size := Nat.le_trans Zs24 K26.1
                  show Go p.tables e below _ (T26.setTop (mkF m 276 #[.val (.int p0), .val (.int p1), .val (.int p2), .val (.int p3), .val (.int p4), .val (.int r1), .val (.int x6), .val (.int y7), .val (.int fl), .val (.int n9), .val (.int x10), .val (.int y11), .val (.int i12), .val (.int i13), .val (.int m14), .val (.int z15), .val (.int z16), .val (.ref r10), .val (.ref r12), .val (.ref b14), .unset, .unset, .unset] [(.ref b21)]))
                  refine Go.by (fun _ => XS.astore X26.here hx rfl (hb hby at_276) rfl rfl (l' := #[.val (.int p0), .val (.int p1), .val (.int p2), .val (.int p3), .val (.int p4), .val (.int r1), .val (.int x6), .val (.int y7), .val (.int fl), .val (.int n9), .val (.int x10), .val (.int y11), .val (.int i12), .val (.int i13), .val (.int m14), .val (.int z15), .val (.int z16), .val (.ref r10), .val (.ref r12), .val (.ref b14), .val (.ref b21), .unset, .unset]) rfl) ?_
                  show Go p.tables e below _ (T26.setTop (mkF m 278 #[.val (.int p0), .val (.int p1), .val (.int p2), .val (.int p3), .val (.int p4), .val (.int r1), .val (.int x6), .val (.int y7), .val (.int fl), .val (.int n9), .val (.int x10), .val (.int y11), .val (.int i12), .val (.int i13), .val (.int m14), .val (.int z15), .val (.int z16), .val (.ref r10), .val (.ref r12), .val (.ref b14), .val (.ref b21), .unset, .unset] []))
                  refine Go.by (fun _ => XS.iload X26.here hx rfl (hb hby at_278) rfl) ?_
                  show Go p.tables e below _ (T26.setTop (mkF m 280 #[.val (.int p0), .val (.int p1), .val (.int p2), .val (.int p3), .val (.int p4), .val (.int r1), .val (.int x6), .val (.int y7), .val (.int fl), .val (.int n9), .val (.int x10), .val (.int y11), .val (.int i12), .val (.int i13), .val (.int m14), .val (.int z15), .val (.int z16), .val (.ref r10), .val (.ref r12), .val (.ref b14), .val (.ref b21), .unset, .unset] [(.int r1)]))
                  refine Go.by (fun _ => XS.iload X26.here hx rfl (hb hby at_280) rfl) ?_
                  show Go p.tables e below _ (T26.setTop (mkF m 282 #[.val (.int p0), .val (.int p1), .val (.int p2), .val (.int p3), .val (.int p4), .val (.int r1), .val (.int x6), .val (.int y7), .val (.int fl), .val (.int n9), .val (.int x10), .val (.int y11), .val (.int i12), .val (.int i13), .val (.int m14), .val (.int z15), .val (.int z16), .val (.ref r10), .val (.ref r12), .val (.ref b14), .val (.ref b21), .unset, .unset] [(.int n9), (.int r1)]))
                  have J28 : ∀ (Tj28 : State), Sd Z EL [] n0 p l e room_1 s m #[(.int p0), (.int p1), (.int p2), (.int p3), (.int p4)] below meth c Tj28 h26 20 46 → ∀ (e21 : Int32), (e21 = 1 ∧ (r1 = n9 ∧ (r1 < 1 ∨ x6 = x10) ∧ (r1 < 2 ∨ y7 = y11))) ∨ (e21 = 0 ∧ ¬ (r1 = n9 ∧ (r1 < 1 ∨ x6 = x10) ∧ (r1 < 2 ∨ y7 = y11))) → Go p.tables e below (Ret Z EL (fun _ _ _ => False) s n0 (fun v h => v = some (.int 1)) room_1.cells room_1.slots) (Tj28.setTop (mkF m 316 #[.val (.int p0), .val (.int p1), .val (.int p2), .val (.int p3), .val (.int p4), .val (.int r1), .val (.int x6), .val (.int y7), .val (.int fl), .val (.int n9), .val (.int x10), .val (.int y11), .val (.int i12), .val (.int i13), .val (.int m14), .val (.int z15), .val (.int z16), .val (.ref r10), .val (.ref r12), .val (.ref b14), .val (.ref b21), .unset, .unset] [(.int e21)])) := by
                    intro Tj28 Xj28 e21 hj28
                    refine Go.by (fun _ => XS.istore Xj28.here hx rfl (hb hby at_316) rfl (l' := #[.val (.int p0), .val (.int p1), .val (.int p2), .val (.int p3), .val (.int p4), .val (.int r1), .val (.int x6), .val (.int y7), .val (.int fl), .val (.int n9), .val (.int x10), .val (.int y11), .val (.int i12), .val (.int i13), .val (.int m14), .val (.int z15), .val (.int z16), .val (.ref r10), .val (.ref r12), .val (.ref b14), .val (.ref b21), .val (.int e21), .unset]) rfl) ?_
                    show Go p.tables e below _ (Tj28.setTop (mkF m 318 #[.val (.int p0), .val (.int p1), .val (.int p2), .val (.int p3), .val (.int p4), .val (.int r1), .val (.int x6), .val (.int y7), .val (.int fl), .val (.int n9), .val (.int x10), .val (.int y11), .val (.int i12), .val (.int i13), .val (.int m14), .val (.int z15), .val (.int z16), .val (.ref r10), .val (.ref r12), .val (.ref b14), .val (.ref b21), .val (.int e21), .unset] []))
                    refine Go.by (fun _ => XS.iload Xj28.here hx rfl (hb hby at_318) rfl) ?_
                    show Go p.tables e below _ (Tj28.setTop (mkF m 320 #[.val (.int p0), .val (.int p1), .val (.int p2), .val (.int p3), .val (.int p4), .val (.int r1), .val (.int x6), .val (.int y7), .val (.int fl), .val (.int n9), .val (.int x10), .val (.int y11), .val (.int i12), .val (.int i13), .val (.int m14), .val (.int z15), .val (.int z16), .val (.ref r10), .val (.ref r12), .val (.ref b14), .val (.ref b21), .val (.int e21), .unset] [(.int e21)]))
                    have J29 : ∀ (Tj29 : State), Sd Z EL [] n0 p l e room_1 s m #[(.int p0), (.int p1), (.int p2), (.int p3), (.int p4)] below meth c Tj29 h26 20 46 → ∀ (e22 : Int32), (e22 = 1 ∧ ((r1 = n9 ∧ (r1 < 1 ∨ x6 = x10) ∧ (r1 < 2 ∨ y7 = y11)) ∧ i12 = i13 ∧ p3 = m14)) ∨ (e22 = 0 ∧ ¬ ((r1 = n9 ∧ (r1 < 1 ∨ x6 = x10) ∧ (r1 < 2 ∨ y7 = y11)) ∧ i12 = i13 ∧ p3 = m14)) → Go p.tables e below (Ret Z EL (fun _ _ _ => False) s n0 (fun v h => v = some (.int 1)) room_1.cells room_1.slots) (Tj29.setTop (mkF m 341 #[.val (.int p0), .val (.int p1), .val (.int p2), .val (.int p3), .val (.int p4), .val (.int r1), .val (.int x6), .val (.int y7), .val (.int fl), .val (.int n9), .val (.int x10), .val (.int y11), .val (.int i12), .val (.int i13), .val (.int m14), .val (.int z15), .val (.int z16), .val (.ref r10), .val (.ref r12), .val (.ref b14), .val (.ref b21), .val (.int e21), .unset] [(.int e22)])) := by
                      intro Tj29 Xj29 e22 hj29
                      refine Go.by (fun _ => XS.istore Xj29.here hx rfl (hb hby at_341) rfl (l' := #[.val (.int p0), .val (.int p1), .val (.int p2), .val (.int p3), .val (.int p4), .val (.int r1), .val (.int x6), .val (.int y7), .val (.int fl), .val (.int n9), .val (.int x10), .val (.int y11), .val (.int i12), .val (.int i13), .val (.int m14), .val (.int z15), .val (.int z16), .val (.ref r10), .val (.ref r12), .val (.ref b14), .val (.ref b21), .val (.int e21), .val (.int e22)]) rfl) ?_
                      show Go p.tables e below _ (Tj29.setTop (mkF m 343 #[.val (.int p0), .val (.int p1), .val (.int p2), .val (.int p3), .val (.int p4), .val (.int r1), .val (.int x6), .val (.int y7), .val (.int fl), .val (.int n9), .val (.int x10), .val (.int y11), .val (.int i12), .val (.int i13), .val (.int m14), .val (.int z15), .val (.int z16), .val (.ref r10), .val (.ref r12), .val (.ref b14), .val (.ref b21), .val (.int e21), .val (.int e22)] []))
                      have kt : t18 = t25 ↔ i12 = i13 := by
                        constructor
                        · intro q
                          refine own_cls b_i12 hj6 (Classical.byContradiction fun z => Exa.ne f27_346 f27_355 z q)
                        · intro q
                          rw [ht18, ht25, q]
                      have key1 : ((nmN r1 = nmN n9 ∧ ∀ i, i < nmN r1 → nmB x6 y7 i = nmB x10 y11 i) ∧ t18 = t25 ∧ p3 = m14) ↔ ((r1 = n9 ∧ (r1 < 1 ∨ x6 = x10) ∧ (r1 < 2 ∨ y7 = y11)) ∧ i12 = i13 ∧ p3 = m14) := and_congr (own_alike bn1 hj3 b_x6 hj4 b_y7 hj5) (and_congr kt Iff.rfl)
                      have key2 : ((nmN n9 = nmN r1 ∧ ∀ i, i < nmN n9 → nmB x10 y11 i = nmB x6 y7 i) ∧ t25 = t18 ∧ m14 = p3) ↔ ((r1 = n9 ∧ (r1 < 1 ∨ x6 = x10) ∧ (r1 < 2 ∨ y7 = y11)) ∧ i12 = i13 ∧ p3 = m14) := by
                        rw [← key1]
                        constructor
                        · rintro ⟨⟨q1, q2⟩, q3, q4⟩
                          exact ⟨⟨q1.symm, fun i hi => (q2 i (by rw [q1]; exact hi)).symm⟩, q3.symm, q4.symm⟩
                        · rintro ⟨⟨q1, q2⟩, q3, q4⟩
                          exact ⟨⟨q1.symm, fun i hi => (q2 i (by rw [q1]; exact hi)).symm⟩, q3.symm, q4.symm⟩
                      refine Go.by (fun _ => XS.aload Xj29.here hx rfl (hb hby at_343) rfl rfl) ?_
                      show Go p.tables e below _ (Tj29.setTop (mkF m 345 #[.val (.int p0), .val (.int p1), .val (.int p2), .val (.int p3), .val (.int p4), .val (.int r1), .val (.int x6), .val (.int y7), .val (.int fl), .val (.int n9), .val (.int x10), .val (.int y11), .val (.int i12), .val (.int i13), .val (.int m14), .val (.int z15), .val (.int z16), .val (.ref r10), .val (.ref r12), .val (.ref b14), .val (.ref b21), .val (.int e21), .val (.int e22)] [(.ref b14)]))
                      refine Go.by (fun _ => XS.aload Xj29.here hx rfl (hb hby at_345) rfl rfl) ?_
                      show Go p.tables e below _ (Tj29.setTop (mkF m 347 #[.val (.int p0), .val (.int p1), .val (.int p2), .val (.int p3), .val (.int p4), .val (.int r1), .val (.int x6), .val (.int y7), .val (.int fl), .val (.int n9), .val (.int x10), .val (.int y11), .val (.int i12), .val (.int i13), .val (.int m14), .val (.int z15), .val (.int z16), .val (.ref r10), .val (.ref r12), .val (.ref b14), .val (.ref b21), .val (.int e21), .val (.int e22)] [(.ref b21), (.ref b14)]))
                      obtain ⟨v30, T30, h30, X30, q30, xs30, st30⟩ := Xj29.callV hx hZ f0n (y := (⟨"com/example/interlace/interlace/Column", "holdsAlike", "(Lcom/example/interlace/interlace/Column;)Z"⟩ : MethodName)) (z := (⟨"com/example/interlace/interlace/Column", "holdsAlike", "(Lcom/example/interlace/interlace/Column;)Z"⟩ : MethodName)) hown (tw hw 77 rfl) (tw hw 78 rfl) (fun _ hZ => notFace_of_selects (args := #[]) (mvT hZ (tw hw 80 rfl))) (tw hw 80 rfl) (tw hw 79 rfl) (tw hw 15 rfl) (tw hw 81 rfl) (by decide) (rm14 l Z a0 hw [] b14 b21 cs r16 r23 d16 d23 t18 t25 kc16 kc23 (nmN r1) (nmN n9) (nmB x6 y7) (nmB x10 y11) p3 m14 h26 n0 Zs27 f27_340 S_CS0 hcs f27_341 f27_347 f27_348 f27_349 f27_342 f27_343 f27_344 f27_345 Ex26 Fn26 Ft26 Fm26 f27_351 f27_352 f27_353 f27_354) f27_341 (g := (mkF m 347 #[.val (.int p0), .val (.int p1), .val (.int p2), .val (.int p3), .val (.int p4), .val (.int r1), .val (.int x6), .val (.int y7), .val (.int fl), .val (.int n9), .val (.int x10), .val (.int y11), .val (.int i12), .val (.int i13), .val (.int m14), .val (.int z15), .val (.int z16), .val (.ref r10), .val (.ref r12), .val (.ref b14), .val (.ref b21), .val (.int e21), .val (.int e22)] [(.ref b21), (.ref b14)])) rfl (by rw [hml]; rfl) (argsL := [(.ref b21)]) (rest := []) (lenOf pd21 rfl) rfl (hb hby at_347) rfl (by decide) (Nat.le_of_ble_eq_true rfl) (k' := 20) (n' := 46) rfl rfl (by decide) (by decide)
                      refine Go.by st30 ?_
                      rcases q30 with ⟨⟨hq30, rfl⟩ | ⟨hq30, rfl⟩, rfl⟩
                      · skip
                        show Go p.tables e below _ (T30.setTop (mkF m 350 #[.val (.int p0), .val (.int p1), .val (.int p2), .val (.int p3), .val (.int p4), .val (.int r1), .val (.int x6), .val (.int y7), .val (.int fl), .val (.int n9), .val (.int x10), .val (.int y11), .val (.int i12), .val (.int i13), .val (.int m14), .val (.int z15), .val (.int z16), .val (.ref r10), .val (.ref r12), .val (.ref b14), .val (.ref b21), .val (.int e21), .val (.int e22)] [(.int (1 : Int32))]))
                        refine Go.by (fun _ => XS.iload X30.here hx rfl (hb hby at_350) rfl) ?_
                        show Go p.tables e below _ (T30.setTop (mkF m 352 #[.val (.int p0), .val (.int p1), .val (.int p2), .val (.int p3), .val (.int p4), .val (.int r1), .val (.int x6), .val (.int y7), .val (.int fl), .val (.int n9), .val (.int x10), .val (.int y11), .val (.int i12), .val (.int i13), .val (.int m14), .val (.int z15), .val (.int z16), .val (.ref r10), .val (.ref r12), .val (.ref b14), .val (.ref b21), .val (.int e21), .val (.int e22)] [(.int e22), (.int (1 : Int32))]))
                        by_cases hc352_31 : (1 : Int32) = e22
                        · skip
                          refine Go.by (fun _ => XS.icmpNo X30.here hx rfl (hb hby at_352) rfl (teq hc352_31).2) ?_
                          show Go p.tables e below _ (T30.setTop (mkF m 355 #[.val (.int p0), .val (.int p1), .val (.int p2), .val (.int p3), .val (.int p4), .val (.int r1), .val (.int x6), .val (.int y7), .val (.int fl), .val (.int n9), .val (.int x10), .val (.int y11), .val (.int i12), .val (.int i13), .val (.int m14), .val (.int z15), .val (.int z16), .val (.ref r10), .val (.ref r12), .val (.ref b14), .val (.ref b21), .val (.int e21), .val (.int e22)] []))
                          refine Go.by (fun _ => XS.aload X30.here hx rfl (hb hby at_355) rfl rfl) ?_
                          show Go p.tables e below _ (T30.setTop (mkF m 357 #[.val (.int p0), .val (.int p1), .val (.int p2), .val (.int p3), .val (.int p4), .val (.int r1), .val (.int x6), .val (.int y7), .val (.int fl), .val (.int n9), .val (.int x10), .val (.int y11), .val (.int i12), .val (.int i13), .val (.int m14), .val (.int z15), .val (.int z16), .val (.ref r10), .val (.ref r12), .val (.ref b14), .val (.ref b21), .val (.int e21), .val (.int e22)] [(.ref b21)]))
                          refine Go.by (fun _ => XS.aload X30.here hx rfl (hb hby at_357) rfl rfl) ?_
                          show Go p.tables e below _ (T30.setTop (mkF m 359 #[.val (.int p0), .val (.int p1), .val (.int p2), .val (.int p3), .val (.int p4), .val (.int r1), .val (.int x6), .val (.int y7), .val (.int fl), .val (.int n9), .val (.int x10), .val (.int y11), .val (.int i12), .val (.int i13), .val (.int m14), .val (.int z15), .val (.int z16), .val (.ref r10), .val (.ref r12), .val (.ref b14), .val (.ref b21), .val (.int e21), .val (.int e22)] [(.ref b14), (.ref b21)]))
                          obtain ⟨v32, T32, h32, X32, q32, xs32, st32⟩ := X30.callV hx hZ f0n (y := (⟨"com/example/interlace/interlace/Column", "holdsAlike", "(Lcom/example/interlace/interlace/Column;)Z"⟩ : MethodName)) (z := (⟨"com/example/interlace/interlace/Column", "holdsAlike", "(Lcom/example/interlace/interlace/Column;)Z"⟩ : MethodName)) hown (tw hw 77 rfl) (tw hw 78 rfl) (fun _ hZ => notFace_of_selects (args := #[]) (mvT hZ (tw hw 80 rfl))) (tw hw 80 rfl) (tw hw 79 rfl) (tw hw 15 rfl) (tw hw 81 rfl) (by decide) (rm14 l Z a0 hw [] b21 b14 cs r23 r16 d23 d16 t25 t18 kc23 kc16 (nmN n9) (nmN r1) (nmB x10 y11) (nmB x6 y7) m14 p3 h26 n0 Zs27 f27_340 S_CS0 hcs Ex26 Fn26 Ft26 Fm26 f27_351 f27_352 f27_353 f27_354 f27_341 f27_347 f27_348 f27_349 f27_342 f27_343 f27_344 f27_345) Ex26 (g := (mkF m 359 #[.val (.int p0), .val (.int p1), .val (.int p2), .val (.int p3), .val (.int p4), .val (.int r1), .val (.int x6), .val (.int y7), .val (.int fl), .val (.int n9), .val (.int x10), .val (.int y11), .val (.int i12), .val (.int i13), .val (.int m14), .val (.int z15), .val (.int z16), .val (.ref r10), .val (.ref r12), .val (.ref b14), .val (.ref b21), .val (.int e21), .val (.int e22)] [(.ref b14), (.ref b21)])) rfl (by rw [hml]; rfl) (argsL := [(.ref b14)]) (rest := []) (lenOf pd21 rfl) rfl (hb hby at_359) rfl (by decide) (Nat.le_of_ble_eq_true rfl) (k' := 20) (n' := 46) rfl rfl (by decide) (by decide)
                          refine Go.by st32 ?_
                          rcases q32 with ⟨⟨hq32, rfl⟩ | ⟨hq32, rfl⟩, rfl⟩
                          · skip
                            show Go p.tables e below _ (T32.setTop (mkF m 362 #[.val (.int p0), .val (.int p1), .val (.int p2), .val (.int p3), .val (.int p4), .val (.int r1), .val (.int x6), .val (.int y7), .val (.int fl), .val (.int n9), .val (.int x10), .val (.int y11), .val (.int i12), .val (.int i13), .val (.int m14), .val (.int z15), .val (.int z16), .val (.ref r10), .val (.ref r12), .val (.ref b14), .val (.ref b21), .val (.int e21), .val (.int e22)] [(.int (1 : Int32))]))
                            refine Go.by (fun _ => XS.iload X32.here hx rfl (hb hby at_362) rfl) ?_
                            show Go p.tables e below _ (T32.setTop (mkF m 364 #[.val (.int p0), .val (.int p1), .val (.int p2), .val (.int p3), .val (.int p4), .val (.int r1), .val (.int x6), .val (.int y7), .val (.int fl), .val (.int n9), .val (.int x10), .val (.int y11), .val (.int i12), .val (.int i13), .val (.int m14), .val (.int z15), .val (.int z16), .val (.ref r10), .val (.ref r12), .val (.ref b14), .val (.ref b21), .val (.int e21), .val (.int e22)] [(.int e22), (.int (1 : Int32))]))
                            by_cases hc364_33 : (1 : Int32) = e22
                            · skip
                              refine Go.by (fun _ => XS.icmpNo X32.here hx rfl (hb hby at_364) rfl (teq hc364_33).2) ?_
                              show Go p.tables e below _ (T32.setTop (mkF m 367 #[.val (.int p0), .val (.int p1), .val (.int p2), .val (.int p3), .val (.int p4), .val (.int r1), .val (.int x6), .val (.int y7), .val (.int fl), .val (.int n9), .val (.int x10), .val (.int y11), .val (.int i12), .val (.int i13), .val (.int m14), .val (.int z15), .val (.int z16), .val (.ref r10), .val (.ref r12), .val (.ref b14), .val (.ref b21), .val (.int e21), .val (.int e22)] []))
                              refine Go.by (fun _ => XS.iconst X32.here hx rfl (hb hby at_367)) ?_
                              show Go p.tables e below _ (T32.setTop (mkF m 368 #[.val (.int p0), .val (.int p1), .val (.int p2), .val (.int p3), .val (.int p4), .val (.int r1), .val (.int x6), .val (.int y7), .val (.int fl), .val (.int n9), .val (.int x10), .val (.int y11), .val (.int i12), .val (.int i13), .val (.int m14), .val (.int z15), .val (.int z16), .val (.ref r10), .val (.ref r12), .val (.ref b14), .val (.ref b21), .val (.int e21), .val (.int e22)] [(.int (1 : Int32))]))
                              refine Go.by (fun _ => XS.goto X32.here hx rfl (pc0 := 368) (pc' := 372) rfl (hb hby at_368) (by decide) (by decide)) ?_
                              show Go p.tables e below _ (T32.setTop (mkF m 372 #[.val (.int p0), .val (.int p1), .val (.int p2), .val (.int p3), .val (.int p4), .val (.int r1), .val (.int x6), .val (.int y7), .val (.int fl), .val (.int n9), .val (.int x10), .val (.int y11), .val (.int i12), .val (.int i13), .val (.int m14), .val (.int z15), .val (.int z16), .val (.ref r10), .val (.ref r12), .val (.ref b14), .val (.ref b21), .val (.int e21), .val (.int e22)] [(.int (1 : Int32))]))
                              exact Go.retN X32 hx hlk (z' := (1 : Int32)) hret (by simp) (hb hby at_372) rfl (by decide) (by decide) (fun _ z => z.elim) rfl
                            · skip
                              refine Go.by (fun _ => XS.icmpYes X32.here hx rfl (pc0 := 364) (pc' := 371) rfl (hb hby at_364) rfl (feq hc364_33).2 (by decide) (by decide)) ?_
                              show Go p.tables e below _ (T32.setTop (mkF m 371 #[.val (.int p0), .val (.int p1), .val (.int p2), .val (.int p3), .val (.int p4), .val (.int r1), .val (.int x6), .val (.int y7), .val (.int fl), .val (.int n9), .val (.int x10), .val (.int y11), .val (.int i12), .val (.int i13), .val (.int m14), .val (.int z15), .val (.int z16), .val (.ref r10), .val (.ref r12), .val (.ref b14), .val (.ref b21), .val (.int e21), .val (.int e22)] []))
                              refine Go.by (fun _ => XS.iconst X32.here hx rfl (hb hby at_371)) ?_
                              show Go p.tables e below _ (T32.setTop (mkF m 372 #[.val (.int p0), .val (.int p1), .val (.int p2), .val (.int p3), .val (.int p4), .val (.int r1), .val (.int x6), .val (.int y7), .val (.int fl), .val (.int n9), .val (.int x10), .val (.int y11), .val (.int i12), .val (.int i13), .val (.int m14), .val (.int z15), .val (.int z16), .val (.ref r10), .val (.ref r12), .val (.ref b14), .val (.ref b21), .val (.int e21), .val (.int e22)] [(.int (0 : Int32))]))
                              refine Go.retN X32 hx hlk (z' := (0 : Int32)) hret (by simp) (hb hby at_372) rfl (by decide) (by decide) (fun _ z => z.elim) ?_
                              exact absurd ((hj29.resolve_right fun q => q.2 (key2.mp hq32)).1).symm hc364_33
                          · skip
                            show Go p.tables e below _ (T32.setTop (mkF m 362 #[.val (.int p0), .val (.int p1), .val (.int p2), .val (.int p3), .val (.int p4), .val (.int r1), .val (.int x6), .val (.int y7), .val (.int fl), .val (.int n9), .val (.int x10), .val (.int y11), .val (.int i12), .val (.int i13), .val (.int m14), .val (.int z15), .val (.int z16), .val (.ref r10), .val (.ref r12), .val (.ref b14), .val (.ref b21), .val (.int e21), .val (.int e22)] [(.int (0 : Int32))]))
                            refine Go.by (fun _ => XS.iload X32.here hx rfl (hb hby at_362) rfl) ?_
                            show Go p.tables e below _ (T32.setTop (mkF m 364 #[.val (.int p0), .val (.int p1), .val (.int p2), .val (.int p3), .val (.int p4), .val (.int r1), .val (.int x6), .val (.int y7), .val (.int fl), .val (.int n9), .val (.int x10), .val (.int y11), .val (.int i12), .val (.int i13), .val (.int m14), .val (.int z15), .val (.int z16), .val (.ref r10), .val (.ref r12), .val (.ref b14), .val (.ref b21), .val (.int e21), .val (.int e22)] [(.int e22), (.int (0 : Int32))]))
                            by_cases hc364_34 : (0 : Int32) = e22
                            · skip
                              refine Go.by (fun _ => XS.icmpNo X32.here hx rfl (hb hby at_364) rfl (teq hc364_34).2) ?_
                              show Go p.tables e below _ (T32.setTop (mkF m 367 #[.val (.int p0), .val (.int p1), .val (.int p2), .val (.int p3), .val (.int p4), .val (.int r1), .val (.int x6), .val (.int y7), .val (.int fl), .val (.int n9), .val (.int x10), .val (.int y11), .val (.int i12), .val (.int i13), .val (.int m14), .val (.int z15), .val (.int z16), .val (.ref r10), .val (.ref r12), .val (.ref b14), .val (.ref b21), .val (.int e21), .val (.int e22)] []))
                              refine Go.by (fun _ => XS.iconst X32.here hx rfl (hb hby at_367)) ?_
                              show Go p.tables e below _ (T32.setTop (mkF m 368 #[.val (.int p0), .val (.int p1), .val (.int p2), .val (.int p3), .val (.int p4), .val (.int r1), .val (.int x6), .val (.int y7), .val (.int fl), .val (.int n9), .val (.int x10), .val (.int y11), .val (.int i12), .val (.int i13), .val (.int m14), .val (.int z15), .val (.int z16), .val (.ref r10), .val (.ref r12), .val (.ref b14), .val (.ref b21), .val (.int e21), .val (.int e22)] [(.int (1 : Int32))]))
                              refine Go.by (fun _ => XS.goto X32.here hx rfl (pc0 := 368) (pc' := 372) rfl (hb hby at_368) (by decide) (by decide)) ?_
                              show Go p.tables e below _ (T32.setTop (mkF m 372 #[.val (.int p0), .val (.int p1), .val (.int p2), .val (.int p3), .val (.int p4), .val (.int r1), .val (.int x6), .val (.int y7), .val (.int fl), .val (.int n9), .val (.int x10), .val (.int y11), .val (.int i12), .val (.int i13), .val (.int m14), .val (.int z15), .val (.int z16), .val (.ref r10), .val (.ref r12), .val (.ref b14), .val (.ref b21), .val (.int e21), .val (.int e22)] [(.int (1 : Int32))]))
                              exact Go.retN X32 hx hlk (z' := (1 : Int32)) hret (by simp) (hb hby at_372) rfl (by decide) (by decide) (fun _ z => z.elim) rfl
                            · skip
                              refine Go.by (fun _ => XS.icmpYes X32.here hx rfl (pc0 := 364) (pc' := 371) rfl (hb hby at_364) rfl (feq hc364_34).2 (by decide) (by decide)) ?_
                              show Go p.tables e below _ (T32.setTop (mkF m 371 #[.val (.int p0), .val (.int p1), .val (.int p2), .val (.int p3), .val (.int p4), .val (.int r1), .val (.int x6), .val (.int y7), .val (.int fl), .val (.int n9), .val (.int x10), .val (.int y11), .val (.int i12), .val (.int i13), .val (.int m14), .val (.int z15), .val (.int z16), .val (.ref r10), .val (.ref r12), .val (.ref b14), .val (.ref b21), .val (.int e21), .val (.int e22)] []))
                              refine Go.by (fun _ => XS.iconst X32.here hx rfl (hb hby at_371)) ?_
                              show Go p.tables e below _ (T32.setTop (mkF m 372 #[.val (.int p0), .val (.int p1), .val (.int p2), .val (.int p3), .val (.int p4), .val (.int r1), .val (.int x6), .val (.int y7), .val (.int fl), .val (.int n9), .val (.int x10), .val (.int y11), .val (.int i12), .val (.int i13), .val (.int m14), .val (.int z15), .val (.int z16), .val (.ref r10), .val (.ref r12), .val (.ref b14), .val (.ref b21), .val (.int e21), .val (.int e22)] [(.int (0 : Int32))]))
                              refine Go.retN X32 hx hlk (z' := (0 : Int32)) hret (by simp) (hb hby at_372) rfl (by decide) (by decide) (fun _ z => z.elim) ?_
                              exact absurd ((hj29.resolve_left fun q => hq32 (key2.mpr q.2)).1).symm hc364_34
                        · skip
                          refine Go.by (fun _ => XS.icmpYes X30.here hx rfl (pc0 := 352) (pc' := 371) rfl (hb hby at_352) rfl (feq hc352_31).2 (by decide) (by decide)) ?_
                          show Go p.tables e below _ (T30.setTop (mkF m 371 #[.val (.int p0), .val (.int p1), .val (.int p2), .val (.int p3), .val (.int p4), .val (.int r1), .val (.int x6), .val (.int y7), .val (.int fl), .val (.int n9), .val (.int x10), .val (.int y11), .val (.int i12), .val (.int i13), .val (.int m14), .val (.int z15), .val (.int z16), .val (.ref r10), .val (.ref r12), .val (.ref b14), .val (.ref b21), .val (.int e21), .val (.int e22)] []))
                          refine Go.by (fun _ => XS.iconst X30.here hx rfl (hb hby at_371)) ?_
                          show Go p.tables e below _ (T30.setTop (mkF m 372 #[.val (.int p0), .val (.int p1), .val (.int p2), .val (.int p3), .val (.int p4), .val (.int r1), .val (.int x6), .val (.int y7), .val (.int fl), .val (.int n9), .val (.int x10), .val (.int y11), .val (.int i12), .val (.int i13), .val (.int m14), .val (.int z15), .val (.int z16), .val (.ref r10), .val (.ref r12), .val (.ref b14), .val (.ref b21), .val (.int e21), .val (.int e22)] [(.int (0 : Int32))]))
                          refine Go.retN X30 hx hlk (z' := (0 : Int32)) hret (by simp) (hb hby at_372) rfl (by decide) (by decide) (fun _ z => z.elim) ?_
                          exact absurd ((hj29.resolve_right fun q => q.2 (key1.mp hq30)).1).symm hc352_31
                      · skip
                        show Go p.tables e below _ (T30.setTop (mkF m 350 #[.val (.int p0), .val (.int p1), .val (.int p2), .val (.int p3), .val (.int p4), .val (.int r1), .val (.int x6), .val (.int y7), .val (.int fl), .val (.int n9), .val (.int x10), .val (.int y11), .val (.int i12), .val (.int i13), .val (.int m14), .val (.int z15), .val (.int z16), .val (.ref r10), .val (.ref r12), .val (.ref b14), .val (.ref b21), .val (.int e21), .val (.int e22)] [(.int (0 : Int32))]))
                        refine Go.by (fun _ => XS.iload X30.here hx rfl (hb hby at_350) rfl) ?_
                        show Go p.tables e below _ (T30.setTop (mkF m 352 #[.val (.int p0), .val (.int p1), .val (.int p2), .val (.int p3), .val (.int p4), .val (.int r1), .val (.int x6), .val (.int y7), .val (.int fl), .val (.int n9), .val (.int x10), .val (.int y11), .val (.int i12), .val (.int i13), .val (.int m14), .val (.int z15), .val (.int z16), .val (.ref r10), .val (.ref r12), .val (.ref b14), .val (.ref b21), .val (.int e21), .val (.int e22)] [(.int e22), (.int (0 : Int32))]))
                        by_cases hc352_35 : (0 : Int32) = e22
                        · skip
                          refine Go.by (fun _ => XS.icmpNo X30.here hx rfl (hb hby at_352) rfl (teq hc352_35).2) ?_
                          show Go p.tables e below _ (T30.setTop (mkF m 355 #[.val (.int p0), .val (.int p1), .val (.int p2), .val (.int p3), .val (.int p4), .val (.int r1), .val (.int x6), .val (.int y7), .val (.int fl), .val (.int n9), .val (.int x10), .val (.int y11), .val (.int i12), .val (.int i13), .val (.int m14), .val (.int z15), .val (.int z16), .val (.ref r10), .val (.ref r12), .val (.ref b14), .val (.ref b21), .val (.int e21), .val (.int e22)] []))
                          refine Go.by (fun _ => XS.aload X30.here hx rfl (hb hby at_355) rfl rfl) ?_
                          show Go p.tables e below _ (T30.setTop (mkF m 357 #[.val (.int p0), .val (.int p1), .val (.int p2), .val (.int p3), .val (.int p4), .val (.int r1), .val (.int x6), .val (.int y7), .val (.int fl), .val (.int n9), .val (.int x10), .val (.int y11), .val (.int i12), .val (.int i13), .val (.int m14), .val (.int z15), .val (.int z16), .val (.ref r10), .val (.ref r12), .val (.ref b14), .val (.ref b21), .val (.int e21), .val (.int e22)] [(.ref b21)]))
                          refine Go.by (fun _ => XS.aload X30.here hx rfl (hb hby at_357) rfl rfl) ?_
                          show Go p.tables e below _ (T30.setTop (mkF m 359 #[.val (.int p0), .val (.int p1), .val (.int p2), .val (.int p3), .val (.int p4), .val (.int r1), .val (.int x6), .val (.int y7), .val (.int fl), .val (.int n9), .val (.int x10), .val (.int y11), .val (.int i12), .val (.int i13), .val (.int m14), .val (.int z15), .val (.int z16), .val (.ref r10), .val (.ref r12), .val (.ref b14), .val (.ref b21), .val (.int e21), .val (.int e22)] [(.ref b14), (.ref b21)]))
                          obtain ⟨v36, T36, h36, X36, q36, xs36, st36⟩ := X30.callV hx hZ f0n (y := (⟨"com/example/interlace/interlace/Column", "holdsAlike", "(Lcom/example/interlace/interlace/Column;)Z"⟩ : MethodName)) (z := (⟨"com/example/interlace/interlace/Column", "holdsAlike", "(Lcom/example/interlace/interlace/Column;)Z"⟩ : MethodName)) hown (tw hw 77 rfl) (tw hw 78 rfl) (fun _ hZ => notFace_of_selects (args := #[]) (mvT hZ (tw hw 80 rfl))) (tw hw 80 rfl) (tw hw 79 rfl) (tw hw 15 rfl) (tw hw 81 rfl) (by decide) (rm14 l Z a0 hw [] b21 b14 cs r23 r16 d23 d16 t25 t18 kc23 kc16 (nmN n9) (nmN r1) (nmB x10 y11) (nmB x6 y7) m14 p3 h26 n0 Zs27 f27_340 S_CS0 hcs Ex26 Fn26 Ft26 Fm26 f27_351 f27_352 f27_353 f27_354 f27_341 f27_347 f27_348 f27_349 f27_342 f27_343 f27_344 f27_345) Ex26 (g := (mkF m 359 #[.val (.int p0), .val (.int p1), .val (.int p2), .val (.int p3), .val (.int p4), .val (.int r1), .val (.int x6), .val (.int y7), .val (.int fl), .val (.int n9), .val (.int x10), .val (.int y11), .val (.int i12), .val (.int i13), .val (.int m14), .val (.int z15), .val (.int z16), .val (.ref r10), .val (.ref r12), .val (.ref b14), .val (.ref b21), .val (.int e21), .val (.int e22)] [(.ref b14), (.ref b21)])) rfl (by rw [hml]; rfl) (argsL := [(.ref b14)]) (rest := []) (lenOf pd21 rfl) rfl (hb hby at_359) rfl (by decide) (Nat.le_of_ble_eq_true rfl) (k' := 20) (n' := 46) rfl rfl (by decide) (by decide)
                          refine Go.by st36 ?_
                          rcases q36 with ⟨⟨hq36, rfl⟩ | ⟨hq36, rfl⟩, rfl⟩
                          · skip
                            show Go p.tables e below _ (T36.setTop (mkF m 362 #[.val (.int p0), .val (.int p1), .val (.int p2), .val (.int p3), .val (.int p4), .val (.int r1), .val (.int x6), .val (.int y7), .val (.int fl), .val (.int n9), .val (.int x10), .val (.int y11), .val (.int i12), .val (.int i13), .val (.int m14), .val (.int z15), .val (.int z16), .val (.ref r10), .val (.ref r12), .val (.ref b14), .val (.ref b21), .val (.int e21), .val (.int e22)] [(.int (1 : Int32))]))
                            refine Go.by (fun _ => XS.iload X36.here hx rfl (hb hby at_362) rfl) ?_
                            show Go p.tables e below _ (T36.setTop (mkF m 364 #[.val (.int p0), .val (.int p1), .val (.int p2), .val (.int p3), .val (.int p4), .val (.int r1), .val (.int x6), .val (.int y7), .val (.int fl), .val (.int n9), .val (.int x10), .val (.int y11), .val (.int i12), .val (.int i13), .val (.int m14), .val (.int z15), .val (.int z16), .val (.ref r10), .val (.ref r12), .val (.ref b14), .val (.ref b21), .val (.int e21), .val (.int e22)] [(.int e22), (.int (1 : Int32))]))
                            by_cases hc364_37 : (1 : Int32) = e22
                            · skip
                              refine Go.by (fun _ => XS.icmpNo X36.here hx rfl (hb hby at_364) rfl (teq hc364_37).2) ?_
                              show Go p.tables e below _ (T36.setTop (mkF m 367 #[.val (.int p0), .val (.int p1), .val (.int p2), .val (.int p3), .val (.int p4), .val (.int r1), .val (.int x6), .val (.int y7), .val (.int fl), .val (.int n9), .val (.int x10), .val (.int y11), .val (.int i12), .val (.int i13), .val (.int m14), .val (.int z15), .val (.int z16), .val (.ref r10), .val (.ref r12), .val (.ref b14), .val (.ref b21), .val (.int e21), .val (.int e22)] []))
                              refine Go.by (fun _ => XS.iconst X36.here hx rfl (hb hby at_367)) ?_
                              show Go p.tables e below _ (T36.setTop (mkF m 368 #[.val (.int p0), .val (.int p1), .val (.int p2), .val (.int p3), .val (.int p4), .val (.int r1), .val (.int x6), .val (.int y7), .val (.int fl), .val (.int n9), .val (.int x10), .val (.int y11), .val (.int i12), .val (.int i13), .val (.int m14), .val (.int z15), .val (.int z16), .val (.ref r10), .val (.ref r12), .val (.ref b14), .val (.ref b21), .val (.int e21), .val (.int e22)] [(.int (1 : Int32))]))
                              refine Go.by (fun _ => XS.goto X36.here hx rfl (pc0 := 368) (pc' := 372) rfl (hb hby at_368) (by decide) (by decide)) ?_
                              show Go p.tables e below _ (T36.setTop (mkF m 372 #[.val (.int p0), .val (.int p1), .val (.int p2), .val (.int p3), .val (.int p4), .val (.int r1), .val (.int x6), .val (.int y7), .val (.int fl), .val (.int n9), .val (.int x10), .val (.int y11), .val (.int i12), .val (.int i13), .val (.int m14), .val (.int z15), .val (.int z16), .val (.ref r10), .val (.ref r12), .val (.ref b14), .val (.ref b21), .val (.int e21), .val (.int e22)] [(.int (1 : Int32))]))
                              exact Go.retN X36 hx hlk (z' := (1 : Int32)) hret (by simp) (hb hby at_372) rfl (by decide) (by decide) (fun _ z => z.elim) rfl
                            · skip
                              refine Go.by (fun _ => XS.icmpYes X36.here hx rfl (pc0 := 364) (pc' := 371) rfl (hb hby at_364) rfl (feq hc364_37).2 (by decide) (by decide)) ?_
                              show Go p.tables e below _ (T36.setTop (mkF m 371 #[.val (.int p0), .val (.int p1), .val (.int p2), .val (.int p3), .val (.int p4), .val (.int r1), .val (.int x6), .val (.int y7), .val (.int fl), .val (.int n9), .val (.int x10), .val (.int y11), .val (.int i12), .val (.int i13), .val (.int m14), .val (.int z15), .val (.int z16), .val (.ref r10), .val (.ref r12), .val (.ref b14), .val (.ref b21), .val (.int e21), .val (.int e22)] []))
                              refine Go.by (fun _ => XS.iconst X36.here hx rfl (hb hby at_371)) ?_
                              show Go p.tables e below _ (T36.setTop (mkF m 372 #[.val (.int p0), .val (.int p1), .val (.int p2), .val (.int p3), .val (.int p4), .val (.int r1), .val (.int x6), .val (.int y7), .val (.int fl), .val (.int n9), .val (.int x10), .val (.int y11), .val (.int i12), .val (.int i13), .val (.int m14), .val (.int z15), .val (.int z16), .val (.ref r10), .val (.ref r12), .val (.ref b14), .val (.ref b21), .val (.int e21), .val (.int e22)] [(.int (0 : Int32))]))
                              refine Go.retN X36 hx hlk (z' := (0 : Int32)) hret (by simp) (hb hby at_372) rfl (by decide) (by decide) (fun _ z => z.elim) ?_
                              exact absurd ((hj29.resolve_right fun q => q.2 (key2.mp hq36)).1).symm hc364_37
                          · skip
                            show Go p.tables e below _ (T36.setTop (mkF m 362 #[.val (.int p0), .val (.int p1), .val (.int p2), .val (.int p3), .val (.int p4), .val (.int r1), .val (.int x6), .val (.int y7), .val (.int fl), .val (.int n9), .val (.int x10), .val (.int y11), .val (.int i12), .val (.int i13), .val (.int m14), .val (.int z15), .val (.int z16), .val (.ref r10), .val (.ref r12), .val (.ref b14), .val (.ref b21), .val (.int e21), .val (.int e22)] [(.int (0 : Int32))]))
                            refine Go.by (fun _ => XS.iload X36.here hx rfl (hb hby at_362) rfl) ?_
                            show Go p.tables e below _ (T36.setTop (mkF m 364 #[.val (.int p0), .val (.int p1), .val (.int p2), .val (.int p3), .val (.int p4), .val (.int r1), .val (.int x6), .val (.int y7), .val (.int fl), .val (.int n9), .val (.int x10), .val (.int y11), .val (.int i12), .val (.int i13), .val (.int m14), .val (.int z15), .val (.int z16), .val (.ref r10), .val (.ref r12), .val (.ref b14), .val (.ref b21), .val (.int e21), .val (.int e22)] [(.int e22), (.int (0 : Int32))]))
                            by_cases hc364_38 : (0 : Int32) = e22
                            · skip
                              refine Go.by (fun _ => XS.icmpNo X36.here hx rfl (hb hby at_364) rfl (teq hc364_38).2) ?_
                              show Go p.tables e below _ (T36.setTop (mkF m 367 #[.val (.int p0), .val (.int p1), .val (.int p2), .val (.int p3), .val (.int p4), .val (.int r1), .val (.int x6), .val (.int y7), .val (.int fl), .val (.int n9), .val (.int x10), .val (.int y11), .val (.int i12), .val (.int i13), .val (.int m14), .val (.int z15), .val (.int z16), .val (.ref r10), .val (.ref r12), .val (.ref b14), .val (.ref b21), .val (.int e21), .val (.int e22)] []))
                              refine Go.by (fun _ => XS.iconst X36.here hx rfl (hb hby at_367)) ?_
                              show Go p.tables e below _ (T36.setTop (mkF m 368 #[.val (.int p0), .val (.int p1), .val (.int p2), .val (.int p3), .val (.int p4), .val (.int r1), .val (.int x6), .val (.int y7), .val (.int fl), .val (.int n9), .val (.int x10), .val (.int y11), .val (.int i12), .val (.int i13), .val (.int m14), .val (.int z15), .val (.int z16), .val (.ref r10), .val (.ref r12), .val (.ref b14), .val (.ref b21), .val (.int e21), .val (.int e22)] [(.int (1 : Int32))]))
                              refine Go.by (fun _ => XS.goto X36.here hx rfl (pc0 := 368) (pc' := 372) rfl (hb hby at_368) (by decide) (by decide)) ?_
                              show Go p.tables e below _ (T36.setTop (mkF m 372 #[.val (.int p0), .val (.int p1), .val (.int p2), .val (.int p3), .val (.int p4), .val (.int r1), .val (.int x6), .val (.int y7), .val (.int fl), .val (.int n9), .val (.int x10), .val (.int y11), .val (.int i12), .val (.int i13), .val (.int m14), .val (.int z15), .val (.int z16), .val (.ref r10), .val (.ref r12), .val (.ref b14), .val (.ref b21), .val (.int e21), .val (.int e22)] [(.int (1 : Int32))]))
                              exact Go.retN X36 hx hlk (z' := (1 : Int32)) hret (by simp) (hb hby at_372) rfl (by decide) (by decide) (fun _ z => z.elim) rfl
                            · skip
                              refine Go.by (fun _ => XS.icmpYes X36.here hx rfl (pc0 := 364) (pc' := 371) rfl (hb hby at_364) rfl (feq hc364_38).2 (by decide) (by decide)) ?_
                              show Go p.tables e below _ (T36.setTop (mkF m 371 #[.val (.int p0), .val (.int p1), .val (.int p2), .val (.int p3), .val (.int p4), .val (.int r1), .val (.int x6), .val (.int y7), .val (.int fl), .val (.int n9), .val (.int x10), .val (.int y11), .val (.int i12), .val (.int i13), .val (.int m14), .val (.int z15), .val (.int z16), .val (.ref r10), .val (.ref r12), .val (.ref b14), .val (.ref b21), .val (.int e21), .val (.int e22)] []))
                              refine Go.by (fun _ => XS.iconst X36.here hx rfl (hb hby at_371)) ?_
                              show Go p.tables e below _ (T36.setTop (mkF m 372 #[.val (.int p0), .val (.int p1), .val (.int p2), .val (.int p3), .val (.int p4), .val (.int r1), .val (.int x6), .val (.int y7), .val (.int fl), .val (.int n9), .val (.int x10), .val (.int y11), .val (.int i12), .val (.int i13), .val (.int m14), .val (.int z15), .val (.int z16), .val (.ref r10), .val (.ref r12), .val (.ref b14), .val (.ref b21), .val (.int e21), .val (.int e22)] [(.int (0 : Int32))]))
                              refine Go.retN X36 hx hlk (z' := (0 : Int32)) hret (by simp) (hb hby at_372) rfl (by decide) (by decide) (fun _ z => z.elim) ?_
                              exact absurd ((hj29.resolve_left fun q => hq36 (key2.mpr q.2)).1).symm hc364_38
                        · skip
                          refine Go.by (fun _ => XS.icmpYes X30.here hx rfl (pc0 := 352) (pc' := 371) rfl (hb hby at_352) rfl (feq hc352_35).2 (by decide) (by decide)) ?_
                          show Go p.tables e below _ (T30.setTop (mkF m 371 #[.val (.int p0), .val (.int p1), .val (.int p2), .val (.int p3), .val (.int p4), .val (.int r1), .val (.int x6), .val (.int y7), .val (.int fl), .val (.int n9), .val (.int x10), .val (.int y11), .val (.int i12), .val (.int i13), .val (.int m14), .val (.int z15), .val (.int z16), .val (.ref r10), .val (.ref r12), .val (.ref b14), .val (.ref b21), .val (.int e21), .val (.int e22)] []))
                          refine Go.by (fun _ => XS.iconst X30.here hx rfl (hb hby at_371)) ?_
                          show Go p.tables e below _ (T30.setTop (mkF m 372 #[.val (.int p0), .val (.int p1), .val (.int p2), .val (.int p3), .val (.int p4), .val (.int r1), .val (.int x6), .val (.int y7), .val (.int fl), .val (.int n9), .val (.int x10), .val (.int y11), .val (.int i12), .val (.int i13), .val (.int m14), .val (.int z15), .val (.int z16), .val (.ref r10), .val (.ref r12), .val (.ref b14), .val (.ref b21), .val (.int e21), .val (.int e22)] [(.int (0 : Int32))]))
                          refine Go.retN X30 hx hlk (z' := (0 : Int32)) hret (by simp) (hb hby at_372) rfl (by decide) (by decide) (fun _ z => z.elim) ?_
                          exact absurd ((hj29.resolve_left fun q => hq30 (key1.mpr q.2)).1).symm hc352_35
                    by_cases hc320_39 : e21 = (0 : Int32)
                    · skip
                      refine Go.by (fun _ => XS.ifYes Xj28.here hx rfl (pc0 := 320) (pc' := 340) rfl (hb hby at_320) rfl ((if0 _ _).trans (teq hc320_39).1) (by decide) (by decide)) ?_
                      show Go p.tables e below _ (Tj28.setTop (mkF m 340 #[.val (.int p0), .val (.int p1), .val (.int p2), .val (.int p3), .val (.int p4), .val (.int r1), .val (.int x6), .val (.int y7), .val (.int fl), .val (.int n9), .val (.int x10), .val (.int y11), .val (.int i12), .val (.int i13), .val (.int m14), .val (.int z15), .val (.int z16), .val (.ref r10), .val (.ref r12), .val (.ref b14), .val (.ref b21), .val (.int e21), .unset] []))
                      refine Go.by (fun _ => XS.iconst Xj28.here hx rfl (hb hby at_340)) ?_
                      show Go p.tables e below _ (Tj28.setTop (mkF m 341 #[.val (.int p0), .val (.int p1), .val (.int p2), .val (.int p3), .val (.int p4), .val (.int r1), .val (.int x6), .val (.int y7), .val (.int fl), .val (.int n9), .val (.int x10), .val (.int y11), .val (.int i12), .val (.int i13), .val (.int m14), .val (.int z15), .val (.int z16), .val (.ref r10), .val (.ref r12), .val (.ref b14), .val (.ref b21), .val (.int e21), .unset] [(.int (0 : Int32))]))
                      exact J29 _ Xj28 (0 : Int32) (Or.inr ⟨rfl, fun q => hj28.elim (fun z => absurd (z.1.symm.trans hc320_39) (by decide)) (fun z => z.2 q.1)⟩)
                    · skip
                      refine Go.by (fun _ => XS.ifNo Xj28.here hx rfl (hb hby at_320) rfl ((if0 _ _).trans (feq hc320_39).1)) ?_
                      show Go p.tables e below _ (Tj28.setTop (mkF m 323 #[.val (.int p0), .val (.int p1), .val (.int p2), .val (.int p3), .val (.int p4), .val (.int r1), .val (.int x6), .val (.int y7), .val (.int fl), .val (.int n9), .val (.int x10), .val (.int y11), .val (.int i12), .val (.int i13), .val (.int m14), .val (.int z15), .val (.int z16), .val (.ref r10), .val (.ref r12), .val (.ref b14), .val (.ref b21), .val (.int e21), .unset] []))
                      refine Go.by (fun _ => XS.iload Xj28.here hx rfl (hb hby at_323) rfl) ?_
                      show Go p.tables e below _ (Tj28.setTop (mkF m 325 #[.val (.int p0), .val (.int p1), .val (.int p2), .val (.int p3), .val (.int p4), .val (.int r1), .val (.int x6), .val (.int y7), .val (.int fl), .val (.int n9), .val (.int x10), .val (.int y11), .val (.int i12), .val (.int i13), .val (.int m14), .val (.int z15), .val (.int z16), .val (.ref r10), .val (.ref r12), .val (.ref b14), .val (.ref b21), .val (.int e21), .unset] [(.int i12)]))
                      refine Go.by (fun _ => XS.iload Xj28.here hx rfl (hb hby at_325) rfl) ?_
                      show Go p.tables e below _ (Tj28.setTop (mkF m 327 #[.val (.int p0), .val (.int p1), .val (.int p2), .val (.int p3), .val (.int p4), .val (.int r1), .val (.int x6), .val (.int y7), .val (.int fl), .val (.int n9), .val (.int x10), .val (.int y11), .val (.int i12), .val (.int i13), .val (.int m14), .val (.int z15), .val (.int z16), .val (.ref r10), .val (.ref r12), .val (.ref b14), .val (.ref b21), .val (.int e21), .unset] [(.int i13), (.int i12)]))
                      by_cases hc327_40 : i12 = i13
                      · skip
                        refine Go.by (fun _ => XS.icmpNo Xj28.here hx rfl (hb hby at_327) rfl (teq hc327_40).2) ?_
                        show Go p.tables e below _ (Tj28.setTop (mkF m 330 #[.val (.int p0), .val (.int p1), .val (.int p2), .val (.int p3), .val (.int p4), .val (.int r1), .val (.int x6), .val (.int y7), .val (.int fl), .val (.int n9), .val (.int x10), .val (.int y11), .val (.int i12), .val (.int i13), .val (.int m14), .val (.int z15), .val (.int z16), .val (.ref r10), .val (.ref r12), .val (.ref b14), .val (.ref b21), .val (.int e21), .unset] []))
                        refine Go.by (fun _ => XS.iloadN Xj28.here hx rfl (hb hby at_330) rfl) ?_
                        show Go p.tables e below _ (Tj28.setTop (mkF m 331 #[.val (.int p0), .val (.int p1), .val (.int p2), .val (.int p3), .val (.int p4), .val (.int r1), .val (.int x6), .val (.int y7), .val (.int fl), .val (.int n9), .val (.int x10), .val (.int y11), .val (.int i12), .val (.int i13), .val (.int m14), .val (.int z15), .val (.int z16), .val (.ref r10), .val (.ref r12), .val (.ref b14), .val (.ref b21), .val (.int e21), .unset] [(.int p3)]))
                        refine Go.by (fun _ => XS.iload Xj28.here hx rfl (hb hby at_331) rfl) ?_
                        show Go p.tables e below _ (Tj28.setTop (mkF m 333 #[.val (.int p0), .val (.int p1), .val (.int p2), .val (.int p3), .val (.int p4), .val (.int r1), .val (.int x6), .val (.int y7), .val (.int fl), .val (.int n9), .val (.int x10), .val (.int y11), .val (.int i12), .val (.int i13), .val (.int m14), .val (.int z15), .val (.int z16), .val (.ref r10), .val (.ref r12), .val (.ref b14), .val (.ref b21), .val (.int e21), .unset] [(.int m14), (.int p3)]))
                        by_cases hc333_41 : p3 = m14
                        · skip
                          refine Go.by (fun _ => XS.icmpNo Xj28.here hx rfl (hb hby at_333) rfl (teq hc333_41).2) ?_
                          show Go p.tables e below _ (Tj28.setTop (mkF m 336 #[.val (.int p0), .val (.int p1), .val (.int p2), .val (.int p3), .val (.int p4), .val (.int r1), .val (.int x6), .val (.int y7), .val (.int fl), .val (.int n9), .val (.int x10), .val (.int y11), .val (.int i12), .val (.int i13), .val (.int m14), .val (.int z15), .val (.int z16), .val (.ref r10), .val (.ref r12), .val (.ref b14), .val (.ref b21), .val (.int e21), .unset] []))
                          refine Go.by (fun _ => XS.iconst Xj28.here hx rfl (hb hby at_336)) ?_
                          show Go p.tables e below _ (Tj28.setTop (mkF m 337 #[.val (.int p0), .val (.int p1), .val (.int p2), .val (.int p3), .val (.int p4), .val (.int r1), .val (.int x6), .val (.int y7), .val (.int fl), .val (.int n9), .val (.int x10), .val (.int y11), .val (.int i12), .val (.int i13), .val (.int m14), .val (.int z15), .val (.int z16), .val (.ref r10), .val (.ref r12), .val (.ref b14), .val (.ref b21), .val (.int e21), .unset] [(.int (1 : Int32))]))
                          refine Go.by (fun _ => XS.goto Xj28.here hx rfl (pc0 := 337) (pc' := 341) rfl (hb hby at_337) (by decide) (by decide)) ?_
                          show Go p.tables e below _ (Tj28.setTop (mkF m 341 #[.val (.int p0), .val (.int p1), .val (.int p2), .val (.int p3), .val (.int p4), .val (.int r1), .val (.int x6), .val (.int y7), .val (.int fl), .val (.int n9), .val (.int x10), .val (.int y11), .val (.int i12), .val (.int i13), .val (.int m14), .val (.int z15), .val (.int z16), .val (.ref r10), .val (.ref r12), .val (.ref b14), .val (.ref b21), .val (.int e21), .unset] [(.int (1 : Int32))]))
                          exact J29 _ Xj28 (1 : Int32) (Or.inl ⟨rfl, (hj28.resolve_right fun q => hc320_39 q.1).2, hc327_40, hc333_41⟩)
                        · skip
                          refine Go.by (fun _ => XS.icmpYes Xj28.here hx rfl (pc0 := 333) (pc' := 340) rfl (hb hby at_333) rfl (feq hc333_41).2 (by decide) (by decide)) ?_
                          show Go p.tables e below _ (Tj28.setTop (mkF m 340 #[.val (.int p0), .val (.int p1), .val (.int p2), .val (.int p3), .val (.int p4), .val (.int r1), .val (.int x6), .val (.int y7), .val (.int fl), .val (.int n9), .val (.int x10), .val (.int y11), .val (.int i12), .val (.int i13), .val (.int m14), .val (.int z15), .val (.int z16), .val (.ref r10), .val (.ref r12), .val (.ref b14), .val (.ref b21), .val (.int e21), .unset] []))
                          refine Go.by (fun _ => XS.iconst Xj28.here hx rfl (hb hby at_340)) ?_
                          show Go p.tables e below _ (Tj28.setTop (mkF m 341 #[.val (.int p0), .val (.int p1), .val (.int p2), .val (.int p3), .val (.int p4), .val (.int r1), .val (.int x6), .val (.int y7), .val (.int fl), .val (.int n9), .val (.int x10), .val (.int y11), .val (.int i12), .val (.int i13), .val (.int m14), .val (.int z15), .val (.int z16), .val (.ref r10), .val (.ref r12), .val (.ref b14), .val (.ref b21), .val (.int e21), .unset] [(.int (0 : Int32))]))
                          exact J29 _ Xj28 (0 : Int32) (Or.inr ⟨rfl, fun q => hc333_41 q.2.2⟩)
                      · skip
                        refine Go.by (fun _ => XS.icmpYes Xj28.here hx rfl (pc0 := 327) (pc' := 340) rfl (hb hby at_327) rfl (feq hc327_40).2 (by decide) (by decide)) ?_
                        show Go p.tables e below _ (Tj28.setTop (mkF m 340 #[.val (.int p0), .val (.int p1), .val (.int p2), .val (.int p3), .val (.int p4), .val (.int r1), .val (.int x6), .val (.int y7), .val (.int fl), .val (.int n9), .val (.int x10), .val (.int y11), .val (.int i12), .val (.int i13), .val (.int m14), .val (.int z15), .val (.int z16), .val (.ref r10), .val (.ref r12), .val (.ref b14), .val (.ref b21), .val (.int e21), .unset] []))
                        refine Go.by (fun _ => XS.iconst Xj28.here hx rfl (hb hby at_340)) ?_
                        show Go p.tables e below _ (Tj28.setTop (mkF m 341 #[.val (.int p0), .val (.int p1), .val (.int p2), .val (.int p3), .val (.int p4), .val (.int r1), .val (.int x6), .val (.int y7), .val (.int fl), .val (.int n9), .val (.int x10), .val (.int y11), .val (.int i12), .val (.int i13), .val (.int m14), .val (.int z15), .val (.int z16), .val (.ref r10), .val (.ref r12), .val (.ref b14), .val (.ref b21), .val (.int e21), .unset] [(.int (0 : Int32))]))
                        exact J29 _ Xj28 (0 : Int32) (Or.inr ⟨rfl, fun q => hc327_40 q.2.1⟩)
                  by_cases hc282_42 : r1 = n9
                  · skip
                    refine Go.by (fun _ => XS.icmpNo X26.here hx rfl (hb hby at_282) rfl (teq hc282_42).2) ?_
                    show Go p.tables e below _ (T26.setTop (mkF m 285 #[.val (.int p0), .val (.int p1), .val (.int p2), .val (.int p3), .val (.int p4), .val (.int r1), .val (.int x6), .val (.int y7), .val (.int fl), .val (.int n9), .val (.int x10), .val (.int y11), .val (.int i12), .val (.int i13), .val (.int m14), .val (.int z15), .val (.int z16), .val (.ref r10), .val (.ref r12), .val (.ref b14), .val (.ref b21), .unset, .unset] []))
                    refine Go.by (fun _ => XS.iload X26.here hx rfl (hb hby at_285) rfl) ?_
                    show Go p.tables e below _ (T26.setTop (mkF m 287 #[.val (.int p0), .val (.int p1), .val (.int p2), .val (.int p3), .val (.int p4), .val (.int r1), .val (.int x6), .val (.int y7), .val (.int fl), .val (.int n9), .val (.int x10), .val (.int y11), .val (.int i12), .val (.int i13), .val (.int m14), .val (.int z15), .val (.int z16), .val (.ref r10), .val (.ref r12), .val (.ref b14), .val (.ref b21), .unset, .unset] [(.int r1)]))
                    refine Go.by (fun _ => XS.iconst X26.here hx rfl (hb hby at_287)) ?_
                    show Go p.tables e below _ (T26.setTop (mkF m 288 #[.val (.int p0), .val (.int p1), .val (.int p2), .val (.int p3), .val (.int p4), .val (.int r1), .val (.int x6), .val (.int y7), .val (.int fl), .val (.int n9), .val (.int x10), .val (.int y11), .val (.int i12), .val (.int i13), .val (.int m14), .val (.int z15), .val (.int z16), .val (.ref r10), .val (.ref r12), .val (.ref b14), .val (.ref b21), .unset, .unset] [(.int (1 : Int32)), (.int r1)]))
                    by_cases hc288_43 : r1 < (1 : Int32)
                    · skip
                      refine Go.by (fun _ => XS.icmpYes X26.here hx rfl (pc0 := 288) (pc' := 298) rfl (hb hby at_288) rfl (tlt hc288_43).1 (by decide) (by decide)) ?_
                      show Go p.tables e below _ (T26.setTop (mkF m 298 #[.val (.int p0), .val (.int p1), .val (.int p2), .val (.int p3), .val (.int p4), .val (.int r1), .val (.int x6), .val (.int y7), .val (.int fl), .val (.int n9), .val (.int x10), .val (.int y11), .val (.int i12), .val (.int i13), .val (.int m14), .val (.int z15), .val (.int z16), .val (.ref r10), .val (.ref r12), .val (.ref b14), .val (.ref b21), .unset, .unset] []))
                      refine Go.by (fun _ => XS.iload X26.here hx rfl (hb hby at_298) rfl) ?_
                      show Go p.tables e below _ (T26.setTop (mkF m 300 #[.val (.int p0), .val (.int p1), .val (.int p2), .val (.int p3), .val (.int p4), .val (.int r1), .val (.int x6), .val (.int y7), .val (.int fl), .val (.int n9), .val (.int x10), .val (.int y11), .val (.int i12), .val (.int i13), .val (.int m14), .val (.int z15), .val (.int z16), .val (.ref r10), .val (.ref r12), .val (.ref b14), .val (.ref b21), .unset, .unset] [(.int r1)]))
                      refine Go.by (fun _ => XS.iconst X26.here hx rfl (hb hby at_300)) ?_
                      show Go p.tables e below _ (T26.setTop (mkF m 301 #[.val (.int p0), .val (.int p1), .val (.int p2), .val (.int p3), .val (.int p4), .val (.int r1), .val (.int x6), .val (.int y7), .val (.int fl), .val (.int n9), .val (.int x10), .val (.int y11), .val (.int i12), .val (.int i13), .val (.int m14), .val (.int z15), .val (.int z16), .val (.ref r10), .val (.ref r12), .val (.ref b14), .val (.ref b21), .unset, .unset] [(.int (2 : Int32)), (.int r1)]))
                      by_cases hc301_44 : r1 < (2 : Int32)
                      · skip
                        refine Go.by (fun _ => XS.icmpYes X26.here hx rfl (pc0 := 301) (pc' := 311) rfl (hb hby at_301) rfl (tlt hc301_44).1 (by decide) (by decide)) ?_
                        show Go p.tables e below _ (T26.setTop (mkF m 311 #[.val (.int p0), .val (.int p1), .val (.int p2), .val (.int p3), .val (.int p4), .val (.int r1), .val (.int x6), .val (.int y7), .val (.int fl), .val (.int n9), .val (.int x10), .val (.int y11), .val (.int i12), .val (.int i13), .val (.int m14), .val (.int z15), .val (.int z16), .val (.ref r10), .val (.ref r12), .val (.ref b14), .val (.ref b21), .unset, .unset] []))
                        refine Go.by (fun _ => XS.iconst X26.here hx rfl (hb hby at_311)) ?_
                        show Go p.tables e below _ (T26.setTop (mkF m 312 #[.val (.int p0), .val (.int p1), .val (.int p2), .val (.int p3), .val (.int p4), .val (.int r1), .val (.int x6), .val (.int y7), .val (.int fl), .val (.int n9), .val (.int x10), .val (.int y11), .val (.int i12), .val (.int i13), .val (.int m14), .val (.int z15), .val (.int z16), .val (.ref r10), .val (.ref r12), .val (.ref b14), .val (.ref b21), .unset, .unset] [(.int (1 : Int32))]))
                        refine Go.by (fun _ => XS.goto X26.here hx rfl (pc0 := 312) (pc' := 316) rfl (hb hby at_312) (by decide) (by decide)) ?_
                        show Go p.tables e below _ (T26.setTop (mkF m 316 #[.val (.int p0), .val (.int p1), .val (.int p2), .val (.int p3), .val (.int p4), .val (.int r1), .val (.int x6), .val (.int y7), .val (.int fl), .val (.int n9), .val (.int x10), .val (.int y11), .val (.int i12), .val (.int i13), .val (.int m14), .val (.int z15), .val (.int z16), .val (.ref r10), .val (.ref r12), .val (.ref b14), .val (.ref b21), .unset, .unset] [(.int (1 : Int32))]))
                        exact J28 _ X26 (1 : Int32) (Or.inl ⟨rfl, hc282_42, Or.inl hc288_43, Or.inl hc301_44⟩)
                      · skip
                        refine Go.by (fun _ => XS.icmpNo X26.here hx rfl (hb hby at_301) rfl (flt hc301_44).1) ?_
                        show Go p.tables e below _ (T26.setTop (mkF m 304 #[.val (.int p0), .val (.int p1), .val (.int p2), .val (.int p3), .val (.int p4), .val (.int r1), .val (.int x6), .val (.int y7), .val (.int fl), .val (.int n9), .val (.int x10), .val (.int y11), .val (.int i12), .val (.int i13), .val (.int m14), .val (.int z15), .val (.int z16), .val (.ref r10), .val (.ref r12), .val (.ref b14), .val (.ref b21), .unset, .unset] []))
                        refine Go.by (fun _ => XS.iload X26.here hx rfl (hb hby at_304) rfl) ?_
                        show Go p.tables e below _ (T26.setTop (mkF m 306 #[.val (.int p0), .val (.int p1), .val (.int p2), .val (.int p3), .val (.int p4), .val (.int r1), .val (.int x6), .val (.int y7), .val (.int fl), .val (.int n9), .val (.int x10), .val (.int y11), .val (.int i12), .val (.int i13), .val (.int m14), .val (.int z15), .val (.int z16), .val (.ref r10), .val (.ref r12), .val (.ref b14), .val (.ref b21), .unset, .unset] [(.int y7)]))
                        refine Go.by (fun _ => XS.iload X26.here hx rfl (hb hby at_306) rfl) ?_
                        show Go p.tables e below _ (T26.setTop (mkF m 308 #[.val (.int p0), .val (.int p1), .val (.int p2), .val (.int p3), .val (.int p4), .val (.int r1), .val (.int x6), .val (.int y7), .val (.int fl), .val (.int n9), .val (.int x10), .val (.int y11), .val (.int i12), .val (.int i13), .val (.int m14), .val (.int z15), .val (.int z16), .val (.ref r10), .val (.ref r12), .val (.ref b14), .val (.ref b21), .unset, .unset] [(.int y11), (.int y7)]))
                        by_cases hc308_45 : y7 = y11
                        · skip
                          refine Go.by (fun _ => XS.icmpNo X26.here hx rfl (hb hby at_308) rfl (teq hc308_45).2) ?_
                          show Go p.tables e below _ (T26.setTop (mkF m 311 #[.val (.int p0), .val (.int p1), .val (.int p2), .val (.int p3), .val (.int p4), .val (.int r1), .val (.int x6), .val (.int y7), .val (.int fl), .val (.int n9), .val (.int x10), .val (.int y11), .val (.int i12), .val (.int i13), .val (.int m14), .val (.int z15), .val (.int z16), .val (.ref r10), .val (.ref r12), .val (.ref b14), .val (.ref b21), .unset, .unset] []))
                          refine Go.by (fun _ => XS.iconst X26.here hx rfl (hb hby at_311)) ?_
                          show Go p.tables e below _ (T26.setTop (mkF m 312 #[.val (.int p0), .val (.int p1), .val (.int p2), .val (.int p3), .val (.int p4), .val (.int r1), .val (.int x6), .val (.int y7), .val (.int fl), .val (.int n9), .val (.int x10), .val (.int y11), .val (.int i12), .val (.int i13), .val (.int m14), .val (.int z15), .val (.int z16), .val (.ref r10), .val (.ref r12), .val (.ref b14), .val (.ref b21), .unset, .unset] [(.int (1 : Int32))]))
                          refine Go.by (fun _ => XS.goto X26.here hx rfl (pc0 := 312) (pc' := 316) rfl (hb hby at_312) (by decide) (by decide)) ?_
                          show Go p.tables e below _ (T26.setTop (mkF m 316 #[.val (.int p0), .val (.int p1), .val (.int p2), .val (.int p3), .val (.int p4), .val (.int r1), .val (.int x6), .val (.int y7), .val (.int fl), .val (.int n9), .val (.int x10), .val (.int y11), .val (.int i12), .val (.int i13), .val (.int m14), .val (.int z15), .val (.int z16), .val (.ref r10), .val (.ref r12), .val (.ref b14), .val (.ref b21), .unset, .unset] [(.int (1 : Int32))]))
                          exact J28 _ X26 (1 : Int32) (Or.inl ⟨rfl, hc282_42, Or.inl hc288_43, Or.inr hc308_45⟩)
                        · skip
                          refine Go.by (fun _ => XS.icmpYes X26.here hx rfl (pc0 := 308) (pc' := 315) rfl (hb hby at_308) rfl (feq hc308_45).2 (by decide) (by decide)) ?_
                          show Go p.tables e below _ (T26.setTop (mkF m 315 #[.val (.int p0), .val (.int p1), .val (.int p2), .val (.int p3), .val (.int p4), .val (.int r1), .val (.int x6), .val (.int y7), .val (.int fl), .val (.int n9), .val (.int x10), .val (.int y11), .val (.int i12), .val (.int i13), .val (.int m14), .val (.int z15), .val (.int z16), .val (.ref r10), .val (.ref r12), .val (.ref b14), .val (.ref b21), .unset, .unset] []))
                          refine Go.by (fun _ => XS.iconst X26.here hx rfl (hb hby at_315)) ?_
                          show Go p.tables e below _ (T26.setTop (mkF m 316 #[.val (.int p0), .val (.int p1), .val (.int p2), .val (.int p3), .val (.int p4), .val (.int r1), .val (.int x6), .val (.int y7), .val (.int fl), .val (.int n9), .val (.int x10), .val (.int y11), .val (.int i12), .val (.int i13), .val (.int m14), .val (.int z15), .val (.int z16), .val (.ref r10), .val (.ref r12), .val (.ref b14), .val (.ref b21), .unset, .unset] [(.int (0 : Int32))]))
                          exact J28 _ X26 (0 : Int32) (Or.inr ⟨rfl, fun q => q.2.2.elim hc301_44 hc308_45⟩)
                    · skip
                      refine Go.by (fun _ => XS.icmpNo X26.here hx rfl (hb hby at_288) rfl (flt hc288_43).1) ?_
                      show Go p.tables e below _ (T26.setTop (mkF m 291 #[.val (.int p0), .val (.int p1), .val (.int p2), .val (.int p3), .val (.int p4), .val (.int r1), .val (.int x6), .val (.int y7), .val (.int fl), .val (.int n9), .val (.int x10), .val (.int y11), .val (.int i12), .val (.int i13), .val (.int m14), .val (.int z15), .val (.int z16), .val (.ref r10), .val (.ref r12), .val (.ref b14), .val (.ref b21), .unset, .unset] []))
                      refine Go.by (fun _ => XS.iload X26.here hx rfl (hb hby at_291) rfl) ?_
                      show Go p.tables e below _ (T26.setTop (mkF m 293 #[.val (.int p0), .val (.int p1), .val (.int p2), .val (.int p3), .val (.int p4), .val (.int r1), .val (.int x6), .val (.int y7), .val (.int fl), .val (.int n9), .val (.int x10), .val (.int y11), .val (.int i12), .val (.int i13), .val (.int m14), .val (.int z15), .val (.int z16), .val (.ref r10), .val (.ref r12), .val (.ref b14), .val (.ref b21), .unset, .unset] [(.int x6)]))
                      refine Go.by (fun _ => XS.iload X26.here hx rfl (hb hby at_293) rfl) ?_
                      show Go p.tables e below _ (T26.setTop (mkF m 295 #[.val (.int p0), .val (.int p1), .val (.int p2), .val (.int p3), .val (.int p4), .val (.int r1), .val (.int x6), .val (.int y7), .val (.int fl), .val (.int n9), .val (.int x10), .val (.int y11), .val (.int i12), .val (.int i13), .val (.int m14), .val (.int z15), .val (.int z16), .val (.ref r10), .val (.ref r12), .val (.ref b14), .val (.ref b21), .unset, .unset] [(.int x10), (.int x6)]))
                      by_cases hc295_46 : x6 = x10
                      · skip
                        refine Go.by (fun _ => XS.icmpNo X26.here hx rfl (hb hby at_295) rfl (teq hc295_46).2) ?_
                        show Go p.tables e below _ (T26.setTop (mkF m 298 #[.val (.int p0), .val (.int p1), .val (.int p2), .val (.int p3), .val (.int p4), .val (.int r1), .val (.int x6), .val (.int y7), .val (.int fl), .val (.int n9), .val (.int x10), .val (.int y11), .val (.int i12), .val (.int i13), .val (.int m14), .val (.int z15), .val (.int z16), .val (.ref r10), .val (.ref r12), .val (.ref b14), .val (.ref b21), .unset, .unset] []))
                        refine Go.by (fun _ => XS.iload X26.here hx rfl (hb hby at_298) rfl) ?_
                        show Go p.tables e below _ (T26.setTop (mkF m 300 #[.val (.int p0), .val (.int p1), .val (.int p2), .val (.int p3), .val (.int p4), .val (.int r1), .val (.int x6), .val (.int y7), .val (.int fl), .val (.int n9), .val (.int x10), .val (.int y11), .val (.int i12), .val (.int i13), .val (.int m14), .val (.int z15), .val (.int z16), .val (.ref r10), .val (.ref r12), .val (.ref b14), .val (.ref b21), .unset, .unset] [(.int r1)]))
                        refine Go.by (fun _ => XS.iconst X26.here hx rfl (hb hby at_300)) ?_
                        show Go p.tables e below _ (T26.setTop (mkF m 301 #[.val (.int p0), .val (.int p1), .val (.int p2), .val (.int p3), .val (.int p4), .val (.int r1), .val (.int x6), .val (.int y7), .val (.int fl), .val (.int n9), .val (.int x10), .val (.int y11), .val (.int i12), .val (.int i13), .val (.int m14), .val (.int z15), .val (.int z16), .val (.ref r10), .val (.ref r12), .val (.ref b14), .val (.ref b21), .unset, .unset] [(.int (2 : Int32)), (.int r1)]))
                        by_cases hc301_47 : r1 < (2 : Int32)
                        · skip
                          refine Go.by (fun _ => XS.icmpYes X26.here hx rfl (pc0 := 301) (pc' := 311) rfl (hb hby at_301) rfl (tlt hc301_47).1 (by decide) (by decide)) ?_
                          show Go p.tables e below _ (T26.setTop (mkF m 311 #[.val (.int p0), .val (.int p1), .val (.int p2), .val (.int p3), .val (.int p4), .val (.int r1), .val (.int x6), .val (.int y7), .val (.int fl), .val (.int n9), .val (.int x10), .val (.int y11), .val (.int i12), .val (.int i13), .val (.int m14), .val (.int z15), .val (.int z16), .val (.ref r10), .val (.ref r12), .val (.ref b14), .val (.ref b21), .unset, .unset] []))
                          refine Go.by (fun _ => XS.iconst X26.here hx rfl (hb hby at_311)) ?_
                          show Go p.tables e below _ (T26.setTop (mkF m 312 #[.val (.int p0), .val (.int p1), .val (.int p2), .val (.int p3), .val (.int p4), .val (.int r1), .val (.int x6), .val (.int y7), .val (.int fl), .val (.int n9), .val (.int x10), .val (.int y11), .val (.int i12), .val (.int i13), .val (.int m14), .val (.int z15), .val (.int z16), .val (.ref r10), .val (.ref r12), .val (.ref b14), .val (.ref b21), .unset, .unset] [(.int (1 : Int32))]))
                          refine Go.by (fun _ => XS.goto X26.here hx rfl (pc0 := 312) (pc' := 316) rfl (hb hby at_312) (by decide) (by decide)) ?_
                          show Go p.tables e below _ (T26.setTop (mkF m 316 #[.val (.int p0), .val (.int p1), .val (.int p2), .val (.int p3), .val (.int p4), .val (.int r1), .val (.int x6), .val (.int y7), .val (.int fl), .val (.int n9), .val (.int x10), .val (.int y11), .val (.int i12), .val (.int i13), .val (.int m14), .val (.int z15), .val (.int z16), .val (.ref r10), .val (.ref r12), .val (.ref b14), .val (.ref b21), .unset, .unset] [(.int (1 : Int32))]))
                          exact J28 _ X26 (1 : Int32) (Or.inl ⟨rfl, hc282_42, Or.inr hc295_46, Or.inl hc301_47⟩)
                        · skip
                          refine Go.by (fun _ => XS.icmpNo X26.here hx rfl (hb hby at_301) rfl (flt hc301_47).1) ?_
                          show Go p.tables e below _ (T26.setTop (mkF m 304 #[.val (.int p0), .val (.int p1), .val (.int p2), .val (.int p3), .val (.int p4), .val (.int r1), .val (.int x6), .val (.int y7), .val (.int fl), .val (.int n9), .val (.int x10), .val (.int y11), .val (.int i12), .val (.int i13), .val (.int m14), .val (.int z15), .val (.int z16), .val (.ref r10), .val (.ref r12), .val (.ref b14), .val (.ref b21), .unset, .unset] []))
                          refine Go.by (fun _ => XS.iload X26.here hx rfl (hb hby at_304) rfl) ?_
                          show Go p.tables e below _ (T26.setTop (mkF m 306 #[.val (.int p0), .val (.int p1), .val (.int p2), .val (.int p3), .val (.int p4), .val (.int r1), .val (.int x6), .val (.int y7), .val (.int fl), .val (.int n9), .val (.int x10), .val (.int y11), .val (.int i12), .val (.int i13), .val (.int m14), .val (.int z15), .val (.int z16), .val (.ref r10), .val (.ref r12), .val (.ref b14), .val (.ref b21), .unset, .unset] [(.int y7)]))
                          refine Go.by (fun _ => XS.iload X26.here hx rfl (hb hby at_306) rfl) ?_
                          show Go p.tables e below _ (T26.setTop (mkF m 308 #[.val (.int p0), .val (.int p1), .val (.int p2), .val (.int p3), .val (.int p4), .val (.int r1), .val (.int x6), .val (.int y7), .val (.int fl), .val (.int n9), .val (.int x10), .val (.int y11), .val (.int i12), .val (.int i13), .val (.int m14), .val (.int z15), .val (.int z16), .val (.ref r10), .val (.ref r12), .val (.ref b14), .val (.ref b21), .unset, .unset] [(.int y11), (.int y7)]))
                          by_cases hc308_48 : y7 = y11
                          · skip
                            refine Go.by (fun _ => XS.icmpNo X26.here hx rfl (hb hby at_308) rfl (teq hc308_48).2) ?_
                            show Go p.tables e below _ (T26.setTop (mkF m 311 #[.val (.int p0), .val (.int p1), .val (.int p2), .val (.int p3), .val (.int p4), .val (.int r1), .val (.int x6), .val (.int y7), .val (.int fl), .val (.int n9), .val (.int x10), .val (.int y11), .val (.int i12), .val (.int i13), .val (.int m14), .val (.int z15), .val (.int z16), .val (.ref r10), .val (.ref r12), .val (.ref b14), .val (.ref b21), .unset, .unset] []))
                            refine Go.by (fun _ => XS.iconst X26.here hx rfl (hb hby at_311)) ?_
                            show Go p.tables e below _ (T26.setTop (mkF m 312 #[.val (.int p0), .val (.int p1), .val (.int p2), .val (.int p3), .val (.int p4), .val (.int r1), .val (.int x6), .val (.int y7), .val (.int fl), .val (.int n9), .val (.int x10), .val (.int y11), .val (.int i12), .val (.int i13), .val (.int m14), .val (.int z15), .val (.int z16), .val (.ref r10), .val (.ref r12), .val (.ref b14), .val (.ref b21), .unset, .unset] [(.int (1 : Int32))]))
                            refine Go.by (fun _ => XS.goto X26.here hx rfl (pc0 := 312) (pc' := 316) rfl (hb hby at_312) (by decide) (by decide)) ?_
                            show Go p.tables e below _ (T26.setTop (mkF m 316 #[.val (.int p0), .val (.int p1), .val (.int p2), .val (.int p3), .val (.int p4), .val (.int r1), .val (.int x6), .val (.int y7), .val (.int fl), .val (.int n9), .val (.int x10), .val (.int y11), .val (.int i12), .val (.int i13), .val (.int m14), .val (.int z15), .val (.int z16), .val (.ref r10), .val (.ref r12), .val (.ref b14), .val (.ref b21), .unset, .unset] [(.int (1 : Int32))]))
                            exact J28 _ X26 (1 : Int32) (Or.inl ⟨rfl, hc282_42, Or.inr hc295_46, Or.inr hc308_48⟩)
                          · skip
                            refine Go.by (fun _ => XS.icmpYes X26.here hx rfl (pc0 := 308) (pc' := 315) rfl (hb hby at_308) rfl (feq hc308_48).2 (by decide) (by decide)) ?_
                            show Go p.tables e below _ (T26.setTop (mkF m 315 #[.val (.int p0), .val (.int p1), .val (.int p2), .val (.int p3), .val (.int p4), .val (.int r1), .val (.int x6), .val (.int y7), .val (.int fl), .val (.int n9), .val (.int x10), .val (.int y11), .val (.int i12), .val (.int i13), .val (.int m14), .val (.int z15), .val (.int z16), .val (.ref r10), .val (.ref r12), .val (.ref b14), .val (.ref b21), .unset, .unset] []))
                            refine Go.by (fun _ => XS.iconst X26.here hx rfl (hb hby at_315)) ?_
                            show Go p.tables e below _ (T26.setTop (mkF m 316 #[.val (.int p0), .val (.int p1), .val (.int p2), .val (.int p3), .val (.int p4), .val (.int r1), .val (.int x6), .val (.int y7), .val (.int fl), .val (.int n9), .val (.int x10), .val (.int y11), .val (.int i12), .val (.int i13), .val (.int m14), .val (.int z15), .val (.int z16), .val (.ref r10), .val (.ref r12), .val (.ref b14), .val (.ref b21), .unset, .unset] [(.int (0 : Int32))]))
                            exact J28 _ X26 (0 : Int32) (Or.inr ⟨rfl, fun q => q.2.2.elim hc301_47 hc308_48⟩)
                      · skip
                        refine Go.by (fun _ => XS.icmpYes X26.here hx rfl (pc0 := 295) (pc' := 315) rfl (hb hby at_295) rfl (feq hc295_46).2 (by decide) (by decide)) ?_
                        show Go p.tables e below _ (T26.setTop (mkF m 315 #[.val (.int p0), .val (.int p1), .val (.int p2), .val (.int p3), .val (.int p4), .val (.int r1), .val (.int x6), .val (.int y7), .val (.int fl), .val (.int n9), .val (.int x10), .val (.int y11), .val (.int i12), .val (.int i13), .val (.int m14), .val (.int z15), .val (.int z16), .val (.ref r10), .val (.ref r12), .val (.ref b14), .val (.ref b21), .unset, .unset] []))
                        refine Go.by (fun _ => XS.iconst X26.here hx rfl (hb hby at_315)) ?_
                        show Go p.tables e below _ (T26.setTop (mkF m 316 #[.val (.int p0), .val (.int p1), .val (.int p2), .val (.int p3), .val (.int p4), .val (.int r1), .val (.int x6), .val (.int y7), .val (.int fl), .val (.int n9), .val (.int x10), .val (.int y11), .val (.int i12), .val (.int i13), .val (.int m14), .val (.int z15), .val (.int z16), .val (.ref r10), .val (.ref r12), .val (.ref b14), .val (.ref b21), .unset, .unset] [(.int (0 : Int32))]))
                        exact J28 _ X26 (0 : Int32) (Or.inr ⟨rfl, fun q => q.2.1.elim hc288_43 hc295_46⟩)
                  · skip
                    refine Go.by (fun _ => XS.icmpYes X26.here hx rfl (pc0 := 282) (pc' := 315) rfl (hb hby at_282) rfl (feq hc282_42).2 (by decide) (by decide)) ?_
                    show Go p.tables e below _ (T26.setTop (mkF m 315 #[.val (.int p0), .val (.int p1), .val (.int p2), .val (.int p3), .val (.int p4), .val (.int r1), .val (.int x6), .val (.int y7), .val (.int fl), .val (.int n9), .val (.int x10), .val (.int y11), .val (.int i12), .val (.int i13), .val (.int m14), .val (.int z15), .val (.int z16), .val (.ref r10), .val (.ref r12), .val (.ref b14), .val (.ref b21), .unset, .unset] []))
                    refine Go.by (fun _ => XS.iconst X26.here hx rfl (hb hby at_315)) ?_
                    show Go p.tables e below _ (T26.setTop (mkF m 316 #[.val (.int p0), .val (.int p1), .val (.int p2), .val (.int p3), .val (.int p4), .val (.int r1), .val (.int x6), .val (.int y7), .val (.int fl), .val (.int n9), .val (.int x10), .val (.int y11), .val (.int i12), .val (.int i13), .val (.int m14), .val (.int z15), .val (.int z16), .val (.ref r10), .val (.ref r12), .val (.ref b14), .val (.ref b21), .unset, .unset] [(.int (0 : Int32))]))
                    exact J28 _ X26 (0 : Int32) (Or.inr ⟨rfl, fun q => hc282_42 q.1⟩)
                by_cases hc173_49 : (((p1.toUInt32 >>> ((20 : Int32) &&& 31).toUInt32).toInt32) &&& (1 : Int32)) = (0 : Int32)
                · skip
                  refine Go.by (fun _ => XS.ifYes Xj8.here hx rfl (pc0 := 173) (pc' := 180) rfl (hb hby at_173) rfl ((if0 _ _).trans (teq hc173_49).1) (by decide) (by decide)) ?_
                  show Go p.tables e below _ (Tj8.setTop (mkF m 180 #[.val (.int p0), .val (.int p1), .val (.int p2), .val (.int p3), .val (.int p4), .val (.int r1), .val (.int x6), .val (.int y7), .val (.int fl), .val (.int n9), .val (.int x10), .val (.int y11), .val (.int i12), .val (.int i13), .val (.int m14), .val (.int z15), .unset, .unset, .unset, .unset, .unset, .unset, .unset] []))
                  refine Go.by (fun _ => XS.iconst Xj8.here hx rfl (hb hby at_180)) ?_
                  show Go p.tables e below _ (Tj8.setTop (mkF m 181 #[.val (.int p0), .val (.int p1), .val (.int p2), .val (.int p3), .val (.int p4), .val (.int r1), .val (.int x6), .val (.int y7), .val (.int fl), .val (.int n9), .val (.int x10), .val (.int y11), .val (.int i12), .val (.int i13), .val (.int m14), .val (.int z15), .unset, .unset, .unset, .unset, .unset, .unset, .unset] [(.int (0 : Int32))]))
                  exact J9 _ Xj8 (0 : Int32) trivial
                · skip
                  refine Go.by (fun _ => XS.ifNo Xj8.here hx rfl (hb hby at_173) rfl ((if0 _ _).trans (feq hc173_49).1)) ?_
                  show Go p.tables e below _ (Tj8.setTop (mkF m 176 #[.val (.int p0), .val (.int p1), .val (.int p2), .val (.int p3), .val (.int p4), .val (.int r1), .val (.int x6), .val (.int y7), .val (.int fl), .val (.int n9), .val (.int x10), .val (.int y11), .val (.int i12), .val (.int i13), .val (.int m14), .val (.int z15), .unset, .unset, .unset, .unset, .unset, .unset, .unset] []))
                  refine Go.by (fun _ => XS.iconst Xj8.here hx rfl (hb hby at_176)) ?_
                  show Go p.tables e below _ (Tj8.setTop (mkF m 177 #[.val (.int p0), .val (.int p1), .val (.int p2), .val (.int p3), .val (.int p4), .val (.int r1), .val (.int x6), .val (.int y7), .val (.int fl), .val (.int n9), .val (.int x10), .val (.int y11), .val (.int i12), .val (.int i13), .val (.int m14), .val (.int z15), .unset, .unset, .unset, .unset, .unset, .unset, .unset] [(.int (1 : Int32))]))
                  refine Go.by (fun _ => XS.goto Xj8.here hx rfl (pc0 := 177) (pc' := 181) rfl (hb hby at_177) (by decide) (by decide)) ?_
                  show Go p.tables e below _ (Tj8.setTop (mkF m 181 #[.val (.int p0), .val (.int p1), .val (.int p2), .val (.int p3), .val (.int p4), .val (.int r1), .val (.int x6), .val (.int y7), .val (.int fl), .val (.int n9), .val (.int x10), .val (.int y11), .val (.int i12), .val (.int i13), .val (.int m14), .val (.int z15), .unset, .unset, .unset, .unset, .unset, .unset, .unset] [(.int (1 : Int32))]))
                  exact J9 _ Xj8 (1 : Int32) trivial
              by_cases hc157_50 : (((p1.toUInt32 >>> ((19 : Int32) &&& 31).toUInt32).toInt32) &&& (1 : Int32)) = (0 : Int32)
              · skip
                refine Go.by (fun _ => XS.ifYes Xj7.here hx rfl (pc0 := 157) (pc' := 164) rfl (hb hby at_157) rfl ((if0 _ _).trans (teq hc157_50).1) (by decide) (by decide)) ?_
                show Go p.tables e below _ (Tj7.setTop (mkF m 164 #[.val (.int p0), .val (.int p1), .val (.int p2), .val (.int p3), .val (.int p4), .val (.int r1), .val (.int x6), .val (.int y7), .val (.int fl), .val (.int n9), .val (.int x10), .val (.int y11), .val (.int i12), .val (.int i13), .val (.int m14), .unset, .unset, .unset, .unset, .unset, .unset, .unset, .unset] []))
                refine Go.by (fun _ => XS.iconst Xj7.here hx rfl (hb hby at_164)) ?_
                show Go p.tables e below _ (Tj7.setTop (mkF m 165 #[.val (.int p0), .val (.int p1), .val (.int p2), .val (.int p3), .val (.int p4), .val (.int r1), .val (.int x6), .val (.int y7), .val (.int fl), .val (.int n9), .val (.int x10), .val (.int y11), .val (.int i12), .val (.int i13), .val (.int m14), .unset, .unset, .unset, .unset, .unset, .unset, .unset, .unset] [(.int (0 : Int32))]))
                exact J8 _ Xj7 (0 : Int32) trivial
              · skip
                refine Go.by (fun _ => XS.ifNo Xj7.here hx rfl (hb hby at_157) rfl ((if0 _ _).trans (feq hc157_50).1)) ?_
                show Go p.tables e below _ (Tj7.setTop (mkF m 160 #[.val (.int p0), .val (.int p1), .val (.int p2), .val (.int p3), .val (.int p4), .val (.int r1), .val (.int x6), .val (.int y7), .val (.int fl), .val (.int n9), .val (.int x10), .val (.int y11), .val (.int i12), .val (.int i13), .val (.int m14), .unset, .unset, .unset, .unset, .unset, .unset, .unset, .unset] []))
                refine Go.by (fun _ => XS.iconst Xj7.here hx rfl (hb hby at_160)) ?_
                show Go p.tables e below _ (Tj7.setTop (mkF m 161 #[.val (.int p0), .val (.int p1), .val (.int p2), .val (.int p3), .val (.int p4), .val (.int r1), .val (.int x6), .val (.int y7), .val (.int fl), .val (.int n9), .val (.int x10), .val (.int y11), .val (.int i12), .val (.int i13), .val (.int m14), .unset, .unset, .unset, .unset, .unset, .unset, .unset, .unset] [(.int (1 : Int32))]))
                refine Go.by (fun _ => XS.goto Xj7.here hx rfl (pc0 := 161) (pc' := 165) rfl (hb hby at_161) (by decide) (by decide)) ?_
                show Go p.tables e below _ (Tj7.setTop (mkF m 165 #[.val (.int p0), .val (.int p1), .val (.int p2), .val (.int p3), .val (.int p4), .val (.int r1), .val (.int x6), .val (.int y7), .val (.int fl), .val (.int n9), .val (.int x10), .val (.int y11), .val (.int i12), .val (.int i13), .val (.int m14), .unset, .unset, .unset, .unset, .unset, .unset, .unset, .unset] [(.int (1 : Int32))]))
                exact J8 _ Xj7 (1 : Int32) trivial
            by_cases hc140_51 : (((p2.toUInt32 >>> ((9 : Int32) &&& 31).toUInt32).toInt32) &&& (1 : Int32)) = (0 : Int32)
            · skip
              refine Go.by (fun _ => XS.ifNo Xj6.here hx rfl (hb hby at_140) rfl ((if0 _ _).trans (teq hc140_51).2)) ?_
              show Go p.tables e below _ (Tj6.setTop (mkF m 143 #[.val (.int p0), .val (.int p1), .val (.int p2), .val (.int p3), .val (.int p4), .val (.int r1), .val (.int x6), .val (.int y7), .val (.int fl), .val (.int n9), .val (.int x10), .val (.int y11), .val (.int i12), .val (.int i13), .unset, .unset, .unset, .unset, .unset, .unset, .unset, .unset, .unset] []))
              refine Go.by (fun _ => XS.iloadN Xj6.here hx rfl (hb hby at_143) rfl) ?_
              show Go p.tables e below _ (Tj6.setTop (mkF m 144 #[.val (.int p0), .val (.int p1), .val (.int p2), .val (.int p3), .val (.int p4), .val (.int r1), .val (.int x6), .val (.int y7), .val (.int fl), .val (.int n9), .val (.int x10), .val (.int y11), .val (.int i12), .val (.int i13), .unset, .unset, .unset, .unset, .unset, .unset, .unset, .unset, .unset] [(.int p3)]))
              refine Go.by (fun _ => XS.goto Xj6.here hx rfl (pc0 := 144) (pc' := 149) rfl (hb hby at_144) (by decide) (by decide)) ?_
              show Go p.tables e below _ (Tj6.setTop (mkF m 149 #[.val (.int p0), .val (.int p1), .val (.int p2), .val (.int p3), .val (.int p4), .val (.int r1), .val (.int x6), .val (.int y7), .val (.int fl), .val (.int n9), .val (.int x10), .val (.int y11), .val (.int i12), .val (.int i13), .unset, .unset, .unset, .unset, .unset, .unset, .unset, .unset, .unset] [(.int p3)]))
              exact J7 _ Xj6 p3 trivial
            · skip
              refine Go.by (fun _ => XS.ifYes Xj6.here hx rfl (pc0 := 140) (pc' := 147) rfl (hb hby at_140) rfl ((if0 _ _).trans (feq hc140_51).2) (by decide) (by decide)) ?_
              show Go p.tables e below _ (Tj6.setTop (mkF m 147 #[.val (.int p0), .val (.int p1), .val (.int p2), .val (.int p3), .val (.int p4), .val (.int r1), .val (.int x6), .val (.int y7), .val (.int fl), .val (.int n9), .val (.int x10), .val (.int y11), .val (.int i12), .val (.int i13), .unset, .unset, .unset, .unset, .unset, .unset, .unset, .unset, .unset] []))
              refine Go.by (fun _ => XS.iload Xj6.here hx rfl (hb hby at_147) rfl) ?_
              show Go p.tables e below _ (Tj6.setTop (mkF m 149 #[.val (.int p0), .val (.int p1), .val (.int p2), .val (.int p3), .val (.int p4), .val (.int r1), .val (.int x6), .val (.int y7), .val (.int fl), .val (.int n9), .val (.int x10), .val (.int y11), .val (.int i12), .val (.int i13), .unset, .unset, .unset, .unset, .unset, .unset, .unset, .unset, .unset] [(.int p4)]))
              exact J7 _ Xj6 p4 trivial
          by_cases hc115_52 : (((p2.toUInt32 >>> ((4 : Int32) &&& 31).toUInt32).toInt32) &&& (1 : Int32)) = (0 : Int32)
          · skip
            refine Go.by (fun _ => XS.ifNo Xj5.here hx rfl (hb hby at_115) rfl ((if0 _ _).trans (teq hc115_52).2)) ?_
            show Go p.tables e below _ (Tj5.setTop (mkF m 118 #[.val (.int p0), .val (.int p1), .val (.int p2), .val (.int p3), .val (.int p4), .val (.int r1), .val (.int x6), .val (.int y7), .val (.int fl), .val (.int n9), .val (.int x10), .val (.int y11), .val (.int i12), .unset, .unset, .unset, .unset, .unset, .unset, .unset, .unset, .unset, .unset] []))
            refine Go.by (fun _ => XS.iload Xj5.here hx rfl (hb hby at_118) rfl) ?_
            show Go p.tables e below _ (Tj5.setTop (mkF m 120 #[.val (.int p0), .val (.int p1), .val (.int p2), .val (.int p3), .val (.int p4), .val (.int r1), .val (.int x6), .val (.int y7), .val (.int fl), .val (.int n9), .val (.int x10), .val (.int y11), .val (.int i12), .unset, .unset, .unset, .unset, .unset, .unset, .unset, .unset, .unset, .unset] [(.int i12)]))
            refine Go.by (fun _ => XS.goto Xj5.here hx rfl (pc0 := 120) (pc' := 132) rfl (hb hby at_120) (by decide) (by decide)) ?_
            show Go p.tables e below _ (Tj5.setTop (mkF m 132 #[.val (.int p0), .val (.int p1), .val (.int p2), .val (.int p3), .val (.int p4), .val (.int r1), .val (.int x6), .val (.int y7), .val (.int fl), .val (.int n9), .val (.int x10), .val (.int y11), .val (.int i12), .unset, .unset, .unset, .unset, .unset, .unset, .unset, .unset, .unset, .unset] [(.int i12)]))
            exact J6 _ Xj5 i12 b_i12
          · skip
            refine Go.by (fun _ => XS.ifYes Xj5.here hx rfl (pc0 := 115) (pc' := 123) rfl (hb hby at_115) rfl ((if0 _ _).trans (feq hc115_52).2) (by decide) (by decide)) ?_
            show Go p.tables e below _ (Tj5.setTop (mkF m 123 #[.val (.int p0), .val (.int p1), .val (.int p2), .val (.int p3), .val (.int p4), .val (.int r1), .val (.int x6), .val (.int y7), .val (.int fl), .val (.int n9), .val (.int x10), .val (.int y11), .val (.int i12), .unset, .unset, .unset, .unset, .unset, .unset, .unset, .unset, .unset, .unset] []))
            refine Go.by (fun _ => XS.iloadN Xj5.here hx rfl (hb hby at_123) rfl) ?_
            show Go p.tables e below _ (Tj5.setTop (mkF m 124 #[.val (.int p0), .val (.int p1), .val (.int p2), .val (.int p3), .val (.int p4), .val (.int r1), .val (.int x6), .val (.int y7), .val (.int fl), .val (.int n9), .val (.int x10), .val (.int y11), .val (.int i12), .unset, .unset, .unset, .unset, .unset, .unset, .unset, .unset, .unset, .unset] [(.int p2)]))
            refine Go.by (fun _ => XS.iconst Xj5.here hx rfl (hb hby at_124)) ?_
            show Go p.tables e below _ (Tj5.setTop (mkF m 125 #[.val (.int p0), .val (.int p1), .val (.int p2), .val (.int p3), .val (.int p4), .val (.int r1), .val (.int x6), .val (.int y7), .val (.int fl), .val (.int n9), .val (.int x10), .val (.int y11), .val (.int i12), .unset, .unset, .unset, .unset, .unset, .unset, .unset, .unset, .unset, .unset] [(.int (5 : Int32)), (.int p2)]))
            refine Go.by (fun _ => XS.iushr Xj5.here hx rfl (hb hby at_125) rfl) ?_
            show Go p.tables e below _ (Tj5.setTop (mkF m 126 #[.val (.int p0), .val (.int p1), .val (.int p2), .val (.int p3), .val (.int p4), .val (.int r1), .val (.int x6), .val (.int y7), .val (.int fl), .val (.int n9), .val (.int x10), .val (.int y11), .val (.int i12), .unset, .unset, .unset, .unset, .unset, .unset, .unset, .unset, .unset, .unset] [(.int ((p2.toUInt32 >>> ((5 : Int32) &&& 31).toUInt32).toInt32))]))
            refine Go.by (fun _ => XS.bipush Xj5.here hx rfl (hb hby at_126)) ?_
            show Go p.tables e below _ (Tj5.setTop (mkF m 128 #[.val (.int p0), .val (.int p1), .val (.int p2), .val (.int p3), .val (.int p4), .val (.int r1), .val (.int x6), .val (.int y7), .val (.int fl), .val (.int n9), .val (.int x10), .val (.int y11), .val (.int i12), .unset, .unset, .unset, .unset, .unset, .unset, .unset, .unset, .unset, .unset] [(.int (15 : Int32)), (.int ((p2.toUInt32 >>> ((5 : Int32) &&& 31).toUInt32).toInt32))]))
            refine Go.by (fun _ => XS.iand Xj5.here hx rfl (hb hby at_128) rfl) ?_
            show Go p.tables e below _ (Tj5.setTop (mkF m 129 #[.val (.int p0), .val (.int p1), .val (.int p2), .val (.int p3), .val (.int p4), .val (.int r1), .val (.int x6), .val (.int y7), .val (.int fl), .val (.int n9), .val (.int x10), .val (.int y11), .val (.int i12), .unset, .unset, .unset, .unset, .unset, .unset, .unset, .unset, .unset, .unset] [(.int (((p2.toUInt32 >>> ((5 : Int32) &&& 31).toUInt32).toInt32) &&& (15 : Int32)))]))
            refine Go.by (fun _ => XS.bipush Xj5.here hx rfl (hb hby at_129)) ?_
            show Go p.tables e below _ (Tj5.setTop (mkF m 131 #[.val (.int p0), .val (.int p1), .val (.int p2), .val (.int p3), .val (.int p4), .val (.int r1), .val (.int x6), .val (.int y7), .val (.int fl), .val (.int n9), .val (.int x10), .val (.int y11), .val (.int i12), .unset, .unset, .unset, .unset, .unset, .unset, .unset, .unset, .unset, .unset] [(.int (11 : Int32)), (.int (((p2.toUInt32 >>> ((5 : Int32) &&& 31).toUInt32).toInt32) &&& (15 : Int32)))]))
            refine Go.by (fun _ => iremS Xj5 hx rfl (hb hby at_131) rfl (by decide)) ?_
            show Go p.tables e below _ (Tj5.setTop (mkF m 132 #[.val (.int p0), .val (.int p1), .val (.int p2), .val (.int p3), .val (.int p4), .val (.int r1), .val (.int x6), .val (.int y7), .val (.int fl), .val (.int n9), .val (.int x10), .val (.int y11), .val (.int i12), .unset, .unset, .unset, .unset, .unset, .unset, .unset, .unset, .unset, .unset] [(.int ((((p2.toUInt32 >>> ((5 : Int32) &&& 31).toUInt32).toInt32) &&& (15 : Int32)) % (11 : Int32)))]))
            exact J6 _ Xj5 ((((p2.toUInt32 >>> ((5 : Int32) &&& 31).toUInt32).toInt32) &&& (15 : Int32)) % (11 : Int32)) (own_m11 _)
        by_cases hc83_53 : fl = (0 : Int32)
        · skip
          refine Go.by (fun _ => XS.ifYes Xj4.here hx rfl (pc0 := 83) (pc' := 91) rfl (hb hby at_83) rfl ((if0 _ _).trans (teq hc83_53).1) (by decide) (by decide)) ?_
          show Go p.tables e below _ (Tj4.setTop (mkF m 91 #[.val (.int p0), .val (.int p1), .val (.int p2), .val (.int p3), .val (.int p4), .val (.int r1), .val (.int x6), .val (.int y7), .val (.int fl), .val (.int n9), .val (.int x10), .unset, .unset, .unset, .unset, .unset, .unset, .unset, .unset, .unset, .unset, .unset, .unset] []))
          refine Go.by (fun _ => XS.iloadN Xj4.here hx rfl (hb hby at_91) rfl) ?_
          show Go p.tables e below _ (Tj4.setTop (mkF m 92 #[.val (.int p0), .val (.int p1), .val (.int p2), .val (.int p3), .val (.int p4), .val (.int r1), .val (.int x6), .val (.int y7), .val (.int fl), .val (.int n9), .val (.int x10), .unset, .unset, .unset, .unset, .unset, .unset, .unset, .unset, .unset, .unset, .unset, .unset] [(.int p1)]))
          refine Go.by (fun _ => XS.bipush Xj4.here hx rfl (hb hby at_92)) ?_
          show Go p.tables e below _ (Tj4.setTop (mkF m 94 #[.val (.int p0), .val (.int p1), .val (.int p2), .val (.int p3), .val (.int p4), .val (.int r1), .val (.int x6), .val (.int y7), .val (.int fl), .val (.int n9), .val (.int x10), .unset, .unset, .unset, .unset, .unset, .unset, .unset, .unset, .unset, .unset, .unset, .unset] [(.int (11 : Int32)), (.int p1)]))
          refine Go.by (fun _ => XS.iushr Xj4.here hx rfl (hb hby at_94) rfl) ?_
          show Go p.tables e below _ (Tj4.setTop (mkF m 95 #[.val (.int p0), .val (.int p1), .val (.int p2), .val (.int p3), .val (.int p4), .val (.int r1), .val (.int x6), .val (.int y7), .val (.int fl), .val (.int n9), .val (.int x10), .unset, .unset, .unset, .unset, .unset, .unset, .unset, .unset, .unset, .unset, .unset, .unset] [(.int ((p1.toUInt32 >>> ((11 : Int32) &&& 31).toUInt32).toInt32))]))
          refine Go.by (fun _ => XS.sipush Xj4.here hx rfl (hb hby at_95)) ?_
          show Go p.tables e below _ (Tj4.setTop (mkF m 98 #[.val (.int p0), .val (.int p1), .val (.int p2), .val (.int p3), .val (.int p4), .val (.int r1), .val (.int x6), .val (.int y7), .val (.int fl), .val (.int n9), .val (.int x10), .unset, .unset, .unset, .unset, .unset, .unset, .unset, .unset, .unset, .unset, .unset, .unset] [(.int (255 : Int32)), (.int ((p1.toUInt32 >>> ((11 : Int32) &&& 31).toUInt32).toInt32))]))
          refine Go.by (fun _ => XS.iand Xj4.here hx rfl (hb hby at_98) rfl) ?_
          show Go p.tables e below _ (Tj4.setTop (mkF m 99 #[.val (.int p0), .val (.int p1), .val (.int p2), .val (.int p3), .val (.int p4), .val (.int r1), .val (.int x6), .val (.int y7), .val (.int fl), .val (.int n9), .val (.int x10), .unset, .unset, .unset, .unset, .unset, .unset, .unset, .unset, .unset, .unset, .unset, .unset] [(.int (((p1.toUInt32 >>> ((11 : Int32) &&& 31).toUInt32).toInt32) &&& (255 : Int32)))]))
          exact J5 _ Xj4 (((p1.toUInt32 >>> ((11 : Int32) &&& 31).toUInt32).toInt32) &&& (255 : Int32)) (own_m255 _)
        · skip
          refine Go.by (fun _ => XS.ifNo Xj4.here hx rfl (hb hby at_83) rfl ((if0 _ _).trans (feq hc83_53).1)) ?_
          show Go p.tables e below _ (Tj4.setTop (mkF m 86 #[.val (.int p0), .val (.int p1), .val (.int p2), .val (.int p3), .val (.int p4), .val (.int r1), .val (.int x6), .val (.int y7), .val (.int fl), .val (.int n9), .val (.int x10), .unset, .unset, .unset, .unset, .unset, .unset, .unset, .unset, .unset, .unset, .unset, .unset] []))
          refine Go.by (fun _ => XS.iload Xj4.here hx rfl (hb hby at_86) rfl) ?_
          show Go p.tables e below _ (Tj4.setTop (mkF m 88 #[.val (.int p0), .val (.int p1), .val (.int p2), .val (.int p3), .val (.int p4), .val (.int r1), .val (.int x6), .val (.int y7), .val (.int fl), .val (.int n9), .val (.int x10), .unset, .unset, .unset, .unset, .unset, .unset, .unset, .unset, .unset, .unset, .unset, .unset] [(.int y7)]))
          refine Go.by (fun _ => XS.goto Xj4.here hx rfl (pc0 := 88) (pc' := 99) rfl (hb hby at_88) (by decide) (by decide)) ?_
          show Go p.tables e below _ (Tj4.setTop (mkF m 99 #[.val (.int p0), .val (.int p1), .val (.int p2), .val (.int p3), .val (.int p4), .val (.int r1), .val (.int x6), .val (.int y7), .val (.int fl), .val (.int n9), .val (.int x10), .unset, .unset, .unset, .unset, .unset, .unset, .unset, .unset, .unset, .unset, .unset, .unset] [(.int y7)]))
          exact J5 _ Xj4 y7 b_y7
      by_cases hc64_54 : fl = (0 : Int32)
      · skip
        refine Go.by (fun _ => XS.ifYes Xj3.here hx rfl (pc0 := 64) (pc' := 72) rfl (hb hby at_64) rfl ((if0 _ _).trans (teq hc64_54).1) (by decide) (by decide)) ?_
        show Go p.tables e below _ (Tj3.setTop (mkF m 72 #[.val (.int p0), .val (.int p1), .val (.int p2), .val (.int p3), .val (.int p4), .val (.int r1), .val (.int x6), .val (.int y7), .val (.int fl), .val (.int n9), .unset, .unset, .unset, .unset, .unset, .unset, .unset, .unset, .unset, .unset, .unset, .unset, .unset] []))
        refine Go.by (fun _ => XS.iloadN Xj3.here hx rfl (hb hby at_72) rfl) ?_
        show Go p.tables e below _ (Tj3.setTop (mkF m 73 #[.val (.int p0), .val (.int p1), .val (.int p2), .val (.int p3), .val (.int p4), .val (.int r1), .val (.int x6), .val (.int y7), .val (.int fl), .val (.int n9), .unset, .unset, .unset, .unset, .unset, .unset, .unset, .unset, .unset, .unset, .unset, .unset, .unset] [(.int p1)]))
        refine Go.by (fun _ => XS.iconst Xj3.here hx rfl (hb hby at_73)) ?_
        show Go p.tables e below _ (Tj3.setTop (mkF m 74 #[.val (.int p0), .val (.int p1), .val (.int p2), .val (.int p3), .val (.int p4), .val (.int r1), .val (.int x6), .val (.int y7), .val (.int fl), .val (.int n9), .unset, .unset, .unset, .unset, .unset, .unset, .unset, .unset, .unset, .unset, .unset, .unset, .unset] [(.int (3 : Int32)), (.int p1)]))
        refine Go.by (fun _ => XS.iushr Xj3.here hx rfl (hb hby at_74) rfl) ?_
        show Go p.tables e below _ (Tj3.setTop (mkF m 75 #[.val (.int p0), .val (.int p1), .val (.int p2), .val (.int p3), .val (.int p4), .val (.int r1), .val (.int x6), .val (.int y7), .val (.int fl), .val (.int n9), .unset, .unset, .unset, .unset, .unset, .unset, .unset, .unset, .unset, .unset, .unset, .unset, .unset] [(.int ((p1.toUInt32 >>> ((3 : Int32) &&& 31).toUInt32).toInt32))]))
        refine Go.by (fun _ => XS.sipush Xj3.here hx rfl (hb hby at_75)) ?_
        show Go p.tables e below _ (Tj3.setTop (mkF m 78 #[.val (.int p0), .val (.int p1), .val (.int p2), .val (.int p3), .val (.int p4), .val (.int r1), .val (.int x6), .val (.int y7), .val (.int fl), .val (.int n9), .unset, .unset, .unset, .unset, .unset, .unset, .unset, .unset, .unset, .unset, .unset, .unset, .unset] [(.int (255 : Int32)), (.int ((p1.toUInt32 >>> ((3 : Int32) &&& 31).toUInt32).toInt32))]))
        refine Go.by (fun _ => XS.iand Xj3.here hx rfl (hb hby at_78) rfl) ?_
        show Go p.tables e below _ (Tj3.setTop (mkF m 79 #[.val (.int p0), .val (.int p1), .val (.int p2), .val (.int p3), .val (.int p4), .val (.int r1), .val (.int x6), .val (.int y7), .val (.int fl), .val (.int n9), .unset, .unset, .unset, .unset, .unset, .unset, .unset, .unset, .unset, .unset, .unset, .unset, .unset] [(.int (((p1.toUInt32 >>> ((3 : Int32) &&& 31).toUInt32).toInt32) &&& (255 : Int32)))]))
        exact J4 _ Xj3 (((p1.toUInt32 >>> ((3 : Int32) &&& 31).toUInt32).toInt32) &&& (255 : Int32)) (own_m255 _)
      · skip
        refine Go.by (fun _ => XS.ifNo Xj3.here hx rfl (hb hby at_64) rfl ((if0 _ _).trans (feq hc64_54).1)) ?_
        show Go p.tables e below _ (Tj3.setTop (mkF m 67 #[.val (.int p0), .val (.int p1), .val (.int p2), .val (.int p3), .val (.int p4), .val (.int r1), .val (.int x6), .val (.int y7), .val (.int fl), .val (.int n9), .unset, .unset, .unset, .unset, .unset, .unset, .unset, .unset, .unset, .unset, .unset, .unset, .unset] []))
        refine Go.by (fun _ => XS.iload Xj3.here hx rfl (hb hby at_67) rfl) ?_
        show Go p.tables e below _ (Tj3.setTop (mkF m 69 #[.val (.int p0), .val (.int p1), .val (.int p2), .val (.int p3), .val (.int p4), .val (.int r1), .val (.int x6), .val (.int y7), .val (.int fl), .val (.int n9), .unset, .unset, .unset, .unset, .unset, .unset, .unset, .unset, .unset, .unset, .unset, .unset, .unset] [(.int x6)]))
        refine Go.by (fun _ => XS.goto Xj3.here hx rfl (pc0 := 69) (pc' := 79) rfl (hb hby at_69) (by decide) (by decide)) ?_
        show Go p.tables e below _ (Tj3.setTop (mkF m 79 #[.val (.int p0), .val (.int p1), .val (.int p2), .val (.int p3), .val (.int p4), .val (.int r1), .val (.int x6), .val (.int y7), .val (.int fl), .val (.int n9), .unset, .unset, .unset, .unset, .unset, .unset, .unset, .unset, .unset, .unset, .unset, .unset, .unset] [(.int x6)]))
        exact J4 _ Xj3 x6 b_x6
    by_cases hc43_55 : fl = (0 : Int32)
    · skip
      refine Go.by (fun _ => XS.ifYes Xj2.here hx rfl (pc0 := 43) (pc' := 51) rfl (hb hby at_43) rfl ((if0 _ _).trans (teq hc43_55).1) (by decide) (by decide)) ?_
      show Go p.tables e below _ (Tj2.setTop (mkF m 51 #[.val (.int p0), .val (.int p1), .val (.int p2), .val (.int p3), .val (.int p4), .val (.int r1), .val (.int x6), .val (.int y7), .val (.int fl), .unset, .unset, .unset, .unset, .unset, .unset, .unset, .unset, .unset, .unset, .unset, .unset, .unset, .unset] []))
      refine Go.by (fun _ => XS.iloadN Xj2.here hx rfl (hb hby at_51) rfl) ?_
      show Go p.tables e below _ (Tj2.setTop (mkF m 52 #[.val (.int p0), .val (.int p1), .val (.int p2), .val (.int p3), .val (.int p4), .val (.int r1), .val (.int x6), .val (.int y7), .val (.int fl), .unset, .unset, .unset, .unset, .unset, .unset, .unset, .unset, .unset, .unset, .unset, .unset, .unset, .unset] [(.int p1)]))
      refine Go.by (fun _ => XS.iconst Xj2.here hx rfl (hb hby at_52)) ?_
      show Go p.tables e below _ (Tj2.setTop (mkF m 53 #[.val (.int p0), .val (.int p1), .val (.int p2), .val (.int p3), .val (.int p4), .val (.int r1), .val (.int x6), .val (.int y7), .val (.int fl), .unset, .unset, .unset, .unset, .unset, .unset, .unset, .unset, .unset, .unset, .unset, .unset, .unset, .unset] [(.int (1 : Int32)), (.int p1)]))
      refine Go.by (fun _ => XS.iushr Xj2.here hx rfl (hb hby at_53) rfl) ?_
      show Go p.tables e below _ (Tj2.setTop (mkF m 54 #[.val (.int p0), .val (.int p1), .val (.int p2), .val (.int p3), .val (.int p4), .val (.int r1), .val (.int x6), .val (.int y7), .val (.int fl), .unset, .unset, .unset, .unset, .unset, .unset, .unset, .unset, .unset, .unset, .unset, .unset, .unset, .unset] [(.int ((p1.toUInt32 >>> ((1 : Int32) &&& 31).toUInt32).toInt32))]))
      refine Go.by (fun _ => XS.iconst Xj2.here hx rfl (hb hby at_54)) ?_
      show Go p.tables e below _ (Tj2.setTop (mkF m 55 #[.val (.int p0), .val (.int p1), .val (.int p2), .val (.int p3), .val (.int p4), .val (.int r1), .val (.int x6), .val (.int y7), .val (.int fl), .unset, .unset, .unset, .unset, .unset, .unset, .unset, .unset, .unset, .unset, .unset, .unset, .unset, .unset] [(.int (3 : Int32)), (.int ((p1.toUInt32 >>> ((1 : Int32) &&& 31).toUInt32).toInt32))]))
      refine Go.by (fun _ => XS.iand Xj2.here hx rfl (hb hby at_55) rfl) ?_
      show Go p.tables e below _ (Tj2.setTop (mkF m 56 #[.val (.int p0), .val (.int p1), .val (.int p2), .val (.int p3), .val (.int p4), .val (.int r1), .val (.int x6), .val (.int y7), .val (.int fl), .unset, .unset, .unset, .unset, .unset, .unset, .unset, .unset, .unset, .unset, .unset, .unset, .unset, .unset] [(.int (((p1.toUInt32 >>> ((1 : Int32) &&& 31).toUInt32).toInt32) &&& (3 : Int32)))]))
      refine Go.by (fun _ => XS.iconst Xj2.here hx rfl (hb hby at_56)) ?_
      show Go p.tables e below _ (Tj2.setTop (mkF m 57 #[.val (.int p0), .val (.int p1), .val (.int p2), .val (.int p3), .val (.int p4), .val (.int r1), .val (.int x6), .val (.int y7), .val (.int fl), .unset, .unset, .unset, .unset, .unset, .unset, .unset, .unset, .unset, .unset, .unset, .unset, .unset, .unset] [(.int (2 : Int32)), (.int (((p1.toUInt32 >>> ((1 : Int32) &&& 31).toUInt32).toInt32) &&& (3 : Int32)))]))
      obtain ⟨v56, T56, h56, X56, q56, xs56, st56⟩ := Xj2.callS hx hZ f0n (y := (⟨"java/lang/Math", "min", "(II)I"⟩ : MethodName)) hown (tw hw 0 rfl) (tw hw 1 rfl) (tw hw 2 rfl) (tw hw 3 rfl) (by decide) (rm1 l Z a0 hw [] (((p1.toUInt32 >>> ((1 : Int32) &&& 31).toUInt32).toInt32) &&& (3 : Int32)) (2 : Int32) h0 n0 Z0) (g := (mkF m 57 #[.val (.int p0), .val (.int p1), .val (.int p2), .val (.int p3), .val (.int p4), .val (.int r1), .val (.int x6), .val (.int y7), .val (.int fl), .unset, .unset, .unset, .unset, .unset, .unset, .unset, .unset, .unset, .unset, .unset, .unset, .unset, .unset] [(.int (2 : Int32)), (.int (((p1.toUInt32 >>> ((1 : Int32) &&& 31).toUInt32).toInt32) &&& (3 : Int32)))])) rfl (by rw [hml]; rfl) (argsL := [(.int (((p1.toUInt32 >>> ((1 : Int32) &&& 31).toUInt32).toInt32) &&& (3 : Int32))), (.int (2 : Int32))]) (rest := []) (lenOf pd16 rfl) rfl (hb hby at_57) rfl (by decide) (Nat.le_of_ble_eq_true rfl) (k' := 0) (n' := 0) rfl rfl (by decide) (by decide)
      refine Go.by st56 ?_
      obtain ⟨r56, rfl, hr56, rfl⟩ := q56
      show Go p.tables e below _ (T56.setTop (mkF m 60 #[.val (.int p0), .val (.int p1), .val (.int p2), .val (.int p3), .val (.int p4), .val (.int r1), .val (.int x6), .val (.int y7), .val (.int fl), .unset, .unset, .unset, .unset, .unset, .unset, .unset, .unset, .unset, .unset, .unset, .unset, .unset, .unset] [(.int r56)]))
      exact J3 _ X56 r56 (own_min (own_m3 _) hr56)
    · skip
      refine Go.by (fun _ => XS.ifNo Xj2.here hx rfl (hb hby at_43) rfl ((if0 _ _).trans (feq hc43_55).1)) ?_
      show Go p.tables e below _ (Tj2.setTop (mkF m 46 #[.val (.int p0), .val (.int p1), .val (.int p2), .val (.int p3), .val (.int p4), .val (.int r1), .val (.int x6), .val (.int y7), .val (.int fl), .unset, .unset, .unset, .unset, .unset, .unset, .unset, .unset, .unset, .unset, .unset, .unset, .unset, .unset] []))
      refine Go.by (fun _ => XS.iload Xj2.here hx rfl (hb hby at_46) rfl) ?_
      show Go p.tables e below _ (Tj2.setTop (mkF m 48 #[.val (.int p0), .val (.int p1), .val (.int p2), .val (.int p3), .val (.int p4), .val (.int r1), .val (.int x6), .val (.int y7), .val (.int fl), .unset, .unset, .unset, .unset, .unset, .unset, .unset, .unset, .unset, .unset, .unset, .unset, .unset, .unset] [(.int r1)]))
      refine Go.by (fun _ => XS.goto Xj2.here hx rfl (pc0 := 48) (pc' := 60) rfl (hb hby at_48) (by decide) (by decide)) ?_
      show Go p.tables e below _ (Tj2.setTop (mkF m 60 #[.val (.int p0), .val (.int p1), .val (.int p2), .val (.int p3), .val (.int p4), .val (.int r1), .val (.int x6), .val (.int y7), .val (.int fl), .unset, .unset, .unset, .unset, .unset, .unset, .unset, .unset, .unset, .unset, .unset, .unset, .unset, .unset] [(.int r1)]))
      exact J3 _ Xj2 r1 bn1
  by_cases hc31_57 : (p1 &&& (1 : Int32)) = (0 : Int32)
  · skip
    refine Go.by (fun _ => XS.ifNo X1.here hx rfl (hb hby at_31) rfl ((if0 _ _).trans (teq hc31_57).2)) ?_
    show Go p.tables e below _ (T1.setTop (mkF m 34 #[.val (.int p0), .val (.int p1), .val (.int p2), .val (.int p3), .val (.int p4), .val (.int r1), .val (.int x6), .val (.int y7), .unset, .unset, .unset, .unset, .unset, .unset, .unset, .unset, .unset, .unset, .unset, .unset, .unset, .unset, .unset] []))
    refine Go.by (fun _ => XS.iconst X1.here hx rfl (hb hby at_34)) ?_
    show Go p.tables e below _ (T1.setTop (mkF m 35 #[.val (.int p0), .val (.int p1), .val (.int p2), .val (.int p3), .val (.int p4), .val (.int r1), .val (.int x6), .val (.int y7), .unset, .unset, .unset, .unset, .unset, .unset, .unset, .unset, .unset, .unset, .unset, .unset, .unset, .unset, .unset] [(.int (1 : Int32))]))
    refine Go.by (fun _ => XS.goto X1.here hx rfl (pc0 := 35) (pc' := 39) rfl (hb hby at_35) (by decide) (by decide)) ?_
    show Go p.tables e below _ (T1.setTop (mkF m 39 #[.val (.int p0), .val (.int p1), .val (.int p2), .val (.int p3), .val (.int p4), .val (.int r1), .val (.int x6), .val (.int y7), .unset, .unset, .unset, .unset, .unset, .unset, .unset, .unset, .unset, .unset, .unset, .unset, .unset, .unset, .unset] [(.int (1 : Int32))]))
    exact J2 _ X1 (1 : Int32) trivial
  · skip
    refine Go.by (fun _ => XS.ifYes X1.here hx rfl (pc0 := 31) (pc' := 38) rfl (hb hby at_31) rfl ((if0 _ _).trans (feq hc31_57).2) (by decide) (by decide)) ?_
    show Go p.tables e below _ (T1.setTop (mkF m 38 #[.val (.int p0), .val (.int p1), .val (.int p2), .val (.int p3), .val (.int p4), .val (.int r1), .val (.int x6), .val (.int y7), .unset, .unset, .unset, .unset, .unset, .unset, .unset, .unset, .unset, .unset, .unset, .unset, .unset, .unset, .unset] []))
    refine Go.by (fun _ => XS.iconst X1.here hx rfl (hb hby at_38)) ?_
    show Go p.tables e below _ (T1.setTop (mkF m 39 #[.val (.int p0), .val (.int p1), .val (.int p2), .val (.int p3), .val (.int p4), .val (.int r1), .val (.int x6), .val (.int y7), .unset, .unset, .unset, .unset, .unset, .unset, .unset, .unset, .unset, .unset, .unset, .unset, .unset, .unset, .unset] [(.int (0 : Int32))]))
    exact J2 _ X1 (0 : Int32) trivial
set_option maxRecDepth 65536 in
set_option maxHeartbeats 40000000 in
theorem comes_1 {Post : Tables → Env → Array Value → State → Outcome → State → Prop} (hpost : ∀ tb e args s v u, (limb_1_1.after args s (.returned v) u = true ∧ limb_1_2.after args s (.returned v) u = true ∧ True) → ReturnedEndW s (.returned v) u (Jvm.fieldLocs frame_1_writes args s ++ Jvm.arrayLocs frame_1_arrays args s ++ Jvm.staticLocs frame_1_statics s) 40 1216 → Post tb e args s (.returned v) u) :
    ArmFor flags0 classFile x code maxLocals ret World_1 tables_1 room_1 Calls_1 rest_1 Pre_1 Post := by
  intro l hfl _ _ p e ha hc hk s m args below hf hA hF happ hP
  obtain ⟨hcalls, hrest, hpre⟩ := hP
  obtain ⟨-, -, -, hnamed, -, -, -, hat⟩ := (Spec.applies_iff hf).mp happ
  obtain ⟨hg, hn⟩ := and_e (Cond.before_iff.mp (show (Jvm.Cond.and given_1 narrow_1).before args s = true from hpre))
  obtain ⟨gc, gr0⟩ := and_e hg
  obtain ⟨ga0, gr1⟩ := and_e gr0
  obtain ⟨ga1, gr2⟩ := and_e gr1
  obtain ⟨ga2, gr3⟩ := and_e gr2
  obtain ⟨ga3, ga4⟩ := and_e gr3
  obtain ⟨w0, w1, w2, w3, w4, rfl⟩ : ∃ w0 w1 w2 w3 w4 : Value, args = #[w0, w1, w2, w3, w4] := by
    have hs : args.size = 5 := by simpa [Cond.value, given_1] using gc
    obtain ⟨L⟩ := args
    match L, hs with
    | [w0, w1, w2, w3, w4], _ => exact ⟨w0, w1, w2, w3, w4, rfl⟩
  have hw := fun d (hd : d ∈ tables_1) => atoms_spec (ws := Jvm.Cond.code x code maxLocals ret :: tables_1) hat d (List.mem_cons_of_mem _ hd)
  have hfit : Fit s := fun {y c} hc i hi => by
    obtain ⟨ha, rfl⟩ := Array.getElem?_eq_some_iff.mp hc
    have q := List.all_eq_true.mp ((Array.all_eq_true_iff_forall_mem.mp hF) _ (Array.getElem_mem ha)) i (List.mem_range.mpr hi)
    simpa [Array.getElem?_eq_getElem hi] using q
  obtain ⟨hsets, hown0⟩ := atoms_of _ (rest_1_c_eq ▸ (show rest_1_c.before _ s = true from hrest))
  have hr0 := Cond.before_iff.mp hown0
  obtain ⟨i0, ei0⟩ := is_v ga0
  obtain rfl : w0 = (.int i0) := Option.some.inj ei0
  obtain ⟨i1, ei1⟩ := is_v ga1
  obtain rfl : w1 = (.int i1) := Option.some.inj ei1
  obtain ⟨i2, ei2⟩ := is_v ga2
  obtain rfl : w2 = (.int i2) := Option.some.inj ei2
  obtain ⟨i3, ei3⟩ := is_v ga3
  obtain rfl : w3 = (.int i3) := Option.some.inj ei3
  obtain ⟨i4, ei4⟩ := is_v ga4
  obtain rfl : w4 = (.int i4) := Option.some.inj ei4
  obtain ⟨nw0, nwr0⟩ := and_e hn
  obtain ⟨nw1, nwr1⟩ := and_e nwr0
  obtain ⟨nw2, nwr2⟩ := and_e nwr1
  obtain ⟨nw3, nwr3⟩ := and_e nwr2
  obtain ⟨nw4, nwr4⟩ := and_e nwr3
  obtain ⟨nw5, nwr5⟩ := and_e nwr4
  obtain ⟨nw6, nwr6⟩ := and_e nwr5
  obtain ⟨nw7, nwr7⟩ := and_e nwr6
  obtain ⟨nw8, nwr8⟩ := and_e nwr7
  obtain ⟨nw9, nw10⟩ := and_e nwr8
  obtain ⟨a_NUMERIC, ev_NUMERIC, S_NUMERIC, E_NUMERIC⟩ := sta_exa nw0 (tw hw 45 rfl) (tw hw 46 rfl)
  obtain ⟨a_VARCHAR, ev_VARCHAR, S_VARCHAR, E_VARCHAR⟩ := sta_exa nw1 (tw hw 45 rfl) (tw hw 93 rfl)
  obtain ⟨a_SMALLINT, ev_SMALLINT, S_SMALLINT, E_SMALLINT⟩ := sta_exa nw2 (tw hw 45 rfl) (tw hw 95 rfl)
  obtain ⟨a_TIMESTAMPTZ, ev_TIMESTAMPTZ, S_TIMESTAMPTZ, E_TIMESTAMPTZ⟩ := sta_exa nw3 (tw hw 45 rfl) (tw hw 125 rfl)
  obtain ⟨a_REAL, ev_REAL, S_REAL, E_REAL⟩ := sta_exa nw4 (tw hw 45 rfl) (tw hw 127 rfl)
  obtain ⟨a_INTEGER, ev_INTEGER, S_INTEGER, E_INTEGER⟩ := sta_exa nw5 (tw hw 45 rfl) (tw hw 129 rfl)
  obtain ⟨a_DOUBLE_PRECISION, ev_DOUBLE_PRECISION, S_DOUBLE_PRECISION, E_DOUBLE_PRECISION⟩ := sta_exa nw6 (tw hw 45 rfl) (tw hw 131 rfl)
  obtain ⟨a_TEXT, ev_TEXT, S_TEXT, E_TEXT⟩ := sta_exa nw7 (tw hw 45 rfl) (tw hw 133 rfl)
  obtain ⟨a_JSONB, ev_JSONB, S_JSONB, E_JSONB⟩ := sta_exa nw8 (tw hw 45 rfl) (tw hw 135 rfl)
  obtain ⟨a_BIGINT, ev_BIGINT, S_BIGINT, E_BIGINT⟩ := sta_exa nw9 (tw hw 45 rfl) (tw hw 137 rfl)
  obtain ⟨a_BOOLEAN, ev_BOOLEAN, S_BOOLEAN, E_BOOLEAN⟩ := sta_exa nw10 (tw hw 45 rfl) (tw hw 139 rfl)
  obtain ⟨cs, evcs⟩ := is_v (Cond.before_iff.mp (hsets _ (List.mem_of_getElem? (i := 5) rfl)))
  have S_CS0 : Sta s s.heap "java/lang/String" "COMPACT_STRINGS" "Z" (.int cs) := Sta.start evcs (Or.inl (hsets _ (List.mem_of_getElem? (i := 4) rfl)))
  have hcs : ¬ cs = 0 := gotF (Cond.eq_ints evcs (Term.int_eval 0)) (not_v (Cond.before_iff.mp (hsets _ (List.mem_of_getElem? (i := 6) rfl))))
  have xe := Cond.before_iff.mp (hsets _ (List.mem_of_getElem? (i := 2) rfl))
  obtain ⟨ae, eve⟩ := exa_v xe
  have S_E0 : Sta s s.heap "java/util/Optional" "EMPTY" "Ljava/util/Optional;" (.ref ae) := Sta.start eve (Or.inl (hsets _ (List.mem_of_getElem? (i := 1) rfl)))
  have wcs := hsets _ (List.mem_of_getElem? (i := 6) rfl)
  have hEW : EW s _ EL := (EW.cons (tw hw 33 rfl) (by decide) EW.nil)
  have hCH : CHv s EL s.vm s.heap := CHv.start hEW (show Jvm.Lit.constsHeld consts_1 s from hcalls.1) (show Jvm.Lit.compactW.before _ s = true from wcs) (tw hw 34 rfl) (tw hw 20 rfl)
  obtain ⟨n, o, h1, h2, h3, _, L, rfl, ⟨rfl, N⟩, -, -, hq⟩ := rm0 l s _ hw tables_1 i0 i1 i2 i3 i4 a_SMALLINT a_INTEGER a_NUMERIC a_REAL a_TIMESTAMPTZ a_JSONB a_BIGINT a_DOUBLE_PRECISION a_BOOLEAN a_TEXT a_VARCHAR cs ae s.heap s.heap.size (Nat.le_refl _) (Old.start s) S_CS0 hcs S_SMALLINT S_INTEGER S_NUMERIC S_REAL S_TIMESTAMPTZ S_JSONB S_BIGINT S_DOUBLE_PRECISION S_BOOLEAN S_TEXT S_VARCHAR E_SMALLINT E_INTEGER E_NUMERIC E_REAL E_TIMESTAMPTZ E_JSONB E_BIGINT E_DOUBLE_PRECISION E_BOOLEAN E_TEXT E_VARCHAR S_E0 p e ha hc hk s m _ below hf ((Spec.applies_iff_loose hf).mp happ).1 ⟨rfl, rfl, State.Warmed39.refl s, hCH, ⟨_, hEW⟩, fun _ q => nomatch q⟩ trivial
  refine ⟨n, _, h1, h2, h3, hpost _ _ _ _ _ _ ⟨Cond.after_iff.mpr rfl, Cond.after_iff.mpr (eq_i res_at (Term.int_eval (1)) rfl), trivial⟩ ⟨hq.1, hq.2.1, hq.2.2.1, (hq.2.2.2.sift fun y hy => Or.inr (N y hy)).mono (by decide) (by decide)⟩⟩
theorem main_1_1 : Claimed_1_1 := comes_1 fun _ _ _ _ _ _ h hF => ⟨h.1, hF⟩
theorem main_1_2 : Claimed_1_2 := comes_1 fun _ _ _ _ _ _ h hF => ⟨h.2.1, hF⟩
end Jvm.Pilot.@@N@@
namespace Jvm.Pilot.@@N@@
open Jvm Jvm.ClassFile Sem Op Lib Jvm.Free Jvm.Stand Jvm.Pilot.@@N@@.Jvm.D
/-! MADE BY PROGRAM (witnessworld.py) out of the Statement's table words and the real class files: 37 classes; the members and pool entries that the words name. The judged class is class 1, her method 1. -/
namespace start1
open Jvm.ClassFile
def u (s : String) : CpInfo := .utf8 (stringToUtf16 s)
/-- a pool by its gaps: so many unusable entries, then the entry; so many at the end -/
def gap : Nat → List CpInfo → List CpInfo
  | 0, r => r
  | n + 1, r => .unusable :: gap n r
def poolList (es : List (Nat × CpInfo)) (last : Nat) : List CpInfo := es.foldr (fun e r => gap e.1 (e.2 :: r)) (gap last [])
def pool (es : List (Nat × CpInfo)) (last : Nat) : Array CpInfo := ⟨poolList es last⟩
def fileOf (pool : Array CpInfo) (this : Nat) (attrs : Array Attribute := #[]) (ms : Array MethodInfo := #[]) (fl : Nat := 33) (sup : Nat := 0) (ifs : Array Nat := #[]) (fds : Array FieldInfo := #[]) : ClassFile where
  minorVersion := 0
  majorVersion := 65
  constantPool := pool
  accessFlags := fl
  thisClass := this
  superClass := sup
  interfaces := ifs
  fields := fds
  methods := ms
  attributes := attrs
def plain (name : String) (sup : Option ClassId) : Class where
  name := name
  kind := .ordinary
  loader := none
  accessFlags := 33
  super := sup
  interfaces := #[]
  cf := none
  fields := #[]
  methods := #[]
  instanceTypes := #[]
  staticTypes := #[]
  resolved := #[]
  callSites := []
  init := .initialized
  statics := none
  mirror := none

def pool0 : Array CpInfo := pool [(5, u "<init>"), (0, u "()V"), (1, .class_ 10), (1, u "java/lang/Object")] 113

def k0c0 : Code := { maxStack := 0, maxLocals := 1, code := object_method_1_code, exceptionTable := #[], attributes := #[] }
def k0m0 : Method := { name := "<init>", desc := "()V", sig := { parameters := [], returnType := none }, accessFlags := 1, code := some k0c0 }
/-- java/lang/Object -/
def k0 : Class := { plain "java/lang/Object" none with
  accessFlags := 33
  interfaces := #[]
  cf := some (fileOf pool0 8 #[] #[{ accessFlags := 1, nameIndex := 5, descriptorIndex := 6, attributes := #[] }] 33 0 #[] #[])
  fields := #[]
  methods := #[k0m0]
  instanceTypes := #[]
  staticTypes := #[]
  resolved := Array.replicate 124 none
  statics := none }

def pool1 : Array CpInfo := pool [(2, .class_ 4), (1, u "java/lang/Object"), (0, u "<init>"), (0, u "()V"), (0, .methodref 8 9), (0, .class_ 10), (0, .nameAndType 11 12), (0, u "java/lang/Math"), (0, u "min"), (0, u "(II)I"), (0, .methodref 14 15), (0, .class_ 16), (0, .nameAndType 17 18), (0, u "com/example/interlace/interlace/ColumnHoldsAlikePinLaw"), (0, u "def"), (0, u "(II)Ljava/util/Optional;"), (0, .class_ 20), (0, u "com/example/interlace/interlace/Column"), (0, .methodref 14 22), (0, .nameAndType 23 24), (0, u "name"), (0, u "(III)Ljava/lang/String;"), (0, .methodref 14 26), (0, .nameAndType 27 28), (0, u "type"), (0, u "(I)Lcom/example/interlace/interlace/DataType;"), (0, .methodref 19 30), (0, .nameAndType 5 31), (0, u "(Ljava/lang/String;Lcom/example/interlace/interlace/DataType;IZLjava/util/Optional;)V"), (0, .methodref 19 33), (0, .nameAndType 34 35), (0, u "holdsAlike"), (0, u "(Lcom/example/interlace/interlace/Column;)Z"), (0, .class_ 37), (0, u "java/lang/String"), (0, .methodref 36 39), (0, .nameAndType 5 40), (0, u "([C)V"), (0, .methodref 42 43), (0, .class_ 44), (0, .nameAndType 45 46), (0, u "java/util/Optional"), (0, u "empty"), (0, u "()Ljava/util/Optional;"), (0, .methodref 36 48), (0, .nameAndType 49 50), (0, u "valueOf"), (0, u "(C)Ljava/lang/String;"), (0, .methodref 42 52), (0, .nameAndType 53 54), (0, u "of"), (0, u "(Ljava/lang/Object;)Ljava/util/Optional;"), (0, .fieldref 56 57), (0, .class_ 58), (0, .nameAndType 59 60), (0, u "com/example/interlace/interlace/DataType"), (0, u "SMALLINT"), (0, u "Lcom/example/interlace/interlace/DataType;"), (0, .fieldref 56 62), (0, .nameAndType 63 60), (0, u "INTEGER"), (0, .fieldref 56 65), (0, .nameAndType 66 60), (0, u "NUMERIC"), (0, .fieldref 56 68), (0, .nameAndType 69 60), (0, u "REAL"), (0, .fieldref 56 71), (0, .nameAndType 72 60), (0, u "TIMESTAMPTZ"), (0, .fieldref 56 74), (0, .nameAndType 75 60), (0, u "JSONB"), (0, .fieldref 56 77), (0, .nameAndType 78 60), (0, u "BIGINT"), (0, .fieldref 56 80), (0, .nameAndType 81 60), (0, u "DOUBLE_PRECISION"), (0, .fieldref 56 83), (0, .nameAndType 84 60), (0, u "BOOLEAN"), (0, .fieldref 56 86), (0, .nameAndType 87 60), (0, u "TEXT"), (0, .fieldref 56 89), (0, .nameAndType 90 60), (0, u "VARCHAR"), (2, u "law"), (0, u "(IIIII)Z")] 5

def k1m0 : Method := { name := "<init>", desc := "()V", sig := { parameters := [], returnType := none }, accessFlags := 1, code := none }
def k1c1 : Code := { maxStack := 7, maxLocals := 23, code := code, exceptionTable := #[], attributes := #[] }
def k1m1 : Method := { name := "law", desc := "(IIIII)Z", sig := { parameters := [.int, .int, .int, .int, .int], returnType := some .boolean }, accessFlags := 9, code := some k1c1 }
def k1c2 : Code := { maxStack := 6, maxLocals := 3, code := method_3_code, exceptionTable := #[], attributes := #[] }
def k1m2 : Method := { name := "name", desc := "(III)Ljava/lang/String;", sig := { parameters := [.int, .int, .int], returnType := some (.object "java/lang/String") }, accessFlags := 10, code := some k1c2 }
def k1c3 : Code := { maxStack := 2, maxLocals := 2, code := method_4_code, exceptionTable := #[], attributes := #[] }
def k1m3 : Method := { name := "def", desc := "(II)Ljava/util/Optional;", sig := { parameters := [.int, .int], returnType := some (.object "java/util/Optional") }, accessFlags := 10, code := some k1c3 }
def k1c4 : Code := { maxStack := 2, maxLocals := 1, code := method_5_code, exceptionTable := #[], attributes := #[] }
def k1m4 : Method := { name := "type", desc := "(I)Lcom/example/interlace/interlace/DataType;", sig := { parameters := [.int], returnType := some (.object "com/example/interlace/interlace/DataType") }, accessFlags := 10, code := some k1c4 }
/-- com/example/interlace/interlace/ColumnHoldsAlikePinLaw -/
def k1 : Class := { plain "com/example/interlace/interlace/ColumnHoldsAlikePinLaw" (some 0) with
  accessFlags := 49
  interfaces := #[]
  cf := some (fileOf pool1 14 #[] #[{ accessFlags := 1, nameIndex := 5, descriptorIndex := 6, attributes := #[] }, { accessFlags := 9, nameIndex := 93, descriptorIndex := 94, attributes := #[] }, { accessFlags := 10, nameIndex := 23, descriptorIndex := 24, attributes := #[] }, { accessFlags := 10, nameIndex := 17, descriptorIndex := 18, attributes := #[] }, { accessFlags := 10, nameIndex := 27, descriptorIndex := 28, attributes := #[] }] 49 2 #[] #[])
  fields := #[]
  methods := #[k1m0, k1m1, k1m2, k1m3, k1m4]
  instanceTypes := #[]
  staticTypes := #[]
  resolved := Array.replicate 100 none
  statics := none }

def pool2 : Array CpInfo := pool [(1, .class_ 2), (0, u "java/lang/Math"), (1, .class_ 6), (1, u "java/lang/Object"), (0, u "<init>"), (0, u "()V"), (89, .class_ 100), (1, u "java/lang/Math$RandomNumberGeneratorHolder"), (71, u "negativeZeroFloatBits"), (0, u "J"), (2, u "negativeZeroDoubleBits"), (24, u "min"), (43, u "$assertionsDisabled"), (0, u "Z"), (88, u "(II)I"), (2, u "twoToTheDoubleScaleDown"), (0, u "D"), (4, u "twoToTheDoubleScaleUp"), (9, u "E"), (3, u "PI"), (2, u "TAU"), (2, u "DEGREES_TO_RADIANS"), (0, u "RADIANS_TO_DEGREES")] 94

def k2m0 : Method := { name := "<init>", desc := "()V", sig := { parameters := [], returnType := none }, accessFlags := 2, code := none }
def k2c1 : Code := { maxStack := 2, maxLocals := 2, code := jdk_29_method_69_code, exceptionTable := #[], attributes := #[] }
def k2m1 : Method := { name := "min", desc := "(II)I", sig := { parameters := [.int, .int], returnType := some .int }, accessFlags := 9, code := some k2c1 }
/-- java/lang/Math -/
def k2 : Class := { plain "java/lang/Math" (some 0) with
  accessFlags := 49
  interfaces := #[]
  cf := some (fileOf pool2 1 #[.nestMembers #[98]] #[{ accessFlags := 2, nameIndex := 7, descriptorIndex := 8, attributes := #[] }, { accessFlags := 9, nameIndex := 201, descriptorIndex := 335, attributes := #[] }] 49 4 #[] #[{ accessFlags := 25, nameIndex := 354, descriptorIndex := 339, attributes := #[] }, { accessFlags := 25, nameIndex := 358, descriptorIndex := 339, attributes := #[] }, { accessFlags := 25, nameIndex := 361, descriptorIndex := 339, attributes := #[] }, { accessFlags := 26, nameIndex := 364, descriptorIndex := 339, attributes := #[] }, { accessFlags := 26, nameIndex := 365, descriptorIndex := 339, attributes := #[] }, { accessFlags := 26, nameIndex := 172, descriptorIndex := 173, attributes := #[] }, { accessFlags := 26, nameIndex := 176, descriptorIndex := 173, attributes := #[] }, { accessFlags := 8, nameIndex := 344, descriptorIndex := 339, attributes := #[] }, { accessFlags := 8, nameIndex := 338, descriptorIndex := 339, attributes := #[] }, { accessFlags := 4120, nameIndex := 245, descriptorIndex := 246, attributes := #[] }])
  fields := #[{ name := "E", type := .double, accessFlags := 25, slot := 0, constantValue := 0 }, { name := "PI", type := .double, accessFlags := 25, slot := 1, constantValue := 0 }, { name := "TAU", type := .double, accessFlags := 25, slot := 2, constantValue := 0 }, { name := "DEGREES_TO_RADIANS", type := .double, accessFlags := 26, slot := 3, constantValue := 0 }, { name := "RADIANS_TO_DEGREES", type := .double, accessFlags := 26, slot := 4, constantValue := 0 }, { name := "negativeZeroFloatBits", type := .long, accessFlags := 26, slot := 5, constantValue := 0 }, { name := "negativeZeroDoubleBits", type := .long, accessFlags := 26, slot := 6, constantValue := 0 }, { name := "twoToTheDoubleScaleUp", type := .double, accessFlags := 8, slot := 7, constantValue := 0 }, { name := "twoToTheDoubleScaleDown", type := .double, accessFlags := 8, slot := 8, constantValue := 0 }, { name := "$assertionsDisabled", type := .boolean, accessFlags := 4120, slot := 9, constantValue := 0 }]
  methods := #[k2m0, k2m1]
  instanceTypes := #[]
  staticTypes := #[.double, .double, .double, .double, .double, .long, .long, .double, .double, .boolean]
  resolved := Array.replicate 460 none
  statics := none }

def pool3 : Array CpInfo := pool [(1, .fieldref 2 3), (0, .class_ 4), (0, .nameAndType 5 6), (0, u "java/util/Optional"), (0, u "EMPTY"), (0, u "Ljava/util/Optional;"), (0, .methodref 8 9), (0, .class_ 10), (0, .nameAndType 11 12), (0, u "java/lang/Object"), (0, u "<init>"), (0, u "()V"), (0, .fieldref 2 14), (0, .nameAndType 15 16), (0, u "value"), (0, u "Ljava/lang/Object;"), (0, .methodref 18 19), (0, .class_ 20), (0, .nameAndType 21 22), (0, u "java/util/Objects"), (0, u "requireNonNull"), (0, u "(Ljava/lang/Object;)Ljava/lang/Object;"), (0, .methodref 2 24), (0, .nameAndType 11 25), (0, u "(Ljava/lang/Object;)V"), (29, u "empty"), (0, u "()Ljava/util/Optional;"), (8, u "(Ljava/lang/Object;)Ljava/util/Optional;"), (16, u "of")] 104

def k3c0 : Code := { maxStack := 1, maxLocals := 1, code := jdk_32_method_1_code, exceptionTable := #[], attributes := #[] }
def k3m0 : Method := { name := "empty", desc := "()Ljava/util/Optional;", sig := { parameters := [], returnType := some (.object "java/util/Optional") }, accessFlags := 9, code := some k3c0 }
def k3c1 : Code := { maxStack := 2, maxLocals := 2, code := jdk_32_method_2_code, exceptionTable := #[], attributes := #[] }
def k3m1 : Method := { name := "<init>", desc := "(Ljava/lang/Object;)V", sig := { parameters := [(.object "java/lang/Object")], returnType := none }, accessFlags := 2, code := some k3c1 }
def k3c2 : Code := { maxStack := 3, maxLocals := 1, code := jdk_32_method_3_code, exceptionTable := #[], attributes := #[] }
def k3m2 : Method := { name := "of", desc := "(Ljava/lang/Object;)Ljava/util/Optional;", sig := { parameters := [(.object "java/lang/Object")], returnType := some (.object "java/util/Optional") }, accessFlags := 9, code := some k3c2 }
/-- java/util/Optional -/
def k3 : Class := { plain "java/util/Optional" (some 0) with
  accessFlags := 49
  interfaces := #[]
  cf := some (fileOf pool3 2 #[] #[{ accessFlags := 9, nameIndex := 55, descriptorIndex := 56, attributes := #[] }, { accessFlags := 2, nameIndex := 11, descriptorIndex := 25, attributes := #[] }, { accessFlags := 9, nameIndex := 82, descriptorIndex := 65, attributes := #[] }] 49 8 #[] #[{ accessFlags := 26, nameIndex := 5, descriptorIndex := 6, attributes := #[] }, { accessFlags := 18, nameIndex := 15, descriptorIndex := 16, attributes := #[] }])
  fields := #[{ name := "EMPTY", type := (.object "java/util/Optional"), accessFlags := 26, slot := 0, constantValue := 0 }, { name := "value", type := (.object "java/lang/Object"), accessFlags := 18, slot := 0, constantValue := 0 }]
  methods := #[k3m0, k3m1, k3m2]
  instanceTypes := #[(.object "java/lang/Object")]
  staticTypes := #[(.object "java/util/Optional")]
  resolved := Array.replicate 187 none
  statics := some 0 }

def pool4 : Array CpInfo := pool [(1, .methodref 2 3), (0, .class_ 4), (0, .nameAndType 5 6), (0, u "java/lang/Object"), (0, u "<init>"), (0, u "()V"), (0, .class_ 8), (0, u "java/lang/Record")] 13

def k4c0 : Code := { maxStack := 1, maxLocals := 1, code := jdk_30_method_1_code, exceptionTable := #[], attributes := #[] }
def k4m0 : Method := { name := "<init>", desc := "()V", sig := { parameters := [], returnType := none }, accessFlags := 4, code := some k4c0 }
/-- java/lang/Record -/
def k4 : Class := { plain "java/lang/Record" (some 0) with
  accessFlags := 1057
  interfaces := #[]
  cf := some (fileOf pool4 7 #[] #[{ accessFlags := 4, nameIndex := 5, descriptorIndex := 6, attributes := #[] }] 1057 2 #[] #[])
  fields := #[]
  methods := #[k4m0]
  instanceTypes := #[]
  staticTypes := #[]
  resolved := Array.replicate 22 none
  statics := none }

def pool5 : Array CpInfo := pool [(1, .methodref 2 3), (0, .class_ 4), (0, .nameAndType 5 6), (0, u "java/lang/Record"), (0, u "<init>"), (0, u "()V"), (0, .fieldref 8 9), (0, .class_ 10), (0, .nameAndType 11 12), (0, u "com/example/interlace/interlace/Column"), (0, u "name"), (0, u "Ljava/lang/String;"), (0, .fieldref 8 14), (0, .nameAndType 15 16), (0, u "type"), (0, u "Lcom/example/interlace/interlace/DataType;"), (0, .fieldref 8 18), (0, .nameAndType 19 20), (0, u "maxLength"), (0, u "I"), (0, .fieldref 8 22), (0, .nameAndType 23 24), (0, u "notNull"), (0, u "Z"), (0, .fieldref 8 26), (0, .nameAndType 27 28), (0, u "defaultExpression"), (0, u "Ljava/util/Optional;"), (42, u "(Ljava/lang/Object;)Z"), (12, .class_ 86), (1, u "java/lang/String"), (13, u "(Ljava/lang/String;Lcom/example/interlace/interlace/DataType;IZLjava/util/Optional;)V"), (0, .methodref 84 102), (0, .nameAndType 103 71), (0, u "equals"), (62, u "NO_LIMIT"), (2, u "MAX_LIMIT"), (20, u "holdsAlike"), (0, u "(Lcom/example/interlace/interlace/Column;)Z")] 63

def k5c0 : Code := { maxStack := 2, maxLocals := 6, code := prog_11_method_2_code, exceptionTable := #[], attributes := #[] }
def k5m0 : Method := { name := "<init>", desc := "(Ljava/lang/String;Lcom/example/interlace/interlace/DataType;IZLjava/util/Optional;)V", sig := { parameters := [(.object "java/lang/String"), (.object "com/example/interlace/interlace/DataType"), .int, .boolean, (.object "java/util/Optional")], returnType := none }, accessFlags := 0, code := some k5c0 }
def k5c1 : Code := { maxStack := 2, maxLocals := 2, code := prog_11_method_9_code, exceptionTable := #[], attributes := #[] }
def k5m1 : Method := { name := "holdsAlike", desc := "(Lcom/example/interlace/interlace/Column;)Z", sig := { parameters := [(.object "com/example/interlace/interlace/Column")], returnType := some .boolean }, accessFlags := 0, code := some k5c1 }
/-- com/example/interlace/interlace/Column -/
def k5 : Class := { plain "com/example/interlace/interlace/Column" (some 4) with
  accessFlags := 48
  interfaces := #[]
  cf := some (fileOf pool5 8 #[] #[{ accessFlags := 0, nameIndex := 5, descriptorIndex := 100, attributes := #[] }, { accessFlags := 0, nameIndex := 190, descriptorIndex := 191, attributes := #[] }] 48 2 #[] #[{ accessFlags := 18, nameIndex := 11, descriptorIndex := 12, attributes := #[] }, { accessFlags := 18, nameIndex := 15, descriptorIndex := 16, attributes := #[] }, { accessFlags := 18, nameIndex := 19, descriptorIndex := 20, attributes := #[] }, { accessFlags := 18, nameIndex := 23, descriptorIndex := 24, attributes := #[] }, { accessFlags := 18, nameIndex := 27, descriptorIndex := 28, attributes := #[] }, { accessFlags := 24, nameIndex := 166, descriptorIndex := 20, attributes := #[] }, { accessFlags := 24, nameIndex := 169, descriptorIndex := 20, attributes := #[] }])
  fields := #[{ name := "name", type := (.object "java/lang/String"), accessFlags := 18, slot := 0, constantValue := 0 }, { name := "type", type := (.object "com/example/interlace/interlace/DataType"), accessFlags := 18, slot := 1, constantValue := 0 }, { name := "maxLength", type := .int, accessFlags := 18, slot := 2, constantValue := 0 }, { name := "notNull", type := .boolean, accessFlags := 18, slot := 3, constantValue := 0 }, { name := "defaultExpression", type := (.object "java/util/Optional"), accessFlags := 18, slot := 4, constantValue := 0 }, { name := "NO_LIMIT", type := .int, accessFlags := 24, slot := 0, constantValue := 0 }, { name := "MAX_LIMIT", type := .int, accessFlags := 24, slot := 1, constantValue := 0 }]
  methods := #[k5m0, k5m1]
  instanceTypes := #[(.object "java/lang/String"), (.object "com/example/interlace/interlace/DataType"), .int, .boolean, (.object "java/util/Optional")]
  staticTypes := #[.int, .int]
  resolved := Array.replicate 255 none
  statics := none }

def pool6 : Array CpInfo := pool [(1, .class_ 2), (0, u "java/io/Serializable"), (0, .class_ 4), (0, u "java/lang/Object")] 2

/-- java/io/Serializable -/
def k6 : Class := { plain "java/io/Serializable" (some 0) with
  accessFlags := 1537
  interfaces := #[]
  cf := some (fileOf pool6 1 #[] #[] 1537 3 #[] #[])
  fields := #[]
  methods := #[]
  instanceTypes := #[]
  staticTypes := #[]
  resolved := Array.replicate 7 none
  statics := none }

def pool7 : Array CpInfo := pool [(1, .class_ 2), (0, u "java/lang/Comparable"), (0, .class_ 4), (0, u "java/lang/Object")] 7

/-- java/lang/Comparable -/
def k7 : Class := { plain "java/lang/Comparable" (some 0) with
  accessFlags := 1537
  interfaces := #[]
  cf := some (fileOf pool7 1 #[] #[] 1537 3 #[] #[])
  fields := #[]
  methods := #[]
  instanceTypes := #[]
  staticTypes := #[]
  resolved := Array.replicate 12 none
  statics := none }

def pool8 : Array CpInfo := pool [(2, .class_ 4), (1, u "java/lang/CharSequence"), (42, .class_ 48), (0, u "java/lang/CharSequence$1CodePointIterator"), (10, .class_ 60), (0, u "java/lang/CharSequence$1CharIterator"), (5, .class_ 67), (0, u "java/lang/Object")] 63

/-- java/lang/CharSequence -/
def k8 : Class := { plain "java/lang/CharSequence" (some 0) with
  accessFlags := 1537
  interfaces := #[]
  cf := some (fileOf pool8 2 #[.nestMembers #[47, 59]] #[] 1537 66 #[] #[])
  fields := #[]
  methods := #[]
  instanceTypes := #[]
  staticTypes := #[]
  resolved := Array.replicate 131 none
  statics := none }

def pool9 : Array CpInfo := pool [(1, .class_ 2), (0, u "java/lang/constant/Constable"), (0, .class_ 4), (0, u "java/lang/Object")] 6

/-- java/lang/constant/Constable -/
def k9 : Class := { plain "java/lang/constant/Constable" (some 0) with
  accessFlags := 1537
  interfaces := #[]
  cf := some (fileOf pool9 1 #[] #[] 1537 3 #[] #[])
  fields := #[]
  methods := #[]
  instanceTypes := #[]
  staticTypes := #[]
  resolved := Array.replicate 11 none
  statics := none }

def pool10 : Array CpInfo := pool [(1, .class_ 2), (0, u "java/lang/constant/ConstantDesc"), (0, .class_ 4), (0, u "java/lang/Object")] 32

/-- java/lang/constant/ConstantDesc -/
def k10 : Class := { plain "java/lang/constant/ConstantDesc" (some 0) with
  accessFlags := 1537
  interfaces := #[]
  cf := some (fileOf pool10 1 #[] #[] 1537 3 #[] #[])
  fields := #[]
  methods := #[]
  instanceTypes := #[]
  staticTypes := #[]
  resolved := Array.replicate 37 none
  statics := none }

def pool11 : Array CpInfo := pool [(1, .methodref 2 3), (0, .class_ 4), (0, .nameAndType 5 6), (0, u "java/lang/Object"), (0, u "<init>"), (0, u "()V"), (0, .string 8), (0, u ""), (0, .fieldref 10 11), (0, .class_ 12), (0, .nameAndType 13 14), (0, u "java/lang/String"), (0, u "value"), (0, u "[B"), (0, .fieldref 10 16), (0, .nameAndType 17 18), (0, u "coder"), (0, u "B"), (2, u "hash"), (0, u "I"), (2, u "hashIsZero"), (0, u "Z"), (0, .methodref 10 28), (0, .nameAndType 5 29), (0, u "([CIILjava/lang/Void;)V"), (8, .fieldref 10 39), (0, .nameAndType 40 26), (0, u "COMPACT_STRINGS"), (1, .class_ 44), (1, u "java/lang/StringUTF16"), (0, u "compress"), (1, .methodref 42 48), (0, .nameAndType 49 50), (0, u "coderFromArrayLen"), (0, u "([BI)B"), (2, u "toBytes"), (53, .class_ 109), (1, u "java/lang/StringLatin1"), (67, .methodref 42 178), (0, .nameAndType 45 179), (0, u "([CII)[B"), (29, .methodref 10 210), (0, .nameAndType 5 211), (0, u "([BB)V"), (157, u "(C)Z"), (171, .methodref 107 542), (0, .nameAndType 543 544), (0, u "equals"), (0, u "([B[B)Z"), (28, u "(Ljava/lang/Object;)Z"), (1, .class_ 576), (0, u "java/lang/CharSequence"), (22, u "CASE_INSENSITIVE_ORDER"), (0, u "Ljava/util/Comparator;"), (181, u "valueOf"), (0, u "(C)Ljava/lang/String;"), (226, u "([C)V"), (4, .methodref 107 1016), (0, .nameAndType 1017 369), (0, u "canEncode"), (0, .methodref 107 1019), (0, .nameAndType 53 1020), (0, u "(C)[B"), (80, u "serialPersistentFields"), (0, u "[Ljava/io/ObjectStreamField;"), (0, .class_ 1104), (0, u "java/lang/String$CaseInsensitiveComparator"), (1, .class_ 1107), (0, u "java/io/Serializable"), (0, .class_ 1109), (0, u "java/lang/Comparable"), (0, .class_ 1111), (0, u "java/lang/constant/Constable"), (0, .class_ 1113), (0, u "java/lang/constant/ConstantDesc"), (2, u "serialVersionUID"), (0, u "J"), (3, u "REPL"), (0, u "C"), (2, u "LATIN1"), (1, u "UTF16")] 323

def k11m0 : Method := { name := "<init>", desc := "()V", sig := { parameters := [], returnType := none }, accessFlags := 1, code := none }
def k11c1 : Code := { maxStack := 5, maxLocals := 2, code := jdk_42_method_3_code, exceptionTable := #[], attributes := #[] }
def k11m1 : Method := { name := "<init>", desc := "([C)V", sig := { parameters := [(.array .char)], returnType := none }, accessFlags := 1, code := some k11c1 }
def k11c2 : Code := { maxStack := 2, maxLocals := 3, code := jdk_42_method_66_code, exceptionTable := #[], attributes := #[] }
def k11m2 : Method := { name := "equals", desc := "(Ljava/lang/Object;)Z", sig := { parameters := [(.object "java/lang/Object")], returnType := some .boolean }, accessFlags := 1, code := some k11c2 }
def k11c3 : Code := { maxStack := 4, maxLocals := 1, code := jdk_42_method_139_code, exceptionTable := #[], attributes := #[] }
def k11m3 : Method := { name := "valueOf", desc := "(C)Ljava/lang/String;", sig := { parameters := [.char], returnType := some (.object "java/lang/String") }, accessFlags := 9, code := some k11c3 }
def k11c4 : Code := { maxStack := 4, maxLocals := 6, code := jdk_42_method_149_code, exceptionTable := #[], attributes := #[] }
def k11m4 : Method := { name := "<init>", desc := "([CIILjava/lang/Void;)V", sig := { parameters := [(.array .char), .int, .int, (.object "java/lang/Void")], returnType := none }, accessFlags := 2, code := some k11c4 }
def k11c5 : Code := { maxStack := 2, maxLocals := 3, code := jdk_42_method_151_code, exceptionTable := #[], attributes := #[] }
def k11m5 : Method := { name := "<init>", desc := "([BB)V", sig := { parameters := [(.array .byte), .byte], returnType := none }, accessFlags := 0, code := some k11c5 }
/-- java/lang/String -/
def k11 : Class := { plain "java/lang/String" (some 0) with
  accessFlags := 49
  interfaces := #[6, 7, 8, 9, 10]
  cf := some (fileOf pool11 10 #[.nestMembers #[1103]] #[{ accessFlags := 1, nameIndex := 5, descriptorIndex := 6, attributes := #[] }, { accessFlags := 1, nameIndex := 5, descriptorIndex := 1010, attributes := #[] }, { accessFlags := 1, nameIndex := 543, descriptorIndex := 573, attributes := #[] }, { accessFlags := 9, nameIndex := 782, descriptorIndex := 783, attributes := #[] }, { accessFlags := 2, nameIndex := 5, descriptorIndex := 29, attributes := #[] }, { accessFlags := 0, nameIndex := 5, descriptorIndex := 211, attributes := #[] }] 49 2 #[1106, 1108, 575, 1110, 1112] #[{ accessFlags := 18, nameIndex := 13, descriptorIndex := 14, attributes := #[] }, { accessFlags := 18, nameIndex := 17, descriptorIndex := 18, attributes := #[] }, { accessFlags := 2, nameIndex := 21, descriptorIndex := 22, attributes := #[] }, { accessFlags := 2, nameIndex := 25, descriptorIndex := 26, attributes := #[] }, { accessFlags := 26, nameIndex := 1116, descriptorIndex := 1117, attributes := #[] }, { accessFlags := 24, nameIndex := 40, descriptorIndex := 26, attributes := #[] }, { accessFlags := 26, nameIndex := 1101, descriptorIndex := 1102, attributes := #[] }, { accessFlags := 26, nameIndex := 1121, descriptorIndex := 1122, attributes := #[] }, { accessFlags := 25, nameIndex := 599, descriptorIndex := 600, attributes := #[] }, { accessFlags := 24, nameIndex := 1125, descriptorIndex := 18, attributes := #[] }, { accessFlags := 24, nameIndex := 1127, descriptorIndex := 18, attributes := #[] }])
  fields := #[{ name := "value", type := (.array .byte), accessFlags := 18, slot := 0, constantValue := 0 }, { name := "coder", type := .byte, accessFlags := 18, slot := 1, constantValue := 0 }, { name := "hash", type := .int, accessFlags := 2, slot := 2, constantValue := 0 }, { name := "hashIsZero", type := .boolean, accessFlags := 2, slot := 3, constantValue := 0 }, { name := "serialVersionUID", type := .long, accessFlags := 26, slot := 0, constantValue := 0 }, { name := "COMPACT_STRINGS", type := .boolean, accessFlags := 24, slot := 1, constantValue := 0 }, { name := "serialPersistentFields", type := (.array (.object "java/io/ObjectStreamField")), accessFlags := 26, slot := 2, constantValue := 0 }, { name := "REPL", type := .char, accessFlags := 26, slot := 3, constantValue := 0 }, { name := "CASE_INSENSITIVE_ORDER", type := (.object "java/util/Comparator"), accessFlags := 25, slot := 4, constantValue := 0 }, { name := "LATIN1", type := .byte, accessFlags := 24, slot := 5, constantValue := 0 }, { name := "UTF16", type := .byte, accessFlags := 24, slot := 6, constantValue := 0 }]
  methods := #[k11m0, k11m1, k11m2, k11m3, k11m4, k11m5]
  instanceTypes := #[(.array .byte), .byte, .int, .boolean]
  staticTypes := #[.long, .boolean, (.array (.object "java/io/ObjectStreamField")), .char, (.object "java/util/Comparator"), .byte, .byte]
  resolved := Array.replicate 1451 none
  statics := some 1 }

def pool12 : Array CpInfo := pool [(2, .class_ 4), (1, u "java/lang/Enum"), (0, u "name"), (0, u "Ljava/lang/String;"), (2, u "ordinal"), (0, u "I"), (1, .class_ 14), (1, u "java/lang/Object"), (4, u "hash"), (86, .class_ 108), (1, u "java/lang/Enum$EnumDesc"), (2, .class_ 112), (0, u "java/lang/constant/Constable"), (0, .class_ 114), (0, u "java/lang/Comparable"), (0, .class_ 116), (0, u "java/io/Serializable")] 87

/-- java/lang/Enum -/
def k12 : Class := { plain "java/lang/Enum" (some 0) with
  accessFlags := 1057
  interfaces := #[9, 7, 6]
  cf := some (fileOf pool12 2 #[.nestMembers #[106]] #[] 1057 12 #[111, 113, 115] #[{ accessFlags := 18, nameIndex := 5, descriptorIndex := 6, attributes := #[] }, { accessFlags := 18, nameIndex := 9, descriptorIndex := 10, attributes := #[] }, { accessFlags := 2, nameIndex := 19, descriptorIndex := 10, attributes := #[] }])
  fields := #[{ name := "name", type := (.object "java/lang/String"), accessFlags := 18, slot := 0, constantValue := 0 }, { name := "ordinal", type := .int, accessFlags := 18, slot := 1, constantValue := 0 }, { name := "hash", type := .int, accessFlags := 2, slot := 2, constantValue := 0 }]
  methods := #[]
  instanceTypes := #[(.object "java/lang/String"), .int, .int]
  staticTypes := #[]
  resolved := Array.replicate 204 none
  statics := none }

def pool13 : Array CpInfo := pool [(3, .class_ 4), (0, u "com/example/interlace/interlace/DataType"), (2, u "SMALLINT"), (0, u "Lcom/example/interlace/interlace/DataType;"), (2, u "INTEGER"), (2, u "NUMERIC"), (2, u "REAL"), (2, u "TIMESTAMPTZ"), (2, u "JSONB"), (2, u "BIGINT"), (2, u "DOUBLE_PRECISION"), (2, u "BOOLEAN"), (2, u "TEXT"), (2, u "VARCHAR"), (2, u "BYTEA"), (2, u "$VALUES"), (0, u "[Lcom/example/interlace/interlace/DataType;"), (6, .class_ 54), (1, u "java/lang/Enum"), (8, u "displayName"), (0, u "Ljava/lang/String;"), (2, u "oid"), (0, u "I"), (2, u "size"), (30, u "INTEGER_TEXT"), (0, u "Ljava/util/regex/Pattern;"), (353, .class_ 458), (0, u "com/example/interlace/interlace/DataType$1"), (6, .class_ 466), (0, u "com/example/interlace/interlace/DataType$2"), (4, .class_ 472), (0, u "com/example/interlace/interlace/DataType$3"), (4, .class_ 478), (0, u "com/example/interlace/interlace/DataType$4"), (4, .class_ 484), (0, u "com/example/interlace/interlace/DataType$5"), (4, .class_ 490), (0, u "com/example/interlace/interlace/DataType$6"), (4, .class_ 496), (0, u "com/example/interlace/interlace/DataType$7"), (4, .class_ 502), (0, u "com/example/interlace/interlace/DataType$8"), (4, .class_ 508), (0, u "com/example/interlace/interlace/DataType$9"), (4, .class_ 514), (0, u "com/example/interlace/interlace/DataType$10"), (4, .class_ 520), (0, u "com/example/interlace/interlace/DataType$11"), (4, .class_ 526), (0, u "com/example/interlace/interlace/DataType$12"), (17, u "NUMERIC_SPECIALS"), (0, u "MAX_NUMERIC_INTEGER_DIGITS"), (2, u "MAX_NUMERIC_FRACTION_DIGITS"), (1, u "NUMERIC_EXPONENT_LIMIT"), (0, u "J"), (0, u "POSTGRES_EPOCH")] 87

/-- com/example/interlace/interlace/DataType -/
def k13 : Class := { plain "com/example/interlace/interlace/DataType" (some 12) with
  accessFlags := 17440
  interfaces := #[]
  cf := some (fileOf pool13 3 #[.nestMembers #[525, 519, 513, 507, 501, 495, 489, 483, 477, 471, 465, 457]] #[] 17440 52 #[] #[{ accessFlags := 16409, nameIndex := 7, descriptorIndex := 8, attributes := #[] }, { accessFlags := 16409, nameIndex := 11, descriptorIndex := 8, attributes := #[] }, { accessFlags := 16409, nameIndex := 14, descriptorIndex := 8, attributes := #[] }, { accessFlags := 16409, nameIndex := 17, descriptorIndex := 8, attributes := #[] }, { accessFlags := 16409, nameIndex := 20, descriptorIndex := 8, attributes := #[] }, { accessFlags := 16409, nameIndex := 23, descriptorIndex := 8, attributes := #[] }, { accessFlags := 16409, nameIndex := 26, descriptorIndex := 8, attributes := #[] }, { accessFlags := 16409, nameIndex := 29, descriptorIndex := 8, attributes := #[] }, { accessFlags := 16409, nameIndex := 32, descriptorIndex := 8, attributes := #[] }, { accessFlags := 16409, nameIndex := 35, descriptorIndex := 8, attributes := #[] }, { accessFlags := 16409, nameIndex := 38, descriptorIndex := 8, attributes := #[] }, { accessFlags := 16409, nameIndex := 41, descriptorIndex := 8, attributes := #[] }, { accessFlags := 26, nameIndex := 102, descriptorIndex := 103, attributes := #[] }, { accessFlags := 26, nameIndex := 544, descriptorIndex := 103, attributes := #[] }, { accessFlags := 26, nameIndex := 545, descriptorIndex := 68, attributes := #[] }, { accessFlags := 24, nameIndex := 548, descriptorIndex := 68, attributes := #[] }, { accessFlags := 26, nameIndex := 550, descriptorIndex := 551, attributes := #[] }, { accessFlags := 26, nameIndex := 552, descriptorIndex := 551, attributes := #[] }, { accessFlags := 18, nameIndex := 63, descriptorIndex := 64, attributes := #[] }, { accessFlags := 18, nameIndex := 67, descriptorIndex := 68, attributes := #[] }, { accessFlags := 18, nameIndex := 71, descriptorIndex := 68, attributes := #[] }, { accessFlags := 4122, nameIndex := 44, descriptorIndex := 45, attributes := #[] }])
  fields := #[{ name := "SMALLINT", type := (.object "com/example/interlace/interlace/DataType"), accessFlags := 16409, slot := 0, constantValue := 0 }, { name := "INTEGER", type := (.object "com/example/interlace/interlace/DataType"), accessFlags := 16409, slot := 1, constantValue := 0 }, { name := "NUMERIC", type := (.object "com/example/interlace/interlace/DataType"), accessFlags := 16409, slot := 2, constantValue := 0 }, { name := "REAL", type := (.object "com/example/interlace/interlace/DataType"), accessFlags := 16409, slot := 3, constantValue := 0 }, { name := "TIMESTAMPTZ", type := (.object "com/example/interlace/interlace/DataType"), accessFlags := 16409, slot := 4, constantValue := 0 }, { name := "JSONB", type := (.object "com/example/interlace/interlace/DataType"), accessFlags := 16409, slot := 5, constantValue := 0 }, { name := "BIGINT", type := (.object "com/example/interlace/interlace/DataType"), accessFlags := 16409, slot := 6, constantValue := 0 }, { name := "DOUBLE_PRECISION", type := (.object "com/example/interlace/interlace/DataType"), accessFlags := 16409, slot := 7, constantValue := 0 }, { name := "BOOLEAN", type := (.object "com/example/interlace/interlace/DataType"), accessFlags := 16409, slot := 8, constantValue := 0 }, { name := "TEXT", type := (.object "com/example/interlace/interlace/DataType"), accessFlags := 16409, slot := 9, constantValue := 0 }, { name := "VARCHAR", type := (.object "com/example/interlace/interlace/DataType"), accessFlags := 16409, slot := 10, constantValue := 0 }, { name := "BYTEA", type := (.object "com/example/interlace/interlace/DataType"), accessFlags := 16409, slot := 11, constantValue := 0 }, { name := "INTEGER_TEXT", type := (.object "java/util/regex/Pattern"), accessFlags := 26, slot := 12, constantValue := 0 }, { name := "NUMERIC_SPECIALS", type := (.object "java/util/regex/Pattern"), accessFlags := 26, slot := 13, constantValue := 0 }, { name := "MAX_NUMERIC_INTEGER_DIGITS", type := .int, accessFlags := 26, slot := 14, constantValue := 0 }, { name := "MAX_NUMERIC_FRACTION_DIGITS", type := .int, accessFlags := 24, slot := 15, constantValue := 0 }, { name := "NUMERIC_EXPONENT_LIMIT", type := .long, accessFlags := 26, slot := 16, constantValue := 0 }, { name := "POSTGRES_EPOCH", type := .long, accessFlags := 26, slot := 17, constantValue := 0 }, { name := "displayName", type := (.object "java/lang/String"), accessFlags := 18, slot := 3, constantValue := 0 }, { name := "oid", type := .int, accessFlags := 18, slot := 4, constantValue := 0 }, { name := "size", type := .int, accessFlags := 18, slot := 5, constantValue := 0 }, { name := "$VALUES", type := (.array (.object "com/example/interlace/interlace/DataType")), accessFlags := 4122, slot := 18, constantValue := 0 }]
  methods := #[]
  instanceTypes := #[(.object "java/lang/String"), .int, .int, (.object "java/lang/String"), .int, .int]
  staticTypes := #[(.object "com/example/interlace/interlace/DataType"), (.object "com/example/interlace/interlace/DataType"), (.object "com/example/interlace/interlace/DataType"), (.object "com/example/interlace/interlace/DataType"), (.object "com/example/interlace/interlace/DataType"), (.object "com/example/interlace/interlace/DataType"), (.object "com/example/interlace/interlace/DataType"), (.object "com/example/interlace/interlace/DataType"), (.object "com/example/interlace/interlace/DataType"), (.object "com/example/interlace/interlace/DataType"), (.object "com/example/interlace/interlace/DataType"), (.object "com/example/interlace/interlace/DataType"), (.object "java/util/regex/Pattern"), (.object "java/util/regex/Pattern"), .int, .int, .long, .long, (.array (.object "com/example/interlace/interlace/DataType"))]
  resolved := Array.replicate 640 none
  statics := some 2 }

def pool14 : Array CpInfo := pool [(6, .class_ 8), (1, u "java/lang/Object"), (0, u "<init>"), (0, u "()V"), (1, .class_ 14), (1, u "java/lang/StringUTF16"), (31, u "$assertionsDisabled"), (0, u "Z"), (13, u "HI_BYTE_SHIFT"), (0, u "I"), (2, u "LO_BYTE_SHIFT"), (49, .methodref 12 116), (0, .nameAndType 117 118), (0, u "compress"), (0, u "([CI[BII)I"), (3, u "([CII)[B"), (138, u "coderFromArrayLen"), (0, u "([BI)B"), (106, .class_ 371), (1, u "java/lang/StringUTF16$LinesSpliterator"), (58, u "MAX_LENGTH"), (196, .class_ 628), (0, u "java/lang/StringUTF16$CodePointsSpliterator"), (0, .class_ 630), (0, u "java/lang/StringUTF16$CharsSpliterator")] 4

def k14m0 : Method := { name := "<init>", desc := "()V", sig := { parameters := [], returnType := none }, accessFlags := 0, code := none }
def k14c1 : Code := { maxStack := 2, maxLocals := 2, code := jdk_52_method_15_code, exceptionTable := #[], attributes := #[] }
def k14m1 : Method := { name := "coderFromArrayLen", desc := "([BI)B", sig := { parameters := [(.array .byte), .int], returnType := some .byte }, accessFlags := 8, code := some k14c1 }
def k14c2 : Code := { maxStack := 5, maxLocals := 6, code := jdk_52_method_16_code, exceptionTable := #[], attributes := #[] }
def k14m2 : Method := { name := "compress", desc := "([CII)[B", sig := { parameters := [(.array .char), .int, .int], returnType := some (.array .byte) }, accessFlags := 9, code := some k14c2 }
def k14c3 : Code := { maxStack := 3, maxLocals := 7, code := jdk_52_method_21_code, exceptionTable := #[], attributes := #[] }
def k14m3 : Method := { name := "compress", desc := "([CI[BII)I", sig := { parameters := [(.array .char), .int, (.array .byte), .int, .int], returnType := some .int }, accessFlags := 9, code := some k14c3 }
/-- java/lang/StringUTF16 -/
def k14 : Class := { plain "java/lang/StringUTF16" (some 0) with
  accessFlags := 48
  interfaces := #[]
  cf := some (fileOf pool14 12 #[.nestMembers #[627, 629, 369]] #[{ accessFlags := 0, nameIndex := 9, descriptorIndex := 10, attributes := #[] }, { accessFlags := 8, nameIndex := 261, descriptorIndex := 262, attributes := #[] }, { accessFlags := 9, nameIndex := 117, descriptorIndex := 122, attributes := #[] }, { accessFlags := 9, nameIndex := 117, descriptorIndex := 118, attributes := #[] }] 48 6 #[] #[{ accessFlags := 26, nameIndex := 61, descriptorIndex := 62, attributes := #[] }, { accessFlags := 26, nameIndex := 65, descriptorIndex := 62, attributes := #[] }, { accessFlags := 24, nameIndex := 430, descriptorIndex := 62, attributes := #[] }, { accessFlags := 4120, nameIndex := 46, descriptorIndex := 47, attributes := #[] }])
  fields := #[{ name := "HI_BYTE_SHIFT", type := .int, accessFlags := 26, slot := 0, constantValue := 0 }, { name := "LO_BYTE_SHIFT", type := .int, accessFlags := 26, slot := 1, constantValue := 0 }, { name := "MAX_LENGTH", type := .int, accessFlags := 24, slot := 2, constantValue := 0 }, { name := "$assertionsDisabled", type := .boolean, accessFlags := 4120, slot := 3, constantValue := 0 }]
  methods := #[k14m0, k14m1, k14m2, k14m3]
  instanceTypes := #[]
  staticTypes := #[.int, .int, .int, .boolean]
  resolved := Array.replicate 635 none
  statics := none }

def pool15 : Array CpInfo := pool [(4, .class_ 6), (1, u "java/lang/Object"), (0, u "<init>"), (0, u "()V"), (5, .class_ 16), (1, u "java/lang/StringLatin1"), (73, u "canEncode"), (14, u "(C)Z"), (15, u "$assertionsDisabled"), (0, u "Z"), (98, .class_ 223), (1, u "java/lang/StringLatin1$LinesSpliterator"), (57, u "equals"), (0, u "([B[B)Z"), (97, u "toBytes"), (1, u "(C)[B"), (7, .class_ 391), (0, u "java/lang/StringLatin1$CharsSpliterator")] 3

def k15m0 : Method := { name := "<init>", desc := "()V", sig := { parameters := [], returnType := none }, accessFlags := 0, code := none }
def k15c1 : Code := { maxStack := 2, maxLocals := 1, code := jdk_43_method_3_code, exceptionTable := #[], attributes := #[] }
def k15m1 : Method := { name := "canEncode", desc := "(C)Z", sig := { parameters := [.char], returnType := some .boolean }, accessFlags := 9, code := some k15c1 }
def k15c2 : Code := { maxStack := 3, maxLocals := 3, code := jdk_43_method_13_code, exceptionTable := #[], attributes := #[] }
def k15m2 : Method := { name := "equals", desc := "([B[B)Z", sig := { parameters := [(.array .byte), (.array .byte)], returnType := some .boolean }, accessFlags := 9, code := some k15c2 }
def k15c3 : Code := { maxStack := 4, maxLocals := 1, code := jdk_43_method_46_code, exceptionTable := #[], attributes := #[] }
def k15m3 : Method := { name := "toBytes", desc := "(C)[B", sig := { parameters := [.char], returnType := some (.array .byte) }, accessFlags := 9, code := some k15c3 }
/-- java/lang/StringLatin1 -/
def k15 : Class := { plain "java/lang/StringLatin1" (some 0) with
  accessFlags := 48
  interfaces := #[]
  cf := some (fileOf pool15 14 #[.nestMembers #[390, 221]] #[{ accessFlags := 0, nameIndex := 7, descriptorIndex := 8, attributes := #[] }, { accessFlags := 9, nameIndex := 90, descriptorIndex := 105, attributes := #[] }, { accessFlags := 9, nameIndex := 281, descriptorIndex := 282, attributes := #[] }, { accessFlags := 9, nameIndex := 380, descriptorIndex := 382, attributes := #[] }] 48 4 #[] #[{ accessFlags := 4120, nameIndex := 121, descriptorIndex := 122, attributes := #[] }])
  fields := #[{ name := "$assertionsDisabled", type := .boolean, accessFlags := 4120, slot := 0, constantValue := 0 }]
  methods := #[k15m0, k15m1, k15m2, k15m3]
  instanceTypes := #[]
  staticTypes := #[.boolean]
  resolved := Array.replicate 395 none
  statics := none }

def pool16 : Array CpInfo := pool [(2, .class_ 4), (1, u "java/lang/Object"), (0, u "<init>"), (0, u "()V"), (35, .class_ 44), (1, u "java/util/Objects"), (0, u "requireNonNull"), (0, u "(Ljava/lang/Object;)Ljava/lang/Object;")] 137

def k16m0 : Method := { name := "<init>", desc := "()V", sig := { parameters := [], returnType := none }, accessFlags := 2, code := none }
def k16c1 : Code := { maxStack := 2, maxLocals := 1, code := jdk_31_method_10_code, exceptionTable := #[], attributes := #[] }
def k16m1 : Method := { name := "requireNonNull", desc := "(Ljava/lang/Object;)Ljava/lang/Object;", sig := { parameters := [(.object "java/lang/Object")], returnType := some (.object "java/lang/Object") }, accessFlags := 9, code := some k16c1 }
/-- java/util/Objects -/
def k16 : Class := { plain "java/util/Objects" (some 0) with
  accessFlags := 49
  interfaces := #[]
  cf := some (fileOf pool16 42 #[] #[{ accessFlags := 2, nameIndex := 5, descriptorIndex := 6, attributes := #[] }, { accessFlags := 9, nameIndex := 45, descriptorIndex := 46, attributes := #[] }] 49 2 #[] #[])
  fields := #[]
  methods := #[k16m0, k16m1]
  instanceTypes := #[]
  staticTypes := #[]
  resolved := Array.replicate 184 none
  statics := none }

def pool17 : Array CpInfo := pool [(2, .class_ 4), (1, u "java/lang/Object"), (0, u "<init>"), (0, u "()V"), (17, .class_ 26), (1, u "jdk/internal/util/Preconditions"), (28, .class_ 56), (0, u "jdk/internal/util/Preconditions$4"), (57, .class_ 115), (0, u "jdk/internal/util/Preconditions$1"), (7, u "SIOOBE_FORMATTER"), (0, u "Ljava/util/function/BiFunction;"), (0, .class_ 126), (0, u "jdk/internal/util/Preconditions$2"), (3, u "AIOOBE_FORMATTER"), (0, .class_ 132), (0, u "jdk/internal/util/Preconditions$3"), (3, u "IOOBE_FORMATTER")] 57

def k17m0 : Method := { name := "<init>", desc := "()V", sig := { parameters := [], returnType := none }, accessFlags := 1, code := none }
/-- jdk/internal/util/Preconditions -/
def k17 : Class := { plain "jdk/internal/util/Preconditions" (some 0) with
  accessFlags := 33
  interfaces := #[]
  cf := some (fileOf pool17 24 #[.nestMembers #[55, 131, 125, 114]] #[{ accessFlags := 1, nameIndex := 5, descriptorIndex := 6, attributes := #[] }] 33 2 #[] #[{ accessFlags := 25, nameIndex := 123, descriptorIndex := 124, attributes := #[] }, { accessFlags := 25, nameIndex := 130, descriptorIndex := 124, attributes := #[] }, { accessFlags := 25, nameIndex := 136, descriptorIndex := 124, attributes := #[] }])
  fields := #[{ name := "SIOOBE_FORMATTER", type := (.object "java/util/function/BiFunction"), accessFlags := 25, slot := 0, constantValue := 0 }, { name := "AIOOBE_FORMATTER", type := (.object "java/util/function/BiFunction"), accessFlags := 25, slot := 1, constantValue := 0 }, { name := "IOOBE_FORMATTER", type := (.object "java/util/function/BiFunction"), accessFlags := 25, slot := 2, constantValue := 0 }]
  methods := #[k17m0]
  instanceTypes := #[]
  staticTypes := #[(.object "java/util/function/BiFunction"), (.object "java/util/function/BiFunction"), (.object "java/util/function/BiFunction")]
  resolved := Array.replicate 194 none
  statics := some 3 }

def pool18 : Array CpInfo := pool [(9, u "<init>"), (6, .class_ 18), (1, u "java/lang/Object"), (0, u "()V"), (1, .class_ 23), (1, u "jdk/internal/util/ArraysSupport"), (0, u "LOG2_ARRAY_LONG_INDEX_SCALE"), (0, u "I"), (2, u "U"), (0, u "Ljdk/internal/misc/Unsafe;"), (8, u "BIG_ENDIAN"), (0, u "Z"), (8, u "LOG2_BYTE_BIT_SIZE"), (4, u "LOG2_ARRAY_INT_INDEX_SCALE"), (54, u "JLA"), (0, u "Ljdk/internal/access/JavaLangAccess;"), (11, u "LOG2_ARRAY_BOOLEAN_INDEX_SCALE"), (9, u "LOG2_ARRAY_BYTE_INDEX_SCALE"), (5, u "LOG2_ARRAY_CHAR_INDEX_SCALE"), (5, u "LOG2_ARRAY_SHORT_INDEX_SCALE"), (18, u "LOG2_ARRAY_FLOAT_INDEX_SCALE"), (24, u "LOG2_ARRAY_DOUBLE_INDEX_SCALE"), (89, u "T_BOOLEAN"), (2, u "T_CHAR"), (1, u "T_FLOAT"), (1, u "T_DOUBLE"), (1, u "T_BYTE"), (1, u "T_SHORT"), (1, u "T_INT"), (1, u "T_LONG"), (1, u "SOFT_MAX_ARRAY_LENGTH")] 83

def k18m0 : Method := { name := "<init>", desc := "()V", sig := { parameters := [], returnType := none }, accessFlags := 2, code := none }
/-- jdk/internal/util/ArraysSupport -/
def k18 : Class := { plain "jdk/internal/util/ArraysSupport" (some 0) with
  accessFlags := 33
  interfaces := #[]
  cf := some (fileOf pool18 21 #[] #[{ accessFlags := 2, nameIndex := 9, descriptorIndex := 19, attributes := #[] }] 33 16 #[] #[{ accessFlags := 24, nameIndex := 28, descriptorIndex := 29, attributes := #[] }, { accessFlags := 26, nameIndex := 38, descriptorIndex := 39, attributes := #[] }, { accessFlags := 25, nameIndex := 121, descriptorIndex := 25, attributes := #[] }, { accessFlags := 25, nameIndex := 131, descriptorIndex := 25, attributes := #[] }, { accessFlags := 25, nameIndex := 137, descriptorIndex := 25, attributes := #[] }, { accessFlags := 25, nameIndex := 143, descriptorIndex := 25, attributes := #[] }, { accessFlags := 25, nameIndex := 53, descriptorIndex := 25, attributes := #[] }, { accessFlags := 25, nameIndex := 24, descriptorIndex := 25, attributes := #[] }, { accessFlags := 25, nameIndex := 162, descriptorIndex := 25, attributes := #[] }, { accessFlags := 25, nameIndex := 187, descriptorIndex := 25, attributes := #[] }, { accessFlags := 26, nameIndex := 48, descriptorIndex := 25, attributes := #[] }, { accessFlags := 25, nameIndex := 277, descriptorIndex := 25, attributes := #[] }, { accessFlags := 25, nameIndex := 280, descriptorIndex := 25, attributes := #[] }, { accessFlags := 25, nameIndex := 282, descriptorIndex := 25, attributes := #[] }, { accessFlags := 25, nameIndex := 284, descriptorIndex := 25, attributes := #[] }, { accessFlags := 25, nameIndex := 286, descriptorIndex := 25, attributes := #[] }, { accessFlags := 25, nameIndex := 288, descriptorIndex := 25, attributes := #[] }, { accessFlags := 25, nameIndex := 290, descriptorIndex := 25, attributes := #[] }, { accessFlags := 25, nameIndex := 292, descriptorIndex := 25, attributes := #[] }, { accessFlags := 26, nameIndex := 108, descriptorIndex := 109, attributes := #[] }, { accessFlags := 25, nameIndex := 294, descriptorIndex := 25, attributes := #[] }])
  fields := #[{ name := "U", type := (.object "jdk/internal/misc/Unsafe"), accessFlags := 24, slot := 0, constantValue := 0 }, { name := "BIG_ENDIAN", type := .boolean, accessFlags := 26, slot := 1, constantValue := 0 }, { name := "LOG2_ARRAY_BOOLEAN_INDEX_SCALE", type := .int, accessFlags := 25, slot := 2, constantValue := 0 }, { name := "LOG2_ARRAY_BYTE_INDEX_SCALE", type := .int, accessFlags := 25, slot := 3, constantValue := 0 }, { name := "LOG2_ARRAY_CHAR_INDEX_SCALE", type := .int, accessFlags := 25, slot := 4, constantValue := 0 }, { name := "LOG2_ARRAY_SHORT_INDEX_SCALE", type := .int, accessFlags := 25, slot := 5, constantValue := 0 }, { name := "LOG2_ARRAY_INT_INDEX_SCALE", type := .int, accessFlags := 25, slot := 6, constantValue := 0 }, { name := "LOG2_ARRAY_LONG_INDEX_SCALE", type := .int, accessFlags := 25, slot := 7, constantValue := 0 }, { name := "LOG2_ARRAY_FLOAT_INDEX_SCALE", type := .int, accessFlags := 25, slot := 8, constantValue := 0 }, { name := "LOG2_ARRAY_DOUBLE_INDEX_SCALE", type := .int, accessFlags := 25, slot := 9, constantValue := 0 }, { name := "LOG2_BYTE_BIT_SIZE", type := .int, accessFlags := 26, slot := 10, constantValue := 0 }, { name := "T_BOOLEAN", type := .int, accessFlags := 25, slot := 11, constantValue := 0 }, { name := "T_CHAR", type := .int, accessFlags := 25, slot := 12, constantValue := 0 }, { name := "T_FLOAT", type := .int, accessFlags := 25, slot := 13, constantValue := 0 }, { name := "T_DOUBLE", type := .int, accessFlags := 25, slot := 14, constantValue := 0 }, { name := "T_BYTE", type := .int, accessFlags := 25, slot := 15, constantValue := 0 }, { name := "T_SHORT", type := .int, accessFlags := 25, slot := 16, constantValue := 0 }, { name := "T_INT", type := .int, accessFlags := 25, slot := 17, constantValue := 0 }, { name := "T_LONG", type := .int, accessFlags := 25, slot := 18, constantValue := 0 }, { name := "JLA", type := (.object "jdk/internal/access/JavaLangAccess"), accessFlags := 26, slot := 19, constantValue := 0 }, { name := "SOFT_MAX_ARRAY_LENGTH", type := .int, accessFlags := 25, slot := 20, constantValue := 0 }]
  methods := #[k18m0]
  instanceTypes := #[]
  staticTypes := #[(.object "jdk/internal/misc/Unsafe"), .boolean, .int, .int, .int, .int, .int, .int, .int, .int, .int, .int, .int, .int, .int, .int, .int, .int, .int, (.object "jdk/internal/access/JavaLangAccess"), .int]
  resolved := Array.replicate 378 none
  statics := none }

def pool19 : Array CpInfo := pool [(2, .class_ 4), (1, u "com/example/interlace/interlace/DataType"), (9, .class_ 16), (1, u "com/example/interlace/interlace/DataType$1")] 65

/-- com/example/interlace/interlace/DataType$1 -/
def k19 : Class := { plain "com/example/interlace/interlace/DataType$1" (some 13) with
  accessFlags := 16432
  interfaces := #[]
  cf := some (fileOf pool19 14 #[.nestHost 2] #[] 16432 2 #[] #[])
  fields := #[]
  methods := #[]
  instanceTypes := #[(.object "java/lang/String"), .int, .int, (.object "java/lang/String"), .int, .int]
  staticTypes := #[]
  resolved := Array.replicate 82 none
  statics := none }

def pool20 : Array CpInfo := pool [(2, .class_ 4), (1, u "com/example/interlace/interlace/DataType"), (9, .class_ 16), (1, u "com/example/interlace/interlace/DataType$2")] 64

/-- com/example/interlace/interlace/DataType$2 -/
def k20 : Class := { plain "com/example/interlace/interlace/DataType$2" (some 13) with
  accessFlags := 16432
  interfaces := #[]
  cf := some (fileOf pool20 14 #[.nestHost 2] #[] 16432 2 #[] #[])
  fields := #[]
  methods := #[]
  instanceTypes := #[(.object "java/lang/String"), .int, .int, (.object "java/lang/String"), .int, .int]
  staticTypes := #[]
  resolved := Array.replicate 81 none
  statics := none }

def pool21 : Array CpInfo := pool [(2, .class_ 4), (1, u "com/example/interlace/interlace/DataType"), (3, .class_ 10), (1, u "com/example/interlace/interlace/DataType$3")] 78

/-- com/example/interlace/interlace/DataType$3 -/
def k21 : Class := { plain "com/example/interlace/interlace/DataType$3" (some 13) with
  accessFlags := 16432
  interfaces := #[]
  cf := some (fileOf pool21 8 #[.nestHost 2] #[] 16432 2 #[] #[])
  fields := #[]
  methods := #[]
  instanceTypes := #[(.object "java/lang/String"), .int, .int, (.object "java/lang/String"), .int, .int]
  staticTypes := #[]
  resolved := Array.replicate 89 none
  statics := none }

def pool22 : Array CpInfo := pool [(2, .class_ 4), (1, u "com/example/interlace/interlace/DataType"), (3, .class_ 10), (1, u "com/example/interlace/interlace/DataType$4")] 67

/-- com/example/interlace/interlace/DataType$4 -/
def k22 : Class := { plain "com/example/interlace/interlace/DataType$4" (some 13) with
  accessFlags := 16432
  interfaces := #[]
  cf := some (fileOf pool22 8 #[.nestHost 2] #[] 16432 2 #[] #[])
  fields := #[]
  methods := #[]
  instanceTypes := #[(.object "java/lang/String"), .int, .int, (.object "java/lang/String"), .int, .int]
  staticTypes := #[]
  resolved := Array.replicate 78 none
  statics := none }

def pool23 : Array CpInfo := pool [(1, .class_ 2), (0, u "com/example/interlace/interlace/DataType"), (45, .class_ 50), (1, u "com/example/interlace/interlace/DataType$5")] 43

/-- com/example/interlace/interlace/DataType$5 -/
def k23 : Class := { plain "com/example/interlace/interlace/DataType$5" (some 13) with
  accessFlags := 16432
  interfaces := #[]
  cf := some (fileOf pool23 48 #[.nestHost 1] #[] 16432 1 #[] #[])
  fields := #[]
  methods := #[]
  instanceTypes := #[(.object "java/lang/String"), .int, .int, (.object "java/lang/String"), .int, .int]
  staticTypes := #[]
  resolved := Array.replicate 94 none
  statics := none }

def pool24 : Array CpInfo := pool [(2, .class_ 4), (1, u "com/example/interlace/interlace/DataType"), (9, .class_ 16), (1, u "com/example/interlace/interlace/DataType$6")] 50

/-- com/example/interlace/interlace/DataType$6 -/
def k24 : Class := { plain "com/example/interlace/interlace/DataType$6" (some 13) with
  accessFlags := 16432
  interfaces := #[]
  cf := some (fileOf pool24 14 #[.nestHost 2] #[] 16432 2 #[] #[])
  fields := #[]
  methods := #[]
  instanceTypes := #[(.object "java/lang/String"), .int, .int, (.object "java/lang/String"), .int, .int]
  staticTypes := #[]
  resolved := Array.replicate 67 none
  statics := none }

def pool25 : Array CpInfo := pool [(2, .class_ 4), (1, u "com/example/interlace/interlace/DataType"), (9, .class_ 16), (1, u "com/example/interlace/interlace/DataType$7")] 65

/-- com/example/interlace/interlace/DataType$7 -/
def k25 : Class := { plain "com/example/interlace/interlace/DataType$7" (some 13) with
  accessFlags := 16432
  interfaces := #[]
  cf := some (fileOf pool25 14 #[.nestHost 2] #[] 16432 2 #[] #[])
  fields := #[]
  methods := #[]
  instanceTypes := #[(.object "java/lang/String"), .int, .int, (.object "java/lang/String"), .int, .int]
  staticTypes := #[]
  resolved := Array.replicate 82 none
  statics := none }

def pool26 : Array CpInfo := pool [(2, .class_ 4), (1, u "com/example/interlace/interlace/DataType"), (3, .class_ 10), (1, u "com/example/interlace/interlace/DataType$8")] 67

/-- com/example/interlace/interlace/DataType$8 -/
def k26 : Class := { plain "com/example/interlace/interlace/DataType$8" (some 13) with
  accessFlags := 16432
  interfaces := #[]
  cf := some (fileOf pool26 8 #[.nestHost 2] #[] 16432 2 #[] #[])
  fields := #[]
  methods := #[]
  instanceTypes := #[(.object "java/lang/String"), .int, .int, (.object "java/lang/String"), .int, .int]
  staticTypes := #[]
  resolved := Array.replicate 78 none
  statics := none }

def pool27 : Array CpInfo := pool [(2, .class_ 4), (1, u "com/example/interlace/interlace/DataType"), (3, .class_ 10), (1, u "com/example/interlace/interlace/DataType$9")] 96

/-- com/example/interlace/interlace/DataType$9 -/
def k27 : Class := { plain "com/example/interlace/interlace/DataType$9" (some 13) with
  accessFlags := 16432
  interfaces := #[]
  cf := some (fileOf pool27 8 #[.nestHost 2] #[] 16432 2 #[] #[])
  fields := #[]
  methods := #[]
  instanceTypes := #[(.object "java/lang/String"), .int, .int, (.object "java/lang/String"), .int, .int]
  staticTypes := #[]
  resolved := Array.replicate 107 none
  statics := none }

def pool28 : Array CpInfo := pool [(2, .class_ 4), (1, u "com/example/interlace/interlace/DataType"), (5, .class_ 12), (1, u "com/example/interlace/interlace/DataType$10")] 37

/-- com/example/interlace/interlace/DataType$10 -/
def k28 : Class := { plain "com/example/interlace/interlace/DataType$10" (some 13) with
  accessFlags := 16432
  interfaces := #[]
  cf := some (fileOf pool28 10 #[.nestHost 2] #[] 16432 2 #[] #[])
  fields := #[]
  methods := #[]
  instanceTypes := #[(.object "java/lang/String"), .int, .int, (.object "java/lang/String"), .int, .int]
  staticTypes := #[]
  resolved := Array.replicate 50 none
  statics := none }

def pool29 : Array CpInfo := pool [(2, .class_ 4), (1, u "com/example/interlace/interlace/DataType"), (3, .class_ 10), (1, u "com/example/interlace/interlace/DataType$11")] 33

/-- com/example/interlace/interlace/DataType$11 -/
def k29 : Class := { plain "com/example/interlace/interlace/DataType$11" (some 13) with
  accessFlags := 16432
  interfaces := #[]
  cf := some (fileOf pool29 8 #[.nestHost 2] #[] 16432 2 #[] #[])
  fields := #[]
  methods := #[]
  instanceTypes := #[(.object "java/lang/String"), .int, .int, (.object "java/lang/String"), .int, .int]
  staticTypes := #[]
  resolved := Array.replicate 44 none
  statics := none }

def pool30 : Array CpInfo := pool [(1, u "java/lang/Cloneable"), (0, .class_ 1), (0, u "java/lang/Object"), (0, .class_ 3)] 3

/-- java/lang/Cloneable -/
def k30 : Class := { plain "java/lang/Cloneable" (some 0) with
  accessFlags := 1537
  interfaces := #[]
  cf := some (fileOf pool30 2 #[] #[] 1537 4 #[] #[])
  fields := #[]
  methods := #[]
  instanceTypes := #[]
  staticTypes := #[]
  resolved := Array.replicate 8 none
  statics := none }

/-- the primitive byte -/
def k31 : Class := { plain "byte" none with kind := .primitive 'B', accessFlags := 0x411 }
/-- [B -/
def k32 : Class := { plain "[B" (some 0) with kind := .array 31 .byte, interfaces := #[30, 6], accessFlags := 1041 }

/-- the primitive char -/
def k33 : Class := { plain "char" none with kind := .primitive 'C', accessFlags := 0x411 }
/-- [C -/
def k34 : Class := { plain "[C" (some 0) with kind := .array 33 .char, interfaces := #[30, 6], accessFlags := 1041 }

/-- the primitive int -/
def k35 : Class := { plain "int" none with kind := .primitive 'I', accessFlags := 0x411 }
/-- [I -/
def k36 : Class := { plain "[I" (some 0) with kind := .array 35 .int, interfaces := #[30, 6], accessFlags := 1041 }

def heap : Heap := #[{ cls := 3, slots := #[.ref 15], vm := .statics 3 },
  { cls := 11, slots := #[.long 0, .int 1, .null, .int 0, .null, .int 0, .int 0], vm := .statics 11 },
  { cls := 13, slots := #[.ref 4, .ref 5, .ref 6, .ref 7, .ref 8, .ref 9, .ref 10, .ref 11, .ref 12, .ref 13, .ref 14, .null, .null, .null, .int 0, .int 0, .long 0, .long 0, .null], vm := .statics 13 },
  { cls := 17, slots := #[.null, .null, .null], vm := .statics 17 },
  { cls := 19, slots := #[.null, .int 0, .int 0, .null, .int 0, .int 0], vm := .none },
  { cls := 20, slots := #[.null, .int 1, .int 0, .null, .int 0, .int 0], vm := .none },
  { cls := 21, slots := #[.null, .int 2, .int 0, .null, .int 0, .int 0], vm := .none },
  { cls := 22, slots := #[.null, .int 3, .int 0, .null, .int 0, .int 0], vm := .none },
  { cls := 23, slots := #[.null, .int 4, .int 0, .null, .int 0, .int 0], vm := .none },
  { cls := 24, slots := #[.null, .int 5, .int 0, .null, .int 0, .int 0], vm := .none },
  { cls := 25, slots := #[.null, .int 6, .int 0, .null, .int 0, .int 0], vm := .none },
  { cls := 26, slots := #[.null, .int 7, .int 0, .null, .int 0, .int 0], vm := .none },
  { cls := 27, slots := #[.null, .int 8, .int 0, .null, .int 0, .int 0], vm := .none },
  { cls := 28, slots := #[.null, .int 9, .int 0, .null, .int 0, .int 0], vm := .none },
  { cls := 29, slots := #[.null, .int 10, .int 0, .null, .int 0, .int 0], vm := .none },
  { cls := 3, slots := #[.null], vm := .none }]
def classes : Array Class := #[k0, k1, k2, k3, k4, k5, k6, k7, k8, k9, k10, k11, k12, k13, k14, k15, k16, k17, k18, k19, k20, k21, k22, k23, k24, k25, k26, k27, k28, k29, k30, k31, k32, k33, k34, k35, k36]
def interned : List (Array UInt16 × Addr) := []
def slotsUsed : Nat := 97
def theMethod : MethodId := ⟨1, 1⟩
def args0 : Array Value := #[.int 5, .int 7, .int 8, .int 9, .int 3]
def aboutOver (below : List Frame) : State where
  vm := { classes := classes, interned := interned.toArray }
  heap := heap
  slotsUsed := slotsUsed
  threads := #[{ frames := .invoking theMethod args0 :: below }]
def below0 : List Frame := [.native { method := ⟨0, 0⟩, args := #[] }]
def about1 : State := aboutOver below0
def p0 : Program := .bare "" "" ""
def e0 : Env := launch0.env 0 0 0
theorem w_frames : about1.frames = Frame.invoking theMethod args0 :: below0 := rfl
set_option maxRecDepth 65536 in
theorem w_args : argsFit about1.vm theMethod args0 = true := by decide +kernel
set_option maxRecDepth 65536 in
theorem w_heap : heapFits about1 = true := by decide +kernel
set_option maxRecDepth 65536 in
theorem w_runnable : about1.curStatus? = some .runnable := by decide +kernel
set_option maxRecDepth 65536 in
theorem w_alone : about1.alone = true := by decide +kernel
set_option maxRecDepth 65536 in
theorem w_named : about1.methodNamed? x = some theMethod := by decide +kernel
set_option maxRecDepth 65536 in
theorem w_hears : about1.hears theMethod below0 = true := by decide +kernel
set_option maxRecDepth 65536 in
theorem w_ripe : about1.ripe theMethod args0 below0 = true := by decide +kernel
theorem w_running : about1.status = .running := rfl
set_option maxRecDepth 65536 in
theorem w_room : about1.hasRoom e0.platform room_1 = true :=
  launch0.hasRoom_least _ room_1 (by decide +kernel) (by decide +kernel) (by decide +kernel) (by decide +kernel) (by decide +kernel) (by decide +kernel)
theorem allAtoms_all (ts : List Jvm.Cond) (a : Array Jvm.Value) (st : Jvm.State) : (allAtoms ts).before a st = ts.all (fun c => c.before a st) := by
  induction ts with
  | nil => rfl
  | cons c t ih =>
    show (Jvm.Cond.and c (allAtoms t)).before a st = _
    rw [Jvm.Cond.before_and, ih, List.all_cons]
def words1 : List Jvm.Cond := Jvm.Cond.code x code maxLocals ret :: tables_1
/-- a 'code' word, met by the world's own term for the bytes: nothing is compared byte by byte -/
theorem code_word {y : MethodName} {bytes : ByteArray} {mx : Nat} {rt : Option FieldType} {a : Array Value} {s : State} {m : MethodId} {meth : Method} {c : Code} (h1 : s.methodNamed? y = some m) (h2 : s.vm.method? m = some meth) (h3 : meth.code = some c) (h4 : c.code = bytes)
    (h5 : (c.maxLocals == mx && c.exceptionTable.isEmpty && decide (c.maxStack ≤ mostOperands) && decide (meth.sig.returnType = rt) && !meth.locks && decide (parseMethodDescriptor y.desc = some meth.sig)) = true) : (Jvm.Cond.code y bytes mx rt).before a s = true := by
  simp only [Bool.and_eq_true, beq_iff_eq, Bool.not_eq_true', decide_eq_true_eq] at h5
  obtain ⟨⟨⟨⟨⟨g1, g2⟩, g3⟩, g4⟩, g5⟩, g6⟩ := h5
  simp [Cond.before, Cond.holds, Cond.value, h1, h2, h3, h4, g1, g2, g3, g4, g5, g6]
def isCode : Jvm.Cond → Bool
  | .code _ _ _ _ => true
  | _ => false
theorem all_split {L : List Jvm.Cond} {P : Jvm.Cond → Bool} (h1 : L.all (fun c => isCode c || P c) = true) (h2 : ∀ c ∈ L.filter isCode, P c = true) : L.all P = true := by
  refine List.all_eq_true.mpr fun c hc => ?_
  have h := List.all_eq_true.mp h1 c hc
  rcases Bool.eq_false_or_eq_true (isCode c) with hi | hi
  · exact h2 c (List.mem_filter.mpr ⟨hc, hi⟩)
  · simpa [hi] using h
set_option maxRecDepth 65536 in
theorem w_c0 : (Jvm.Cond.code x code maxLocals ret).before args0 about1 = true := code_word (m := ⟨1, 1⟩) (meth := k1m1) (c := k1c1) (by decide +kernel) rfl rfl rfl (by decide +kernel)
set_option maxRecDepth 65536 in
theorem w_c1 : (Jvm.Cond.code ({ cls := "java/lang/Math", name := "min", desc := "(II)I" } : Jvm.MethodName) jdk_29_method_69_code (2 : Nat) (Option.some Jvm.ClassFile.FieldType.int)).before args0 about1 = true := code_word (m := ⟨2, 1⟩) (meth := k2m1) (c := k2c1) (by decide +kernel) rfl rfl rfl (by decide +kernel)
set_option maxRecDepth 65536 in
theorem w_c2 : (Jvm.Cond.code ({ cls := "com/example/interlace/interlace/ColumnHoldsAlikePinLaw", name := "def", desc := "(II)Ljava/util/Optional;" } : Jvm.MethodName) method_4_code (2 : Nat) (Option.some (Jvm.ClassFile.FieldType.object "java/util/Optional"))).before args0 about1 = true := code_word (m := ⟨1, 3⟩) (meth := k1m3) (c := k1c3) (by decide +kernel) rfl rfl rfl (by decide +kernel)
set_option maxRecDepth 65536 in
theorem w_c3 : (Jvm.Cond.code ({ cls := "java/util/Optional", name := "empty", desc := "()Ljava/util/Optional;" } : Jvm.MethodName) jdk_32_method_1_code (1 : Nat) (Option.some (Jvm.ClassFile.FieldType.object "java/util/Optional"))).before args0 about1 = true := code_word (m := ⟨3, 0⟩) (meth := k3m0) (c := k3c0) (by decide +kernel) rfl rfl rfl (by decide +kernel)
set_option maxRecDepth 65536 in
theorem w_c4 : (Jvm.Cond.code ({ cls := "com/example/interlace/interlace/ColumnHoldsAlikePinLaw", name := "name", desc := "(III)Ljava/lang/String;" } : Jvm.MethodName) method_3_code (3 : Nat) (Option.some (Jvm.ClassFile.FieldType.object "java/lang/String"))).before args0 about1 = true := code_word (m := ⟨1, 2⟩) (meth := k1m2) (c := k1c2) (by decide +kernel) rfl rfl rfl (by decide +kernel)
set_option maxRecDepth 65536 in
theorem w_c5 : (Jvm.Cond.code ({ cls := "java/lang/String", name := "<init>", desc := "([C)V" } : Jvm.MethodName) jdk_42_method_3_code (2 : Nat) (Option.none : Option Jvm.ClassFile.FieldType)).before args0 about1 = true := code_word (m := ⟨11, 1⟩) (meth := k11m1) (c := k11c1) (by decide +kernel) rfl rfl rfl (by decide +kernel)
set_option maxRecDepth 65536 in
theorem w_c6 : (Jvm.Cond.code ({ cls := "java/lang/String", name := "<init>", desc := "([CIILjava/lang/Void;)V" } : Jvm.MethodName) jdk_42_method_149_code (6 : Nat) (Option.none : Option Jvm.ClassFile.FieldType)).before args0 about1 = true := code_word (m := ⟨11, 4⟩) (meth := k11m4) (c := k11c4) (by decide +kernel) rfl rfl rfl (by decide +kernel)
set_option maxRecDepth 65536 in
theorem w_c7 : (Jvm.Cond.code ({ cls := "java/lang/Object", name := "<init>", desc := "()V" } : Jvm.MethodName) object_method_1_code (1 : Nat) (Option.none : Option Jvm.ClassFile.FieldType)).before args0 about1 = true := code_word (m := ⟨0, 0⟩) (meth := k0m0) (c := k0c0) (by decide +kernel) rfl rfl rfl (by decide +kernel)
set_option maxRecDepth 65536 in
theorem w_c8 : (Jvm.Cond.code ({ cls := "com/example/interlace/interlace/ColumnHoldsAlikePinLaw", name := "type", desc := "(I)Lcom/example/interlace/interlace/DataType;" } : Jvm.MethodName) method_5_code (1 : Nat) (Option.some (Jvm.ClassFile.FieldType.object "com/example/interlace/interlace/DataType"))).before args0 about1 = true := code_word (m := ⟨1, 4⟩) (meth := k1m4) (c := k1c4) (by decide +kernel) rfl rfl rfl (by decide +kernel)
set_option maxRecDepth 65536 in
theorem w_c9 : (Jvm.Cond.code ({ cls := "com/example/interlace/interlace/Column", name := "<init>", desc := "(Ljava/lang/String;Lcom/example/interlace/interlace/DataType;IZLjava/util/Optional;)V" } : Jvm.MethodName) prog_11_method_2_code (6 : Nat) (Option.none : Option Jvm.ClassFile.FieldType)).before args0 about1 = true := code_word (m := ⟨5, 0⟩) (meth := k5m0) (c := k5c0) (by decide +kernel) rfl rfl rfl (by decide +kernel)
set_option maxRecDepth 65536 in
theorem w_c10 : (Jvm.Cond.code ({ cls := "java/lang/Record", name := "<init>", desc := "()V" } : Jvm.MethodName) jdk_30_method_1_code (1 : Nat) (Option.none : Option Jvm.ClassFile.FieldType)).before args0 about1 = true := code_word (m := ⟨4, 0⟩) (meth := k4m0) (c := k4c0) (by decide +kernel) rfl rfl rfl (by decide +kernel)
set_option maxRecDepth 65536 in
theorem w_c11 : (Jvm.Cond.code ({ cls := "java/lang/StringUTF16", name := "compress", desc := "([CII)[B" } : Jvm.MethodName) jdk_52_method_16_code (6 : Nat) (Option.some (Jvm.ClassFile.FieldType.array Jvm.ClassFile.FieldType.byte))).before args0 about1 = true := code_word (m := ⟨14, 2⟩) (meth := k14m2) (c := k14c2) (by decide +kernel) rfl rfl rfl (by decide +kernel)
set_option maxRecDepth 65536 in
theorem w_c12 : (Jvm.Cond.code ({ cls := "java/lang/StringUTF16", name := "compress", desc := "([CI[BII)I" } : Jvm.MethodName) jdk_52_method_21_code (7 : Nat) (Option.some Jvm.ClassFile.FieldType.int)).before args0 about1 = true := code_word (m := ⟨14, 3⟩) (meth := k14m3) (c := k14c3) (by decide +kernel) rfl rfl rfl (by decide +kernel)
set_option maxRecDepth 65536 in
theorem w_c13 : (Jvm.Cond.code ({ cls := "java/lang/StringUTF16", name := "coderFromArrayLen", desc := "([BI)B" } : Jvm.MethodName) jdk_52_method_15_code (2 : Nat) (Option.some Jvm.ClassFile.FieldType.byte)).before args0 about1 = true := code_word (m := ⟨14, 1⟩) (meth := k14m1) (c := k14c1) (by decide +kernel) rfl rfl rfl (by decide +kernel)
set_option maxRecDepth 65536 in
theorem w_c14 : (Jvm.Cond.code ({ cls := "com/example/interlace/interlace/Column", name := "holdsAlike", desc := "(Lcom/example/interlace/interlace/Column;)Z" } : Jvm.MethodName) prog_11_method_9_code (2 : Nat) (Option.some Jvm.ClassFile.FieldType.boolean)).before args0 about1 = true := code_word (m := ⟨5, 1⟩) (meth := k5m1) (c := k5c1) (by decide +kernel) rfl rfl rfl (by decide +kernel)
set_option maxRecDepth 65536 in
theorem w_c15 : (Jvm.Cond.code ({ cls := "java/lang/String", name := "equals", desc := "(Ljava/lang/Object;)Z" } : Jvm.MethodName) jdk_42_method_66_code (3 : Nat) (Option.some Jvm.ClassFile.FieldType.boolean)).before args0 about1 = true := code_word (m := ⟨11, 2⟩) (meth := k11m2) (c := k11c2) (by decide +kernel) rfl rfl rfl (by decide +kernel)
set_option maxRecDepth 65536 in
theorem w_c16 : (Jvm.Cond.code ({ cls := "java/lang/StringLatin1", name := "equals", desc := "([B[B)Z" } : Jvm.MethodName) jdk_43_method_13_code (3 : Nat) (Option.some Jvm.ClassFile.FieldType.boolean)).before args0 about1 = true := code_word (m := ⟨15, 2⟩) (meth := k15m2) (c := k15c2) (by decide +kernel) rfl rfl rfl (by decide +kernel)
set_option maxRecDepth 65536 in
theorem w_c17 : (Jvm.Cond.code ({ cls := "java/lang/String", name := "valueOf", desc := "(C)Ljava/lang/String;" } : Jvm.MethodName) jdk_42_method_139_code (1 : Nat) (Option.some (Jvm.ClassFile.FieldType.object "java/lang/String"))).before args0 about1 = true := code_word (m := ⟨11, 3⟩) (meth := k11m3) (c := k11c3) (by decide +kernel) rfl rfl rfl (by decide +kernel)
set_option maxRecDepth 65536 in
theorem w_c18 : (Jvm.Cond.code ({ cls := "java/lang/StringLatin1", name := "canEncode", desc := "(C)Z" } : Jvm.MethodName) jdk_43_method_3_code (1 : Nat) (Option.some Jvm.ClassFile.FieldType.boolean)).before args0 about1 = true := code_word (m := ⟨15, 1⟩) (meth := k15m1) (c := k15c1) (by decide +kernel) rfl rfl rfl (by decide +kernel)
set_option maxRecDepth 65536 in
theorem w_c19 : (Jvm.Cond.code ({ cls := "java/lang/StringLatin1", name := "toBytes", desc := "(C)[B" } : Jvm.MethodName) jdk_43_method_46_code (1 : Nat) (Option.some (Jvm.ClassFile.FieldType.array Jvm.ClassFile.FieldType.byte))).before args0 about1 = true := code_word (m := ⟨15, 3⟩) (meth := k15m3) (c := k15c3) (by decide +kernel) rfl rfl rfl (by decide +kernel)
set_option maxRecDepth 65536 in
theorem w_c20 : (Jvm.Cond.code ({ cls := "java/lang/String", name := "<init>", desc := "([BB)V" } : Jvm.MethodName) jdk_42_method_151_code (3 : Nat) (Option.none : Option Jvm.ClassFile.FieldType)).before args0 about1 = true := code_word (m := ⟨11, 5⟩) (meth := k11m5) (c := k11c5) (by decide +kernel) rfl rfl rfl (by decide +kernel)
set_option maxRecDepth 65536 in
theorem w_c21 : (Jvm.Cond.code ({ cls := "java/util/Optional", name := "of", desc := "(Ljava/lang/Object;)Ljava/util/Optional;" } : Jvm.MethodName) jdk_32_method_3_code (1 : Nat) (Option.some (Jvm.ClassFile.FieldType.object "java/util/Optional"))).before args0 about1 = true := code_word (m := ⟨3, 2⟩) (meth := k3m2) (c := k3c2) (by decide +kernel) rfl rfl rfl (by decide +kernel)
set_option maxRecDepth 65536 in
theorem w_c22 : (Jvm.Cond.code ({ cls := "java/util/Objects", name := "requireNonNull", desc := "(Ljava/lang/Object;)Ljava/lang/Object;" } : Jvm.MethodName) jdk_31_method_10_code (1 : Nat) (Option.some (Jvm.ClassFile.FieldType.object "java/lang/Object"))).before args0 about1 = true := code_word (m := ⟨16, 1⟩) (meth := k16m1) (c := k16c1) (by decide +kernel) rfl rfl rfl (by decide +kernel)
set_option maxRecDepth 65536 in
theorem w_c23 : (Jvm.Cond.code ({ cls := "java/util/Optional", name := "<init>", desc := "(Ljava/lang/Object;)V" } : Jvm.MethodName) jdk_32_method_2_code (2 : Nat) (Option.none : Option Jvm.ClassFile.FieldType)).before args0 about1 = true := code_word (m := ⟨3, 1⟩) (meth := k3m1) (c := k3c1) (by decide +kernel) rfl rfl rfl (by decide +kernel)
def codes1 : List Jvm.Cond := [Jvm.Cond.code x code maxLocals ret, Jvm.Cond.code ({ cls := "java/lang/Math", name := "min", desc := "(II)I" } : Jvm.MethodName) jdk_29_method_69_code (2 : Nat) (Option.some Jvm.ClassFile.FieldType.int), Jvm.Cond.code ({ cls := "com/example/interlace/interlace/ColumnHoldsAlikePinLaw", name := "def", desc := "(II)Ljava/util/Optional;" } : Jvm.MethodName) method_4_code (2 : Nat) (Option.some (Jvm.ClassFile.FieldType.object "java/util/Optional")), Jvm.Cond.code ({ cls := "java/util/Optional", name := "empty", desc := "()Ljava/util/Optional;" } : Jvm.MethodName) jdk_32_method_1_code (1 : Nat) (Option.some (Jvm.ClassFile.FieldType.object "java/util/Optional")), Jvm.Cond.code ({ cls := "com/example/interlace/interlace/ColumnHoldsAlikePinLaw", name := "name", desc := "(III)Ljava/lang/String;" } : Jvm.MethodName) method_3_code (3 : Nat) (Option.some (Jvm.ClassFile.FieldType.object "java/lang/String")), Jvm.Cond.code ({ cls := "java/lang/String", name := "<init>", desc := "([C)V" } : Jvm.MethodName) jdk_42_method_3_code (2 : Nat) (Option.none : Option Jvm.ClassFile.FieldType), Jvm.Cond.code ({ cls := "java/lang/String", name := "<init>", desc := "([CIILjava/lang/Void;)V" } : Jvm.MethodName) jdk_42_method_149_code (6 : Nat) (Option.none : Option Jvm.ClassFile.FieldType), Jvm.Cond.code ({ cls := "java/lang/Object", name := "<init>", desc := "()V" } : Jvm.MethodName) object_method_1_code (1 : Nat) (Option.none : Option Jvm.ClassFile.FieldType), Jvm.Cond.code ({ cls := "com/example/interlace/interlace/ColumnHoldsAlikePinLaw", name := "type", desc := "(I)Lcom/example/interlace/interlace/DataType;" } : Jvm.MethodName) method_5_code (1 : Nat) (Option.some (Jvm.ClassFile.FieldType.object "com/example/interlace/interlace/DataType")), Jvm.Cond.code ({ cls := "com/example/interlace/interlace/Column", name := "<init>", desc := "(Ljava/lang/String;Lcom/example/interlace/interlace/DataType;IZLjava/util/Optional;)V" } : Jvm.MethodName) prog_11_method_2_code (6 : Nat) (Option.none : Option Jvm.ClassFile.FieldType), Jvm.Cond.code ({ cls := "java/lang/Record", name := "<init>", desc := "()V" } : Jvm.MethodName) jdk_30_method_1_code (1 : Nat) (Option.none : Option Jvm.ClassFile.FieldType), Jvm.Cond.code ({ cls := "java/lang/StringUTF16", name := "compress", desc := "([CII)[B" } : Jvm.MethodName) jdk_52_method_16_code (6 : Nat) (Option.some (Jvm.ClassFile.FieldType.array Jvm.ClassFile.FieldType.byte)), Jvm.Cond.code ({ cls := "java/lang/StringUTF16", name := "compress", desc := "([CI[BII)I" } : Jvm.MethodName) jdk_52_method_21_code (7 : Nat) (Option.some Jvm.ClassFile.FieldType.int), Jvm.Cond.code ({ cls := "java/lang/StringUTF16", name := "coderFromArrayLen", desc := "([BI)B" } : Jvm.MethodName) jdk_52_method_15_code (2 : Nat) (Option.some Jvm.ClassFile.FieldType.byte), Jvm.Cond.code ({ cls := "com/example/interlace/interlace/Column", name := "holdsAlike", desc := "(Lcom/example/interlace/interlace/Column;)Z" } : Jvm.MethodName) prog_11_method_9_code (2 : Nat) (Option.some Jvm.ClassFile.FieldType.boolean), Jvm.Cond.code ({ cls := "java/lang/String", name := "equals", desc := "(Ljava/lang/Object;)Z" } : Jvm.MethodName) jdk_42_method_66_code (3 : Nat) (Option.some Jvm.ClassFile.FieldType.boolean), Jvm.Cond.code ({ cls := "java/lang/StringLatin1", name := "equals", desc := "([B[B)Z" } : Jvm.MethodName) jdk_43_method_13_code (3 : Nat) (Option.some Jvm.ClassFile.FieldType.boolean), Jvm.Cond.code ({ cls := "java/lang/String", name := "valueOf", desc := "(C)Ljava/lang/String;" } : Jvm.MethodName) jdk_42_method_139_code (1 : Nat) (Option.some (Jvm.ClassFile.FieldType.object "java/lang/String")), Jvm.Cond.code ({ cls := "java/lang/StringLatin1", name := "canEncode", desc := "(C)Z" } : Jvm.MethodName) jdk_43_method_3_code (1 : Nat) (Option.some Jvm.ClassFile.FieldType.boolean), Jvm.Cond.code ({ cls := "java/lang/StringLatin1", name := "toBytes", desc := "(C)[B" } : Jvm.MethodName) jdk_43_method_46_code (1 : Nat) (Option.some (Jvm.ClassFile.FieldType.array Jvm.ClassFile.FieldType.byte)), Jvm.Cond.code ({ cls := "java/lang/String", name := "<init>", desc := "([BB)V" } : Jvm.MethodName) jdk_42_method_151_code (3 : Nat) (Option.none : Option Jvm.ClassFile.FieldType), Jvm.Cond.code ({ cls := "java/util/Optional", name := "of", desc := "(Ljava/lang/Object;)Ljava/util/Optional;" } : Jvm.MethodName) jdk_32_method_3_code (1 : Nat) (Option.some (Jvm.ClassFile.FieldType.object "java/util/Optional")), Jvm.Cond.code ({ cls := "java/util/Objects", name := "requireNonNull", desc := "(Ljava/lang/Object;)Ljava/lang/Object;" } : Jvm.MethodName) jdk_31_method_10_code (1 : Nat) (Option.some (Jvm.ClassFile.FieldType.object "java/lang/Object")), Jvm.Cond.code ({ cls := "java/util/Optional", name := "<init>", desc := "(Ljava/lang/Object;)V" } : Jvm.MethodName) jdk_32_method_2_code (2 : Nat) (Option.none : Option Jvm.ClassFile.FieldType)]
set_option maxRecDepth 65536 in
theorem codes_eq : words1.filter isCode = codes1 := rfl
theorem w_codes : ∀ c ∈ words1.filter isCode, c.before args0 about1 = true := by
  rw [codes_eq]
  intro c hc
  simp only [codes1, List.mem_cons, List.not_mem_nil, or_false] at hc
  rcases hc with rfl | rfl | rfl | rfl | rfl | rfl | rfl | rfl | rfl | rfl | rfl | rfl | rfl | rfl | rfl | rfl | rfl | rfl | rfl | rfl | rfl | rfl | rfl | rfl
  · exact w_c0
  · exact w_c1
  · exact w_c2
  · exact w_c3
  · exact w_c4
  · exact w_c5
  · exact w_c6
  · exact w_c7
  · exact w_c8
  · exact w_c9
  · exact w_c10
  · exact w_c11
  · exact w_c12
  · exact w_c13
  · exact w_c14
  · exact w_c15
  · exact w_c16
  · exact w_c17
  · exact w_c18
  · exact w_c19
  · exact w_c20
  · exact w_c21
  · exact w_c22
  · exact w_c23
set_option maxRecDepth 65536 in
theorem w_t1 : (words1.take 24).all (fun c => isCode c || c.before args0 about1) = true := by decide +kernel
set_option maxRecDepth 65536 in
theorem w_t2 : ((words1.drop 24).take 24).all (fun c => isCode c || c.before args0 about1) = true := by decide +kernel
set_option maxRecDepth 65536 in
theorem w_t3 : (((words1.drop 24).drop 24).take 24).all (fun c => isCode c || c.before args0 about1) = true := by decide +kernel
set_option maxRecDepth 65536 in
theorem w_t4 : ((((words1.drop 24).drop 24).drop 24).take 24).all (fun c => isCode c || c.before args0 about1) = true := by decide +kernel
set_option maxRecDepth 65536 in
theorem w_t5 : (((((words1.drop 24).drop 24).drop 24).drop 24).take 24).all (fun c => isCode c || c.before args0 about1) = true := by decide +kernel
set_option maxRecDepth 65536 in
theorem w_t6 : (((((words1.drop 24).drop 24).drop 24).drop 24).drop 24).all (fun c => isCode c || c.before args0 about1) = true := by decide +kernel
theorem w_tables : (allAtoms (Jvm.Cond.code x code maxLocals ret :: tables_1)).before args0 about1 = true := by
  rw [allAtoms_all]
  show words1.all (fun c => c.before args0 about1) = true
  refine all_split ?_ w_codes
  rw [← List.take_append_drop 24 words1, List.all_append, w_t1, ← List.take_append_drop 24 (words1.drop 24), List.all_append, w_t2, ← List.take_append_drop 24 ((words1.drop 24).drop 24), List.all_append, w_t3, ← List.take_append_drop 24 (((words1.drop 24).drop 24).drop 24), List.all_append, w_t4, ← List.take_append_drop 24 ((((words1.drop 24).drop 24).drop 24).drop 24), List.all_append, w_t5, w_t6]
  rfl
set_option maxRecDepth 65536 in
theorem w_rest : rest_1_c.before args0 about1 = true := by decide +kernel
set_option maxRecDepth 65536 in
theorem w_case : (Jvm.Cond.and given_1 narrow_1).before args0 about1 = true := by decide +kernel
set_option maxRecDepth 65536 in
theorem w_consts : constsHeld consts_1 about1 := Jvm.Lit.constsHeldB_iff.mp (by decide +kernel)
theorem w_applies : (headSpec (Jvm.Cond.code x code maxLocals ret :: tables_1) room_1).applies x e0.platform about1 = true :=
  (Spec.applies_iff w_frames).mpr ⟨w_running, w_runnable, w_alone, w_named, w_hears, w_ripe, w_room, w_tables⟩
theorem atStart : AtStart classFile x code maxLocals ret World_1 tables_1 room_1 Calls_1 rest_1 Pre_1 launch0 p0 e0 about1 theMethod args0 below0 :=
  ⟨lists_1, trivial, launch0.admits_env _ _ _, launch0.least_env, fairChoices_fair.cas, fairChoices_fair.clock, w_frames, w_args, w_heap, w_applies, ⟨w_consts, trivial⟩, w_rest, w_case⟩
end start1
theorem witness_1 : WitnessClaimed_1 := ⟨start1.p0, start1.e0, start1.about1, start1.theMethod, start1.args0, start1.below0, start1.atStart⟩
end Jvm.Pilot.@@N@@
