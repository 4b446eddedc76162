import JvmDerived
import JvmDerived.Pilot.@@N@@Statement
import JvmDerived.Pilot.@@N@@Code
set_option linter.unusedVariables false
set_option linter.unusedSimpArgs false
namespace Jvm.RoadKit
open Sem ClassFile Op Lib Jvm.Stand Jvm.Free Jvm.LawKit
/-- the run from S ends, and ends as Q says -/
def Go (tb : Tables) (e : Env) (below : List Frame) (Q : Outcome → State → Prop) (S : State) : Prop := ∃ s₂ o, Steps tb e below S s₂ ∧ s₂.status = .running ∧ Ended s₂ below o ∧ Q o s₂
theorem Go.by {tb : Tables} {e : Env} {below : List Frame} {Q : Outcome → State → Prop} {S S' : State} (h : ∀ t, Steps tb e below S' t → Steps tb e below S t) (k : Go tb e below Q S') : Go tb e below Q S := by
  obtain ⟨s₂, o, h1, r⟩ := k
  exact ⟨s₂, o, h _ h1, r⟩
/-- what is known of the tables vm and the heap h: the booked literals say their texts, and the cells of Fs are none of theirs -/
def Wi (Z : State) (EL : List (String × Nat)) (Fs : List Addr) (vm : Vm) (h : Heap) : Prop := Z.Warmed39 vm ∧ CHv Z EL vm h ∧ (∃ a1, EW Z a1 EL) ∧ ∀ x ∈ Fs, x < h.size ∧ Safe Z EL vm h x
/-- .. in a walk that began at s -/
def Wd (Z : State) (EL : List (String × Nat)) (Fs : List Addr) (s : State) (vm0 : Vm) (h : Heap) : Prop := (∃ k0, s.Since vm0 k0 ∧ k0 ≤ h.size) ∧ Wi Z EL Fs vm0 h ∧ CHr Z EL s.vm s.heap vm0 h
/-- what a contract says of the end -/
def Ret (Z : State) (EL : List (String × Nat)) (S1 : Option Value → Heap → Addr → Prop) (s : State) (n0 : Nat) (Q : Option Value → Heap → Prop) (C S : Nat) : Outcome → State → Prop := fun o U => ∃ v L, o = .returned v ∧ (Q v U.heap ∧ Fr n0 L) ∧ CHr Z EL s.vm s.heap U.vm U.heap ∧ (∀ x, S1 v U.heap x → x < U.heap.size ∧ Safe Z EL U.vm U.heap x) ∧ ReturnedEndW s o U L C S
def Met (l : Launch) (Z : State) (EL : List (String × Nat)) (F0 : List Addr) (S1 : Option Value → Heap → Addr → Prop) (n0 : Nat) (y : MethodName) (bytes : ByteArray) (maxL : Nat) (ret : Option FieldType) (ws : List Cond) (rm : Room) (as : Array Value) (h0 : Heap) (Q : Option Value → Heap → Prop) : Prop :=
  MetFree l y (head1 (Cond.code y bytes maxL ret :: ws) rm) (fun a U => a = as ∧ U.heap = h0 ∧ Wi Z EL F0 U.vm h0) (fun _ _ _ _ _ => True) (fun _ U o U' => Ret Z EL S1 U n0 Q rm.cells rm.slots o U')
/-- where the walk stands: the heap is h, k cells of n slots were made, nothing below n0 was written; literals may have been loaded -/
def Sd (Z : State) (EL : List (String × Nat)) (Fs : List Addr) (n0 : Nat) (p : Program) (l : Launch) (e : Env) (R : Room) (s : State) (m : MethodId) (args : Array Value) (below : List Frame) (meth : Method) (c : Code) (T : State) (h : Heap) (k n : Nat) : Prop :=
  ∃ vm0 locs, Stand p l e R (s.setVm vm0) m args below meth c T locs k n ∧ Fr n0 locs ∧ T.heap = h ∧ Wd Z EL Fs s vm0 h

section Sds
variable {n0 : Nat} {p : Program} {l : Launch} {e : Env} {R : Room} {s : State} {m : MethodId} {args : Array Value} {below : List Frame} {meth : Method} {c : Code} {T : State} {h : Heap} {k n : Nat} {Z : State} {a0 : Array Value} {EL : List (String × Nat)} {Fs : List Addr} {S1 : Option Value → Heap → Addr → Prop}
theorem Wd.hz0 {vm0 : Vm} (W : Wd Z EL Fs s vm0 h) : Z.Warmed39 vm0 := W.2.1.1
theorem Wd.hz {vm0 : Vm} (W : Wd Z EL Fs s vm0 h) : Z.Warmed39 (s.setVm vm0).vm := W.2.1.1
theorem Wd.own {vm0 : Vm} (W : Wd Z EL Fs s vm0 h) {o : String} {cc : ClassId} (q : s.vm.findClass o = some cc) : (s.setVm vm0).vm.findClass o = some cc := by
  obtain ⟨⟨k0, hS, -⟩, -⟩ := W
  rw [show (s.setVm vm0).vm = vm0 from rfl, hS.1.alike.findClass]; exact q
theorem Wd.safe {vm0 : Vm} (W : Wd Z EL Fs s vm0 h) {a : Addr} (q : a ∈ Fs) : Safe Z EL vm0 h a := (W.2.1.2.2.2 a q).2
theorem Wi.step {vm vm1 : Vm} {h h' : Heap} (W : Wi Z EL Fs vm h) (hz : Z.Warmed39 vm1) (C : CHr Z EL vm h vm1 h') : Wi Z EL Fs vm1 h' :=
  ⟨hz, C.1, W.2.2.1, fun x hx => ⟨Nat.lt_of_lt_of_le (W.2.2.2 x hx).1 C.2.1, C.safe (W.2.2.2 x hx).1 (W.2.2.2 x hx).2⟩⟩
theorem Wd.step {vm0 : Vm} {h h' : Heap} (W : Wd Z EL Fs s vm0 h) (C : CHr Z EL vm0 h vm0 h') : Wd Z EL Fs s vm0 h' := by
  obtain ⟨⟨k0, hS, hk⟩, W1, C0⟩ := W
  exact ⟨⟨k0, hS, Nat.le_trans hk C.2.1⟩, W1.step W1.1 C, C0.trans C⟩
theorem Wd.ext {vm0 : Vm} {h h' : Heap} (W : Wd Z EL Fs s vm0 h) (E : Ext h h') : Wd Z EL Fs s vm0 h' := W.step (CHr.ext E W.2.1.2.1)
theorem Wd.wr {vm0 : Vm} {h h' : Heap} {a : Addr} {sl : Nat} {v : Value} (W : Wd Z EL Fs s vm0 h) (w : Wr h h' a sl v) (S : Safe Z EL vm0 h a) : Wd Z EL Fs s vm0 h' := W.step (CHr.wr w S W.2.1.2.1)
theorem Wd.keep {vm0 : Vm} {h h' : Heap} {ws : List Addr} (W : Wd Z EL Fs s vm0 h) (K : Keep h h' ws) (hs : ∀ x ∈ ws, Safe Z EL vm0 h x) : Wd Z EL Fs s vm0 h' := W.step (CHr.keep K hs W.2.1.2.1)
theorem Wd.call {vm0 : Vm} {h : Heap} {T T' : State} (W : Wd Z EL Fs s vm0 h) (q : T.heap = h) (hS1 : (s.setVm vm0).Since T'.vm T'.heap.size) (hg : T.heap.size ≤ T'.heap.size) (C : CHr Z EL vm0 h T'.vm T'.heap) : Wd Z EL Fs s T'.vm T'.heap := by
  obtain ⟨⟨k0, hS, hk⟩, W1, C0⟩ := W
  exact ⟨⟨_, hS.trans hS1 (Nat.le_trans hk (by rw [← q]; exact hg)), Nat.le_refl _⟩, W1.step (State.Warmed39.trans (t := s.setVm vm0) W1.1 hS1.1) C, C0.trans C⟩
theorem Wi.at {vm0 : Vm} {locs : List Loc} {cells slots : Nat} (W : Wi Z EL Fs vm0 h) (X : Stand p l e R (s.setVm vm0) m args below meth c T locs cells slots) : Wi Z EL Fs T.vm h ∧ CHr Z EL vm0 h T.vm h := by
  obtain ⟨a1, w⟩ := W.2.2.1
  have C := CHv.at X W.1 w W.2.1
  exact ⟨W.step (wtrans (s := s.setVm vm0) W.1 X.warmed) C, C⟩
theorem Wi.sub {vm0 : Vm} {F0 : List Addr} (W : Wi Z EL Fs vm0 h) (hF : ∀ x ∈ F0, x ∈ Fs) : Wi Z EL F0 vm0 h := ⟨W.1, W.2.1, W.2.2.1, fun x hx => W.2.2.2 x (hF x hx)⟩
theorem Sd.sub {F0 : List Addr} (X : Sd Z EL Fs n0 p l e R s m args below meth c T h k n) (hF : ∀ x ∈ F0, x ∈ Fs) : Sd Z EL F0 n0 p l e R s m args below meth c T h k n := by
  obtain ⟨vm0, L, X, N, q, W⟩ := X
  exact ⟨vm0, L, X, N, q, W.1, W.2.1.sub hF, W.2.2⟩
theorem exa_lt {h : Heap} {a : Addr} {C : String} (E : Exa Z h a C) : a < h.size := by obtain ⟨c, _, h1, -⟩ := E; exact (Array.getElem?_eq_some_iff.mp h1).1
/-- a cell made by the last step is no literal's -/
theorem Wd.new {vm0 : Vm} {h h' : Heap} (W : Wd Z EL Fs s vm0 h) (E : Ext h h') (q : h.size < h'.size) : Wd Z EL (h.size :: Fs) s vm0 h' := by
  have W1 := W.ext E
  refine ⟨W1.1, ⟨W1.2.1.1, W1.2.1.2.1, W1.2.1.2.2.1, fun x hx => ?_⟩, W1.2.2⟩
  rcases List.mem_cons.mp hx with rfl | hx
  · exact ⟨q, Safe.ext E W.2.1.2.1 (Safe.new (Nat.le_refl _))⟩
  · exact W1.2.1.2.2.2 x hx
theorem f0n : ∀ x ∈ ([] : List Addr), x ∈ Fs := fun _ q => nomatch q
theorem f0s {a : Addr} {L : List Addr} (q : a ∈ Fs) (r : ∀ x ∈ L, x ∈ Fs) : ∀ x ∈ a :: L, x ∈ Fs := fun x hx => by
  rcases List.mem_cons.mp hx with rfl | hx
  · exact q
  · exact r x hx
theorem backW {y : MethodName} {bytes : ByteArray} {maxL : Nat} {ret : Option FieldType} {rm : Room} {len W : Nat} {as' : Array Value} {Q : Option Value → Heap → Prop} {F0 : List Addr} {vm0 : Vm}
    (hM : Met l Z EL F0 S1 n0 y bytes maxL ret [] rm as' h Q) (hW : Wi Z EL Fs vm0 h) (hF0 : ∀ x ∈ F0, x ∈ Fs) (wc : (Cond.code y bytes maxL ret).before a0 Z = true) (wz : (Cond.initialized y.cls).before a0 Z = true) (hf : rm.frames + 1 ≤ R.frames) (hl : W + (maxL + 11) + rm.locals ≤ R.locals) :
    BackS l R p e below (s.setVm vm0) args y len W (fun A a => a = as' ∧ A.U.heap = h ∧ A.cells + rm.cells ≤ R.cells ∧ A.slots + rm.slots ≤ R.slots)
      (fun A _ v B => ∃ L, (Q v B.U.heap ∧ Fr n0 L) ∧ B.locs = A.locs ++ L ∧ B.cells = A.cells + rm.cells ∧ B.slots = A.slots + rm.slots ∧ CHr Z EL vm0 h B.U.vm B.U.heap ∧ ∀ x, S1 v B.U.heap x → x < B.U.heap.size ∧ Safe Z EL B.U.vm B.U.heap x) :=
  BackS.of_freeW (bytes := bytes) (maxL := maxL) (ret := ret) (E := fun _ first o t L k n => k = rm.cells ∧ n = rm.slots ∧ (∃ v, o = .returned v ∧ (Q v t.heap ∧ Fr n0 L) ∧ ∀ x, S1 v t.heap x → x < t.heap.size ∧ Safe Z EL t.vm t.heap x) ∧ CHr Z EL first.vm first.heap t.vm t.heap) hM hf hl
    (fun m meth c A a Y hp => have hU : Z.Warmed39 A.U.vm := wtrans (s := s.setVm vm0) hW.1 Y.warmed
      ⟨by show (Cond.and _ .tt).before a A.U = true; rw [Cond.before_and, mv hU wc]; rfl, mv hU wc, mv hU wz, hp.2.2.1, hp.2.2.2⟩)
    (fun m meth c A a g mk Y hp => ⟨hp.1, hp.2.1, ((hW.at Y).1.sub hF0)⟩) (fun _ _ _ _ _ _ _ _ _ => trivial)
    (fun _ _ _ _ ⟨v, L, h1, h2, h3, h4, h5⟩ => ⟨L, _, _, h5, rfl, rfl, ⟨v, h1, h2, h4⟩, h3⟩)
    (fun m meth c A a g mk v t L k n Y hp _ _ ⟨e1, e2, ⟨v', e3, e4, e5⟩, e6⟩ => by
      cases e3; subst e1 e2
      refine ⟨L, e4, rfl, rfl, rfl, (hW.at Y).2.trans ?_, e5⟩
      rw [← hp.2.1]; exact e6)
theorem enter {y : MethodName} {bytes : ByteArray} {maxL : Nat} {ret : Option FieldType} {ws : List Cond} {rm : Room} {as : Array Value} {h0 : Heap} {Q : Option Value → Heap → Prop} {Ls : Array Slot}
    (hpl : plainFor y = true) (hef : ∀ m, entryFrame m as maxL = mkF m 0 Ls [])
    (body : ∀ (p : Program) (e : Env) (s : State) (m : MethodId) (below : List Frame) (meth : Method) (c : Code) (T0 : State), p.tables.exec = Jvm.exec → c.code = bytes → c.maxLocals = maxL → s.vm.findClass y.cls = some m.cls → meth.name = y.name → meth.sig.returnType = ret → meth.locks = false → Z.Warmed39 s.vm →
      Sd Z EL Fs n0 p l e rm s m as below meth c T0 h0 0 0 → Go p.tables e below (Ret Z EL S1 s n0 Q rm.cells rm.slots) (T0.setTop (mkF m 0 Ls []))) : Met l Z EL Fs S1 n0 y bytes maxL ret ws rm as h0 Q := by
  refine MetFree.of_bodySF hpl hisR ?_
  intro p e s m args below meth c s₁ Bd hml0 hP hK
  obtain ⟨rfl, hh, hW⟩ := hP
  have X0 : Stand p l e rm s m args below meth c s₁ [] 0 0 := Stand.of_body Bd
  have e0 : s₁.heap = h0 := by rw [← hh, Bd.state]; rfl
  have hlk : meth.locks = false := BodyLoose.notSynchronized Bd
  have hX : Stand p l e rm (s.setVm s.vm) m args below meth c s₁ [] 0 0 := X0
  have k := body p e s m below meth c s₁ Bd.exec Bd.bytes hml0 (findClass_of_methodNamed Bd.named) (name_of_methodNamed Bd.named Bd.method).1 Bd.returns hlk hW.1 ⟨s.vm, [], hX, Fr.nil n0, e0, ⟨0, (State.WarmedH.refl s).since 0, Nat.zero_le _⟩, hW, by rw [hh]; exact CHr.refl hW.2.1⟩
  obtain ⟨s₂, o, h1, h2, h3, h4⟩ := k
  exact ⟨s₂, o, castTop (hef m) h1, h2, h3, h4⟩
theorem Go.leave (X : Sd Z EL Fs n0 p l e R s m args below meth c T h k n) {Q : Option Value → Heap → Prop} {C S : Nat} {v : Option Value} {g : JFrame} (hlk : meth.locks = false) (hv : meth.sig.returnType = none → v = none)
    (hst : ∀ fs, (∀ (f : JFrame) (acts : List Action), f.method = m → f.locked = none → f.entered = [] → (doReturn e (T.setTop f) acts v).1 = T.setFrames fs) → Steps p.tables e below (T.setTop g) (T.setFrames fs))
    (hk : k ≤ C) (hn : n ≤ S) (hS1 : ∀ x, S1 v h x → x ∈ Fs) (hQ : Q v h) : Go p.tables e below (Ret Z EL S1 s n0 Q C S) (T.setTop g) := by
  obtain ⟨vm0, L, X, N, q, ⟨k0, hS, hk0⟩, W, C0⟩ := X
  obtain ⟨fs, hr, hrun, hended, hR⟩ := (X.more hk hn).leaveW hS (by rw [q]; exact hk0) (v := v) hv hlk
  have A := W.at X
  refine ⟨_, _, hst fs hr, hrun, hended, _, L, rfl, ⟨?_, N⟩, ?_, ?_, hR⟩
  · show Q v T.heap
    rw [q]; exact hQ
  · show CHr Z EL s.vm s.heap T.vm T.heap
    rw [q]; exact C0.trans A.2
  · intro x hx
    have := A.1.2.2.2 x (hS1 x (by rw [← q]; exact hx))
    show x < T.heap.size ∧ Safe Z EL T.vm T.heap x
    rw [q]; exact this

theorem catV {v : Value} (h : v.isRef = true) : v.category = 1 := by cases v <;> first | rfl | (cases h; done)
theorem Sd.here (X : Sd Z EL Fs n0 p l e R s m args below meth c T h k n) : At T m c below := by obtain ⟨_, _, X, -⟩ := X; exact X.here
theorem Sd.more (X : Sd Z EL Fs n0 p l e R s m args below meth c T h k n) {k' n' : Nat} (hk : k ≤ k') (hn : n ≤ n') : Sd Z EL Fs n0 p l e R s m args below meth c T h k' n' := by
  obtain ⟨vm0, L, X, N, q, W⟩ := X; exact ⟨vm0, L, X.more hk hn, N, q, W⟩
/-! returns -/
theorem Go.retN (X : Sd Z EL Fs n0 p l e R s m args below meth c T h k n) (hx : p.tables.exec = Jvm.exec) (hlk : meth.locks = false) {Q : Option Value → Heap → Prop} {C S : Nat} {t : FieldType} {pc : Nat} {Ls : Array Slot} {z z' : Int32} {rest : List Value} (hret : meth.sig.returnType = some t) (ht : t = .boolean ∨ t = .byte ∨ t = .char ∨ t = .short)
    (hd : decode c.code pc = .ok (.ireturn, 1)) (hz : nar t z = z') (hk : k ≤ C) (hn : n ≤ S) (hS1 : ∀ x, S1 (some (.int z')) h x → x ∈ Fs) (hQ : Q (some (.int z')) h) : Go p.tables e below (Ret Z EL S1 s n0 Q C S) (T.setTop (mkF m pc Ls (.int z :: rest))) := by
  subst hz
  refine Go.leave X hlk (fun q => by rw [hret] at q; cases q) (fun fs hr => ?_) hk hn hS1 hQ
  obtain ⟨vm0, L, X, -, q, Wd0⟩ := X
  exact Jvm.RoadKit.retN X hx hret ht hd hr
theorem Go.retI (X : Sd Z EL Fs n0 p l e R s m args below meth c T h k n) (hx : p.tables.exec = Jvm.exec) (hlk : meth.locks = false) {Q : Option Value → Heap → Prop} {C S : Nat} {pc : Nat} {Ls : Array Slot} {z : Int32} {rest : List Value} (hret : meth.sig.returnType = some .int)
    (hd : decode c.code pc = .ok (.ireturn, 1)) (hk : k ≤ C) (hn : n ≤ S) (hS1 : ∀ x, S1 (some (.int z)) h x → x ∈ Fs) (hQ : Q (some (.int z)) h) : Go p.tables e below (Ret Z EL S1 s n0 Q C S) (T.setTop (mkF m pc Ls (.int z :: rest))) := by
  refine Go.leave X hlk (fun q => by rw [hret] at q; cases q) (fun fs hr => ?_) hk hn hS1 hQ
  obtain ⟨vm0, L, X, -, q, Wd0⟩ := X
  exact retOut X hx hret rfl (Or.inl ⟨rfl, Or.inl rfl, _, rfl⟩) hd hr
theorem Go.retL (X : Sd Z EL Fs n0 p l e R s m args below meth c T h k n) (hx : p.tables.exec = Jvm.exec) (hlk : meth.locks = false) {Q : Option Value → Heap → Prop} {C S : Nat} {pc : Nat} {Ls : Array Slot} {z : Int64} {rest : List Value} (hret : meth.sig.returnType = some .long)
    (hd : decode c.code pc = .ok (.lreturn, 1)) (hk : k ≤ C) (hn : n ≤ S) (hS1 : ∀ x, S1 (some (.long z)) h x → x ∈ Fs) (hQ : Q (some (.long z)) h) : Go p.tables e below (Ret Z EL S1 s n0 Q C S) (T.setTop (mkF m pc Ls (.long z :: rest))) := by
  refine Go.leave X hlk (fun q => by rw [hret] at q; cases q) (fun fs hr => ?_) hk hn hS1 hQ
  obtain ⟨vm0, L, X, -, q, Wd0⟩ := X
  exact retOut X hx hret rfl (Or.inr (Or.inl ⟨rfl, rfl, _, rfl⟩)) hd hr
theorem Go.retA (X : Sd Z EL Fs n0 p l e R s m args below meth c T h k n) (hx : p.tables.exec = Jvm.exec) (hlk : meth.locks = false) {Q : Option Value → Heap → Prop} {C S : Nat} {t : FieldType} {pc : Nat} {Ls : Array Slot} {w : Value} {rest : List Value} (hret : meth.sig.returnType = some t) (ht : t.isReference = true) (hw : w.isRef = true)
    (hd : decode c.code pc = .ok (.areturn, 1)) (hk : k ≤ C) (hn : n ≤ S) (hS1 : ∀ x, S1 (some w) h x → x ∈ Fs) (hQ : Q (some w) h) : Go p.tables e below (Ret Z EL S1 s n0 Q C S) (T.setTop (mkF m pc Ls (w :: rest))) := by
  refine Go.leave X hlk (fun q => by rw [hret] at q; cases q) (fun fs hr => ?_) hk hn hS1 hQ
  obtain ⟨vm0, L, X, -, q, Wd0⟩ := X
  have hnar : narrow t w = w := by cases t <;> first | (cases ht; done) | (cases w <;> first | rfl | (cases hw; done))
  exact retOut X hx hret hnar (Or.inr (Or.inr (Or.inr (Or.inr ⟨rfl, ht, hw⟩)))) hd hr
theorem Go.ret0 (X : Sd Z EL Fs n0 p l e R s m args below meth c T h k n) (hx : p.tables.exec = Jvm.exec) (hlk : meth.locks = false) {Q : Option Value → Heap → Prop} {C S : Nat} {pc : Nat} {Ls : Array Slot} (hret : meth.sig.returnType = none)
    (hd : decode c.code pc = .ok (.return_, 1)) (hk : k ≤ C) (hn : n ≤ S) (hS1 : ∀ x, S1 none h x → x ∈ Fs) (hQ : Q none h) : Go p.tables e below (Ret Z EL S1 s n0 Q C S) (T.setTop (mkF m pc Ls [])) := by
  refine Go.leave X hlk (fun _ => rfl) (fun fs hr => ?_) hk hn hS1 hQ
  obtain ⟨vm0, L, X, -, q, Wd0⟩ := X
  exact X.returnOut hx hret hd hr
/-! fields, statics, casts -/
theorem Sd.getF (X : Sd Z EL Fs n0 p l e R s m args below meth c T h k n) (hx : p.tables.exec = Jvm.exec) (hZ : Z.Warmed39 s.vm) {own R0 O nm d host : String} {index : Nat} (hown : s.vm.findClass own = some m.cls) (w : (Cond.fieldLink own index R0 nm d).before a0 Z = true ∨ (Cond.fieldLinkNest own index R0 nm d host).before a0 Z = true) (via : Via Z R0 O nm d)
    {a : Addr} {v : Value} (F : Fld Z h a O nm d v) {g : JFrame} (hg : g.method = m) {rest : List Value} (hs : g.stack = .ref a :: rest) (hd : decode c.code g.pc = .ok (.getfield index, 3)) :
    ∃ T', Sd Z EL Fs n0 p l e R s m args below meth c T' h k n ∧ ∀ target, Steps p.tables e below (T'.setTop { g with pc := g.pc + 3, stack := v :: rest }) target → Steps p.tables e below (T.setTop g) target := by
  obtain ⟨vm0, L, X, N, q, Wd0⟩ := X
  replace hown := Wd0.own hown
  replace hZ := Wd0.hz (s := s)
  obtain ⟨T', X', e', st⟩ := Jvm.RoadKit.getF X hx hZ hown w via q F hg hs hd
  exact ⟨T', ⟨vm0, L, X', N, e', Wd0⟩, st⟩
theorem Sd.getS (X : Sd Z EL Fs n0 p l e R s m args below meth c T h k n) (hx : p.tables.exec = Jvm.exec) (hZ : Z.Warmed39 s.vm) {own R0 O nm d host : String} {index : Nat} (hown : s.vm.findClass own = some m.cls) (w : (Cond.fieldLink own index R0 nm d).before a0 Z = true ∨ (Cond.fieldLinkNest own index R0 nm d host).before a0 Z = true) (via : Via Z R0 O nm d)
    {v : Value} (F : Sta Z h O nm d v) {g : JFrame} (hg : g.method = m) (hd : decode c.code g.pc = .ok (.getstatic index, 3)) :
    ∃ T', Sd Z EL Fs n0 p l e R s m args below meth c T' h k n ∧ ∀ target, Steps p.tables e below (T'.setTop { g with pc := g.pc + 3, stack := v :: g.stack }) target → Steps p.tables e below (T.setTop g) target := by
  obtain ⟨vm0, L, X, N, q, Wd0⟩ := X
  replace hown := Wd0.own hown
  replace hZ := Wd0.hz (s := s)
  obtain ⟨T', X', e', st⟩ := getS2 X hx hZ hown w via q F hg hd
  exact ⟨T', ⟨vm0, L, X', N, e', Wd0⟩, st⟩
theorem Sd.putF (X : Sd Z EL Fs n0 p l e R s m args below meth c T h k n) (hx : p.tables.exec = Jvm.exec) (hZ : Z.Warmed39 s.vm) {own R0 O nm d host C : String} {index kk : Nat} {ty : FieldType} (hown : s.vm.findClass own = some m.cls) (w : (Cond.fieldLink own index R0 nm d).before a0 Z = true ∨ (Cond.fieldLinkNest own index R0 nm d host).before a0 Z = true) (via : Via Z R0 O nm d)
    {a : Addr} {v old : Value} (F : Fld Z h a O nm d old) (E : Exa Z h a C) (ga : n0 ≤ a) (hF : a ∈ Fs ∨ (C ≠ "java/lang/String" ∧ C ≠ "[B")) (L : (Cond.lays C O nm d).before a0 Z = true ∨ ((Cond.laysFinal C O nm d).before a0 Z = true ∧ own = O ∧ meth.name = "<init>")) (wi : (Cond.instantiable C kk).before a0 Z = true)
    (hty : parseFieldDescriptor d = some ty) (hnr : narrow ty v = v) (hf : fits ty v = true) {g : JFrame} (hg : g.method = m) {rest : List Value} (hs : g.stack = v :: .ref a :: rest) (hd : decode c.code g.pc = .ok (.putfield index, 3)) :
    ∃ T' h', Sd Z EL Fs n0 p l e R s m args below meth c T' h' k n ∧ Wr h h' a (slotOf Z O nm d) v ∧ ∀ target, Steps p.tables e below (T'.setTop { g with pc := g.pc + 3, stack := rest }) target → Steps p.tables e below (T.setTop g) target := by
  obtain ⟨vm0, Lc, X, N, q, Wd0⟩ := X
  replace hown := Wd0.own hown
  replace hZ := Wd0.hz (s := s)
  obtain ⟨T', h', X', e', W, st⟩ := Jvm.RoadKit.putF X hx hZ hown w via q F E L wi hty hnr hf hg hs hd
  exact ⟨T', h', ⟨vm0, _, X', Fr.snoc X' N ga, e', Wd0.wr W (hF.elim (fun z => Wd0.safe z) (fun z => Safe.exa Wd0.hz0.alike E z.1 z.2))⟩, W, st⟩
theorem Sd.putFN (X : Sd Z EL Fs n0 p l e R s m args below meth c T h k n) (hx : p.tables.exec = Jvm.exec) (hZ : Z.Warmed39 s.vm) {own R0 O nm d C : String} {index kk : Nat} {ty : FieldType} (hown : s.vm.findClass own = some m.cls) (w : (Cond.fieldLink own index R0 nm d).before a0 Z = true) (via : Via Z R0 O nm d)
    {a : Addr} {v v' old : Value} (F : Fld Z h a O nm d old) (E : Exa Z h a C) (ga : n0 ≤ a) (hF : a ∈ Fs ∨ (C ≠ "java/lang/String" ∧ C ≠ "[B")) (L : (Cond.lays C O nm d).before a0 Z = true ∨ ((Cond.laysFinal C O nm d).before a0 Z = true ∧ own = O ∧ meth.name = "<init>")) (wi : (Cond.instantiable C kk).before a0 Z = true)
    (hty : parseFieldDescriptor d = some ty) (hnr : narrow ty v = v') (hf : fits ty v' = true) {g : JFrame} (hg : g.method = m) {rest : List Value} (hs : g.stack = v :: .ref a :: rest) (hd : decode c.code g.pc = .ok (.putfield index, 3)) :
    ∃ T' h', Sd Z EL Fs n0 p l e R s m args below meth c T' h' k n ∧ Wr h h' a (slotOf Z O nm d) v' ∧ ∀ target, Steps p.tables e below (T'.setTop { g with pc := g.pc + 3, stack := rest }) target → Steps p.tables e below (T.setTop g) target := by
  obtain ⟨vm0, Lc, X, N, q, Wd0⟩ := X
  replace hown := Wd0.own hown
  replace hZ := Wd0.hz (s := s)
  obtain ⟨T', h', X', e', W, st⟩ := Jvm.RoadKit.putFN X hx hZ hown w via q F E L wi hty hnr hf hg hs hd
  exact ⟨T', h', ⟨vm0, _, X', Fr.snoc X' N ga, e', Wd0.wr W (hF.elim (fun z => Wd0.safe z) (fun z => Safe.exa Wd0.hz0.alike E z.1 z.2))⟩, W, st⟩
theorem Sd.castY (X : Sd Z EL Fs n0 p l e R s m args below meth c T h k n) (hx : p.tables.exec = Jvm.exec) (hZ : Z.Warmed39 s.vm) {own K : String} {index : Nat} (hown : s.vm.findClass own = some m.cls) (w : (Cond.classLink own index K).before a0 Z = true) {a : Addr} (F : Ins Z h a K true)
    {g : JFrame} (hg : g.method = m) {rest : List Value} (hs : g.stack = .ref a :: rest) (hd : decode c.code g.pc = .ok (.checkcast index, 3)) :
    ∃ T', Sd Z EL Fs n0 p l e R s m args below meth c T' h k n ∧ ∀ target, Steps p.tables e below (T'.setTop { g with pc := g.pc + 3 }) target → Steps p.tables e below (T.setTop g) target := by
  obtain ⟨vm0, L, X, N, q, Wd0⟩ := X
  replace hown := Wd0.own hown
  replace hZ := Wd0.hz (s := s)
  obtain ⟨T', X', e', st⟩ := Jvm.RoadKit.castY X hx hZ hown w q F hg hs hd
  exact ⟨T', ⟨vm0, L, X', N, e', Wd0⟩, st⟩
theorem Sd.instY (X : Sd Z EL Fs n0 p l e R s m args below meth c T h k n) (hx : p.tables.exec = Jvm.exec) (hZ : Z.Warmed39 s.vm) {own K : String} {index : Nat} (hown : s.vm.findClass own = some m.cls) (w : (Cond.classLink own index K).before a0 Z = true) {a : Addr} (F : Ins Z h a K true)
    {g : JFrame} (hg : g.method = m) {rest : List Value} (hs : g.stack = .ref a :: rest) (hd : decode c.code g.pc = .ok (.instanceof index, 3)) :
    ∃ T', Sd Z EL Fs n0 p l e R s m args below meth c T' h k n ∧ ∀ target, Steps p.tables e below (T'.setTop { g with pc := g.pc + 3, stack := .int 1 :: rest }) target → Steps p.tables e below (T.setTop g) target := by
  obtain ⟨vm0, L, X, N, q, Wd0⟩ := X
  replace hown := Wd0.own hown
  replace hZ := Wd0.hz (s := s)
  obtain ⟨T', X', e', st⟩ := Jvm.RoadKit.instY X hx hZ hown w q F hg hs hd
  exact ⟨T', ⟨vm0, L, X', N, e', Wd0⟩, st⟩
theorem Sd.instNull (X : Sd Z EL Fs n0 p l e R s m args below meth c T h k n) (hx : p.tables.exec = Jvm.exec) {index : Nat} {g : JFrame} (hg : g.method = m) {rest : List Value} (hs : g.stack = .null :: rest) (hd : decode c.code g.pc = .ok (.instanceof index, 3)) :
    ∀ target, Steps p.tables e below (T.setTop { g with pc := g.pc + 3, stack := .int 0 :: rest }) target → Steps p.tables e below (T.setTop g) target := by
  obtain ⟨vm0, L, X, -, q, Wd0⟩ := X
  exact X.instanceofNull hx hg hs hd
theorem Sd.ldcInt (X : Sd Z EL Fs n0 p l e R s m args below meth c T h k n) (hx : p.tables.exec = Jvm.exec) (hZ : Z.Warmed39 s.vm) {own : String} {index : Nat} {v : Int32} (hown : s.vm.findClass own = some m.cls) (w : (Cond.constant own index v).before a0 Z = true) {g : JFrame} (hg : g.method = m) (hd : decode c.code g.pc = .ok (.ldc index, 2)) :
    ∀ target, Steps p.tables e below (T.setTop { g with pc := g.pc + 2, stack := .int v :: g.stack }) target → Steps p.tables e below (T.setTop g) target := by
  obtain ⟨vm0, L, X, -, q, Wd0⟩ := X
  replace hown := Wd0.own hown
  replace hZ := Wd0.hz (s := s)
  exact X.ldcInt hx hown (mvT hZ w) hg hd
theorem Sd.ldc2Long (X : Sd Z EL Fs n0 p l e R s m args below meth c T h k n) (hx : p.tables.exec = Jvm.exec) (hZ : Z.Warmed39 s.vm) {own : String} {index : Nat} {v : Int64} (hown : s.vm.findClass own = some m.cls) (w : (Cond.constantLong own index v).before a0 Z = true) {g : JFrame} (hg : g.method = m) (hd : decode c.code g.pc = .ok (.ldc2_w index, 3)) :
    ∀ target, Steps p.tables e below (T.setTop { g with pc := g.pc + 3, stack := .long v :: g.stack }) target → Steps p.tables e below (T.setTop g) target := by
  obtain ⟨vm0, L, X, -, q, Wd0⟩ := X
  replace hown := Wd0.own hown
  replace hZ := Wd0.hz (s := s)
  exact X.ldc2Long hx hown (mvT hZ w) hg hd
theorem Sd.acmp {g : JFrame} (X : Sd Z EL Fs n0 p l e R s m args below meth c T h k n) (hx : p.tables.exec = Jvm.exec) (hg : g.method = m) {cd : ACond} {x y : Value} (h1 : x.isRef = true) (h2 : y.isRef = true) {rest : List Value} {o : Int} {pc0 pc' : Nat} {same : Bool} (hpc : g.pc = pc0)
    (hd : decode c.code g.pc = .ok (.if_acmp cd o, 3)) (hs : g.stack = y :: x :: rest) (hq : decide (x = y) = same) (ho : 0 ≤ (pc0 : Int) + o) (hp : pc' = if acV cd same = true then ((pc0 : Int) + o).toNat else pc0 + 3) :
    ∀ target, Steps p.tables e below (T.setTop { g with pc := pc', stack := rest }) target → Steps p.tables e below (T.setTop g) target := by
  obtain ⟨vm0, L, X, -, q, Wd0⟩ := X
  exact fun _ => Jvm.RoadKit.acmp X hx hg h1 h2 hpc hd hs hq ho hp
theorem Sd.getFR (X : Sd Z EL Fs n0 p l e R s m args below meth c T h k n) (hx : p.tables.exec = Jvm.exec) (hZ : Z.Warmed39 s.vm) {own O nm d : String} {index : Nat} (hown : s.vm.findClass own = some m.cls) (w : (Cond.fieldRef own index O nm d).before a0 Z = true)
    {a : Addr} {v : Value} (F : Fld Z h a O nm d v) {g : JFrame} (hg : g.method = m) {rest : List Value} (hs : g.stack = .ref a :: rest) (hd : decode c.code g.pc = .ok (.getfield index, 3)) :
    ∀ target, Steps p.tables e below (T.setTop { g with pc := g.pc + 3, stack := v :: rest }) target → Steps p.tables e below (T.setTop g) target := by
  obtain ⟨vm0, L, X, N, q, Wd0⟩ := X
  replace hown := Wd0.own hown
  replace hZ := Wd0.hz (s := s)
  obtain ⟨cell, cf, kk, i, f, h1, h2, h3, h4, h5, h6, h7⟩ := F
  have hT : Z.Warmed39 T.vm := wtrans hZ X.warmed
  have w' := Cond.fieldRef_warmed39 hT w
  have hcur : (Z.setVm T.vm).vm.findClass own = some m.cls := by show T.vm.findClass own = _; rw [X.warmed.alike.findClass]; exact hown
  obtain ⟨c', k', i', f', e1, e2⟩ := Cond.fieldRef_spec hcur w'
  obtain ⟨k2, hi, -⟩ := State.fieldFound?_setVm (s := Z) hT.alike h2
  cases e1.symm.trans hi
  intro target hrest
  subst hg
  jvm_step X.here [hx, hd, getfield.wp_ready (e := e) (s := T) (f := g) X.here.top e2 h3 hs (by rw [q]; exact h1) h4 h7]
  exact hrest
/-! making -/
theorem Sd.newOF (X : Sd Z EL Fs n0 p l e R s m args below meth c T h k n) (hx : p.tables.exec = Jvm.exec) (hZ : Z.Warmed39 s.vm) {own C : String} {index sz k' n' : Nat} (hown : s.vm.findClass own = some m.cls) (w : (Cond.classLink own index C).before a0 Z = true) (wi : (Cond.instantiable C sz).before a0 Z = true) (wz : (Cond.initialized C).before a0 Z = true)
    {g : JFrame} (hg : g.method = m) (hd : decode c.code g.pc = .ok (.new index, 3)) (hk : k + 1 = k') (hn : n + sz = n') (hc : k' ≤ R.cells) (hl : n' ≤ R.slots) :
    ∃ T' h' a, Sd Z EL (a :: Fs) n0 p l e R s m args below meth c T' h' k' n' ∧ a = h.size ∧ Ext h h' ∧ Exa Z h' a C ∧ (∀ {O nm d : String} {ty : FieldType}, Laid Z a0 C O nm d → parseFieldDescriptor d = some ty → Fld Z h' a O nm d (defaultValue ty)) ∧
      ∀ target, Steps p.tables e below (T'.setTop { g with pc := g.pc + 3, stack := .ref a :: g.stack }) target → Steps p.tables e below (T.setTop g) target := by
  subst hk hn
  obtain ⟨vm0, L, X, N, q, Wd0⟩ := X
  replace hown := Wd0.own hown
  replace hZ := Wd0.hz (s := s)
  obtain ⟨T', h', X', e', E, A, D, -, st⟩ := Jvm.RoadKit.newO X hx hZ hown w wi wz q hg hd hc hl
  exact ⟨T', h', _, ⟨vm0, L, X', N, e', Wd0.new E (exa_lt A)⟩, rfl, E, A, D, st⟩
theorem Sd.newO (X : Sd Z EL Fs n0 p l e R s m args below meth c T h k n) (hx : p.tables.exec = Jvm.exec) (hZ : Z.Warmed39 s.vm) {own C : String} {index sz k' n' : Nat} (hown : s.vm.findClass own = some m.cls) (w : (Cond.classLink own index C).before a0 Z = true) (wi : (Cond.instantiable C sz).before a0 Z = true) (wz : (Cond.initialized C).before a0 Z = true)
    {g : JFrame} (hg : g.method = m) (hd : decode c.code g.pc = .ok (.new index, 3)) (hk : k + 1 = k') (hn : n + sz = n') (hc : k' ≤ R.cells) (hl : n' ≤ R.slots) :
    ∃ T' h' a, Sd Z EL Fs n0 p l e R s m args below meth c T' h' k' n' ∧ a = h.size ∧ Ext h h' ∧ Exa Z h' a C ∧ (∀ {O nm d : String} {ty : FieldType}, Laid Z a0 C O nm d → parseFieldDescriptor d = some ty → Fld Z h' a O nm d (defaultValue ty)) ∧
      ∀ target, Steps p.tables e below (T'.setTop { g with pc := g.pc + 3, stack := .ref a :: g.stack }) target → Steps p.tables e below (T.setTop g) target := by
  subst hk hn
  obtain ⟨vm0, L, X, N, q, Wd0⟩ := X
  replace hown := Wd0.own hown
  replace hZ := Wd0.hz (s := s)
  obtain ⟨T', h', X', e', E, A, D, -, st⟩ := Jvm.RoadKit.newO X hx hZ hown w wi wz q hg hd hc hl
  exact ⟨T', h', _, ⟨vm0, L, X', N, e', Wd0.ext E⟩, rfl, E, A, D, st⟩
theorem Sd.initO (X : Sd Z EL Fs n0 p l e R s m args below meth c T h k n) (hx : p.tables.exec = Jvm.exec) (hZ : Z.Warmed39 s.vm) {own : String} {idx : Nat} (hown : s.vm.findClass own = some m.cls) (w1 : (Cond.methodLink own idx Lib.objectInit).before a0 Z = true) (w2 : (Cond.instanceMethod Lib.objectInit).before a0 Z = true)
    (w3 : (Cond.code Lib.objectInit ⟨#[0xb1]⟩ 1 none).before a0 Z = true) {g : JFrame} (hg : g.method = m) (hsize : g.locals.size = c.maxLocals) {a : Addr} {rest : List Value} (hs : g.stack = .ref a :: rest) (hd : decode c.code g.pc = .ok (.invokespecial idx, 3))
    (hf : 1 ≤ R.frames) (hl : 2 * g.monitorRoom + (rest.map fun v => v.category).sum + 12 ≤ R.locals) :
    ∃ T', Sd Z EL Fs n0 p l e R s m args below meth c T' h k n ∧ ∀ target, Steps p.tables e below (T'.setTop { g with pc := g.pc + 3, stack := rest }) target → Steps p.tables e below (T.setTop g) target := by
  obtain ⟨vm0, L, X, N, q, Wd0⟩ := X
  replace hown := Wd0.own hown
  replace hZ := Wd0.hz (s := s)
  obtain ⟨T', X', e', st⟩ := Jvm.RoadKit.initO X hx hZ hown w1 w2 w3 q hg hsize hs hd hf (W := 2 * g.monitorRoom + (rest.map fun v => v.category).sum) (Nat.le_refl _) hl
  exact ⟨T', ⟨vm0, L, X', N, e', Wd0⟩, st⟩
/-- an array of n' places, place i holds f i -/
def Avf (Z : State) (h : Heap) (a : Addr) (kc : ClassId) (ty : FieldType) (sz : Nat) (f : Nat → Value) : Prop := ∃ cl : Cell, Arr Z h a cl ty ∧ cl.cls = kc ∧ cl.slots.size = sz ∧ sz < 2 ^ 31 ∧ ∀ i, i < sz → cl.slots[i]? = some (f i) ∧ fits ty (f i) = true
theorem Avf.lt {h : Heap} {a : Addr} {kc : ClassId} {ty : FieldType} {sz : Nat} {f : Nat → Value} (F : Avf Z h a kc ty sz f) : a < h.size := by obtain ⟨_, A, -⟩ := F; exact A.lt
theorem Avf.ext {h h' : Heap} {a : Addr} {kc : ClassId} {ty : FieldType} {sz : Nat} {f : Nat → Value} (F : Avf Z h a kc ty sz f) (E : Ext h h') : Avf Z h' a kc ty sz f := by obtain ⟨cl, A, r⟩ := F; exact ⟨cl, A.ext E, r⟩
theorem Avf.other {h h' : Heap} {a b : Addr} {kc : ClassId} {ty : FieldType} {sz sl : Nat} {f : Nat → Value} {v : Value} (F : Avf Z h b kc ty sz f) (W : Wr h h' a sl v) (q : b ≠ a) : Avf Z h' b kc ty sz f := by obtain ⟨cl, A, r⟩ := F; exact ⟨cl, A.other W q, r⟩
theorem Avf.keep {h h' : Heap} {a : Addr} {kc : ClassId} {ty : FieldType} {sz : Nat} {f : Nat → Value} {ws : List Addr} (F : Avf Z h a kc ty sz f) (K : Keep h h' ws) (q : a ∉ ws) : Avf Z h' a kc ty sz f := by obtain ⟨cl, A, r⟩ := F; exact ⟨cl, ⟨K.2.1 a cl A.1 q, A.2⟩, r⟩
theorem Avf.cong {h : Heap} {a : Addr} {kc : ClassId} {ty : FieldType} {sz : Nat} {f g : Nat → Value} (F : Avf Z h a kc ty sz f) (q : ∀ i, i < sz → f i = g i) : Avf Z h a kc ty sz g := by
  obtain ⟨cl, A, r1, r2, r3, r4⟩ := F; exact ⟨cl, A, r1, r2, r3, fun i hi => by rw [← q i hi]; exact r4 i hi⟩
theorem Avf.set {h h' : Heap} {a : Addr} {kc : ClassId} {ty : FieldType} {sz : Nat} {f : Nat → Value} {v : Value} {j : Nat} (F : Avf Z h a kc ty sz f) (W : Wr h h' a j v) (hv : fits ty v = true) : Avf Z h' a kc ty sz (fun i => if i = j then v else f i) := by
  obtain ⟨cl, A, r1, r2, r3, r4⟩ := F
  refine ⟨_, A.same W, r1, by rw [sz_set]; exact r2, r3, fun i hi => ?_⟩
  by_cases q : i = j
  · subst q; simp [Cell.setSlot, r2, hi, hv]
  · simp [Cell.setSlot, q, r4 i hi, Array.getElem?_setIfInBounds_ne (Ne.symm q)]
theorem Avf.of_arv {h : Heap} {a : Addr} {kc : ClassId} {ty : FieldType} {z : Int32} {vs : List Value} {dv : Value} (F : Arv Z h a kc ty z vs dv) : Avf Z h a kc ty z.toNatClampNeg (fun i => vs.getD i dv) := by
  obtain ⟨cl, A, r1, r2, r3, H, G⟩ := F
  exact ⟨cl, A, r1, r2, (back32 r3).2, fun i hi => ⟨H i (by rw [r2]; exact hi), G i (by rw [r2]; exact hi)⟩⟩
theorem Sd.newPF (X : Sd Z EL Fs n0 p l e R s m args below meth c T h k n) (hx : p.tables.exec = Jvm.exec) (hZ : Z.Warmed39 s.vm) {aty : ArrayType} (w : (Cond.arrayClass (newarray.typeOf aty)).before a0 Z = true) {g : JFrame} (hg : g.method = m) (hd : decode c.code g.pc = .ok (.newarray aty, 2)) {z : Int32} {rest : List Value} (hs : g.stack = .int z :: rest)
    (hz : ¬ z < 0) {sz cap k' n' : Nat} (hsz : z.toNatClampNeg = sz) (hcap : sz ≤ cap) (hb : cap * 8 ≤ 536870912) (hk : k + 1 = k') (hn : n + cap = n') (hc : k' ≤ R.cells) (hl : n' ≤ R.slots) {ad : String} (had : "[" ++ (newarray.typeOf aty).toString = ad) :
    ∃ T' h' kc a, Sd Z EL (a :: Fs) n0 p l e R s m args below meth c T' h' k' n' ∧ a = h.size ∧ Ext h h' ∧ Exa Z h' a ad ∧ Avf Z h' a kc (newarray.typeOf aty) sz (fun _ => defaultValue (newarray.typeOf aty)) ∧
      ∀ target, Steps p.tables e below (T'.setTop { g with pc := g.pc + 2, stack := .ref a :: rest }) target → Steps p.tables e below (T.setTop g) target := by
  subst hk hn hsz
  obtain ⟨vm0, L, X, N, q, Wd0⟩ := X
  replace hZ := Wd0.hz (s := s)
  obtain ⟨T', h', kc, X', e', E, A, Ex, st⟩ := Jvm.RoadKit.newPE X hx hZ w q hg hd hs hz hcap hb hc hl had
  refine ⟨T', h', kc, _, ⟨vm0, L, X', N, e', Wd0.new E (exa_lt Ex)⟩, rfl, E, Ex, ⟨_, A, rfl, sz_new _ _ _, (back32 hz).2, fun i hi => ⟨by simp [newA, hi], ?_⟩⟩, st⟩
  cases aty <;> rfl
theorem Sd.newP (X : Sd Z EL Fs n0 p l e R s m args below meth c T h k n) (hx : p.tables.exec = Jvm.exec) (hZ : Z.Warmed39 s.vm) {aty : ArrayType} (w : (Cond.arrayClass (newarray.typeOf aty)).before a0 Z = true) {g : JFrame} (hg : g.method = m) (hd : decode c.code g.pc = .ok (.newarray aty, 2)) {z : Int32} {rest : List Value} (hs : g.stack = .int z :: rest)
    (hz : ¬ z < 0) {sz cap k' n' : Nat} (hsz : z.toNatClampNeg = sz) (hcap : sz ≤ cap) (hb : cap * 8 ≤ 536870912) (hk : k + 1 = k') (hn : n + cap = n') (hc : k' ≤ R.cells) (hl : n' ≤ R.slots) {ad : String} (had : "[" ++ (newarray.typeOf aty).toString = ad) :
    ∃ T' h' kc a, Sd Z EL Fs n0 p l e R s m args below meth c T' h' k' n' ∧ a = h.size ∧ Ext h h' ∧ Exa Z h' a ad ∧ Avf Z h' a kc (newarray.typeOf aty) sz (fun _ => defaultValue (newarray.typeOf aty)) ∧
      ∀ target, Steps p.tables e below (T'.setTop { g with pc := g.pc + 2, stack := .ref a :: rest }) target → Steps p.tables e below (T.setTop g) target := by
  subst hk hn hsz
  obtain ⟨vm0, L, X, N, q, Wd0⟩ := X
  replace hZ := Wd0.hz (s := s)
  obtain ⟨T', h', kc, X', e', E, A, Ex, st⟩ := Jvm.RoadKit.newPE X hx hZ w q hg hd hs hz hcap hb hc hl had
  refine ⟨T', h', kc, _, ⟨vm0, L, X', N, e', Wd0.ext E⟩, rfl, E, Ex, ⟨_, A, rfl, sz_new _ _ _, (back32 hz).2, fun i hi => ⟨by simp [newA, hi], ?_⟩⟩, st⟩
  cases aty <;> rfl
theorem Sd.newR (X : Sd Z EL Fs n0 p l e R s m args below meth c T h k n) (hx : p.tables.exec = Jvm.exec) (hZ : Z.Warmed39 s.vm) {own C : String} {index : Nat} (hown : s.vm.findClass own = some m.cls) (w1 : (Cond.classLink own index C).before a0 Z = true) (w2 : (Cond.arrayOver (.object C)).before a0 Z = true)
    {g : JFrame} (hg : g.method = m) (hd : decode c.code g.pc = .ok (.anewarray index, 3)) {z : Int32} {rest : List Value} (hs : g.stack = .int z :: rest)
    (hz : ¬ z < 0) {sz cap k' n' : Nat} (hsz : z.toNatClampNeg = sz) (hcap : sz ≤ cap) (hb : cap * 8 ≤ 536870912) (hk : k + 1 = k') (hn : n + cap = n') (hc : k' ≤ R.cells) (hl : n' ≤ R.slots) {ad : String} (had : "[" ++ (FieldType.object C).toString = ad) :
    ∃ T' h' kc a, Sd Z EL Fs n0 p l e R s m args below meth c T' h' k' n' ∧ a = h.size ∧ Ext h h' ∧ Exa Z h' a ad ∧ Avf Z h' a kc (.object C) sz (fun _ => .null) ∧ Ovr Z kc C ∧
      ∀ target, Steps p.tables e below (T'.setTop { g with pc := g.pc + 3, stack := .ref a :: rest }) target → Steps p.tables e below (T.setTop g) target := by
  subst hk hn hsz
  obtain ⟨vm0, L, X, N, q, Wd0⟩ := X
  replace hown := Wd0.own hown
  replace hZ := Wd0.hz (s := s)
  obtain ⟨T', h', kc, X', e', E, A, Ex, O, st⟩ := Jvm.RoadKit.newRE X hx hZ hown w1 w2 q hg hd hs hz hcap hb hc hl had
  exact ⟨T', h', kc, _, ⟨vm0, L, X', N, e', Wd0.ext E⟩, rfl, E, Ex, ⟨_, A, rfl, sz_new _ _ _, (back32 hz).2, fun i hi => ⟨by simp [newA, hi, defaultValue], rfl⟩⟩, O, st⟩
theorem Sd.clone (X : Sd Z EL Fs n0 p l e R s m args below meth c T h k n) (hx : p.tables.exec = Jvm.exec) (hZ : Z.Warmed39 s.vm) {own ad : String} {index : Nat} (hown : s.vm.findClass own = some m.cls)
    (w1 : (Cond.methodLink own index ⟨ad, "clone", "()Ljava/lang/Object;"⟩).before a0 Z = true) (w2 : (Cond.sameMethod ad "java/lang/Object" "clone" "()Ljava/lang/Object;").before a0 Z = true) (w3 : (Cond.native ⟨"java/lang/Object", "clone", "()Ljava/lang/Object;"⟩).before a0 Z = true)
    (w4 : (Cond.instanceMethod ⟨"java/lang/Object", "clone", "()Ljava/lang/Object;"⟩).before a0 Z = true) (w5 : (Cond.selects ad ⟨ad, "clone", "()Ljava/lang/Object;"⟩ ⟨"java/lang/Object", "clone", "()Ljava/lang/Object;"⟩).before a0 Z = true) (w6 : (Cond.castable ad "java/lang/Cloneable").before a0 Z = true)
    {a : Addr} {kc : ClassId} {ty : FieldType} {sz : Nat} {f : Nat → Value} (F : Avf Z h a kc ty sz f) (E : Exa Z h a ad) {g : JFrame} (hg : g.method = m) (hsize : g.locals.size = c.maxLocals) {rest : List Value} (hst : g.stack = .ref a :: rest) (hd : decode c.code g.pc = .ok (.invokevirtual index, 3))
    (hf : 1 ≤ R.frames) (hl : 2 * g.monitorRoom + (rest.map fun v => v.category).sum + 14 ≤ R.locals) {cap k' n' : Nat} (hcap : sz ≤ cap) (hk : k + 1 = k') (hn : n + cap = n') (hc : k' ≤ R.cells) (hs : n' ≤ R.slots) :
    ∃ T' h' b, Sd Z EL Fs n0 p l e R s m args below meth c T' h' k' n' ∧ b = h.size ∧ Ext h h' ∧ Exa Z h' b ad ∧ Avf Z h' b kc ty sz f ∧ ∀ target, Steps p.tables e below (T'.setTop { g with pc := g.pc + 3, stack := .ref b :: rest }) target → Steps p.tables e below (T.setTop g) target := by
  subst hk hn
  obtain ⟨vm0, L, X, N, q, Wd0⟩ := X
  replace hown := Wd0.own hown
  replace hZ := Wd0.hz (s := s)
  obtain ⟨cl, A, r1, r2, r3, r4⟩ := F
  have FC : FitC Z cl := fitC_of A fun i hi v hv => by rw [(r4 i (r2 ▸ hi)).1] at hv; cases hv; exact (r4 i (r2 ▸ hi)).2
  obtain ⟨T', h', X', e', ex, A', E', st⟩ := cloneA X hx hZ hown w1 w2 w3 w4 w5 w6 q A E FC hg hsize hst hd hf (W := 2 * g.monitorRoom + (rest.map fun v => v.category).sum) (Nat.le_refl _) hl (by rw [r2]; exact hcap) hc hs
  exact ⟨T', h', _, ⟨vm0, L, X', N, e', Wd0.ext ex⟩, rfl, ex, E', ⟨cloneOf cl, A', r1, r2, r3, r4⟩, st⟩
theorem Avf.arv {h : Heap} {a : Addr} {kc : ClassId} {ty : FieldType} {sz : Nat} {f : Nat → Value} (F : Avf Z h a kc ty sz f) (d : Value) : Arv Z h a kc ty sz.toInt32 ((List.range sz).map f) d := by
  obtain ⟨cl, A, r1, r2, r3, r4⟩ := F
  have q1 : sz.toInt32.toInt = sz := len_toInt r3
  have q2 : sz.toInt32.toNatClampNeg = sz := by simp only [Int32.toNatClampNeg, q1]; omega
  have q3 : ¬ sz.toInt32 < 0 := by
    rw [Int32.lt_iff_toInt_lt, q1]
    have : (0 : Int32).toInt = 0 := rfl
    omega
  have g : ∀ i, i < sz → ((List.range sz).map f).getD i d = f i := fun i hi => by simp [List.getD_eq_getElem?_getD, hi]
  refine ⟨cl, A, r1, by rw [q2]; exact r2, q3, fun i hi => ?_, fun i hi => ?_⟩
  · rw [g i (r2 ▸ hi)]; exact (r4 i (r2 ▸ hi)).1
  · rw [g i (r2 ▸ hi)]; exact (r4 i (r2 ▸ hi)).2
theorem Sd.acopy (X : Sd Z EL Fs n0 p l e R s m args below meth c T h k n) (hx : p.tables.exec = Jvm.exec) (hZ : Z.Warmed39 s.vm) {own : String} {index : Nat} (hown : s.vm.findClass own = some m.cls)
    (w1 : (Cond.methodLink own index Jvm.Stand.acN).before a0 Z = true) (w2 : (Cond.native Jvm.Stand.acN).before a0 Z = true) (w3 : (Cond.static Jvm.Stand.acN).before a0 Z = true) (w4 : (Cond.initialized "java/lang/System").before a0 Z = true)
    {a b : Addr} {ka kb : ClassId} {ty : FieldType} {sa sb : Nat} {f f' : Nat → Value} (A : Avf Z h a ka ty sa f) (B : Avf Z h b kb ty sb f') (hty : refKind ty = false) (gb : n0 ≤ b) (hF : b ∈ Fs ∨ ty ≠ .byte) {sp dp nn : Int32} (h1 : ¬ sp < 0) (h2 : ¬ dp < 0) (h3 : ¬ nn < 0) {i j cc : Nat} (hi : sp.toNatClampNeg = i) (hj : dp.toNatClampNeg = j) (hc : nn.toNatClampNeg = cc) (h4 : i + cc ≤ sa) (h5 : j + cc ≤ sb)
    {g : JFrame} (hg : g.method = m) (hsize : g.locals.size = c.maxLocals) {rest : List Value} (hs : g.stack = .int nn :: .int dp :: .ref b :: .int sp :: .ref a :: rest) (hd : decode c.code g.pc = .ok (.invokestatic index, 3))
    (hf : 1 ≤ R.frames) (hlo : 2 * g.monitorRoom + (rest.map fun v => v.category).sum + (nativeFrameWords "java/lang/System" "arraycopy" 5 + 11) ≤ R.locals) :
    ∃ T' h', Sd Z EL Fs n0 p l e R s m args below meth c T' h' k n ∧ Keep h h' [b] ∧ Avf Z h' b kb ty sb (fun t => if j ≤ t ∧ t < j + cc then f (i + (t - j)) else f' t) ∧
      ∀ target, Steps p.tables e below (T'.setTop { g with pc := g.pc + 3, stack := rest }) target → Steps p.tables e below (T.setTop g) target := by
  subst hi hj hc
  obtain ⟨vm0, L, X, N, q, Wd0⟩ := X
  replace hown := Wd0.own hown
  replace hZ := Wd0.hz (s := s)
  have ra : sa.toInt32.toNatClampNeg = sa := by obtain ⟨_, _, _, _, r3, _⟩ := A; simp only [Int32.toNatClampNeg, len_toInt r3]; omega
  have rb : sb.toInt32.toNatClampNeg = sb := by obtain ⟨_, _, _, _, r3, _⟩ := B; simp only [Int32.toNatClampNeg, len_toInt r3]; omega
  obtain ⟨T', h', L', X', e', N', K, V, st⟩ := cpA X hx hZ hown w1 w2 w3 w4 q (A.arv .null) (B.arv .null) (us := (List.range nn.toNatClampNeg).map fun t => ((List.range sa).map f).getD (sp.toNatClampNeg + t) .null) (Or.inl ⟨rfl, hty⟩) h1 h2 h3 (by rw [ra]; exact h4) (by rw [rb]; exact h5) rfl (by simpa using h5) N gb hg hsize hs hd hf (W := 2 * g.monitorRoom + (rest.map fun v => v.category).sum) (Nat.le_refl _) hlo
  refine ⟨T', h', ⟨vm0, L', X', N', e', Wd0.keep K (sfS (hF.elim (fun z => Wd0.safe z) (fun z => by obtain ⟨_, Ab, -⟩ := B; exact Safe.arr Wd0.hz0.alike Ab z)) sf0)⟩, K, ?_, st⟩
  have V' := Avf.of_arv V
  rw [rb] at V'
  refine V'.cong fun t ht => ?_
  have hj : dp.toNatClampNeg ≤ sb := by omega
  simp only [List.getD_eq_getElem?_getD]
  by_cases c1 : t < dp.toNatClampNeg
  · have c2 : ¬ (dp.toNatClampNeg ≤ t ∧ t < dp.toNatClampNeg + nn.toNatClampNeg) := by omega
    rw [if_neg c2, List.append_assoc, List.getElem?_append_left (by simp; omega)]
    simp [c1, ht]
  · by_cases c2 : t < dp.toNatClampNeg + nn.toNatClampNeg
    · have c3 : dp.toNatClampNeg ≤ t ∧ t < dp.toNatClampNeg + nn.toNatClampNeg := by omega
      have c4 : t - dp.toNatClampNeg < nn.toNatClampNeg := by omega
      have c5 : sp.toNatClampNeg + (t - dp.toNatClampNeg) < sa := by omega
      rw [if_pos c3, List.append_assoc, List.getElem?_append_right (by simp; omega), List.getElem?_append_left (by simp; omega)]
      simp [Nat.min_eq_left hj, c4, c5]
    · have c3 : ¬ (dp.toNatClampNeg ≤ t ∧ t < dp.toNatClampNeg + nn.toNatClampNeg) := by omega
      rw [if_neg c3, List.getElem?_append_right (by simp; omega)]
      have c6 : dp.toNatClampNeg + nn.toNatClampNeg + (t - (dp.toNatClampNeg + nn.toNatClampNeg)) = t := by omega
      simp [Nat.min_eq_left hj, c6, ht]
/-! arrays: length, load, store -/
theorem Sd.len (X : Sd Z EL Fs n0 p l e R s m args below meth c T h k n) (hx : p.tables.exec = Jvm.exec) (hZ : Z.Warmed39 s.vm) {a : Addr} {kc : ClassId} {ty : FieldType} {sz : Nat} {f : Nat → Value} (F : Avf Z h a kc ty sz f) {z : Int32} (hz : sz.toInt32 = z)
    {g : JFrame} (hg : g.method = m) {rest : List Value} (hs : g.stack = .ref a :: rest) (hd : decode c.code g.pc = .ok (.arraylength, 1)) :
    ∀ target, Steps p.tables e below (T.setTop { g with pc := g.pc + 1, stack := .int z :: rest }) target → Steps p.tables e below (T.setTop g) target := by
  obtain ⟨vm0, L, X, -, q, Wd0⟩ := X
  replace hZ := Wd0.hz (s := s)
  obtain ⟨cl, A, r1, r2, r3, r4⟩ := F
  intro t kt
  refine X.arraylength hx (by rw [q]; exact A.1) (State.isArrayOf_alike hZ.alike A.2.1) hg hs hd _ ?_
  rw [r2, hz]; exact kt
theorem inb {cl : Cell} {sz i : Nat} {j : Int32} (r2 : cl.slots.size = sz) (hj : ¬ j < 0) (hi : j.toNatClampNeg = i) (hlt : i < sz) : ¬ (j < 0 ∨ cl.slots.size ≤ j.toNatClampNeg) := fun q => q.elim hj fun q => by omega
theorem Sd.ldI (X : Sd Z EL Fs n0 p l e R s m args below meth c T h k n) (hx : p.tables.exec = Jvm.exec) (hZ : Z.Warmed39 s.vm) {a : Addr} {kc : ClassId} {sz : Nat} {f : Nat → Value} (F : Avf Z h a kc .int sz f) {j : Int32} (hj : ¬ j < 0) {i : Nat} (hi : j.toNatClampNeg = i) (hlt : i < sz) {v : Value} (hv : f i = v)
    {g : JFrame} (hg : g.method = m) {rest : List Value} (hs : g.stack = .int j :: .ref a :: rest) (hd : decode c.code g.pc = .ok (.iaload, 1)) :
    ∀ target, Steps p.tables e below (T.setTop { g with pc := g.pc + 1, stack := v :: rest }) target → Steps p.tables e below (T.setTop g) target := by
  subst hv
  obtain ⟨vm0, L, X, -, q, Wd0⟩ := X
  replace hZ := Wd0.hz (s := s)
  obtain ⟨cl, A, r1, r2, r3, r4⟩ := F
  exact X.iaload hx (by rw [q]; exact A.1) (State.isArrayOf_alike hZ.alike A.2.1) A.2.2 (inb r2 hj hi hlt) (by rw [hi]; exact (r4 i hlt).1) hg hs hd
theorem Sd.ldJ (X : Sd Z EL Fs n0 p l e R s m args below meth c T h k n) (hx : p.tables.exec = Jvm.exec) (hZ : Z.Warmed39 s.vm) {a : Addr} {kc : ClassId} {sz : Nat} {f : Nat → Value} (F : Avf Z h a kc .long sz f) {j : Int32} (hj : ¬ j < 0) {i : Nat} (hi : j.toNatClampNeg = i) (hlt : i < sz) {v : Value} (hv : f i = v)
    {g : JFrame} (hg : g.method = m) {rest : List Value} (hs : g.stack = .int j :: .ref a :: rest) (hd : decode c.code g.pc = .ok (.laload, 1)) :
    ∀ target, Steps p.tables e below (T.setTop { g with pc := g.pc + 1, stack := v :: rest }) target → Steps p.tables e below (T.setTop g) target := by
  subst hv
  obtain ⟨vm0, L, X, -, q, Wd0⟩ := X
  replace hZ := Wd0.hz (s := s)
  obtain ⟨cl, A, r1, r2, r3, r4⟩ := F
  exact X.laload hx (by rw [q]; exact A.1) (State.isArrayOf_alike hZ.alike A.2.1) A.2.2 (inb r2 hj hi hlt) (by rw [hi]; exact (r4 i hlt).1) hg hs hd
theorem Sd.ldC (X : Sd Z EL Fs n0 p l e R s m args below meth c T h k n) (hx : p.tables.exec = Jvm.exec) (hZ : Z.Warmed39 s.vm) {a : Addr} {kc : ClassId} {sz : Nat} {f : Nat → Value} (F : Avf Z h a kc .char sz f) {j : Int32} (hj : ¬ j < 0) {i : Nat} (hi : j.toNatClampNeg = i) (hlt : i < sz) {v : Value} (hv : f i = v)
    {g : JFrame} (hg : g.method = m) {rest : List Value} (hs : g.stack = .int j :: .ref a :: rest) (hd : decode c.code g.pc = .ok (.caload, 1)) :
    ∀ target, Steps p.tables e below (T.setTop { g with pc := g.pc + 1, stack := v :: rest }) target → Steps p.tables e below (T.setTop g) target := by
  subst hv
  obtain ⟨vm0, L, X, -, q, Wd0⟩ := X
  replace hZ := Wd0.hz (s := s)
  obtain ⟨cl, A, r1, r2, r3, r4⟩ := F
  exact X.caload hx (by rw [q]; exact A.1) (State.isArrayOf_alike hZ.alike A.2.1) A.2.2 (inb r2 hj hi hlt) (by rw [hi]; exact (r4 i hlt).1) hg hs hd
theorem Sd.ldB (X : Sd Z EL Fs n0 p l e R s m args below meth c T h k n) (hx : p.tables.exec = Jvm.exec) (hZ : Z.Warmed39 s.vm) {a : Addr} {kc : ClassId} {sz : Nat} {f : Nat → Value} (F : Avf Z h a kc .byte sz f) {j : Int32} (hj : ¬ j < 0) {i : Nat} (hi : j.toNatClampNeg = i) (hlt : i < sz) {v : Value} (hv : f i = v)
    {g : JFrame} (hg : g.method = m) {rest : List Value} (hs : g.stack = .int j :: .ref a :: rest) (hd : decode c.code g.pc = .ok (.baload, 1)) :
    ∀ target, Steps p.tables e below (T.setTop { g with pc := g.pc + 1, stack := v :: rest }) target → Steps p.tables e below (T.setTop g) target := by
  subst hv
  obtain ⟨vm0, L, X, -, q, Wd0⟩ := X
  replace hZ := Wd0.hz (s := s)
  obtain ⟨cl, A, r1, r2, r3, r4⟩ := F
  exact X.baloadBytes hx (by rw [q]; exact A.1) (State.isArrayOf_alike hZ.alike A.2.1) A.2.2 (inb r2 hj hi hlt) (by rw [hi]; exact (r4 i hlt).1) hg hs hd
theorem Sd.ldA (X : Sd Z EL Fs n0 p l e R s m args below meth c T h k n) (hx : p.tables.exec = Jvm.exec) (hZ : Z.Warmed39 s.vm) {a : Addr} {kc : ClassId} {ty : FieldType} {sz : Nat} {f : Nat → Value} (F : Avf Z h a kc ty sz f) (hty : ty.isReference = true) {j : Int32} (hj : ¬ j < 0) {i : Nat} (hi : j.toNatClampNeg = i) (hlt : i < sz) {v : Value} (hv : f i = v)
    {g : JFrame} (hg : g.method = m) {rest : List Value} (hs : g.stack = .int j :: .ref a :: rest) (hd : decode c.code g.pc = .ok (.aaload, 1)) :
    ∀ target, Steps p.tables e below (T.setTop { g with pc := g.pc + 1, stack := v :: rest }) target → Steps p.tables e below (T.setTop g) target := by
  subst hv
  obtain ⟨vm0, L, X, -, q, Wd0⟩ := X
  replace hZ := Wd0.hz (s := s)
  obtain ⟨cl, A, r1, r2, r3, r4⟩ := F
  exact X.aaload hx (by rw [q]; exact A.1) (State.isArrayOf_alike hZ.alike A.2.1) hty A.2.2 (inb r2 hj hi hlt) (by rw [hi]; exact (r4 i hlt).1) hg hs hd
theorem Sd.stI (X : Sd Z EL Fs n0 p l e R s m args below meth c T h k n) (hx : p.tables.exec = Jvm.exec) (hZ : Z.Warmed39 s.vm) {a : Addr} {kc : ClassId} {sz : Nat} {f : Nat → Value} (F : Avf Z h a kc .int sz f) (ga : n0 ≤ a) {j x : Int32} (hj : ¬ j < 0) {i : Nat} (hi : j.toNatClampNeg = i) (hlt : i < sz)
    {g : JFrame} (hg : g.method = m) {rest : List Value} (hs : g.stack = .int x :: .int j :: .ref a :: rest) (hd : decode c.code g.pc = .ok (.iastore, 1)) :
    ∃ T' h', Sd Z EL Fs n0 p l e R s m args below meth c T' h' k n ∧ Wr h h' a i (.int x) ∧ Avf Z h' a kc .int sz (fun t => if t = i then .int x else f t) ∧ ∀ target, Steps p.tables e below (T'.setTop { g with pc := g.pc + 1, stack := rest }) target → Steps p.tables e below (T.setTop g) target := by
  obtain ⟨vm0, L, X, N, q, Wd0⟩ := X
  replace hZ := Wd0.hz (s := s)
  obtain ⟨cl, A, r1, r2, r3, r4⟩ := F
  obtain ⟨T', h', X', e', W, st⟩ := Jvm.RoadKit.stI X hx hZ q A (inb r2 hj hi hlt) hg hs hd
  subst hi
  exact ⟨T', h', ⟨vm0, _, X', Fr.snoc X' N ga, e', Wd0.wr W (Safe.arr Wd0.hz0.alike A (fun z => by cases z))⟩, W, Avf.set ⟨cl, A, r1, r2, r3, r4⟩ W rfl, st⟩
theorem Sd.stJ (X : Sd Z EL Fs n0 p l e R s m args below meth c T h k n) (hx : p.tables.exec = Jvm.exec) (hZ : Z.Warmed39 s.vm) {a : Addr} {kc : ClassId} {sz : Nat} {f : Nat → Value} (F : Avf Z h a kc .long sz f) (ga : n0 ≤ a) {j : Int32} {x : Int64} (hj : ¬ j < 0) {i : Nat} (hi : j.toNatClampNeg = i) (hlt : i < sz)
    {g : JFrame} (hg : g.method = m) {rest : List Value} (hs : g.stack = .long x :: .int j :: .ref a :: rest) (hd : decode c.code g.pc = .ok (.lastore, 1)) :
    ∃ T' h', Sd Z EL Fs n0 p l e R s m args below meth c T' h' k n ∧ Wr h h' a i (.long x) ∧ Avf Z h' a kc .long sz (fun t => if t = i then .long x else f t) ∧ ∀ target, Steps p.tables e below (T'.setTop { g with pc := g.pc + 1, stack := rest }) target → Steps p.tables e below (T.setTop g) target := by
  obtain ⟨vm0, L, X, N, q, Wd0⟩ := X
  replace hZ := Wd0.hz (s := s)
  obtain ⟨cl, A, r1, r2, r3, r4⟩ := F
  obtain ⟨T', h', X', e', W, st⟩ := Jvm.RoadKit.stJ X hx hZ q A (inb r2 hj hi hlt) hg hs hd
  subst hi
  exact ⟨T', h', ⟨vm0, _, X', Fr.snoc X' N ga, e', Wd0.wr W (Safe.arr Wd0.hz0.alike A (fun z => by cases z))⟩, W, Avf.set ⟨cl, A, r1, r2, r3, r4⟩ W rfl, st⟩
theorem Sd.stB (X : Sd Z EL Fs n0 p l e R s m args below meth c T h k n) (hx : p.tables.exec = Jvm.exec) (hZ : Z.Warmed39 s.vm) {a : Addr} {kc : ClassId} {sz : Nat} {f : Nat → Value} (F : Avf Z h a kc .byte sz f) (ga : n0 ≤ a) (hF : a ∈ Fs) {j x : Int32} (hj : ¬ j < 0) {i : Nat} (hi : j.toNatClampNeg = i) (hlt : i < sz)
    {g : JFrame} (hg : g.method = m) {rest : List Value} (hs : g.stack = .int x :: .int j :: .ref a :: rest) (hd : decode c.code g.pc = .ok (.bastore, 1)) :
    ∃ T' h', Sd Z EL Fs n0 p l e R s m args below meth c T' h' k n ∧ Wr h h' a i (.int x.toInt8.toInt32) ∧ Avf Z h' a kc .byte sz (fun t => if t = i then .int x.toInt8.toInt32 else f t) ∧ ∀ target, Steps p.tables e below (T'.setTop { g with pc := g.pc + 1, stack := rest }) target → Steps p.tables e below (T.setTop g) target := by
  obtain ⟨vm0, L, X, N, q, Wd0⟩ := X
  replace hZ := Wd0.hz (s := s)
  obtain ⟨cl, A, r1, r2, r3, r4⟩ := F
  obtain ⟨T', h', X', e', W, st⟩ := Jvm.RoadKit.stB X hx hZ q A (inb r2 hj hi hlt) hg hs hd
  subst hi
  exact ⟨T', h', ⟨vm0, _, X', Fr.snoc X' N ga, e', Wd0.wr W (Wd0.safe hF)⟩, W, Avf.set ⟨cl, A, r1, r2, r3, r4⟩ W (fits_nar_byte _), st⟩
theorem Sd.stC (X : Sd Z EL Fs n0 p l e R s m args below meth c T h k n) (hx : p.tables.exec = Jvm.exec) (hZ : Z.Warmed39 s.vm) {a : Addr} {kc : ClassId} {sz : Nat} {f : Nat → Value} (F : Avf Z h a kc .char sz f) (ga : n0 ≤ a) {j x : Int32} (hj : ¬ j < 0) {i : Nat} (hi : j.toNatClampNeg = i) (hlt : i < sz)
    {g : JFrame} (hg : g.method = m) {rest : List Value} (hs : g.stack = .int x :: .int j :: .ref a :: rest) (hd : decode c.code g.pc = .ok (.castore, 1)) :
    ∃ T' h', Sd Z EL Fs n0 p l e R s m args below meth c T' h' k n ∧ Wr h h' a i (.int (nar .char x)) ∧ Avf Z h' a kc .char sz (fun t => if t = i then .int (nar .char x) else f t) ∧ ∀ target, Steps p.tables e below (T'.setTop { g with pc := g.pc + 1, stack := rest }) target → Steps p.tables e below (T.setTop g) target := by
  obtain ⟨vm0, L, X, N, q, Wd0⟩ := X
  replace hZ := Wd0.hz (s := s)
  obtain ⟨cl, A, r1, r2, r3, r4⟩ := F
  obtain ⟨T', h', X', e', W, st⟩ := Jvm.RoadKit.stC X hx hZ q A (inb r2 hj hi hlt) hg hs hd
  subst hi
  exact ⟨T', h', ⟨vm0, _, X', Fr.snoc X' N ga, e', Wd0.wr W (Safe.arr Wd0.hz0.alike A (fun z => by cases z))⟩, W, Avf.set ⟨cl, A, r1, r2, r3, r4⟩ W (fits_nar_char _), st⟩
theorem Sd.newRA (X : Sd Z EL Fs n0 p l e R s m args below meth c T h k n) (hx : p.tables.exec = Jvm.exec) (hZ : Z.Warmed39 s.vm) {own C : String} {ty : FieldType} {index : Nat} (hown : s.vm.findClass own = some m.cls) (hC : (FieldType.array ty).toString = C) (w1 : (Cond.classLink own index C).before a0 Z = true) (w2 : (Cond.arrayOver (.array ty)).before a0 Z = true)
    {g : JFrame} (hg : g.method = m) (hd : decode c.code g.pc = .ok (.anewarray index, 3)) {z : Int32} {rest : List Value} (hs : g.stack = .int z :: rest)
    (hz : ¬ z < 0) {sz cap k' n' : Nat} (hsz : z.toNatClampNeg = sz) (hcap : sz ≤ cap) (hb : cap * 8 ≤ 536870912) (hk : k + 1 = k') (hn : n + cap = n') (hc : k' ≤ R.cells) (hl : n' ≤ R.slots) {ad : String} (had : "[" ++ C = ad) :
    ∃ T' h' kc a, Sd Z EL Fs n0 p l e R s m args below meth c T' h' k' n' ∧ a = h.size ∧ Ext h h' ∧ Exa Z h' a ad ∧ Avf Z h' a kc (.array ty) sz (fun _ => .null) ∧ OvrA Z kc ty C ∧
      ∀ target, Steps p.tables e below (T'.setTop { g with pc := g.pc + 3, stack := .ref a :: rest }) target → Steps p.tables e below (T.setTop g) target := by
  subst hk hn hsz
  obtain ⟨vm0, L, X, N, q, Wd0⟩ := X
  replace hown := Wd0.own hown
  replace hZ := Wd0.hz (s := s)
  obtain ⟨T', h', kc, X', e', E, A, Ex, O, st⟩ := Jvm.RoadKit.newRA X hx hZ hown hC w1 w2 q hg hd hs hz hcap hb hc hl had
  exact ⟨T', h', kc, _, ⟨vm0, L, X', N, e', Wd0.ext E⟩, rfl, E, Ex, ⟨_, A, rfl, sz_new _ _ _, (back32 hz).2, fun i hi => ⟨by simp [newA, hi, defaultValue], rfl⟩⟩, O, st⟩
theorem Sd.stR (X : Sd Z EL Fs n0 p l e R s m args below meth c T h k n) (hx : p.tables.exec = Jvm.exec) (hZ : Z.Warmed39 s.vm) {a : Addr} {kc : ClassId} {ty : FieldType} {sz : Nat} {f : Nat → Value} (F : Avf Z h a kc ty sz f) (ga : n0 ≤ a) (hty : ty.isReference = true) {j : Int32} {v : Value} (hv : v.isRef = true) (St : Sto Z h a v) (hj : ¬ j < 0) {i : Nat} (hi : j.toNatClampNeg = i) (hlt : i < sz)
    {g : JFrame} (hg : g.method = m) {rest : List Value} (hs : g.stack = v :: .int j :: .ref a :: rest) (hd : decode c.code g.pc = .ok (.aastore, 1)) :
    ∃ T' h', Sd Z EL Fs n0 p l e R s m args below meth c T' h' k n ∧ Wr h h' a i v ∧ Avf Z h' a kc ty sz (fun t => if t = i then v else f t) ∧ ∀ target, Steps p.tables e below (T'.setTop { g with pc := g.pc + 1, stack := rest }) target → Steps p.tables e below (T.setTop g) target := by
  obtain ⟨vm0, L, X, N, q, Wd0⟩ := X
  replace hZ := Wd0.hz (s := s)
  obtain ⟨cl, A, r1, r2, r3, r4⟩ := F
  obtain ⟨T', h', X', e', W, st⟩ := Jvm.RoadKit.stR X hx hZ q A (inb r2 hj hi hlt) hty St hg hs hd
  subst hi
  have hf : fits ty v = true := by cases ty <;> first | (cases hty; done) | (cases v <;> first | rfl | (cases hv; done))
  exact ⟨T', h', ⟨vm0, _, X', Fr.snoc X' N ga, e', Wd0.wr W (Safe.arr Wd0.hz0.alike A (fun z => by rw [z] at hty; cases hty))⟩, W, Avf.set ⟨cl, A, r1, r2, r3, r4⟩ W hf, st⟩
theorem sto_avf {h : Heap} {a y : Addr} {kc : ClassId} {ty ty' : FieldType} {sz : Nat} {f : Nat → Value} {C : String} (F : Avf Z h a kc ty sz f) (O : OvrA Z kc ty' C) (I : Ins Z h y C true) : Sto Z h a (.ref y) := by
  obtain ⟨cl, A, r1, -⟩ := F
  exact Sto.ofVA A r1 O I
/-! calls -/
theorem Sd.callS (X : Sd Z EL Fs n0 p l e R s m args below meth c T h k n) (hx : p.tables.exec = Jvm.exec) (hZ : Z.Warmed39 s.vm) {own : String} {index : Nat} {y : MethodName} {bytes : ByteArray} {maxL : Nat} {ret : Option FieldType} {rm : Room} {as' : Array Value} {Q : Option Value → Heap → Prop} {F0 : List Addr} (hF0 : ∀ x ∈ F0, x ∈ Fs)
    (hown : s.vm.findClass own = some m.cls) (w1 : (Cond.methodLink own index y).before a0 Z = true) (w2 : (Cond.static y).before a0 Z = true) (w3 : (Cond.initialized y.cls).before a0 Z = true) (w4 : (Cond.code y bytes maxL ret).before a0 Z = true) (hy : y.cls ≠ "java/lang/invoke/MethodHandle" ∧ y.cls ≠ "java/lang/invoke/VarHandle")
    (hM : Met l Z EL F0 S1 n0 y bytes maxL ret [] rm as' h Q) {g : JFrame} (hg : g.method = m) (hsize : g.locals.size = c.maxLocals) {argsL rest : List Value} (hlen : ∀ sig, parseMethodDescriptor y.desc = some sig → argsL.length = sig.parameters.length)
    (hstack : g.stack = argsL.reverse ++ rest) (hd : decode c.code g.pc = .ok (.invokestatic index, 3)) (has : argsL.toArray = as') (hf : rm.frames + 1 ≤ R.frames) (hl : 2 * g.monitorRoom + (rest.map fun v => v.category).sum + (maxL + 11) + rm.locals ≤ R.locals)
    {k' n' : Nat} (hk : k + rm.cells = k') (hn : n + rm.slots = n') (hc : k' ≤ R.cells) (hs : n' ≤ R.slots) :
    ∃ v T' h', Sd Z EL Fs n0 p l e R s m args below meth c T' h' k' n' ∧ Q v h' ∧ (∀ Gs, (∀ x ∈ Gs, x ∈ Fs ∨ S1 v h' x) → Sd Z EL Gs n0 p l e R s m args below meth c T' h' k' n') ∧ ∀ target, Steps p.tables e below (T'.setTop { g with pc := g.pc + 3, stack := v.toList ++ rest }) target → Steps p.tables e below (T.setTop g) target := by
  subst hk hn
  obtain ⟨vm0, L, X, N, q, Wd0⟩ := X
  replace hown := Wd0.own hown
  replace hZ := Wd0.hz (s := s)
  obtain ⟨v, _, ⟨T', L', k1, n1⟩, -, X', hS1, hg1, ⟨Lc, hQ, q1, q2, q3, hC, hs1⟩, st⟩ := callSS X hx (y := y) hown (mvT hZ w1) (mvT hZ w2) (mvT hZ w3) (mvT hZ w4) hy (backW hM Wd0.2.1 hF0 w4 w3 hf hl) hg hsize hlen hstack (Nat.le_refl _) hd (fun _ _ => ⟨has, q, hc, hs⟩)
  dsimp only [Pt.U, Pt.locs, Pt.cells, Pt.slots] at X' q1 q2 q3 st hQ hC hs1 hS1 hg1
  subst q1 q2 q3
  have W1 := Wd0.call q hS1 hg1 hC
  refine ⟨v, T', _, ⟨_, _, X', Fr.app N hQ.2, rfl, W1⟩, hQ.1, fun Gs hG => ⟨_, _, X', Fr.app N hQ.2, rfl, W1.1, ⟨W1.2.1.1, W1.2.1.2.1, W1.2.1.2.2.1, fun x hx => (hG x hx).elim (fun z => W1.2.1.2.2.2 x z) (fun z => hs1 x z)⟩, W1.2.2⟩, fun _ kt => st.trans kt⟩
theorem Sd.callI (X : Sd Z EL Fs n0 p l e R s m args below meth c T h k n) (hx : p.tables.exec = Jvm.exec) (hZ : Z.Warmed39 s.vm) {own : String} {index : Nat} {y : MethodName} {bytes : ByteArray} {maxL : Nat} {rm : Room} {as' : Array Value} {Q : Option Value → Heap → Prop} {F0 : List Addr} (hF0 : ∀ x ∈ F0, x ∈ Fs) (hy1 : y.name = "<init>")
    (hown : s.vm.findClass own = some m.cls) (w1 : (Cond.methodLink own index y).before a0 Z = true) (w2 : (Cond.instanceMethod y).before a0 Z = true) (w3 : (Cond.initialized y.cls).before a0 Z = true) (w4 : (Cond.code y bytes maxL none).before a0 Z = true) (hy : y.cls ≠ "java/lang/invoke/MethodHandle" ∧ y.cls ≠ "java/lang/invoke/VarHandle")
    (hM : Met l Z EL F0 S1 n0 y bytes maxL none [] rm as' h Q) {g : JFrame} (hg : g.method = m) (hsize : g.locals.size = c.maxLocals) {a : Addr} {argsL rest : List Value} (hlen : ∀ sig, parseMethodDescriptor y.desc = some sig → argsL.length = sig.parameters.length)
    (hstack : g.stack = argsL.reverse ++ .ref a :: rest) (hd : decode c.code g.pc = .ok (.invokespecial index, 3)) (has : (.ref a :: argsL).toArray = as') (hf : rm.frames + 1 ≤ R.frames) (hl : 2 * g.monitorRoom + (rest.map fun v => v.category).sum + (maxL + 11) + rm.locals ≤ R.locals)
    {k' n' : Nat} (hk : k + rm.cells = k') (hn : n + rm.slots = n') (hc : k' ≤ R.cells) (hs : n' ≤ R.slots) :
    ∃ v T' h', Sd Z EL Fs n0 p l e R s m args below meth c T' h' k' n' ∧ Q v h' ∧ (∀ Gs, (∀ x ∈ Gs, x ∈ Fs ∨ S1 v h' x) → Sd Z EL Gs n0 p l e R s m args below meth c T' h' k' n') ∧ ∀ target, Steps p.tables e below (T'.setTop { g with pc := g.pc + 3, stack := v.toList ++ rest }) target → Steps p.tables e below (T.setTop g) target := by
  subst hk hn
  obtain ⟨vm0, L, X, N, q, Wd0⟩ := X
  replace hown := Wd0.own hown
  replace hZ := Wd0.hz (s := s)
  obtain ⟨v, _, ⟨T', L', k1, n1⟩, -, X', hS1, hg1, ⟨Lc, hQ, q1, q2, q3, hC, hs1⟩, st⟩ := X.specialBackS hx (y := y) hy1 hown (mvT hZ w1) (mvT hZ w2) (mvT hZ w4) hy (backW hM Wd0.2.1 hF0 w4 w3 hf hl) hg hsize (Steps.refl _) hlen hstack (Nat.le_refl _) hd (fun _ _ => ⟨has, q, hc, hs⟩)
  dsimp only [Pt.U, Pt.locs, Pt.cells, Pt.slots] at X' q1 q2 q3 st hQ hC hs1 hS1 hg1
  subst q1 q2 q3
  have W1 := Wd0.call q hS1 hg1 hC
  refine ⟨v, T', _, ⟨_, _, X', Fr.app N hQ.2, rfl, W1⟩, hQ.1, fun Gs hG => ⟨_, _, X', Fr.app N hQ.2, rfl, W1.1, ⟨W1.2.1.1, W1.2.1.2.1, W1.2.1.2.2.1, fun x hx => (hG x hx).elim (fun z => W1.2.1.2.2.2 x z) (fun z => hs1 x z)⟩, W1.2.2⟩, fun _ kt => st.trans kt⟩
theorem Sd.callV (X : Sd Z EL Fs n0 p l e R s m args below meth c T h k n) (hx : p.tables.exec = Jvm.exec) (hZ : Z.Warmed39 s.vm) {own C : String} {index : Nat} {y z : MethodName} {bytes : ByteArray} {maxL : Nat} {ret : Option FieldType} {rm : Room} {as' : Array Value} {Q : Option Value → Heap → Prop} {F0 : List Addr} (hF0 : ∀ x ∈ F0, x ∈ Fs)
    (hown : s.vm.findClass own = some m.cls) (w1 : (Cond.methodLink own index y).before a0 Z = true) (w2 : (Cond.declares y).before a0 Z = true) (hnf : ∀ S : State, Z.Warmed39 S.vm → NotFace S y) (w5 : (Cond.selects C y z).before a0 Z = true) (w6 : (Cond.instanceMethod z).before a0 Z = true) (w3 : (Cond.initialized z.cls).before a0 Z = true) (w4 : (Cond.code z bytes maxL ret).before a0 Z = true) (hy : y.cls ≠ "java/lang/invoke/MethodHandle" ∧ y.cls ≠ "java/lang/invoke/VarHandle")
    (hM : Met l Z EL F0 S1 n0 z bytes maxL ret [] rm as' h Q) {a : Addr} (E : Exa Z h a C) {g : JFrame} (hg : g.method = m) (hsize : g.locals.size = c.maxLocals) {argsL rest : List Value} (hlen : ∀ sig, parseMethodDescriptor y.desc = some sig → argsL.length = sig.parameters.length)
    (hstack : g.stack = argsL.reverse ++ .ref a :: rest) (hd : decode c.code g.pc = .ok (.invokevirtual index, 3)) (has : (.ref a :: argsL).toArray = as') (hf : rm.frames + 1 ≤ R.frames) (hl : 2 * g.monitorRoom + (rest.map fun v => v.category).sum + (maxL + 11) + rm.locals ≤ R.locals)
    {k' n' : Nat} (hk : k + rm.cells = k') (hn : n + rm.slots = n') (hc : k' ≤ R.cells) (hs : n' ≤ R.slots) :
    ∃ v T' h', Sd Z EL Fs n0 p l e R s m args below meth c T' h' k' n' ∧ Q v h' ∧ (∀ Gs, (∀ x ∈ Gs, x ∈ Fs ∨ S1 v h' x) → Sd Z EL Gs n0 p l e R s m args below meth c T' h' k' n') ∧ ∀ target, Steps p.tables e below (T'.setTop { g with pc := g.pc + 3, stack := v.toList ++ rest }) target → Steps p.tables e below (T.setTop g) target := by
  subst hk hn
  obtain ⟨vm0, L, X, N, q, Wd0⟩ := X
  replace hown := Wd0.own hown
  replace hZ := Wd0.hz (s := s)
  obtain ⟨cB, kB, b1, b2, b3⟩ := isOf (T := T) hZ q E
  obtain ⟨v, _, ⟨T', L', k1, n1⟩, -, X', hS1, hg1, ⟨Lc, hQ, q1, q2, q3, hC, hs1⟩, st⟩ := X.virtualBackS hx (y := y) (z := z) hown (mvT hZ w1) (mvT hZ w2) (hnf _ hZ) (mvT hZ w5) (mvT hZ w6) hy (backW hM Wd0.2.1 hF0 w4 w3 hf hl) b1 b3 hg hsize (Steps.refl _) hlen hstack (Nat.le_refl _) hd (fun _ _ => ⟨has, q, hc, hs⟩)
  dsimp only [Pt.U, Pt.locs, Pt.cells, Pt.slots] at X' q1 q2 q3 st hQ hC hs1 hS1 hg1
  subst q1 q2 q3
  have W1 := Wd0.call q hS1 hg1 hC
  refine ⟨v, T', _, ⟨_, _, X', Fr.app N hQ.2, rfl, W1⟩, hQ.1, fun Gs hG => ⟨_, _, X', Fr.app N hQ.2, rfl, W1.1, ⟨W1.2.1.1, W1.2.1.2.1, W1.2.1.2.2.1, fun x hx => (hG x hx).elim (fun z => W1.2.1.2.2.2 x z) (fun z => hs1 x z)⟩, W1.2.2⟩, fun _ kt => st.trans kt⟩
theorem Sd.callP (X : Sd Z EL Fs n0 p l e R s m args below meth c T h k n) (hx : p.tables.exec = Jvm.exec) (hZ : Z.Warmed39 s.vm) {own C : String} {index : Nat} {y : MethodName} {bytes : ByteArray} {maxL : Nat} {ret : Option FieldType} {rm : Room} {as' : Array Value} {Q : Option Value → Heap → Prop} {F0 : List Addr} (hF0 : ∀ x ∈ F0, x ∈ Fs)
    (hown : s.vm.findClass own = some m.cls) (w1 : (Cond.methodLink own index y).before a0 Z = true) (w6 : (Cond.instanceMethod y).before a0 Z = true) (w5 : (Cond.selects y.cls y y).before a0 Z = true) (w7 : (Cond.privateMethod y).before a0 Z = true) (w3 : (Cond.initialized y.cls).before a0 Z = true) (w4 : (Cond.code y bytes maxL ret).before a0 Z = true) (hy : y.cls ≠ "java/lang/invoke/MethodHandle" ∧ y.cls ≠ "java/lang/invoke/VarHandle")
    (hM : Met l Z EL F0 S1 n0 y bytes maxL ret [] rm as' h Q) {a : Addr} (E : Exa Z h a C) {g : JFrame} (hg : g.method = m) (hsize : g.locals.size = c.maxLocals) {argsL rest : List Value} (hlen : ∀ sig, parseMethodDescriptor y.desc = some sig → argsL.length = sig.parameters.length)
    (hstack : g.stack = argsL.reverse ++ .ref a :: rest) (hd : decode c.code g.pc = .ok (.invokevirtual index, 3)) (has : (.ref a :: argsL).toArray = as') (hf : rm.frames + 1 ≤ R.frames) (hl : 2 * g.monitorRoom + (rest.map fun v => v.category).sum + (maxL + 11) + rm.locals ≤ R.locals)
    {k' n' : Nat} (hk : k + rm.cells = k') (hn : n + rm.slots = n') (hc : k' ≤ R.cells) (hs : n' ≤ R.slots) :
    ∃ v T' h', Sd Z EL Fs n0 p l e R s m args below meth c T' h' k' n' ∧ Q v h' ∧ (∀ Gs, (∀ x ∈ Gs, x ∈ Fs ∨ S1 v h' x) → Sd Z EL Gs n0 p l e R s m args below meth c T' h' k' n') ∧ ∀ target, Steps p.tables e below (T'.setTop { g with pc := g.pc + 3, stack := v.toList ++ rest }) target → Steps p.tables e below (T.setTop g) target := by
  subst hk hn
  obtain ⟨vm0, L, X, N, q, Wd0⟩ := X
  replace hown := Wd0.own hown
  replace hZ := Wd0.hz (s := s)
  obtain ⟨cl, b1, b2⟩ := E.cell
  obtain ⟨v, _, ⟨T', L', k1, n1⟩, -, X', hS1, hg1, ⟨Lc, hQ, q1, q2, q3, hC, hs1⟩, st⟩ := X.privateBackS hx (y := y) hown (mvT hZ w1) (mvT hZ w6) (mvT hZ w5) (Cond.privateMethod_at (mvP hZ w7 (args := #[]))) (mvT hZ w4) hy (backW hM Wd0.2.1 hF0 w4 w3 hf hl) hg hsize (Steps.refl _) (a := a) (by rw [q]; exact b1) b2 hlen hstack (Nat.le_refl _) hd (fun _ _ => ⟨has, q, hc, hs⟩)
  dsimp only [Pt.U, Pt.locs, Pt.cells, Pt.slots] at X' q1 q2 q3 st hQ hC hs1 hS1 hg1
  subst q1 q2 q3
  have W1 := Wd0.call q hS1 hg1 hC
  refine ⟨v, T', _, ⟨_, _, X', Fr.app N hQ.2, rfl, W1⟩, hQ.1, fun Gs hG => ⟨_, _, X', Fr.app N hQ.2, rfl, W1.1, ⟨W1.2.1.1, W1.2.1.2.1, W1.2.1.2.2.1, fun x hx => (hG x hx).elim (fun z => W1.2.1.2.2.2 x z) (fun z => hs1 x z)⟩, W1.2.2⟩, fun _ kt => st.trans kt⟩
theorem Sd.callU (X : Sd Z EL Fs n0 p l e R s m args below meth c T h k n) (hx : p.tables.exec = Jvm.exec) (hZ : Z.Warmed39 s.vm) {own C owner : String} {index : Nat} {y z : MethodName} {bytes : ByteArray} {maxL : Nat} {ret : Option FieldType} {rm : Room} {as' : Array Value} {Q : Option Value → Heap → Prop} {F0 : List Addr} (hF0 : ∀ x ∈ F0, x ∈ Fs)
    (hown : s.vm.findClass own = some m.cls) (w1 : (Cond.methodLink own index y).before a0 Z = true) (w2 : (Cond.sameMethod y.cls owner y.name y.desc).before a0 Z = true) (w7 : (Cond.declares ⟨owner, y.name, y.desc⟩).before a0 Z = true) (ho : owner ≠ "java/lang/invoke/MethodHandle" ∧ owner ≠ "java/lang/invoke/VarHandle") (w5 : (Cond.selects C y z).before a0 Z = true) (w6 : (Cond.instanceMethod z).before a0 Z = true) (w3 : (Cond.initialized z.cls).before a0 Z = true) (w4 : (Cond.code z bytes maxL ret).before a0 Z = true)
    (hM : Met l Z EL F0 S1 n0 z bytes maxL ret [] rm as' h Q) {a : Addr} (E : Exa Z h a C) {g : JFrame} (hg : g.method = m) (hsize : g.locals.size = c.maxLocals) {argsL rest : List Value} (hlen : ∀ sig, parseMethodDescriptor y.desc = some sig → argsL.length = sig.parameters.length)
    (hstack : g.stack = argsL.reverse ++ .ref a :: rest) (hd : decode c.code g.pc = .ok (.invokevirtual index, 3)) (has : (.ref a :: argsL).toArray = as') (hf : rm.frames + 1 ≤ R.frames) (hl : 2 * g.monitorRoom + (rest.map fun v => v.category).sum + (maxL + 11) + rm.locals ≤ R.locals)
    {k' n' : Nat} (hk : k + rm.cells = k') (hn : n + rm.slots = n') (hc : k' ≤ R.cells) (hs : n' ≤ R.slots) :
    ∃ v T' h', Sd Z EL Fs n0 p l e R s m args below meth c T' h' k' n' ∧ Q v h' ∧ (∀ Gs, (∀ x ∈ Gs, x ∈ Fs ∨ S1 v h' x) → Sd Z EL Gs n0 p l e R s m args below meth c T' h' k' n') ∧ ∀ target, Steps p.tables e below (T'.setTop { g with pc := g.pc + 3, stack := v.toList ++ rest }) target → Steps p.tables e below (T.setTop g) target := by
  subst hk hn
  obtain ⟨vm0, L, X, N, q, Wd0⟩ := X
  replace hown := Wd0.own hown
  replace hZ := Wd0.hz (s := s)
  obtain ⟨cB, kB, b1, b2, b3⟩ := isOf (T := T) hZ q E
  obtain ⟨v, _, ⟨T', L', k1, n1⟩, -, X', hS1, hg1, ⟨Lc, hQ, q1, q2, q3, hC, hs1⟩, st⟩ := X.virtualBackUpS hx (x := y) (y := z) hown (mvT hZ w1) (mvT hZ w2) (mvT hZ w7) ho (mvT hZ w5) (mvT hZ w6) (backW hM Wd0.2.1 hF0 w4 w3 hf hl) b1 b3 hg hsize (Steps.refl _) hlen hstack (Nat.le_refl _) hd (fun _ _ => ⟨has, q, hc, hs⟩)
  dsimp only [Pt.U, Pt.locs, Pt.cells, Pt.slots] at X' q1 q2 q3 st hQ hC hs1 hS1 hg1
  subst q1 q2 q3
  have W1 := Wd0.call q hS1 hg1 hC
  refine ⟨v, T', _, ⟨_, _, X', Fr.app N hQ.2, rfl, W1⟩, hQ.1, fun Gs hG => ⟨_, _, X', Fr.app N hQ.2, rfl, W1.1, ⟨W1.2.1.1, W1.2.1.2.1, W1.2.1.2.2.1, fun x hx => (hG x hx).elim (fun z => W1.2.1.2.2.2 x z) (fun z => hs1 x z)⟩, W1.2.2⟩, fun _ kt => st.trans kt⟩
theorem Sd.instNo (X : Sd Z EL Fs n0 p l e R s m args below meth c T h k n) (hx : p.tables.exec = Jvm.exec) (hZ : Z.Warmed39 s.vm) {own K C : String} {index : Nat} (hown : s.vm.findClass own = some m.cls) (w : (Cond.classLink own index K).before a0 Z = true) {a : Addr} (E : Exa Z h a C) (F : ∃ c t, Z.vm.findClass C = some c ∧ Z.vm.findClass K = some t ∧ Z.vm.assignable c t = false)
    {g : JFrame} (hg : g.method = m) {rest : List Value} (hs : g.stack = .ref a :: rest) (hd : decode c.code g.pc = .ok (.instanceof index, 3)) :
    ∃ T', Sd Z EL Fs n0 p l e R s m args below meth c T' h k n ∧ ∀ target, Steps p.tables e below (T'.setTop { g with pc := g.pc + 3, stack := .int 0 :: rest }) target → Steps p.tables e below (T.setTop g) target := by
  obtain ⟨vm0, L, X, N, q, Wd0⟩ := X
  replace hown := Wd0.own hown
  replace hZ := Wd0.hz (s := s)
  obtain ⟨T', X', e', st⟩ := Jvm.RoadKit.instNo X hx hZ hown w q E F hg hs hd
  exact ⟨T', ⟨vm0, L, X', N, e', Wd0⟩, st⟩
theorem ns_root {O K : String} {kk : Nat} (w : (Cond.noSuperclass O).before a0 Z = true) (wk : (Cond.instantiable K kk).before a0 Z = true) (hn : O ≠ K) : NS Z O K := by
  obtain ⟨c, k, h1, h2, h3, -, -⟩ := Cond.noSuperclass_spec w
  obtain ⟨t, k2, g1, -⟩ := Cond.instantiable_spec wk
  have ne := ids_ne h1 g1 hn
  refine ⟨c, t, h1, g1, fun fuel => ?_⟩
  cases fuel with
  | zero => rfl
  | succ f => simp [Vm.isSubclassAux, ne, h2, h3]
theorem ns_no {C K : String} {k1 k2 : Nat} (w : (Cond.instantiable C k1).before a0 Z = true) (wk : (Cond.instantiable K k2).before a0 Z = true) (n : NS Z C K) (hn : C ≠ K) : ∃ c t, Z.vm.findClass C = some c ∧ Z.vm.findClass K = some t ∧ Z.vm.assignable c t = false := by
  obtain ⟨c, t, h0, g0, n3⟩ := n
  obtain ⟨c', kc, h1, h2, h3, h4, -⟩ := Cond.instantiable_spec w
  obtain ⟨t', kt, g1, g2, g3, g4, -⟩ := Cond.instantiable_spec wk
  cases h0.symm.trans h1
  cases g0.symm.trans g1
  have ne := ids_ne h0 g0 hn
  refine ⟨c, t, h0, g0, ?_⟩
  have g5 : kt.isInterface = false := by simp at g4; exact g4.1
  show Z.vm.assignableAux (255 + 1) c t = false
  simp [Vm.assignableAux, ne, h2, g2, h3, g3, g5, Vm.isSubclass, n3]
theorem keep_ext {h h' : Heap} (K : Keep h h' []) : Ext h h' := ⟨K.1, fun x c q => K.2.1 x c q nin0⟩
theorem Exa.plain {h : Heap} {a : Addr} {C : String} (F : Exa Z h a C) : ∀ cell : Cell, h[a]? = some cell → cell.vm.isStatics = false := fun cell hc => by
  obtain ⟨c, k, h1, -, -, h4, -⟩ := F
  cases h1.symm.trans hc; exact h4
theorem Avf.plain {h : Heap} {a : Addr} {kc : ClassId} {ty : FieldType} {sz : Nat} {f : Nat → Value} (F : Avf Z h a kc ty sz f) : ∀ cell : Cell, h[a]? = some cell → cell.vm.isStatics = false := fun cell hc => by
  obtain ⟨cl, A, -⟩ := F
  cases A.1.symm.trans hc; exact Arr.plain A
theorem Sta.keepN {h h' : Heap} {C f d : String} {v : Value} {ws : List Addr} (F : Sta Z h C f d v) (K : Keep h h' ws) (q : ∀ x ∈ ws, ∀ cell : Cell, h[x]? = some cell → cell.vm.isStatics = false) : Sta Z h' C f d v := by
  obtain ⟨cf, i, k, fl, st, cell, h1, h2, h3, h4, h5, h6, h7⟩ := F
  exact ⟨cf, i, k, fl, st, cell, h1, h2, h3, h4, K.2.1 st cell h5 (fun z => by rw [q st z cell h5] at h6; cases h6), h6, h7⟩
/-! at the start -/
theorem sta_exa {args : Array Value} {C f d K : String} (hx : (Cond.exactly (.static C f d) K).value args Z none Z [] = some true) (wi : (Cond.initialized C).before args Z = true) (wl : (Cond.laysStatic C f d).before args Z = true) : ∃ a, (Term.static C f d).eval args Z none [] Z = some (.ref a) ∧ Sta Z Z.heap C f d (.ref a) ∧ Exa Z Z.heap a K := by
  obtain ⟨a, ev⟩ := exa_v hx
  exact ⟨a, ev, Sta.start ev (Or.inr ⟨wi, wl⟩), Exa.start ev hx⟩
theorem sta_arr {args : Array Value} {C f d : String} {ty : FieldType} (hx : (Cond.arrayOf (.static C f d) ty).value args Z none Z [] = some true) (wi : (Cond.initialized C).before args Z = true) (wl : (Cond.laysStatic C f d).before args Z = true) : ∃ a cl, (Term.static C f d).eval args Z none [] Z = some (.ref a) ∧ Sta Z Z.heap C f d (.ref a) ∧ Arr Z Z.heap a cl ty := by
  obtain ⟨a, ev⟩ := arr_v hx
  obtain ⟨cl, A⟩ := Arr.start ev hx
  exact ⟨a, cl, ev, Sta.start ev (Or.inr ⟨wi, wl⟩), A⟩
theorem int_of_eq {args : Array Value} {t : Term} {kk : Int32} (h : (Cond.eq t (.int kk)).value args Z none Z [] = some true) : t.eval args Z none [] Z = some (.int kk) := by
  obtain ⟨x, y, h1, h2, k1, k2⟩ := cmp_v (Or.inl h)
  cases (Option.some.inj h2 : Value.int kk = y)
  obtain ⟨z, rfl⟩ : ∃ z, x = .int z := k2
  have q : z = kk := by simpa [Cond.value, h1, Term.eval] using h
  rw [h1, q]
theorem fld_eq {args : Array Value} {t : Term} {C f d : String} {a : Addr} {kk : Int32} (ht : t.eval args Z none [] Z = some (.ref a)) (h : (Cond.eq (.field t C f d) (.int kk)).value args Z none Z [] = some true) : Fld Z Z.heap a C f d (.int kk) :=
  Fld.start ((fld_at ht).symm.trans (int_of_eq h))
theorem ref_of_eq {args : Array Value} {t u : Term} {a : Addr} (hu : u.eval args Z none [] Z = some (.ref a)) (h : (Cond.eq t u).value args Z none Z [] = some true) : t.eval args Z none [] Z = some (.ref a) := by
  obtain ⟨x, y, h1, h2, k1, k2⟩ := cmp_v (Or.inl h)
  cases (Option.some.inj (hu.symm.trans h2) : Value.ref a = y)
  have kx : x.isRef = true := k2.2
  rw [h1, gotT (eq_R h1 hu kx rfl) h]
theorem avf_len {args : Array Value} {t : Term} {a : Addr} {cl : Cell} {ty : FieldType} {z : Int32} {sz : Nat} (A : Arr Z Z.heap a cl ty) (ev : t.eval args Z none [] Z = some (.ref a)) (h : (Term.length t).eval args Z none [] Z = some (.int z)) (hz : z.toNatClampNeg = sz) : cl.slots.size = sz := by
  have ha : Z.arrayAt? a = some cl := A.fin (Vm.Alike.refl _)
  simp only [Term.eval, ev, ha, Option.bind_eq_bind, Option.bind_some] at h
  split at h
  · rename_i hl
    have e : cl.slots.size.toInt32 = z := by simpa using h
    rw [← hz, ← e]
    have q := len_toInt hl
    simp only [Int32.toNatClampNeg, q]; omega
  · cases h
theorem iremS {g : JFrame} {target : State} (X : Sd Z EL Fs n0 p l e R s m args below meth c T h k n) (hx : p.tables.exec = Jvm.exec) (hg : g.method = m) {x y : Int32} {rest : List Value} (hd : decode c.code g.pc = .ok (.irem, 1)) (hs : g.stack = .int y :: .int x :: rest) (hy : y ≠ 0)
    (hr : Steps p.tables e below (T.setTop { g with pc := g.pc + 1, stack := .int (x % y) :: rest }) target) : Steps p.tables e below (T.setTop g) target := by
  obtain ⟨vm0, L, X, -, q, Wd0⟩ := X
  exact iremM X hx hg hd hs hy hr
/-- ldc of a String constant of EL, read -/
theorem Sd.ldcR (X : Sd Z EL Fs n0 p l e R s m args below meth c T h k n) (hx : p.tables.exec = Jvm.exec) {own text : String} {index : Nat} (hown : s.vm.findClass own = some m.cls) (w : (Cond.stringLink own index text).before a0 Z = true) (wS : ∀ a ∈ Bundle.stringAtoms, a.before a0 Z = true) (hmem : (own, index) ∈ EL)
    {vs : List Value} {z : Int32} {sz : Nat} (ht : (∀ c ∈ text.toList, c.toNat < 256) ∧ text.toList.map (fun c => Value.int (Jvm.Lit.byteI c.toNat.toUInt16)) = vs) (hz : ¬ z < 0) (hl : z.toNatClampNeg = vs.length) (hsz : z.toNatClampNeg = sz)
    {g : JFrame} (hg : g.method = m) (hd : decode c.code g.pc = .ok (.ldc index, 2)) {nn k' n' : Nat} (hn : 4 * text.toList.length ≤ nn) (hbig : nn ≤ 536870912) (hk : k + 2 = k') (hn' : n + (nn + 4) = n') (hc : k' ≤ R.cells) (hl' : n' ≤ R.slots) :
    ∃ T' h' a b kc, Sd Z EL Fs n0 p l e R s m args below meth c T' h' k' n' ∧ Ext h h' ∧ Exa Z h' a "java/lang/String" ∧ Fld Z h' a "java/lang/String" "coder" "B" (.int 0) ∧ Fld Z h' a "java/lang/String" "value" "[B" (.ref b) ∧ Avf Z h' b kc .byte sz (fun i => vs.getD i (.int 0)) ∧ (∀ x ∈ Fs, a ≠ x ∧ b ≠ x) ∧
      ∀ target, Steps p.tables e below (T'.setTop { g with pc := g.pc + 2, stack := .ref a :: g.stack }) target → Steps p.tables e below (T.setTop g) target := by
  subst hk hn' hsz
  obtain ⟨vm0, L, X, N, q, ⟨k0, hS, hk0⟩, W, C0⟩ := X
  obtain ⟨a1, hEL⟩ := W.2.2.1
  have hEL' : EW Z a0 EL := fun p hp => by
    obtain ⟨t, w1, w2⟩ := hEL p hp
    exact ⟨t, by simpa only [Cond.before, Cond.holds, Cond.value] using w1, w2⟩
  obtain ⟨a, T', h', k1, b, kc, X', e', E, hS', hk1, hW', -, r1, r2, r3, r4, -, -, C1, -, sf, st⟩ := ldcCH X hx W.1 (by rw [hS.1.alike.findClass]; exact hown) w wS q hS hk0 hEL' hmem W.2.1 ht hz hl hg hd hn hbig hc hl'
  exact ⟨T', h', a, b, kc, ⟨T'.vm, L, X', N, e', ⟨k1, hS', hk1⟩, W.step hW' C1, C0.trans C1⟩, E, r1, r2, r3, Avf.of_arv r4, fun x hx => ⟨Ne.symm (sf x ((W.step hW' C1).2.2.2 x hx).2).1, Ne.symm (sf x ((W.step hW' C1).2.2.2 x hx).2).2⟩, st⟩
/-- ldc of a String constant, not read -/
theorem Sd.ldcN (X : Sd Z EL Fs n0 p l e R s m args below meth c T h k n) (hx : p.tables.exec = Jvm.exec) {own text : String} {index : Nat} (hown : s.vm.findClass own = some m.cls) (w : (Cond.stringLink own index text).before a0 Z = true) (wS : ∀ a ∈ Bundle.stringAtoms, a.before a0 Z = true)
    {g : JFrame} (hg : g.method = m) (hd : decode c.code g.pc = .ok (.ldc index, 2)) {nn k' n' : Nat} (hn : 4 * text.toList.length ≤ nn) (hbig : nn ≤ 536870912) (hk : k + 2 = k') (hn' : n + (nn + 4) = n') (hc : k' ≤ R.cells) (hl' : n' ≤ R.slots) :
    ∃ T' h' a, Sd Z EL Fs n0 p l e R s m args below meth c T' h' k' n' ∧ Ext h h' ∧
      ∀ target, Steps p.tables e below (T'.setTop { g with pc := g.pc + 2, stack := .ref a :: g.stack }) target → Steps p.tables e below (T.setTop g) target := by
  subst hk hn'
  obtain ⟨vm0, L, X, N, q, ⟨k0, hS, hk0⟩, W, C0⟩ := X
  obtain ⟨a1, hEL⟩ := W.2.2.1
  have hEL' : EW Z a0 EL := fun p hp => by
    obtain ⟨t, w1, w2⟩ := hEL p hp
    exact ⟨t, by simpa only [Cond.before, Cond.holds, Cond.value] using w1, w2⟩
  obtain ⟨a, T', h', k1, X', e', E, hS', hk1, hW', -, C1, -, st⟩ := ldcOH X hx W.1 (by rw [hS.1.alike.findClass]; exact hown) w wS q hS hk0 hEL' W.2.1 hg hd hn hbig hc hl'
  exact ⟨T', h', a, ⟨T'.vm, L, X', N, e', ⟨k1, hS', hk1⟩, W.step hW' C1, C0.trans C1⟩, E, st⟩
theorem avf_ne {h : Heap} {a b : Addr} {k1 k2 : ClassId} {t1 t2 : FieldType} {s1 s2 : Nat} {f1 f2 : Nat → Value} (A : Avf Z h a k1 t1 s1 f1) (B : Avf Z h b k2 t2 s2 f2) (q : t1 ≠ t2) : a ≠ b := fun e => by
  subst e
  obtain ⟨c1, ⟨e1, ⟨-, q1, g1, cm1, kd1⟩, -⟩, -⟩ := A
  obtain ⟨c2, ⟨e2, ⟨-, q2, g2, cm2, kd2⟩, -⟩, -⟩ := B
  cases e1.symm.trans e2
  cases g1.symm.trans g2
  rw [kd1] at kd2; cases kd2; exact q rfl
theorem exa_nev {h : Heap} {x b : Addr} {C : String} {kk : Nat} {k2 : ClassId} {ty : FieldType} {sz : Nat} {f : Nat → Value} (E : Exa Z h x C) (w : (Cond.instantiable C kk).before a0 Z = true) (B : Avf Z h b k2 ty sz f) : b ≠ x := fun e => (E.neArv (B.arv .null) w) e.symm
theorem nf_same {s : State} {y z : MethodName} (hc : z.cls = y.cls) {k : ClassId} {kk : Class} (h1 : s.vm.findClass y.cls = some k) (h2 : s.vm.classes[k]? = some kk) (h3 : kk.isInterface = false) : NotFace s z := fun r0 h0 => by
  have q := findClass_of_methodNamed h0
  rw [hc, h1] at q
  cases q
  exact ⟨kk, h2, h3⟩
theorem plain_of_selects {Z : State} {a0 : Array Value} {C : String} {y : MethodName} (w : (Cond.selects C y y).before a0 Z = true) : ∃ k kk, Z.vm.findClass y.cls = some k ∧ Z.vm.classes[k]? = some kk ∧ kk.isInterface = false := by
  obtain ⟨c2, r2, m2, q1, q2, q3, q4, kP, hkP, hkPi⟩ := Cond.selects_spec w
  exact ⟨_, kP, findClass_of_methodNamed q3, hkP, hkPi⟩
theorem same_of {Z : State} {a0 : Array Value} {C : String} {y x : MethodName} (w : (Cond.selects C y y).before a0 Z = true) (hc : x.cls = y.cls) (wi : (Cond.instanceMethod x).before a0 Z = true) (hx : x.cls ≠ "java/lang/invoke/MethodHandle" ∧ x.cls ≠ "java/lang/invoke/VarHandle") : (Cond.sameMethod x.cls x.cls x.name x.desc).before a0 Z = true := by
  obtain ⟨k, kk, h1, h2, h3⟩ := plain_of_selects w
  obtain ⟨mk, methM, hn, hm, -⟩ := Cond.instanceMethod_spec wi
  have hf := State.methodFound?_of_named hn hx
  have hk : Z.vm.findClass x.cls = some k := by rw [hc]; exact h1
  have hn' : Z.methodNamed? ⟨x.cls, x.name, x.desc⟩ = some mk := hn
  simp only [Cond.before, Cond.holds, Cond.value, hk, hf, hn', h2]
  simp [h3]
theorem nf_of {Z S : State} {a0 : Array Value} {C : String} {y z : MethodName} (w : (Cond.selects C y y).before a0 Z = true) (hc : z.cls = y.cls) (hZ : Z.Warmed39 S.vm) : NotFace S z := by
  obtain ⟨k, kk, h1, h2, h3⟩ := plain_of_selects (mvT (args := a0) hZ w)
  exact nf_same hc h1 h2 h3
theorem sel_own {Z : State} {a0 : Array Value} {C : String} {y : MethodName} (w : (Cond.selects C y y).before a0 Z = true) (wp : (Cond.privateMethod y).before a0 Z = true) (wi : (Cond.instanceMethod y).before a0 Z = true) (hx : y.cls ≠ "java/lang/invoke/MethodHandle" ∧ y.cls ≠ "java/lang/invoke/VarHandle") : (Cond.selects y.cls y y).before a0 Z = true := by
  obtain ⟨c2, r2, m2, q1, q2, q3, q4, kP, hkP, hkPi⟩ := Cond.selects_spec w
  obtain ⟨mk, methM, hn, hm, -⟩ := Cond.instanceMethod_spec wi
  cases q3.symm.trans hn
  have hp := Cond.privateMethod_at wp _ _ hn hm
  cases q2.symm.trans (State.methodFound?_of_named q3 hx)
  have e : selectMethod {} Z.vm r2.cls r2 = .method r2 := selectMethod_private hm hp
  simp only [Cond.before, Cond.holds, Cond.value, q2, q3, e, hkP, findClass_of_methodNamed q3]
  simp [hkPi]
theorem Sd.callSup (X : Sd Z EL Fs n0 p l e R s m args below meth c T h k n) (hx : p.tables.exec = Jvm.exec) (hZ : Z.Warmed39 s.vm) {own C : String} {index : Nat} {y : MethodName} {bytes : ByteArray} {maxL : Nat} {ret : Option FieldType} {rm : Room} {as' : Array Value} {Q : Option Value → Heap → Prop} {F0 : List Addr} (hF0 : ∀ x ∈ F0, x ∈ Fs)
    (hown : s.vm.findClass own = some m.cls) (w1 : (Cond.methodLink own index y).before a0 Z = true) (w2 : (Cond.sameMethod y.cls y.cls y.name y.desc).before a0 Z = true) (w6 : (Cond.instanceMethod y).before a0 Z = true) (w7 : (Cond.superclass own y.cls).before a0 Z = true) (hn1 : y.name ≠ "<init>") (w3 : (Cond.initialized y.cls).before a0 Z = true) (w4 : (Cond.code y bytes maxL ret).before a0 Z = true)
    (hM : Met l Z EL F0 S1 n0 y bytes maxL ret [] rm as' h Q) {a : Addr} (E : Exa Z h a C) {g : JFrame} (hg : g.method = m) (hsize : g.locals.size = c.maxLocals) {argsL rest : List Value} (hlen : ∀ sig, parseMethodDescriptor y.desc = some sig → argsL.length = sig.parameters.length)
    (hstack : g.stack = argsL.reverse ++ .ref a :: rest) (hd : decode c.code g.pc = .ok (.invokespecial index, 3)) (has : (.ref a :: argsL).toArray = as') (hf : rm.frames + 1 ≤ R.frames) (hl : 2 * g.monitorRoom + (rest.map fun v => v.category).sum + (maxL + 11) + rm.locals ≤ R.locals)
    {k' n' : Nat} (hk : k + rm.cells = k') (hn : n + rm.slots = n') (hc : k' ≤ R.cells) (hs : n' ≤ R.slots) :
    ∃ v T' h', Sd Z EL Fs n0 p l e R s m args below meth c T' h' k' n' ∧ Q v h' ∧ (∀ Gs, (∀ x ∈ Gs, x ∈ Fs ∨ S1 v h' x) → Sd Z EL Gs n0 p l e R s m args below meth c T' h' k' n') ∧ ∀ target, Steps p.tables e below (T'.setTop { g with pc := g.pc + 3, stack := v.toList ++ rest }) target → Steps p.tables e below (T.setTop g) target := by
  subst hk hn
  obtain ⟨vm0, L, X, N, q, Wd0⟩ := X
  replace hown := Wd0.own hown
  replace hZ := Wd0.hz (s := s)
  obtain ⟨v, _, ⟨T', L', k1, n1⟩, -, X', hS1, hg1, ⟨Lc, hQ, q1, q2, q3, hC, hs1⟩, st⟩ := superBackS X hx hZ (y := y) hown w1 w2 w6 w7 hn1 (backW hM Wd0.2.1 hF0 w4 w3 hf hl) q (Ins.self E) hg hsize w4 hlen hstack (Nat.le_refl _) hd (fun _ _ => ⟨has, q, hc, hs⟩)
  dsimp only [Pt.U, Pt.locs, Pt.cells, Pt.slots] at X' q1 q2 q3 st hQ hC hs1 hS1 hg1
  subst q1 q2 q3
  have W1 := Wd0.call q hS1 hg1 hC
  refine ⟨v, T', _, ⟨_, _, X', Fr.app N hQ.2, rfl, W1⟩, hQ.1, fun Gs hG => ⟨_, _, X', Fr.app N hQ.2, rfl, W1.1, ⟨W1.2.1.1, W1.2.1.2.1, W1.2.1.2.2.1, fun x hx => (hG x hx).elim (fun z => W1.2.1.2.2.2 x z) (fun z => hs1 x z)⟩, W1.2.2⟩, fun _ kt => st.trans kt⟩

end Sds
end Jvm.RoadKit
namespace Jvm.Pilot.@@N@@
open Jvm Jvm.ClassFile Sem Op Lib Jvm.Free Jvm.Stand Jvm.LawKit Jvm.RoadKit Bundle Jvm.Pilot.@@N@@.Jvm.D
theorem tw {a0 : Array Value} {Z : State} (hw : ∀ d ∈ tables_1, d.before a0 Z = true) (i : Nat) {d : Jvm.Cond} (h : tables_1[i]? = some d) : d.before a0 Z = true := hw _ (List.mem_of_getElem? h)
abbrev EL : List (String × Nat) := consts_1
theorem atoms_S {a0 : Array Value} {Z : State} (hw : ∀ d ∈ tables_1, d.before a0 Z = true) : ∀ a ∈ Bundle.stringAtoms, a.before a0 Z = true := fun a ha => hw a ((by decide +kernel : ∀ a ∈ Bundle.stringAtoms, a ∈ tables_1) a ha)
theorem i32_succ (i : Nat) : Int32.ofNat i + (1 : Int32) = Int32.ofNat (i + 1) := by
  rw [show (1 : Int32) = Int32.ofNat 1 from rfl, ← Int32.ofNat_add]
theorem i32_lt {i n : Nat} (h : i < n) (hn : n < 2 ^ 31) : Int32.ofNat i < n.toInt32 := by
  rw [Int32.lt_iff_toInt_lt, show (Int32.ofNat i).toInt = i from len_toInt (by omega), len_toInt hn]; omega
theorem i32_nlt {i n : Nat} (h : n ≤ i) (hi : i < 2 ^ 31) : ¬ Int32.ofNat i < n.toInt32 := by
  rw [Int32.lt_iff_toInt_lt, show (Int32.ofNat i).toInt = i from len_toInt hi, len_toInt (by omega)]; omega
theorem i32_nneg {i : Nat} (hi : i < 2 ^ 31) : ¬ Int32.ofNat i < 0 := by
  rw [Int32.lt_iff_toInt_lt, show (Int32.ofNat i).toInt = i from len_toInt hi]
  have : (0 : Int32).toInt = 0 := rfl
  omega
theorem i32_nat {i : Nat} (hi : i < 2 ^ 31) : (Int32.ofNat i).toNatClampNeg = i := by
  simp only [Int32.toNatClampNeg, show (Int32.ofNat i).toInt = i from len_toInt hi]; omega
theorem i32_inj {m n : Nat} (hm : m < 2 ^ 31) (hn : n < 2 ^ 31) (h : m.toInt32 = n.toInt32) : m = n := by
  have := congrArg Int32.toInt h
  rw [len_toInt hm, len_toInt hn] at this; omega
theorem avf_sz {Z : State} {h : Heap} {a : Addr} {kc : ClassId} {ty : FieldType} {sz : Nat} {f : Nat → Value} (F : Avf Z h a kc ty sz f) : sz < 2 ^ 31 := by obtain ⟨_, _, _, _, r, _⟩ := F; exact r
theorem avf_uniq {Z : State} {h : Heap} {a : Addr} {k1 k2 : ClassId} {ty : FieldType} {s1 s2 : Nat} {f1 f2 : Nat → Value} (F : Avf Z h a k1 ty s1 f1) (G : Avf Z h a k2 ty s2 f2) : s1 = s2 ∧ ∀ i, i < s1 → f1 i = f2 i := by
  obtain ⟨c1, A1, _, q1, _, r1⟩ := F
  obtain ⟨c2, A2, _, q2, _, r2⟩ := G
  obtain rfl : c1 = c2 := Option.some.inj (A1.1.symm.trans A2.1)
  refine ⟨q1.symm.trans q2, fun i hi => ?_⟩
  exact Option.some.inj ((r1 i hi).1.symm.trans (r2 i (by omega)).1)
theorem fld_uniq {Z : State} {h : Heap} {a : Addr} {C n d : String} {v w : Value} (F : Fld Z h a C n d v) (G : Fld Z h a C n d w) : v = w := by
  obtain ⟨c1, cf1, k1, i1, f1, h1, h2, h3, h4, h5, h6, h7⟩ := F
  obtain ⟨c2, cf2, k2, i2, f2, g1, g2, g3, g4, g5, g6, g7⟩ := G
  cases h1.symm.trans g1
  cases h2.symm.trans g2
  exact Option.some.inj (h7.symm.trans g7)
theorem n32_nneg {N : Nat} (h : N < 2 ^ 31) : ¬ N.toInt32 < 0 := i32_nneg (i := N) h
theorem n32_nat {N : Nat} (h : N < 2 ^ 31) : N.toInt32.toNatClampNeg = N := i32_nat (i := N) h
theorem n32_ne0 {N : Nat} (h : N < 2 ^ 31) (h1 : 1 ≤ N) : ¬ N.toInt32 = (0 : Int32) := fun q => by
  have := i32_inj (m := N) (n := 0) h (by decide) q
  omega
theorem n32_sub0 (x : Int32) : nar .byte ((((x - x).toUInt32 >>> ((31 : Int32) &&& 31).toUInt32).toInt32).toInt8.toInt32) = 0 := by
  rw [Int32.sub_self]; decide
theorem own_shr0 (x : Int32) : x >>> ((0 : Int32) &&& 31) = x := by simp
theorem own_shl0 (x : Int32) : x <<< ((0 : Int32) &&& 31) = x := by simp
theorem own_i32add (a b : Nat) : Int32.ofNat a + b.toInt32 = Int32.ofNat (a + b) := by
  rw [show b.toInt32 = Int32.ofNat b from rfl, ← Int32.ofNat_add]
def tabL : List Int32 := [1207963663, 1207963663, 1207963663, 1207963663, 1207963663, 1207963663, 1207963663, 1207963663, 1207963663, 1476411407, 1342193679, 1476411407, 1610629135, 1342193679, 1207963663, 1207963663, 1207963663, 1207963663, 1207963663, 1207963663, 1207963663, 1207963663, 1207963663, 1207963663, 1207963663, 1207963663, 1207963663, 1207963663, 1342193679, 1342193679, 1342193679, 1476411407, 1610629132, 1744830488, 1744830488, 671088664, 671113242, 671088664, 1744830488, 1744830488, (-402653163), (-402653162), 1744830488, 536870937, 939524120, 536870932, 939524120, 939524120, 402667017, 402667017, 402667017, 402667017, 402667017, 402667017, 402667017, 402667017, 402667017, 402667017, 939524120, 1744830488, (-402653159), 1744830489, (-402653159), 1744830488, 1744830488, 8552417, 8552417, 8552417, 8552417, 8552417, 8552417, 8552417, 8552417, 8552417, 8552417, 8552417, 8552417, 8552417, 8552417, 8552417, 8552417, 8552417, 8552417, 8552417, 8552417, 8552417, 8552417, 8552417, 8552417, 8552417, 8552417, (-402653163), 1744830488, (-402653162), 1744830491, 1744850967, 1744830491, 8486882, 8486882, 8486882, 8486882, 8486882, 8486882, 8486882, 8486882, 8486882, 8486882, 8486882, 8486882, 8486882, 8486882, 8486882, 8486882, 8486882, 8486882, 8486882, 8486882, 8486882, 8486882, 8486882, 8486882, 8486882, 8486882, (-402653163), 1744830489, (-402653162), 1744830489, 1207963663, 1207963663, 1207963663, 1207963663, 1207963663, 1207963663, 1342181391, 1207963663, 1207963663, 1207963663, 1207963663, 1207963663, 1207963663, 1207963663, 1207963663, 1207963663, 1207963663, 1207963663, 1207963663, 1207963663, 1207963663, 1207963663, 1207963663, 1207963663, 1207963663, 1207963663, 1207963663, 1207963663, 1207963663, 1207963663, 1207963663, 1207963663, 1207963663, 939524108, 1744830488, 671113242, 671113242, 671113242, 671113242, 1744830492, 1744830488, 1744830491, 1744830492, 28677, (-402653155), 1744830489, 1207963664, 1744830492, 1744830491, 671088668, 671088665, 402654731, 402654731, 1744830491, 134049794, 1744830488, 1744830488, 1744830491, 402654475, 28677, (-402653154), 1744832523, 1744832523, 1744832523, 1744830488, 8548353, 8548353, 8548353, 8548353, 8548353, 8548353, 8548353, 8548353, 8548353, 8548353, 8548353, 8548353, 8548353, 8548353, 8548353, 8548353, 8548353, 8548353, 8548353, 8548353, 8548353, 8548353, 8548353, 1744830489, 8548353, 8548353, 8548353, 8548353, 8548353, 8548353, 8548353, 134049794, 8482818, 8482818, 8482818, 8482818, 8482818, 8482818, 8482818, 8482818, 8482818, 8482818, 8482818, 8482818, 8482818, 8482818, 8482818, 8482818, 8482818, 8482818, 8482818, 8482818, 8482818, 8482818, 8482818, 1744830489, 8482818, 8482818, 8482818, 8482818, 8482818, 8482818, 8482818, 102592514]
def tabA (i : Nat) : Int32 := tabL.getD i 0
def wsI (c : Int32) : Prop := c.toInt = 32 ∨ (9 ≤ c.toInt ∧ c.toInt ≤ 13) ∨ (28 ≤ c.toInt ∧ c.toInt ≤ 31)
theorem own_tab : ∀ i : Fin 256, (tabA i &&& (28672 : Int32)) = (16384 : Int32) → (i.val = 32 ∨ (9 ≤ i.val ∧ i.val ≤ 13) ∨ (28 ≤ i.val ∧ i.val ≤ 31)) := by decide +kernel
theorem own_ws {c : Int32} (h : 0 ≤ c.toInt ∧ c.toInt ≤ 255) (hn : ¬ wsI c) : ¬ (tabA c.toInt.toNat &&& (28672 : Int32)) = (16384 : Int32) := fun q => by
  have r := own_tab ⟨c.toInt.toNat, by omega⟩ q
  apply hn
  unfold wsI
  simp only at r
  omega
theorem own_i2c {x : Int32} (h : 0 ≤ x.toInt ∧ x.toInt ≤ 255) : x.toUInt32.toUInt16.toUInt32.toInt32 = x := by
  have e : x &&& (255 : Int32) = x := by
    have q := c_mask x 255 8 (by decide) (by decide)
    rw [← Int32.toInt_inj, q]
    omega
  have q := i2c_mask x
  rw [e] at q
  exact q
theorem own_nc {x : Int32} (h : 0 ≤ x.toInt ∧ x.toInt ≤ 255) : nar .char (x.toUInt32.toUInt16.toUInt32.toInt32) = x := by
  show (x.toUInt32.toUInt16.toUInt32.toInt32).toUInt32.toUInt16.toUInt32.toInt32 = x
  rw [own_i2c h, own_i2c h]
theorem own_nn {x : Int32} (h : 0 ≤ x.toInt) : ¬ x < 0 := by
  rw [Int32.lt_iff_toInt_lt]
  have : (0 : Int32).toInt = 0 := rfl
  omega
theorem own_ix0 {x : Int32} (h : 0 ≤ x.toInt ∧ x.toInt ≤ 255) : ¬ x.toUInt32.toUInt16.toUInt32.toInt32 < 0 := by rw [own_i2c h]; exact own_nn h.1
theorem own_ix1 {x : Int32} (h : 0 ≤ x.toInt ∧ x.toInt ≤ 255) : (x.toUInt32.toUInt16.toUInt32.toInt32).toNatClampNeg = x.toInt.toNat := by rw [own_i2c h]; rfl
theorem own_32 {x : Int32} (h : ¬ wsI x) : ¬ x = (32 : Int32) := fun q => h (by subst q; exact Or.inl rfl)
theorem own_9 {x : Int32} (h : ¬ wsI x) : ¬ x = (9 : Int32) := fun q => h (by subst q; exact Or.inr (Or.inl (by decide)))
theorem own_ltne {i N : Nat} (h : i < N) (hN : N < 2 ^ 31) : ¬ Int32.ofNat i = N.toInt32 := fun q => by
  have := i32_inj (m := i) (n := N) (by omega) hN q
  omega
def apg (c N : Nat) (g1 g : Nat → Int32) (t : Nat) : Int32 := if c ≤ t ∧ t < c + N then g1 (t - c) else g t
theorem own_cap {c N : Nat} (h : c + N ≤ 16) : ¬ (0 : Int32) < (Int32.ofNat c + N.toInt32) - 16 := by
  have key : ∀ k : Fin 17, ¬ (0 : Int32) < Int32.ofNat k - 16 := by decide +kernel
  rw [own_i32add]
  exact key ⟨c + N, by omega⟩
theorem own_ne16 {c : Nat} (h : c ≤ 15) : ¬ Int32.ofNat c = (16 : Int32) := by
  have key : ∀ k : Fin 16, ¬ Int32.ofNat k = (16 : Int32) := by decide +kernel
  exact key ⟨c, by omega⟩
theorem own_lt16 {c : Nat} (h : c ≤ 15) : Int32.ofNat c - (0 : Int32) < (16 : Int32) := by
  have key : ∀ k : Fin 16, Int32.ofNat k - (0 : Int32) < (16 : Int32) := by decide +kernel
  exact key ⟨c, by omega⟩
theorem own_sub0 (x : Int32) : x - (0 : Int32) = x := by simp
theorem own_byte (g : Int32) : 0 ≤ (g &&& (255 : Int32)).toInt ∧ (g &&& (255 : Int32)).toInt ≤ 255 := by
  have q := c_mask g 255 8 (by decide) (by decide)
  rw [q]; omega
def c3 (x y z : Int32) (i : Nat) : Int32 := if i = 0 then x else if i = 1 then y else z
def c7 (N : Nat) (f g : Nat → Int32) (i : Nat) : Int32 := if i < N then f i else if i = N then 47 else g (i - N - 1)
theorem own_c3b {x y z : Int32} (hx : 0 ≤ x.toInt ∧ x.toInt ≤ 255) (hy : 0 ≤ y.toInt ∧ y.toInt ≤ 255) (hz : 0 ≤ z.toInt ∧ z.toInt ≤ 255) (i : Nat) : 0 ≤ (c3 x y z i).toInt ∧ (c3 x y z i).toInt ≤ 255 := by
  unfold c3
  split
  · exact hx
  · split
    · exact hy
    · exact hz
theorem own_c7b {N : Nat} {f g : Nat → Int32} (hf : ∀ i, 0 ≤ (f i).toInt ∧ (f i).toInt ≤ 255) (hg : ∀ i, 0 ≤ (g i).toInt ∧ (g i).toInt ≤ 255) (i : Nat) : 0 ≤ (c7 N f g i).toInt ∧ (c7 N f g i).toInt ≤ 255 := by
  unfold c7
  split
  · exact hf i
  · split
    · decide
    · exact hg _
theorem own_hcx {f : Nat → Int32} {N : Nat} (h : ∀ i, 0 ≤ (f i).toInt ∧ (f i).toInt ≤ 255) : ∀ i, i < N → ¬ (255 : Int32) < f i := fun i _ => by
  have := h i
  have e1 : (255 : Int32).toInt = 255 := rfl
  rw [Int32.lt_iff_toInt_lt, e1]; omega
theorem own_nc2 {x : Int32} (h : 0 ≤ x.toInt ∧ x.toInt ≤ 255) : nar .char x = x := own_i2c h
theorem own_b8 {x : Int32} (h : 0 ≤ x.toInt ∧ x.toInt ≤ 255) : x.toInt8.toInt32 &&& (255 : Int32) = x := by
  have q := c_mask x.toInt8.toInt32 255 8 (by decide) (by decide)
  have a1 : (x.toInt8.toInt32).toInt = x.toInt.bmod 256 := by simp
  rw [← Int32.toInt_inj, q, a1]
  simp only [Int.bmod_def]
  split <;> omega
theorem own_fin (N M : Nat) (f g : Nat → Int32) (i : Nat) (hi : i < N + 1 + M) : (c7 N f g i).toInt8.toInt32 = apg (0 + N + 1) M (fun j => (g j).toInt8.toInt32) (apg (0 + N) 1 (fun _ => (47 : Int32)) (apg 0 N (fun j => (f j).toInt8.toInt32) (fun _ => (0 : Int32)))) i := by
  unfold apg c7
  by_cases h1 : i < N
  · rw [if_pos h1, if_neg (by omega), if_neg (by omega), if_pos (by omega), Nat.sub_zero]
  · rw [if_neg h1]
    by_cases h2 : i = N
    · rw [if_pos h2, if_neg (by omega), if_pos (by omega)]
      rfl
    · rw [if_neg h2, if_pos (by omega), Nat.zero_add, Nat.sub_sub]
theorem own_n3 {x : Int32} (h : 0 ≤ x.toInt) : 1 ≤ ((1 : Int32) + (x % (3 : Int32))).toInt ∧ ((1 : Int32) + (x % (3 : Int32))).toInt ≤ 3 := by
  have r := Int32.toInt_mod x 3
  have e3 : (3 : Int32).toInt = 3 := rfl
  have e1 : (1 : Int32).toInt = 1 := rfl
  rw [e3, Int.tmod_eq_emod_of_nonneg (by omega)] at r
  rw [Int32.toInt_add, e1, r]
  simp only [Int.bmod_def]
  split <;> omega
theorem own_m31 (x : Int32) : 0 ≤ (x &&& (2147483647 : Int32)).toInt := by
  have q := c_mask x 2147483647 31 (by decide) (by decide)
  rw [q]; omega
theorem own_ush (x : Int32) : 0 ≤ ((x.toUInt32 >>> ((2 : Int32) &&& 31).toUInt32).toInt32).toInt := by
  have q := c_iushr x 2 2 (by decide) (by decide)
  rw [q]; omega
theorem own_byc (x : Int32) : 0 ≤ ((x &&& (255 : Int32)).toUInt32.toUInt16.toUInt32.toInt32).toInt ∧ ((x &&& (255 : Int32)).toUInt32.toUInt16.toUInt32.toInt32).toInt ≤ 255 := by
  rw [i2c_mask]; exact own_byte x
theorem own_three {x : Int32} (h : 1 ≤ x.toInt ∧ x.toInt ≤ 3) : x = 1 ∨ x = 2 ∨ x = 3 := by
  have e1 : (1 : Int32).toInt = 1 := rfl
  have e2 : (2 : Int32).toInt = 2 := rfl
  have e3 : (3 : Int32).toInt = 3 := rfl
  simp only [← Int32.toInt_inj, e1, e2, e3]; omega
theorem own_ge2 {y : Int32} {N : Nat} (h : y.toInt = N) (q : ¬ y < (2 : Int32)) : 1 < N := by
  have e2 : (2 : Int32).toInt = 2 := rfl
  rw [Int32.lt_iff_toInt_lt, e2] at q; omega
theorem own_ge3 {y : Int32} {N : Nat} (h : y.toInt = N) (q : ¬ y < (3 : Int32)) : 2 < N := by
  have e2 : (3 : Int32).toInt = 3 := rfl
  rw [Int32.lt_iff_toInt_lt, e2] at q; omega
theorem own_Aw : ∀ i : Fin 256, jdkStatics_1[17 + i.val]? = some (Jvm.Cond.eq (Jvm.Term.elem (Jvm.Term.static "java/lang/CharacterDataLatin1" "A" "[I") (Jvm.Term.int (Int32.ofNat i.val))) (Jvm.Term.int (tabA i.val))) := by decide +kernel
theorem d42_0 : decode jdk_43_method_13_code 0 = .ok (.aload_n 0, 1) := by decide +kernel
theorem d42_1 : decode jdk_43_method_13_code 1 = .ok (.arraylength, 1) := by decide +kernel
theorem d42_2 : decode jdk_43_method_13_code 2 = .ok (.aload_n 1, 1) := by decide +kernel
theorem d42_3 : decode jdk_43_method_13_code 3 = .ok (.arraylength, 1) := by decide +kernel
theorem d42_4 : decode jdk_43_method_13_code 4 = .ok (.if_icmp .ne 30, 3) := by decide +kernel
theorem d42_7 : decode jdk_43_method_13_code 7 = .ok (.iconst 0, 1) := by decide +kernel
theorem d42_8 : decode jdk_43_method_13_code 8 = .ok (.istore_n 2, 1) := by decide +kernel
theorem d42_9 : decode jdk_43_method_13_code 9 = .ok (.iload_n 2, 1) := by decide +kernel
theorem d42_10 : decode jdk_43_method_13_code 10 = .ok (.aload_n 0, 1) := by decide +kernel
theorem d42_11 : decode jdk_43_method_13_code 11 = .ok (.arraylength, 1) := by decide +kernel
theorem d42_12 : decode jdk_43_method_13_code 12 = .ok (.if_icmp .ge 20, 3) := by decide +kernel
theorem d42_32 : decode jdk_43_method_13_code 32 = .ok (.iconst 1, 1) := by decide +kernel
theorem d42_33 : decode jdk_43_method_13_code 33 = .ok (.ireturn, 1) := by decide +kernel
theorem d42_15 : decode jdk_43_method_13_code 15 = .ok (.aload_n 0, 1) := by decide +kernel
theorem d42_16 : decode jdk_43_method_13_code 16 = .ok (.iload_n 2, 1) := by decide +kernel
theorem d42_17 : decode jdk_43_method_13_code 17 = .ok (.baload, 1) := by decide +kernel
theorem d42_18 : decode jdk_43_method_13_code 18 = .ok (.aload_n 1, 1) := by decide +kernel
theorem d42_19 : decode jdk_43_method_13_code 19 = .ok (.iload_n 2, 1) := by decide +kernel
theorem d42_20 : decode jdk_43_method_13_code 20 = .ok (.baload, 1) := by decide +kernel
theorem d42_21 : decode jdk_43_method_13_code 21 = .ok (.if_icmp .eq 5, 3) := by decide +kernel
theorem d42_26 : decode jdk_43_method_13_code 26 = .ok (.iinc 2 1, 3) := by decide +kernel
theorem d42_29 : decode jdk_43_method_13_code 29 = .ok (.goto (-20), 3) := by decide +kernel
theorem d42_24 : decode jdk_43_method_13_code 24 = .ok (.iconst 0, 1) := by decide +kernel
theorem d42_25 : decode jdk_43_method_13_code 25 = .ok (.ireturn, 1) := by decide +kernel
theorem d42_34 : decode jdk_43_method_13_code 34 = .ok (.iconst 0, 1) := by decide +kernel
theorem d42_35 : decode jdk_43_method_13_code 35 = .ok (.ireturn, 1) := by decide +kernel
abbrev Rm42 : Room := { frames := 0, cells := 0, slots := 0, locals := 0 }
theorem pn0 : plainName "java/lang/StringLatin1" = true := by first | (simp [plainName, overriddenIn]; done) | decide +kernel
set_option maxRecDepth 65536 in
set_option maxHeartbeats 40000000 in
theorem rm42 (l : Launch) (Z : State) (a0 : Array Value) (hw : ∀ d ∈ tables_1, d.before a0 Z = true) (ws : List Jvm.Cond) (b1 : Addr) (b2 : Addr) (k1 k2 : ClassId) (N1 N2 : Nat) (g1 g2 : Nat → Int32) (h0 : Heap) (n0 : Nat) (Z0 : n0 ≤ h0.size) (V_b1 : Avf Z h0 b1 k1 .byte N1 (fun i => (.int (g1 i)))) (V_b2 : Avf Z h0 b2 k2 .byte N2 (fun i => (.int (g2 i)))) :
    Met l Z EL [] (fun _ _ _ => False) n0 (⟨"java/lang/StringLatin1", "equals", "([B[B)Z"⟩ : MethodName) jdk_43_method_13_code 3 (some .boolean) ws Rm42 #[(.ref b1), (.ref b2)] h0 (fun v h => (((N1 = N2 ∧ ∀ i, i < N1 → g1 i = g2 i) ∧ v = some (.int 1)) ∨ (¬ (N1 = N2 ∧ ∀ i, i < N1 → g1 i = g2 i) ∧ v = some (.int 0))) ∧ h0 = h) := by
  refine enter (Ls := #[.val (.ref b1), .val (.ref b2), .unset]) (plainFor_of_name pn0) (fun m => by first | (simp [entryFrame, mkF, argsToLocals, Value.category]; done) | rfl) ?_
  intro p e s m below meth c T0 hx hby hml hown hnm hret hlk hZ X0
  show Go p.tables e below _ (T0.setTop (mkF m 0 #[.val (.ref b1), .val (.ref b2), .unset] []))
  refine Go.by (fun _ => XS.aloadN X0.here hx rfl (hb hby d42_0) rfl rfl) ?_
  show Go p.tables e below _ (T0.setTop (mkF m 1 #[.val (.ref b1), .val (.ref b2), .unset] [(.ref b1)]))
  refine Go.by (X0.len hx hZ V_b1 (z := (N1.toInt32)) rfl (g := (mkF m 1 #[.val (.ref b1), .val (.ref b2), .unset] [(.ref b1)])) rfl rfl (hb hby d42_1)) ?_
  show Go p.tables e below _ (T0.setTop (mkF m 2 #[.val (.ref b1), .val (.ref b2), .unset] [(.int (N1.toInt32))]))
  refine Go.by (fun _ => XS.aloadN X0.here hx rfl (hb hby d42_2) rfl rfl) ?_
  show Go p.tables e below _ (T0.setTop (mkF m 3 #[.val (.ref b1), .val (.ref b2), .unset] [(.ref b2), (.int (N1.toInt32))]))
  refine Go.by (X0.len hx hZ V_b2 (z := (N2.toInt32)) rfl (g := (mkF m 3 #[.val (.ref b1), .val (.ref b2), .unset] [(.ref b2), (.int (N1.toInt32))])) rfl rfl (hb hby d42_3)) ?_
  show Go p.tables e below _ (T0.setTop (mkF m 4 #[.val (.ref b1), .val (.ref b2), .unset] [(.int (N2.toInt32)), (.int (N1.toInt32))]))
  by_cases hc4_1 : (N1.toInt32) = (N2.toInt32)
  · skip
    refine Go.by (fun _ => XS.icmpNo X0.here hx rfl (hb hby d42_4) rfl (teq hc4_1).2) ?_
    show Go p.tables e below _ (T0.setTop (mkF m 7 #[.val (.ref b1), .val (.ref b2), .unset] []))
    refine Go.by (fun _ => XS.iconst X0.here hx rfl (hb hby d42_7)) ?_
    show Go p.tables e below _ (T0.setTop (mkF m 8 #[.val (.ref b1), .val (.ref b2), .unset] [(.int (0 : Int32))]))
    refine Go.by (fun _ => XS.istoreN X0.here hx rfl (hb hby d42_8) rfl (l' := #[.val (.ref b1), .val (.ref b2), .val (.int (0 : Int32))]) rfl) ?_
    show Go p.tables e below _ (T0.setTop (mkF m 9 #[.val (.ref b1), .val (.ref b2), .val (.int (0 : Int32))] []))
    have eN : N1 = N2 := i32_inj (avf_sz V_b1) (avf_sz V_b2) hc4_1
    have J : ∀ (kk i : Nat), i + kk = N1 → (∀ j, j < i → g1 j = g2 j) → ∀ (Tj : State), Sd Z EL [] n0 p l e Rm42 s m #[(.ref b1), (.ref b2)] below meth c Tj h0 0 0 → Go p.tables e below (Ret Z EL (fun _ _ _ => False) s n0 (fun v h => (((N1 = N2 ∧ ∀ i, i < N1 → g1 i = g2 i) ∧ v = some (.int 1)) ∨ (¬ (N1 = N2 ∧ ∀ i, i < N1 → g1 i = g2 i) ∧ v = some (.int 0))) ∧ h0 = h) Rm42.cells Rm42.slots) (Tj.setTop (mkF m 9 #[.val (.ref b1), .val (.ref b2), .val (.int (Int32.ofNat i))] [])) := by
      intro kk
      have hN := avf_sz V_b1
      induction kk with
      | zero =>
        intro i hi hinv Tj Xj
        have hi : i = N1 := hi
        have hg : ¬ Int32.ofNat i < N1.toInt32 := i32_nlt (by omega) (by omega)
        refine Go.by (fun _ => XS.iloadN Xj.here hx rfl (hb hby d42_9) rfl) ?_
        show Go p.tables e below _ (Tj.setTop (mkF m 10 #[.val (.ref b1), .val (.ref b2), .val (.int (Int32.ofNat i))] [(.int (Int32.ofNat i))]))
        refine Go.by (fun _ => XS.aloadN Xj.here hx rfl (hb hby d42_10) rfl rfl) ?_
        show Go p.tables e below _ (Tj.setTop (mkF m 11 #[.val (.ref b1), .val (.ref b2), .val (.int (Int32.ofNat i))] [(.ref b1), (.int (Int32.ofNat i))]))
        refine Go.by (Xj.len hx hZ V_b1 (z := (N1.toInt32)) rfl (g := (mkF m 11 #[.val (.ref b1), .val (.ref b2), .val (.int (Int32.ofNat i))] [(.ref b1), (.int (Int32.ofNat i))])) rfl rfl (hb hby d42_11)) ?_
        show Go p.tables e below _ (Tj.setTop (mkF m 12 #[.val (.ref b1), .val (.ref b2), .val (.int (Int32.ofNat i))] [(.int (N1.toInt32)), (.int (Int32.ofNat i))]))
        refine Go.by (fun _ => XS.icmpYes Xj.here hx rfl (pc0 := 12) (pc' := 32) rfl (hb hby d42_12) rfl (flt hg).2.1 (by decide) (by decide)) ?_
        show Go p.tables e below _ (Tj.setTop (mkF m 32 #[.val (.ref b1), .val (.ref b2), .val (.int (Int32.ofNat i))] []))
        refine Go.by (fun _ => XS.iconst Xj.here hx rfl (hb hby d42_32)) ?_
        show Go p.tables e below _ (Tj.setTop (mkF m 33 #[.val (.ref b1), .val (.ref b2), .val (.int (Int32.ofNat i))] [(.int (1 : Int32))]))
        exact Go.retN Xj hx hlk (z' := (1 : Int32)) hret (by simp) (hb hby d42_33) rfl (by decide) (by decide) (fun _ z => z.elim) ⟨Or.inl ⟨⟨eN, fun j hj => hinv j (by omega)⟩, rfl⟩, rfl⟩
      | succ kk ih =>
        intro i hi hinv Tj Xj
        have hlt : i < N1 := by omega
        have hg : Int32.ofNat i < N1.toInt32 := i32_lt hlt hN
        refine Go.by (fun _ => XS.iloadN Xj.here hx rfl (hb hby d42_9) rfl) ?_
        show Go p.tables e below _ (Tj.setTop (mkF m 10 #[.val (.ref b1), .val (.ref b2), .val (.int (Int32.ofNat i))] [(.int (Int32.ofNat i))]))
        refine Go.by (fun _ => XS.aloadN Xj.here hx rfl (hb hby d42_10) rfl rfl) ?_
        show Go p.tables e below _ (Tj.setTop (mkF m 11 #[.val (.ref b1), .val (.ref b2), .val (.int (Int32.ofNat i))] [(.ref b1), (.int (Int32.ofNat i))]))
        refine Go.by (Xj.len hx hZ V_b1 (z := (N1.toInt32)) rfl (g := (mkF m 11 #[.val (.ref b1), .val (.ref b2), .val (.int (Int32.ofNat i))] [(.ref b1), (.int (Int32.ofNat i))])) rfl rfl (hb hby d42_11)) ?_
        show Go p.tables e below _ (Tj.setTop (mkF m 12 #[.val (.ref b1), .val (.ref b2), .val (.int (Int32.ofNat i))] [(.int (N1.toInt32)), (.int (Int32.ofNat i))]))
        refine Go.by (fun _ => XS.icmpNo Xj.here hx rfl (hb hby d42_12) rfl (tlt hg).2.1) ?_
        show Go p.tables e below _ (Tj.setTop (mkF m 15 #[.val (.ref b1), .val (.ref b2), .val (.int (Int32.ofNat i))] []))
        refine Go.by (fun _ => XS.aloadN Xj.here hx rfl (hb hby d42_15) rfl rfl) ?_
        show Go p.tables e below _ (Tj.setTop (mkF m 16 #[.val (.ref b1), .val (.ref b2), .val (.int (Int32.ofNat i))] [(.ref b1)]))
        refine Go.by (fun _ => XS.iloadN Xj.here hx rfl (hb hby d42_16) rfl) ?_
        show Go p.tables e below _ (Tj.setTop (mkF m 17 #[.val (.ref b1), .val (.ref b2), .val (.int (Int32.ofNat i))] [(.int (Int32.ofNat i)), (.ref b1)]))
        refine Go.by (Xj.ldB hx hZ V_b1 (i32_nneg (by omega)) (i := i) (i32_nat (by omega)) (by omega) (v := (.int (g1 i))) rfl (g := (mkF m 17 #[.val (.ref b1), .val (.ref b2), .val (.int (Int32.ofNat i))] [(.int (Int32.ofNat i)), (.ref b1)])) rfl rfl (hb hby d42_17)) ?_
        show Go p.tables e below _ (Tj.setTop (mkF m 18 #[.val (.ref b1), .val (.ref b2), .val (.int (Int32.ofNat i))] [(.int (g1 i))]))
        refine Go.by (fun _ => XS.aloadN Xj.here hx rfl (hb hby d42_18) rfl rfl) ?_
        show Go p.tables e below _ (Tj.setTop (mkF m 19 #[.val (.ref b1), .val (.ref b2), .val (.int (Int32.ofNat i))] [(.ref b2), (.int (g1 i))]))
        refine Go.by (fun _ => XS.iloadN Xj.here hx rfl (hb hby d42_19) rfl) ?_
        show Go p.tables e below _ (Tj.setTop (mkF m 20 #[.val (.ref b1), .val (.ref b2), .val (.int (Int32.ofNat i))] [(.int (Int32.ofNat i)), (.ref b2), (.int (g1 i))]))
        refine Go.by (Xj.ldB hx hZ V_b2 (i32_nneg (by omega)) (i := i) (i32_nat (by omega)) (by omega) (v := (.int (g2 i))) rfl (g := (mkF m 20 #[.val (.ref b1), .val (.ref b2), .val (.int (Int32.ofNat i))] [(.int (Int32.ofNat i)), (.ref b2), (.int (g1 i))])) rfl rfl (hb hby d42_20)) ?_
        show Go p.tables e below _ (Tj.setTop (mkF m 21 #[.val (.ref b1), .val (.ref b2), .val (.int (Int32.ofNat i))] [(.int (g2 i)), (.int (g1 i))]))
        by_cases hc21_3 : (g1 i) = (g2 i)
        · skip
          refine Go.by (fun _ => XS.icmpYes Xj.here hx rfl (pc0 := 21) (pc' := 26) rfl (hb hby d42_21) rfl (teq hc21_3).1 (by decide) (by decide)) ?_
          show Go p.tables e below _ (Tj.setTop (mkF m 26 #[.val (.ref b1), .val (.ref b2), .val (.int (Int32.ofNat i))] []))
          refine Go.by (fun _ => XS.iinc Xj.here hx rfl (hb hby d42_26) rfl (l' := #[.val (.ref b1), .val (.ref b2), .val (.int ((Int32.ofNat i) + (1 : Int32)))]) rfl) ?_
          show Go p.tables e below _ (Tj.setTop (mkF m 29 #[.val (.ref b1), .val (.ref b2), .val (.int ((Int32.ofNat i) + (1 : Int32)))] []))
          refine Go.by (fun _ => XS.goto Xj.here hx rfl (pc0 := 29) (pc' := 9) rfl (hb hby d42_29) (by decide) (by decide)) ?_
          show Go p.tables e below _ (Tj.setTop (mkF m 9 #[.val (.ref b1), .val (.ref b2), .val (.int ((Int32.ofNat i) + (1 : Int32)))] []))
          rw [i32_succ]
          exact ih (i + 1) (by omega) (fun j hj => by
            rcases Nat.lt_succ_iff_lt_or_eq.mp hj with q | rfl
            · exact hinv j q
            · exact hc21_3) _ Xj
        · skip
          refine Go.by (fun _ => XS.icmpNo Xj.here hx rfl (hb hby d42_21) rfl (feq hc21_3).1) ?_
          show Go p.tables e below _ (Tj.setTop (mkF m 24 #[.val (.ref b1), .val (.ref b2), .val (.int (Int32.ofNat i))] []))
          refine Go.by (fun _ => XS.iconst Xj.here hx rfl (hb hby d42_24)) ?_
          show Go p.tables e below _ (Tj.setTop (mkF m 25 #[.val (.ref b1), .val (.ref b2), .val (.int (Int32.ofNat i))] [(.int (0 : Int32))]))
          exact Go.retN Xj hx hlk (z' := (0 : Int32)) hret (by simp) (hb hby d42_25) rfl (by decide) (by decide) (fun _ z => z.elim) ⟨Or.inr ⟨fun q => hc21_3 (q.2 i hlt), rfl⟩, rfl⟩
    exact J N1 0 (by omega) (fun _ q => absurd q (Nat.not_lt_zero _)) _ X0
  · skip
    refine Go.by (fun _ => XS.icmpYes X0.here hx rfl (pc0 := 4) (pc' := 34) rfl (hb hby d42_4) rfl (feq hc4_1).2 (by decide) (by decide)) ?_
    show Go p.tables e below _ (T0.setTop (mkF m 34 #[.val (.ref b1), .val (.ref b2), .unset] []))
    refine Go.by (fun _ => XS.iconst X0.here hx rfl (hb hby d42_34)) ?_
    show Go p.tables e below _ (T0.setTop (mkF m 35 #[.val (.ref b1), .val (.ref b2), .unset] [(.int (0 : Int32))]))
    exact Go.retN X0 hx hlk (z' := (0 : Int32)) hret (by simp) (hb hby d42_35) rfl (by decide) (by decide) (fun _ z => z.elim) ⟨Or.inr ⟨fun q => hc4_1 (congrArg Nat.toInt32 q.1), rfl⟩, rfl⟩
theorem d41_0 : decode jdk_42_method_66_code 0 = .ok (.aload_n 0, 1) := by decide +kernel
theorem d41_1 : decode jdk_42_method_66_code 1 = .ok (.aload_n 1, 1) := by decide +kernel
theorem d41_2 : decode jdk_42_method_66_code 2 = .ok (.if_acmp .ne 5, 3) := by decide +kernel
theorem d41_5 : decode jdk_42_method_66_code 5 = .ok (.iconst 1, 1) := by decide +kernel
theorem d41_6 : decode jdk_42_method_66_code 6 = .ok (.ireturn, 1) := by decide +kernel
theorem d41_7 : decode jdk_42_method_66_code 7 = .ok (.aload_n 1, 1) := by decide +kernel
theorem d41_8 : decode jdk_42_method_66_code 8 = .ok (.instanceof 10, 3) := by decide +kernel
theorem d41_11 : decode jdk_42_method_66_code 11 = .ok (.ifCond .eq 43, 3) := by decide +kernel
theorem d41_14 : decode jdk_42_method_66_code 14 = .ok (.aload_n 1, 1) := by decide +kernel
theorem d41_15 : decode jdk_42_method_66_code 15 = .ok (.checkcast 10, 3) := by decide +kernel
theorem d41_18 : decode jdk_42_method_66_code 18 = .ok (.astore_n 2, 1) := by decide +kernel
theorem d41_19 : decode jdk_42_method_66_code 19 = .ok (.getstatic 38, 3) := by decide +kernel
theorem d41_22 : decode jdk_42_method_66_code 22 = .ok (.ifCond .eq 14, 3) := by decide +kernel
theorem d41_25 : decode jdk_42_method_66_code 25 = .ok (.aload_n 0, 1) := by decide +kernel
theorem d41_26 : decode jdk_42_method_66_code 26 = .ok (.getfield 15, 3) := by decide +kernel
theorem d41_29 : decode jdk_42_method_66_code 29 = .ok (.aload_n 2, 1) := by decide +kernel
theorem d41_30 : decode jdk_42_method_66_code 30 = .ok (.getfield 15, 3) := by decide +kernel
theorem d41_33 : decode jdk_42_method_66_code 33 = .ok (.if_icmp .ne 21, 3) := by decide +kernel
theorem d41_36 : decode jdk_42_method_66_code 36 = .ok (.aload_n 0, 1) := by decide +kernel
theorem d41_37 : decode jdk_42_method_66_code 37 = .ok (.getfield 9, 3) := by decide +kernel
theorem d41_40 : decode jdk_42_method_66_code 40 = .ok (.aload_n 2, 1) := by decide +kernel
theorem d41_41 : decode jdk_42_method_66_code 41 = .ok (.getfield 9, 3) := by decide +kernel
theorem d41_44 : decode jdk_42_method_66_code 44 = .ok (.invokestatic 541, 3) := by decide +kernel
theorem pd0 : parseMethodDescriptor "([B[B)Z" = some ⟨[(.array .byte), (.array .byte)], some .boolean⟩ := by decide +kernel
theorem d41_47 : decode jdk_42_method_66_code 47 = .ok (.ifCond .eq 7, 3) := by decide +kernel
theorem d41_50 : decode jdk_42_method_66_code 50 = .ok (.iconst 1, 1) := by decide +kernel
theorem d41_51 : decode jdk_42_method_66_code 51 = .ok (.goto 4, 3) := by decide +kernel
theorem d41_55 : decode jdk_42_method_66_code 55 = .ok (.ireturn, 1) := by decide +kernel
theorem d41_54 : decode jdk_42_method_66_code 54 = .ok (.iconst 0, 1) := by decide +kernel
abbrev Rm41 : Room := { frames := 1, cells := 0, slots := 0, locals := 14 }
theorem pn1 : plainName "java/lang/String" = true := by first | (simp [plainName, overriddenIn]; done) | decide +kernel
set_option maxRecDepth 65536 in
set_option maxHeartbeats 40000000 in
theorem rm41 (l : Launch) (Z : State) (a0 : Array Value) (hw : ∀ d ∈ tables_1, d.before a0 Z = true) (ws : List Jvm.Cond) (a1 : Addr) (a2 : Addr) (cs : Int32) (b1 b2 : Addr) (k1 k2 : ClassId) (N1 N2 : Nat) (g1 g2 : Nat → Int32) (h0 : Heap) (n0 : Nat) (Z0 : n0 ≤ h0.size) (O0 : Old Z n0 h0) (S_CS0 : Sta Z Z.heap "java/lang/String" "COMPACT_STRINGS" "Z" (.int cs)) (hcs : ¬ cs = 0) (E_a1 : Exa Z h0 a1 "java/lang/String") (Fv_a1 : Fld Z h0 a1 "java/lang/String" "value" "[B" (.ref b1)) (Fc_a1 : Fld Z h0 a1 "java/lang/String" "coder" "B" (.int (0 : Int32))) (V_b1 : Avf Z h0 b1 k1 .byte N1 (fun i => (.int (g1 i)))) (E_a2 : Exa Z h0 a2 "java/lang/String") (Fv_a2 : Fld Z h0 a2 "java/lang/String" "value" "[B" (.ref b2)) (Fc_a2 : Fld Z h0 a2 "java/lang/String" "coder" "B" (.int (0 : Int32))) (V_b2 : Avf Z h0 b2 k2 .byte N2 (fun i => (.int (g2 i)))) :
    Met l Z EL [] (fun _ _ _ => False) n0 (⟨"java/lang/String", "equals", "(Ljava/lang/Object;)Z"⟩ : MethodName) jdk_42_method_66_code 3 (some .boolean) ws Rm41 #[(.ref a1), (.ref a2)] h0 (fun v h => (((N1 = N2 ∧ ∀ i, i < N1 → g1 i = g2 i) ∧ v = some (.int 1)) ∨ (¬ (N1 = N2 ∧ ∀ i, i < N1 → g1 i = g2 i) ∧ v = some (.int 0))) ∧ h0 = h) := by
  refine enter (Ls := #[.val (.ref a1), .val (.ref a2), .unset]) (plainFor_of_name pn1) (fun m => by first | (simp [entryFrame, mkF, argsToLocals, Value.category]; done) | rfl) ?_
  intro p e s m below meth c T0 hx hby hml hown hnm hret hlk hZ X0
  have S_CS := S_CS0.ext O0.2
  show Go p.tables e below _ (T0.setTop (mkF m 0 #[.val (.ref a1), .val (.ref a2), .unset] []))
  refine Go.by (fun _ => XS.aloadN X0.here hx rfl (hb hby d41_0) rfl rfl) ?_
  show Go p.tables e below _ (T0.setTop (mkF m 1 #[.val (.ref a1), .val (.ref a2), .unset] [(.ref a1)]))
  refine Go.by (fun _ => XS.aloadN X0.here hx rfl (hb hby d41_1) rfl rfl) ?_
  show Go p.tables e below _ (T0.setTop (mkF m 2 #[.val (.ref a1), .val (.ref a2), .unset] [(.ref a2), (.ref a1)]))
  by_cases ha2_1 : a1 = a2
  · skip
    refine Go.by (X0.acmp (g := (mkF m 2 #[.val (.ref a1), .val (.ref a2), .unset] [(.ref a2), (.ref a1)])) hx rfl rfl rfl (pc0 := 2) (pc' := 5) (same := true) rfl (hb hby d41_2) rfl (decide_eq_true (congrArg Value.ref ha2_1)) (by decide) (by decide)) ?_
    show Go p.tables e below _ (T0.setTop (mkF m 5 #[.val (.ref a1), .val (.ref a2), .unset] []))
    refine Go.by (fun _ => XS.iconst X0.here hx rfl (hb hby d41_5)) ?_
    show Go p.tables e below _ (T0.setTop (mkF m 6 #[.val (.ref a1), .val (.ref a2), .unset] [(.int (1 : Int32))]))
    refine Go.retN X0 hx hlk (z' := (1 : Int32)) hret (by simp) (hb hby d41_6) rfl (by decide) (by decide) (fun _ z => z.elim) ?_
    subst ha2_1
    have eb : b1 = b2 := Value.ref.inj (fld_uniq Fv_a1 Fv_a2)
    subst eb
    obtain ⟨u1, u2⟩ := avf_uniq V_b1 V_b2
    exact ⟨Or.inl ⟨⟨u1, fun i hi => Value.int.inj (u2 i hi)⟩, rfl⟩, rfl⟩
  · skip
    refine Go.by (X0.acmp (g := (mkF m 2 #[.val (.ref a1), .val (.ref a2), .unset] [(.ref a2), (.ref a1)])) hx rfl rfl rfl (pc0 := 2) (pc' := 7) (same := false) rfl (hb hby d41_2) rfl (decide_eq_false fun q => ha2_1 (Value.ref.inj q)) (by decide) (by decide)) ?_
    show Go p.tables e below _ (T0.setTop (mkF m 7 #[.val (.ref a1), .val (.ref a2), .unset] []))
    refine Go.by (fun _ => XS.aloadN X0.here hx rfl (hb hby d41_7) rfl rfl) ?_
    show Go p.tables e below _ (T0.setTop (mkF m 8 #[.val (.ref a1), .val (.ref a2), .unset] [(.ref a2)]))
    obtain ⟨T2, X2, st2⟩ := X0.instY hx hZ hown (tw hw 221 rfl) (Ins.self E_a2) (g := (mkF m 8 #[.val (.ref a1), .val (.ref a2), .unset] [(.ref a2)])) rfl rfl (hb hby d41_8)
    refine Go.by st2 ?_
    show Go p.tables e below _ (T2.setTop (mkF m 11 #[.val (.ref a1), .val (.ref a2), .unset] [(.int (1 : Int32))]))
    refine Go.by (fun _ => XS.ifNo X2.here hx rfl (hb hby d41_11) rfl ((if0 _ _).trans (feq (by decide)).1)) ?_
    show Go p.tables e below _ (T2.setTop (mkF m 14 #[.val (.ref a1), .val (.ref a2), .unset] []))
    refine Go.by (fun _ => XS.aloadN X2.here hx rfl (hb hby d41_14) rfl rfl) ?_
    show Go p.tables e below _ (T2.setTop (mkF m 15 #[.val (.ref a1), .val (.ref a2), .unset] [(.ref a2)]))
    obtain ⟨T3, X3, st3⟩ := X2.castY hx hZ hown (tw hw 221 rfl) (Ins.self E_a2) (g := (mkF m 15 #[.val (.ref a1), .val (.ref a2), .unset] [(.ref a2)])) rfl rfl (hb hby d41_15)
    refine Go.by st3 ?_
    show Go p.tables e below _ (T3.setTop (mkF m 18 #[.val (.ref a1), .val (.ref a2), .unset] [(.ref a2)]))
    refine Go.by (fun _ => XS.astoreN X3.here hx rfl (hb hby d41_18) rfl rfl (l' := #[.val (.ref a1), .val (.ref a2), .val (.ref a2)]) rfl) ?_
    show Go p.tables e below _ (T3.setTop (mkF m 19 #[.val (.ref a1), .val (.ref a2), .val (.ref a2)] []))
    obtain ⟨T4, X4, st4⟩ := X3.getS hx hZ hown (host := "") (Or.inl (tw hw 22 rfl)) Via.refl S_CS (g := (mkF m 19 #[.val (.ref a1), .val (.ref a2), .val (.ref a2)] [])) rfl (hb hby d41_19)
    refine Go.by st4 ?_
    show Go p.tables e below _ (T4.setTop (mkF m 22 #[.val (.ref a1), .val (.ref a2), .val (.ref a2)] [(.int cs)]))
    refine Go.by (fun _ => XS.ifNo X4.here hx rfl (hb hby d41_22) rfl ((if0 _ _).trans (feq hcs).1)) ?_
    show Go p.tables e below _ (T4.setTop (mkF m 25 #[.val (.ref a1), .val (.ref a2), .val (.ref a2)] []))
    refine Go.by (fun _ => XS.aloadN X4.here hx rfl (hb hby d41_25) rfl rfl) ?_
    show Go p.tables e below _ (T4.setTop (mkF m 26 #[.val (.ref a1), .val (.ref a2), .val (.ref a2)] [(.ref a1)]))
    obtain ⟨T5, X5, st5⟩ := X4.getF hx hZ hown (host := "") (Or.inl (tw hw 34 rfl)) Via.refl Fc_a1 (g := (mkF m 26 #[.val (.ref a1), .val (.ref a2), .val (.ref a2)] [(.ref a1)])) rfl rfl (hb hby d41_26)
    refine Go.by st5 ?_
    show Go p.tables e below _ (T5.setTop (mkF m 29 #[.val (.ref a1), .val (.ref a2), .val (.ref a2)] [(.int (0 : Int32))]))
    refine Go.by (fun _ => XS.aloadN X5.here hx rfl (hb hby d41_29) rfl rfl) ?_
    show Go p.tables e below _ (T5.setTop (mkF m 30 #[.val (.ref a1), .val (.ref a2), .val (.ref a2)] [(.ref a2), (.int (0 : Int32))]))
    obtain ⟨T6, X6, st6⟩ := X5.getF hx hZ hown (host := "") (Or.inl (tw hw 34 rfl)) Via.refl Fc_a2 (g := (mkF m 30 #[.val (.ref a1), .val (.ref a2), .val (.ref a2)] [(.ref a2), (.int (0 : Int32))])) rfl rfl (hb hby d41_30)
    refine Go.by st6 ?_
    show Go p.tables e below _ (T6.setTop (mkF m 33 #[.val (.ref a1), .val (.ref a2), .val (.ref a2)] [(.int (0 : Int32)), (.int (0 : Int32))]))
    refine Go.by (fun _ => XS.icmpNo X6.here hx rfl (hb hby d41_33) rfl (teq (by decide)).2) ?_
    show Go p.tables e below _ (T6.setTop (mkF m 36 #[.val (.ref a1), .val (.ref a2), .val (.ref a2)] []))
    refine Go.by (fun _ => XS.aloadN X6.here hx rfl (hb hby d41_36) rfl rfl) ?_
    show Go p.tables e below _ (T6.setTop (mkF m 37 #[.val (.ref a1), .val (.ref a2), .val (.ref a2)] [(.ref a1)]))
    obtain ⟨T7, X7, st7⟩ := X6.getF hx hZ hown (host := "") (Or.inl (tw hw 36 rfl)) Via.refl Fv_a1 (g := (mkF m 37 #[.val (.ref a1), .val (.ref a2), .val (.ref a2)] [(.ref a1)])) rfl rfl (hb hby d41_37)
    refine Go.by st7 ?_
    show Go p.tables e below _ (T7.setTop (mkF m 40 #[.val (.ref a1), .val (.ref a2), .val (.ref a2)] [(.ref b1)]))
    refine Go.by (fun _ => XS.aloadN X7.here hx rfl (hb hby d41_40) rfl rfl) ?_
    show Go p.tables e below _ (T7.setTop (mkF m 41 #[.val (.ref a1), .val (.ref a2), .val (.ref a2)] [(.ref a2), (.ref b1)]))
    obtain ⟨T8, X8, st8⟩ := X7.getF hx hZ hown (host := "") (Or.inl (tw hw 36 rfl)) Via.refl Fv_a2 (g := (mkF m 41 #[.val (.ref a1), .val (.ref a2), .val (.ref a2)] [(.ref a2), (.ref b1)])) rfl rfl (hb hby d41_41)
    refine Go.by st8 ?_
    show Go p.tables e below _ (T8.setTop (mkF m 44 #[.val (.ref a1), .val (.ref a2), .val (.ref a2)] [(.ref b2), (.ref b1)]))
    obtain ⟨v9, T9, h9, X9, q9, xs9, st9⟩ := X8.callS hx hZ f0n (y := (⟨"java/lang/StringLatin1", "equals", "([B[B)Z"⟩ : MethodName)) hown (tw hw 222 rfl) (tw hw 223 rfl) (tw hw 72 rfl) (tw hw 224 rfl) (by decide) (rm42 l Z a0 hw [] b1 b2 k1 k2 N1 N2 g1 g2 h0 n0 Z0 V_b1 V_b2) (g := (mkF m 44 #[.val (.ref a1), .val (.ref a2), .val (.ref a2)] [(.ref b2), (.ref b1)])) rfl (by rw [hml]; rfl) (argsL := [(.ref b1), (.ref b2)]) (rest := []) (lenOf pd0 rfl) rfl (hb hby d41_44) rfl (by decide) (Nat.le_of_ble_eq_true rfl) (k' := 0) (n' := 0) rfl rfl (by decide) (by decide)
    refine Go.by st9 ?_
    rcases q9 with ⟨⟨hq9, rfl⟩ | ⟨hq9, rfl⟩, rfl⟩
    · skip
      show Go p.tables e below _ (T9.setTop (mkF m 47 #[.val (.ref a1), .val (.ref a2), .val (.ref a2)] [(.int (1 : Int32))]))
      refine Go.by (fun _ => XS.ifNo X9.here hx rfl (hb hby d41_47) rfl ((if0 _ _).trans (feq (by decide)).1)) ?_
      show Go p.tables e below _ (T9.setTop (mkF m 50 #[.val (.ref a1), .val (.ref a2), .val (.ref a2)] []))
      refine Go.by (fun _ => XS.iconst X9.here hx rfl (hb hby d41_50)) ?_
      show Go p.tables e below _ (T9.setTop (mkF m 51 #[.val (.ref a1), .val (.ref a2), .val (.ref a2)] [(.int (1 : Int32))]))
      refine Go.by (fun _ => XS.goto X9.here hx rfl (pc0 := 51) (pc' := 55) rfl (hb hby d41_51) (by decide) (by decide)) ?_
      show Go p.tables e below _ (T9.setTop (mkF m 55 #[.val (.ref a1), .val (.ref a2), .val (.ref a2)] [(.int (1 : Int32))]))
      exact Go.retN X9 hx hlk (z' := (1 : Int32)) hret (by simp) (hb hby d41_55) rfl (by decide) (by decide) (fun _ z => z.elim) ⟨Or.inl ⟨hq9, rfl⟩, rfl⟩
    · skip
      show Go p.tables e below _ (T9.setTop (mkF m 47 #[.val (.ref a1), .val (.ref a2), .val (.ref a2)] [(.int (0 : Int32))]))
      refine Go.by (fun _ => XS.ifYes X9.here hx rfl (pc0 := 47) (pc' := 54) rfl (hb hby d41_47) rfl ((if0 _ _).trans (teq (by decide)).1) (by decide) (by decide)) ?_
      show Go p.tables e below _ (T9.setTop (mkF m 54 #[.val (.ref a1), .val (.ref a2), .val (.ref a2)] []))
      refine Go.by (fun _ => XS.iconst X9.here hx rfl (hb hby d41_54)) ?_
      show Go p.tables e below _ (T9.setTop (mkF m 55 #[.val (.ref a1), .val (.ref a2), .val (.ref a2)] [(.int (0 : Int32))]))
      exact Go.retN X9 hx hlk (z' := (0 : Int32)) hret (by simp) (hb hby d41_55) rfl (by decide) (by decide) (fun _ z => z.elim) ⟨Or.inr ⟨hq9, rfl⟩, rfl⟩
theorem d6_0 : decode jdk_52_method_21_code 0 = .ok (.iconst 0, 1) := by decide +kernel
theorem d6_1 : decode jdk_52_method_21_code 1 = .ok (.istore 5, 2) := by decide +kernel
theorem d6_3 : decode jdk_52_method_21_code 3 = .ok (.iload 5, 2) := by decide +kernel
theorem d6_5 : decode jdk_52_method_21_code 5 = .ok (.iload 4, 2) := by decide +kernel
theorem d6_7 : decode jdk_52_method_21_code 7 = .ok (.if_icmp .ge 37, 3) := by decide +kernel
theorem d6_44 : decode jdk_52_method_21_code 44 = .ok (.iload 4, 2) := by decide +kernel
theorem d6_46 : decode jdk_52_method_21_code 46 = .ok (.ireturn, 1) := by decide +kernel
theorem d6_10 : decode jdk_52_method_21_code 10 = .ok (.aload_n 0, 1) := by decide +kernel
theorem d6_11 : decode jdk_52_method_21_code 11 = .ok (.iload_n 1, 1) := by decide +kernel
theorem d6_12 : decode jdk_52_method_21_code 12 = .ok (.caload, 1) := by decide +kernel
theorem d6_13 : decode jdk_52_method_21_code 13 = .ok (.istore 6, 2) := by decide +kernel
theorem d6_15 : decode jdk_52_method_21_code 15 = .ok (.iload 6, 2) := by decide +kernel
theorem d6_17 : decode jdk_52_method_21_code 17 = .ok (.sipush 255, 3) := by decide +kernel
theorem d6_20 : decode jdk_52_method_21_code 20 = .ok (.if_icmp .le 6, 3) := by decide +kernel
theorem d6_26 : decode jdk_52_method_21_code 26 = .ok (.aload_n 2, 1) := by decide +kernel
theorem d6_27 : decode jdk_52_method_21_code 27 = .ok (.iload_n 3, 1) := by decide +kernel
theorem d6_28 : decode jdk_52_method_21_code 28 = .ok (.iload 6, 2) := by decide +kernel
theorem d6_30 : decode jdk_52_method_21_code 30 = .ok (.i2b, 1) := by decide +kernel
theorem d6_31 : decode jdk_52_method_21_code 31 = .ok (.bastore, 1) := by decide +kernel
theorem d6_32 : decode jdk_52_method_21_code 32 = .ok (.iinc 1 1, 3) := by decide +kernel
theorem d6_35 : decode jdk_52_method_21_code 35 = .ok (.iinc 3 1, 3) := by decide +kernel
theorem d6_38 : decode jdk_52_method_21_code 38 = .ok (.iinc 5 1, 3) := by decide +kernel
theorem d6_41 : decode jdk_52_method_21_code 41 = .ok (.goto (-38), 3) := by decide +kernel
abbrev RmP : Room := { frames := 0, cells := 0, slots := 0, locals := 0 }
theorem pn2 : plainName "java/lang/StringUTF16" = true := by first | (simp [plainName, overriddenIn]; done) | decide +kernel
set_option maxRecDepth 65536 in
set_option maxHeartbeats 40000000 in
theorem rmP (l : Launch) (Z : State) (a0 : Array Value) (hw : ∀ d ∈ tables_1, d.before a0 Z = true) (ws : List Jvm.Cond) (a1 : Addr) (a3 : Addr) (k1 k3 : ClassId) (N : Nat) (cf : Nat → Int32) (f3 : Nat → Value) (h0 : Heap) (n0 : Nat) (Z0 : n0 ≤ h0.size) (V_a1 : Avf Z h0 a1 k1 .char N (fun i => (.int (cf i)))) (V_a3 : Avf Z h0 a3 k3 .byte N f3) (g_a3 : n0 ≤ a3) (hc : ∀ i, i < N → ¬ (255 : Int32) < cf i) :
    Met l Z EL [a3] (fun _ _ _ => False) n0 (⟨"java/lang/StringUTF16", "compress", "([CI[BII)I"⟩ : MethodName) jdk_52_method_21_code 7 (some .int) ws RmP #[(.ref a1), (.int (0 : Int32)), (.ref a3), (.int (0 : Int32)), (.int (N.toInt32))] h0 (fun v h => v = some (.int N.toInt32) ∧ Keep h0 h [a3] ∧ Avf Z h a3 k3 .byte N (fun i => (.int ((fun j => (cf j).toInt8.toInt32) i)))) := by
  refine enter (Ls := #[.val (.ref a1), .val (.int (0 : Int32)), .val (.ref a3), .val (.int (0 : Int32)), .val (.int (N.toInt32)), .unset, .unset]) (plainFor_of_name pn2) (fun m => by first | (simp [entryFrame, mkF, argsToLocals, Value.category]; done) | rfl) ?_
  intro p e s m below meth c T0 hx hby hml hown hnm hret hlk hZ X0
  have ne13 : a1 ≠ a3 := avf_ne V_a1 V_a3 (by decide)
  have K0 := Keep.refl h0 [a3]
  show Go p.tables e below _ (T0.setTop (mkF m 0 #[.val (.ref a1), .val (.int (0 : Int32)), .val (.ref a3), .val (.int (0 : Int32)), .val (.int (N.toInt32)), .unset, .unset] []))
  refine Go.by (fun _ => XS.iconst X0.here hx rfl (hb hby d6_0)) ?_
  show Go p.tables e below _ (T0.setTop (mkF m 1 #[.val (.ref a1), .val (.int (0 : Int32)), .val (.ref a3), .val (.int (0 : Int32)), .val (.int (N.toInt32)), .unset, .unset] [(.int (0 : Int32))]))
  refine Go.by (fun _ => XS.istore X0.here hx rfl (hb hby d6_1) rfl (l' := #[.val (.ref a1), .val (.int (0 : Int32)), .val (.ref a3), .val (.int (0 : Int32)), .val (.int (N.toInt32)), .val (.int (0 : Int32)), .unset]) rfl) ?_
  show Go p.tables e below _ (T0.setTop (mkF m 3 #[.val (.ref a1), .val (.int (0 : Int32)), .val (.ref a3), .val (.int (0 : Int32)), .val (.int (N.toInt32)), .val (.int (0 : Int32)), .unset] []))
  have hN := avf_sz V_a1
  have J : ∀ (kk i : Nat) (x6 : Slot), i + kk = N → (x6 = .unset ∨ ∃ z, x6 = .val (.int z)) → ∀ (Tj : State) (hj : Heap), Sd Z EL [a3] n0 p l e RmP s m #[(.ref a1), (.int (0 : Int32)), (.ref a3), (.int (0 : Int32)), (.int (N.toInt32))] below meth c Tj hj 0 0 → n0 ≤ hj.size → Keep h0 hj [a3] → Avf Z hj a1 k1 .char N (fun i => (.int (cf i))) → Avf Z hj a3 k3 .byte N (fun t => if t < i then (.int ((fun j => (cf j).toInt8.toInt32) t)) else f3 t) → Go p.tables e below (Ret Z EL (fun _ _ _ => False) s n0 (fun v h => v = some (.int N.toInt32) ∧ Keep h0 h [a3] ∧ Avf Z h a3 k3 .byte N (fun i => (.int ((fun j => (cf j).toInt8.toInt32) i)))) RmP.cells RmP.slots) (Tj.setTop (mkF m 3 #[.val (.ref a1), .val (.int (Int32.ofNat i)), .val (.ref a3), .val (.int (Int32.ofNat i)), .val (.int (N.toInt32)), .val (.int (Int32.ofNat i)), x6] [])) := by
    intro kk
    induction kk with
    | zero =>
      intro i x6 hi hx6 Tj hj Xj Zj Kj Vj1 Vj3
      have hi : i = N := hi
      have hg : ¬ Int32.ofNat i < N.toInt32 := i32_nlt (by omega) (by omega)
      refine Go.by (fun _ => XS.iload Xj.here hx rfl (hb hby d6_3) rfl) ?_
      show Go p.tables e below _ (Tj.setTop (mkF m 5 #[.val (.ref a1), .val (.int (Int32.ofNat i)), .val (.ref a3), .val (.int (Int32.ofNat i)), .val (.int (N.toInt32)), .val (.int (Int32.ofNat i)), x6] [(.int (Int32.ofNat i))]))
      refine Go.by (fun _ => XS.iload Xj.here hx rfl (hb hby d6_5) rfl) ?_
      show Go p.tables e below _ (Tj.setTop (mkF m 7 #[.val (.ref a1), .val (.int (Int32.ofNat i)), .val (.ref a3), .val (.int (Int32.ofNat i)), .val (.int (N.toInt32)), .val (.int (Int32.ofNat i)), x6] [(.int (N.toInt32)), (.int (Int32.ofNat i))]))
      refine Go.by (fun _ => XS.icmpYes Xj.here hx rfl (pc0 := 7) (pc' := 44) rfl (hb hby d6_7) rfl (flt hg).2.1 (by decide) (by decide)) ?_
      show Go p.tables e below _ (Tj.setTop (mkF m 44 #[.val (.ref a1), .val (.int (Int32.ofNat i)), .val (.ref a3), .val (.int (Int32.ofNat i)), .val (.int (N.toInt32)), .val (.int (Int32.ofNat i)), x6] []))
      refine Go.by (fun _ => XS.iload Xj.here hx rfl (hb hby d6_44) rfl) ?_
      show Go p.tables e below _ (Tj.setTop (mkF m 46 #[.val (.ref a1), .val (.int (Int32.ofNat i)), .val (.ref a3), .val (.int (Int32.ofNat i)), .val (.int (N.toInt32)), .val (.int (Int32.ofNat i)), x6] [(.int (N.toInt32))]))
      exact Go.retI Xj hx hlk hret (hb hby d6_46) (by decide) (by decide) (fun _ z => z.elim) ⟨rfl, Kj, Avf.cong Vj3 (fun t ht => if_pos (by omega))⟩
    | succ kk ih =>
      intro i x6 hi hx6 Tj hj Xj Zj Kj Vj1 Vj3
      have hlt : i < N := by omega
      have hg : Int32.ofNat i < N.toInt32 := i32_lt hlt hN
      rcases hx6 with rfl | ⟨z6, rfl⟩
      · skip
        refine Go.by (fun _ => XS.iload Xj.here hx rfl (hb hby d6_3) rfl) ?_
        show Go p.tables e below _ (Tj.setTop (mkF m 5 #[.val (.ref a1), .val (.int (Int32.ofNat i)), .val (.ref a3), .val (.int (Int32.ofNat i)), .val (.int (N.toInt32)), .val (.int (Int32.ofNat i)), .unset] [(.int (Int32.ofNat i))]))
        refine Go.by (fun _ => XS.iload Xj.here hx rfl (hb hby d6_5) rfl) ?_
        show Go p.tables e below _ (Tj.setTop (mkF m 7 #[.val (.ref a1), .val (.int (Int32.ofNat i)), .val (.ref a3), .val (.int (Int32.ofNat i)), .val (.int (N.toInt32)), .val (.int (Int32.ofNat i)), .unset] [(.int (N.toInt32)), (.int (Int32.ofNat i))]))
        refine Go.by (fun _ => XS.icmpNo Xj.here hx rfl (hb hby d6_7) rfl (tlt hg).2.1) ?_
        show Go p.tables e below _ (Tj.setTop (mkF m 10 #[.val (.ref a1), .val (.int (Int32.ofNat i)), .val (.ref a3), .val (.int (Int32.ofNat i)), .val (.int (N.toInt32)), .val (.int (Int32.ofNat i)), .unset] []))
        refine Go.by (fun _ => XS.aloadN Xj.here hx rfl (hb hby d6_10) rfl rfl) ?_
        show Go p.tables e below _ (Tj.setTop (mkF m 11 #[.val (.ref a1), .val (.int (Int32.ofNat i)), .val (.ref a3), .val (.int (Int32.ofNat i)), .val (.int (N.toInt32)), .val (.int (Int32.ofNat i)), .unset] [(.ref a1)]))
        refine Go.by (fun _ => XS.iloadN Xj.here hx rfl (hb hby d6_11) rfl) ?_
        show Go p.tables e below _ (Tj.setTop (mkF m 12 #[.val (.ref a1), .val (.int (Int32.ofNat i)), .val (.ref a3), .val (.int (Int32.ofNat i)), .val (.int (N.toInt32)), .val (.int (Int32.ofNat i)), .unset] [(.int (Int32.ofNat i)), (.ref a1)]))
        refine Go.by (Xj.ldC hx hZ Vj1 (i32_nneg (by omega)) (i := i) (i32_nat (by omega)) (by omega) (v := (.int (cf i))) rfl (g := (mkF m 12 #[.val (.ref a1), .val (.int (Int32.ofNat i)), .val (.ref a3), .val (.int (Int32.ofNat i)), .val (.int (N.toInt32)), .val (.int (Int32.ofNat i)), .unset] [(.int (Int32.ofNat i)), (.ref a1)])) rfl rfl (hb hby d6_12)) ?_
        show Go p.tables e below _ (Tj.setTop (mkF m 13 #[.val (.ref a1), .val (.int (Int32.ofNat i)), .val (.ref a3), .val (.int (Int32.ofNat i)), .val (.int (N.toInt32)), .val (.int (Int32.ofNat i)), .unset] [(.int (cf i))]))
        refine Go.by (fun _ => XS.istore Xj.here hx rfl (hb hby d6_13) rfl (l' := #[.val (.ref a1), .val (.int (Int32.ofNat i)), .val (.ref a3), .val (.int (Int32.ofNat i)), .val (.int (N.toInt32)), .val (.int (Int32.ofNat i)), .val (.int (cf i))]) rfl) ?_
        show Go p.tables e below _ (Tj.setTop (mkF m 15 #[.val (.ref a1), .val (.int (Int32.ofNat i)), .val (.ref a3), .val (.int (Int32.ofNat i)), .val (.int (N.toInt32)), .val (.int (Int32.ofNat i)), .val (.int (cf i))] []))
        refine Go.by (fun _ => XS.iload Xj.here hx rfl (hb hby d6_15) rfl) ?_
        show Go p.tables e below _ (Tj.setTop (mkF m 17 #[.val (.ref a1), .val (.int (Int32.ofNat i)), .val (.ref a3), .val (.int (Int32.ofNat i)), .val (.int (N.toInt32)), .val (.int (Int32.ofNat i)), .val (.int (cf i))] [(.int (cf i))]))
        refine Go.by (fun _ => XS.sipush Xj.here hx rfl (hb hby d6_17)) ?_
        show Go p.tables e below _ (Tj.setTop (mkF m 20 #[.val (.ref a1), .val (.int (Int32.ofNat i)), .val (.ref a3), .val (.int (Int32.ofNat i)), .val (.int (N.toInt32)), .val (.int (Int32.ofNat i)), .val (.int (cf i))] [(.int (255 : Int32)), (.int (cf i))]))
        refine Go.by (fun _ => XS.icmpYes Xj.here hx rfl (pc0 := 20) (pc' := 26) rfl (hb hby d6_20) rfl (flt ((hc i hlt))).2.2.2 (by decide) (by decide)) ?_
        show Go p.tables e below _ (Tj.setTop (mkF m 26 #[.val (.ref a1), .val (.int (Int32.ofNat i)), .val (.ref a3), .val (.int (Int32.ofNat i)), .val (.int (N.toInt32)), .val (.int (Int32.ofNat i)), .val (.int (cf i))] []))
        refine Go.by (fun _ => XS.aloadN Xj.here hx rfl (hb hby d6_26) rfl rfl) ?_
        show Go p.tables e below _ (Tj.setTop (mkF m 27 #[.val (.ref a1), .val (.int (Int32.ofNat i)), .val (.ref a3), .val (.int (Int32.ofNat i)), .val (.int (N.toInt32)), .val (.int (Int32.ofNat i)), .val (.int (cf i))] [(.ref a3)]))
        refine Go.by (fun _ => XS.iloadN Xj.here hx rfl (hb hby d6_27) rfl) ?_
        show Go p.tables e below _ (Tj.setTop (mkF m 28 #[.val (.ref a1), .val (.int (Int32.ofNat i)), .val (.ref a3), .val (.int (Int32.ofNat i)), .val (.int (N.toInt32)), .val (.int (Int32.ofNat i)), .val (.int (cf i))] [(.int (Int32.ofNat i)), (.ref a3)]))
        refine Go.by (fun _ => XS.iload Xj.here hx rfl (hb hby d6_28) rfl) ?_
        show Go p.tables e below _ (Tj.setTop (mkF m 30 #[.val (.ref a1), .val (.int (Int32.ofNat i)), .val (.ref a3), .val (.int (Int32.ofNat i)), .val (.int (N.toInt32)), .val (.int (Int32.ofNat i)), .val (.int (cf i))] [(.int (cf i)), (.int (Int32.ofNat i)), (.ref a3)]))
        refine Go.by (fun _ => XS.i2b Xj.here hx rfl (hb hby d6_30) rfl) ?_
        show Go p.tables e below _ (Tj.setTop (mkF m 31 #[.val (.ref a1), .val (.int (Int32.ofNat i)), .val (.ref a3), .val (.int (Int32.ofNat i)), .val (.int (N.toInt32)), .val (.int (Int32.ofNat i)), .val (.int (cf i))] [(.int ((cf i).toInt8.toInt32)), (.int (Int32.ofNat i)), (.ref a3)]))
        obtain ⟨T1, h1, X1, W1, V1, st1⟩ := Xj.stB hx hZ Vj3 g_a3 (List.mem_cons_self ..) (i32_nneg (by omega)) (i := i) (i32_nat (by omega)) (by omega) (g := (mkF m 31 #[.val (.ref a1), .val (.int (Int32.ofNat i)), .val (.ref a3), .val (.int (Int32.ofNat i)), .val (.int (N.toInt32)), .val (.int (Int32.ofNat i)), .val (.int (cf i))] [(.int ((cf i).toInt8.toInt32)), (.int (Int32.ofNat i)), (.ref a3)])) rfl rfl (hb hby d6_31)
        have f2_59 := Avf.other Vj1 W1 ne13
        have f2_60 := Kj.wr W1 (Or.inl (List.mem_of_getElem? (i := 0) rfl))
        have Zs2 : n0 ≤ h1.size := by rw [W1.size]; exact Zj
        refine Go.by st1 ?_
        show Go p.tables e below _ (T1.setTop (mkF m 32 #[.val (.ref a1), .val (.int (Int32.ofNat i)), .val (.ref a3), .val (.int (Int32.ofNat i)), .val (.int (N.toInt32)), .val (.int (Int32.ofNat i)), .val (.int (cf i))] []))
        refine Go.by (fun _ => XS.iinc X1.here hx rfl (hb hby d6_32) rfl (l' := #[.val (.ref a1), .val (.int ((Int32.ofNat i) + (1 : Int32))), .val (.ref a3), .val (.int (Int32.ofNat i)), .val (.int (N.toInt32)), .val (.int (Int32.ofNat i)), .val (.int (cf i))]) rfl) ?_
        show Go p.tables e below _ (T1.setTop (mkF m 35 #[.val (.ref a1), .val (.int ((Int32.ofNat i) + (1 : Int32))), .val (.ref a3), .val (.int (Int32.ofNat i)), .val (.int (N.toInt32)), .val (.int (Int32.ofNat i)), .val (.int (cf i))] []))
        refine Go.by (fun _ => XS.iinc X1.here hx rfl (hb hby d6_35) rfl (l' := #[.val (.ref a1), .val (.int ((Int32.ofNat i) + (1 : Int32))), .val (.ref a3), .val (.int ((Int32.ofNat i) + (1 : Int32))), .val (.int (N.toInt32)), .val (.int (Int32.ofNat i)), .val (.int (cf i))]) rfl) ?_
        show Go p.tables e below _ (T1.setTop (mkF m 38 #[.val (.ref a1), .val (.int ((Int32.ofNat i) + (1 : Int32))), .val (.ref a3), .val (.int ((Int32.ofNat i) + (1 : Int32))), .val (.int (N.toInt32)), .val (.int (Int32.ofNat i)), .val (.int (cf i))] []))
        refine Go.by (fun _ => XS.iinc X1.here hx rfl (hb hby d6_38) rfl (l' := #[.val (.ref a1), .val (.int ((Int32.ofNat i) + (1 : Int32))), .val (.ref a3), .val (.int ((Int32.ofNat i) + (1 : Int32))), .val (.int (N.toInt32)), .val (.int ((Int32.ofNat i) + (1 : Int32))), .val (.int (cf i))]) rfl) ?_
        show Go p.tables e below _ (T1.setTop (mkF m 41 #[.val (.ref a1), .val (.int ((Int32.ofNat i) + (1 : Int32))), .val (.ref a3), .val (.int ((Int32.ofNat i) + (1 : Int32))), .val (.int (N.toInt32)), .val (.int ((Int32.ofNat i) + (1 : Int32))), .val (.int (cf i))] []))
        refine Go.by (fun _ => XS.goto X1.here hx rfl (pc0 := 41) (pc' := 3) rfl (hb hby d6_41) (by decide) (by decide)) ?_
        show Go p.tables e below _ (T1.setTop (mkF m 3 #[.val (.ref a1), .val (.int ((Int32.ofNat i) + (1 : Int32))), .val (.ref a3), .val (.int ((Int32.ofNat i) + (1 : Int32))), .val (.int (N.toInt32)), .val (.int ((Int32.ofNat i) + (1 : Int32))), .val (.int (cf i))] []))
        rw [i32_succ]
        refine ih (i + 1) _ (by omega) (Or.inr ⟨_, rfl⟩) _ _ X1 Zs2 f2_60 f2_59 (Avf.cong V1 (fun t ht => ?_))
        dsimp only
        by_cases q : t = i
        · subst q; rw [if_pos rfl, if_pos (Nat.lt_succ_self _)]; simp
        · rw [if_neg q]
          by_cases q2 : t < i
          · rw [if_pos q2, if_pos (by omega)]
          · rw [if_neg q2, if_neg (by omega)]
      · skip
        refine Go.by (fun _ => XS.iload Xj.here hx rfl (hb hby d6_3) rfl) ?_
        show Go p.tables e below _ (Tj.setTop (mkF m 5 #[.val (.ref a1), .val (.int (Int32.ofNat i)), .val (.ref a3), .val (.int (Int32.ofNat i)), .val (.int (N.toInt32)), .val (.int (Int32.ofNat i)), .val (.int z6)] [(.int (Int32.ofNat i))]))
        refine Go.by (fun _ => XS.iload Xj.here hx rfl (hb hby d6_5) rfl) ?_
        show Go p.tables e below _ (Tj.setTop (mkF m 7 #[.val (.ref a1), .val (.int (Int32.ofNat i)), .val (.ref a3), .val (.int (Int32.ofNat i)), .val (.int (N.toInt32)), .val (.int (Int32.ofNat i)), .val (.int z6)] [(.int (N.toInt32)), (.int (Int32.ofNat i))]))
        refine Go.by (fun _ => XS.icmpNo Xj.here hx rfl (hb hby d6_7) rfl (tlt hg).2.1) ?_
        show Go p.tables e below _ (Tj.setTop (mkF m 10 #[.val (.ref a1), .val (.int (Int32.ofNat i)), .val (.ref a3), .val (.int (Int32.ofNat i)), .val (.int (N.toInt32)), .val (.int (Int32.ofNat i)), .val (.int z6)] []))
        refine Go.by (fun _ => XS.aloadN Xj.here hx rfl (hb hby d6_10) rfl rfl) ?_
        show Go p.tables e below _ (Tj.setTop (mkF m 11 #[.val (.ref a1), .val (.int (Int32.ofNat i)), .val (.ref a3), .val (.int (Int32.ofNat i)), .val (.int (N.toInt32)), .val (.int (Int32.ofNat i)), .val (.int z6)] [(.ref a1)]))
        refine Go.by (fun _ => XS.iloadN Xj.here hx rfl (hb hby d6_11) rfl) ?_
        show Go p.tables e below _ (Tj.setTop (mkF m 12 #[.val (.ref a1), .val (.int (Int32.ofNat i)), .val (.ref a3), .val (.int (Int32.ofNat i)), .val (.int (N.toInt32)), .val (.int (Int32.ofNat i)), .val (.int z6)] [(.int (Int32.ofNat i)), (.ref a1)]))
        refine Go.by (Xj.ldC hx hZ Vj1 (i32_nneg (by omega)) (i := i) (i32_nat (by omega)) (by omega) (v := (.int (cf i))) rfl (g := (mkF m 12 #[.val (.ref a1), .val (.int (Int32.ofNat i)), .val (.ref a3), .val (.int (Int32.ofNat i)), .val (.int (N.toInt32)), .val (.int (Int32.ofNat i)), .val (.int z6)] [(.int (Int32.ofNat i)), (.ref a1)])) rfl rfl (hb hby d6_12)) ?_
        show Go p.tables e below _ (Tj.setTop (mkF m 13 #[.val (.ref a1), .val (.int (Int32.ofNat i)), .val (.ref a3), .val (.int (Int32.ofNat i)), .val (.int (N.toInt32)), .val (.int (Int32.ofNat i)), .val (.int z6)] [(.int (cf i))]))
        refine Go.by (fun _ => XS.istore Xj.here hx rfl (hb hby d6_13) rfl (l' := #[.val (.ref a1), .val (.int (Int32.ofNat i)), .val (.ref a3), .val (.int (Int32.ofNat i)), .val (.int (N.toInt32)), .val (.int (Int32.ofNat i)), .val (.int (cf i))]) rfl) ?_
        show Go p.tables e below _ (Tj.setTop (mkF m 15 #[.val (.ref a1), .val (.int (Int32.ofNat i)), .val (.ref a3), .val (.int (Int32.ofNat i)), .val (.int (N.toInt32)), .val (.int (Int32.ofNat i)), .val (.int (cf i))] []))
        refine Go.by (fun _ => XS.iload Xj.here hx rfl (hb hby d6_15) rfl) ?_
        show Go p.tables e below _ (Tj.setTop (mkF m 17 #[.val (.ref a1), .val (.int (Int32.ofNat i)), .val (.ref a3), .val (.int (Int32.ofNat i)), .val (.int (N.toInt32)), .val (.int (Int32.ofNat i)), .val (.int (cf i))] [(.int (cf i))]))
        refine Go.by (fun _ => XS.sipush Xj.here hx rfl (hb hby d6_17)) ?_
        show Go p.tables e below _ (Tj.setTop (mkF m 20 #[.val (.ref a1), .val (.int (Int32.ofNat i)), .val (.ref a3), .val (.int (Int32.ofNat i)), .val (.int (N.toInt32)), .val (.int (Int32.ofNat i)), .val (.int (cf i))] [(.int (255 : Int32)), (.int (cf i))]))
        refine Go.by (fun _ => XS.icmpYes Xj.here hx rfl (pc0 := 20) (pc' := 26) rfl (hb hby d6_20) rfl (flt ((hc i hlt))).2.2.2 (by decide) (by decide)) ?_
        show Go p.tables e below _ (Tj.setTop (mkF m 26 #[.val (.ref a1), .val (.int (Int32.ofNat i)), .val (.ref a3), .val (.int (Int32.ofNat i)), .val (.int (N.toInt32)), .val (.int (Int32.ofNat i)), .val (.int (cf i))] []))
        refine Go.by (fun _ => XS.aloadN Xj.here hx rfl (hb hby d6_26) rfl rfl) ?_
        show Go p.tables e below _ (Tj.setTop (mkF m 27 #[.val (.ref a1), .val (.int (Int32.ofNat i)), .val (.ref a3), .val (.int (Int32.ofNat i)), .val (.int (N.toInt32)), .val (.int (Int32.ofNat i)), .val (.int (cf i))] [(.ref a3)]))
        refine Go.by (fun _ => XS.iloadN Xj.here hx rfl (hb hby d6_27) rfl) ?_
        show Go p.tables e below _ (Tj.setTop (mkF m 28 #[.val (.ref a1), .val (.int (Int32.ofNat i)), .val (.ref a3), .val (.int (Int32.ofNat i)), .val (.int (N.toInt32)), .val (.int (Int32.ofNat i)), .val (.int (cf i))] [(.int (Int32.ofNat i)), (.ref a3)]))
        refine Go.by (fun _ => XS.iload Xj.here hx rfl (hb hby d6_28) rfl) ?_
        show Go p.tables e below _ (Tj.setTop (mkF m 30 #[.val (.ref a1), .val (.int (Int32.ofNat i)), .val (.ref a3), .val (.int (Int32.ofNat i)), .val (.int (N.toInt32)), .val (.int (Int32.ofNat i)), .val (.int (cf i))] [(.int (cf i)), (.int (Int32.ofNat i)), (.ref a3)]))
        refine Go.by (fun _ => XS.i2b Xj.here hx rfl (hb hby d6_30) rfl) ?_
        show Go p.tables e below _ (Tj.setTop (mkF m 31 #[.val (.ref a1), .val (.int (Int32.ofNat i)), .val (.ref a3), .val (.int (Int32.ofNat i)), .val (.int (N.toInt32)), .val (.int (Int32.ofNat i)), .val (.int (cf i))] [(.int ((cf i).toInt8.toInt32)), (.int (Int32.ofNat i)), (.ref a3)]))
        obtain ⟨T3, h3, X3, W3, V3, st3⟩ := Xj.stB hx hZ Vj3 g_a3 (List.mem_cons_self ..) (i32_nneg (by omega)) (i := i) (i32_nat (by omega)) (by omega) (g := (mkF m 31 #[.val (.ref a1), .val (.int (Int32.ofNat i)), .val (.ref a3), .val (.int (Int32.ofNat i)), .val (.int (N.toInt32)), .val (.int (Int32.ofNat i)), .val (.int (cf i))] [(.int ((cf i).toInt8.toInt32)), (.int (Int32.ofNat i)), (.ref a3)])) rfl rfl (hb hby d6_31)
        have f4_111 := Avf.other Vj1 W3 ne13
        have f4_112 := Kj.wr W3 (Or.inl (List.mem_of_getElem? (i := 0) rfl))
        have Zs4 : n0 ≤ h3.size := by rw [W3.size]; exact Zj
        refine Go.by st3 ?_
        show Go p.tables e below _ (T3.setTop (mkF m 32 #[.val (.ref a1), .val (.int (Int32.ofNat i)), .val (.ref a3), .val (.int (Int32.ofNat i)), .val (.int (N.toInt32)), .val (.int (Int32.ofNat i)), .val (.int (cf i))] []))
        refine Go.by (fun _ => XS.iinc X3.here hx rfl (hb hby d6_32) rfl (l' := #[.val (.ref a1), .val (.int ((Int32.ofNat i) + (1 : Int32))), .val (.ref a3), .val (.int (Int32.ofNat i)), .val (.int (N.toInt32)), .val (.int (Int32.ofNat i)), .val (.int (cf i))]) rfl) ?_
        show Go p.tables e below _ (T3.setTop (mkF m 35 #[.val (.ref a1), .val (.int ((Int32.ofNat i) + (1 : Int32))), .val (.ref a3), .val (.int (Int32.ofNat i)), .val (.int (N.toInt32)), .val (.int (Int32.ofNat i)), .val (.int (cf i))] []))
        refine Go.by (fun _ => XS.iinc X3.here hx rfl (hb hby d6_35) rfl (l' := #[.val (.ref a1), .val (.int ((Int32.ofNat i) + (1 : Int32))), .val (.ref a3), .val (.int ((Int32.ofNat i) + (1 : Int32))), .val (.int (N.toInt32)), .val (.int (Int32.ofNat i)), .val (.int (cf i))]) rfl) ?_
        show Go p.tables e below _ (T3.setTop (mkF m 38 #[.val (.ref a1), .val (.int ((Int32.ofNat i) + (1 : Int32))), .val (.ref a3), .val (.int ((Int32.ofNat i) + (1 : Int32))), .val (.int (N.toInt32)), .val (.int (Int32.ofNat i)), .val (.int (cf i))] []))
        refine Go.by (fun _ => XS.iinc X3.here hx rfl (hb hby d6_38) rfl (l' := #[.val (.ref a1), .val (.int ((Int32.ofNat i) + (1 : Int32))), .val (.ref a3), .val (.int ((Int32.ofNat i) + (1 : Int32))), .val (.int (N.toInt32)), .val (.int ((Int32.ofNat i) + (1 : Int32))), .val (.int (cf i))]) rfl) ?_
        show Go p.tables e below _ (T3.setTop (mkF m 41 #[.val (.ref a1), .val (.int ((Int32.ofNat i) + (1 : Int32))), .val (.ref a3), .val (.int ((Int32.ofNat i) + (1 : Int32))), .val (.int (N.toInt32)), .val (.int ((Int32.ofNat i) + (1 : Int32))), .val (.int (cf i))] []))
        refine Go.by (fun _ => XS.goto X3.here hx rfl (pc0 := 41) (pc' := 3) rfl (hb hby d6_41) (by decide) (by decide)) ?_
        show Go p.tables e below _ (T3.setTop (mkF m 3 #[.val (.ref a1), .val (.int ((Int32.ofNat i) + (1 : Int32))), .val (.ref a3), .val (.int ((Int32.ofNat i) + (1 : Int32))), .val (.int (N.toInt32)), .val (.int ((Int32.ofNat i) + (1 : Int32))), .val (.int (cf i))] []))
        rw [i32_succ]
        refine ih (i + 1) _ (by omega) (Or.inr ⟨_, rfl⟩) _ _ X3 Zs4 f4_112 f4_111 (Avf.cong V3 (fun t ht => ?_))
        dsimp only
        by_cases q : t = i
        · subst q; rw [if_pos rfl, if_pos (Nat.lt_succ_self _)]; simp
        · rw [if_neg q]
          by_cases q2 : t < i
          · rw [if_pos q2, if_pos (by omega)]
          · rw [if_neg q2, if_neg (by omega)]
  exact J N 0 _ (by omega) (Or.inl rfl) _ _ X0 Z0 K0 V_a1 (Avf.cong V_a3 (fun t _ => rfl))
theorem d5_0 : decode jdk_52_method_16_code 0 = .ok (.iload_n 2, 1) := by decide +kernel
theorem d5_1 : decode jdk_52_method_16_code 1 = .ok (.newarray .byte, 2) := by decide +kernel
theorem d5_3 : decode jdk_52_method_16_code 3 = .ok (.astore_n 3, 1) := by decide +kernel
theorem d5_4 : decode jdk_52_method_16_code 4 = .ok (.aload_n 0, 1) := by decide +kernel
theorem d5_5 : decode jdk_52_method_16_code 5 = .ok (.iload_n 1, 1) := by decide +kernel
theorem d5_6 : decode jdk_52_method_16_code 6 = .ok (.aload_n 3, 1) := by decide +kernel
theorem d5_7 : decode jdk_52_method_16_code 7 = .ok (.iconst 0, 1) := by decide +kernel
theorem d5_8 : decode jdk_52_method_16_code 8 = .ok (.iload_n 2, 1) := by decide +kernel
theorem d5_9 : decode jdk_52_method_16_code 9 = .ok (.invokestatic 115, 3) := by decide +kernel
theorem pd1 : parseMethodDescriptor "([CI[BII)I" = some ⟨[(.array .char), .int, (.array .byte), .int, .int], some .int⟩ := by decide +kernel
theorem d5_12 : decode jdk_52_method_16_code 12 = .ok (.istore 4, 2) := by decide +kernel
theorem d5_14 : decode jdk_52_method_16_code 14 = .ok (.iload 4, 2) := by decide +kernel
theorem d5_16 : decode jdk_52_method_16_code 16 = .ok (.iload_n 2, 1) := by decide +kernel
theorem d5_17 : decode jdk_52_method_16_code 17 = .ok (.if_icmp .eq 40, 3) := by decide +kernel
theorem d5_57 : decode jdk_52_method_16_code 57 = .ok (.aload_n 3, 1) := by decide +kernel
theorem d5_58 : decode jdk_52_method_16_code 58 = .ok (.areturn, 1) := by decide +kernel
abbrev RmQ : Room := { frames := 1, cells := 1, slots := 8, locals := 18 }
set_option maxRecDepth 65536 in
set_option maxHeartbeats 40000000 in
theorem rmQ (l : Launch) (Z : State) (a0 : Array Value) (hw : ∀ d ∈ tables_1, d.before a0 Z = true) (ws : List Jvm.Cond) (a1 : Addr) (k1 : ClassId) (N : Nat) (cf : Nat → Int32) (h0 : Heap) (n0 : Nat) (Z0 : n0 ≤ h0.size) (V_a1 : Avf Z h0 a1 k1 .char N (fun i => (.int (cf i)))) (hc : ∀ i, i < N → ¬ (255 : Int32) < cf i) (hN : 1 ≤ N ∧ N ≤ 8) :
    Met l Z EL [] (fun _ _ _ => False) n0 (⟨"java/lang/StringUTF16", "compress", "([CII)[B"⟩ : MethodName) jdk_52_method_16_code 6 (some (.array .byte)) ws RmQ #[(.ref a1), (.int (0 : Int32)), (.int (N.toInt32))] h0 (fun v h => ∃ b kc, v = some (.ref b) ∧ h0.size ≤ b ∧ Keep h0 h [] ∧ Avf Z h b kc .byte N (fun i => (.int ((fun j => (cf j).toInt8.toInt32) i)))) := by
  refine enter (Ls := #[.val (.ref a1), .val (.int (0 : Int32)), .val (.int (N.toInt32)), .unset, .unset, .unset]) (plainFor_of_name pn2) (fun m => by first | (simp [entryFrame, mkF, argsToLocals, Value.category]; done) | rfl) ?_
  intro p e s m below meth c T0 hx hby hml hown hnm hret hlk hZ X0
  have K0 := Keep.refl h0 []
  show Go p.tables e below _ (T0.setTop (mkF m 0 #[.val (.ref a1), .val (.int (0 : Int32)), .val (.int (N.toInt32)), .unset, .unset, .unset] []))
  refine Go.by (fun _ => XS.iloadN X0.here hx rfl (hb hby d5_0) rfl) ?_
  show Go p.tables e below _ (T0.setTop (mkF m 1 #[.val (.ref a1), .val (.int (0 : Int32)), .val (.int (N.toInt32)), .unset, .unset, .unset] [(.int (N.toInt32))]))
  obtain ⟨T1, h1, kc1, b1, X1, g1, E1, A1, V1, st1⟩ := X0.newPF hx hZ (tw hw 27 rfl) (g := (mkF m 1 #[.val (.ref a1), .val (.int (0 : Int32)), .val (.int (N.toInt32)), .unset, .unset, .unset] [(.int (N.toInt32))])) rfl (hb hby d5_1) rfl (n32_nneg (by omega)) (sz := N) (cap := 8) (k' := 1) (n' := 8) (n32_nat (by omega)) hN.2 (by decide) rfl rfl (by decide) (by decide) (ad := "[B") (by decide)
  have g_b1 : n0 ≤ b1 := by rw [g1]; exact Z0
  have sz_b1 : h0.size ≤ b1 := by rw [g1]; exact K0.1
  have ne_a1_b1 : a1 ≠ b1 := Nat.ne_of_lt (by rw [g1]; exact V_a1.lt)
  have f2_8 := Avf.ext V_a1 E1
  have f2_9 := K0.ext E1
  have Zs2 : n0 ≤ h1.size := Nat.le_trans Z0 E1.1
  refine Go.by st1 ?_
  show Go p.tables e below _ (T1.setTop (mkF m 3 #[.val (.ref a1), .val (.int (0 : Int32)), .val (.int (N.toInt32)), .unset, .unset, .unset] [(.ref b1)]))
  refine Go.by (fun _ => XS.astoreN X1.here hx rfl (hb hby d5_3) rfl rfl (l' := #[.val (.ref a1), .val (.int (0 : Int32)), .val (.int (N.toInt32)), .val (.ref b1), .unset, .unset]) rfl) ?_
  show Go p.tables e below _ (T1.setTop (mkF m 4 #[.val (.ref a1), .val (.int (0 : Int32)), .val (.int (N.toInt32)), .val (.ref b1), .unset, .unset] []))
  refine Go.by (fun _ => XS.aloadN X1.here hx rfl (hb hby d5_4) rfl rfl) ?_
  show Go p.tables e below _ (T1.setTop (mkF m 5 #[.val (.ref a1), .val (.int (0 : Int32)), .val (.int (N.toInt32)), .val (.ref b1), .unset, .unset] [(.ref a1)]))
  refine Go.by (fun _ => XS.iloadN X1.here hx rfl (hb hby d5_5) rfl) ?_
  show Go p.tables e below _ (T1.setTop (mkF m 6 #[.val (.ref a1), .val (.int (0 : Int32)), .val (.int (N.toInt32)), .val (.ref b1), .unset, .unset] [(.int (0 : Int32)), (.ref a1)]))
  refine Go.by (fun _ => XS.aloadN X1.here hx rfl (hb hby d5_6) rfl rfl) ?_
  show Go p.tables e below _ (T1.setTop (mkF m 7 #[.val (.ref a1), .val (.int (0 : Int32)), .val (.int (N.toInt32)), .val (.ref b1), .unset, .unset] [(.ref b1), (.int (0 : Int32)), (.ref a1)]))
  refine Go.by (fun _ => XS.iconst X1.here hx rfl (hb hby d5_7)) ?_
  show Go p.tables e below _ (T1.setTop (mkF m 8 #[.val (.ref a1), .val (.int (0 : Int32)), .val (.int (N.toInt32)), .val (.ref b1), .unset, .unset] [(.int (0 : Int32)), (.ref b1), (.int (0 : Int32)), (.ref a1)]))
  refine Go.by (fun _ => XS.iloadN X1.here hx rfl (hb hby d5_8) rfl) ?_
  show Go p.tables e below _ (T1.setTop (mkF m 9 #[.val (.ref a1), .val (.int (0 : Int32)), .val (.int (N.toInt32)), .val (.ref b1), .unset, .unset] [(.int (N.toInt32)), (.int (0 : Int32)), (.ref b1), (.int (0 : Int32)), (.ref a1)]))
  obtain ⟨v3, T3, h3, X3, q3, xs3, st3⟩ := X1.callS hx hZ (f0s (List.mem_cons_self ..) f0n) (y := (⟨"java/lang/StringUTF16", "compress", "([CI[BII)I"⟩ : MethodName)) hown (tw hw 28 rfl) (tw hw 29 rfl) (tw hw 25 rfl) (tw hw 30 rfl) (by decide) (rmP l Z a0 hw [] a1 b1 k1 kc1 N cf (fun _ => (.int 0)) h1 n0 Zs2 f2_8 V1 g_b1 hc) (g := (mkF m 9 #[.val (.ref a1), .val (.int (0 : Int32)), .val (.int (N.toInt32)), .val (.ref b1), .unset, .unset] [(.int (N.toInt32)), (.int (0 : Int32)), (.ref b1), (.int (0 : Int32)), (.ref a1)])) rfl (by rw [hml]; rfl) (argsL := [(.ref a1), (.int (0 : Int32)), (.ref b1), (.int (0 : Int32)), (.int (N.toInt32))]) (rest := []) (lenOf pd1 rfl) rfl (hb hby d5_9) rfl (by decide) (Nat.le_of_ble_eq_true rfl) (k' := 1) (n' := 8) rfl rfl (by decide) (by decide)
  refine Go.by st3 ?_
  obtain ⟨rfl, K3, V3⟩ := q3
  have f4_28 := Avf.keep f2_8 K3 (ninS ne_a1_b1 nin0)
  have f4_29 := f2_9.trans K3 (allS (Or.inr sz_b1) all0)
  have f4_30 := A1.keep K3
  have Zs4 : n0 ≤ h3.size := Nat.le_trans Zs2 K3.1
  show Go p.tables e below _ (T3.setTop (mkF m 12 #[.val (.ref a1), .val (.int (0 : Int32)), .val (.int (N.toInt32)), .val (.ref b1), .unset, .unset] [(.int (N.toInt32))]))
  refine Go.by (fun _ => XS.istore X3.here hx rfl (hb hby d5_12) rfl (l' := #[.val (.ref a1), .val (.int (0 : Int32)), .val (.int (N.toInt32)), .val (.ref b1), .val (.int (N.toInt32)), .unset]) rfl) ?_
  show Go p.tables e below _ (T3.setTop (mkF m 14 #[.val (.ref a1), .val (.int (0 : Int32)), .val (.int (N.toInt32)), .val (.ref b1), .val (.int (N.toInt32)), .unset] []))
  refine Go.by (fun _ => XS.iload X3.here hx rfl (hb hby d5_14) rfl) ?_
  show Go p.tables e below _ (T3.setTop (mkF m 16 #[.val (.ref a1), .val (.int (0 : Int32)), .val (.int (N.toInt32)), .val (.ref b1), .val (.int (N.toInt32)), .unset] [(.int (N.toInt32))]))
  refine Go.by (fun _ => XS.iloadN X3.here hx rfl (hb hby d5_16) rfl) ?_
  show Go p.tables e below _ (T3.setTop (mkF m 17 #[.val (.ref a1), .val (.int (0 : Int32)), .val (.int (N.toInt32)), .val (.ref b1), .val (.int (N.toInt32)), .unset] [(.int (N.toInt32)), (.int (N.toInt32))]))
  refine Go.by (fun _ => XS.icmpYes X3.here hx rfl (pc0 := 17) (pc' := 57) rfl (hb hby d5_17) rfl (teq rfl).1 (by decide) (by decide)) ?_
  show Go p.tables e below _ (T3.setTop (mkF m 57 #[.val (.ref a1), .val (.int (0 : Int32)), .val (.int (N.toInt32)), .val (.ref b1), .val (.int (N.toInt32)), .unset] []))
  refine Go.by (fun _ => XS.aloadN X3.here hx rfl (hb hby d5_57) rfl rfl) ?_
  show Go p.tables e below _ (T3.setTop (mkF m 58 #[.val (.ref a1), .val (.int (0 : Int32)), .val (.int (N.toInt32)), .val (.ref b1), .val (.int (N.toInt32)), .unset] [(.ref b1)]))
  exact Go.retA X3 hx hlk hret rfl rfl (hb hby d5_58) (by decide) (by decide) (fun _ z => z.elim) ⟨b1, kc1, rfl, sz_b1, f4_29, V3⟩
theorem d7_0 : decode jdk_52_method_15_code 0 = .ok (.iload_n 1, 1) := by decide +kernel
theorem d7_1 : decode jdk_52_method_15_code 1 = .ok (.aload_n 0, 1) := by decide +kernel
theorem d7_2 : decode jdk_52_method_15_code 2 = .ok (.arraylength, 1) := by decide +kernel
theorem d7_3 : decode jdk_52_method_15_code 3 = .ok (.isub, 1) := by decide +kernel
theorem d7_4 : decode jdk_52_method_15_code 4 = .ok (.bipush 31, 2) := by decide +kernel
theorem d7_6 : decode jdk_52_method_15_code 6 = .ok (.iushr, 1) := by decide +kernel
theorem d7_7 : decode jdk_52_method_15_code 7 = .ok (.i2b, 1) := by decide +kernel
theorem d7_8 : decode jdk_52_method_15_code 8 = .ok (.ireturn, 1) := by decide +kernel
abbrev RmU : Room := { frames := 0, cells := 0, slots := 0, locals := 0 }
set_option maxRecDepth 65536 in
set_option maxHeartbeats 40000000 in
theorem rmU (l : Launch) (Z : State) (a0 : Array Value) (hw : ∀ d ∈ tables_1, d.before a0 Z = true) (ws : List Jvm.Cond) (a1 : Addr) (k1 : ClassId) (N : Nat) (f1 : Nat → Value) (h0 : Heap) (n0 : Nat) (Z0 : n0 ≤ h0.size) (V_a1 : Avf Z h0 a1 k1 .byte N f1) :
    Met l Z EL [] (fun _ _ _ => False) n0 (⟨"java/lang/StringUTF16", "coderFromArrayLen", "([BI)B"⟩ : MethodName) jdk_52_method_15_code 2 (some .byte) ws RmU #[(.ref a1), (.int (N.toInt32))] h0 (fun v h => v = some (.int 0) ∧ h0 = h) := by
  refine enter (Ls := #[.val (.ref a1), .val (.int (N.toInt32))]) (plainFor_of_name pn2) (fun m => by first | (simp [entryFrame, mkF, argsToLocals, Value.category]; done) | rfl) ?_
  intro p e s m below meth c T0 hx hby hml hown hnm hret hlk hZ X0
  show Go p.tables e below _ (T0.setTop (mkF m 0 #[.val (.ref a1), .val (.int (N.toInt32))] []))
  refine Go.by (fun _ => XS.iloadN X0.here hx rfl (hb hby d7_0) rfl) ?_
  show Go p.tables e below _ (T0.setTop (mkF m 1 #[.val (.ref a1), .val (.int (N.toInt32))] [(.int (N.toInt32))]))
  refine Go.by (fun _ => XS.aloadN X0.here hx rfl (hb hby d7_1) rfl rfl) ?_
  show Go p.tables e below _ (T0.setTop (mkF m 2 #[.val (.ref a1), .val (.int (N.toInt32))] [(.ref a1), (.int (N.toInt32))]))
  refine Go.by (X0.len hx hZ V_a1 (z := (N.toInt32)) rfl (g := (mkF m 2 #[.val (.ref a1), .val (.int (N.toInt32))] [(.ref a1), (.int (N.toInt32))])) rfl rfl (hb hby d7_2)) ?_
  show Go p.tables e below _ (T0.setTop (mkF m 3 #[.val (.ref a1), .val (.int (N.toInt32))] [(.int (N.toInt32)), (.int (N.toInt32))]))
  refine Go.by (fun _ => XS.isub X0.here hx rfl (hb hby d7_3) rfl) ?_
  show Go p.tables e below _ (T0.setTop (mkF m 4 #[.val (.ref a1), .val (.int (N.toInt32))] [(.int ((N.toInt32) - (N.toInt32)))]))
  refine Go.by (fun _ => XS.bipush X0.here hx rfl (hb hby d7_4)) ?_
  show Go p.tables e below _ (T0.setTop (mkF m 6 #[.val (.ref a1), .val (.int (N.toInt32))] [(.int (31 : Int32)), (.int ((N.toInt32) - (N.toInt32)))]))
  refine Go.by (fun _ => XS.iushr X0.here hx rfl (hb hby d7_6) rfl) ?_
  show Go p.tables e below _ (T0.setTop (mkF m 7 #[.val (.ref a1), .val (.int (N.toInt32))] [(.int ((((N.toInt32) - (N.toInt32)).toUInt32 >>> ((31 : Int32) &&& 31).toUInt32).toInt32))]))
  refine Go.by (fun _ => XS.i2b X0.here hx rfl (hb hby d7_7) rfl) ?_
  show Go p.tables e below _ (T0.setTop (mkF m 8 #[.val (.ref a1), .val (.int (N.toInt32))] [(.int (((((N.toInt32) - (N.toInt32)).toUInt32 >>> ((31 : Int32) &&& 31).toUInt32).toInt32).toInt8.toInt32))]))
  exact Go.retN X0 hx hlk (z' := (0 : Int32)) hret (by simp) (hb hby d7_8) (n32_sub0 _) (by decide) (by decide) (fun _ z => z.elim) ⟨rfl, rfl⟩
theorem d3_0 : decode jdk_42_method_149_code 0 = .ok (.aload_n 0, 1) := by decide +kernel
theorem d3_1 : decode jdk_42_method_149_code 1 = .ok (.invokespecial 1, 3) := by decide +kernel
theorem d3_4 : decode jdk_42_method_149_code 4 = .ok (.iload_n 3, 1) := by decide +kernel
theorem d3_5 : decode jdk_42_method_149_code 5 = .ok (.ifCond .ne 22, 3) := by decide +kernel
theorem d3_27 : decode jdk_42_method_149_code 27 = .ok (.getstatic 38, 3) := by decide +kernel
theorem d3_30 : decode jdk_42_method_149_code 30 = .ok (.ifCond .eq 28, 3) := by decide +kernel
theorem d3_33 : decode jdk_42_method_149_code 33 = .ok (.aload_n 1, 1) := by decide +kernel
theorem d3_34 : decode jdk_42_method_149_code 34 = .ok (.iload_n 2, 1) := by decide +kernel
theorem d3_35 : decode jdk_42_method_149_code 35 = .ok (.iload_n 3, 1) := by decide +kernel
theorem d3_36 : decode jdk_42_method_149_code 36 = .ok (.invokestatic 177, 3) := by decide +kernel
theorem pd2 : parseMethodDescriptor "([CII)[B" = some ⟨[(.array .char), .int, .int], some (.array .byte)⟩ := by decide +kernel
theorem d3_39 : decode jdk_42_method_149_code 39 = .ok (.astore 5, 2) := by decide +kernel
theorem d3_41 : decode jdk_42_method_149_code 41 = .ok (.aload_n 0, 1) := by decide +kernel
theorem d3_42 : decode jdk_42_method_149_code 42 = .ok (.aload 5, 2) := by decide +kernel
theorem d3_44 : decode jdk_42_method_149_code 44 = .ok (.iload_n 3, 1) := by decide +kernel
theorem d3_45 : decode jdk_42_method_149_code 45 = .ok (.invokestatic 47, 3) := by decide +kernel
theorem pd3 : parseMethodDescriptor "([BI)B" = some ⟨[(.array .byte), .int], some .byte⟩ := by decide +kernel
theorem d3_48 : decode jdk_42_method_149_code 48 = .ok (.putfield 15, 3) := by decide +kernel
theorem d3_51 : decode jdk_42_method_149_code 51 = .ok (.aload_n 0, 1) := by decide +kernel
theorem d3_52 : decode jdk_42_method_149_code 52 = .ok (.aload 5, 2) := by decide +kernel
theorem d3_54 : decode jdk_42_method_149_code 54 = .ok (.putfield 9, 3) := by decide +kernel
theorem d3_57 : decode jdk_42_method_149_code 57 = .ok (.return_, 1) := by decide +kernel
abbrev RmV : Room := { frames := 2, cells := 1, slots := 8, locals := 35 }
set_option maxRecDepth 65536 in
set_option maxHeartbeats 40000000 in
theorem rmV (l : Launch) (Z : State) (a0 : Array Value) (hw : ∀ d ∈ tables_1, d.before a0 Z = true) (ws : List Jvm.Cond) (a1 : Addr) (a2 : Addr) (k2 : ClassId) (N : Nat) (cf : Nat → Int32) (cs : Int32) (h0 : Heap) (n0 : Nat) (Z0 : n0 ≤ h0.size) (O0 : Old Z n0 h0) (S_CS0 : Sta Z Z.heap "java/lang/String" "COMPACT_STRINGS" "Z" (.int cs)) (hcs : ¬ cs = 0) (E_a1 : Exa Z h0 a1 "java/lang/String") (g_a1 : n0 ≤ a1) (Fv : Fld Z h0 a1 "java/lang/String" "value" "[B" .null) (Fc : Fld Z h0 a1 "java/lang/String" "coder" "B" (.int (0 : Int32))) (V_a2 : Avf Z h0 a2 k2 .char N (fun i => (.int (cf i)))) (hc : ∀ i, i < N → ¬ (255 : Int32) < cf i) (hN : 1 ≤ N ∧ N ≤ 8) :
    Met l Z EL [a1] (fun _ _ _ => False) n0 (⟨"java/lang/String", "<init>", "([CIILjava/lang/Void;)V"⟩ : MethodName) jdk_42_method_149_code 6 none ws RmV #[(.ref a1), (.ref a2), (.int (0 : Int32)), (.int (N.toInt32)), .null] h0 (fun v h => v = none ∧ Keep h0 h [a1] ∧ Exa Z h a1 "java/lang/String" ∧ ∃ b kc, h0.size ≤ b ∧ Fld Z h a1 "java/lang/String" "value" "[B" (.ref b) ∧ Fld Z h a1 "java/lang/String" "coder" "B" (.int (0 : Int32)) ∧ Avf Z h b kc .byte N (fun i => (.int ((fun j => (cf j).toInt8.toInt32) i)))) := by
  refine enter (Ls := #[.val (.ref a1), .val (.ref a2), .val (.int (0 : Int32)), .val (.int (N.toInt32)), .val .null, .unset]) (plainFor_of_name pn1) (fun m => by first | (simp [entryFrame, mkF, argsToLocals, Value.category]; done) | rfl) ?_
  intro p e s m below meth c T0 hx hby hml hown hnm hret hlk hZ X0
  have S_CS := S_CS0.ext O0.2
  have ne21 : a2 ≠ a1 := exa_nev E_a1 (tw hw 10 rfl) V_a2
  have K0 := Keep.refl h0 [a1]
  show Go p.tables e below _ (T0.setTop (mkF m 0 #[.val (.ref a1), .val (.ref a2), .val (.int (0 : Int32)), .val (.int (N.toInt32)), .val .null, .unset] []))
  refine Go.by (fun _ => XS.aloadN X0.here hx rfl (hb hby d3_0) rfl rfl) ?_
  show Go p.tables e below _ (T0.setTop (mkF m 1 #[.val (.ref a1), .val (.ref a2), .val (.int (0 : Int32)), .val (.int (N.toInt32)), .val .null, .unset] [(.ref a1)]))
  obtain ⟨T1, X1, st1⟩ := X0.initO hx hZ hown (tw hw 19 rfl) (tw hw 20 rfl) (tw hw 21 rfl) (g := (mkF m 1 #[.val (.ref a1), .val (.ref a2), .val (.int (0 : Int32)), .val (.int (N.toInt32)), .val .null, .unset] [(.ref a1)])) rfl (by rw [hml]; rfl) rfl (hb hby d3_1) (by decide) (Nat.le_of_ble_eq_true rfl)
  refine Go.by st1 ?_
  show Go p.tables e below _ (T1.setTop (mkF m 4 #[.val (.ref a1), .val (.ref a2), .val (.int (0 : Int32)), .val (.int (N.toInt32)), .val .null, .unset] []))
  refine Go.by (fun _ => XS.iloadN X1.here hx rfl (hb hby d3_4) rfl) ?_
  show Go p.tables e below _ (T1.setTop (mkF m 5 #[.val (.ref a1), .val (.ref a2), .val (.int (0 : Int32)), .val (.int (N.toInt32)), .val .null, .unset] [(.int (N.toInt32))]))
  refine Go.by (fun _ => XS.ifYes X1.here hx rfl (pc0 := 5) (pc' := 27) rfl (hb hby d3_5) rfl ((if0 _ _).trans (feq ((n32_ne0 (by omega) hN.1))).2) (by decide) (by decide)) ?_
  show Go p.tables e below _ (T1.setTop (mkF m 27 #[.val (.ref a1), .val (.ref a2), .val (.int (0 : Int32)), .val (.int (N.toInt32)), .val .null, .unset] []))
  obtain ⟨T2, X2, st2⟩ := X1.getS hx hZ hown (host := "") (Or.inl (tw hw 22 rfl)) Via.refl S_CS (g := (mkF m 27 #[.val (.ref a1), .val (.ref a2), .val (.int (0 : Int32)), .val (.int (N.toInt32)), .val .null, .unset] [])) rfl (hb hby d3_27)
  refine Go.by st2 ?_
  show Go p.tables e below _ (T2.setTop (mkF m 30 #[.val (.ref a1), .val (.ref a2), .val (.int (0 : Int32)), .val (.int (N.toInt32)), .val .null, .unset] [(.int cs)]))
  refine Go.by (fun _ => XS.ifNo X2.here hx rfl (hb hby d3_30) rfl ((if0 _ _).trans (feq hcs).1)) ?_
  show Go p.tables e below _ (T2.setTop (mkF m 33 #[.val (.ref a1), .val (.ref a2), .val (.int (0 : Int32)), .val (.int (N.toInt32)), .val .null, .unset] []))
  refine Go.by (fun _ => XS.aloadN X2.here hx rfl (hb hby d3_33) rfl rfl) ?_
  show Go p.tables e below _ (T2.setTop (mkF m 34 #[.val (.ref a1), .val (.ref a2), .val (.int (0 : Int32)), .val (.int (N.toInt32)), .val .null, .unset] [(.ref a2)]))
  refine Go.by (fun _ => XS.iloadN X2.here hx rfl (hb hby d3_34) rfl) ?_
  show Go p.tables e below _ (T2.setTop (mkF m 35 #[.val (.ref a1), .val (.ref a2), .val (.int (0 : Int32)), .val (.int (N.toInt32)), .val .null, .unset] [(.int (0 : Int32)), (.ref a2)]))
  refine Go.by (fun _ => XS.iloadN X2.here hx rfl (hb hby d3_35) rfl) ?_
  show Go p.tables e below _ (T2.setTop (mkF m 36 #[.val (.ref a1), .val (.ref a2), .val (.int (0 : Int32)), .val (.int (N.toInt32)), .val .null, .unset] [(.int (N.toInt32)), (.int (0 : Int32)), (.ref a2)]))
  obtain ⟨v3, T3, h3, X3, q3, xs3, st3⟩ := X2.callS hx hZ f0n (y := (⟨"java/lang/StringUTF16", "compress", "([CII)[B"⟩ : MethodName)) hown (tw hw 23 rfl) (tw hw 24 rfl) (tw hw 25 rfl) (tw hw 26 rfl) (by decide) (rmQ l Z a0 hw [] a2 k2 N cf h0 n0 Z0 V_a2 hc hN) (g := (mkF m 36 #[.val (.ref a1), .val (.ref a2), .val (.int (0 : Int32)), .val (.int (N.toInt32)), .val .null, .unset] [(.int (N.toInt32)), (.int (0 : Int32)), (.ref a2)])) rfl (by rw [hml]; rfl) (argsL := [(.ref a2), (.int (0 : Int32)), (.int (N.toInt32))]) (rest := []) (lenOf pd2 rfl) rfl (hb hby d3_36) rfl (by decide) (Nat.le_of_ble_eq_true rfl) (k' := 1) (n' := 8) rfl rfl (by decide) (by decide)
  refine Go.by st3 ?_
  obtain ⟨d3, kc3, rfl, sd3, K3, V3⟩ := q3
  have g_d3 : n0 ≤ d3 := Nat.le_trans Z0 sd3
  have sz_d3 : h0.size ≤ d3 := Nat.le_trans K0.1 sd3
  have ne_a1_d3 : a1 ≠ d3 := Nat.ne_of_lt (Nat.lt_of_lt_of_le E_a1.lt sd3)
  have ne_a2_d3 : a2 ≠ d3 := Nat.ne_of_lt (Nat.lt_of_lt_of_le V_a2.lt sd3)
  have f4_31 := S_CS.ext (keep_ext K3)
  have f4_32 := E_a1.ext (keep_ext K3)
  have f4_33 := Fv.ext (keep_ext K3)
  have f4_34 := Fc.ext (keep_ext K3)
  have f4_35 := Avf.ext V_a2 (keep_ext K3)
  have f4_36 := O0.ext (keep_ext K3)
  have f4_37 := K0.ext (keep_ext K3)
  have Zs4 : n0 ≤ h3.size := Nat.le_trans Z0 (keep_ext K3).1
  show Go p.tables e below _ (T3.setTop (mkF m 39 #[.val (.ref a1), .val (.ref a2), .val (.int (0 : Int32)), .val (.int (N.toInt32)), .val .null, .unset] [(.ref d3)]))
  refine Go.by (fun _ => XS.astore X3.here hx rfl (hb hby d3_39) rfl rfl (l' := #[.val (.ref a1), .val (.ref a2), .val (.int (0 : Int32)), .val (.int (N.toInt32)), .val .null, .val (.ref d3)]) rfl) ?_
  show Go p.tables e below _ (T3.setTop (mkF m 41 #[.val (.ref a1), .val (.ref a2), .val (.int (0 : Int32)), .val (.int (N.toInt32)), .val .null, .val (.ref d3)] []))
  refine Go.by (fun _ => XS.aloadN X3.here hx rfl (hb hby d3_41) rfl rfl) ?_
  show Go p.tables e below _ (T3.setTop (mkF m 42 #[.val (.ref a1), .val (.ref a2), .val (.int (0 : Int32)), .val (.int (N.toInt32)), .val .null, .val (.ref d3)] [(.ref a1)]))
  refine Go.by (fun _ => XS.aload X3.here hx rfl (hb hby d3_42) rfl rfl) ?_
  show Go p.tables e below _ (T3.setTop (mkF m 44 #[.val (.ref a1), .val (.ref a2), .val (.int (0 : Int32)), .val (.int (N.toInt32)), .val .null, .val (.ref d3)] [(.ref d3), (.ref a1)]))
  refine Go.by (fun _ => XS.iloadN X3.here hx rfl (hb hby d3_44) rfl) ?_
  show Go p.tables e below _ (T3.setTop (mkF m 45 #[.val (.ref a1), .val (.ref a2), .val (.int (0 : Int32)), .val (.int (N.toInt32)), .val .null, .val (.ref d3)] [(.int (N.toInt32)), (.ref d3), (.ref a1)]))
  obtain ⟨v5, T5, h5, X5, q5, xs5, st5⟩ := X3.callS hx hZ f0n (y := (⟨"java/lang/StringUTF16", "coderFromArrayLen", "([BI)B"⟩ : MethodName)) hown (tw hw 31 rfl) (tw hw 32 rfl) (tw hw 25 rfl) (tw hw 33 rfl) (by decide) (rmU l Z a0 hw [] d3 kc3 N (fun i => (.int ((fun j => (cf j).toInt8.toInt32) i))) h3 n0 Zs4 V3) (g := (mkF m 45 #[.val (.ref a1), .val (.ref a2), .val (.int (0 : Int32)), .val (.int (N.toInt32)), .val .null, .val (.ref d3)] [(.int (N.toInt32)), (.ref d3), (.ref a1)])) rfl (by rw [hml]; rfl) (argsL := [(.ref d3), (.int (N.toInt32))]) (rest := [(.ref a1)]) (lenOf pd3 rfl) rfl (hb hby d3_45) rfl (by decide) (Nat.le_of_ble_eq_true rfl) (k' := 1) (n' := 8) rfl rfl (by decide) (by decide)
  refine Go.by st5 ?_
  obtain ⟨rfl, rfl⟩ := q5
  show Go p.tables e below _ (T5.setTop (mkF m 48 #[.val (.ref a1), .val (.ref a2), .val (.int (0 : Int32)), .val (.int (N.toInt32)), .val .null, .val (.ref d3)] [(.int (0 : Int32)), (.ref a1)]))
  obtain ⟨T6, h6, X6, W6, st6⟩ := X5.putFN hx hZ hown (tw hw 34 rfl) Via.refl f4_34 f4_32 g_a1 (Or.inl (List.mem_cons_self ..)) (Or.inr ⟨(tw hw 35 rfl), rfl, hnm⟩) (tw hw 10 rfl) (ty := .byte) (v' := (.int (0 : Int32))) (by decide) rfl rfl (g := (mkF m 48 #[.val (.ref a1), .val (.ref a2), .val (.int (0 : Int32)), .val (.int (N.toInt32)), .val .null, .val (.ref d3)] [(.int (0 : Int32)), (.ref a1)])) rfl rfl (hb hby d3_48)
  have Fw6 := f4_34.same W6
  have f7_54 := f4_31.wr W6
  have f7_55 := f4_32.wr W6
  have f7_56 := f4_33.other W6 (Or.inr (slot_ne (Or.inr (tw hw 37 rfl)) (Or.inr (tw hw 35 rfl)) (by decide) (t := (.array .byte)) (t' := .byte) (by decide) (by decide)))
  have f7_57 := Avf.other f4_35 W6 ne21
  have f7_58 := f4_36.wr W6 g_a1
  have f7_59 := f4_37.wr W6 (Or.inl (List.mem_of_getElem? (i := 0) rfl))
  have f7_60 := Avf.other V3 W6 (Ne.symm ne_a1_d3)
  have Zs7 : n0 ≤ h6.size := by rw [W6.size]; exact Zs4
  refine Go.by st6 ?_
  show Go p.tables e below _ (T6.setTop (mkF m 51 #[.val (.ref a1), .val (.ref a2), .val (.int (0 : Int32)), .val (.int (N.toInt32)), .val .null, .val (.ref d3)] []))
  refine Go.by (fun _ => XS.aloadN X6.here hx rfl (hb hby d3_51) rfl rfl) ?_
  show Go p.tables e below _ (T6.setTop (mkF m 52 #[.val (.ref a1), .val (.ref a2), .val (.int (0 : Int32)), .val (.int (N.toInt32)), .val .null, .val (.ref d3)] [(.ref a1)]))
  refine Go.by (fun _ => XS.aload X6.here hx rfl (hb hby d3_52) rfl rfl) ?_
  show Go p.tables e below _ (T6.setTop (mkF m 54 #[.val (.ref a1), .val (.ref a2), .val (.int (0 : Int32)), .val (.int (N.toInt32)), .val .null, .val (.ref d3)] [(.ref d3), (.ref a1)]))
  obtain ⟨T8, h8, X8, W8, st8⟩ := X6.putF hx hZ hown (host := "") (Or.inl (tw hw 36 rfl)) Via.refl f7_56 f7_55 g_a1 (Or.inl (List.mem_cons_self ..)) (Or.inr ⟨(tw hw 37 rfl), rfl, hnm⟩) (tw hw 10 rfl) (ty := (.array .byte)) (by decide) rfl rfl (g := (mkF m 54 #[.val (.ref a1), .val (.ref a2), .val (.int (0 : Int32)), .val (.int (N.toInt32)), .val .null, .val (.ref d3)] [(.ref d3), (.ref a1)])) rfl rfl (hb hby d3_54)
  have Fw8 := f7_56.same W8
  have f9_70 := f7_54.wr W8
  have f9_71 := f7_55.wr W8
  have f9_72 := Fw6.other W8 (Or.inr (slot_ne (Or.inr (tw hw 35 rfl)) (Or.inr (tw hw 37 rfl)) (by decide) (t := .byte) (t' := (.array .byte)) (by decide) (by decide)))
  have f9_73 := Avf.other f7_57 W8 ne21
  have f9_74 := f7_58.wr W8 g_a1
  have f9_75 := f7_59.wr W8 (Or.inl (List.mem_of_getElem? (i := 0) rfl))
  have f9_76 := Avf.other f7_60 W8 (Ne.symm ne_a1_d3)
  have Zs9 : n0 ≤ h8.size := by rw [W8.size]; exact Zs7
  refine Go.by st8 ?_
  show Go p.tables e below _ (T8.setTop (mkF m 57 #[.val (.ref a1), .val (.ref a2), .val (.int (0 : Int32)), .val (.int (N.toInt32)), .val .null, .val (.ref d3)] []))
  exact Go.ret0 X8 hx hlk hret (hb hby d3_57) (by decide) (by decide) (fun _ z => z.elim) ⟨rfl, f9_75, f9_71, d3, kc3, sz_d3, Fw8, f9_72, f9_76⟩
theorem d2_0 : decode jdk_42_method_3_code 0 = .ok (.aload_n 0, 1) := by decide +kernel
theorem d2_1 : decode jdk_42_method_3_code 1 = .ok (.aload_n 1, 1) := by decide +kernel
theorem d2_2 : decode jdk_42_method_3_code 2 = .ok (.iconst 0, 1) := by decide +kernel
theorem d2_3 : decode jdk_42_method_3_code 3 = .ok (.aload_n 1, 1) := by decide +kernel
theorem d2_4 : decode jdk_42_method_3_code 4 = .ok (.arraylength, 1) := by decide +kernel
theorem d2_5 : decode jdk_42_method_3_code 5 = .ok (.aconst_null, 1) := by decide +kernel
theorem d2_6 : decode jdk_42_method_3_code 6 = .ok (.invokespecial 27, 3) := by decide +kernel
theorem pd4 : parseMethodDescriptor "([CIILjava/lang/Void;)V" = some ⟨[(.array .char), .int, .int, (.object "java/lang/Void")], none⟩ := by decide +kernel
theorem d2_9 : decode jdk_42_method_3_code 9 = .ok (.return_, 1) := by decide +kernel
abbrev RmW : Room := { frames := 3, cells := 1, slots := 8, locals := 52 }
set_option maxRecDepth 65536 in
set_option maxHeartbeats 40000000 in
theorem rmW (l : Launch) (Z : State) (a0 : Array Value) (hw : ∀ d ∈ tables_1, d.before a0 Z = true) (ws : List Jvm.Cond) (a1 : Addr) (a2 : Addr) (k2 : ClassId) (N : Nat) (cf : Nat → Int32) (cs : Int32) (h0 : Heap) (n0 : Nat) (Z0 : n0 ≤ h0.size) (O0 : Old Z n0 h0) (S_CS0 : Sta Z Z.heap "java/lang/String" "COMPACT_STRINGS" "Z" (.int cs)) (hcs : ¬ cs = 0) (E_a1 : Exa Z h0 a1 "java/lang/String") (g_a1 : n0 ≤ a1) (Fv : Fld Z h0 a1 "java/lang/String" "value" "[B" .null) (Fc : Fld Z h0 a1 "java/lang/String" "coder" "B" (.int (0 : Int32))) (V_a2 : Avf Z h0 a2 k2 .char N (fun i => (.int (cf i)))) (hc : ∀ i, i < N → ¬ (255 : Int32) < cf i) (hN : 1 ≤ N ∧ N ≤ 8) :
    Met l Z EL [a1] (fun _ _ _ => False) n0 (⟨"java/lang/String", "<init>", "([C)V"⟩ : MethodName) jdk_42_method_3_code 2 none ws RmW #[(.ref a1), (.ref a2)] h0 (fun v h => v = none ∧ Keep h0 h [a1] ∧ Exa Z h a1 "java/lang/String" ∧ ∃ b kc, h0.size ≤ b ∧ Fld Z h a1 "java/lang/String" "value" "[B" (.ref b) ∧ Fld Z h a1 "java/lang/String" "coder" "B" (.int (0 : Int32)) ∧ Avf Z h b kc .byte N (fun i => (.int ((fun j => (cf j).toInt8.toInt32) i)))) := by
  refine enter (Ls := #[.val (.ref a1), .val (.ref a2)]) (plainFor_of_name pn1) (fun m => by first | (simp [entryFrame, mkF, argsToLocals, Value.category]; done) | rfl) ?_
  intro p e s m below meth c T0 hx hby hml hown hnm hret hlk hZ X0
  have S_CS := S_CS0.ext O0.2
  have ne21 : a2 ≠ a1 := exa_nev E_a1 (tw hw 10 rfl) V_a2
  have K0 := Keep.refl h0 [a1]
  show Go p.tables e below _ (T0.setTop (mkF m 0 #[.val (.ref a1), .val (.ref a2)] []))
  refine Go.by (fun _ => XS.aloadN X0.here hx rfl (hb hby d2_0) rfl rfl) ?_
  show Go p.tables e below _ (T0.setTop (mkF m 1 #[.val (.ref a1), .val (.ref a2)] [(.ref a1)]))
  refine Go.by (fun _ => XS.aloadN X0.here hx rfl (hb hby d2_1) rfl rfl) ?_
  show Go p.tables e below _ (T0.setTop (mkF m 2 #[.val (.ref a1), .val (.ref a2)] [(.ref a2), (.ref a1)]))
  refine Go.by (fun _ => XS.iconst X0.here hx rfl (hb hby d2_2)) ?_
  show Go p.tables e below _ (T0.setTop (mkF m 3 #[.val (.ref a1), .val (.ref a2)] [(.int (0 : Int32)), (.ref a2), (.ref a1)]))
  refine Go.by (fun _ => XS.aloadN X0.here hx rfl (hb hby d2_3) rfl rfl) ?_
  show Go p.tables e below _ (T0.setTop (mkF m 4 #[.val (.ref a1), .val (.ref a2)] [(.ref a2), (.int (0 : Int32)), (.ref a2), (.ref a1)]))
  refine Go.by (X0.len hx hZ V_a2 (z := (N.toInt32)) rfl (g := (mkF m 4 #[.val (.ref a1), .val (.ref a2)] [(.ref a2), (.int (0 : Int32)), (.ref a2), (.ref a1)])) rfl rfl (hb hby d2_4)) ?_
  show Go p.tables e below _ (T0.setTop (mkF m 5 #[.val (.ref a1), .val (.ref a2)] [(.int (N.toInt32)), (.int (0 : Int32)), (.ref a2), (.ref a1)]))
  refine Go.by (fun _ => XS.aconstNull X0.here hx rfl (hb hby d2_5)) ?_
  show Go p.tables e below _ (T0.setTop (mkF m 6 #[.val (.ref a1), .val (.ref a2)] [.null, (.int (N.toInt32)), (.int (0 : Int32)), (.ref a2), (.ref a1)]))
  obtain ⟨v1, T1, h1, X1, q1, xs1, st1⟩ := X0.callI hx hZ (f0s (List.mem_cons_self ..) f0n) (y := (⟨"java/lang/String", "<init>", "([CIILjava/lang/Void;)V"⟩ : MethodName)) rfl hown (tw hw 15 rfl) (tw hw 16 rfl) (tw hw 11 rfl) (tw hw 18 rfl) (by decide) (rmV l Z a0 hw [] a1 a2 k2 N cf cs h0 n0 Z0 O0 S_CS0 hcs E_a1 g_a1 Fv Fc V_a2 hc hN) (g := (mkF m 6 #[.val (.ref a1), .val (.ref a2)] [.null, (.int (N.toInt32)), (.int (0 : Int32)), (.ref a2), (.ref a1)])) rfl (by rw [hml]; rfl) (argsL := [(.ref a2), (.int (0 : Int32)), (.int (N.toInt32)), .null]) (rest := []) (lenOf pd4 rfl) rfl (hb hby d2_6) rfl (by decide) (Nat.le_of_ble_eq_true rfl) (k' := 1) (n' := 8) rfl rfl (by decide) (by decide)
  refine Go.by st1 ?_
  obtain ⟨rfl, K1, Ex1, d1, kc1, sd1, Fv1, Fc1, V1⟩ := q1
  have g_d1 : n0 ≤ d1 := Nat.le_trans Z0 sd1
  have sz_d1 : h0.size ≤ d1 := Nat.le_trans K0.1 sd1
  have ne_a1_d1 : a1 ≠ d1 := Nat.ne_of_lt (Nat.lt_of_lt_of_le E_a1.lt sd1)
  have ne_a2_d1 : a2 ≠ d1 := Nat.ne_of_lt (Nat.lt_of_lt_of_le V_a2.lt sd1)
  have f2_23 := Sta.keepN S_CS K1 (allS E_a1.plain all0)
  have f2_24 := E_a1.keep K1
  have f2_25 := Avf.keep V_a2 K1 (ninS ne21 nin0)
  have f2_26 := O0.keep K1 (allS g_a1 all0)
  have f2_27 := K0.trans K1 (allS (Or.inl (List.mem_of_getElem? (i := 0) rfl)) all0)
  have Zs2 : n0 ≤ h1.size := Nat.le_trans Z0 K1.1
  show Go p.tables e below _ (T1.setTop (mkF m 9 #[.val (.ref a1), .val (.ref a2)] []))
  exact Go.ret0 X1 hx hlk hret (hb hby d2_9) (by decide) (by decide) (fun _ z => z.elim) ⟨rfl, f2_27, Ex1, d1, kc1, sz_d1, Fv1, Fc1, V1⟩
theorem d19_0 : decode jdk_42_method_152_code 0 = .ok (.getstatic 38, 3) := by decide +kernel
theorem d19_3 : decode jdk_42_method_152_code 3 = .ok (.ifCond .eq 10, 3) := by decide +kernel
theorem d19_6 : decode jdk_42_method_152_code 6 = .ok (.aload_n 0, 1) := by decide +kernel
theorem d19_7 : decode jdk_42_method_152_code 7 = .ok (.getfield 15, 3) := by decide +kernel
theorem d19_10 : decode jdk_42_method_152_code 10 = .ok (.goto 4, 3) := by decide +kernel
theorem d19_14 : decode jdk_42_method_152_code 14 = .ok (.ireturn, 1) := by decide +kernel
abbrev Rm19 : Room := { frames := 0, cells := 0, slots := 0, locals := 0 }
set_option maxRecDepth 65536 in
set_option maxHeartbeats 40000000 in
theorem rm19 (l : Launch) (Z : State) (a0 : Array Value) (hw : ∀ d ∈ tables_1, d.before a0 Z = true) (ws : List Jvm.Cond) (a1 : Addr) (cs : Int32) (N1 : Nat) (g1 : Nat → Int32) (b1 : Addr) (k1 : ClassId) (h0 : Heap) (n0 : Nat) (Z0 : n0 ≤ h0.size) (O0 : Old Z n0 h0) (S_CS0 : Sta Z Z.heap "java/lang/String" "COMPACT_STRINGS" "Z" (.int cs)) (hcs : ¬ cs = 0) (E_a1 : Exa Z h0 a1 "java/lang/String") (Fv_a1 : Fld Z h0 a1 "java/lang/String" "value" "[B" (.ref b1)) (Fc_a1 : Fld Z h0 a1 "java/lang/String" "coder" "B" (.int (0 : Int32))) (V_b1 : Avf Z h0 b1 k1 .byte N1 (fun i => (.int (g1 i)))) :
    Met l Z EL [] (fun _ _ _ => False) n0 (⟨"java/lang/String", "coder", "()B"⟩ : MethodName) jdk_42_method_152_code 1 (some .byte) ws Rm19 #[(.ref a1)] h0 (fun v h => v = some (.int 0) ∧ h0 = h) := by
  refine enter (Ls := #[.val (.ref a1)]) (plainFor_of_name pn1) (fun m => by first | (simp [entryFrame, mkF, argsToLocals, Value.category]; done) | rfl) ?_
  intro p e s m below meth c T0 hx hby hml hown hnm hret hlk hZ X0
  have S_CS := S_CS0.ext O0.2
  show Go p.tables e below _ (T0.setTop (mkF m 0 #[.val (.ref a1)] []))
  obtain ⟨T1, X1, st1⟩ := X0.getS hx hZ hown (host := "") (Or.inl (tw hw 22 rfl)) Via.refl S_CS (g := (mkF m 0 #[.val (.ref a1)] [])) rfl (hb hby d19_0)
  refine Go.by st1 ?_
  show Go p.tables e below _ (T1.setTop (mkF m 3 #[.val (.ref a1)] [(.int cs)]))
  refine Go.by (fun _ => XS.ifNo X1.here hx rfl (hb hby d19_3) rfl ((if0 _ _).trans (feq hcs).1)) ?_
  show Go p.tables e below _ (T1.setTop (mkF m 6 #[.val (.ref a1)] []))
  refine Go.by (fun _ => XS.aloadN X1.here hx rfl (hb hby d19_6) rfl rfl) ?_
  show Go p.tables e below _ (T1.setTop (mkF m 7 #[.val (.ref a1)] [(.ref a1)]))
  obtain ⟨T2, X2, st2⟩ := X1.getF hx hZ hown (host := "") (Or.inl (tw hw 34 rfl)) Via.refl Fc_a1 (g := (mkF m 7 #[.val (.ref a1)] [(.ref a1)])) rfl rfl (hb hby d19_7)
  refine Go.by st2 ?_
  show Go p.tables e below _ (T2.setTop (mkF m 10 #[.val (.ref a1)] [(.int (0 : Int32))]))
  refine Go.by (fun _ => XS.goto X2.here hx rfl (pc0 := 10) (pc' := 14) rfl (hb hby d19_10) (by decide) (by decide)) ?_
  show Go p.tables e below _ (T2.setTop (mkF m 14 #[.val (.ref a1)] [(.int (0 : Int32))]))
  exact Go.retN X2 hx hlk (z' := (0 : Int32)) hret (by simp) (hb hby d19_14) rfl (by decide) (by decide) (fun _ z => z.elim) ⟨rfl, rfl⟩
theorem d18_0 : decode jdk_42_method_54_code 0 = .ok (.aload_n 0, 1) := by decide +kernel
theorem d18_1 : decode jdk_42_method_54_code 1 = .ok (.getfield 9, 3) := by decide +kernel
theorem d18_4 : decode jdk_42_method_54_code 4 = .ok (.arraylength, 1) := by decide +kernel
theorem d18_5 : decode jdk_42_method_54_code 5 = .ok (.aload_n 0, 1) := by decide +kernel
theorem d18_6 : decode jdk_42_method_54_code 6 = .ok (.invokevirtual 335, 3) := by decide +kernel
theorem pd5 : parseMethodDescriptor "()B" = some ⟨[], some .byte⟩ := by decide +kernel
theorem d18_9 : decode jdk_42_method_54_code 9 = .ok (.ishr, 1) := by decide +kernel
theorem d18_10 : decode jdk_42_method_54_code 10 = .ok (.ireturn, 1) := by decide +kernel
abbrev Rm18 : Room := { frames := 1, cells := 0, slots := 0, locals := 13 }
set_option maxRecDepth 65536 in
set_option maxHeartbeats 40000000 in
theorem rm18 (l : Launch) (Z : State) (a0 : Array Value) (hw : ∀ d ∈ tables_1, d.before a0 Z = true) (ws : List Jvm.Cond) (a1 : Addr) (cs : Int32) (N1 : Nat) (g1 : Nat → Int32) (b1 : Addr) (k1 : ClassId) (h0 : Heap) (n0 : Nat) (Z0 : n0 ≤ h0.size) (O0 : Old Z n0 h0) (S_CS0 : Sta Z Z.heap "java/lang/String" "COMPACT_STRINGS" "Z" (.int cs)) (hcs : ¬ cs = 0) (E_a1 : Exa Z h0 a1 "java/lang/String") (Fv_a1 : Fld Z h0 a1 "java/lang/String" "value" "[B" (.ref b1)) (Fc_a1 : Fld Z h0 a1 "java/lang/String" "coder" "B" (.int (0 : Int32))) (V_b1 : Avf Z h0 b1 k1 .byte N1 (fun i => (.int (g1 i)))) :
    Met l Z EL [] (fun _ _ _ => False) n0 (⟨"java/lang/String", "length", "()I"⟩ : MethodName) jdk_42_method_54_code 1 (some .int) ws Rm18 #[(.ref a1)] h0 (fun v h => v = some (.int N1.toInt32) ∧ h0 = h) := by
  refine enter (Ls := #[.val (.ref a1)]) (plainFor_of_name pn1) (fun m => by first | (simp [entryFrame, mkF, argsToLocals, Value.category]; done) | rfl) ?_
  intro p e s m below meth c T0 hx hby hml hown hnm hret hlk hZ X0
  have S_CS := S_CS0.ext O0.2
  show Go p.tables e below _ (T0.setTop (mkF m 0 #[.val (.ref a1)] []))
  refine Go.by (fun _ => XS.aloadN X0.here hx rfl (hb hby d18_0) rfl rfl) ?_
  show Go p.tables e below _ (T0.setTop (mkF m 1 #[.val (.ref a1)] [(.ref a1)]))
  obtain ⟨T1, X1, st1⟩ := X0.getF hx hZ hown (host := "") (Or.inl (tw hw 36 rfl)) Via.refl Fv_a1 (g := (mkF m 1 #[.val (.ref a1)] [(.ref a1)])) rfl rfl (hb hby d18_1)
  refine Go.by st1 ?_
  show Go p.tables e below _ (T1.setTop (mkF m 4 #[.val (.ref a1)] [(.ref b1)]))
  refine Go.by (X1.len hx hZ V_b1 (z := (N1.toInt32)) rfl (g := (mkF m 4 #[.val (.ref a1)] [(.ref b1)])) rfl rfl (hb hby d18_4)) ?_
  show Go p.tables e below _ (T1.setTop (mkF m 5 #[.val (.ref a1)] [(.int (N1.toInt32))]))
  refine Go.by (fun _ => XS.aloadN X1.here hx rfl (hb hby d18_5) rfl rfl) ?_
  show Go p.tables e below _ (T1.setTop (mkF m 6 #[.val (.ref a1)] [(.ref a1), (.int (N1.toInt32))]))
  obtain ⟨v2, T2, h2, X2, q2, xs2, st2⟩ := X1.callV hx hZ f0n (y := (⟨"java/lang/String", "coder", "()B"⟩ : MethodName)) (z := (⟨"java/lang/String", "coder", "()B"⟩ : MethodName)) hown (tw hw 95 rfl) (tw hw 96 rfl) (fun _ hZ => notFace_of_selects (args := #[]) (mvT hZ (tw hw 98 rfl))) (tw hw 98 rfl) (tw hw 97 rfl) (tw hw 11 rfl) (tw hw 99 rfl) (by decide) (rm19 l Z a0 hw [] a1 cs N1 g1 b1 k1 h0 n0 Z0 O0 S_CS0 hcs E_a1 Fv_a1 Fc_a1 V_b1) E_a1 (g := (mkF m 6 #[.val (.ref a1)] [(.ref a1), (.int (N1.toInt32))])) rfl (by rw [hml]; rfl) (argsL := []) (rest := [(.int (N1.toInt32))]) (lenOf pd5 rfl) rfl (hb hby d18_6) rfl (by decide) (Nat.le_of_ble_eq_true rfl) (k' := 0) (n' := 0) rfl rfl (by decide) (by decide)
  refine Go.by st2 ?_
  obtain ⟨rfl, rfl⟩ := q2
  show Go p.tables e below _ (T2.setTop (mkF m 9 #[.val (.ref a1)] [(.int (0 : Int32)), (.int (N1.toInt32))]))
  refine Go.by (fun _ => XS.ishr X2.here hx rfl (hb hby d18_9) rfl) ?_
  show Go p.tables e below _ (T2.setTop (mkF m 10 #[.val (.ref a1)] [(.int ((N1.toInt32) >>> ((0 : Int32) &&& 31)))]))
  exact Go.retI X2 hx hlk hret (hb hby d18_10) (by decide) (by decide) (fun _ z => z.elim) ⟨by rw [own_shr0], rfl⟩
theorem d13_0 : decode jdk_42_method_154_code 0 = .ok (.getstatic 38, 3) := by decide +kernel
theorem d13_3 : decode jdk_42_method_154_code 3 = .ok (.ifCond .eq 14, 3) := by decide +kernel
theorem d13_6 : decode jdk_42_method_154_code 6 = .ok (.aload_n 0, 1) := by decide +kernel
theorem d13_7 : decode jdk_42_method_154_code 7 = .ok (.getfield 15, 3) := by decide +kernel
theorem d13_10 : decode jdk_42_method_154_code 10 = .ok (.ifCond .ne 7, 3) := by decide +kernel
theorem d13_13 : decode jdk_42_method_154_code 13 = .ok (.iconst 1, 1) := by decide +kernel
theorem d13_14 : decode jdk_42_method_154_code 14 = .ok (.goto 4, 3) := by decide +kernel
theorem d13_18 : decode jdk_42_method_154_code 18 = .ok (.ireturn, 1) := by decide +kernel
abbrev Rm13 : Room := { frames := 0, cells := 0, slots := 0, locals := 0 }
set_option maxRecDepth 65536 in
set_option maxHeartbeats 40000000 in
theorem rm13 (l : Launch) (Z : State) (a0 : Array Value) (hw : ∀ d ∈ tables_1, d.before a0 Z = true) (ws : List Jvm.Cond) (a1 : Addr) (cs : Int32) (N1 : Nat) (g1 : Nat → Int32) (b1 : Addr) (k1 : ClassId) (h0 : Heap) (n0 : Nat) (Z0 : n0 ≤ h0.size) (O0 : Old Z n0 h0) (S_CS0 : Sta Z Z.heap "java/lang/String" "COMPACT_STRINGS" "Z" (.int cs)) (hcs : ¬ cs = 0) (E_a1 : Exa Z h0 a1 "java/lang/String") (Fv_a1 : Fld Z h0 a1 "java/lang/String" "value" "[B" (.ref b1)) (Fc_a1 : Fld Z h0 a1 "java/lang/String" "coder" "B" (.int (0 : Int32))) (V_b1 : Avf Z h0 b1 k1 .byte N1 (fun i => (.int (g1 i)))) :
    Met l Z EL [] (fun _ _ _ => False) n0 (⟨"java/lang/String", "isLatin1", "()Z"⟩ : MethodName) jdk_42_method_154_code 1 (some .boolean) ws Rm13 #[(.ref a1)] h0 (fun v h => v = some (.int 1) ∧ h0 = h) := by
  refine enter (Ls := #[.val (.ref a1)]) (plainFor_of_name pn1) (fun m => by first | (simp [entryFrame, mkF, argsToLocals, Value.category]; done) | rfl) ?_
  intro p e s m below meth c T0 hx hby hml hown hnm hret hlk hZ X0
  have S_CS := S_CS0.ext O0.2
  show Go p.tables e below _ (T0.setTop (mkF m 0 #[.val (.ref a1)] []))
  obtain ⟨T1, X1, st1⟩ := X0.getS hx hZ hown (host := "") (Or.inl (tw hw 22 rfl)) Via.refl S_CS (g := (mkF m 0 #[.val (.ref a1)] [])) rfl (hb hby d13_0)
  refine Go.by st1 ?_
  show Go p.tables e below _ (T1.setTop (mkF m 3 #[.val (.ref a1)] [(.int cs)]))
  refine Go.by (fun _ => XS.ifNo X1.here hx rfl (hb hby d13_3) rfl ((if0 _ _).trans (feq hcs).1)) ?_
  show Go p.tables e below _ (T1.setTop (mkF m 6 #[.val (.ref a1)] []))
  refine Go.by (fun _ => XS.aloadN X1.here hx rfl (hb hby d13_6) rfl rfl) ?_
  show Go p.tables e below _ (T1.setTop (mkF m 7 #[.val (.ref a1)] [(.ref a1)]))
  obtain ⟨T2, X2, st2⟩ := X1.getF hx hZ hown (host := "") (Or.inl (tw hw 34 rfl)) Via.refl Fc_a1 (g := (mkF m 7 #[.val (.ref a1)] [(.ref a1)])) rfl rfl (hb hby d13_7)
  refine Go.by st2 ?_
  show Go p.tables e below _ (T2.setTop (mkF m 10 #[.val (.ref a1)] [(.int (0 : Int32))]))
  refine Go.by (fun _ => XS.ifNo X2.here hx rfl (hb hby d13_10) rfl ((if0 _ _).trans (teq (by decide)).2)) ?_
  show Go p.tables e below _ (T2.setTop (mkF m 13 #[.val (.ref a1)] []))
  refine Go.by (fun _ => XS.iconst X2.here hx rfl (hb hby d13_13)) ?_
  show Go p.tables e below _ (T2.setTop (mkF m 14 #[.val (.ref a1)] [(.int (1 : Int32))]))
  refine Go.by (fun _ => XS.goto X2.here hx rfl (pc0 := 14) (pc' := 18) rfl (hb hby d13_14) (by decide) (by decide)) ?_
  show Go p.tables e below _ (T2.setTop (mkF m 18 #[.val (.ref a1)] [(.int (1 : Int32))]))
  exact Go.retN X2 hx hlk (z' := (1 : Int32)) hret (by simp) (hb hby d13_18) rfl (by decide) (by decide) (fun _ z => z.elim) ⟨rfl, rfl⟩
theorem d20_0 : decode jdk_42_method_55_code 0 = .ok (.aload_n 0, 1) := by decide +kernel
theorem d20_1 : decode jdk_42_method_55_code 1 = .ok (.getfield 9, 3) := by decide +kernel
theorem d20_4 : decode jdk_42_method_55_code 4 = .ok (.arraylength, 1) := by decide +kernel
theorem d20_5 : decode jdk_42_method_55_code 5 = .ok (.ifCond .ne 7, 3) := by decide +kernel
theorem d20_12 : decode jdk_42_method_55_code 12 = .ok (.iconst 0, 1) := by decide +kernel
theorem d20_13 : decode jdk_42_method_55_code 13 = .ok (.ireturn, 1) := by decide +kernel
abbrev Rm20 : Room := { frames := 0, cells := 0, slots := 0, locals := 0 }
set_option maxRecDepth 65536 in
set_option maxHeartbeats 40000000 in
theorem rm20 (l : Launch) (Z : State) (a0 : Array Value) (hw : ∀ d ∈ tables_1, d.before a0 Z = true) (ws : List Jvm.Cond) (a1 : Addr) (cs : Int32) (N1 : Nat) (g1 : Nat → Int32) (b1 : Addr) (k1 : ClassId) (h0 : Heap) (n0 : Nat) (Z0 : n0 ≤ h0.size) (O0 : Old Z n0 h0) (S_CS0 : Sta Z Z.heap "java/lang/String" "COMPACT_STRINGS" "Z" (.int cs)) (hcs : ¬ cs = 0) (E_a1 : Exa Z h0 a1 "java/lang/String") (Fv_a1 : Fld Z h0 a1 "java/lang/String" "value" "[B" (.ref b1)) (Fc_a1 : Fld Z h0 a1 "java/lang/String" "coder" "B" (.int (0 : Int32))) (V_b1 : Avf Z h0 b1 k1 .byte N1 (fun i => (.int (g1 i)))) (hN : 1 ≤ N1) :
    Met l Z EL [] (fun _ _ _ => False) n0 (⟨"java/lang/String", "isEmpty", "()Z"⟩ : MethodName) jdk_42_method_55_code 1 (some .boolean) ws Rm20 #[(.ref a1)] h0 (fun v h => v = some (.int 0) ∧ h0 = h) := by
  refine enter (Ls := #[.val (.ref a1)]) (plainFor_of_name pn1) (fun m => by first | (simp [entryFrame, mkF, argsToLocals, Value.category]; done) | rfl) ?_
  intro p e s m below meth c T0 hx hby hml hown hnm hret hlk hZ X0
  have S_CS := S_CS0.ext O0.2
  show Go p.tables e below _ (T0.setTop (mkF m 0 #[.val (.ref a1)] []))
  refine Go.by (fun _ => XS.aloadN X0.here hx rfl (hb hby d20_0) rfl rfl) ?_
  show Go p.tables e below _ (T0.setTop (mkF m 1 #[.val (.ref a1)] [(.ref a1)]))
  obtain ⟨T1, X1, st1⟩ := X0.getF hx hZ hown (host := "") (Or.inl (tw hw 36 rfl)) Via.refl Fv_a1 (g := (mkF m 1 #[.val (.ref a1)] [(.ref a1)])) rfl rfl (hb hby d20_1)
  refine Go.by st1 ?_
  show Go p.tables e below _ (T1.setTop (mkF m 4 #[.val (.ref a1)] [(.ref b1)]))
  refine Go.by (X1.len hx hZ V_b1 (z := (N1.toInt32)) rfl (g := (mkF m 4 #[.val (.ref a1)] [(.ref b1)])) rfl rfl (hb hby d20_4)) ?_
  show Go p.tables e below _ (T1.setTop (mkF m 5 #[.val (.ref a1)] [(.int (N1.toInt32))]))
  refine Go.by (fun _ => XS.ifYes X1.here hx rfl (pc0 := 5) (pc' := 12) rfl (hb hby d20_5) rfl ((if0 _ _).trans (feq ((n32_ne0 (avf_sz V_b1) hN))).2) (by decide) (by decide)) ?_
  show Go p.tables e below _ (T1.setTop (mkF m 12 #[.val (.ref a1)] []))
  refine Go.by (fun _ => XS.iconst X1.here hx rfl (hb hby d20_12)) ?_
  show Go p.tables e below _ (T1.setTop (mkF m 13 #[.val (.ref a1)] [(.int (0 : Int32))]))
  exact Go.retN X1 hx hlk (z' := (0 : Int32)) hret (by simp) (hb hby d20_13) rfl (by decide) (by decide) (fun _ z => z.elim) ⟨rfl, rfl⟩
theorem d15_0 : decode jdk_43_method_44_code 0 = .ok (.aload_n 0, 1) := by decide +kernel
theorem d15_1 : decode jdk_43_method_44_code 1 = .ok (.iload_n 1, 1) := by decide +kernel
theorem d15_2 : decode jdk_43_method_44_code 2 = .ok (.baload, 1) := by decide +kernel
theorem d15_3 : decode jdk_43_method_44_code 3 = .ok (.sipush 255, 3) := by decide +kernel
theorem d15_6 : decode jdk_43_method_44_code 6 = .ok (.iand, 1) := by decide +kernel
theorem d15_7 : decode jdk_43_method_44_code 7 = .ok (.i2c, 1) := by decide +kernel
theorem d15_8 : decode jdk_43_method_44_code 8 = .ok (.ireturn, 1) := by decide +kernel
abbrev Rm15 : Room := { frames := 0, cells := 0, slots := 0, locals := 0 }
set_option maxRecDepth 65536 in
set_option maxHeartbeats 40000000 in
theorem rm15 (l : Launch) (Z : State) (a0 : Array Value) (hw : ∀ d ∈ tables_1, d.before a0 Z = true) (ws : List Jvm.Cond) (b1 : Addr) (k1 : ClassId) (N1 : Nat) (g1 : Nat → Int32) (i : Nat) (h0 : Heap) (n0 : Nat) (Z0 : n0 ≤ h0.size) (V_b1 : Avf Z h0 b1 k1 .byte N1 (fun i => (.int (g1 i)))) (hi : i < N1) :
    Met l Z EL [] (fun _ _ _ => False) n0 (⟨"java/lang/StringLatin1", "getChar", "([BI)C"⟩ : MethodName) jdk_43_method_44_code 2 (some .char) ws Rm15 #[(.ref b1), (.int (Int32.ofNat i))] h0 (fun v h => v = some (.int (g1 i &&& (255 : Int32))) ∧ h0 = h) := by
  refine enter (Ls := #[.val (.ref b1), .val (.int (Int32.ofNat i))]) (plainFor_of_name pn0) (fun m => by first | (simp [entryFrame, mkF, argsToLocals, Value.category]; done) | rfl) ?_
  intro p e s m below meth c T0 hx hby hml hown hnm hret hlk hZ X0
  have hN := avf_sz V_b1
  show Go p.tables e below _ (T0.setTop (mkF m 0 #[.val (.ref b1), .val (.int (Int32.ofNat i))] []))
  refine Go.by (fun _ => XS.aloadN X0.here hx rfl (hb hby d15_0) rfl rfl) ?_
  show Go p.tables e below _ (T0.setTop (mkF m 1 #[.val (.ref b1), .val (.int (Int32.ofNat i))] [(.ref b1)]))
  refine Go.by (fun _ => XS.iloadN X0.here hx rfl (hb hby d15_1) rfl) ?_
  show Go p.tables e below _ (T0.setTop (mkF m 2 #[.val (.ref b1), .val (.int (Int32.ofNat i))] [(.int (Int32.ofNat i)), (.ref b1)]))
  refine Go.by (X0.ldB hx hZ V_b1 (i32_nneg (by omega)) (i := i) (i32_nat (by omega)) hi (v := (.int (g1 i))) rfl (g := (mkF m 2 #[.val (.ref b1), .val (.int (Int32.ofNat i))] [(.int (Int32.ofNat i)), (.ref b1)])) rfl rfl (hb hby d15_2)) ?_
  show Go p.tables e below _ (T0.setTop (mkF m 3 #[.val (.ref b1), .val (.int (Int32.ofNat i))] [(.int (g1 i))]))
  refine Go.by (fun _ => XS.sipush X0.here hx rfl (hb hby d15_3)) ?_
  show Go p.tables e below _ (T0.setTop (mkF m 6 #[.val (.ref b1), .val (.int (Int32.ofNat i))] [(.int (255 : Int32)), (.int (g1 i))]))
  refine Go.by (fun _ => XS.iand X0.here hx rfl (hb hby d15_6) rfl) ?_
  show Go p.tables e below _ (T0.setTop (mkF m 7 #[.val (.ref b1), .val (.int (Int32.ofNat i))] [(.int ((g1 i) &&& (255 : Int32)))]))
  refine Go.by (fun _ => XS.i2c X0.here hx rfl (hb hby d15_7) rfl) ?_
  show Go p.tables e below _ (T0.setTop (mkF m 8 #[.val (.ref b1), .val (.int (Int32.ofNat i))] [(.int (((g1 i) &&& (255 : Int32)).toUInt32.toUInt16.toUInt32.toInt32))]))
  exact Go.retN X0 hx hlk (z' := (g1 i &&& (255 : Int32))) hret (by simp) (hb hby d15_8) (own_nc (own_byte _)) (by decide) (by decide) (fun _ z => z.elim) ⟨rfl, rfl⟩
theorem d17_0 : decode jdk_116_method_1_code 0 = .ok (.iload_n 1, 1) := by decide +kernel
theorem d17_1 : decode jdk_116_method_1_code 1 = .ok (.i2c, 1) := by decide +kernel
theorem d17_2 : decode jdk_116_method_1_code 2 = .ok (.istore_n 2, 1) := by decide +kernel
theorem d17_3 : decode jdk_116_method_1_code 3 = .ok (.getstatic 1, 3) := by decide +kernel
theorem d17_6 : decode jdk_116_method_1_code 6 = .ok (.iload_n 2, 1) := by decide +kernel
theorem d17_7 : decode jdk_116_method_1_code 7 = .ok (.iaload, 1) := by decide +kernel
theorem d17_8 : decode jdk_116_method_1_code 8 = .ok (.istore_n 3, 1) := by decide +kernel
theorem d17_9 : decode jdk_116_method_1_code 9 = .ok (.iload_n 3, 1) := by decide +kernel
theorem d17_10 : decode jdk_116_method_1_code 10 = .ok (.ireturn, 1) := by decide +kernel
abbrev Rm17 : Room := { frames := 0, cells := 0, slots := 0, locals := 0 }
theorem pn3 : plainName "java/lang/CharacterDataLatin1" = true := by first | (simp [plainName, overriddenIn]; done) | decide +kernel
set_option maxRecDepth 65536 in
set_option maxHeartbeats 40000000 in
theorem rm17 (l : Launch) (Z : State) (a0 : Array Value) (hw : ∀ d ∈ tables_1, d.before a0 Z = true) (ws : List Jvm.Cond) (a1 : Addr) (p1 : Int32) (aA aI : Addr) (kA : ClassId) (h0 : Heap) (n0 : Nat) (Z0 : n0 ≤ h0.size) (O0 : Old Z n0 h0) (S_A0 : Sta Z Z.heap "java/lang/CharacterDataLatin1" "A" "[I" (.ref aA)) (V_A0 : Avf Z Z.heap aA kA .int 256 (fun i => (.int (tabA i)))) (S_I0 : Sta Z Z.heap "java/lang/CharacterDataLatin1" "instance" "Ljava/lang/CharacterDataLatin1;" (.ref aI)) (E_I0 : Exa Z Z.heap aI "java/lang/CharacterDataLatin1") (hp : 0 ≤ p1.toInt ∧ p1.toInt ≤ 255) :
    Met l Z EL [] (fun _ _ _ => False) n0 (⟨"java/lang/CharacterDataLatin1", "getProperties", "(I)I"⟩ : MethodName) jdk_116_method_1_code 4 (some .int) ws Rm17 #[(.ref a1), (.int p1)] h0 (fun v h => v = some (.int (tabA p1.toInt.toNat)) ∧ h0 = h) := by
  refine enter (Ls := #[.val (.ref a1), .val (.int p1), .unset, .unset]) (plainFor_of_name pn3) (fun m => by first | (simp [entryFrame, mkF, argsToLocals, Value.category]; done) | rfl) ?_
  intro p e s m below meth c T0 hx hby hml hown hnm hret hlk hZ X0
  have S_A := S_A0.ext O0.2
  have V_A := Avf.ext V_A0 O0.2
  have S_I := S_I0.ext O0.2
  have E_I := E_I0.ext O0.2
  show Go p.tables e below _ (T0.setTop (mkF m 0 #[.val (.ref a1), .val (.int p1), .unset, .unset] []))
  refine Go.by (fun _ => XS.iloadN X0.here hx rfl (hb hby d17_0) rfl) ?_
  show Go p.tables e below _ (T0.setTop (mkF m 1 #[.val (.ref a1), .val (.int p1), .unset, .unset] [(.int p1)]))
  refine Go.by (fun _ => XS.i2c X0.here hx rfl (hb hby d17_1) rfl) ?_
  show Go p.tables e below _ (T0.setTop (mkF m 2 #[.val (.ref a1), .val (.int p1), .unset, .unset] [(.int (p1.toUInt32.toUInt16.toUInt32.toInt32))]))
  refine Go.by (fun _ => XS.istoreN X0.here hx rfl (hb hby d17_2) rfl (l' := #[.val (.ref a1), .val (.int p1), .val (.int (p1.toUInt32.toUInt16.toUInt32.toInt32)), .unset]) rfl) ?_
  show Go p.tables e below _ (T0.setTop (mkF m 3 #[.val (.ref a1), .val (.int p1), .val (.int (p1.toUInt32.toUInt16.toUInt32.toInt32)), .unset] []))
  obtain ⟨T1, X1, st1⟩ := X0.getS hx hZ hown (host := "") (Or.inl (tw hw 89 rfl)) Via.refl S_A (g := (mkF m 3 #[.val (.ref a1), .val (.int p1), .val (.int (p1.toUInt32.toUInt16.toUInt32.toInt32)), .unset] [])) rfl (hb hby d17_3)
  refine Go.by st1 ?_
  show Go p.tables e below _ (T1.setTop (mkF m 6 #[.val (.ref a1), .val (.int p1), .val (.int (p1.toUInt32.toUInt16.toUInt32.toInt32)), .unset] [(.ref aA)]))
  refine Go.by (fun _ => XS.iloadN X1.here hx rfl (hb hby d17_6) rfl) ?_
  show Go p.tables e below _ (T1.setTop (mkF m 7 #[.val (.ref a1), .val (.int p1), .val (.int (p1.toUInt32.toUInt16.toUInt32.toInt32)), .unset] [(.int (p1.toUInt32.toUInt16.toUInt32.toInt32)), (.ref aA)]))
  refine Go.by (X1.ldI hx hZ V_A (own_ix0 hp) (i := p1.toInt.toNat) (own_ix1 hp) (by omega) (v := (.int (tabA p1.toInt.toNat))) rfl (g := (mkF m 7 #[.val (.ref a1), .val (.int p1), .val (.int (p1.toUInt32.toUInt16.toUInt32.toInt32)), .unset] [(.int (p1.toUInt32.toUInt16.toUInt32.toInt32)), (.ref aA)])) rfl rfl (hb hby d17_7)) ?_
  show Go p.tables e below _ (T1.setTop (mkF m 8 #[.val (.ref a1), .val (.int p1), .val (.int (p1.toUInt32.toUInt16.toUInt32.toInt32)), .unset] [(.int (tabA p1.toInt.toNat))]))
  refine Go.by (fun _ => XS.istoreN X1.here hx rfl (hb hby d17_8) rfl (l' := #[.val (.ref a1), .val (.int p1), .val (.int (p1.toUInt32.toUInt16.toUInt32.toInt32)), .val (.int (tabA p1.toInt.toNat))]) rfl) ?_
  show Go p.tables e below _ (T1.setTop (mkF m 9 #[.val (.ref a1), .val (.int p1), .val (.int (p1.toUInt32.toUInt16.toUInt32.toInt32)), .val (.int (tabA p1.toInt.toNat))] []))
  refine Go.by (fun _ => XS.iloadN X1.here hx rfl (hb hby d17_9) rfl) ?_
  show Go p.tables e below _ (T1.setTop (mkF m 10 #[.val (.ref a1), .val (.int p1), .val (.int (p1.toUInt32.toUInt16.toUInt32.toInt32)), .val (.int (tabA p1.toInt.toNat))] [(.int (tabA p1.toInt.toNat))]))
  exact Go.retI X1 hx hlk hret (hb hby d17_10) (by decide) (by decide) (fun _ z => z.elim) ⟨rfl, rfl⟩
theorem d16_0 : decode jdk_116_method_26_code 0 = .ok (.aload_n 0, 1) := by decide +kernel
theorem d16_1 : decode jdk_116_method_26_code 1 = .ok (.iload_n 1, 1) := by decide +kernel
theorem d16_2 : decode jdk_116_method_26_code 2 = .ok (.invokevirtual 15, 3) := by decide +kernel
theorem pd6 : parseMethodDescriptor "(I)I" = some ⟨[.int], some .int⟩ := by decide +kernel
theorem d16_5 : decode jdk_116_method_26_code 5 = .ok (.istore_n 2, 1) := by decide +kernel
theorem d16_6 : decode jdk_116_method_26_code 6 = .ok (.iload_n 2, 1) := by decide +kernel
theorem d16_7 : decode jdk_116_method_26_code 7 = .ok (.sipush 28672, 3) := by decide +kernel
theorem d16_10 : decode jdk_116_method_26_code 10 = .ok (.iand, 1) := by decide +kernel
theorem d16_11 : decode jdk_116_method_26_code 11 = .ok (.sipush 16384, 3) := by decide +kernel
theorem d16_14 : decode jdk_116_method_26_code 14 = .ok (.if_icmp .ne 7, 3) := by decide +kernel
theorem d16_17 : decode jdk_116_method_26_code 17 = .ok (.iconst 1, 1) := by decide +kernel
theorem d16_18 : decode jdk_116_method_26_code 18 = .ok (.goto 4, 3) := by decide +kernel
theorem d16_22 : decode jdk_116_method_26_code 22 = .ok (.ireturn, 1) := by decide +kernel
theorem d16_21 : decode jdk_116_method_26_code 21 = .ok (.iconst 0, 1) := by decide +kernel
abbrev Rm16 : Room := { frames := 1, cells := 0, slots := 0, locals := 15 }
set_option maxRecDepth 65536 in
set_option maxHeartbeats 40000000 in
theorem rm16 (l : Launch) (Z : State) (a0 : Array Value) (hw : ∀ d ∈ tables_1, d.before a0 Z = true) (ws : List Jvm.Cond) (a1 : Addr) (p1 : Int32) (aA aI : Addr) (kA : ClassId) (h0 : Heap) (n0 : Nat) (Z0 : n0 ≤ h0.size) (O0 : Old Z n0 h0) (S_A0 : Sta Z Z.heap "java/lang/CharacterDataLatin1" "A" "[I" (.ref aA)) (V_A0 : Avf Z Z.heap aA kA .int 256 (fun i => (.int (tabA i)))) (S_I0 : Sta Z Z.heap "java/lang/CharacterDataLatin1" "instance" "Ljava/lang/CharacterDataLatin1;" (.ref aI)) (E_I0 : Exa Z Z.heap aI "java/lang/CharacterDataLatin1") (hp : 0 ≤ p1.toInt ∧ p1.toInt ≤ 255) (E_a1 : Exa Z h0 a1 "java/lang/CharacterDataLatin1") :
    Met l Z EL [] (fun _ _ _ => False) n0 (⟨"java/lang/CharacterDataLatin1", "isWhitespace", "(I)Z"⟩ : MethodName) jdk_116_method_26_code 3 (some .boolean) ws Rm16 #[(.ref a1), (.int p1)] h0 (fun v h => ∃ r : Int32, v = some (.int r) ∧ (¬ wsI p1 → r = 0) ∧ h0 = h) := by
  refine enter (Ls := #[.val (.ref a1), .val (.int p1), .unset]) (plainFor_of_name pn3) (fun m => by first | (simp [entryFrame, mkF, argsToLocals, Value.category]; done) | rfl) ?_
  intro p e s m below meth c T0 hx hby hml hown hnm hret hlk hZ X0
  have S_A := S_A0.ext O0.2
  have V_A := Avf.ext V_A0 O0.2
  have S_I := S_I0.ext O0.2
  have E_I := E_I0.ext O0.2
  show Go p.tables e below _ (T0.setTop (mkF m 0 #[.val (.ref a1), .val (.int p1), .unset] []))
  refine Go.by (fun _ => XS.aloadN X0.here hx rfl (hb hby d16_0) rfl rfl) ?_
  show Go p.tables e below _ (T0.setTop (mkF m 1 #[.val (.ref a1), .val (.int p1), .unset] [(.ref a1)]))
  refine Go.by (fun _ => XS.iloadN X0.here hx rfl (hb hby d16_1) rfl) ?_
  show Go p.tables e below _ (T0.setTop (mkF m 2 #[.val (.ref a1), .val (.int p1), .unset] [(.int p1), (.ref a1)]))
  obtain ⟨v1, T1, h1, X1, q1, xs1, st1⟩ := X0.callV hx hZ f0n (y := (⟨"java/lang/CharacterDataLatin1", "getProperties", "(I)I"⟩ : MethodName)) (z := (⟨"java/lang/CharacterDataLatin1", "getProperties", "(I)I"⟩ : MethodName)) hown (tw hw 84 rfl) (tw hw 85 rfl) (fun _ hZ => notFace_of_selects (args := #[]) (mvT hZ (tw hw 87 rfl))) (tw hw 87 rfl) (tw hw 86 rfl) (tw hw 78 rfl) (tw hw 88 rfl) (by decide) (rm17 l Z a0 hw [] a1 p1 aA aI kA h0 n0 Z0 O0 S_A0 V_A0 S_I0 E_I0 hp) E_a1 (g := (mkF m 2 #[.val (.ref a1), .val (.int p1), .unset] [(.int p1), (.ref a1)])) rfl (by rw [hml]; rfl) (argsL := [(.int p1)]) (rest := []) (lenOf pd6 rfl) rfl (hb hby d16_2) rfl (by decide) (Nat.le_of_ble_eq_true rfl) (k' := 0) (n' := 0) rfl rfl (by decide) (by decide)
  refine Go.by st1 ?_
  obtain ⟨rfl, rfl⟩ := q1
  show Go p.tables e below _ (T1.setTop (mkF m 5 #[.val (.ref a1), .val (.int p1), .unset] [(.int (tabA p1.toInt.toNat))]))
  refine Go.by (fun _ => XS.istoreN X1.here hx rfl (hb hby d16_5) rfl (l' := #[.val (.ref a1), .val (.int p1), .val (.int (tabA p1.toInt.toNat))]) rfl) ?_
  show Go p.tables e below _ (T1.setTop (mkF m 6 #[.val (.ref a1), .val (.int p1), .val (.int (tabA p1.toInt.toNat))] []))
  refine Go.by (fun _ => XS.iloadN X1.here hx rfl (hb hby d16_6) rfl) ?_
  show Go p.tables e below _ (T1.setTop (mkF m 7 #[.val (.ref a1), .val (.int p1), .val (.int (tabA p1.toInt.toNat))] [(.int (tabA p1.toInt.toNat))]))
  refine Go.by (fun _ => XS.sipush X1.here hx rfl (hb hby d16_7)) ?_
  show Go p.tables e below _ (T1.setTop (mkF m 10 #[.val (.ref a1), .val (.int p1), .val (.int (tabA p1.toInt.toNat))] [(.int (28672 : Int32)), (.int (tabA p1.toInt.toNat))]))
  refine Go.by (fun _ => XS.iand X1.here hx rfl (hb hby d16_10) rfl) ?_
  show Go p.tables e below _ (T1.setTop (mkF m 11 #[.val (.ref a1), .val (.int p1), .val (.int (tabA p1.toInt.toNat))] [(.int ((tabA p1.toInt.toNat) &&& (28672 : Int32)))]))
  refine Go.by (fun _ => XS.sipush X1.here hx rfl (hb hby d16_11)) ?_
  show Go p.tables e below _ (T1.setTop (mkF m 14 #[.val (.ref a1), .val (.int p1), .val (.int (tabA p1.toInt.toNat))] [(.int (16384 : Int32)), (.int ((tabA p1.toInt.toNat) &&& (28672 : Int32)))]))
  by_cases hc14_2 : ((tabA p1.toInt.toNat) &&& (28672 : Int32)) = (16384 : Int32)
  · skip
    refine Go.by (fun _ => XS.icmpNo X1.here hx rfl (hb hby d16_14) rfl (teq hc14_2).2) ?_
    show Go p.tables e below _ (T1.setTop (mkF m 17 #[.val (.ref a1), .val (.int p1), .val (.int (tabA p1.toInt.toNat))] []))
    refine Go.by (fun _ => XS.iconst X1.here hx rfl (hb hby d16_17)) ?_
    show Go p.tables e below _ (T1.setTop (mkF m 18 #[.val (.ref a1), .val (.int p1), .val (.int (tabA p1.toInt.toNat))] [(.int (1 : Int32))]))
    refine Go.by (fun _ => XS.goto X1.here hx rfl (pc0 := 18) (pc' := 22) rfl (hb hby d16_18) (by decide) (by decide)) ?_
    show Go p.tables e below _ (T1.setTop (mkF m 22 #[.val (.ref a1), .val (.int p1), .val (.int (tabA p1.toInt.toNat))] [(.int (1 : Int32))]))
    exact Go.retN X1 hx hlk (z' := (1 : Int32)) hret (by simp) (hb hby d16_22) rfl (by decide) (by decide) (fun _ z => z.elim) ⟨_, rfl, fun hn => absurd hc14_2 (own_ws hp hn), rfl⟩
  · skip
    refine Go.by (fun _ => XS.icmpYes X1.here hx rfl (pc0 := 14) (pc' := 21) rfl (hb hby d16_14) rfl (feq hc14_2).2 (by decide) (by decide)) ?_
    show Go p.tables e below _ (T1.setTop (mkF m 21 #[.val (.ref a1), .val (.int p1), .val (.int (tabA p1.toInt.toNat))] []))
    refine Go.by (fun _ => XS.iconst X1.here hx rfl (hb hby d16_21)) ?_
    show Go p.tables e below _ (T1.setTop (mkF m 22 #[.val (.ref a1), .val (.int p1), .val (.int (tabA p1.toInt.toNat))] [(.int (0 : Int32))]))
    exact Go.retN X1 hx hlk (z' := (0 : Int32)) hret (by simp) (hb hby d16_22) rfl (by decide) (by decide) (fun _ z => z.elim) ⟨_, rfl, fun hn => rfl, rfl⟩
theorem d14_0 : decode jdk_43_method_37_code 0 = .ok (.aload_n 0, 1) := by decide +kernel
theorem d14_1 : decode jdk_43_method_37_code 1 = .ok (.arraylength, 1) := by decide +kernel
theorem d14_2 : decode jdk_43_method_37_code 2 = .ok (.istore_n 1, 1) := by decide +kernel
theorem d14_3 : decode jdk_43_method_37_code 3 = .ok (.iconst 0, 1) := by decide +kernel
theorem d14_4 : decode jdk_43_method_37_code 4 = .ok (.istore_n 2, 1) := by decide +kernel
theorem d14_5 : decode jdk_43_method_37_code 5 = .ok (.iload_n 2, 1) := by decide +kernel
theorem d14_6 : decode jdk_43_method_37_code 6 = .ok (.iload_n 1, 1) := by decide +kernel
theorem d14_7 : decode jdk_43_method_37_code 7 = .ok (.if_icmp .ge 40, 3) := by decide +kernel
theorem d14_10 : decode jdk_43_method_37_code 10 = .ok (.aload_n 0, 1) := by decide +kernel
theorem d14_11 : decode jdk_43_method_37_code 11 = .ok (.iload_n 2, 1) := by decide +kernel
theorem d14_12 : decode jdk_43_method_37_code 12 = .ok (.invokestatic 50, 3) := by decide +kernel
theorem pd7 : parseMethodDescriptor "([BI)C" = some ⟨[(.array .byte), .int], some .char⟩ := by decide +kernel
theorem d14_15 : decode jdk_43_method_37_code 15 = .ok (.istore_n 3, 1) := by decide +kernel
theorem d14_16 : decode jdk_43_method_37_code 16 = .ok (.iload_n 3, 1) := by decide +kernel
theorem d14_17 : decode jdk_43_method_37_code 17 = .ok (.bipush 32, 2) := by decide +kernel
theorem d14_19 : decode jdk_43_method_37_code 19 = .ok (.if_icmp .eq 22, 3) := by decide +kernel
theorem d14_22 : decode jdk_43_method_37_code 22 = .ok (.iload_n 3, 1) := by decide +kernel
theorem d14_23 : decode jdk_43_method_37_code 23 = .ok (.bipush 9, 2) := by decide +kernel
theorem d14_25 : decode jdk_43_method_37_code 25 = .ok (.if_icmp .eq 16, 3) := by decide +kernel
theorem d14_28 : decode jdk_43_method_37_code 28 = .ok (.getstatic 66, 3) := by decide +kernel
theorem d14_31 : decode jdk_43_method_37_code 31 = .ok (.iload_n 3, 1) := by decide +kernel
theorem d14_32 : decode jdk_43_method_37_code 32 = .ok (.invokevirtual 211, 3) := by decide +kernel
theorem pd8 : parseMethodDescriptor "(I)Z" = some ⟨[.int], some .boolean⟩ := by decide +kernel
theorem d14_35 : decode jdk_43_method_37_code 35 = .ok (.ifCond .ne 6, 3) := by decide +kernel
theorem d14_38 : decode jdk_43_method_37_code 38 = .ok (.goto 9, 3) := by decide +kernel
theorem d14_47 : decode jdk_43_method_37_code 47 = .ok (.iload_n 2, 1) := by decide +kernel
theorem d14_48 : decode jdk_43_method_37_code 48 = .ok (.ireturn, 1) := by decide +kernel
theorem d14_41 : decode jdk_43_method_37_code 41 = .ok (.iinc 2 1, 3) := by decide +kernel
theorem d14_44 : decode jdk_43_method_37_code 44 = .ok (.goto (-39), 3) := by decide +kernel
abbrev Rm14 : Room := { frames := 2, cells := 0, slots := 0, locals := 29 }
set_option maxRecDepth 65536 in
set_option maxHeartbeats 40000000 in
theorem rm14 (l : Launch) (Z : State) (a0 : Array Value) (hw : ∀ d ∈ tables_1, d.before a0 Z = true) (ws : List Jvm.Cond) (b1 : Addr) (aA aI : Addr) (kA : ClassId) (k1 : ClassId) (N1 : Nat) (g1 : Nat → Int32) (h0 : Heap) (n0 : Nat) (Z0 : n0 ≤ h0.size) (O0 : Old Z n0 h0) (S_A0 : Sta Z Z.heap "java/lang/CharacterDataLatin1" "A" "[I" (.ref aA)) (V_A0 : Avf Z Z.heap aA kA .int 256 (fun i => (.int (tabA i)))) (S_I0 : Sta Z Z.heap "java/lang/CharacterDataLatin1" "instance" "Ljava/lang/CharacterDataLatin1;" (.ref aI)) (E_I0 : Exa Z Z.heap aI "java/lang/CharacterDataLatin1") (V_b1 : Avf Z h0 b1 k1 .byte N1 (fun i => (.int (g1 i)))) (hbl : ∃ j, j < N1 ∧ ¬ wsI (g1 j &&& (255 : Int32))) :
    Met l Z EL [] (fun _ _ _ => False) n0 (⟨"java/lang/StringLatin1", "indexOfNonWhitespace", "([B)I"⟩ : MethodName) jdk_43_method_37_code 4 (some .int) ws Rm14 #[(.ref b1)] h0 (fun v h => ∃ i, i < N1 ∧ v = some (.int (Int32.ofNat i)) ∧ h0 = h) := by
  refine enter (Ls := #[.val (.ref b1), .unset, .unset, .unset]) (plainFor_of_name pn0) (fun m => by first | (simp [entryFrame, mkF, argsToLocals, Value.category]; done) | rfl) ?_
  intro p e s m below meth c T0 hx hby hml hown hnm hret hlk hZ X0
  have S_A := S_A0.ext O0.2
  have V_A := Avf.ext V_A0 O0.2
  have S_I := S_I0.ext O0.2
  have E_I := E_I0.ext O0.2
  show Go p.tables e below _ (T0.setTop (mkF m 0 #[.val (.ref b1), .unset, .unset, .unset] []))
  refine Go.by (fun _ => XS.aloadN X0.here hx rfl (hb hby d14_0) rfl rfl) ?_
  show Go p.tables e below _ (T0.setTop (mkF m 1 #[.val (.ref b1), .unset, .unset, .unset] [(.ref b1)]))
  refine Go.by (X0.len hx hZ V_b1 (z := (N1.toInt32)) rfl (g := (mkF m 1 #[.val (.ref b1), .unset, .unset, .unset] [(.ref b1)])) rfl rfl (hb hby d14_1)) ?_
  show Go p.tables e below _ (T0.setTop (mkF m 2 #[.val (.ref b1), .unset, .unset, .unset] [(.int (N1.toInt32))]))
  refine Go.by (fun _ => XS.istoreN X0.here hx rfl (hb hby d14_2) rfl (l' := #[.val (.ref b1), .val (.int (N1.toInt32)), .unset, .unset]) rfl) ?_
  show Go p.tables e below _ (T0.setTop (mkF m 3 #[.val (.ref b1), .val (.int (N1.toInt32)), .unset, .unset] []))
  refine Go.by (fun _ => XS.iconst X0.here hx rfl (hb hby d14_3)) ?_
  show Go p.tables e below _ (T0.setTop (mkF m 4 #[.val (.ref b1), .val (.int (N1.toInt32)), .unset, .unset] [(.int (0 : Int32))]))
  refine Go.by (fun _ => XS.istoreN X0.here hx rfl (hb hby d14_4) rfl (l' := #[.val (.ref b1), .val (.int (N1.toInt32)), .val (.int (0 : Int32)), .unset]) rfl) ?_
  show Go p.tables e below _ (T0.setTop (mkF m 5 #[.val (.ref b1), .val (.int (N1.toInt32)), .val (.int (0 : Int32)), .unset] []))
  have hN := avf_sz V_b1
  obtain ⟨j0, hj0, hn0⟩ := hbl
  have J : ∀ (kk i : Nat) (x3 : Slot), i + kk = j0 → (x3 = .unset ∨ ∃ z, x3 = .val (.int z)) → ∀ (Tj : State), Sd Z EL [] n0 p l e Rm14 s m #[(.ref b1)] below meth c Tj h0 0 0 → Go p.tables e below (Ret Z EL (fun _ _ _ => False) s n0 (fun v h => ∃ i, i < N1 ∧ v = some (.int (Int32.ofNat i)) ∧ h0 = h) Rm14.cells Rm14.slots) (Tj.setTop (mkF m 5 #[.val (.ref b1), .val (.int (N1.toInt32)), .val (.int (Int32.ofNat i)), x3] [])) := by
    intro kk
    induction kk with
    | zero =>
      intro i x3 hi hx3 Tj Xj
      have hi : i = j0 := hi
      subst hi
      have hlt : i < N1 := by omega
      have hg : Int32.ofNat i < N1.toInt32 := i32_lt hlt hN
      rcases hx3 with rfl | ⟨z3, rfl⟩
      · skip
        refine Go.by (fun _ => XS.iloadN Xj.here hx rfl (hb hby d14_5) rfl) ?_
        show Go p.tables e below _ (Tj.setTop (mkF m 6 #[.val (.ref b1), .val (.int (N1.toInt32)), .val (.int (Int32.ofNat i)), .unset] [(.int (Int32.ofNat i))]))
        refine Go.by (fun _ => XS.iloadN Xj.here hx rfl (hb hby d14_6) rfl) ?_
        show Go p.tables e below _ (Tj.setTop (mkF m 7 #[.val (.ref b1), .val (.int (N1.toInt32)), .val (.int (Int32.ofNat i)), .unset] [(.int (N1.toInt32)), (.int (Int32.ofNat i))]))
        refine Go.by (fun _ => XS.icmpNo Xj.here hx rfl (hb hby d14_7) rfl (tlt hg).2.1) ?_
        show Go p.tables e below _ (Tj.setTop (mkF m 10 #[.val (.ref b1), .val (.int (N1.toInt32)), .val (.int (Int32.ofNat i)), .unset] []))
        refine Go.by (fun _ => XS.aloadN Xj.here hx rfl (hb hby d14_10) rfl rfl) ?_
        show Go p.tables e below _ (Tj.setTop (mkF m 11 #[.val (.ref b1), .val (.int (N1.toInt32)), .val (.int (Int32.ofNat i)), .unset] [(.ref b1)]))
        refine Go.by (fun _ => XS.iloadN Xj.here hx rfl (hb hby d14_11) rfl) ?_
        show Go p.tables e below _ (Tj.setTop (mkF m 12 #[.val (.ref b1), .val (.int (N1.toInt32)), .val (.int (Int32.ofNat i)), .unset] [(.int (Int32.ofNat i)), (.ref b1)]))
        obtain ⟨v1, T1, h1, X1, q1, xs1, st1⟩ := Xj.callS hx hZ f0n (y := (⟨"java/lang/StringLatin1", "getChar", "([BI)C"⟩ : MethodName)) hown (tw hw 74 rfl) (tw hw 75 rfl) (tw hw 72 rfl) (tw hw 76 rfl) (by decide) (rm15 l Z a0 hw [] b1 k1 N1 g1 i h0 n0 Z0 V_b1 hlt) (g := (mkF m 12 #[.val (.ref b1), .val (.int (N1.toInt32)), .val (.int (Int32.ofNat i)), .unset] [(.int (Int32.ofNat i)), (.ref b1)])) rfl (by rw [hml]; rfl) (argsL := [(.ref b1), (.int (Int32.ofNat i))]) (rest := []) (lenOf pd7 rfl) rfl (hb hby d14_12) rfl (by decide) (Nat.le_of_ble_eq_true rfl) (k' := 0) (n' := 0) rfl rfl (by decide) (by decide)
        refine Go.by st1 ?_
        obtain ⟨rfl, rfl⟩ := q1
        show Go p.tables e below _ (T1.setTop (mkF m 15 #[.val (.ref b1), .val (.int (N1.toInt32)), .val (.int (Int32.ofNat i)), .unset] [(.int (g1 i &&& (255 : Int32)))]))
        refine Go.by (fun _ => XS.istoreN X1.here hx rfl (hb hby d14_15) rfl (l' := #[.val (.ref b1), .val (.int (N1.toInt32)), .val (.int (Int32.ofNat i)), .val (.int (g1 i &&& (255 : Int32)))]) rfl) ?_
        show Go p.tables e below _ (T1.setTop (mkF m 16 #[.val (.ref b1), .val (.int (N1.toInt32)), .val (.int (Int32.ofNat i)), .val (.int (g1 i &&& (255 : Int32)))] []))
        refine Go.by (fun _ => XS.iloadN X1.here hx rfl (hb hby d14_16) rfl) ?_
        show Go p.tables e below _ (T1.setTop (mkF m 17 #[.val (.ref b1), .val (.int (N1.toInt32)), .val (.int (Int32.ofNat i)), .val (.int (g1 i &&& (255 : Int32)))] [(.int (g1 i &&& (255 : Int32)))]))
        refine Go.by (fun _ => XS.bipush X1.here hx rfl (hb hby d14_17)) ?_
        show Go p.tables e below _ (T1.setTop (mkF m 19 #[.val (.ref b1), .val (.int (N1.toInt32)), .val (.int (Int32.ofNat i)), .val (.int (g1 i &&& (255 : Int32)))] [(.int (32 : Int32)), (.int (g1 i &&& (255 : Int32)))]))
        refine Go.by (fun _ => XS.icmpNo X1.here hx rfl (hb hby d14_19) rfl (feq ((own_32 hn0))).1) ?_
        show Go p.tables e below _ (T1.setTop (mkF m 22 #[.val (.ref b1), .val (.int (N1.toInt32)), .val (.int (Int32.ofNat i)), .val (.int (g1 i &&& (255 : Int32)))] []))
        refine Go.by (fun _ => XS.iloadN X1.here hx rfl (hb hby d14_22) rfl) ?_
        show Go p.tables e below _ (T1.setTop (mkF m 23 #[.val (.ref b1), .val (.int (N1.toInt32)), .val (.int (Int32.ofNat i)), .val (.int (g1 i &&& (255 : Int32)))] [(.int (g1 i &&& (255 : Int32)))]))
        refine Go.by (fun _ => XS.bipush X1.here hx rfl (hb hby d14_23)) ?_
        show Go p.tables e below _ (T1.setTop (mkF m 25 #[.val (.ref b1), .val (.int (N1.toInt32)), .val (.int (Int32.ofNat i)), .val (.int (g1 i &&& (255 : Int32)))] [(.int (9 : Int32)), (.int (g1 i &&& (255 : Int32)))]))
        refine Go.by (fun _ => XS.icmpNo X1.here hx rfl (hb hby d14_25) rfl (feq ((own_9 hn0))).1) ?_
        show Go p.tables e below _ (T1.setTop (mkF m 28 #[.val (.ref b1), .val (.int (N1.toInt32)), .val (.int (Int32.ofNat i)), .val (.int (g1 i &&& (255 : Int32)))] []))
        obtain ⟨T2, X2, st2⟩ := X1.getS hx hZ hown (host := "") (Or.inl (tw hw 77 rfl)) Via.refl S_I (g := (mkF m 28 #[.val (.ref b1), .val (.int (N1.toInt32)), .val (.int (Int32.ofNat i)), .val (.int (g1 i &&& (255 : Int32)))] [])) rfl (hb hby d14_28)
        refine Go.by st2 ?_
        show Go p.tables e below _ (T2.setTop (mkF m 31 #[.val (.ref b1), .val (.int (N1.toInt32)), .val (.int (Int32.ofNat i)), .val (.int (g1 i &&& (255 : Int32)))] [(.ref aI)]))
        refine Go.by (fun _ => XS.iloadN X2.here hx rfl (hb hby d14_31) rfl) ?_
        show Go p.tables e below _ (T2.setTop (mkF m 32 #[.val (.ref b1), .val (.int (N1.toInt32)), .val (.int (Int32.ofNat i)), .val (.int (g1 i &&& (255 : Int32)))] [(.int (g1 i &&& (255 : Int32))), (.ref aI)]))
        obtain ⟨v3, T3, h3, X3, q3, xs3, st3⟩ := X2.callV hx hZ f0n (y := (⟨"java/lang/CharacterDataLatin1", "isWhitespace", "(I)Z"⟩ : MethodName)) (z := (⟨"java/lang/CharacterDataLatin1", "isWhitespace", "(I)Z"⟩ : MethodName)) hown (tw hw 79 rfl) (tw hw 80 rfl) (fun _ hZ => notFace_of_selects (args := #[]) (mvT hZ (tw hw 82 rfl))) (tw hw 82 rfl) (tw hw 81 rfl) (tw hw 78 rfl) (tw hw 83 rfl) (by decide) (rm16 l Z a0 hw [] aI (g1 i &&& (255 : Int32)) aA aI kA h0 n0 Z0 O0 S_A0 V_A0 S_I0 E_I0 (own_byte _) E_I) E_I (g := (mkF m 32 #[.val (.ref b1), .val (.int (N1.toInt32)), .val (.int (Int32.ofNat i)), .val (.int (g1 i &&& (255 : Int32)))] [(.int (g1 i &&& (255 : Int32))), (.ref aI)])) rfl (by rw [hml]; rfl) (argsL := [(.int (g1 i &&& (255 : Int32)))]) (rest := []) (lenOf pd8 rfl) rfl (hb hby d14_32) rfl (by decide) (Nat.le_of_ble_eq_true rfl) (k' := 0) (n' := 0) rfl rfl (by decide) (by decide)
        refine Go.by st3 ?_
        obtain ⟨r3, rfl, hr3, rfl⟩ := q3
        show Go p.tables e below _ (T3.setTop (mkF m 35 #[.val (.ref b1), .val (.int (N1.toInt32)), .val (.int (Int32.ofNat i)), .val (.int (g1 i &&& (255 : Int32)))] [(.int r3)]))
        refine Go.by (fun _ => XS.ifNo X3.here hx rfl (hb hby d14_35) rfl ((if0 _ _).trans (teq ((hr3 hn0))).2)) ?_
        show Go p.tables e below _ (T3.setTop (mkF m 38 #[.val (.ref b1), .val (.int (N1.toInt32)), .val (.int (Int32.ofNat i)), .val (.int (g1 i &&& (255 : Int32)))] []))
        refine Go.by (fun _ => XS.goto X3.here hx rfl (pc0 := 38) (pc' := 47) rfl (hb hby d14_38) (by decide) (by decide)) ?_
        show Go p.tables e below _ (T3.setTop (mkF m 47 #[.val (.ref b1), .val (.int (N1.toInt32)), .val (.int (Int32.ofNat i)), .val (.int (g1 i &&& (255 : Int32)))] []))
        refine Go.by (fun _ => XS.iloadN X3.here hx rfl (hb hby d14_47) rfl) ?_
        show Go p.tables e below _ (T3.setTop (mkF m 48 #[.val (.ref b1), .val (.int (N1.toInt32)), .val (.int (Int32.ofNat i)), .val (.int (g1 i &&& (255 : Int32)))] [(.int (Int32.ofNat i))]))
        exact Go.retI X3 hx hlk hret (hb hby d14_48) (by decide) (by decide) (fun _ z => z.elim) ⟨i, hlt, rfl, rfl⟩
      · skip
        refine Go.by (fun _ => XS.iloadN Xj.here hx rfl (hb hby d14_5) rfl) ?_
        show Go p.tables e below _ (Tj.setTop (mkF m 6 #[.val (.ref b1), .val (.int (N1.toInt32)), .val (.int (Int32.ofNat i)), .val (.int z3)] [(.int (Int32.ofNat i))]))
        refine Go.by (fun _ => XS.iloadN Xj.here hx rfl (hb hby d14_6) rfl) ?_
        show Go p.tables e below _ (Tj.setTop (mkF m 7 #[.val (.ref b1), .val (.int (N1.toInt32)), .val (.int (Int32.ofNat i)), .val (.int z3)] [(.int (N1.toInt32)), (.int (Int32.ofNat i))]))
        refine Go.by (fun _ => XS.icmpNo Xj.here hx rfl (hb hby d14_7) rfl (tlt hg).2.1) ?_
        show Go p.tables e below _ (Tj.setTop (mkF m 10 #[.val (.ref b1), .val (.int (N1.toInt32)), .val (.int (Int32.ofNat i)), .val (.int z3)] []))
        refine Go.by (fun _ => XS.aloadN Xj.here hx rfl (hb hby d14_10) rfl rfl) ?_
        show Go p.tables e below _ (Tj.setTop (mkF m 11 #[.val (.ref b1), .val (.int (N1.toInt32)), .val (.int (Int32.ofNat i)), .val (.int z3)] [(.ref b1)]))
        refine Go.by (fun _ => XS.iloadN Xj.here hx rfl (hb hby d14_11) rfl) ?_
        show Go p.tables e below _ (Tj.setTop (mkF m 12 #[.val (.ref b1), .val (.int (N1.toInt32)), .val (.int (Int32.ofNat i)), .val (.int z3)] [(.int (Int32.ofNat i)), (.ref b1)]))
        obtain ⟨v4, T4, h4, X4, q4, xs4, st4⟩ := Xj.callS hx hZ f0n (y := (⟨"java/lang/StringLatin1", "getChar", "([BI)C"⟩ : MethodName)) hown (tw hw 74 rfl) (tw hw 75 rfl) (tw hw 72 rfl) (tw hw 76 rfl) (by decide) (rm15 l Z a0 hw [] b1 k1 N1 g1 i h0 n0 Z0 V_b1 hlt) (g := (mkF m 12 #[.val (.ref b1), .val (.int (N1.toInt32)), .val (.int (Int32.ofNat i)), .val (.int z3)] [(.int (Int32.ofNat i)), (.ref b1)])) rfl (by rw [hml]; rfl) (argsL := [(.ref b1), (.int (Int32.ofNat i))]) (rest := []) (lenOf pd7 rfl) rfl (hb hby d14_12) rfl (by decide) (Nat.le_of_ble_eq_true rfl) (k' := 0) (n' := 0) rfl rfl (by decide) (by decide)
        refine Go.by st4 ?_
        obtain ⟨rfl, rfl⟩ := q4
        show Go p.tables e below _ (T4.setTop (mkF m 15 #[.val (.ref b1), .val (.int (N1.toInt32)), .val (.int (Int32.ofNat i)), .val (.int z3)] [(.int (g1 i &&& (255 : Int32)))]))
        refine Go.by (fun _ => XS.istoreN X4.here hx rfl (hb hby d14_15) rfl (l' := #[.val (.ref b1), .val (.int (N1.toInt32)), .val (.int (Int32.ofNat i)), .val (.int (g1 i &&& (255 : Int32)))]) rfl) ?_
        show Go p.tables e below _ (T4.setTop (mkF m 16 #[.val (.ref b1), .val (.int (N1.toInt32)), .val (.int (Int32.ofNat i)), .val (.int (g1 i &&& (255 : Int32)))] []))
        refine Go.by (fun _ => XS.iloadN X4.here hx rfl (hb hby d14_16) rfl) ?_
        show Go p.tables e below _ (T4.setTop (mkF m 17 #[.val (.ref b1), .val (.int (N1.toInt32)), .val (.int (Int32.ofNat i)), .val (.int (g1 i &&& (255 : Int32)))] [(.int (g1 i &&& (255 : Int32)))]))
        refine Go.by (fun _ => XS.bipush X4.here hx rfl (hb hby d14_17)) ?_
        show Go p.tables e below _ (T4.setTop (mkF m 19 #[.val (.ref b1), .val (.int (N1.toInt32)), .val (.int (Int32.ofNat i)), .val (.int (g1 i &&& (255 : Int32)))] [(.int (32 : Int32)), (.int (g1 i &&& (255 : Int32)))]))
        refine Go.by (fun _ => XS.icmpNo X4.here hx rfl (hb hby d14_19) rfl (feq ((own_32 hn0))).1) ?_
        show Go p.tables e below _ (T4.setTop (mkF m 22 #[.val (.ref b1), .val (.int (N1.toInt32)), .val (.int (Int32.ofNat i)), .val (.int (g1 i &&& (255 : Int32)))] []))
        refine Go.by (fun _ => XS.iloadN X4.here hx rfl (hb hby d14_22) rfl) ?_
        show Go p.tables e below _ (T4.setTop (mkF m 23 #[.val (.ref b1), .val (.int (N1.toInt32)), .val (.int (Int32.ofNat i)), .val (.int (g1 i &&& (255 : Int32)))] [(.int (g1 i &&& (255 : Int32)))]))
        refine Go.by (fun _ => XS.bipush X4.here hx rfl (hb hby d14_23)) ?_
        show Go p.tables e below _ (T4.setTop (mkF m 25 #[.val (.ref b1), .val (.int (N1.toInt32)), .val (.int (Int32.ofNat i)), .val (.int (g1 i &&& (255 : Int32)))] [(.int (9 : Int32)), (.int (g1 i &&& (255 : Int32)))]))
        refine Go.by (fun _ => XS.icmpNo X4.here hx rfl (hb hby d14_25) rfl (feq ((own_9 hn0))).1) ?_
        show Go p.tables e below _ (T4.setTop (mkF m 28 #[.val (.ref b1), .val (.int (N1.toInt32)), .val (.int (Int32.ofNat i)), .val (.int (g1 i &&& (255 : Int32)))] []))
        obtain ⟨T5, X5, st5⟩ := X4.getS hx hZ hown (host := "") (Or.inl (tw hw 77 rfl)) Via.refl S_I (g := (mkF m 28 #[.val (.ref b1), .val (.int (N1.toInt32)), .val (.int (Int32.ofNat i)), .val (.int (g1 i &&& (255 : Int32)))] [])) rfl (hb hby d14_28)
        refine Go.by st5 ?_
        show Go p.tables e below _ (T5.setTop (mkF m 31 #[.val (.ref b1), .val (.int (N1.toInt32)), .val (.int (Int32.ofNat i)), .val (.int (g1 i &&& (255 : Int32)))] [(.ref aI)]))
        refine Go.by (fun _ => XS.iloadN X5.here hx rfl (hb hby d14_31) rfl) ?_
        show Go p.tables e below _ (T5.setTop (mkF m 32 #[.val (.ref b1), .val (.int (N1.toInt32)), .val (.int (Int32.ofNat i)), .val (.int (g1 i &&& (255 : Int32)))] [(.int (g1 i &&& (255 : Int32))), (.ref aI)]))
        obtain ⟨v6, T6, h6, X6, q6, xs6, st6⟩ := X5.callV hx hZ f0n (y := (⟨"java/lang/CharacterDataLatin1", "isWhitespace", "(I)Z"⟩ : MethodName)) (z := (⟨"java/lang/CharacterDataLatin1", "isWhitespace", "(I)Z"⟩ : MethodName)) hown (tw hw 79 rfl) (tw hw 80 rfl) (fun _ hZ => notFace_of_selects (args := #[]) (mvT hZ (tw hw 82 rfl))) (tw hw 82 rfl) (tw hw 81 rfl) (tw hw 78 rfl) (tw hw 83 rfl) (by decide) (rm16 l Z a0 hw [] aI (g1 i &&& (255 : Int32)) aA aI kA h0 n0 Z0 O0 S_A0 V_A0 S_I0 E_I0 (own_byte _) E_I) E_I (g := (mkF m 32 #[.val (.ref b1), .val (.int (N1.toInt32)), .val (.int (Int32.ofNat i)), .val (.int (g1 i &&& (255 : Int32)))] [(.int (g1 i &&& (255 : Int32))), (.ref aI)])) rfl (by rw [hml]; rfl) (argsL := [(.int (g1 i &&& (255 : Int32)))]) (rest := []) (lenOf pd8 rfl) rfl (hb hby d14_32) rfl (by decide) (Nat.le_of_ble_eq_true rfl) (k' := 0) (n' := 0) rfl rfl (by decide) (by decide)
        refine Go.by st6 ?_
        obtain ⟨r6, rfl, hr6, rfl⟩ := q6
        show Go p.tables e below _ (T6.setTop (mkF m 35 #[.val (.ref b1), .val (.int (N1.toInt32)), .val (.int (Int32.ofNat i)), .val (.int (g1 i &&& (255 : Int32)))] [(.int r6)]))
        refine Go.by (fun _ => XS.ifNo X6.here hx rfl (hb hby d14_35) rfl ((if0 _ _).trans (teq ((hr6 hn0))).2)) ?_
        show Go p.tables e below _ (T6.setTop (mkF m 38 #[.val (.ref b1), .val (.int (N1.toInt32)), .val (.int (Int32.ofNat i)), .val (.int (g1 i &&& (255 : Int32)))] []))
        refine Go.by (fun _ => XS.goto X6.here hx rfl (pc0 := 38) (pc' := 47) rfl (hb hby d14_38) (by decide) (by decide)) ?_
        show Go p.tables e below _ (T6.setTop (mkF m 47 #[.val (.ref b1), .val (.int (N1.toInt32)), .val (.int (Int32.ofNat i)), .val (.int (g1 i &&& (255 : Int32)))] []))
        refine Go.by (fun _ => XS.iloadN X6.here hx rfl (hb hby d14_47) rfl) ?_
        show Go p.tables e below _ (T6.setTop (mkF m 48 #[.val (.ref b1), .val (.int (N1.toInt32)), .val (.int (Int32.ofNat i)), .val (.int (g1 i &&& (255 : Int32)))] [(.int (Int32.ofNat i))]))
        exact Go.retI X6 hx hlk hret (hb hby d14_48) (by decide) (by decide) (fun _ z => z.elim) ⟨i, hlt, rfl, rfl⟩
    | succ kk ih =>
      intro i x3 hi hx3 Tj Xj
      have hlt : i < N1 := by omega
      have hg : Int32.ofNat i < N1.toInt32 := i32_lt hlt hN
      rcases hx3 with rfl | ⟨z3, rfl⟩
      · skip
        refine Go.by (fun _ => XS.iloadN Xj.here hx rfl (hb hby d14_5) rfl) ?_
        show Go p.tables e below _ (Tj.setTop (mkF m 6 #[.val (.ref b1), .val (.int (N1.toInt32)), .val (.int (Int32.ofNat i)), .unset] [(.int (Int32.ofNat i))]))
        refine Go.by (fun _ => XS.iloadN Xj.here hx rfl (hb hby d14_6) rfl) ?_
        show Go p.tables e below _ (Tj.setTop (mkF m 7 #[.val (.ref b1), .val (.int (N1.toInt32)), .val (.int (Int32.ofNat i)), .unset] [(.int (N1.toInt32)), (.int (Int32.ofNat i))]))
        refine Go.by (fun _ => XS.icmpNo Xj.here hx rfl (hb hby d14_7) rfl (tlt hg).2.1) ?_
        show Go p.tables e below _ (Tj.setTop (mkF m 10 #[.val (.ref b1), .val (.int (N1.toInt32)), .val (.int (Int32.ofNat i)), .unset] []))
        refine Go.by (fun _ => XS.aloadN Xj.here hx rfl (hb hby d14_10) rfl rfl) ?_
        show Go p.tables e below _ (Tj.setTop (mkF m 11 #[.val (.ref b1), .val (.int (N1.toInt32)), .val (.int (Int32.ofNat i)), .unset] [(.ref b1)]))
        refine Go.by (fun _ => XS.iloadN Xj.here hx rfl (hb hby d14_11) rfl) ?_
        show Go p.tables e below _ (Tj.setTop (mkF m 12 #[.val (.ref b1), .val (.int (N1.toInt32)), .val (.int (Int32.ofNat i)), .unset] [(.int (Int32.ofNat i)), (.ref b1)]))
        obtain ⟨v7, T7, h7, X7, q7, xs7, st7⟩ := Xj.callS hx hZ f0n (y := (⟨"java/lang/StringLatin1", "getChar", "([BI)C"⟩ : MethodName)) hown (tw hw 74 rfl) (tw hw 75 rfl) (tw hw 72 rfl) (tw hw 76 rfl) (by decide) (rm15 l Z a0 hw [] b1 k1 N1 g1 i h0 n0 Z0 V_b1 hlt) (g := (mkF m 12 #[.val (.ref b1), .val (.int (N1.toInt32)), .val (.int (Int32.ofNat i)), .unset] [(.int (Int32.ofNat i)), (.ref b1)])) rfl (by rw [hml]; rfl) (argsL := [(.ref b1), (.int (Int32.ofNat i))]) (rest := []) (lenOf pd7 rfl) rfl (hb hby d14_12) rfl (by decide) (Nat.le_of_ble_eq_true rfl) (k' := 0) (n' := 0) rfl rfl (by decide) (by decide)
        refine Go.by st7 ?_
        obtain ⟨rfl, rfl⟩ := q7
        show Go p.tables e below _ (T7.setTop (mkF m 15 #[.val (.ref b1), .val (.int (N1.toInt32)), .val (.int (Int32.ofNat i)), .unset] [(.int (g1 i &&& (255 : Int32)))]))
        refine Go.by (fun _ => XS.istoreN X7.here hx rfl (hb hby d14_15) rfl (l' := #[.val (.ref b1), .val (.int (N1.toInt32)), .val (.int (Int32.ofNat i)), .val (.int (g1 i &&& (255 : Int32)))]) rfl) ?_
        show Go p.tables e below _ (T7.setTop (mkF m 16 #[.val (.ref b1), .val (.int (N1.toInt32)), .val (.int (Int32.ofNat i)), .val (.int (g1 i &&& (255 : Int32)))] []))
        refine Go.by (fun _ => XS.iloadN X7.here hx rfl (hb hby d14_16) rfl) ?_
        show Go p.tables e below _ (T7.setTop (mkF m 17 #[.val (.ref b1), .val (.int (N1.toInt32)), .val (.int (Int32.ofNat i)), .val (.int (g1 i &&& (255 : Int32)))] [(.int (g1 i &&& (255 : Int32)))]))
        refine Go.by (fun _ => XS.bipush X7.here hx rfl (hb hby d14_17)) ?_
        show Go p.tables e below _ (T7.setTop (mkF m 19 #[.val (.ref b1), .val (.int (N1.toInt32)), .val (.int (Int32.ofNat i)), .val (.int (g1 i &&& (255 : Int32)))] [(.int (32 : Int32)), (.int (g1 i &&& (255 : Int32)))]))
        by_cases hc19_8 : (g1 i &&& (255 : Int32)) = (32 : Int32)
        · skip
          refine Go.by (fun _ => XS.icmpYes X7.here hx rfl (pc0 := 19) (pc' := 41) rfl (hb hby d14_19) rfl (teq hc19_8).1 (by decide) (by decide)) ?_
          show Go p.tables e below _ (T7.setTop (mkF m 41 #[.val (.ref b1), .val (.int (N1.toInt32)), .val (.int (Int32.ofNat i)), .val (.int (g1 i &&& (255 : Int32)))] []))
          refine Go.by (fun _ => XS.iinc X7.here hx rfl (hb hby d14_41) rfl (l' := #[.val (.ref b1), .val (.int (N1.toInt32)), .val (.int ((Int32.ofNat i) + (1 : Int32))), .val (.int (g1 i &&& (255 : Int32)))]) rfl) ?_
          show Go p.tables e below _ (T7.setTop (mkF m 44 #[.val (.ref b1), .val (.int (N1.toInt32)), .val (.int ((Int32.ofNat i) + (1 : Int32))), .val (.int (g1 i &&& (255 : Int32)))] []))
          refine Go.by (fun _ => XS.goto X7.here hx rfl (pc0 := 44) (pc' := 5) rfl (hb hby d14_44) (by decide) (by decide)) ?_
          show Go p.tables e below _ (T7.setTop (mkF m 5 #[.val (.ref b1), .val (.int (N1.toInt32)), .val (.int ((Int32.ofNat i) + (1 : Int32))), .val (.int (g1 i &&& (255 : Int32)))] []))
          rw [i32_succ]
          exact ih (i + 1) _ (by omega) (Or.inr ⟨_, rfl⟩) _ X7
        · skip
          refine Go.by (fun _ => XS.icmpNo X7.here hx rfl (hb hby d14_19) rfl (feq hc19_8).1) ?_
          show Go p.tables e below _ (T7.setTop (mkF m 22 #[.val (.ref b1), .val (.int (N1.toInt32)), .val (.int (Int32.ofNat i)), .val (.int (g1 i &&& (255 : Int32)))] []))
          refine Go.by (fun _ => XS.iloadN X7.here hx rfl (hb hby d14_22) rfl) ?_
          show Go p.tables e below _ (T7.setTop (mkF m 23 #[.val (.ref b1), .val (.int (N1.toInt32)), .val (.int (Int32.ofNat i)), .val (.int (g1 i &&& (255 : Int32)))] [(.int (g1 i &&& (255 : Int32)))]))
          refine Go.by (fun _ => XS.bipush X7.here hx rfl (hb hby d14_23)) ?_
          show Go p.tables e below _ (T7.setTop (mkF m 25 #[.val (.ref b1), .val (.int (N1.toInt32)), .val (.int (Int32.ofNat i)), .val (.int (g1 i &&& (255 : Int32)))] [(.int (9 : Int32)), (.int (g1 i &&& (255 : Int32)))]))
          by_cases hc25_9 : (g1 i &&& (255 : Int32)) = (9 : Int32)
          · skip
            refine Go.by (fun _ => XS.icmpYes X7.here hx rfl (pc0 := 25) (pc' := 41) rfl (hb hby d14_25) rfl (teq hc25_9).1 (by decide) (by decide)) ?_
            show Go p.tables e below _ (T7.setTop (mkF m 41 #[.val (.ref b1), .val (.int (N1.toInt32)), .val (.int (Int32.ofNat i)), .val (.int (g1 i &&& (255 : Int32)))] []))
            refine Go.by (fun _ => XS.iinc X7.here hx rfl (hb hby d14_41) rfl (l' := #[.val (.ref b1), .val (.int (N1.toInt32)), .val (.int ((Int32.ofNat i) + (1 : Int32))), .val (.int (g1 i &&& (255 : Int32)))]) rfl) ?_
            show Go p.tables e below _ (T7.setTop (mkF m 44 #[.val (.ref b1), .val (.int (N1.toInt32)), .val (.int ((Int32.ofNat i) + (1 : Int32))), .val (.int (g1 i &&& (255 : Int32)))] []))
            refine Go.by (fun _ => XS.goto X7.here hx rfl (pc0 := 44) (pc' := 5) rfl (hb hby d14_44) (by decide) (by decide)) ?_
            show Go p.tables e below _ (T7.setTop (mkF m 5 #[.val (.ref b1), .val (.int (N1.toInt32)), .val (.int ((Int32.ofNat i) + (1 : Int32))), .val (.int (g1 i &&& (255 : Int32)))] []))
            rw [i32_succ]
            exact ih (i + 1) _ (by omega) (Or.inr ⟨_, rfl⟩) _ X7
          · skip
            refine Go.by (fun _ => XS.icmpNo X7.here hx rfl (hb hby d14_25) rfl (feq hc25_9).1) ?_
            show Go p.tables e below _ (T7.setTop (mkF m 28 #[.val (.ref b1), .val (.int (N1.toInt32)), .val (.int (Int32.ofNat i)), .val (.int (g1 i &&& (255 : Int32)))] []))
            obtain ⟨T10, X10, st10⟩ := X7.getS hx hZ hown (host := "") (Or.inl (tw hw 77 rfl)) Via.refl S_I (g := (mkF m 28 #[.val (.ref b1), .val (.int (N1.toInt32)), .val (.int (Int32.ofNat i)), .val (.int (g1 i &&& (255 : Int32)))] [])) rfl (hb hby d14_28)
            refine Go.by st10 ?_
            show Go p.tables e below _ (T10.setTop (mkF m 31 #[.val (.ref b1), .val (.int (N1.toInt32)), .val (.int (Int32.ofNat i)), .val (.int (g1 i &&& (255 : Int32)))] [(.ref aI)]))
            refine Go.by (fun _ => XS.iloadN X10.here hx rfl (hb hby d14_31) rfl) ?_
            show Go p.tables e below _ (T10.setTop (mkF m 32 #[.val (.ref b1), .val (.int (N1.toInt32)), .val (.int (Int32.ofNat i)), .val (.int (g1 i &&& (255 : Int32)))] [(.int (g1 i &&& (255 : Int32))), (.ref aI)]))
            obtain ⟨v11, T11, h11, X11, q11, xs11, st11⟩ := X10.callV hx hZ f0n (y := (⟨"java/lang/CharacterDataLatin1", "isWhitespace", "(I)Z"⟩ : MethodName)) (z := (⟨"java/lang/CharacterDataLatin1", "isWhitespace", "(I)Z"⟩ : MethodName)) hown (tw hw 79 rfl) (tw hw 80 rfl) (fun _ hZ => notFace_of_selects (args := #[]) (mvT hZ (tw hw 82 rfl))) (tw hw 82 rfl) (tw hw 81 rfl) (tw hw 78 rfl) (tw hw 83 rfl) (by decide) (rm16 l Z a0 hw [] aI (g1 i &&& (255 : Int32)) aA aI kA h0 n0 Z0 O0 S_A0 V_A0 S_I0 E_I0 (own_byte _) E_I) E_I (g := (mkF m 32 #[.val (.ref b1), .val (.int (N1.toInt32)), .val (.int (Int32.ofNat i)), .val (.int (g1 i &&& (255 : Int32)))] [(.int (g1 i &&& (255 : Int32))), (.ref aI)])) rfl (by rw [hml]; rfl) (argsL := [(.int (g1 i &&& (255 : Int32)))]) (rest := []) (lenOf pd8 rfl) rfl (hb hby d14_32) rfl (by decide) (Nat.le_of_ble_eq_true rfl) (k' := 0) (n' := 0) rfl rfl (by decide) (by decide)
            refine Go.by st11 ?_
            obtain ⟨r11, rfl, hr11, rfl⟩ := q11
            show Go p.tables e below _ (T11.setTop (mkF m 35 #[.val (.ref b1), .val (.int (N1.toInt32)), .val (.int (Int32.ofNat i)), .val (.int (g1 i &&& (255 : Int32)))] [(.int r11)]))
            by_cases hc35_12 : r11 = (0 : Int32)
            · skip
              refine Go.by (fun _ => XS.ifNo X11.here hx rfl (hb hby d14_35) rfl ((if0 _ _).trans (teq hc35_12).2)) ?_
              show Go p.tables e below _ (T11.setTop (mkF m 38 #[.val (.ref b1), .val (.int (N1.toInt32)), .val (.int (Int32.ofNat i)), .val (.int (g1 i &&& (255 : Int32)))] []))
              refine Go.by (fun _ => XS.goto X11.here hx rfl (pc0 := 38) (pc' := 47) rfl (hb hby d14_38) (by decide) (by decide)) ?_
              show Go p.tables e below _ (T11.setTop (mkF m 47 #[.val (.ref b1), .val (.int (N1.toInt32)), .val (.int (Int32.ofNat i)), .val (.int (g1 i &&& (255 : Int32)))] []))
              refine Go.by (fun _ => XS.iloadN X11.here hx rfl (hb hby d14_47) rfl) ?_
              show Go p.tables e below _ (T11.setTop (mkF m 48 #[.val (.ref b1), .val (.int (N1.toInt32)), .val (.int (Int32.ofNat i)), .val (.int (g1 i &&& (255 : Int32)))] [(.int (Int32.ofNat i))]))
              exact Go.retI X11 hx hlk hret (hb hby d14_48) (by decide) (by decide) (fun _ z => z.elim) ⟨i, hlt, rfl, rfl⟩
            · skip
              refine Go.by (fun _ => XS.ifYes X11.here hx rfl (pc0 := 35) (pc' := 41) rfl (hb hby d14_35) rfl ((if0 _ _).trans (feq hc35_12).2) (by decide) (by decide)) ?_
              show Go p.tables e below _ (T11.setTop (mkF m 41 #[.val (.ref b1), .val (.int (N1.toInt32)), .val (.int (Int32.ofNat i)), .val (.int (g1 i &&& (255 : Int32)))] []))
              refine Go.by (fun _ => XS.iinc X11.here hx rfl (hb hby d14_41) rfl (l' := #[.val (.ref b1), .val (.int (N1.toInt32)), .val (.int ((Int32.ofNat i) + (1 : Int32))), .val (.int (g1 i &&& (255 : Int32)))]) rfl) ?_
              show Go p.tables e below _ (T11.setTop (mkF m 44 #[.val (.ref b1), .val (.int (N1.toInt32)), .val (.int ((Int32.ofNat i) + (1 : Int32))), .val (.int (g1 i &&& (255 : Int32)))] []))
              refine Go.by (fun _ => XS.goto X11.here hx rfl (pc0 := 44) (pc' := 5) rfl (hb hby d14_44) (by decide) (by decide)) ?_
              show Go p.tables e below _ (T11.setTop (mkF m 5 #[.val (.ref b1), .val (.int (N1.toInt32)), .val (.int ((Int32.ofNat i) + (1 : Int32))), .val (.int (g1 i &&& (255 : Int32)))] []))
              rw [i32_succ]
              exact ih (i + 1) _ (by omega) (Or.inr ⟨_, rfl⟩) _ X11
      · skip
        refine Go.by (fun _ => XS.iloadN Xj.here hx rfl (hb hby d14_5) rfl) ?_
        show Go p.tables e below _ (Tj.setTop (mkF m 6 #[.val (.ref b1), .val (.int (N1.toInt32)), .val (.int (Int32.ofNat i)), .val (.int z3)] [(.int (Int32.ofNat i))]))
        refine Go.by (fun _ => XS.iloadN Xj.here hx rfl (hb hby d14_6) rfl) ?_
        show Go p.tables e below _ (Tj.setTop (mkF m 7 #[.val (.ref b1), .val (.int (N1.toInt32)), .val (.int (Int32.ofNat i)), .val (.int z3)] [(.int (N1.toInt32)), (.int (Int32.ofNat i))]))
        refine Go.by (fun _ => XS.icmpNo Xj.here hx rfl (hb hby d14_7) rfl (tlt hg).2.1) ?_
        show Go p.tables e below _ (Tj.setTop (mkF m 10 #[.val (.ref b1), .val (.int (N1.toInt32)), .val (.int (Int32.ofNat i)), .val (.int z3)] []))
        refine Go.by (fun _ => XS.aloadN Xj.here hx rfl (hb hby d14_10) rfl rfl) ?_
        show Go p.tables e below _ (Tj.setTop (mkF m 11 #[.val (.ref b1), .val (.int (N1.toInt32)), .val (.int (Int32.ofNat i)), .val (.int z3)] [(.ref b1)]))
        refine Go.by (fun _ => XS.iloadN Xj.here hx rfl (hb hby d14_11) rfl) ?_
        show Go p.tables e below _ (Tj.setTop (mkF m 12 #[.val (.ref b1), .val (.int (N1.toInt32)), .val (.int (Int32.ofNat i)), .val (.int z3)] [(.int (Int32.ofNat i)), (.ref b1)]))
        obtain ⟨v13, T13, h13, X13, q13, xs13, st13⟩ := Xj.callS hx hZ f0n (y := (⟨"java/lang/StringLatin1", "getChar", "([BI)C"⟩ : MethodName)) hown (tw hw 74 rfl) (tw hw 75 rfl) (tw hw 72 rfl) (tw hw 76 rfl) (by decide) (rm15 l Z a0 hw [] b1 k1 N1 g1 i h0 n0 Z0 V_b1 hlt) (g := (mkF m 12 #[.val (.ref b1), .val (.int (N1.toInt32)), .val (.int (Int32.ofNat i)), .val (.int z3)] [(.int (Int32.ofNat i)), (.ref b1)])) rfl (by rw [hml]; rfl) (argsL := [(.ref b1), (.int (Int32.ofNat i))]) (rest := []) (lenOf pd7 rfl) rfl (hb hby d14_12) rfl (by decide) (Nat.le_of_ble_eq_true rfl) (k' := 0) (n' := 0) rfl rfl (by decide) (by decide)
        refine Go.by st13 ?_
        obtain ⟨rfl, rfl⟩ := q13
        show Go p.tables e below _ (T13.setTop (mkF m 15 #[.val (.ref b1), .val (.int (N1.toInt32)), .val (.int (Int32.ofNat i)), .val (.int z3)] [(.int (g1 i &&& (255 : Int32)))]))
        refine Go.by (fun _ => XS.istoreN X13.here hx rfl (hb hby d14_15) rfl (l' := #[.val (.ref b1), .val (.int (N1.toInt32)), .val (.int (Int32.ofNat i)), .val (.int (g1 i &&& (255 : Int32)))]) rfl) ?_
        show Go p.tables e below _ (T13.setTop (mkF m 16 #[.val (.ref b1), .val (.int (N1.toInt32)), .val (.int (Int32.ofNat i)), .val (.int (g1 i &&& (255 : Int32)))] []))
        refine Go.by (fun _ => XS.iloadN X13.here hx rfl (hb hby d14_16) rfl) ?_
        show Go p.tables e below _ (T13.setTop (mkF m 17 #[.val (.ref b1), .val (.int (N1.toInt32)), .val (.int (Int32.ofNat i)), .val (.int (g1 i &&& (255 : Int32)))] [(.int (g1 i &&& (255 : Int32)))]))
        refine Go.by (fun _ => XS.bipush X13.here hx rfl (hb hby d14_17)) ?_
        show Go p.tables e below _ (T13.setTop (mkF m 19 #[.val (.ref b1), .val (.int (N1.toInt32)), .val (.int (Int32.ofNat i)), .val (.int (g1 i &&& (255 : Int32)))] [(.int (32 : Int32)), (.int (g1 i &&& (255 : Int32)))]))
        by_cases hc19_14 : (g1 i &&& (255 : Int32)) = (32 : Int32)
        · skip
          refine Go.by (fun _ => XS.icmpYes X13.here hx rfl (pc0 := 19) (pc' := 41) rfl (hb hby d14_19) rfl (teq hc19_14).1 (by decide) (by decide)) ?_
          show Go p.tables e below _ (T13.setTop (mkF m 41 #[.val (.ref b1), .val (.int (N1.toInt32)), .val (.int (Int32.ofNat i)), .val (.int (g1 i &&& (255 : Int32)))] []))
          refine Go.by (fun _ => XS.iinc X13.here hx rfl (hb hby d14_41) rfl (l' := #[.val (.ref b1), .val (.int (N1.toInt32)), .val (.int ((Int32.ofNat i) + (1 : Int32))), .val (.int (g1 i &&& (255 : Int32)))]) rfl) ?_
          show Go p.tables e below _ (T13.setTop (mkF m 44 #[.val (.ref b1), .val (.int (N1.toInt32)), .val (.int ((Int32.ofNat i) + (1 : Int32))), .val (.int (g1 i &&& (255 : Int32)))] []))
          refine Go.by (fun _ => XS.goto X13.here hx rfl (pc0 := 44) (pc' := 5) rfl (hb hby d14_44) (by decide) (by decide)) ?_
          show Go p.tables e below _ (T13.setTop (mkF m 5 #[.val (.ref b1), .val (.int (N1.toInt32)), .val (.int ((Int32.ofNat i) + (1 : Int32))), .val (.int (g1 i &&& (255 : Int32)))] []))
          rw [i32_succ]
          exact ih (i + 1) _ (by omega) (Or.inr ⟨_, rfl⟩) _ X13
        · skip
          refine Go.by (fun _ => XS.icmpNo X13.here hx rfl (hb hby d14_19) rfl (feq hc19_14).1) ?_
          show Go p.tables e below _ (T13.setTop (mkF m 22 #[.val (.ref b1), .val (.int (N1.toInt32)), .val (.int (Int32.ofNat i)), .val (.int (g1 i &&& (255 : Int32)))] []))
          refine Go.by (fun _ => XS.iloadN X13.here hx rfl (hb hby d14_22) rfl) ?_
          show Go p.tables e below _ (T13.setTop (mkF m 23 #[.val (.ref b1), .val (.int (N1.toInt32)), .val (.int (Int32.ofNat i)), .val (.int (g1 i &&& (255 : Int32)))] [(.int (g1 i &&& (255 : Int32)))]))
          refine Go.by (fun _ => XS.bipush X13.here hx rfl (hb hby d14_23)) ?_
          show Go p.tables e below _ (T13.setTop (mkF m 25 #[.val (.ref b1), .val (.int (N1.toInt32)), .val (.int (Int32.ofNat i)), .val (.int (g1 i &&& (255 : Int32)))] [(.int (9 : Int32)), (.int (g1 i &&& (255 : Int32)))]))
          by_cases hc25_15 : (g1 i &&& (255 : Int32)) = (9 : Int32)
          · skip
            refine Go.by (fun _ => XS.icmpYes X13.here hx rfl (pc0 := 25) (pc' := 41) rfl (hb hby d14_25) rfl (teq hc25_15).1 (by decide) (by decide)) ?_
            show Go p.tables e below _ (T13.setTop (mkF m 41 #[.val (.ref b1), .val (.int (N1.toInt32)), .val (.int (Int32.ofNat i)), .val (.int (g1 i &&& (255 : Int32)))] []))
            refine Go.by (fun _ => XS.iinc X13.here hx rfl (hb hby d14_41) rfl (l' := #[.val (.ref b1), .val (.int (N1.toInt32)), .val (.int ((Int32.ofNat i) + (1 : Int32))), .val (.int (g1 i &&& (255 : Int32)))]) rfl) ?_
            show Go p.tables e below _ (T13.setTop (mkF m 44 #[.val (.ref b1), .val (.int (N1.toInt32)), .val (.int ((Int32.ofNat i) + (1 : Int32))), .val (.int (g1 i &&& (255 : Int32)))] []))
            refine Go.by (fun _ => XS.goto X13.here hx rfl (pc0 := 44) (pc' := 5) rfl (hb hby d14_44) (by decide) (by decide)) ?_
            show Go p.tables e below _ (T13.setTop (mkF m 5 #[.val (.ref b1), .val (.int (N1.toInt32)), .val (.int ((Int32.ofNat i) + (1 : Int32))), .val (.int (g1 i &&& (255 : Int32)))] []))
            rw [i32_succ]
            exact ih (i + 1) _ (by omega) (Or.inr ⟨_, rfl⟩) _ X13
          · skip
            refine Go.by (fun _ => XS.icmpNo X13.here hx rfl (hb hby d14_25) rfl (feq hc25_15).1) ?_
            show Go p.tables e below _ (T13.setTop (mkF m 28 #[.val (.ref b1), .val (.int (N1.toInt32)), .val (.int (Int32.ofNat i)), .val (.int (g1 i &&& (255 : Int32)))] []))
            obtain ⟨T16, X16, st16⟩ := X13.getS hx hZ hown (host := "") (Or.inl (tw hw 77 rfl)) Via.refl S_I (g := (mkF m 28 #[.val (.ref b1), .val (.int (N1.toInt32)), .val (.int (Int32.ofNat i)), .val (.int (g1 i &&& (255 : Int32)))] [])) rfl (hb hby d14_28)
            refine Go.by st16 ?_
            show Go p.tables e below _ (T16.setTop (mkF m 31 #[.val (.ref b1), .val (.int (N1.toInt32)), .val (.int (Int32.ofNat i)), .val (.int (g1 i &&& (255 : Int32)))] [(.ref aI)]))
            refine Go.by (fun _ => XS.iloadN X16.here hx rfl (hb hby d14_31) rfl) ?_
            show Go p.tables e below _ (T16.setTop (mkF m 32 #[.val (.ref b1), .val (.int (N1.toInt32)), .val (.int (Int32.ofNat i)), .val (.int (g1 i &&& (255 : Int32)))] [(.int (g1 i &&& (255 : Int32))), (.ref aI)]))
            obtain ⟨v17, T17, h17, X17, q17, xs17, st17⟩ := X16.callV hx hZ f0n (y := (⟨"java/lang/CharacterDataLatin1", "isWhitespace", "(I)Z"⟩ : MethodName)) (z := (⟨"java/lang/CharacterDataLatin1", "isWhitespace", "(I)Z"⟩ : MethodName)) hown (tw hw 79 rfl) (tw hw 80 rfl) (fun _ hZ => notFace_of_selects (args := #[]) (mvT hZ (tw hw 82 rfl))) (tw hw 82 rfl) (tw hw 81 rfl) (tw hw 78 rfl) (tw hw 83 rfl) (by decide) (rm16 l Z a0 hw [] aI (g1 i &&& (255 : Int32)) aA aI kA h0 n0 Z0 O0 S_A0 V_A0 S_I0 E_I0 (own_byte _) E_I) E_I (g := (mkF m 32 #[.val (.ref b1), .val (.int (N1.toInt32)), .val (.int (Int32.ofNat i)), .val (.int (g1 i &&& (255 : Int32)))] [(.int (g1 i &&& (255 : Int32))), (.ref aI)])) rfl (by rw [hml]; rfl) (argsL := [(.int (g1 i &&& (255 : Int32)))]) (rest := []) (lenOf pd8 rfl) rfl (hb hby d14_32) rfl (by decide) (Nat.le_of_ble_eq_true rfl) (k' := 0) (n' := 0) rfl rfl (by decide) (by decide)
            refine Go.by st17 ?_
            obtain ⟨r17, rfl, hr17, rfl⟩ := q17
            show Go p.tables e below _ (T17.setTop (mkF m 35 #[.val (.ref b1), .val (.int (N1.toInt32)), .val (.int (Int32.ofNat i)), .val (.int (g1 i &&& (255 : Int32)))] [(.int r17)]))
            by_cases hc35_18 : r17 = (0 : Int32)
            · skip
              refine Go.by (fun _ => XS.ifNo X17.here hx rfl (hb hby d14_35) rfl ((if0 _ _).trans (teq hc35_18).2)) ?_
              show Go p.tables e below _ (T17.setTop (mkF m 38 #[.val (.ref b1), .val (.int (N1.toInt32)), .val (.int (Int32.ofNat i)), .val (.int (g1 i &&& (255 : Int32)))] []))
              refine Go.by (fun _ => XS.goto X17.here hx rfl (pc0 := 38) (pc' := 47) rfl (hb hby d14_38) (by decide) (by decide)) ?_
              show Go p.tables e below _ (T17.setTop (mkF m 47 #[.val (.ref b1), .val (.int (N1.toInt32)), .val (.int (Int32.ofNat i)), .val (.int (g1 i &&& (255 : Int32)))] []))
              refine Go.by (fun _ => XS.iloadN X17.here hx rfl (hb hby d14_47) rfl) ?_
              show Go p.tables e below _ (T17.setTop (mkF m 48 #[.val (.ref b1), .val (.int (N1.toInt32)), .val (.int (Int32.ofNat i)), .val (.int (g1 i &&& (255 : Int32)))] [(.int (Int32.ofNat i))]))
              exact Go.retI X17 hx hlk hret (hb hby d14_48) (by decide) (by decide) (fun _ z => z.elim) ⟨i, hlt, rfl, rfl⟩
            · skip
              refine Go.by (fun _ => XS.ifYes X17.here hx rfl (pc0 := 35) (pc' := 41) rfl (hb hby d14_35) rfl ((if0 _ _).trans (feq hc35_18).2) (by decide) (by decide)) ?_
              show Go p.tables e below _ (T17.setTop (mkF m 41 #[.val (.ref b1), .val (.int (N1.toInt32)), .val (.int (Int32.ofNat i)), .val (.int (g1 i &&& (255 : Int32)))] []))
              refine Go.by (fun _ => XS.iinc X17.here hx rfl (hb hby d14_41) rfl (l' := #[.val (.ref b1), .val (.int (N1.toInt32)), .val (.int ((Int32.ofNat i) + (1 : Int32))), .val (.int (g1 i &&& (255 : Int32)))]) rfl) ?_
              show Go p.tables e below _ (T17.setTop (mkF m 44 #[.val (.ref b1), .val (.int (N1.toInt32)), .val (.int ((Int32.ofNat i) + (1 : Int32))), .val (.int (g1 i &&& (255 : Int32)))] []))
              refine Go.by (fun _ => XS.goto X17.here hx rfl (pc0 := 44) (pc' := 5) rfl (hb hby d14_44) (by decide) (by decide)) ?_
              show Go p.tables e below _ (T17.setTop (mkF m 5 #[.val (.ref b1), .val (.int (N1.toInt32)), .val (.int ((Int32.ofNat i) + (1 : Int32))), .val (.int (g1 i &&& (255 : Int32)))] []))
              rw [i32_succ]
              exact ih (i + 1) _ (by omega) (Or.inr ⟨_, rfl⟩) _ X17
  exact J j0 0 _ (by omega) (Or.inl rfl) _ X0
theorem d12_0 : decode jdk_42_method_120_code 0 = .ok (.aload_n 0, 1) := by decide +kernel
theorem d12_1 : decode jdk_42_method_120_code 1 = .ok (.invokevirtual 492, 3) := by decide +kernel
theorem pd9 : parseMethodDescriptor "()Z" = some ⟨[], some .boolean⟩ := by decide +kernel
theorem d12_4 : decode jdk_42_method_120_code 4 = .ok (.ifCond .eq 13, 3) := by decide +kernel
theorem d12_7 : decode jdk_42_method_120_code 7 = .ok (.aload_n 0, 1) := by decide +kernel
theorem d12_8 : decode jdk_42_method_120_code 8 = .ok (.getfield 9, 3) := by decide +kernel
theorem d12_11 : decode jdk_42_method_120_code 11 = .ok (.invokestatic 924, 3) := by decide +kernel
theorem pd10 : parseMethodDescriptor "([B)I" = some ⟨[(.array .byte)], some .int⟩ := by decide +kernel
theorem d12_14 : decode jdk_42_method_120_code 14 = .ok (.goto 10, 3) := by decide +kernel
theorem d12_24 : decode jdk_42_method_120_code 24 = .ok (.ireturn, 1) := by decide +kernel
abbrev Rm12 : Room := { frames := 3, cells := 0, slots := 0, locals := 44 }
set_option maxRecDepth 65536 in
set_option maxHeartbeats 40000000 in
theorem rm12 (l : Launch) (Z : State) (a0 : Array Value) (hw : ∀ d ∈ tables_1, d.before a0 Z = true) (ws : List Jvm.Cond) (a1 : Addr) (cs : Int32) (N1 : Nat) (g1 : Nat → Int32) (b1 : Addr) (k1 : ClassId) (aA aI : Addr) (kA : ClassId) (h0 : Heap) (n0 : Nat) (Z0 : n0 ≤ h0.size) (O0 : Old Z n0 h0) (S_CS0 : Sta Z Z.heap "java/lang/String" "COMPACT_STRINGS" "Z" (.int cs)) (hcs : ¬ cs = 0) (E_a1 : Exa Z h0 a1 "java/lang/String") (Fv_a1 : Fld Z h0 a1 "java/lang/String" "value" "[B" (.ref b1)) (Fc_a1 : Fld Z h0 a1 "java/lang/String" "coder" "B" (.int (0 : Int32))) (V_b1 : Avf Z h0 b1 k1 .byte N1 (fun i => (.int (g1 i)))) (S_A0 : Sta Z Z.heap "java/lang/CharacterDataLatin1" "A" "[I" (.ref aA)) (V_A0 : Avf Z Z.heap aA kA .int 256 (fun i => (.int (tabA i)))) (S_I0 : Sta Z Z.heap "java/lang/CharacterDataLatin1" "instance" "Ljava/lang/CharacterDataLatin1;" (.ref aI)) (E_I0 : Exa Z Z.heap aI "java/lang/CharacterDataLatin1") (hbl : ∃ j, j < N1 ∧ ¬ wsI (g1 j &&& (255 : Int32))) :
    Met l Z EL [] (fun _ _ _ => False) n0 (⟨"java/lang/String", "indexOfNonWhitespace", "()I"⟩ : MethodName) jdk_42_method_120_code 1 (some .int) ws Rm12 #[(.ref a1)] h0 (fun v h => ∃ i, i < N1 ∧ v = some (.int (Int32.ofNat i)) ∧ h0 = h) := by
  refine enter (Ls := #[.val (.ref a1)]) (plainFor_of_name pn1) (fun m => by first | (simp [entryFrame, mkF, argsToLocals, Value.category]; done) | rfl) ?_
  intro p e s m below meth c T0 hx hby hml hown hnm hret hlk hZ X0
  have S_CS := S_CS0.ext O0.2
  show Go p.tables e below _ (T0.setTop (mkF m 0 #[.val (.ref a1)] []))
  refine Go.by (fun _ => XS.aloadN X0.here hx rfl (hb hby d12_0) rfl rfl) ?_
  show Go p.tables e below _ (T0.setTop (mkF m 1 #[.val (.ref a1)] [(.ref a1)]))
  obtain ⟨v1, T1, h1, X1, q1, xs1, st1⟩ := X0.callV hx hZ f0n (y := (⟨"java/lang/String", "isLatin1", "()Z"⟩ : MethodName)) (z := (⟨"java/lang/String", "isLatin1", "()Z"⟩ : MethodName)) hown (tw hw 65 rfl) (tw hw 66 rfl) (fun _ hZ => notFace_of_selects (args := #[]) (mvT hZ (tw hw 68 rfl))) (tw hw 68 rfl) (tw hw 67 rfl) (tw hw 11 rfl) (tw hw 69 rfl) (by decide) (rm13 l Z a0 hw [] a1 cs N1 g1 b1 k1 h0 n0 Z0 O0 S_CS0 hcs E_a1 Fv_a1 Fc_a1 V_b1) E_a1 (g := (mkF m 1 #[.val (.ref a1)] [(.ref a1)])) rfl (by rw [hml]; rfl) (argsL := []) (rest := []) (lenOf pd9 rfl) rfl (hb hby d12_1) rfl (by decide) (Nat.le_of_ble_eq_true rfl) (k' := 0) (n' := 0) rfl rfl (by decide) (by decide)
  refine Go.by st1 ?_
  obtain ⟨rfl, rfl⟩ := q1
  show Go p.tables e below _ (T1.setTop (mkF m 4 #[.val (.ref a1)] [(.int (1 : Int32))]))
  refine Go.by (fun _ => XS.ifNo X1.here hx rfl (hb hby d12_4) rfl ((if0 _ _).trans (feq (by decide)).1)) ?_
  show Go p.tables e below _ (T1.setTop (mkF m 7 #[.val (.ref a1)] []))
  refine Go.by (fun _ => XS.aloadN X1.here hx rfl (hb hby d12_7) rfl rfl) ?_
  show Go p.tables e below _ (T1.setTop (mkF m 8 #[.val (.ref a1)] [(.ref a1)]))
  obtain ⟨T2, X2, st2⟩ := X1.getF hx hZ hown (host := "") (Or.inl (tw hw 36 rfl)) Via.refl Fv_a1 (g := (mkF m 8 #[.val (.ref a1)] [(.ref a1)])) rfl rfl (hb hby d12_8)
  refine Go.by st2 ?_
  show Go p.tables e below _ (T2.setTop (mkF m 11 #[.val (.ref a1)] [(.ref b1)]))
  obtain ⟨v3, T3, h3, X3, q3, xs3, st3⟩ := X2.callS hx hZ f0n (y := (⟨"java/lang/StringLatin1", "indexOfNonWhitespace", "([B)I"⟩ : MethodName)) hown (tw hw 70 rfl) (tw hw 71 rfl) (tw hw 72 rfl) (tw hw 73 rfl) (by decide) (rm14 l Z a0 hw [] b1 aA aI kA k1 N1 g1 h0 n0 Z0 O0 S_A0 V_A0 S_I0 E_I0 V_b1 hbl) (g := (mkF m 11 #[.val (.ref a1)] [(.ref b1)])) rfl (by rw [hml]; rfl) (argsL := [(.ref b1)]) (rest := []) (lenOf pd10 rfl) rfl (hb hby d12_11) rfl (by decide) (Nat.le_of_ble_eq_true rfl) (k' := 0) (n' := 0) rfl rfl (by decide) (by decide)
  refine Go.by st3 ?_
  obtain ⟨i3, hi3, rfl, rfl⟩ := q3
  show Go p.tables e below _ (T3.setTop (mkF m 14 #[.val (.ref a1)] [(.int (Int32.ofNat i3))]))
  refine Go.by (fun _ => XS.goto X3.here hx rfl (pc0 := 14) (pc' := 24) rfl (hb hby d12_14) (by decide) (by decide)) ?_
  show Go p.tables e below _ (T3.setTop (mkF m 24 #[.val (.ref a1)] [(.int (Int32.ofNat i3))]))
  exact Go.retI X3 hx hlk hret (hb hby d12_24) (by decide) (by decide) (fun _ z => z.elim) ⟨_, hi3, rfl, rfl⟩
theorem d11_0 : decode jdk_42_method_117_code 0 = .ok (.aload_n 0, 1) := by decide +kernel
theorem d11_1 : decode jdk_42_method_117_code 1 = .ok (.invokevirtual 876, 3) := by decide +kernel
theorem pd11 : parseMethodDescriptor "()I" = some ⟨[], some .int⟩ := by decide +kernel
theorem d11_4 : decode jdk_42_method_117_code 4 = .ok (.aload_n 0, 1) := by decide +kernel
theorem d11_5 : decode jdk_42_method_117_code 5 = .ok (.invokevirtual 505, 3) := by decide +kernel
theorem d11_8 : decode jdk_42_method_117_code 8 = .ok (.if_icmp .ne 7, 3) := by decide +kernel
theorem d11_15 : decode jdk_42_method_117_code 15 = .ok (.iconst 0, 1) := by decide +kernel
theorem d11_16 : decode jdk_42_method_117_code 16 = .ok (.ireturn, 1) := by decide +kernel
abbrev Rm11 : Room := { frames := 4, cells := 0, slots := 0, locals := 56 }
set_option maxRecDepth 65536 in
set_option maxHeartbeats 40000000 in
theorem rm11 (l : Launch) (Z : State) (a0 : Array Value) (hw : ∀ d ∈ tables_1, d.before a0 Z = true) (ws : List Jvm.Cond) (a1 : Addr) (cs : Int32) (N1 : Nat) (g1 : Nat → Int32) (b1 : Addr) (k1 : ClassId) (aA aI : Addr) (kA : ClassId) (h0 : Heap) (n0 : Nat) (Z0 : n0 ≤ h0.size) (O0 : Old Z n0 h0) (S_CS0 : Sta Z Z.heap "java/lang/String" "COMPACT_STRINGS" "Z" (.int cs)) (hcs : ¬ cs = 0) (E_a1 : Exa Z h0 a1 "java/lang/String") (Fv_a1 : Fld Z h0 a1 "java/lang/String" "value" "[B" (.ref b1)) (Fc_a1 : Fld Z h0 a1 "java/lang/String" "coder" "B" (.int (0 : Int32))) (V_b1 : Avf Z h0 b1 k1 .byte N1 (fun i => (.int (g1 i)))) (S_A0 : Sta Z Z.heap "java/lang/CharacterDataLatin1" "A" "[I" (.ref aA)) (V_A0 : Avf Z Z.heap aA kA .int 256 (fun i => (.int (tabA i)))) (S_I0 : Sta Z Z.heap "java/lang/CharacterDataLatin1" "instance" "Ljava/lang/CharacterDataLatin1;" (.ref aI)) (E_I0 : Exa Z Z.heap aI "java/lang/CharacterDataLatin1") (hbl : ∃ j, j < N1 ∧ ¬ wsI (g1 j &&& (255 : Int32))) :
    Met l Z EL [] (fun _ _ _ => False) n0 (⟨"java/lang/String", "isBlank", "()Z"⟩ : MethodName) jdk_42_method_117_code 1 (some .boolean) ws Rm11 #[(.ref a1)] h0 (fun v h => v = some (.int 0) ∧ h0 = h) := by
  refine enter (Ls := #[.val (.ref a1)]) (plainFor_of_name pn1) (fun m => by first | (simp [entryFrame, mkF, argsToLocals, Value.category]; done) | rfl) ?_
  intro p e s m below meth c T0 hx hby hml hown hnm hret hlk hZ X0
  have S_CS := S_CS0.ext O0.2
  show Go p.tables e below _ (T0.setTop (mkF m 0 #[.val (.ref a1)] []))
  refine Go.by (fun _ => XS.aloadN X0.here hx rfl (hb hby d11_0) rfl rfl) ?_
  show Go p.tables e below _ (T0.setTop (mkF m 1 #[.val (.ref a1)] [(.ref a1)]))
  obtain ⟨v1, T1, h1, X1, q1, xs1, st1⟩ := X0.callP hx hZ f0n (y := (⟨"java/lang/String", "indexOfNonWhitespace", "()I"⟩ : MethodName)) hown (tw hw 60 rfl) (tw hw 61 rfl) (tw hw 63 rfl) (tw hw 62 rfl) (tw hw 11 rfl) (tw hw 64 rfl) (by decide) (rm12 l Z a0 hw [] a1 cs N1 g1 b1 k1 aA aI kA h0 n0 Z0 O0 S_CS0 hcs E_a1 Fv_a1 Fc_a1 V_b1 S_A0 V_A0 S_I0 E_I0 hbl) E_a1 (g := (mkF m 1 #[.val (.ref a1)] [(.ref a1)])) rfl (by rw [hml]; rfl) (argsL := []) (rest := []) (lenOf pd11 rfl) rfl (hb hby d11_1) rfl (by decide) (Nat.le_of_ble_eq_true rfl) (k' := 0) (n' := 0) rfl rfl (by decide) (by decide)
  refine Go.by st1 ?_
  obtain ⟨i1, hi1, rfl, rfl⟩ := q1
  show Go p.tables e below _ (T1.setTop (mkF m 4 #[.val (.ref a1)] [(.int (Int32.ofNat i1))]))
  refine Go.by (fun _ => XS.aloadN X1.here hx rfl (hb hby d11_4) rfl rfl) ?_
  show Go p.tables e below _ (T1.setTop (mkF m 5 #[.val (.ref a1)] [(.ref a1), (.int (Int32.ofNat i1))]))
  obtain ⟨v2, T2, h2, X2, q2, xs2, st2⟩ := X1.callV hx hZ f0n (y := (⟨"java/lang/String", "length", "()I"⟩ : MethodName)) (z := (⟨"java/lang/String", "length", "()I"⟩ : MethodName)) hown (tw hw 90 rfl) (tw hw 91 rfl) (fun _ hZ => notFace_of_selects (args := #[]) (mvT hZ (tw hw 93 rfl))) (tw hw 93 rfl) (tw hw 92 rfl) (tw hw 11 rfl) (tw hw 94 rfl) (by decide) (rm18 l Z a0 hw [] a1 cs N1 g1 b1 k1 h0 n0 Z0 O0 S_CS0 hcs E_a1 Fv_a1 Fc_a1 V_b1) E_a1 (g := (mkF m 5 #[.val (.ref a1)] [(.ref a1), (.int (Int32.ofNat i1))])) rfl (by rw [hml]; rfl) (argsL := []) (rest := [(.int (Int32.ofNat i1))]) (lenOf pd11 rfl) rfl (hb hby d11_5) rfl (by decide) (Nat.le_of_ble_eq_true rfl) (k' := 0) (n' := 0) rfl rfl (by decide) (by decide)
  refine Go.by st2 ?_
  obtain ⟨rfl, rfl⟩ := q2
  show Go p.tables e below _ (T2.setTop (mkF m 8 #[.val (.ref a1)] [(.int (N1.toInt32)), (.int (Int32.ofNat i1))]))
  refine Go.by (fun _ => XS.icmpYes X2.here hx rfl (pc0 := 8) (pc' := 15) rfl (hb hby d11_8) rfl (feq ((own_ltne hi1 (avf_sz V_b1)))).2 (by decide) (by decide)) ?_
  show Go p.tables e below _ (T2.setTop (mkF m 15 #[.val (.ref a1)] []))
  refine Go.by (fun _ => XS.iconst X2.here hx rfl (hb hby d11_15)) ?_
  show Go p.tables e below _ (T2.setTop (mkF m 16 #[.val (.ref a1)] [(.int (0 : Int32))]))
  exact Go.retN X2 hx hlk (z' := (0 : Int32)) hret (by simp) (hb hby d11_16) rfl (by decide) (by decide) (fun _ z => z.elim) ⟨rfl, rfl⟩
theorem d9_0 : decode jdk_30_method_1_code 0 = .ok (.aload_n 0, 1) := by decide +kernel
theorem d9_1 : decode jdk_30_method_1_code 1 = .ok (.invokespecial 1, 3) := by decide +kernel
theorem d9_4 : decode jdk_30_method_1_code 4 = .ok (.return_, 1) := by decide +kernel
abbrev Rm9 : Room := { frames := 1, cells := 0, slots := 0, locals := 12 }
theorem pn4 : plainName "java/lang/Record" = true := by first | (simp [plainName, overriddenIn]; done) | decide +kernel
set_option maxRecDepth 65536 in
set_option maxHeartbeats 40000000 in
theorem rm9 (l : Launch) (Z : State) (a0 : Array Value) (hw : ∀ d ∈ tables_1, d.before a0 Z = true) (ws : List Jvm.Cond) (a1 : Addr) (h0 : Heap) (n0 : Nat) (Z0 : n0 ≤ h0.size) :
    Met l Z EL [] (fun _ _ _ => False) n0 (⟨"java/lang/Record", "<init>", "()V"⟩ : MethodName) jdk_30_method_1_code 1 none ws Rm9 #[(.ref a1)] h0 (fun v h => v = none ∧ h0 = h) := by
  refine enter (Ls := #[.val (.ref a1)]) (plainFor_of_name pn4) (fun m => by first | (simp [entryFrame, mkF, argsToLocals, Value.category]; done) | rfl) ?_
  intro p e s m below meth c T0 hx hby hml hown hnm hret hlk hZ X0
  show Go p.tables e below _ (T0.setTop (mkF m 0 #[.val (.ref a1)] []))
  refine Go.by (fun _ => XS.aloadN X0.here hx rfl (hb hby d9_0) rfl rfl) ?_
  show Go p.tables e below _ (T0.setTop (mkF m 1 #[.val (.ref a1)] [(.ref a1)]))
  obtain ⟨T1, X1, st1⟩ := X0.initO hx hZ hown (tw hw 46 rfl) (tw hw 20 rfl) (tw hw 21 rfl) (g := (mkF m 1 #[.val (.ref a1)] [(.ref a1)])) rfl (by rw [hml]; rfl) rfl (hb hby d9_1) (by decide) (Nat.le_of_ble_eq_true rfl)
  refine Go.by st1 ?_
  show Go p.tables e below _ (T1.setTop (mkF m 4 #[.val (.ref a1)] []))
  exact Go.ret0 X1 hx hlk hret (hb hby d9_4) (by decide) (by decide) (fun _ z => z.elim) ⟨rfl, rfl⟩
theorem d10_0 : decode jdk_31_method_11_code 0 = .ok (.aload_n 0, 1) := by decide +kernel
theorem d10_1 : decode jdk_31_method_11_code 1 = .ok (.ifnonnull 12, 3) := by decide +kernel
theorem d10_13 : decode jdk_31_method_11_code 13 = .ok (.aload_n 0, 1) := by decide +kernel
theorem d10_14 : decode jdk_31_method_11_code 14 = .ok (.areturn, 1) := by decide +kernel
abbrev Rm10 : Room := { frames := 0, cells := 0, slots := 0, locals := 0 }
theorem pn5 : plainName "java/util/Objects" = true := by first | (simp [plainName, overriddenIn]; done) | decide +kernel
set_option maxRecDepth 65536 in
set_option maxHeartbeats 40000000 in
theorem rm10 (l : Launch) (Z : State) (a0 : Array Value) (hw : ∀ d ∈ tables_1, d.before a0 Z = true) (ws : List Jvm.Cond) (a1 : Addr) (a2 : Addr) (h0 : Heap) (n0 : Nat) (Z0 : n0 ≤ h0.size) :
    Met l Z EL [] (fun _ _ _ => False) n0 (⟨"java/util/Objects", "requireNonNull", "(Ljava/lang/Object;Ljava/lang/String;)Ljava/lang/Object;"⟩ : MethodName) jdk_31_method_11_code 2 (some (.object "java/lang/Object")) ws Rm10 #[(.ref a1), (.ref a2)] h0 (fun v h => v = some (.ref a1) ∧ h0 = h) := by
  refine enter (Ls := #[.val (.ref a1), .val (.ref a2)]) (plainFor_of_name pn5) (fun m => by first | (simp [entryFrame, mkF, argsToLocals, Value.category]; done) | rfl) ?_
  intro p e s m below meth c T0 hx hby hml hown hnm hret hlk hZ X0
  show Go p.tables e below _ (T0.setTop (mkF m 0 #[.val (.ref a1), .val (.ref a2)] []))
  refine Go.by (fun _ => XS.aloadN X0.here hx rfl (hb hby d10_0) rfl rfl) ?_
  show Go p.tables e below _ (T0.setTop (mkF m 1 #[.val (.ref a1), .val (.ref a2)] [(.ref a1)]))
  refine Go.by (fun _ => XS.ifnonnullYes X0.here hx rfl (pc0 := 1) (pc' := 13) rfl (hb hby d10_1) rfl (by decide) (by decide)) ?_
  show Go p.tables e below _ (T0.setTop (mkF m 13 #[.val (.ref a1), .val (.ref a2)] []))
  refine Go.by (fun _ => XS.aloadN X0.here hx rfl (hb hby d10_13) rfl rfl) ?_
  show Go p.tables e below _ (T0.setTop (mkF m 14 #[.val (.ref a1), .val (.ref a2)] [(.ref a1)]))
  exact Go.retA X0 hx hlk hret rfl rfl (hb hby d10_14) (by decide) (by decide) (fun _ z => z.elim) ⟨rfl, rfl⟩
theorem d8_0 : decode prog_10_method_1_code 0 = .ok (.aload_n 0, 1) := by decide +kernel
theorem d8_1 : decode prog_10_method_1_code 1 = .ok (.invokespecial 1, 3) := by decide +kernel
theorem pd12 : parseMethodDescriptor "()V" = some ⟨[], none⟩ := by decide +kernel
theorem d8_4 : decode prog_10_method_1_code 4 = .ok (.aload_n 1, 1) := by decide +kernel
theorem d8_5 : decode prog_10_method_1_code 5 = .ok (.ldc 7, 2) := by decide +kernel
theorem d8_7 : decode prog_10_method_1_code 7 = .ok (.invokestatic 9, 3) := by decide +kernel
theorem pd13 : parseMethodDescriptor "(Ljava/lang/Object;Ljava/lang/String;)Ljava/lang/Object;" = some ⟨[(.object "java/lang/Object"), (.object "java/lang/String")], some (.object "java/lang/Object")⟩ := by decide +kernel
theorem d8_10 : decode prog_10_method_1_code 10 = .ok (.pop, 1) := by decide +kernel
theorem d8_11 : decode prog_10_method_1_code 11 = .ok (.aload_n 2, 1) := by decide +kernel
theorem d8_12 : decode prog_10_method_1_code 12 = .ok (.ldc 15, 2) := by decide +kernel
theorem d8_14 : decode prog_10_method_1_code 14 = .ok (.invokestatic 9, 3) := by decide +kernel
theorem d8_17 : decode prog_10_method_1_code 17 = .ok (.pop, 1) := by decide +kernel
theorem d8_18 : decode prog_10_method_1_code 18 = .ok (.aload_n 1, 1) := by decide +kernel
theorem d8_19 : decode prog_10_method_1_code 19 = .ok (.invokevirtual 17, 3) := by decide +kernel
theorem d8_22 : decode prog_10_method_1_code 22 = .ok (.ifCond .eq 13, 3) := by decide +kernel
theorem d8_35 : decode prog_10_method_1_code 35 = .ok (.aload_n 2, 1) := by decide +kernel
theorem d8_36 : decode prog_10_method_1_code 36 = .ok (.invokevirtual 30, 3) := by decide +kernel
theorem d8_39 : decode prog_10_method_1_code 39 = .ok (.ifCond .eq 35, 3) := by decide +kernel
theorem d8_74 : decode prog_10_method_1_code 74 = .ok (.aload_n 0, 1) := by decide +kernel
theorem d8_75 : decode prog_10_method_1_code 75 = .ok (.aload_n 1, 1) := by decide +kernel
theorem d8_76 : decode prog_10_method_1_code 76 = .ok (.putfield 48, 3) := by decide +kernel
theorem d8_79 : decode prog_10_method_1_code 79 = .ok (.aload_n 0, 1) := by decide +kernel
theorem d8_80 : decode prog_10_method_1_code 80 = .ok (.aload_n 2, 1) := by decide +kernel
theorem d8_81 : decode prog_10_method_1_code 81 = .ok (.putfield 53, 3) := by decide +kernel
theorem d8_84 : decode prog_10_method_1_code 84 = .ok (.return_, 1) := by decide +kernel
abbrev Rm8 : Room := { frames := 5, cells := 4, slots := 80, locals := 68 }
theorem pn6 : plainName "com/example/istorie/istorie/EntityId" = true := by first | (simp [plainName, overriddenIn]; done) | decide +kernel
set_option maxRecDepth 65536 in
set_option maxHeartbeats 40000000 in
theorem rm8 (l : Launch) (Z : State) (a0 : Array Value) (hw : ∀ d ∈ tables_1, d.before a0 Z = true) (ws : List Jvm.Cond) (a1 : Addr) (a2 : Addr) (a3 : Addr) (cs : Int32) (b1 b3 : Addr) (k1 k3 : ClassId) (N1 N3 : Nat) (g1 g3 : Nat → Int32) (aA aI : Addr) (kA : ClassId) (h0 : Heap) (n0 : Nat) (Z0 : n0 ≤ h0.size) (O0 : Old Z n0 h0) (S_CS0 : Sta Z Z.heap "java/lang/String" "COMPACT_STRINGS" "Z" (.int cs)) (hcs : ¬ cs = 0) (E_a1 : Exa Z h0 a1 "com/example/istorie/istorie/EntityId") (g_a1 : n0 ≤ a1) (Ft : Fld Z h0 a1 "com/example/istorie/istorie/EntityId" "typeName" "Ljava/lang/String;" .null) (Fi : Fld Z h0 a1 "com/example/istorie/istorie/EntityId" "identifier" "Ljava/lang/String;" .null) (E_a2 : Exa Z h0 a2 "java/lang/String") (Fv_a2 : Fld Z h0 a2 "java/lang/String" "value" "[B" (.ref b1)) (Fc_a2 : Fld Z h0 a2 "java/lang/String" "coder" "B" (.int (0 : Int32))) (V_b1 : Avf Z h0 b1 k1 .byte N1 (fun i => (.int (g1 i)))) (E_a3 : Exa Z h0 a3 "java/lang/String") (Fv_a3 : Fld Z h0 a3 "java/lang/String" "value" "[B" (.ref b3)) (Fc_a3 : Fld Z h0 a3 "java/lang/String" "coder" "B" (.int (0 : Int32))) (V_b3 : Avf Z h0 b3 k3 .byte N3 (fun i => (.int (g3 i)))) (S_A0 : Sta Z Z.heap "java/lang/CharacterDataLatin1" "A" "[I" (.ref aA)) (V_A0 : Avf Z Z.heap aA kA .int 256 (fun i => (.int (tabA i)))) (S_I0 : Sta Z Z.heap "java/lang/CharacterDataLatin1" "instance" "Ljava/lang/CharacterDataLatin1;" (.ref aI)) (E_I0 : Exa Z Z.heap aI "java/lang/CharacterDataLatin1") (hbl : ∃ j, j < N1 ∧ ¬ wsI (g1 j &&& (255 : Int32))) (hN : 1 ≤ N3) :
    Met l Z EL [] (fun _ _ _ => False) n0 (⟨"com/example/istorie/istorie/EntityId", "<init>", "(Ljava/lang/String;Ljava/lang/String;)V"⟩ : MethodName) prog_10_method_1_code 3 none ws Rm8 #[(.ref a1), (.ref a2), (.ref a3)] h0 (fun v h => v = none ∧ Keep h0 h [a1] ∧ Exa Z h a1 "com/example/istorie/istorie/EntityId" ∧ Fld Z h a1 "com/example/istorie/istorie/EntityId" "typeName" "Ljava/lang/String;" (.ref a2) ∧ Fld Z h a1 "com/example/istorie/istorie/EntityId" "identifier" "Ljava/lang/String;" (.ref a3)) := by
  refine enter (Ls := #[.val (.ref a1), .val (.ref a2), .val (.ref a3)]) (plainFor_of_name pn6) (fun m => by first | (simp [entryFrame, mkF, argsToLocals, Value.category]; done) | rfl) ?_
  intro p e s m below meth c T0 hx hby hml hown hnm hret hlk hZ X0
  have S_CS := S_CS0.ext O0.2
  have ne21 : a2 ≠ a1 := Exa.ne E_a2 E_a1 (by decide)
  have ne31 : a3 ≠ a1 := Exa.ne E_a3 E_a1 (by decide)
  have nb1 : b1 ≠ a1 := exa_nev E_a1 (tw hw 7 rfl) V_b1
  have nb3 : b3 ≠ a1 := exa_nev E_a1 (tw hw 7 rfl) V_b3
  have K0 := Keep.refl h0 [a1]
  show Go p.tables e below _ (T0.setTop (mkF m 0 #[.val (.ref a1), .val (.ref a2), .val (.ref a3)] []))
  refine Go.by (fun _ => XS.aloadN X0.here hx rfl (hb hby d8_0) rfl rfl) ?_
  show Go p.tables e below _ (T0.setTop (mkF m 1 #[.val (.ref a1), .val (.ref a2), .val (.ref a3)] [(.ref a1)]))
  obtain ⟨v1, T1, h1, X1, q1, xs1, st1⟩ := X0.callI hx hZ f0n (y := (⟨"java/lang/Record", "<init>", "()V"⟩ : MethodName)) rfl hown (tw hw 41 rfl) (tw hw 42 rfl) (tw hw 44 rfl) (tw hw 45 rfl) (by decide) (rm9 l Z a0 hw [] a1 h0 n0 Z0) (g := (mkF m 1 #[.val (.ref a1), .val (.ref a2), .val (.ref a3)] [(.ref a1)])) rfl (by rw [hml]; rfl) (argsL := []) (rest := []) (lenOf pd12 rfl) rfl (hb hby d8_1) rfl (by decide) (Nat.le_of_ble_eq_true rfl) (k' := 0) (n' := 0) rfl rfl (by decide) (by decide)
  refine Go.by st1 ?_
  obtain ⟨rfl, rfl⟩ := q1
  show Go p.tables e below _ (T1.setTop (mkF m 4 #[.val (.ref a1), .val (.ref a2), .val (.ref a3)] []))
  refine Go.by (fun _ => XS.aloadN X1.here hx rfl (hb hby d8_4) rfl rfl) ?_
  show Go p.tables e below _ (T1.setTop (mkF m 5 #[.val (.ref a1), .val (.ref a2), .val (.ref a3)] [(.ref a2)]))
  obtain ⟨T2, h2, s2, X2, E2, st2⟩ := X1.ldcN hx hown (tw hw 47 rfl) (atoms_S hw) (g := (mkF m 5 #[.val (.ref a1), .val (.ref a2), .val (.ref a3)] [(.ref a2)])) rfl (hb hby d8_5) (nn := 32) (k' := 2) (n' := 36) (by decide) (by decide) rfl rfl (by decide) (by decide)
  have f3_16 := S_CS.ext E2
  have f3_17 := O0.ext E2
  have f3_18 := E_a2.ext E2
  have f3_19 := Fv_a2.ext E2
  have f3_20 := Fc_a2.ext E2
  have f3_21 := Avf.ext V_b1 E2
  have f3_22 := E_a3.ext E2
  have f3_23 := Fv_a3.ext E2
  have f3_24 := Fc_a3.ext E2
  have f3_25 := Avf.ext V_b3 E2
  have f3_26 := E_a1.ext E2
  have f3_27 := Ft.ext E2
  have f3_28 := Fi.ext E2
  have f3_29 := K0.ext E2
  have Zs3 : n0 ≤ h2.size := Nat.le_trans Z0 E2.1
  refine Go.by st2 ?_
  show Go p.tables e below _ (T2.setTop (mkF m 7 #[.val (.ref a1), .val (.ref a2), .val (.ref a3)] [(.ref s2), (.ref a2)]))
  obtain ⟨v4, T4, h4, X4, q4, xs4, st4⟩ := X2.callS hx hZ f0n (y := (⟨"java/util/Objects", "requireNonNull", "(Ljava/lang/Object;Ljava/lang/String;)Ljava/lang/Object;"⟩ : MethodName)) hown (tw hw 50 rfl) (tw hw 51 rfl) (tw hw 52 rfl) (tw hw 53 rfl) (by decide) (rm10 l Z a0 hw [] a2 s2 h2 n0 Zs3) (g := (mkF m 7 #[.val (.ref a1), .val (.ref a2), .val (.ref a3)] [(.ref s2), (.ref a2)])) rfl (by rw [hml]; rfl) (argsL := [(.ref a2), (.ref s2)]) (rest := []) (lenOf pd13 rfl) rfl (hb hby d8_7) rfl (by decide) (Nat.le_of_ble_eq_true rfl) (k' := 2) (n' := 36) rfl rfl (by decide) (by decide)
  refine Go.by st4 ?_
  obtain ⟨rfl, rfl⟩ := q4
  show Go p.tables e below _ (T4.setTop (mkF m 10 #[.val (.ref a1), .val (.ref a2), .val (.ref a3)] [(.ref a2)]))
  refine Go.by (fun _ => XS.pop X4.here hx rfl (hb hby d8_10) rfl rfl) ?_
  show Go p.tables e below _ (T4.setTop (mkF m 11 #[.val (.ref a1), .val (.ref a2), .val (.ref a3)] []))
  refine Go.by (fun _ => XS.aloadN X4.here hx rfl (hb hby d8_11) rfl rfl) ?_
  show Go p.tables e below _ (T4.setTop (mkF m 12 #[.val (.ref a1), .val (.ref a2), .val (.ref a3)] [(.ref a3)]))
  obtain ⟨T5, h5, s5, X5, E5, st5⟩ := X4.ldcN hx hown (tw hw 54 rfl) (atoms_S hw) (g := (mkF m 12 #[.val (.ref a1), .val (.ref a2), .val (.ref a3)] [(.ref a3)])) rfl (hb hby d8_12) (nn := 40) (k' := 4) (n' := 80) (by decide) (by decide) rfl rfl (by decide) (by decide)
  have f6_42 := f3_16.ext E5
  have f6_43 := f3_17.ext E5
  have f6_44 := f3_18.ext E5
  have f6_45 := f3_19.ext E5
  have f6_46 := f3_20.ext E5
  have f6_47 := Avf.ext f3_21 E5
  have f6_48 := f3_22.ext E5
  have f6_49 := f3_23.ext E5
  have f6_50 := f3_24.ext E5
  have f6_51 := Avf.ext f3_25 E5
  have f6_52 := f3_26.ext E5
  have f6_53 := f3_27.ext E5
  have f6_54 := f3_28.ext E5
  have f6_55 := f3_29.ext E5
  have Zs6 : n0 ≤ h5.size := Nat.le_trans Zs3 E5.1
  refine Go.by st5 ?_
  show Go p.tables e below _ (T5.setTop (mkF m 14 #[.val (.ref a1), .val (.ref a2), .val (.ref a3)] [(.ref s5), (.ref a3)]))
  obtain ⟨v7, T7, h7, X7, q7, xs7, st7⟩ := X5.callS hx hZ f0n (y := (⟨"java/util/Objects", "requireNonNull", "(Ljava/lang/Object;Ljava/lang/String;)Ljava/lang/Object;"⟩ : MethodName)) hown (tw hw 50 rfl) (tw hw 51 rfl) (tw hw 52 rfl) (tw hw 53 rfl) (by decide) (rm10 l Z a0 hw [] a3 s5 h5 n0 Zs6) (g := (mkF m 14 #[.val (.ref a1), .val (.ref a2), .val (.ref a3)] [(.ref s5), (.ref a3)])) rfl (by rw [hml]; rfl) (argsL := [(.ref a3), (.ref s5)]) (rest := []) (lenOf pd13 rfl) rfl (hb hby d8_14) rfl (by decide) (Nat.le_of_ble_eq_true rfl) (k' := 4) (n' := 80) rfl rfl (by decide) (by decide)
  refine Go.by st7 ?_
  obtain ⟨rfl, rfl⟩ := q7
  show Go p.tables e below _ (T7.setTop (mkF m 17 #[.val (.ref a1), .val (.ref a2), .val (.ref a3)] [(.ref a3)]))
  refine Go.by (fun _ => XS.pop X7.here hx rfl (hb hby d8_17) rfl rfl) ?_
  show Go p.tables e below _ (T7.setTop (mkF m 18 #[.val (.ref a1), .val (.ref a2), .val (.ref a3)] []))
  refine Go.by (fun _ => XS.aloadN X7.here hx rfl (hb hby d8_18) rfl rfl) ?_
  show Go p.tables e below _ (T7.setTop (mkF m 19 #[.val (.ref a1), .val (.ref a2), .val (.ref a3)] [(.ref a2)]))
  obtain ⟨v8, T8, h8, X8, q8, xs8, st8⟩ := X7.callV hx hZ f0n (y := (⟨"java/lang/String", "isBlank", "()Z"⟩ : MethodName)) (z := (⟨"java/lang/String", "isBlank", "()Z"⟩ : MethodName)) hown (tw hw 55 rfl) (tw hw 56 rfl) (fun _ hZ => notFace_of_selects (args := #[]) (mvT hZ (tw hw 58 rfl))) (tw hw 58 rfl) (tw hw 57 rfl) (tw hw 11 rfl) (tw hw 59 rfl) (by decide) (rm11 l Z a0 hw [] a2 cs N1 g1 b1 k1 aA aI kA h5 n0 Zs6 f6_43 S_CS0 hcs f6_44 f6_45 f6_46 f6_47 S_A0 V_A0 S_I0 E_I0 hbl) f6_44 (g := (mkF m 19 #[.val (.ref a1), .val (.ref a2), .val (.ref a3)] [(.ref a2)])) rfl (by rw [hml]; rfl) (argsL := []) (rest := []) (lenOf pd9 rfl) rfl (hb hby d8_19) rfl (by decide) (Nat.le_of_ble_eq_true rfl) (k' := 4) (n' := 80) rfl rfl (by decide) (by decide)
  refine Go.by st8 ?_
  obtain ⟨rfl, rfl⟩ := q8
  show Go p.tables e below _ (T8.setTop (mkF m 22 #[.val (.ref a1), .val (.ref a2), .val (.ref a3)] [(.int (0 : Int32))]))
  refine Go.by (fun _ => XS.ifYes X8.here hx rfl (pc0 := 22) (pc' := 35) rfl (hb hby d8_22) rfl ((if0 _ _).trans (teq (by decide)).1) (by decide) (by decide)) ?_
  show Go p.tables e below _ (T8.setTop (mkF m 35 #[.val (.ref a1), .val (.ref a2), .val (.ref a3)] []))
  refine Go.by (fun _ => XS.aloadN X8.here hx rfl (hb hby d8_35) rfl rfl) ?_
  show Go p.tables e below _ (T8.setTop (mkF m 36 #[.val (.ref a1), .val (.ref a2), .val (.ref a3)] [(.ref a3)]))
  obtain ⟨v9, T9, h9, X9, q9, xs9, st9⟩ := X8.callV hx hZ f0n (y := (⟨"java/lang/String", "isEmpty", "()Z"⟩ : MethodName)) (z := (⟨"java/lang/String", "isEmpty", "()Z"⟩ : MethodName)) hown (tw hw 100 rfl) (tw hw 101 rfl) (fun _ hZ => notFace_of_selects (args := #[]) (mvT hZ (tw hw 103 rfl))) (tw hw 103 rfl) (tw hw 102 rfl) (tw hw 11 rfl) (tw hw 104 rfl) (by decide) (rm20 l Z a0 hw [] a3 cs N3 g3 b3 k3 h5 n0 Zs6 f6_43 S_CS0 hcs f6_48 f6_49 f6_50 f6_51 hN) f6_48 (g := (mkF m 36 #[.val (.ref a1), .val (.ref a2), .val (.ref a3)] [(.ref a3)])) rfl (by rw [hml]; rfl) (argsL := []) (rest := []) (lenOf pd9 rfl) rfl (hb hby d8_36) rfl (by decide) (Nat.le_of_ble_eq_true rfl) (k' := 4) (n' := 80) rfl rfl (by decide) (by decide)
  refine Go.by st9 ?_
  obtain ⟨rfl, rfl⟩ := q9
  show Go p.tables e below _ (T9.setTop (mkF m 39 #[.val (.ref a1), .val (.ref a2), .val (.ref a3)] [(.int (0 : Int32))]))
  refine Go.by (fun _ => XS.ifYes X9.here hx rfl (pc0 := 39) (pc' := 74) rfl (hb hby d8_39) rfl ((if0 _ _).trans (teq (by decide)).1) (by decide) (by decide)) ?_
  show Go p.tables e below _ (T9.setTop (mkF m 74 #[.val (.ref a1), .val (.ref a2), .val (.ref a3)] []))
  refine Go.by (fun _ => XS.aloadN X9.here hx rfl (hb hby d8_74) rfl rfl) ?_
  show Go p.tables e below _ (T9.setTop (mkF m 75 #[.val (.ref a1), .val (.ref a2), .val (.ref a3)] [(.ref a1)]))
  refine Go.by (fun _ => XS.aloadN X9.here hx rfl (hb hby d8_75) rfl rfl) ?_
  show Go p.tables e below _ (T9.setTop (mkF m 76 #[.val (.ref a1), .val (.ref a2), .val (.ref a3)] [(.ref a2), (.ref a1)]))
  obtain ⟨T10, h10, X10, W10, st10⟩ := X9.putF hx hZ hown (host := "") (Or.inl (tw hw 105 rfl)) Via.refl f6_53 f6_52 g_a1 (Or.inr (by decide)) (Or.inr ⟨(tw hw 106 rfl), rfl, hnm⟩) (tw hw 7 rfl) (ty := (.object "java/lang/String")) (by decide) rfl rfl (g := (mkF m 76 #[.val (.ref a1), .val (.ref a2), .val (.ref a3)] [(.ref a2), (.ref a1)])) rfl rfl (hb hby d8_76)
  have Fw10 := f6_53.same W10
  have f11_87 := f6_42.wr W10
  have f11_88 := f6_43.wr W10 g_a1
  have f11_89 := f6_44.wr W10
  have f11_90 := f6_45.other W10 (Or.inl ne21)
  have f11_91 := f6_46.other W10 (Or.inl ne21)
  have f11_92 := Avf.other f6_47 W10 nb1
  have f11_93 := f6_48.wr W10
  have f11_94 := f6_49.other W10 (Or.inl ne31)
  have f11_95 := f6_50.other W10 (Or.inl ne31)
  have f11_96 := Avf.other f6_51 W10 nb3
  have f11_97 := f6_52.wr W10
  have f11_98 := f6_54.other W10 (Or.inr (slot_ne (Or.inr (tw hw 108 rfl)) (Or.inr (tw hw 106 rfl)) (by decide) (t := (.object "java/lang/String")) (t' := (.object "java/lang/String")) (by decide) (by decide)))
  have f11_99 := f6_55.wr W10 (Or.inl (List.mem_of_getElem? (i := 0) rfl))
  have Zs11 : n0 ≤ h10.size := by rw [W10.size]; exact Zs6
  refine Go.by st10 ?_
  show Go p.tables e below _ (T10.setTop (mkF m 79 #[.val (.ref a1), .val (.ref a2), .val (.ref a3)] []))
  refine Go.by (fun _ => XS.aloadN X10.here hx rfl (hb hby d8_79) rfl rfl) ?_
  show Go p.tables e below _ (T10.setTop (mkF m 80 #[.val (.ref a1), .val (.ref a2), .val (.ref a3)] [(.ref a1)]))
  refine Go.by (fun _ => XS.aloadN X10.here hx rfl (hb hby d8_80) rfl rfl) ?_
  show Go p.tables e below _ (T10.setTop (mkF m 81 #[.val (.ref a1), .val (.ref a2), .val (.ref a3)] [(.ref a3), (.ref a1)]))
  obtain ⟨T12, h12, X12, W12, st12⟩ := X10.putF hx hZ hown (host := "") (Or.inl (tw hw 107 rfl)) Via.refl f11_98 f11_97 g_a1 (Or.inr (by decide)) (Or.inr ⟨(tw hw 108 rfl), rfl, hnm⟩) (tw hw 7 rfl) (ty := (.object "java/lang/String")) (by decide) rfl rfl (g := (mkF m 81 #[.val (.ref a1), .val (.ref a2), .val (.ref a3)] [(.ref a3), (.ref a1)])) rfl rfl (hb hby d8_81)
  have Fw12 := f11_98.same W12
  have f13_109 := f11_87.wr W12
  have f13_110 := f11_88.wr W12 g_a1
  have f13_111 := f11_89.wr W12
  have f13_112 := f11_90.other W12 (Or.inl ne21)
  have f13_113 := f11_91.other W12 (Or.inl ne21)
  have f13_114 := Avf.other f11_92 W12 nb1
  have f13_115 := f11_93.wr W12
  have f13_116 := f11_94.other W12 (Or.inl ne31)
  have f13_117 := f11_95.other W12 (Or.inl ne31)
  have f13_118 := Avf.other f11_96 W12 nb3
  have f13_119 := f11_97.wr W12
  have f13_120 := Fw10.other W12 (Or.inr (slot_ne (Or.inr (tw hw 106 rfl)) (Or.inr (tw hw 108 rfl)) (by decide) (t := (.object "java/lang/String")) (t' := (.object "java/lang/String")) (by decide) (by decide)))
  have f13_121 := f11_99.wr W12 (Or.inl (List.mem_of_getElem? (i := 0) rfl))
  have Zs13 : n0 ≤ h12.size := by rw [W12.size]; exact Zs11
  refine Go.by st12 ?_
  show Go p.tables e below _ (T12.setTop (mkF m 84 #[.val (.ref a1), .val (.ref a2), .val (.ref a3)] []))
  exact Go.ret0 X12 hx hlk hret (hb hby d8_84) (by decide) (by decide) (fun _ z => z.elim) ⟨rfl, f13_121, f13_119, f13_120, Fw12⟩
theorem d23_0 : decode jdk_68_method_2_code 0 = .ok (.aload_n 0, 1) := by decide +kernel
theorem d23_1 : decode jdk_68_method_2_code 1 = .ok (.invokespecial 3, 3) := by decide +kernel
theorem d23_4 : decode jdk_68_method_2_code 4 = .ok (.getstatic 18, 3) := by decide +kernel
theorem d23_7 : decode jdk_68_method_2_code 7 = .ok (.ifCond .eq 18, 3) := by decide +kernel
theorem d23_10 : decode jdk_68_method_2_code 10 = .ok (.aload_n 0, 1) := by decide +kernel
theorem d23_11 : decode jdk_68_method_2_code 11 = .ok (.iload_n 1, 1) := by decide +kernel
theorem d23_12 : decode jdk_68_method_2_code 12 = .ok (.newarray .byte, 2) := by decide +kernel
theorem d23_14 : decode jdk_68_method_2_code 14 = .ok (.putfield 15, 3) := by decide +kernel
theorem d23_17 : decode jdk_68_method_2_code 17 = .ok (.aload_n 0, 1) := by decide +kernel
theorem d23_18 : decode jdk_68_method_2_code 18 = .ok (.iconst 0, 1) := by decide +kernel
theorem d23_19 : decode jdk_68_method_2_code 19 = .ok (.putfield 22, 3) := by decide +kernel
theorem d23_22 : decode jdk_68_method_2_code 22 = .ok (.goto 16, 3) := by decide +kernel
theorem d23_38 : decode jdk_68_method_2_code 38 = .ok (.return_, 1) := by decide +kernel
abbrev Rm23 : Room := { frames := 1, cells := 1, slots := 16, locals := 12 }
theorem pn7 : plainName "java/lang/AbstractStringBuilder" = true := by first | (simp [plainName, overriddenIn]; done) | decide +kernel
set_option maxRecDepth 65536 in
set_option maxHeartbeats 40000000 in
theorem rm23 (l : Launch) (Z : State) (a0 : Array Value) (hw : ∀ d ∈ tables_1, d.before a0 Z = true) (ws : List Jvm.Cond) (a1 : Addr) (cs : Int32) (h0 : Heap) (n0 : Nat) (Z0 : n0 ≤ h0.size) (O0 : Old Z n0 h0) (S_CS0 : Sta Z Z.heap "java/lang/String" "COMPACT_STRINGS" "Z" (.int cs)) (hcs : ¬ cs = 0) (E_a1 : Exa Z h0 a1 "java/lang/StringBuilder") (g_a1 : n0 ≤ a1) (Fv : Fld Z h0 a1 "java/lang/AbstractStringBuilder" "value" "[B" .null) (Fc : Fld Z h0 a1 "java/lang/AbstractStringBuilder" "coder" "B" (.int (0 : Int32))) (Fn : Fld Z h0 a1 "java/lang/AbstractStringBuilder" "count" "I" (.int (0 : Int32))) :
    Met l Z EL [] (fun _ h x => Fld Z h a1 "java/lang/AbstractStringBuilder" "value" "[B" (.ref x)) n0 (⟨"java/lang/AbstractStringBuilder", "<init>", "(I)V"⟩ : MethodName) jdk_68_method_2_code 2 none ws Rm23 #[(.ref a1), (.int (16 : Int32))] h0 (fun v h => v = none ∧ Keep h0 h [a1] ∧ Exa Z h a1 "java/lang/StringBuilder" ∧ ∃ b kc, h0.size ≤ b ∧ Fld Z h a1 "java/lang/AbstractStringBuilder" "value" "[B" (.ref b) ∧ Fld Z h a1 "java/lang/AbstractStringBuilder" "coder" "B" (.int (0 : Int32)) ∧ Fld Z h a1 "java/lang/AbstractStringBuilder" "count" "I" (.int (Int32.ofNat 0)) ∧ Avf Z h b kc .byte 16 (fun i => (.int ((fun _ => (0 : Int32)) i)))) := by
  refine enter (Ls := #[.val (.ref a1), .val (.int (16 : Int32))]) (plainFor_of_name pn7) (fun m => by first | (simp [entryFrame, mkF, argsToLocals, Value.category]; done) | rfl) ?_
  intro p e s m below meth c T0 hx hby hml hown hnm hret hlk hZ X0
  have S_CS := S_CS0.ext O0.2
  have K0 := Keep.refl h0 [a1]
  show Go p.tables e below _ (T0.setTop (mkF m 0 #[.val (.ref a1), .val (.int (16 : Int32))] []))
  refine Go.by (fun _ => XS.aloadN X0.here hx rfl (hb hby d23_0) rfl rfl) ?_
  show Go p.tables e below _ (T0.setTop (mkF m 1 #[.val (.ref a1), .val (.int (16 : Int32))] [(.ref a1)]))
  obtain ⟨T1, X1, st1⟩ := X0.initO hx hZ hown (tw hw 126 rfl) (tw hw 20 rfl) (tw hw 21 rfl) (g := (mkF m 1 #[.val (.ref a1), .val (.int (16 : Int32))] [(.ref a1)])) rfl (by rw [hml]; rfl) rfl (hb hby d23_1) (by decide) (Nat.le_of_ble_eq_true rfl)
  refine Go.by st1 ?_
  show Go p.tables e below _ (T1.setTop (mkF m 4 #[.val (.ref a1), .val (.int (16 : Int32))] []))
  obtain ⟨T2, X2, st2⟩ := X1.getS hx hZ hown (host := "") (Or.inl (tw hw 127 rfl)) Via.refl S_CS (g := (mkF m 4 #[.val (.ref a1), .val (.int (16 : Int32))] [])) rfl (hb hby d23_4)
  refine Go.by st2 ?_
  show Go p.tables e below _ (T2.setTop (mkF m 7 #[.val (.ref a1), .val (.int (16 : Int32))] [(.int cs)]))
  refine Go.by (fun _ => XS.ifNo X2.here hx rfl (hb hby d23_7) rfl ((if0 _ _).trans (feq hcs).1)) ?_
  show Go p.tables e below _ (T2.setTop (mkF m 10 #[.val (.ref a1), .val (.int (16 : Int32))] []))
  refine Go.by (fun _ => XS.aloadN X2.here hx rfl (hb hby d23_10) rfl rfl) ?_
  show Go p.tables e below _ (T2.setTop (mkF m 11 #[.val (.ref a1), .val (.int (16 : Int32))] [(.ref a1)]))
  refine Go.by (fun _ => XS.iloadN X2.here hx rfl (hb hby d23_11) rfl) ?_
  show Go p.tables e below _ (T2.setTop (mkF m 12 #[.val (.ref a1), .val (.int (16 : Int32))] [(.int (16 : Int32)), (.ref a1)]))
  obtain ⟨T3, h3, kc3, b3, X3, g3, E3, A3, V3, st3⟩ := X2.newPF hx hZ (tw hw 27 rfl) (g := (mkF m 12 #[.val (.ref a1), .val (.int (16 : Int32))] [(.int (16 : Int32)), (.ref a1)])) rfl (hb hby d23_12) rfl (by decide) (sz := 16) (cap := 16) (k' := 1) (n' := 16) rfl (Nat.le_refl _) (by decide) rfl rfl (by decide) (by decide) (ad := "[B") (by decide)
  have g_b3 : n0 ≤ b3 := by rw [g3]; exact Z0
  have sz_b3 : h0.size ≤ b3 := by rw [g3]; exact K0.1
  have ne_a1_b3 : a1 ≠ b3 := Nat.ne_of_lt (by rw [g3]; exact E_a1.lt)
  have f4_21 := S_CS.ext E3
  have f4_22 := O0.ext E3
  have f4_23 := E_a1.ext E3
  have f4_24 := Fv.ext E3
  have f4_25 := Fc.ext E3
  have f4_26 := Fn.ext E3
  have f4_27 := K0.ext E3
  have Zs4 : n0 ≤ h3.size := Nat.le_trans Z0 E3.1
  refine Go.by st3 ?_
  show Go p.tables e below _ (T3.setTop (mkF m 14 #[.val (.ref a1), .val (.int (16 : Int32))] [(.ref b3), (.ref a1)]))
  obtain ⟨T5, h5, X5, W5, st5⟩ := X3.putF hx hZ hown (host := "") (Or.inl (tw hw 128 rfl)) Via.refl f4_24 f4_23 g_a1 (Or.inr (by decide)) (Or.inl (tw hw 129 rfl)) (tw hw 115 rfl) (ty := (.array .byte)) (by decide) rfl rfl (g := (mkF m 14 #[.val (.ref a1), .val (.int (16 : Int32))] [(.ref b3), (.ref a1)])) rfl rfl (hb hby d23_14)
  have Fw5 := f4_24.same W5
  have f6_33 := f4_21.wr W5
  have f6_34 := f4_22.wr W5 g_a1
  have f6_35 := f4_23.wr W5
  have f6_36 := f4_25.other W5 (Or.inr (slot_ne (Or.inl (tw hw 131 rfl)) (Or.inl (tw hw 129 rfl)) (by decide) (t := .byte) (t' := (.array .byte)) (by decide) (by decide)))
  have f6_37 := f4_26.other W5 (Or.inr (slot_ne (Or.inl (tw hw 144 rfl)) (Or.inl (tw hw 129 rfl)) (by decide) (t := .int) (t' := (.array .byte)) (by decide) (by decide)))
  have f6_38 := f4_27.wr W5 (Or.inl (List.mem_of_getElem? (i := 0) rfl))
  have f6_39 := A3.wr W5
  have f6_40 := Avf.other V3 W5 (Ne.symm ne_a1_b3)
  have Zs6 : n0 ≤ h5.size := by rw [W5.size]; exact Zs4
  refine Go.by st5 ?_
  show Go p.tables e below _ (T5.setTop (mkF m 17 #[.val (.ref a1), .val (.int (16 : Int32))] []))
  refine Go.by (fun _ => XS.aloadN X5.here hx rfl (hb hby d23_17) rfl rfl) ?_
  show Go p.tables e below _ (T5.setTop (mkF m 18 #[.val (.ref a1), .val (.int (16 : Int32))] [(.ref a1)]))
  refine Go.by (fun _ => XS.iconst X5.here hx rfl (hb hby d23_18)) ?_
  show Go p.tables e below _ (T5.setTop (mkF m 19 #[.val (.ref a1), .val (.int (16 : Int32))] [(.int (0 : Int32)), (.ref a1)]))
  obtain ⟨T7, h7, X7, W7, st7⟩ := X5.putFN hx hZ hown (tw hw 130 rfl) Via.refl f6_36 f6_35 g_a1 (Or.inr (by decide)) (Or.inl (tw hw 131 rfl)) (tw hw 115 rfl) (ty := .byte) (v' := (.int (0 : Int32))) (by decide) rfl rfl (g := (mkF m 19 #[.val (.ref a1), .val (.int (16 : Int32))] [(.int (0 : Int32)), (.ref a1)])) rfl rfl (hb hby d23_19)
  have Fw7 := f6_36.same W7
  have f8_50 := f6_33.wr W7
  have f8_51 := f6_34.wr W7 g_a1
  have f8_52 := f6_35.wr W7
  have f8_53 := Fw5.other W7 (Or.inr (slot_ne (Or.inl (tw hw 129 rfl)) (Or.inl (tw hw 131 rfl)) (by decide) (t := (.array .byte)) (t' := .byte) (by decide) (by decide)))
  have f8_54 := f6_37.other W7 (Or.inr (slot_ne (Or.inl (tw hw 144 rfl)) (Or.inl (tw hw 131 rfl)) (by decide) (t := .int) (t' := .byte) (by decide) (by decide)))
  have f8_55 := f6_38.wr W7 (Or.inl (List.mem_of_getElem? (i := 0) rfl))
  have f8_56 := f6_39.wr W7
  have f8_57 := Avf.other f6_40 W7 (Ne.symm ne_a1_b3)
  have Zs8 : n0 ≤ h7.size := by rw [W7.size]; exact Zs6
  refine Go.by st7 ?_
  show Go p.tables e below _ (T7.setTop (mkF m 22 #[.val (.ref a1), .val (.int (16 : Int32))] []))
  refine Go.by (fun _ => XS.goto X7.here hx rfl (pc0 := 22) (pc' := 38) rfl (hb hby d23_22) (by decide) (by decide)) ?_
  show Go p.tables e below _ (T7.setTop (mkF m 38 #[.val (.ref a1), .val (.int (16 : Int32))] []))
  exact Go.ret0 X7 hx hlk hret (hb hby d23_38) (by decide) (by decide) (fun x z => by have q := Value.ref.inj (fld_uniq f8_53 z); rw [← q]; exact (List.mem_cons_self ..)) ⟨rfl, f8_55, f8_52, b3, kc3, sz_b3, f8_53, Fw7, f8_54, f8_57⟩
theorem d22_0 : decode jdk_67_method_1_code 0 = .ok (.aload_n 0, 1) := by decide +kernel
theorem d22_1 : decode jdk_67_method_1_code 1 = .ok (.bipush 16, 2) := by decide +kernel
theorem d22_3 : decode jdk_67_method_1_code 3 = .ok (.invokespecial 1, 3) := by decide +kernel
theorem pd14 : parseMethodDescriptor "(I)V" = some ⟨[.int], none⟩ := by decide +kernel
theorem d22_6 : decode jdk_67_method_1_code 6 = .ok (.return_, 1) := by decide +kernel
abbrev Rm22 : Room := { frames := 2, cells := 1, slots := 16, locals := 25 }
theorem pn8 : plainName "java/lang/StringBuilder" = true := by first | (simp [plainName, overriddenIn]; done) | decide +kernel
set_option maxRecDepth 65536 in
set_option maxHeartbeats 40000000 in
theorem rm22 (l : Launch) (Z : State) (a0 : Array Value) (hw : ∀ d ∈ tables_1, d.before a0 Z = true) (ws : List Jvm.Cond) (a1 : Addr) (cs : Int32) (h0 : Heap) (n0 : Nat) (Z0 : n0 ≤ h0.size) (O0 : Old Z n0 h0) (S_CS0 : Sta Z Z.heap "java/lang/String" "COMPACT_STRINGS" "Z" (.int cs)) (hcs : ¬ cs = 0) (E_a1 : Exa Z h0 a1 "java/lang/StringBuilder") (g_a1 : n0 ≤ a1) (Fv : Fld Z h0 a1 "java/lang/AbstractStringBuilder" "value" "[B" .null) (Fc : Fld Z h0 a1 "java/lang/AbstractStringBuilder" "coder" "B" (.int (0 : Int32))) (Fn : Fld Z h0 a1 "java/lang/AbstractStringBuilder" "count" "I" (.int (0 : Int32))) :
    Met l Z EL [] (fun _ h x => Fld Z h a1 "java/lang/AbstractStringBuilder" "value" "[B" (.ref x)) n0 (⟨"java/lang/StringBuilder", "<init>", "()V"⟩ : MethodName) jdk_67_method_1_code 1 none ws Rm22 #[(.ref a1)] h0 (fun v h => v = none ∧ Keep h0 h [a1] ∧ Exa Z h a1 "java/lang/StringBuilder" ∧ ∃ b kc, h0.size ≤ b ∧ Fld Z h a1 "java/lang/AbstractStringBuilder" "value" "[B" (.ref b) ∧ Fld Z h a1 "java/lang/AbstractStringBuilder" "coder" "B" (.int (0 : Int32)) ∧ Fld Z h a1 "java/lang/AbstractStringBuilder" "count" "I" (.int (Int32.ofNat 0)) ∧ Avf Z h b kc .byte 16 (fun i => (.int ((fun _ => (0 : Int32)) i)))) := by
  refine enter (Ls := #[.val (.ref a1)]) (plainFor_of_name pn8) (fun m => by first | (simp [entryFrame, mkF, argsToLocals, Value.category]; done) | rfl) ?_
  intro p e s m below meth c T0 hx hby hml hown hnm hret hlk hZ X0
  have S_CS := S_CS0.ext O0.2
  have K0 := Keep.refl h0 [a1]
  show Go p.tables e below _ (T0.setTop (mkF m 0 #[.val (.ref a1)] []))
  refine Go.by (fun _ => XS.aloadN X0.here hx rfl (hb hby d22_0) rfl rfl) ?_
  show Go p.tables e below _ (T0.setTop (mkF m 1 #[.val (.ref a1)] [(.ref a1)]))
  refine Go.by (fun _ => XS.bipush X0.here hx rfl (hb hby d22_1)) ?_
  show Go p.tables e below _ (T0.setTop (mkF m 3 #[.val (.ref a1)] [(.int (16 : Int32)), (.ref a1)]))
  obtain ⟨v1, T1, h1, X1, q1, xs1, st1⟩ := X0.callI hx hZ f0n (y := (⟨"java/lang/AbstractStringBuilder", "<init>", "(I)V"⟩ : MethodName)) rfl hown (tw hw 120 rfl) (tw hw 121 rfl) (tw hw 124 rfl) (tw hw 125 rfl) (by decide) (rm23 l Z a0 hw [] a1 cs h0 n0 Z0 O0 S_CS0 hcs E_a1 g_a1 Fv Fc Fn) (g := (mkF m 3 #[.val (.ref a1)] [(.int (16 : Int32)), (.ref a1)])) rfl (by rw [hml]; rfl) (argsL := [(.int (16 : Int32))]) (rest := []) (lenOf pd14 rfl) rfl (hb hby d22_3) rfl (by decide) (Nat.le_of_ble_eq_true rfl) (k' := 1) (n' := 16) rfl rfl (by decide) (by decide)
  refine Go.by st1 ?_
  obtain ⟨rfl, K1, Ex1, d1, kc1, sd1, Fv1, Fc1, Fn1, V1⟩ := q1
  have g_d1 : n0 ≤ d1 := Nat.le_trans Z0 sd1
  have sz_d1 : h0.size ≤ d1 := Nat.le_trans K0.1 sd1
  have ne_a1_d1 : a1 ≠ d1 := Nat.ne_of_lt (Nat.lt_of_lt_of_le E_a1.lt sd1)
  have f2_13 := Sta.keepN S_CS K1 (allS E_a1.plain all0)
  have f2_14 := O0.keep K1 (allS g_a1 all0)
  have f2_15 := E_a1.keep K1
  have f2_16 := K0.trans K1 (allS (Or.inl (List.mem_of_getElem? (i := 0) rfl)) all0)
  have Zs2 : n0 ≤ h1.size := Nat.le_trans Z0 K1.1
  have Y1 := xs1 [d1] (fun x hx => by
    rcases List.mem_cons.mp hx with rfl | hx
    · exact Or.inr Fv1
    · exact Or.inl hx)
  show Go p.tables e below _ (T1.setTop (mkF m 6 #[.val (.ref a1)] []))
  exact Go.ret0 Y1 hx hlk hret (hb hby d22_6) (by decide) (by decide) (fun x z => by have q := Value.ref.inj (fld_uniq Fv1 z); rw [← q]; exact (List.mem_cons_self ..)) ⟨rfl, f2_16, Ex1, d1, kc1, sz_d1, Fv1, Fc1, Fn1, V1⟩
theorem d26_0 : decode jdk_68_method_9_code 0 = .ok (.aload_n 0, 1) := by decide +kernel
theorem d26_1 : decode jdk_68_method_9_code 1 = .ok (.getfield 15, 3) := by decide +kernel
theorem d26_4 : decode jdk_68_method_9_code 4 = .ok (.arraylength, 1) := by decide +kernel
theorem d26_5 : decode jdk_68_method_9_code 5 = .ok (.aload_n 0, 1) := by decide +kernel
theorem d26_6 : decode jdk_68_method_9_code 6 = .ok (.getfield 22, 3) := by decide +kernel
theorem d26_9 : decode jdk_68_method_9_code 9 = .ok (.ishr, 1) := by decide +kernel
theorem d26_10 : decode jdk_68_method_9_code 10 = .ok (.istore_n 2, 1) := by decide +kernel
theorem d26_11 : decode jdk_68_method_9_code 11 = .ok (.iload_n 1, 1) := by decide +kernel
theorem d26_12 : decode jdk_68_method_9_code 12 = .ok (.iload_n 2, 1) := by decide +kernel
theorem d26_13 : decode jdk_68_method_9_code 13 = .ok (.isub, 1) := by decide +kernel
theorem d26_14 : decode jdk_68_method_9_code 14 = .ok (.ifCond .le 24, 3) := by decide +kernel
theorem d26_38 : decode jdk_68_method_9_code 38 = .ok (.return_, 1) := by decide +kernel
abbrev Rm26 : Room := { frames := 0, cells := 0, slots := 0, locals := 0 }
set_option maxRecDepth 65536 in
set_option maxHeartbeats 40000000 in
theorem rm26 (l : Launch) (Z : State) (a0 : Array Value) (hw : ∀ d ∈ tables_1, d.before a0 Z = true) (ws : List Jvm.Cond) (a1 : Addr) (p1 : Int32) (d : Addr) (kd : ClassId) (cn : Nat) (g : Nat → Int32) (h0 : Heap) (n0 : Nat) (Z0 : n0 ≤ h0.size) (E_a1 : Exa Z h0 a1 "java/lang/StringBuilder") (Fv_a1 : Fld Z h0 a1 "java/lang/AbstractStringBuilder" "value" "[B" (.ref d)) (Fc_a1 : Fld Z h0 a1 "java/lang/AbstractStringBuilder" "coder" "B" (.int (0 : Int32))) (Fn_a1 : Fld Z h0 a1 "java/lang/AbstractStringBuilder" "count" "I" (.int (Int32.ofNat cn))) (V_d : Avf Z h0 d kd .byte 16 (fun i => (.int (g i)))) (hp : ¬ (0 : Int32) < p1 - 16) :
    Met l Z EL [] (fun _ _ _ => False) n0 (⟨"java/lang/AbstractStringBuilder", "ensureCapacityInternal", "(I)V"⟩ : MethodName) jdk_68_method_9_code 3 none ws Rm26 #[(.ref a1), (.int p1)] h0 (fun v h => v = none ∧ h0 = h) := by
  refine enter (Ls := #[.val (.ref a1), .val (.int p1), .unset]) (plainFor_of_name pn7) (fun m => by first | (simp [entryFrame, mkF, argsToLocals, Value.category]; done) | rfl) ?_
  intro p e s m below meth c T0 hx hby hml hown hnm hret hlk hZ X0
  show Go p.tables e below _ (T0.setTop (mkF m 0 #[.val (.ref a1), .val (.int p1), .unset] []))
  refine Go.by (fun _ => XS.aloadN X0.here hx rfl (hb hby d26_0) rfl rfl) ?_
  show Go p.tables e below _ (T0.setTop (mkF m 1 #[.val (.ref a1), .val (.int p1), .unset] [(.ref a1)]))
  obtain ⟨T1, X1, st1⟩ := X0.getF hx hZ hown (host := "") (Or.inl (tw hw 128 rfl)) Via.refl Fv_a1 (g := (mkF m 1 #[.val (.ref a1), .val (.int p1), .unset] [(.ref a1)])) rfl rfl (hb hby d26_1)
  refine Go.by st1 ?_
  show Go p.tables e below _ (T1.setTop (mkF m 4 #[.val (.ref a1), .val (.int p1), .unset] [(.ref d)]))
  refine Go.by (X1.len hx hZ V_d (z := (16 : Int32)) rfl (g := (mkF m 4 #[.val (.ref a1), .val (.int p1), .unset] [(.ref d)])) rfl rfl (hb hby d26_4)) ?_
  show Go p.tables e below _ (T1.setTop (mkF m 5 #[.val (.ref a1), .val (.int p1), .unset] [(.int (16 : Int32))]))
  refine Go.by (fun _ => XS.aloadN X1.here hx rfl (hb hby d26_5) rfl rfl) ?_
  show Go p.tables e below _ (T1.setTop (mkF m 6 #[.val (.ref a1), .val (.int p1), .unset] [(.ref a1), (.int (16 : Int32))]))
  obtain ⟨T2, X2, st2⟩ := X1.getF hx hZ hown (host := "") (Or.inl (tw hw 130 rfl)) Via.refl Fc_a1 (g := (mkF m 6 #[.val (.ref a1), .val (.int p1), .unset] [(.ref a1), (.int (16 : Int32))])) rfl rfl (hb hby d26_6)
  refine Go.by st2 ?_
  show Go p.tables e below _ (T2.setTop (mkF m 9 #[.val (.ref a1), .val (.int p1), .unset] [(.int (0 : Int32)), (.int (16 : Int32))]))
  refine Go.by (fun _ => XS.ishr X2.here hx rfl (hb hby d26_9) rfl) ?_
  show Go p.tables e below _ (T2.setTop (mkF m 10 #[.val (.ref a1), .val (.int p1), .unset] [(.int (16 : Int32))]))
  refine Go.by (fun _ => XS.istoreN X2.here hx rfl (hb hby d26_10) rfl (l' := #[.val (.ref a1), .val (.int p1), .val (.int (16 : Int32))]) rfl) ?_
  show Go p.tables e below _ (T2.setTop (mkF m 11 #[.val (.ref a1), .val (.int p1), .val (.int (16 : Int32))] []))
  refine Go.by (fun _ => XS.iloadN X2.here hx rfl (hb hby d26_11) rfl) ?_
  show Go p.tables e below _ (T2.setTop (mkF m 12 #[.val (.ref a1), .val (.int p1), .val (.int (16 : Int32))] [(.int p1)]))
  refine Go.by (fun _ => XS.iloadN X2.here hx rfl (hb hby d26_12) rfl) ?_
  show Go p.tables e below _ (T2.setTop (mkF m 13 #[.val (.ref a1), .val (.int p1), .val (.int (16 : Int32))] [(.int (16 : Int32)), (.int p1)]))
  refine Go.by (fun _ => XS.isub X2.here hx rfl (hb hby d26_13) rfl) ?_
  show Go p.tables e below _ (T2.setTop (mkF m 14 #[.val (.ref a1), .val (.int p1), .val (.int (16 : Int32))] [(.int (p1 - (16 : Int32)))]))
  refine Go.by (fun _ => XS.ifYes X2.here hx rfl (pc0 := 14) (pc' := 38) rfl (hb hby d26_14) rfl ((if0 _ _).trans (flt hp).2.2.2) (by decide) (by decide)) ?_
  show Go p.tables e below _ (T2.setTop (mkF m 38 #[.val (.ref a1), .val (.int p1), .val (.int (16 : Int32))] []))
  exact Go.ret0 X2 hx hlk hret (hb hby d26_38) (by decide) (by decide) (fun _ z => z.elim) ⟨rfl, rfl⟩
theorem d28_0 : decode jdk_68_method_71_code 0 = .ok (.getstatic 18, 3) := by decide +kernel
theorem d28_3 : decode jdk_68_method_71_code 3 = .ok (.ifCond .eq 18, 3) := by decide +kernel
theorem d28_6 : decode jdk_68_method_71_code 6 = .ok (.aload_n 0, 1) := by decide +kernel
theorem d28_7 : decode jdk_68_method_71_code 7 = .ok (.getfield 22, 3) := by decide +kernel
theorem d28_10 : decode jdk_68_method_71_code 10 = .ok (.aload_n 1, 1) := by decide +kernel
theorem d28_11 : decode jdk_68_method_71_code 11 = .ok (.invokevirtual 40, 3) := by decide +kernel
theorem d28_14 : decode jdk_68_method_71_code 14 = .ok (.if_icmp .eq 7, 3) := by decide +kernel
theorem d28_21 : decode jdk_68_method_71_code 21 = .ok (.return_, 1) := by decide +kernel
abbrev Rm28 : Room := { frames := 1, cells := 0, slots := 0, locals := 13 }
set_option maxRecDepth 65536 in
set_option maxHeartbeats 40000000 in
theorem rm28 (l : Launch) (Z : State) (a0 : Array Value) (hw : ∀ d ∈ tables_1, d.before a0 Z = true) (ws : List Jvm.Cond) (a1 : Addr) (a2 : Addr) (cs : Int32) (d : Addr) (kd : ClassId) (cn : Nat) (g : Nat → Int32) (b2 : Addr) (k2 : ClassId) (N2 : Nat) (g2 : Nat → Int32) (h0 : Heap) (n0 : Nat) (Z0 : n0 ≤ h0.size) (O0 : Old Z n0 h0) (S_CS0 : Sta Z Z.heap "java/lang/String" "COMPACT_STRINGS" "Z" (.int cs)) (hcs : ¬ cs = 0) (E_a1 : Exa Z h0 a1 "java/lang/StringBuilder") (Fv_a1 : Fld Z h0 a1 "java/lang/AbstractStringBuilder" "value" "[B" (.ref d)) (Fc_a1 : Fld Z h0 a1 "java/lang/AbstractStringBuilder" "coder" "B" (.int (0 : Int32))) (Fn_a1 : Fld Z h0 a1 "java/lang/AbstractStringBuilder" "count" "I" (.int (Int32.ofNat cn))) (V_d : Avf Z h0 d kd .byte 16 (fun i => (.int (g i)))) (E_a2 : Exa Z h0 a2 "java/lang/String") (Fv_a2 : Fld Z h0 a2 "java/lang/String" "value" "[B" (.ref b2)) (Fc_a2 : Fld Z h0 a2 "java/lang/String" "coder" "B" (.int (0 : Int32))) (V_b2 : Avf Z h0 b2 k2 .byte N2 (fun i => (.int (g2 i)))) :
    Met l Z EL [] (fun _ _ _ => False) n0 (⟨"java/lang/AbstractStringBuilder", "inflateIfNeededFor", "(Ljava/lang/String;)V"⟩ : MethodName) jdk_68_method_71_code 2 none ws Rm28 #[(.ref a1), (.ref a2)] h0 (fun v h => v = none ∧ h0 = h) := by
  refine enter (Ls := #[.val (.ref a1), .val (.ref a2)]) (plainFor_of_name pn7) (fun m => by first | (simp [entryFrame, mkF, argsToLocals, Value.category]; done) | rfl) ?_
  intro p e s m below meth c T0 hx hby hml hown hnm hret hlk hZ X0
  have S_CS := S_CS0.ext O0.2
  show Go p.tables e below _ (T0.setTop (mkF m 0 #[.val (.ref a1), .val (.ref a2)] []))
  obtain ⟨T1, X1, st1⟩ := X0.getS hx hZ hown (host := "") (Or.inl (tw hw 127 rfl)) Via.refl S_CS (g := (mkF m 0 #[.val (.ref a1), .val (.ref a2)] [])) rfl (hb hby d28_0)
  refine Go.by st1 ?_
  show Go p.tables e below _ (T1.setTop (mkF m 3 #[.val (.ref a1), .val (.ref a2)] [(.int cs)]))
  refine Go.by (fun _ => XS.ifNo X1.here hx rfl (hb hby d28_3) rfl ((if0 _ _).trans (feq hcs).1)) ?_
  show Go p.tables e below _ (T1.setTop (mkF m 6 #[.val (.ref a1), .val (.ref a2)] []))
  refine Go.by (fun _ => XS.aloadN X1.here hx rfl (hb hby d28_6) rfl rfl) ?_
  show Go p.tables e below _ (T1.setTop (mkF m 7 #[.val (.ref a1), .val (.ref a2)] [(.ref a1)]))
  obtain ⟨T2, X2, st2⟩ := X1.getF hx hZ hown (host := "") (Or.inl (tw hw 130 rfl)) Via.refl Fc_a1 (g := (mkF m 7 #[.val (.ref a1), .val (.ref a2)] [(.ref a1)])) rfl rfl (hb hby d28_7)
  refine Go.by st2 ?_
  show Go p.tables e below _ (T2.setTop (mkF m 10 #[.val (.ref a1), .val (.ref a2)] [(.int (0 : Int32))]))
  refine Go.by (fun _ => XS.aloadN X2.here hx rfl (hb hby d28_10) rfl rfl) ?_
  show Go p.tables e below _ (T2.setTop (mkF m 11 #[.val (.ref a1), .val (.ref a2)] [(.ref a2), (.int (0 : Int32))]))
  obtain ⟨v3, T3, h3, X3, q3, xs3, st3⟩ := X2.callV hx hZ f0n (y := (⟨"java/lang/String", "coder", "()B"⟩ : MethodName)) (z := (⟨"java/lang/String", "coder", "()B"⟩ : MethodName)) hown (tw hw 160 rfl) (tw hw 96 rfl) (fun _ hZ => notFace_of_selects (args := #[]) (mvT hZ (tw hw 98 rfl))) (tw hw 98 rfl) (tw hw 97 rfl) (tw hw 11 rfl) (tw hw 99 rfl) (by decide) (rm19 l Z a0 hw [] a2 cs N2 g2 b2 k2 h0 n0 Z0 O0 S_CS0 hcs E_a2 Fv_a2 Fc_a2 V_b2) E_a2 (g := (mkF m 11 #[.val (.ref a1), .val (.ref a2)] [(.ref a2), (.int (0 : Int32))])) rfl (by rw [hml]; rfl) (argsL := []) (rest := [(.int (0 : Int32))]) (lenOf pd5 rfl) rfl (hb hby d28_11) rfl (by decide) (Nat.le_of_ble_eq_true rfl) (k' := 0) (n' := 0) rfl rfl (by decide) (by decide)
  refine Go.by st3 ?_
  obtain ⟨rfl, rfl⟩ := q3
  show Go p.tables e below _ (T3.setTop (mkF m 14 #[.val (.ref a1), .val (.ref a2)] [(.int (0 : Int32)), (.int (0 : Int32))]))
  refine Go.by (fun _ => XS.icmpYes X3.here hx rfl (pc0 := 14) (pc' := 21) rfl (hb hby d28_14) rfl (teq (by decide)).1 (by decide) (by decide)) ?_
  show Go p.tables e below _ (T3.setTop (mkF m 21 #[.val (.ref a1), .val (.ref a2)] []))
  exact Go.ret0 X3 hx hlk hret (hb hby d28_21) (by decide) (by decide) (fun _ z => z.elim) ⟨rfl, rfl⟩
theorem d29_0 : decode jdk_42_method_147_code 0 = .ok (.aload_n 0, 1) := by decide +kernel
theorem d29_1 : decode jdk_42_method_147_code 1 = .ok (.invokevirtual 335, 3) := by decide +kernel
theorem d29_4 : decode jdk_42_method_147_code 4 = .ok (.iload_n 3, 1) := by decide +kernel
theorem d29_5 : decode jdk_42_method_147_code 5 = .ok (.if_icmp .ne 23, 3) := by decide +kernel
theorem d29_8 : decode jdk_42_method_147_code 8 = .ok (.aload_n 0, 1) := by decide +kernel
theorem d29_9 : decode jdk_42_method_147_code 9 = .ok (.getfield 9, 3) := by decide +kernel
theorem d29_12 : decode jdk_42_method_147_code 12 = .ok (.iconst 0, 1) := by decide +kernel
theorem d29_13 : decode jdk_42_method_147_code 13 = .ok (.aload_n 1, 1) := by decide +kernel
theorem d29_14 : decode jdk_42_method_147_code 14 = .ok (.iload_n 2, 1) := by decide +kernel
theorem d29_15 : decode jdk_42_method_147_code 15 = .ok (.iload_n 3, 1) := by decide +kernel
theorem d29_16 : decode jdk_42_method_147_code 16 = .ok (.ishl, 1) := by decide +kernel
theorem d29_17 : decode jdk_42_method_147_code 17 = .ok (.aload_n 0, 1) := by decide +kernel
theorem d29_18 : decode jdk_42_method_147_code 18 = .ok (.getfield 9, 3) := by decide +kernel
theorem d29_21 : decode jdk_42_method_147_code 21 = .ok (.arraylength, 1) := by decide +kernel
theorem d29_22 : decode jdk_42_method_147_code 22 = .ok (.invokestatic 212, 3) := by decide +kernel
theorem d29_25 : decode jdk_42_method_147_code 25 = .ok (.goto 18, 3) := by decide +kernel
theorem d29_43 : decode jdk_42_method_147_code 43 = .ok (.return_, 1) := by decide +kernel
abbrev Rm29 : Room := { frames := 1, cells := 0, slots := 0, locals := 18 }
set_option maxRecDepth 65536 in
set_option maxHeartbeats 40000000 in
theorem rm29 (l : Launch) (Z : State) (a0 : Array Value) (hw : ∀ d ∈ tables_1, d.before a0 Z = true) (ws : List Jvm.Cond) (a1 : Addr) (d : Addr) (cs : Int32) (N1 : Nat) (g1 : Nat → Int32) (b1 : Addr) (k1 : ClassId) (kd : ClassId) (cn : Nat) (g : Nat → Int32) (h0 : Heap) (n0 : Nat) (Z0 : n0 ≤ h0.size) (O0 : Old Z n0 h0) (S_CS0 : Sta Z Z.heap "java/lang/String" "COMPACT_STRINGS" "Z" (.int cs)) (hcs : ¬ cs = 0) (E_a1 : Exa Z h0 a1 "java/lang/String") (Fv_a1 : Fld Z h0 a1 "java/lang/String" "value" "[B" (.ref b1)) (Fc_a1 : Fld Z h0 a1 "java/lang/String" "coder" "B" (.int (0 : Int32))) (V_b1 : Avf Z h0 b1 k1 .byte N1 (fun i => (.int (g1 i)))) (V_d : Avf Z h0 d kd .byte 16 (fun i => (.int (g i)))) (g_d : n0 ≤ d) (nbd : b1 ≠ d) (hcap : cn + N1 ≤ 16) :
    Met l Z EL [d] (fun _ _ _ => False) n0 (⟨"java/lang/String", "getBytes", "([BIB)V"⟩ : MethodName) jdk_42_method_147_code 4 none ws Rm29 #[(.ref a1), (.ref d), (.int (Int32.ofNat cn)), (.int (0 : Int32))] h0 (fun v h => v = none ∧ Keep h0 h [d] ∧ Avf Z h d kd .byte 16 (fun i => (.int ((apg cn N1 g1 g) i)))) := by
  refine enter (Ls := #[.val (.ref a1), .val (.ref d), .val (.int (Int32.ofNat cn)), .val (.int (0 : Int32))]) (plainFor_of_name pn1) (fun m => by first | (simp [entryFrame, mkF, argsToLocals, Value.category]; done) | rfl) ?_
  intro p e s m below meth c T0 hx hby hml hown hnm hret hlk hZ X0
  have S_CS := S_CS0.ext O0.2
  have nad : a1 ≠ d := Ne.symm (exa_nev E_a1 (tw hw 10 rfl) V_d)
  have K0 := Keep.refl h0 [d]
  show Go p.tables e below _ (T0.setTop (mkF m 0 #[.val (.ref a1), .val (.ref d), .val (.int (Int32.ofNat cn)), .val (.int (0 : Int32))] []))
  refine Go.by (fun _ => XS.aloadN X0.here hx rfl (hb hby d29_0) rfl rfl) ?_
  show Go p.tables e below _ (T0.setTop (mkF m 1 #[.val (.ref a1), .val (.ref d), .val (.int (Int32.ofNat cn)), .val (.int (0 : Int32))] [(.ref a1)]))
  obtain ⟨v1, T1, h1, X1, q1, xs1, st1⟩ := X0.callV hx hZ f0n (y := (⟨"java/lang/String", "coder", "()B"⟩ : MethodName)) (z := (⟨"java/lang/String", "coder", "()B"⟩ : MethodName)) hown (tw hw 95 rfl) (tw hw 96 rfl) (fun _ hZ => notFace_of_selects (args := #[]) (mvT hZ (tw hw 98 rfl))) (tw hw 98 rfl) (tw hw 97 rfl) (tw hw 11 rfl) (tw hw 99 rfl) (by decide) (rm19 l Z a0 hw [] a1 cs N1 g1 b1 k1 h0 n0 Z0 O0 S_CS0 hcs E_a1 Fv_a1 Fc_a1 V_b1) E_a1 (g := (mkF m 1 #[.val (.ref a1), .val (.ref d), .val (.int (Int32.ofNat cn)), .val (.int (0 : Int32))] [(.ref a1)])) rfl (by rw [hml]; rfl) (argsL := []) (rest := []) (lenOf pd5 rfl) rfl (hb hby d29_1) rfl (by decide) (Nat.le_of_ble_eq_true rfl) (k' := 0) (n' := 0) rfl rfl (by decide) (by decide)
  refine Go.by st1 ?_
  obtain ⟨rfl, rfl⟩ := q1
  show Go p.tables e below _ (T1.setTop (mkF m 4 #[.val (.ref a1), .val (.ref d), .val (.int (Int32.ofNat cn)), .val (.int (0 : Int32))] [(.int (0 : Int32))]))
  refine Go.by (fun _ => XS.iloadN X1.here hx rfl (hb hby d29_4) rfl) ?_
  show Go p.tables e below _ (T1.setTop (mkF m 5 #[.val (.ref a1), .val (.ref d), .val (.int (Int32.ofNat cn)), .val (.int (0 : Int32))] [(.int (0 : Int32)), (.int (0 : Int32))]))
  refine Go.by (fun _ => XS.icmpNo X1.here hx rfl (hb hby d29_5) rfl (teq (by decide)).2) ?_
  show Go p.tables e below _ (T1.setTop (mkF m 8 #[.val (.ref a1), .val (.ref d), .val (.int (Int32.ofNat cn)), .val (.int (0 : Int32))] []))
  refine Go.by (fun _ => XS.aloadN X1.here hx rfl (hb hby d29_8) rfl rfl) ?_
  show Go p.tables e below _ (T1.setTop (mkF m 9 #[.val (.ref a1), .val (.ref d), .val (.int (Int32.ofNat cn)), .val (.int (0 : Int32))] [(.ref a1)]))
  obtain ⟨T2, X2, st2⟩ := X1.getF hx hZ hown (host := "") (Or.inl (tw hw 36 rfl)) Via.refl Fv_a1 (g := (mkF m 9 #[.val (.ref a1), .val (.ref d), .val (.int (Int32.ofNat cn)), .val (.int (0 : Int32))] [(.ref a1)])) rfl rfl (hb hby d29_9)
  refine Go.by st2 ?_
  show Go p.tables e below _ (T2.setTop (mkF m 12 #[.val (.ref a1), .val (.ref d), .val (.int (Int32.ofNat cn)), .val (.int (0 : Int32))] [(.ref b1)]))
  refine Go.by (fun _ => XS.iconst X2.here hx rfl (hb hby d29_12)) ?_
  show Go p.tables e below _ (T2.setTop (mkF m 13 #[.val (.ref a1), .val (.ref d), .val (.int (Int32.ofNat cn)), .val (.int (0 : Int32))] [(.int (0 : Int32)), (.ref b1)]))
  refine Go.by (fun _ => XS.aloadN X2.here hx rfl (hb hby d29_13) rfl rfl) ?_
  show Go p.tables e below _ (T2.setTop (mkF m 14 #[.val (.ref a1), .val (.ref d), .val (.int (Int32.ofNat cn)), .val (.int (0 : Int32))] [(.ref d), (.int (0 : Int32)), (.ref b1)]))
  refine Go.by (fun _ => XS.iloadN X2.here hx rfl (hb hby d29_14) rfl) ?_
  show Go p.tables e below _ (T2.setTop (mkF m 15 #[.val (.ref a1), .val (.ref d), .val (.int (Int32.ofNat cn)), .val (.int (0 : Int32))] [(.int (Int32.ofNat cn)), (.ref d), (.int (0 : Int32)), (.ref b1)]))
  refine Go.by (fun _ => XS.iloadN X2.here hx rfl (hb hby d29_15) rfl) ?_
  show Go p.tables e below _ (T2.setTop (mkF m 16 #[.val (.ref a1), .val (.ref d), .val (.int (Int32.ofNat cn)), .val (.int (0 : Int32))] [(.int (0 : Int32)), (.int (Int32.ofNat cn)), (.ref d), (.int (0 : Int32)), (.ref b1)]))
  refine Go.by (fun _ => XS.ishl X2.here hx rfl (hb hby d29_16) rfl) ?_
  show Go p.tables e below _ (T2.setTop (mkF m 17 #[.val (.ref a1), .val (.ref d), .val (.int (Int32.ofNat cn)), .val (.int (0 : Int32))] [(.int ((Int32.ofNat cn) <<< ((0 : Int32) &&& 31))), (.ref d), (.int (0 : Int32)), (.ref b1)]))
  refine Go.by (fun _ => XS.aloadN X2.here hx rfl (hb hby d29_17) rfl rfl) ?_
  show Go p.tables e below _ (T2.setTop (mkF m 18 #[.val (.ref a1), .val (.ref d), .val (.int (Int32.ofNat cn)), .val (.int (0 : Int32))] [(.ref a1), (.int ((Int32.ofNat cn) <<< ((0 : Int32) &&& 31))), (.ref d), (.int (0 : Int32)), (.ref b1)]))
  obtain ⟨T3, X3, st3⟩ := X2.getF hx hZ hown (host := "") (Or.inl (tw hw 36 rfl)) Via.refl Fv_a1 (g := (mkF m 18 #[.val (.ref a1), .val (.ref d), .val (.int (Int32.ofNat cn)), .val (.int (0 : Int32))] [(.ref a1), (.int ((Int32.ofNat cn) <<< ((0 : Int32) &&& 31))), (.ref d), (.int (0 : Int32)), (.ref b1)])) rfl rfl (hb hby d29_18)
  refine Go.by st3 ?_
  show Go p.tables e below _ (T3.setTop (mkF m 21 #[.val (.ref a1), .val (.ref d), .val (.int (Int32.ofNat cn)), .val (.int (0 : Int32))] [(.ref b1), (.int ((Int32.ofNat cn) <<< ((0 : Int32) &&& 31))), (.ref d), (.int (0 : Int32)), (.ref b1)]))
  refine Go.by (X3.len hx hZ V_b1 (z := (N1.toInt32)) rfl (g := (mkF m 21 #[.val (.ref a1), .val (.ref d), .val (.int (Int32.ofNat cn)), .val (.int (0 : Int32))] [(.ref b1), (.int ((Int32.ofNat cn) <<< ((0 : Int32) &&& 31))), (.ref d), (.int (0 : Int32)), (.ref b1)])) rfl rfl (hb hby d29_21)) ?_
  show Go p.tables e below _ (T3.setTop (mkF m 22 #[.val (.ref a1), .val (.ref d), .val (.int (Int32.ofNat cn)), .val (.int (0 : Int32))] [(.int (N1.toInt32)), (.int ((Int32.ofNat cn) <<< ((0 : Int32) &&& 31))), (.ref d), (.int (0 : Int32)), (.ref b1)]))
  obtain ⟨T4, h4, X4, K4, V4, st4⟩ := X3.acopy hx hZ hown (tw hw 166 rfl) (tw hw 169 rfl) (tw hw 167 rfl) (tw hw 168 rfl) V_b1 V_d rfl g_d (Or.inl (List.mem_cons_self ..)) (by decide) (by rw [own_shl0]; exact i32_nneg (by omega)) (n32_nneg (by omega)) (i := 0) (j := cn) (cc := N1) rfl (by rw [own_shl0]; exact i32_nat (by omega)) (n32_nat (by omega)) (by omega) (by omega) (g := (mkF m 22 #[.val (.ref a1), .val (.ref d), .val (.int (Int32.ofNat cn)), .val (.int (0 : Int32))] [(.int (N1.toInt32)), (.int ((Int32.ofNat cn) <<< ((0 : Int32) &&& 31))), (.ref d), (.int (0 : Int32)), (.ref b1)])) rfl (by rw [hml]; rfl) rfl (hb hby d29_22) (by decide) (Nat.le_of_ble_eq_true rfl)
  have f5_37 := Sta.keepN S_CS K4 (allS V_d.plain all0)
  have f5_38 := O0.keep K4 (allS g_d all0)
  have f5_39 := E_a1.keep K4
  have f5_40 := Fv_a1.keep K4 (ninS nad nin0)
  have f5_41 := Fc_a1.keep K4 (ninS nad nin0)
  have f5_42 := Avf.keep V_b1 K4 (ninS nbd nin0)
  have f5_43 := K0.trans K4 (allS (Or.inl (List.mem_of_getElem? (i := 0) rfl)) all0)
  have Zs5 : n0 ≤ h4.size := Nat.le_trans Z0 K4.1
  refine Go.by st4 ?_
  show Go p.tables e below _ (T4.setTop (mkF m 25 #[.val (.ref a1), .val (.ref d), .val (.int (Int32.ofNat cn)), .val (.int (0 : Int32))] []))
  refine Go.by (fun _ => XS.goto X4.here hx rfl (pc0 := 25) (pc' := 43) rfl (hb hby d29_25) (by decide) (by decide)) ?_
  show Go p.tables e below _ (T4.setTop (mkF m 43 #[.val (.ref a1), .val (.ref d), .val (.int (Int32.ofNat cn)), .val (.int (0 : Int32))] []))
  refine Go.ret0 X4 hx hlk hret (hb hby d29_43) (by decide) (by decide) (fun _ z => z.elim) ?_
  refine ⟨rfl, f5_43, Avf.cong V4 (fun t ht => ?_)⟩
  show (if cn ≤ t ∧ t < cn + N1 then Value.int (g1 (0 + (t - cn))) else Value.int (g t)) = Value.int (apg cn N1 g1 g t)
  unfold apg
  split <;> simp
theorem d27_0 : decode jdk_68_method_73_code 0 = .ok (.aload_n 0, 1) := by decide +kernel
theorem d27_1 : decode jdk_68_method_73_code 1 = .ok (.aload_n 2, 1) := by decide +kernel
theorem d27_2 : decode jdk_68_method_73_code 2 = .ok (.invokevirtual 397, 3) := by decide +kernel
theorem pd15 : parseMethodDescriptor "(Ljava/lang/String;)V" = some ⟨[(.object "java/lang/String")], none⟩ := by decide +kernel
theorem d27_5 : decode jdk_68_method_73_code 5 = .ok (.aload_n 2, 1) := by decide +kernel
theorem d27_6 : decode jdk_68_method_73_code 6 = .ok (.aload_n 0, 1) := by decide +kernel
theorem d27_7 : decode jdk_68_method_73_code 7 = .ok (.getfield 15, 3) := by decide +kernel
theorem d27_10 : decode jdk_68_method_73_code 10 = .ok (.iload_n 1, 1) := by decide +kernel
theorem d27_11 : decode jdk_68_method_73_code 11 = .ok (.aload_n 0, 1) := by decide +kernel
theorem d27_12 : decode jdk_68_method_73_code 12 = .ok (.getfield 22, 3) := by decide +kernel
theorem d27_15 : decode jdk_68_method_73_code 15 = .ok (.invokevirtual 399, 3) := by decide +kernel
theorem pd16 : parseMethodDescriptor "([BIB)V" = some ⟨[(.array .byte), .int, .byte], none⟩ := by decide +kernel
theorem d27_18 : decode jdk_68_method_73_code 18 = .ok (.return_, 1) := by decide +kernel
abbrev Rm27 : Room := { frames := 2, cells := 0, slots := 0, locals := 33 }
set_option maxRecDepth 65536 in
set_option maxHeartbeats 40000000 in
theorem rm27 (l : Launch) (Z : State) (a0 : Array Value) (hw : ∀ d ∈ tables_1, d.before a0 Z = true) (ws : List Jvm.Cond) (a1 : Addr) (a2 : Addr) (cs : Int32) (d : Addr) (kd : ClassId) (cn : Nat) (g : Nat → Int32) (b2 : Addr) (k2 : ClassId) (N2 : Nat) (g2 : Nat → Int32) (h0 : Heap) (n0 : Nat) (Z0 : n0 ≤ h0.size) (O0 : Old Z n0 h0) (S_CS0 : Sta Z Z.heap "java/lang/String" "COMPACT_STRINGS" "Z" (.int cs)) (hcs : ¬ cs = 0) (E_a1 : Exa Z h0 a1 "java/lang/StringBuilder") (Fv_a1 : Fld Z h0 a1 "java/lang/AbstractStringBuilder" "value" "[B" (.ref d)) (Fc_a1 : Fld Z h0 a1 "java/lang/AbstractStringBuilder" "coder" "B" (.int (0 : Int32))) (Fn_a1 : Fld Z h0 a1 "java/lang/AbstractStringBuilder" "count" "I" (.int (Int32.ofNat cn))) (V_d : Avf Z h0 d kd .byte 16 (fun i => (.int (g i)))) (E_a2 : Exa Z h0 a2 "java/lang/String") (Fv_a2 : Fld Z h0 a2 "java/lang/String" "value" "[B" (.ref b2)) (Fc_a2 : Fld Z h0 a2 "java/lang/String" "coder" "B" (.int (0 : Int32))) (V_b2 : Avf Z h0 b2 k2 .byte N2 (fun i => (.int (g2 i)))) (g_d : n0 ≤ d) (nbd : b2 ≠ d) (hcap : cn + N2 ≤ 16) :
    Met l Z EL [d] (fun _ _ _ => False) n0 (⟨"java/lang/AbstractStringBuilder", "putStringAt", "(ILjava/lang/String;)V"⟩ : MethodName) jdk_68_method_73_code 3 none ws Rm27 #[(.ref a1), (.int (Int32.ofNat cn)), (.ref a2)] h0 (fun v h => v = none ∧ Keep h0 h [d] ∧ Avf Z h d kd .byte 16 (fun i => (.int ((apg cn N2 g2 g) i)))) := by
  refine enter (Ls := #[.val (.ref a1), .val (.int (Int32.ofNat cn)), .val (.ref a2)]) (plainFor_of_name pn7) (fun m => by first | (simp [entryFrame, mkF, argsToLocals, Value.category]; done) | rfl) ?_
  intro p e s m below meth c T0 hx hby hml hown hnm hret hlk hZ X0
  have S_CS := S_CS0.ext O0.2
  have na2d : a2 ≠ d := Ne.symm (exa_nev E_a2 (tw hw 10 rfl) V_d)
  have na1d : a1 ≠ d := Ne.symm (exa_nev E_a1 (tw hw 115 rfl) V_d)
  have na21 : a2 ≠ a1 := Exa.ne E_a2 E_a1 (by decide)
  have nb21 : b2 ≠ a1 := exa_nev E_a1 (tw hw 115 rfl) V_b2
  have K0 := Keep.refl h0 [d]
  show Go p.tables e below _ (T0.setTop (mkF m 0 #[.val (.ref a1), .val (.int (Int32.ofNat cn)), .val (.ref a2)] []))
  refine Go.by (fun _ => XS.aloadN X0.here hx rfl (hb hby d27_0) rfl rfl) ?_
  show Go p.tables e below _ (T0.setTop (mkF m 1 #[.val (.ref a1), .val (.int (Int32.ofNat cn)), .val (.ref a2)] [(.ref a1)]))
  refine Go.by (fun _ => XS.aloadN X0.here hx rfl (hb hby d27_1) rfl rfl) ?_
  show Go p.tables e below _ (T0.setTop (mkF m 2 #[.val (.ref a1), .val (.int (Int32.ofNat cn)), .val (.ref a2)] [(.ref a2), (.ref a1)]))
  obtain ⟨v1, T1, h1, X1, q1, xs1, st1⟩ := X0.callP hx hZ f0n (y := (⟨"java/lang/AbstractStringBuilder", "inflateIfNeededFor", "(Ljava/lang/String;)V"⟩ : MethodName)) hown (tw hw 155 rfl) (tw hw 156 rfl) (sel_own (tw hw 158 rfl) (tw hw 157 rfl) (tw hw 156 rfl) (by decide)) (tw hw 157 rfl) (tw hw 124 rfl) (tw hw 159 rfl) (by decide) (rm28 l Z a0 hw [] a1 a2 cs d kd cn g b2 k2 N2 g2 h0 n0 Z0 O0 S_CS0 hcs E_a1 Fv_a1 Fc_a1 Fn_a1 V_d E_a2 Fv_a2 Fc_a2 V_b2) E_a1 (g := (mkF m 2 #[.val (.ref a1), .val (.int (Int32.ofNat cn)), .val (.ref a2)] [(.ref a2), (.ref a1)])) rfl (by rw [hml]; rfl) (argsL := [(.ref a2)]) (rest := []) (lenOf pd15 rfl) rfl (hb hby d27_2) rfl (by decide) (Nat.le_of_ble_eq_true rfl) (k' := 0) (n' := 0) rfl rfl (by decide) (by decide)
  refine Go.by st1 ?_
  obtain ⟨rfl, rfl⟩ := q1
  show Go p.tables e below _ (T1.setTop (mkF m 5 #[.val (.ref a1), .val (.int (Int32.ofNat cn)), .val (.ref a2)] []))
  refine Go.by (fun _ => XS.aloadN X1.here hx rfl (hb hby d27_5) rfl rfl) ?_
  show Go p.tables e below _ (T1.setTop (mkF m 6 #[.val (.ref a1), .val (.int (Int32.ofNat cn)), .val (.ref a2)] [(.ref a2)]))
  refine Go.by (fun _ => XS.aloadN X1.here hx rfl (hb hby d27_6) rfl rfl) ?_
  show Go p.tables e below _ (T1.setTop (mkF m 7 #[.val (.ref a1), .val (.int (Int32.ofNat cn)), .val (.ref a2)] [(.ref a1), (.ref a2)]))
  obtain ⟨T2, X2, st2⟩ := X1.getF hx hZ hown (host := "") (Or.inl (tw hw 128 rfl)) Via.refl Fv_a1 (g := (mkF m 7 #[.val (.ref a1), .val (.int (Int32.ofNat cn)), .val (.ref a2)] [(.ref a1), (.ref a2)])) rfl rfl (hb hby d27_7)
  refine Go.by st2 ?_
  show Go p.tables e below _ (T2.setTop (mkF m 10 #[.val (.ref a1), .val (.int (Int32.ofNat cn)), .val (.ref a2)] [(.ref d), (.ref a2)]))
  refine Go.by (fun _ => XS.iloadN X2.here hx rfl (hb hby d27_10) rfl) ?_
  show Go p.tables e below _ (T2.setTop (mkF m 11 #[.val (.ref a1), .val (.int (Int32.ofNat cn)), .val (.ref a2)] [(.int (Int32.ofNat cn)), (.ref d), (.ref a2)]))
  refine Go.by (fun _ => XS.aloadN X2.here hx rfl (hb hby d27_11) rfl rfl) ?_
  show Go p.tables e below _ (T2.setTop (mkF m 12 #[.val (.ref a1), .val (.int (Int32.ofNat cn)), .val (.ref a2)] [(.ref a1), (.int (Int32.ofNat cn)), (.ref d), (.ref a2)]))
  obtain ⟨T3, X3, st3⟩ := X2.getF hx hZ hown (host := "") (Or.inl (tw hw 130 rfl)) Via.refl Fc_a1 (g := (mkF m 12 #[.val (.ref a1), .val (.int (Int32.ofNat cn)), .val (.ref a2)] [(.ref a1), (.int (Int32.ofNat cn)), (.ref d), (.ref a2)])) rfl rfl (hb hby d27_12)
  refine Go.by st3 ?_
  show Go p.tables e below _ (T3.setTop (mkF m 15 #[.val (.ref a1), .val (.int (Int32.ofNat cn)), .val (.ref a2)] [(.int (0 : Int32)), (.int (Int32.ofNat cn)), (.ref d), (.ref a2)]))
  obtain ⟨v4, T4, h4, X4, q4, xs4, st4⟩ := X3.callV hx hZ (f0s (List.mem_cons_self ..) f0n) (y := (⟨"java/lang/String", "getBytes", "([BIB)V"⟩ : MethodName)) (z := (⟨"java/lang/String", "getBytes", "([BIB)V"⟩ : MethodName)) hown (tw hw 161 rfl) (tw hw 162 rfl) (fun _ hZ => notFace_of_selects (args := #[]) (mvT hZ (tw hw 164 rfl))) (tw hw 164 rfl) (tw hw 163 rfl) (tw hw 11 rfl) (tw hw 165 rfl) (by decide) (rm29 l Z a0 hw [] a2 d cs N2 g2 b2 k2 kd cn g h0 n0 Z0 O0 S_CS0 hcs E_a2 Fv_a2 Fc_a2 V_b2 V_d g_d nbd hcap) E_a2 (g := (mkF m 15 #[.val (.ref a1), .val (.int (Int32.ofNat cn)), .val (.ref a2)] [(.int (0 : Int32)), (.int (Int32.ofNat cn)), (.ref d), (.ref a2)])) rfl (by rw [hml]; rfl) (argsL := [(.ref d), (.int (Int32.ofNat cn)), (.int (0 : Int32))]) (rest := []) (lenOf pd16 rfl) rfl (hb hby d27_15) rfl (by decide) (Nat.le_of_ble_eq_true rfl) (k' := 0) (n' := 0) rfl rfl (by decide) (by decide)
  refine Go.by st4 ?_
  obtain ⟨rfl, K4, V4⟩ := q4
  have f5_32 := Sta.keepN S_CS K4 (allS V_d.plain all0)
  have f5_33 := O0.keep K4 (allS g_d all0)
  have f5_34 := E_a1.keep K4
  have f5_35 := Fv_a1.keep K4 (ninS na1d nin0)
  have f5_36 := Fc_a1.keep K4 (ninS na1d nin0)
  have f5_37 := Fn_a1.keep K4 (ninS na1d nin0)
  have f5_38 := E_a2.keep K4
  have f5_39 := Fv_a2.keep K4 (ninS na2d nin0)
  have f5_40 := Fc_a2.keep K4 (ninS na2d nin0)
  have f5_41 := Avf.keep V_b2 K4 (ninS nbd nin0)
  have f5_42 := K0.trans K4 (allS (Or.inl (List.mem_of_getElem? (i := 0) rfl)) all0)
  have Zs5 : n0 ≤ h4.size := Nat.le_trans Z0 K4.1
  show Go p.tables e below _ (T4.setTop (mkF m 18 #[.val (.ref a1), .val (.int (Int32.ofNat cn)), .val (.ref a2)] []))
  exact Go.ret0 X4 hx hlk hret (hb hby d27_18) (by decide) (by decide) (fun _ z => z.elim) ⟨rfl, f5_42, V4⟩
theorem d25_0 : decode jdk_68_method_22_code 0 = .ok (.aload_n 1, 1) := by decide +kernel
theorem d25_1 : decode jdk_68_method_22_code 1 = .ok (.ifnonnull 8, 3) := by decide +kernel
theorem d25_9 : decode jdk_68_method_22_code 9 = .ok (.aload_n 1, 1) := by decide +kernel
theorem d25_10 : decode jdk_68_method_22_code 10 = .ok (.invokevirtual 32, 3) := by decide +kernel
theorem d25_13 : decode jdk_68_method_22_code 13 = .ok (.istore_n 2, 1) := by decide +kernel
theorem d25_14 : decode jdk_68_method_22_code 14 = .ok (.aload_n 0, 1) := by decide +kernel
theorem d25_15 : decode jdk_68_method_22_code 15 = .ok (.aload_n 0, 1) := by decide +kernel
theorem d25_16 : decode jdk_68_method_22_code 16 = .ok (.getfield 79, 3) := by decide +kernel
theorem d25_19 : decode jdk_68_method_22_code 19 = .ok (.iload_n 2, 1) := by decide +kernel
theorem d25_20 : decode jdk_68_method_22_code 20 = .ok (.iadd, 1) := by decide +kernel
theorem d25_21 : decode jdk_68_method_22_code 21 = .ok (.invokevirtual 100, 3) := by decide +kernel
theorem d25_24 : decode jdk_68_method_22_code 24 = .ok (.aload_n 0, 1) := by decide +kernel
theorem d25_25 : decode jdk_68_method_22_code 25 = .ok (.aload_n 0, 1) := by decide +kernel
theorem d25_26 : decode jdk_68_method_22_code 26 = .ok (.getfield 79, 3) := by decide +kernel
theorem d25_29 : decode jdk_68_method_22_code 29 = .ok (.aload_n 1, 1) := by decide +kernel
theorem d25_30 : decode jdk_68_method_22_code 30 = .ok (.invokevirtual 208, 3) := by decide +kernel
theorem pd17 : parseMethodDescriptor "(ILjava/lang/String;)V" = some ⟨[.int, (.object "java/lang/String")], none⟩ := by decide +kernel
theorem d25_33 : decode jdk_68_method_22_code 33 = .ok (.aload_n 0, 1) := by decide +kernel
theorem d25_34 : decode jdk_68_method_22_code 34 = .ok (.dup, 1) := by decide +kernel
theorem d25_35 : decode jdk_68_method_22_code 35 = .ok (.getfield 79, 3) := by decide +kernel
theorem d25_38 : decode jdk_68_method_22_code 38 = .ok (.iload_n 2, 1) := by decide +kernel
theorem d25_39 : decode jdk_68_method_22_code 39 = .ok (.iadd, 1) := by decide +kernel
theorem d25_40 : decode jdk_68_method_22_code 40 = .ok (.putfield 79, 3) := by decide +kernel
theorem d25_43 : decode jdk_68_method_22_code 43 = .ok (.aload_n 0, 1) := by decide +kernel
theorem d25_44 : decode jdk_68_method_22_code 44 = .ok (.areturn, 1) := by decide +kernel
abbrev Rm25 : Room := { frames := 3, cells := 0, slots := 0, locals := 47 }
set_option maxRecDepth 65536 in
set_option maxHeartbeats 40000000 in
theorem rm25 (l : Launch) (Z : State) (a0 : Array Value) (hw : ∀ d ∈ tables_1, d.before a0 Z = true) (ws : List Jvm.Cond) (a1 : Addr) (a2 : Addr) (cs : Int32) (d : Addr) (kd : ClassId) (cn : Nat) (g : Nat → Int32) (b2 : Addr) (k2 : ClassId) (N2 : Nat) (g2 : Nat → Int32) (h0 : Heap) (n0 : Nat) (Z0 : n0 ≤ h0.size) (O0 : Old Z n0 h0) (S_CS0 : Sta Z Z.heap "java/lang/String" "COMPACT_STRINGS" "Z" (.int cs)) (hcs : ¬ cs = 0) (E_a1 : Exa Z h0 a1 "java/lang/StringBuilder") (Fv_a1 : Fld Z h0 a1 "java/lang/AbstractStringBuilder" "value" "[B" (.ref d)) (Fc_a1 : Fld Z h0 a1 "java/lang/AbstractStringBuilder" "coder" "B" (.int (0 : Int32))) (Fn_a1 : Fld Z h0 a1 "java/lang/AbstractStringBuilder" "count" "I" (.int (Int32.ofNat cn))) (V_d : Avf Z h0 d kd .byte 16 (fun i => (.int (g i)))) (E_a2 : Exa Z h0 a2 "java/lang/String") (Fv_a2 : Fld Z h0 a2 "java/lang/String" "value" "[B" (.ref b2)) (Fc_a2 : Fld Z h0 a2 "java/lang/String" "coder" "B" (.int (0 : Int32))) (V_b2 : Avf Z h0 b2 k2 .byte N2 (fun i => (.int (g2 i)))) (g_d : n0 ≤ d) (nbd : b2 ≠ d) (hcap : cn + N2 ≤ 16) (g_a1 : n0 ≤ a1) :
    Met l Z EL [d] (fun _ _ _ => False) n0 (⟨"java/lang/AbstractStringBuilder", "append", "(Ljava/lang/String;)Ljava/lang/AbstractStringBuilder;"⟩ : MethodName) jdk_68_method_22_code 3 (some (.object "java/lang/AbstractStringBuilder")) ws Rm25 #[(.ref a1), (.ref a2)] h0 (fun v h => v = some (.ref a1) ∧ Keep h0 h [a1, d] ∧ Exa Z h a1 "java/lang/StringBuilder" ∧ Fld Z h a1 "java/lang/AbstractStringBuilder" "value" "[B" (.ref d) ∧ Fld Z h a1 "java/lang/AbstractStringBuilder" "coder" "B" (.int (0 : Int32)) ∧ Fld Z h a1 "java/lang/AbstractStringBuilder" "count" "I" (.int (Int32.ofNat (cn + N2))) ∧ Avf Z h d kd .byte 16 (fun i => (.int ((apg cn N2 g2 g) i)))) := by
  refine enter (Ls := #[.val (.ref a1), .val (.ref a2), .unset]) (plainFor_of_name pn7) (fun m => by first | (simp [entryFrame, mkF, argsToLocals, Value.category]; done) | rfl) ?_
  intro p e s m below meth c T0 hx hby hml hown hnm hret hlk hZ X0
  have S_CS := S_CS0.ext O0.2
  have na2d : a2 ≠ d := Ne.symm (exa_nev E_a2 (tw hw 10 rfl) V_d)
  have na1d : a1 ≠ d := Ne.symm (exa_nev E_a1 (tw hw 115 rfl) V_d)
  have na21 : a2 ≠ a1 := Exa.ne E_a2 E_a1 (by decide)
  have nb21 : b2 ≠ a1 := exa_nev E_a1 (tw hw 115 rfl) V_b2
  have K0 := Keep.refl h0 [a1, d]
  show Go p.tables e below _ (T0.setTop (mkF m 0 #[.val (.ref a1), .val (.ref a2), .unset] []))
  refine Go.by (fun _ => XS.aloadN X0.here hx rfl (hb hby d25_0) rfl rfl) ?_
  show Go p.tables e below _ (T0.setTop (mkF m 1 #[.val (.ref a1), .val (.ref a2), .unset] [(.ref a2)]))
  refine Go.by (fun _ => XS.ifnonnullYes X0.here hx rfl (pc0 := 1) (pc' := 9) rfl (hb hby d25_1) rfl (by decide) (by decide)) ?_
  show Go p.tables e below _ (T0.setTop (mkF m 9 #[.val (.ref a1), .val (.ref a2), .unset] []))
  refine Go.by (fun _ => XS.aloadN X0.here hx rfl (hb hby d25_9) rfl rfl) ?_
  show Go p.tables e below _ (T0.setTop (mkF m 10 #[.val (.ref a1), .val (.ref a2), .unset] [(.ref a2)]))
  obtain ⟨v1, T1, h1, X1, q1, xs1, st1⟩ := X0.callV hx hZ f0n (y := (⟨"java/lang/String", "length", "()I"⟩ : MethodName)) (z := (⟨"java/lang/String", "length", "()I"⟩ : MethodName)) hown (tw hw 142 rfl) (tw hw 91 rfl) (fun _ hZ => notFace_of_selects (args := #[]) (mvT hZ (tw hw 93 rfl))) (tw hw 93 rfl) (tw hw 92 rfl) (tw hw 11 rfl) (tw hw 94 rfl) (by decide) (rm18 l Z a0 hw [] a2 cs N2 g2 b2 k2 h0 n0 Z0 O0 S_CS0 hcs E_a2 Fv_a2 Fc_a2 V_b2) E_a2 (g := (mkF m 10 #[.val (.ref a1), .val (.ref a2), .unset] [(.ref a2)])) rfl (by rw [hml]; rfl) (argsL := []) (rest := []) (lenOf pd11 rfl) rfl (hb hby d25_10) rfl (by decide) (Nat.le_of_ble_eq_true rfl) (k' := 0) (n' := 0) rfl rfl (by decide) (by decide)
  refine Go.by st1 ?_
  obtain ⟨rfl, rfl⟩ := q1
  show Go p.tables e below _ (T1.setTop (mkF m 13 #[.val (.ref a1), .val (.ref a2), .unset] [(.int (N2.toInt32))]))
  refine Go.by (fun _ => XS.istoreN X1.here hx rfl (hb hby d25_13) rfl (l' := #[.val (.ref a1), .val (.ref a2), .val (.int (N2.toInt32))]) rfl) ?_
  show Go p.tables e below _ (T1.setTop (mkF m 14 #[.val (.ref a1), .val (.ref a2), .val (.int (N2.toInt32))] []))
  refine Go.by (fun _ => XS.aloadN X1.here hx rfl (hb hby d25_14) rfl rfl) ?_
  show Go p.tables e below _ (T1.setTop (mkF m 15 #[.val (.ref a1), .val (.ref a2), .val (.int (N2.toInt32))] [(.ref a1)]))
  refine Go.by (fun _ => XS.aloadN X1.here hx rfl (hb hby d25_15) rfl rfl) ?_
  show Go p.tables e below _ (T1.setTop (mkF m 16 #[.val (.ref a1), .val (.ref a2), .val (.int (N2.toInt32))] [(.ref a1), (.ref a1)]))
  obtain ⟨T2, X2, st2⟩ := X1.getF hx hZ hown (host := "") (Or.inl (tw hw 143 rfl)) Via.refl Fn_a1 (g := (mkF m 16 #[.val (.ref a1), .val (.ref a2), .val (.int (N2.toInt32))] [(.ref a1), (.ref a1)])) rfl rfl (hb hby d25_16)
  refine Go.by st2 ?_
  show Go p.tables e below _ (T2.setTop (mkF m 19 #[.val (.ref a1), .val (.ref a2), .val (.int (N2.toInt32))] [(.int (Int32.ofNat cn)), (.ref a1)]))
  refine Go.by (fun _ => XS.iloadN X2.here hx rfl (hb hby d25_19) rfl) ?_
  show Go p.tables e below _ (T2.setTop (mkF m 20 #[.val (.ref a1), .val (.ref a2), .val (.int (N2.toInt32))] [(.int (N2.toInt32)), (.int (Int32.ofNat cn)), (.ref a1)]))
  refine Go.by (fun _ => XS.iadd X2.here hx rfl (hb hby d25_20) rfl) ?_
  show Go p.tables e below _ (T2.setTop (mkF m 21 #[.val (.ref a1), .val (.ref a2), .val (.int (N2.toInt32))] [(.int ((Int32.ofNat cn) + (N2.toInt32))), (.ref a1)]))
  obtain ⟨v3, T3, h3, X3, q3, xs3, st3⟩ := X2.callP hx hZ f0n (y := (⟨"java/lang/AbstractStringBuilder", "ensureCapacityInternal", "(I)V"⟩ : MethodName)) hown (tw hw 145 rfl) (tw hw 146 rfl) (sel_own (tw hw 148 rfl) (tw hw 147 rfl) (tw hw 146 rfl) (by decide)) (tw hw 147 rfl) (tw hw 124 rfl) (tw hw 149 rfl) (by decide) (rm26 l Z a0 hw [] a1 ((Int32.ofNat cn) + (N2.toInt32)) d kd cn g h0 n0 Z0 E_a1 Fv_a1 Fc_a1 Fn_a1 V_d (own_cap hcap)) E_a1 (g := (mkF m 21 #[.val (.ref a1), .val (.ref a2), .val (.int (N2.toInt32))] [(.int ((Int32.ofNat cn) + (N2.toInt32))), (.ref a1)])) rfl (by rw [hml]; rfl) (argsL := [(.int ((Int32.ofNat cn) + (N2.toInt32)))]) (rest := []) (lenOf pd14 rfl) rfl (hb hby d25_21) rfl (by decide) (Nat.le_of_ble_eq_true rfl) (k' := 0) (n' := 0) rfl rfl (by decide) (by decide)
  refine Go.by st3 ?_
  obtain ⟨rfl, rfl⟩ := q3
  show Go p.tables e below _ (T3.setTop (mkF m 24 #[.val (.ref a1), .val (.ref a2), .val (.int (N2.toInt32))] []))
  refine Go.by (fun _ => XS.aloadN X3.here hx rfl (hb hby d25_24) rfl rfl) ?_
  show Go p.tables e below _ (T3.setTop (mkF m 25 #[.val (.ref a1), .val (.ref a2), .val (.int (N2.toInt32))] [(.ref a1)]))
  refine Go.by (fun _ => XS.aloadN X3.here hx rfl (hb hby d25_25) rfl rfl) ?_
  show Go p.tables e below _ (T3.setTop (mkF m 26 #[.val (.ref a1), .val (.ref a2), .val (.int (N2.toInt32))] [(.ref a1), (.ref a1)]))
  obtain ⟨T4, X4, st4⟩ := X3.getF hx hZ hown (host := "") (Or.inl (tw hw 143 rfl)) Via.refl Fn_a1 (g := (mkF m 26 #[.val (.ref a1), .val (.ref a2), .val (.int (N2.toInt32))] [(.ref a1), (.ref a1)])) rfl rfl (hb hby d25_26)
  refine Go.by st4 ?_
  show Go p.tables e below _ (T4.setTop (mkF m 29 #[.val (.ref a1), .val (.ref a2), .val (.int (N2.toInt32))] [(.int (Int32.ofNat cn)), (.ref a1)]))
  refine Go.by (fun _ => XS.aloadN X4.here hx rfl (hb hby d25_29) rfl rfl) ?_
  show Go p.tables e below _ (T4.setTop (mkF m 30 #[.val (.ref a1), .val (.ref a2), .val (.int (N2.toInt32))] [(.ref a2), (.int (Int32.ofNat cn)), (.ref a1)]))
  obtain ⟨v5, T5, h5, X5, q5, xs5, st5⟩ := X4.callP hx hZ (f0s (List.mem_cons_self ..) f0n) (y := (⟨"java/lang/AbstractStringBuilder", "putStringAt", "(ILjava/lang/String;)V"⟩ : MethodName)) hown (tw hw 150 rfl) (tw hw 151 rfl) (sel_own (tw hw 153 rfl) (tw hw 152 rfl) (tw hw 151 rfl) (by decide)) (tw hw 152 rfl) (tw hw 124 rfl) (tw hw 154 rfl) (by decide) (rm27 l Z a0 hw [] a1 a2 cs d kd cn g b2 k2 N2 g2 h0 n0 Z0 O0 S_CS0 hcs E_a1 Fv_a1 Fc_a1 Fn_a1 V_d E_a2 Fv_a2 Fc_a2 V_b2 g_d nbd hcap) E_a1 (g := (mkF m 30 #[.val (.ref a1), .val (.ref a2), .val (.int (N2.toInt32))] [(.ref a2), (.int (Int32.ofNat cn)), (.ref a1)])) rfl (by rw [hml]; rfl) (argsL := [(.int (Int32.ofNat cn)), (.ref a2)]) (rest := []) (lenOf pd17 rfl) rfl (hb hby d25_30) rfl (by decide) (Nat.le_of_ble_eq_true rfl) (k' := 0) (n' := 0) rfl rfl (by decide) (by decide)
  refine Go.by st5 ?_
  obtain ⟨rfl, K5, V5⟩ := q5
  have f6_46 := Sta.keepN S_CS K5 (allS V_d.plain all0)
  have f6_47 := O0.keep K5 (allS g_d all0)
  have f6_48 := E_a1.keep K5
  have f6_49 := Fv_a1.keep K5 (ninS na1d nin0)
  have f6_50 := Fc_a1.keep K5 (ninS na1d nin0)
  have f6_51 := Fn_a1.keep K5 (ninS na1d nin0)
  have f6_52 := E_a2.keep K5
  have f6_53 := Fv_a2.keep K5 (ninS na2d nin0)
  have f6_54 := Fc_a2.keep K5 (ninS na2d nin0)
  have f6_55 := Avf.keep V_b2 K5 (ninS nbd nin0)
  have f6_56 := K0.trans K5 (allS (Or.inl (List.mem_of_getElem? (i := 1) rfl)) all0)
  have Zs6 : n0 ≤ h5.size := Nat.le_trans Z0 K5.1
  show Go p.tables e below _ (T5.setTop (mkF m 33 #[.val (.ref a1), .val (.ref a2), .val (.int (N2.toInt32))] []))
  refine Go.by (fun _ => XS.aloadN X5.here hx rfl (hb hby d25_33) rfl rfl) ?_
  show Go p.tables e below _ (T5.setTop (mkF m 34 #[.val (.ref a1), .val (.ref a2), .val (.int (N2.toInt32))] [(.ref a1)]))
  refine Go.by (fun _ => XS.dup X5.here hx rfl (hb hby d25_34) rfl rfl) ?_
  show Go p.tables e below _ (T5.setTop (mkF m 35 #[.val (.ref a1), .val (.ref a2), .val (.int (N2.toInt32))] [(.ref a1), (.ref a1)]))
  obtain ⟨T7, X7, st7⟩ := X5.getF hx hZ hown (host := "") (Or.inl (tw hw 143 rfl)) Via.refl f6_51 (g := (mkF m 35 #[.val (.ref a1), .val (.ref a2), .val (.int (N2.toInt32))] [(.ref a1), (.ref a1)])) rfl rfl (hb hby d25_35)
  refine Go.by st7 ?_
  show Go p.tables e below _ (T7.setTop (mkF m 38 #[.val (.ref a1), .val (.ref a2), .val (.int (N2.toInt32))] [(.int (Int32.ofNat cn)), (.ref a1)]))
  refine Go.by (fun _ => XS.iloadN X7.here hx rfl (hb hby d25_38) rfl) ?_
  show Go p.tables e below _ (T7.setTop (mkF m 39 #[.val (.ref a1), .val (.ref a2), .val (.int (N2.toInt32))] [(.int (N2.toInt32)), (.int (Int32.ofNat cn)), (.ref a1)]))
  refine Go.by (fun _ => XS.iadd X7.here hx rfl (hb hby d25_39) rfl) ?_
  show Go p.tables e below _ (T7.setTop (mkF m 40 #[.val (.ref a1), .val (.ref a2), .val (.int (N2.toInt32))] [(.int ((Int32.ofNat cn) + (N2.toInt32))), (.ref a1)]))
  obtain ⟨T8, h8, X8, W8, st8⟩ := X7.putF hx hZ hown (host := "") (Or.inl (tw hw 143 rfl)) Via.refl f6_51 f6_48 g_a1 (Or.inr (by decide)) (Or.inl (tw hw 144 rfl)) (tw hw 115 rfl) (ty := .int) (by decide) rfl rfl (g := (mkF m 40 #[.val (.ref a1), .val (.ref a2), .val (.int (N2.toInt32))] [(.int ((Int32.ofNat cn) + (N2.toInt32))), (.ref a1)])) rfl rfl (hb hby d25_40)
  have Fw8 := f6_51.same W8
  have f9_72 := f6_46.wr W8
  have f9_73 := f6_47.wr W8 g_a1
  have f9_74 := f6_48.wr W8
  have f9_75 := f6_49.other W8 (Or.inr (slot_ne (Or.inl (tw hw 129 rfl)) (Or.inl (tw hw 144 rfl)) (by decide) (t := (.array .byte)) (t' := .int) (by decide) (by decide)))
  have f9_76 := f6_50.other W8 (Or.inr (slot_ne (Or.inl (tw hw 131 rfl)) (Or.inl (tw hw 144 rfl)) (by decide) (t := .byte) (t' := .int) (by decide) (by decide)))
  have f9_77 := f6_52.wr W8
  have f9_78 := f6_53.other W8 (Or.inl na21)
  have f9_79 := f6_54.other W8 (Or.inl na21)
  have f9_80 := Avf.other f6_55 W8 nb21
  have f9_81 := f6_56.wr W8 (Or.inl (List.mem_of_getElem? (i := 0) rfl))
  have f9_82 := Avf.other V5 W8 (Ne.symm na1d)
  have Zs9 : n0 ≤ h8.size := by rw [W8.size]; exact Zs6
  refine Go.by st8 ?_
  show Go p.tables e below _ (T8.setTop (mkF m 43 #[.val (.ref a1), .val (.ref a2), .val (.int (N2.toInt32))] []))
  refine Go.by (fun _ => XS.aloadN X8.here hx rfl (hb hby d25_43) rfl rfl) ?_
  show Go p.tables e below _ (T8.setTop (mkF m 44 #[.val (.ref a1), .val (.ref a2), .val (.int (N2.toInt32))] [(.ref a1)]))
  exact Go.retA X8 hx hlk hret rfl rfl (hb hby d25_44) (by decide) (by decide) (fun _ z => z.elim) ⟨rfl, f9_81, f9_74, f9_75, f9_76, (by rw [← own_i32add]; exact Fw8), f9_82⟩
theorem d24_0 : decode jdk_67_method_7_code 0 = .ok (.aload_n 0, 1) := by decide +kernel
theorem d24_1 : decode jdk_67_method_7_code 1 = .ok (.aload_n 1, 1) := by decide +kernel
theorem d24_2 : decode jdk_67_method_7_code 2 = .ok (.invokespecial 29, 3) := by decide +kernel
theorem pd18 : parseMethodDescriptor "(Ljava/lang/String;)Ljava/lang/AbstractStringBuilder;" = some ⟨[(.object "java/lang/String")], some (.object "java/lang/AbstractStringBuilder")⟩ := by decide +kernel
theorem d24_5 : decode jdk_67_method_7_code 5 = .ok (.pop, 1) := by decide +kernel
theorem d24_6 : decode jdk_67_method_7_code 6 = .ok (.aload_n 0, 1) := by decide +kernel
theorem d24_7 : decode jdk_67_method_7_code 7 = .ok (.areturn, 1) := by decide +kernel
abbrev Rm24 : Room := { frames := 4, cells := 0, slots := 0, locals := 61 }
set_option maxRecDepth 65536 in
set_option maxHeartbeats 40000000 in
theorem rm24 (l : Launch) (Z : State) (a0 : Array Value) (hw : ∀ d ∈ tables_1, d.before a0 Z = true) (ws : List Jvm.Cond) (a1 : Addr) (a2 : Addr) (cs : Int32) (d : Addr) (kd : ClassId) (cn : Nat) (g : Nat → Int32) (b2 : Addr) (k2 : ClassId) (N2 : Nat) (g2 : Nat → Int32) (h0 : Heap) (n0 : Nat) (Z0 : n0 ≤ h0.size) (O0 : Old Z n0 h0) (S_CS0 : Sta Z Z.heap "java/lang/String" "COMPACT_STRINGS" "Z" (.int cs)) (hcs : ¬ cs = 0) (E_a1 : Exa Z h0 a1 "java/lang/StringBuilder") (Fv_a1 : Fld Z h0 a1 "java/lang/AbstractStringBuilder" "value" "[B" (.ref d)) (Fc_a1 : Fld Z h0 a1 "java/lang/AbstractStringBuilder" "coder" "B" (.int (0 : Int32))) (Fn_a1 : Fld Z h0 a1 "java/lang/AbstractStringBuilder" "count" "I" (.int (Int32.ofNat cn))) (V_d : Avf Z h0 d kd .byte 16 (fun i => (.int (g i)))) (E_a2 : Exa Z h0 a2 "java/lang/String") (Fv_a2 : Fld Z h0 a2 "java/lang/String" "value" "[B" (.ref b2)) (Fc_a2 : Fld Z h0 a2 "java/lang/String" "coder" "B" (.int (0 : Int32))) (V_b2 : Avf Z h0 b2 k2 .byte N2 (fun i => (.int (g2 i)))) (g_d : n0 ≤ d) (nbd : b2 ≠ d) (hcap : cn + N2 ≤ 16) (g_a1 : n0 ≤ a1) :
    Met l Z EL [d] (fun _ _ _ => False) n0 (⟨"java/lang/StringBuilder", "append", "(Ljava/lang/String;)Ljava/lang/StringBuilder;"⟩ : MethodName) jdk_67_method_7_code 2 (some (.object "java/lang/StringBuilder")) ws Rm24 #[(.ref a1), (.ref a2)] h0 (fun v h => v = some (.ref a1) ∧ Keep h0 h [a1, d] ∧ Exa Z h a1 "java/lang/StringBuilder" ∧ Fld Z h a1 "java/lang/AbstractStringBuilder" "value" "[B" (.ref d) ∧ Fld Z h a1 "java/lang/AbstractStringBuilder" "coder" "B" (.int (0 : Int32)) ∧ Fld Z h a1 "java/lang/AbstractStringBuilder" "count" "I" (.int (Int32.ofNat (cn + N2))) ∧ Avf Z h d kd .byte 16 (fun i => (.int ((apg cn N2 g2 g) i)))) := by
  refine enter (Ls := #[.val (.ref a1), .val (.ref a2)]) (plainFor_of_name pn8) (fun m => by first | (simp [entryFrame, mkF, argsToLocals, Value.category]; done) | rfl) ?_
  intro p e s m below meth c T0 hx hby hml hown hnm hret hlk hZ X0
  have S_CS := S_CS0.ext O0.2
  have na2d : a2 ≠ d := Ne.symm (exa_nev E_a2 (tw hw 10 rfl) V_d)
  have na1d : a1 ≠ d := Ne.symm (exa_nev E_a1 (tw hw 115 rfl) V_d)
  have na21 : a2 ≠ a1 := Exa.ne E_a2 E_a1 (by decide)
  have nb21 : b2 ≠ a1 := exa_nev E_a1 (tw hw 115 rfl) V_b2
  have K0 := Keep.refl h0 [a1, d]
  show Go p.tables e below _ (T0.setTop (mkF m 0 #[.val (.ref a1), .val (.ref a2)] []))
  refine Go.by (fun _ => XS.aloadN X0.here hx rfl (hb hby d24_0) rfl rfl) ?_
  show Go p.tables e below _ (T0.setTop (mkF m 1 #[.val (.ref a1), .val (.ref a2)] [(.ref a1)]))
  refine Go.by (fun _ => XS.aloadN X0.here hx rfl (hb hby d24_1) rfl rfl) ?_
  show Go p.tables e below _ (T0.setTop (mkF m 2 #[.val (.ref a1), .val (.ref a2)] [(.ref a2), (.ref a1)]))
  obtain ⟨v1, T1, h1, X1, q1, xs1, st1⟩ := X0.callSup hx hZ (f0s (List.mem_cons_self ..) f0n) (y := (⟨"java/lang/AbstractStringBuilder", "append", "(Ljava/lang/String;)Ljava/lang/AbstractStringBuilder;"⟩ : MethodName)) hown (tw hw 137 rfl) (same_of (tw hw 148 rfl) rfl (tw hw 138 rfl) (by decide)) (tw hw 138 rfl) (tw hw 139 rfl) (by decide) (tw hw 124 rfl) (tw hw 141 rfl) (rm25 l Z a0 hw [] a1 a2 cs d kd cn g b2 k2 N2 g2 h0 n0 Z0 O0 S_CS0 hcs E_a1 Fv_a1 Fc_a1 Fn_a1 V_d E_a2 Fv_a2 Fc_a2 V_b2 g_d nbd hcap g_a1) E_a1 (g := (mkF m 2 #[.val (.ref a1), .val (.ref a2)] [(.ref a2), (.ref a1)])) rfl (by rw [hml]; rfl) (argsL := [(.ref a2)]) (rest := []) (lenOf pd18 rfl) rfl (hb hby d24_2) rfl (by decide) (Nat.le_of_ble_eq_true rfl) (k' := 0) (n' := 0) rfl rfl (by decide) (by decide)
  refine Go.by st1 ?_
  obtain ⟨rfl, K1, Ex1, Fv1, Fc1, Fn1, V1⟩ := q1
  have f2_14 := Sta.keepN S_CS K1 (allS E_a1.plain (allS V_d.plain all0))
  have f2_15 := O0.keep K1 (allS g_a1 (allS g_d all0))
  have f2_16 := E_a1.keep K1
  have f2_17 := E_a2.keep K1
  have f2_18 := Fv_a2.keep K1 (ninS na21 (ninS na2d nin0))
  have f2_19 := Fc_a2.keep K1 (ninS na21 (ninS na2d nin0))
  have f2_20 := Avf.keep V_b2 K1 (ninS nb21 (ninS nbd nin0))
  have f2_21 := K0.trans K1 (allS (Or.inl (List.mem_of_getElem? (i := 0) rfl)) (allS (Or.inl (List.mem_of_getElem? (i := 1) rfl)) all0))
  have Zs2 : n0 ≤ h1.size := Nat.le_trans Z0 K1.1
  show Go p.tables e below _ (T1.setTop (mkF m 5 #[.val (.ref a1), .val (.ref a2)] [(.ref a1)]))
  refine Go.by (fun _ => XS.pop X1.here hx rfl (hb hby d24_5) rfl rfl) ?_
  show Go p.tables e below _ (T1.setTop (mkF m 6 #[.val (.ref a1), .val (.ref a2)] []))
  refine Go.by (fun _ => XS.aloadN X1.here hx rfl (hb hby d24_6) rfl rfl) ?_
  show Go p.tables e below _ (T1.setTop (mkF m 7 #[.val (.ref a1), .val (.ref a2)] [(.ref a1)]))
  exact Go.retA X1 hx hlk hret rfl rfl (hb hby d24_7) (by decide) (by decide) (fun _ z => z.elim) ⟨rfl, f2_21, Ex1, Fv1, Fc1, Fn1, V1⟩
theorem d33_0 : decode jdk_68_method_64_code 0 = .ok (.aload_n 0, 1) := by decide +kernel
theorem d33_1 : decode jdk_68_method_64_code 1 = .ok (.getfield 15, 3) := by decide +kernel
theorem d33_4 : decode jdk_68_method_64_code 4 = .ok (.areturn, 1) := by decide +kernel
abbrev Rm33 : Room := { frames := 0, cells := 0, slots := 0, locals := 0 }
set_option maxRecDepth 65536 in
set_option maxHeartbeats 40000000 in
theorem rm33 (l : Launch) (Z : State) (a0 : Array Value) (hw : ∀ d ∈ tables_1, d.before a0 Z = true) (ws : List Jvm.Cond) (a1 : Addr) (cs : Int32) (d : Addr) (kd : ClassId) (cn : Nat) (g : Nat → Int32) (h0 : Heap) (n0 : Nat) (Z0 : n0 ≤ h0.size) (O0 : Old Z n0 h0) (S_CS0 : Sta Z Z.heap "java/lang/String" "COMPACT_STRINGS" "Z" (.int cs)) (hcs : ¬ cs = 0) (E_a1 : Exa Z h0 a1 "java/lang/StringBuilder") (Fv_a1 : Fld Z h0 a1 "java/lang/AbstractStringBuilder" "value" "[B" (.ref d)) (Fc_a1 : Fld Z h0 a1 "java/lang/AbstractStringBuilder" "coder" "B" (.int (0 : Int32))) (Fn_a1 : Fld Z h0 a1 "java/lang/AbstractStringBuilder" "count" "I" (.int (Int32.ofNat cn))) (V_d : Avf Z h0 d kd .byte 16 (fun i => (.int (g i)))) :
    Met l Z EL [] (fun _ _ _ => False) n0 (⟨"java/lang/AbstractStringBuilder", "getValue", "()[B"⟩ : MethodName) jdk_68_method_64_code 1 (some (.array .byte)) ws Rm33 #[(.ref a1)] h0 (fun v h => v = some (.ref d) ∧ h0 = h) := by
  refine enter (Ls := #[.val (.ref a1)]) (plainFor_of_name pn7) (fun m => by first | (simp [entryFrame, mkF, argsToLocals, Value.category]; done) | rfl) ?_
  intro p e s m below meth c T0 hx hby hml hown hnm hret hlk hZ X0
  have S_CS := S_CS0.ext O0.2
  show Go p.tables e below _ (T0.setTop (mkF m 0 #[.val (.ref a1)] []))
  refine Go.by (fun _ => XS.aloadN X0.here hx rfl (hb hby d33_0) rfl rfl) ?_
  show Go p.tables e below _ (T0.setTop (mkF m 1 #[.val (.ref a1)] [(.ref a1)]))
  obtain ⟨T1, X1, st1⟩ := X0.getF hx hZ hown (host := "") (Or.inl (tw hw 128 rfl)) Via.refl Fv_a1 (g := (mkF m 1 #[.val (.ref a1)] [(.ref a1)])) rfl rfl (hb hby d33_1)
  refine Go.by st1 ?_
  show Go p.tables e below _ (T1.setTop (mkF m 4 #[.val (.ref a1)] [(.ref d)]))
  exact Go.retA X1 hx hlk hret rfl rfl (hb hby d33_4) (by decide) (by decide) (fun _ z => z.elim) ⟨rfl, rfl⟩
theorem d35_0 : decode jdk_68_method_6_code 0 = .ok (.aload_n 0, 1) := by decide +kernel
theorem d35_1 : decode jdk_68_method_6_code 1 = .ok (.getfield 79, 3) := by decide +kernel
theorem d35_4 : decode jdk_68_method_6_code 4 = .ok (.ireturn, 1) := by decide +kernel
abbrev Rm35 : Room := { frames := 0, cells := 0, slots := 0, locals := 0 }
set_option maxRecDepth 65536 in
set_option maxHeartbeats 40000000 in
theorem rm35 (l : Launch) (Z : State) (a0 : Array Value) (hw : ∀ d ∈ tables_1, d.before a0 Z = true) (ws : List Jvm.Cond) (a1 : Addr) (cs : Int32) (d : Addr) (kd : ClassId) (cn : Nat) (g : Nat → Int32) (h0 : Heap) (n0 : Nat) (Z0 : n0 ≤ h0.size) (O0 : Old Z n0 h0) (S_CS0 : Sta Z Z.heap "java/lang/String" "COMPACT_STRINGS" "Z" (.int cs)) (hcs : ¬ cs = 0) (E_a1 : Exa Z h0 a1 "java/lang/StringBuilder") (Fv_a1 : Fld Z h0 a1 "java/lang/AbstractStringBuilder" "value" "[B" (.ref d)) (Fc_a1 : Fld Z h0 a1 "java/lang/AbstractStringBuilder" "coder" "B" (.int (0 : Int32))) (Fn_a1 : Fld Z h0 a1 "java/lang/AbstractStringBuilder" "count" "I" (.int (Int32.ofNat cn))) (V_d : Avf Z h0 d kd .byte 16 (fun i => (.int (g i)))) :
    Met l Z EL [] (fun _ _ _ => False) n0 (⟨"java/lang/AbstractStringBuilder", "length", "()I"⟩ : MethodName) jdk_68_method_6_code 1 (some .int) ws Rm35 #[(.ref a1)] h0 (fun v h => v = some (.int (Int32.ofNat cn)) ∧ h0 = h) := by
  refine enter (Ls := #[.val (.ref a1)]) (plainFor_of_name pn7) (fun m => by first | (simp [entryFrame, mkF, argsToLocals, Value.category]; done) | rfl) ?_
  intro p e s m below meth c T0 hx hby hml hown hnm hret hlk hZ X0
  have S_CS := S_CS0.ext O0.2
  show Go p.tables e below _ (T0.setTop (mkF m 0 #[.val (.ref a1)] []))
  refine Go.by (fun _ => XS.aloadN X0.here hx rfl (hb hby d35_0) rfl rfl) ?_
  show Go p.tables e below _ (T0.setTop (mkF m 1 #[.val (.ref a1)] [(.ref a1)]))
  obtain ⟨T1, X1, st1⟩ := X0.getF hx hZ hown (host := "") (Or.inl (tw hw 143 rfl)) Via.refl Fn_a1 (g := (mkF m 1 #[.val (.ref a1)] [(.ref a1)])) rfl rfl (hb hby d35_1)
  refine Go.by st1 ?_
  show Go p.tables e below _ (T1.setTop (mkF m 4 #[.val (.ref a1)] [(.int (Int32.ofNat cn))]))
  exact Go.retI X1 hx hlk hret (hb hby d35_4) (by decide) (by decide) (fun _ z => z.elim) ⟨rfl, rfl⟩
theorem d34_0 : decode jdk_67_method_93_code 0 = .ok (.aload_n 0, 1) := by decide +kernel
theorem d34_1 : decode jdk_67_method_93_code 1 = .ok (.invokespecial 343, 3) := by decide +kernel
theorem d34_4 : decode jdk_67_method_93_code 4 = .ok (.ireturn, 1) := by decide +kernel
abbrev Rm34 : Room := { frames := 1, cells := 0, slots := 0, locals := 12 }
set_option maxRecDepth 65536 in
set_option maxHeartbeats 40000000 in
theorem rm34 (l : Launch) (Z : State) (a0 : Array Value) (hw : ∀ d ∈ tables_1, d.before a0 Z = true) (ws : List Jvm.Cond) (a1 : Addr) (cs : Int32) (d : Addr) (kd : ClassId) (cn : Nat) (g : Nat → Int32) (h0 : Heap) (n0 : Nat) (Z0 : n0 ≤ h0.size) (O0 : Old Z n0 h0) (S_CS0 : Sta Z Z.heap "java/lang/String" "COMPACT_STRINGS" "Z" (.int cs)) (hcs : ¬ cs = 0) (E_a1 : Exa Z h0 a1 "java/lang/StringBuilder") (Fv_a1 : Fld Z h0 a1 "java/lang/AbstractStringBuilder" "value" "[B" (.ref d)) (Fc_a1 : Fld Z h0 a1 "java/lang/AbstractStringBuilder" "coder" "B" (.int (0 : Int32))) (Fn_a1 : Fld Z h0 a1 "java/lang/AbstractStringBuilder" "count" "I" (.int (Int32.ofNat cn))) (V_d : Avf Z h0 d kd .byte 16 (fun i => (.int (g i)))) :
    Met l Z EL [] (fun _ _ _ => False) n0 (⟨"java/lang/StringBuilder", "length", "()I"⟩ : MethodName) jdk_67_method_93_code 1 (some .int) ws Rm34 #[(.ref a1)] h0 (fun v h => v = some (.int (Int32.ofNat cn)) ∧ h0 = h) := by
  refine enter (Ls := #[.val (.ref a1)]) (plainFor_of_name pn8) (fun m => by first | (simp [entryFrame, mkF, argsToLocals, Value.category]; done) | rfl) ?_
  intro p e s m below meth c T0 hx hby hml hown hnm hret hlk hZ X0
  have S_CS := S_CS0.ext O0.2
  show Go p.tables e below _ (T0.setTop (mkF m 0 #[.val (.ref a1)] []))
  refine Go.by (fun _ => XS.aloadN X0.here hx rfl (hb hby d34_0) rfl rfl) ?_
  show Go p.tables e below _ (T0.setTop (mkF m 1 #[.val (.ref a1)] [(.ref a1)]))
  obtain ⟨v1, T1, h1, X1, q1, xs1, st1⟩ := X0.callSup hx hZ f0n (y := (⟨"java/lang/AbstractStringBuilder", "length", "()I"⟩ : MethodName)) hown (tw hw 194 rfl) (same_of (tw hw 148 rfl) rfl (tw hw 190 rfl) (by decide)) (tw hw 190 rfl) (tw hw 139 rfl) (by decide) (tw hw 124 rfl) (tw hw 195 rfl) (rm35 l Z a0 hw [] a1 cs d kd cn g h0 n0 Z0 O0 S_CS0 hcs E_a1 Fv_a1 Fc_a1 Fn_a1 V_d) E_a1 (g := (mkF m 1 #[.val (.ref a1)] [(.ref a1)])) rfl (by rw [hml]; rfl) (argsL := []) (rest := []) (lenOf pd11 rfl) rfl (hb hby d34_1) rfl (by decide) (Nat.le_of_ble_eq_true rfl) (k' := 0) (n' := 0) rfl rfl (by decide) (by decide)
  refine Go.by st1 ?_
  obtain ⟨rfl, rfl⟩ := q1
  show Go p.tables e below _ (T1.setTop (mkF m 4 #[.val (.ref a1)] [(.int (Int32.ofNat cn))]))
  exact Go.retI X1 hx hlk hret (hb hby d34_4) (by decide) (by decide) (fun _ z => z.elim) ⟨rfl, rfl⟩
theorem d36_0 : decode jdk_68_method_68_code 0 = .ok (.getstatic 18, 3) := by decide +kernel
theorem d36_3 : decode jdk_68_method_68_code 3 = .ok (.ifCond .eq 14, 3) := by decide +kernel
theorem d36_6 : decode jdk_68_method_68_code 6 = .ok (.aload_n 0, 1) := by decide +kernel
theorem d36_7 : decode jdk_68_method_68_code 7 = .ok (.getfield 22, 3) := by decide +kernel
theorem d36_10 : decode jdk_68_method_68_code 10 = .ok (.ifCond .ne 7, 3) := by decide +kernel
theorem d36_13 : decode jdk_68_method_68_code 13 = .ok (.iconst 1, 1) := by decide +kernel
theorem d36_14 : decode jdk_68_method_68_code 14 = .ok (.goto 4, 3) := by decide +kernel
theorem d36_18 : decode jdk_68_method_68_code 18 = .ok (.ireturn, 1) := by decide +kernel
abbrev Rm36 : Room := { frames := 0, cells := 0, slots := 0, locals := 0 }
set_option maxRecDepth 65536 in
set_option maxHeartbeats 40000000 in
theorem rm36 (l : Launch) (Z : State) (a0 : Array Value) (hw : ∀ d ∈ tables_1, d.before a0 Z = true) (ws : List Jvm.Cond) (a1 : Addr) (cs : Int32) (d : Addr) (kd : ClassId) (cn : Nat) (g : Nat → Int32) (h0 : Heap) (n0 : Nat) (Z0 : n0 ≤ h0.size) (O0 : Old Z n0 h0) (S_CS0 : Sta Z Z.heap "java/lang/String" "COMPACT_STRINGS" "Z" (.int cs)) (hcs : ¬ cs = 0) (E_a1 : Exa Z h0 a1 "java/lang/StringBuilder") (Fv_a1 : Fld Z h0 a1 "java/lang/AbstractStringBuilder" "value" "[B" (.ref d)) (Fc_a1 : Fld Z h0 a1 "java/lang/AbstractStringBuilder" "coder" "B" (.int (0 : Int32))) (Fn_a1 : Fld Z h0 a1 "java/lang/AbstractStringBuilder" "count" "I" (.int (Int32.ofNat cn))) (V_d : Avf Z h0 d kd .byte 16 (fun i => (.int (g i)))) :
    Met l Z EL [] (fun _ _ _ => False) n0 (⟨"java/lang/AbstractStringBuilder", "isLatin1", "()Z"⟩ : MethodName) jdk_68_method_68_code 1 (some .boolean) ws Rm36 #[(.ref a1)] h0 (fun v h => v = some (.int 1) ∧ h0 = h) := by
  refine enter (Ls := #[.val (.ref a1)]) (plainFor_of_name pn7) (fun m => by first | (simp [entryFrame, mkF, argsToLocals, Value.category]; done) | rfl) ?_
  intro p e s m below meth c T0 hx hby hml hown hnm hret hlk hZ X0
  have S_CS := S_CS0.ext O0.2
  show Go p.tables e below _ (T0.setTop (mkF m 0 #[.val (.ref a1)] []))
  obtain ⟨T1, X1, st1⟩ := X0.getS hx hZ hown (host := "") (Or.inl (tw hw 127 rfl)) Via.refl S_CS (g := (mkF m 0 #[.val (.ref a1)] [])) rfl (hb hby d36_0)
  refine Go.by st1 ?_
  show Go p.tables e below _ (T1.setTop (mkF m 3 #[.val (.ref a1)] [(.int cs)]))
  refine Go.by (fun _ => XS.ifNo X1.here hx rfl (hb hby d36_3) rfl ((if0 _ _).trans (feq hcs).1)) ?_
  show Go p.tables e below _ (T1.setTop (mkF m 6 #[.val (.ref a1)] []))
  refine Go.by (fun _ => XS.aloadN X1.here hx rfl (hb hby d36_6) rfl rfl) ?_
  show Go p.tables e below _ (T1.setTop (mkF m 7 #[.val (.ref a1)] [(.ref a1)]))
  obtain ⟨T2, X2, st2⟩ := X1.getF hx hZ hown (host := "") (Or.inl (tw hw 130 rfl)) Via.refl Fc_a1 (g := (mkF m 7 #[.val (.ref a1)] [(.ref a1)])) rfl rfl (hb hby d36_7)
  refine Go.by st2 ?_
  show Go p.tables e below _ (T2.setTop (mkF m 10 #[.val (.ref a1)] [(.int (0 : Int32))]))
  refine Go.by (fun _ => XS.ifNo X2.here hx rfl (hb hby d36_10) rfl ((if0 _ _).trans (teq (by decide)).2)) ?_
  show Go p.tables e below _ (T2.setTop (mkF m 13 #[.val (.ref a1)] []))
  refine Go.by (fun _ => XS.iconst X2.here hx rfl (hb hby d36_13)) ?_
  show Go p.tables e below _ (T2.setTop (mkF m 14 #[.val (.ref a1)] [(.int (1 : Int32))]))
  refine Go.by (fun _ => XS.goto X2.here hx rfl (pc0 := 14) (pc' := 18) rfl (hb hby d36_14) (by decide) (by decide)) ?_
  show Go p.tables e below _ (T2.setTop (mkF m 18 #[.val (.ref a1)] [(.int (1 : Int32))]))
  exact Go.retN X2 hx hlk (z' := (1 : Int32)) hret (by simp) (hb hby d36_18) rfl (by decide) (by decide) (fun _ z => z.elim) ⟨rfl, rfl⟩
theorem d39_0 : decode jdk_65_method_131_code 0 = .ok (.iload_n 1, 1) := by decide +kernel
theorem d39_1 : decode jdk_65_method_131_code 1 = .ok (.iload_n 0, 1) := by decide +kernel
theorem d39_2 : decode jdk_65_method_131_code 2 = .ok (.if_icmp .ge 35, 3) := by decide +kernel
theorem d39_37 : decode jdk_65_method_131_code 37 = .ok (.return_, 1) := by decide +kernel
abbrev Rm39 : Room := { frames := 0, cells := 0, slots := 0, locals := 0 }
theorem pn9 : plainName "java/util/Arrays" = true := by first | (simp [plainName, overriddenIn]; done) | decide +kernel
set_option maxRecDepth 65536 in
set_option maxHeartbeats 40000000 in
theorem rm39 (l : Launch) (Z : State) (a0 : Array Value) (hw : ∀ d ∈ tables_1, d.before a0 Z = true) (ws : List Jvm.Cond) (p2 : Int32) (h0 : Heap) (n0 : Nat) (Z0 : n0 ≤ h0.size) (hp : ¬ p2 < 0) :
    Met l Z EL [] (fun _ _ _ => False) n0 (⟨"java/util/Arrays", "checkLength", "(II)V"⟩ : MethodName) jdk_65_method_131_code 2 none ws Rm39 #[(.int (0 : Int32)), (.int p2)] h0 (fun v h => v = none ∧ h0 = h) := by
  refine enter (Ls := #[.val (.int (0 : Int32)), .val (.int p2)]) (plainFor_of_name pn9) (fun m => by first | (simp [entryFrame, mkF, argsToLocals, Value.category]; done) | rfl) ?_
  intro p e s m below meth c T0 hx hby hml hown hnm hret hlk hZ X0
  show Go p.tables e below _ (T0.setTop (mkF m 0 #[.val (.int (0 : Int32)), .val (.int p2)] []))
  refine Go.by (fun _ => XS.iloadN X0.here hx rfl (hb hby d39_0) rfl) ?_
  show Go p.tables e below _ (T0.setTop (mkF m 1 #[.val (.int (0 : Int32)), .val (.int p2)] [(.int p2)]))
  refine Go.by (fun _ => XS.iloadN X0.here hx rfl (hb hby d39_1) rfl) ?_
  show Go p.tables e below _ (T0.setTop (mkF m 2 #[.val (.int (0 : Int32)), .val (.int p2)] [(.int (0 : Int32)), (.int p2)]))
  refine Go.by (fun _ => XS.icmpYes X0.here hx rfl (pc0 := 2) (pc' := 37) rfl (hb hby d39_2) rfl (flt hp).2.1 (by decide) (by decide)) ?_
  show Go p.tables e below _ (T0.setTop (mkF m 37 #[.val (.int (0 : Int32)), .val (.int p2)] []))
  exact Go.ret0 X0 hx hlk hret (hb hby d39_37) (by decide) (by decide) (fun _ z => z.elim) ⟨rfl, rfl⟩
theorem d40_0 : decode jdk_29_method_69_code 0 = .ok (.iload_n 0, 1) := by decide +kernel
theorem d40_1 : decode jdk_29_method_69_code 1 = .ok (.iload_n 1, 1) := by decide +kernel
theorem d40_2 : decode jdk_29_method_69_code 2 = .ok (.if_icmp .gt 7, 3) := by decide +kernel
theorem d40_9 : decode jdk_29_method_69_code 9 = .ok (.iload_n 1, 1) := by decide +kernel
theorem d40_10 : decode jdk_29_method_69_code 10 = .ok (.ireturn, 1) := by decide +kernel
abbrev Rm40 : Room := { frames := 0, cells := 0, slots := 0, locals := 0 }
set_option maxRecDepth 65536 in
set_option maxHeartbeats 40000000 in
theorem rm40 (l : Launch) (Z : State) (a0 : Array Value) (hw : ∀ d ∈ tables_1, d.before a0 Z = true) (ws : List Jvm.Cond) (p1 : Int32) (p2 : Int32) (h0 : Heap) (n0 : Nat) (Z0 : n0 ≤ h0.size) (hp : p2 < p1) :
    Met l Z EL [] (fun _ _ _ => False) n0 (⟨"java/lang/Math", "min", "(II)I"⟩ : MethodName) jdk_29_method_69_code 2 (some .int) ws Rm40 #[(.int p1), (.int p2)] h0 (fun v h => v = some (.int p2) ∧ h0 = h) := by
  refine enter (Ls := #[.val (.int p1), .val (.int p2)]) (Jvm.Free.JP.mathPlain rfl (by decide +kernel)) (fun m => by first | (simp [entryFrame, mkF, argsToLocals, Value.category]; done) | rfl) ?_
  intro p e s m below meth c T0 hx hby hml hown hnm hret hlk hZ X0
  show Go p.tables e below _ (T0.setTop (mkF m 0 #[.val (.int p1), .val (.int p2)] []))
  refine Go.by (fun _ => XS.iloadN X0.here hx rfl (hb hby d40_0) rfl) ?_
  show Go p.tables e below _ (T0.setTop (mkF m 1 #[.val (.int p1), .val (.int p2)] [(.int p1)]))
  refine Go.by (fun _ => XS.iloadN X0.here hx rfl (hb hby d40_1) rfl) ?_
  show Go p.tables e below _ (T0.setTop (mkF m 2 #[.val (.int p1), .val (.int p2)] [(.int p2), (.int p1)]))
  refine Go.by (fun _ => XS.icmpYes X0.here hx rfl (pc0 := 2) (pc' := 9) rfl (hb hby d40_2) rfl (tlt hp).2.2.1 (by decide) (by decide)) ?_
  show Go p.tables e below _ (T0.setTop (mkF m 9 #[.val (.int p1), .val (.int p2)] []))
  refine Go.by (fun _ => XS.iloadN X0.here hx rfl (hb hby d40_9) rfl) ?_
  show Go p.tables e below _ (T0.setTop (mkF m 10 #[.val (.int p1), .val (.int p2)] [(.int p2)]))
  exact Go.retI X0 hx hlk hret (hb hby d40_10) (by decide) (by decide) (fun _ z => z.elim) ⟨rfl, rfl⟩
theorem d38_0 : decode jdk_65_method_133_code 0 = .ok (.iload_n 1, 1) := by decide +kernel
theorem d38_1 : decode jdk_65_method_133_code 1 = .ok (.iload_n 2, 1) := by decide +kernel
theorem d38_2 : decode jdk_65_method_133_code 2 = .ok (.invokestatic 343, 3) := by decide +kernel
theorem pd19 : parseMethodDescriptor "(II)V" = some ⟨[.int, .int], none⟩ := by decide +kernel
theorem d38_5 : decode jdk_65_method_133_code 5 = .ok (.iload_n 2, 1) := by decide +kernel
theorem d38_6 : decode jdk_65_method_133_code 6 = .ok (.iload_n 1, 1) := by decide +kernel
theorem d38_7 : decode jdk_65_method_133_code 7 = .ok (.isub, 1) := by decide +kernel
theorem d38_8 : decode jdk_65_method_133_code 8 = .ok (.istore_n 3, 1) := by decide +kernel
theorem d38_9 : decode jdk_65_method_133_code 9 = .ok (.iload_n 3, 1) := by decide +kernel
theorem d38_10 : decode jdk_65_method_133_code 10 = .ok (.newarray .byte, 2) := by decide +kernel
theorem d38_12 : decode jdk_65_method_133_code 12 = .ok (.astore 4, 2) := by decide +kernel
theorem d38_14 : decode jdk_65_method_133_code 14 = .ok (.aload_n 0, 1) := by decide +kernel
theorem d38_15 : decode jdk_65_method_133_code 15 = .ok (.iload_n 1, 1) := by decide +kernel
theorem d38_16 : decode jdk_65_method_133_code 16 = .ok (.aload 4, 2) := by decide +kernel
theorem d38_18 : decode jdk_65_method_133_code 18 = .ok (.iconst 0, 1) := by decide +kernel
theorem d38_19 : decode jdk_65_method_133_code 19 = .ok (.aload_n 0, 1) := by decide +kernel
theorem d38_20 : decode jdk_65_method_133_code 20 = .ok (.arraylength, 1) := by decide +kernel
theorem d38_21 : decode jdk_65_method_133_code 21 = .ok (.iload_n 1, 1) := by decide +kernel
theorem d38_22 : decode jdk_65_method_133_code 22 = .ok (.isub, 1) := by decide +kernel
theorem d38_23 : decode jdk_65_method_133_code 23 = .ok (.iload_n 3, 1) := by decide +kernel
theorem d38_24 : decode jdk_65_method_133_code 24 = .ok (.invokestatic 304, 3) := by decide +kernel
theorem pd20 : parseMethodDescriptor "(II)I" = some ⟨[.int, .int], some .int⟩ := by decide +kernel
theorem d38_27 : decode jdk_65_method_133_code 27 = .ok (.invokestatic 150, 3) := by decide +kernel
theorem d38_30 : decode jdk_65_method_133_code 30 = .ok (.aload 4, 2) := by decide +kernel
theorem d38_32 : decode jdk_65_method_133_code 32 = .ok (.areturn, 1) := by decide +kernel
abbrev Rm38 : Room := { frames := 1, cells := 1, slots := 15, locals := 18 }
set_option maxRecDepth 65536 in
set_option maxHeartbeats 40000000 in
theorem rm38 (l : Launch) (Z : State) (a0 : Array Value) (hw : ∀ d ∈ tables_1, d.before a0 Z = true) (ws : List Jvm.Cond) (a1 : Addr) (kd : ClassId) (cn : Nat) (g : Nat → Int32) (h0 : Heap) (n0 : Nat) (Z0 : n0 ≤ h0.size) (V_a1 : Avf Z h0 a1 kd .byte 16 (fun i => (.int (g i)))) (hcn : cn ≤ 15) :
    Met l Z EL [] (fun _ _ _ => False) n0 (⟨"java/util/Arrays", "copyOfRangeByte", "([BII)[B"⟩ : MethodName) jdk_65_method_133_code 5 (some (.array .byte)) ws Rm38 #[(.ref a1), (.int (0 : Int32)), (.int (Int32.ofNat cn))] h0 (fun v h => ∃ b kc, v = some (.ref b) ∧ h0.size ≤ b ∧ Keep h0 h [] ∧ Avf Z h b kc .byte cn (fun i => (.int (g i)))) := by
  refine enter (Ls := #[.val (.ref a1), .val (.int (0 : Int32)), .val (.int (Int32.ofNat cn)), .unset, .unset]) (plainFor_of_name pn9) (fun m => by first | (simp [entryFrame, mkF, argsToLocals, Value.category]; done) | rfl) ?_
  intro p e s m below meth c T0 hx hby hml hown hnm hret hlk hZ X0
  have K0 := Keep.refl h0 []
  show Go p.tables e below _ (T0.setTop (mkF m 0 #[.val (.ref a1), .val (.int (0 : Int32)), .val (.int (Int32.ofNat cn)), .unset, .unset] []))
  refine Go.by (fun _ => XS.iloadN X0.here hx rfl (hb hby d38_0) rfl) ?_
  show Go p.tables e below _ (T0.setTop (mkF m 1 #[.val (.ref a1), .val (.int (0 : Int32)), .val (.int (Int32.ofNat cn)), .unset, .unset] [(.int (0 : Int32))]))
  refine Go.by (fun _ => XS.iloadN X0.here hx rfl (hb hby d38_1) rfl) ?_
  show Go p.tables e below _ (T0.setTop (mkF m 2 #[.val (.ref a1), .val (.int (0 : Int32)), .val (.int (Int32.ofNat cn)), .unset, .unset] [(.int (Int32.ofNat cn)), (.int (0 : Int32))]))
  obtain ⟨v1, T1, h1, X1, q1, xs1, st1⟩ := X0.callS hx hZ f0n (y := (⟨"java/util/Arrays", "checkLength", "(II)V"⟩ : MethodName)) hown (tw hw 208 rfl) (tw hw 209 rfl) (tw hw 203 rfl) (tw hw 210 rfl) (by decide) (rm39 l Z a0 hw [] (Int32.ofNat cn) h0 n0 Z0 (i32_nneg (by omega))) (g := (mkF m 2 #[.val (.ref a1), .val (.int (0 : Int32)), .val (.int (Int32.ofNat cn)), .unset, .unset] [(.int (Int32.ofNat cn)), (.int (0 : Int32))])) rfl (by rw [hml]; rfl) (argsL := [(.int (0 : Int32)), (.int (Int32.ofNat cn))]) (rest := []) (lenOf pd19 rfl) rfl (hb hby d38_2) rfl (by decide) (Nat.le_of_ble_eq_true rfl) (k' := 0) (n' := 0) rfl rfl (by decide) (by decide)
  refine Go.by st1 ?_
  obtain ⟨rfl, rfl⟩ := q1
  show Go p.tables e below _ (T1.setTop (mkF m 5 #[.val (.ref a1), .val (.int (0 : Int32)), .val (.int (Int32.ofNat cn)), .unset, .unset] []))
  refine Go.by (fun _ => XS.iloadN X1.here hx rfl (hb hby d38_5) rfl) ?_
  show Go p.tables e below _ (T1.setTop (mkF m 6 #[.val (.ref a1), .val (.int (0 : Int32)), .val (.int (Int32.ofNat cn)), .unset, .unset] [(.int (Int32.ofNat cn))]))
  refine Go.by (fun _ => XS.iloadN X1.here hx rfl (hb hby d38_6) rfl) ?_
  show Go p.tables e below _ (T1.setTop (mkF m 7 #[.val (.ref a1), .val (.int (0 : Int32)), .val (.int (Int32.ofNat cn)), .unset, .unset] [(.int (0 : Int32)), (.int (Int32.ofNat cn))]))
  refine Go.by (fun _ => XS.isub X1.here hx rfl (hb hby d38_7) rfl) ?_
  show Go p.tables e below _ (T1.setTop (mkF m 8 #[.val (.ref a1), .val (.int (0 : Int32)), .val (.int (Int32.ofNat cn)), .unset, .unset] [(.int ((Int32.ofNat cn) - (0 : Int32)))]))
  refine Go.by (fun _ => XS.istoreN X1.here hx rfl (hb hby d38_8) rfl (l' := #[.val (.ref a1), .val (.int (0 : Int32)), .val (.int (Int32.ofNat cn)), .val (.int ((Int32.ofNat cn) - (0 : Int32))), .unset]) rfl) ?_
  show Go p.tables e below _ (T1.setTop (mkF m 9 #[.val (.ref a1), .val (.int (0 : Int32)), .val (.int (Int32.ofNat cn)), .val (.int ((Int32.ofNat cn) - (0 : Int32))), .unset] []))
  refine Go.by (fun _ => XS.iloadN X1.here hx rfl (hb hby d38_9) rfl) ?_
  show Go p.tables e below _ (T1.setTop (mkF m 10 #[.val (.ref a1), .val (.int (0 : Int32)), .val (.int (Int32.ofNat cn)), .val (.int ((Int32.ofNat cn) - (0 : Int32))), .unset] [(.int ((Int32.ofNat cn) - (0 : Int32)))]))
  obtain ⟨T2, h2, kc2, b2, X2, g2, E2, A2, V2, st2⟩ := X1.newPF hx hZ (tw hw 27 rfl) (g := (mkF m 10 #[.val (.ref a1), .val (.int (0 : Int32)), .val (.int (Int32.ofNat cn)), .val (.int ((Int32.ofNat cn) - (0 : Int32))), .unset] [(.int ((Int32.ofNat cn) - (0 : Int32)))])) rfl (hb hby d38_10) rfl (by rw [own_sub0]; exact i32_nneg (by omega)) (sz := cn) (cap := 15) (k' := 1) (n' := 15) (by rw [own_sub0]; exact i32_nat (by omega)) hcn (by decide) rfl rfl (by decide) (by decide) (ad := "[B") (by decide)
  have g_b2 : n0 ≤ b2 := by rw [g2]; exact Z0
  have sz_b2 : h0.size ≤ b2 := by rw [g2]; exact K0.1
  have ne_a1_b2 : a1 ≠ b2 := Nat.ne_of_lt (by rw [g2]; exact V_a1.lt)
  have f3_24 := Avf.ext V_a1 E2
  have f3_25 := K0.ext E2
  have Zs3 : n0 ≤ h2.size := Nat.le_trans Z0 E2.1
  refine Go.by st2 ?_
  show Go p.tables e below _ (T2.setTop (mkF m 12 #[.val (.ref a1), .val (.int (0 : Int32)), .val (.int (Int32.ofNat cn)), .val (.int ((Int32.ofNat cn) - (0 : Int32))), .unset] [(.ref b2)]))
  refine Go.by (fun _ => XS.astore X2.here hx rfl (hb hby d38_12) rfl rfl (l' := #[.val (.ref a1), .val (.int (0 : Int32)), .val (.int (Int32.ofNat cn)), .val (.int ((Int32.ofNat cn) - (0 : Int32))), .val (.ref b2)]) rfl) ?_
  show Go p.tables e below _ (T2.setTop (mkF m 14 #[.val (.ref a1), .val (.int (0 : Int32)), .val (.int (Int32.ofNat cn)), .val (.int ((Int32.ofNat cn) - (0 : Int32))), .val (.ref b2)] []))
  refine Go.by (fun _ => XS.aloadN X2.here hx rfl (hb hby d38_14) rfl rfl) ?_
  show Go p.tables e below _ (T2.setTop (mkF m 15 #[.val (.ref a1), .val (.int (0 : Int32)), .val (.int (Int32.ofNat cn)), .val (.int ((Int32.ofNat cn) - (0 : Int32))), .val (.ref b2)] [(.ref a1)]))
  refine Go.by (fun _ => XS.iloadN X2.here hx rfl (hb hby d38_15) rfl) ?_
  show Go p.tables e below _ (T2.setTop (mkF m 16 #[.val (.ref a1), .val (.int (0 : Int32)), .val (.int (Int32.ofNat cn)), .val (.int ((Int32.ofNat cn) - (0 : Int32))), .val (.ref b2)] [(.int (0 : Int32)), (.ref a1)]))
  refine Go.by (fun _ => XS.aload X2.here hx rfl (hb hby d38_16) rfl rfl) ?_
  show Go p.tables e below _ (T2.setTop (mkF m 18 #[.val (.ref a1), .val (.int (0 : Int32)), .val (.int (Int32.ofNat cn)), .val (.int ((Int32.ofNat cn) - (0 : Int32))), .val (.ref b2)] [(.ref b2), (.int (0 : Int32)), (.ref a1)]))
  refine Go.by (fun _ => XS.iconst X2.here hx rfl (hb hby d38_18)) ?_
  show Go p.tables e below _ (T2.setTop (mkF m 19 #[.val (.ref a1), .val (.int (0 : Int32)), .val (.int (Int32.ofNat cn)), .val (.int ((Int32.ofNat cn) - (0 : Int32))), .val (.ref b2)] [(.int (0 : Int32)), (.ref b2), (.int (0 : Int32)), (.ref a1)]))
  refine Go.by (fun _ => XS.aloadN X2.here hx rfl (hb hby d38_19) rfl rfl) ?_
  show Go p.tables e below _ (T2.setTop (mkF m 20 #[.val (.ref a1), .val (.int (0 : Int32)), .val (.int (Int32.ofNat cn)), .val (.int ((Int32.ofNat cn) - (0 : Int32))), .val (.ref b2)] [(.ref a1), (.int (0 : Int32)), (.ref b2), (.int (0 : Int32)), (.ref a1)]))
  refine Go.by (X2.len hx hZ f3_24 (z := (16 : Int32)) rfl (g := (mkF m 20 #[.val (.ref a1), .val (.int (0 : Int32)), .val (.int (Int32.ofNat cn)), .val (.int ((Int32.ofNat cn) - (0 : Int32))), .val (.ref b2)] [(.ref a1), (.int (0 : Int32)), (.ref b2), (.int (0 : Int32)), (.ref a1)])) rfl rfl (hb hby d38_20)) ?_
  show Go p.tables e below _ (T2.setTop (mkF m 21 #[.val (.ref a1), .val (.int (0 : Int32)), .val (.int (Int32.ofNat cn)), .val (.int ((Int32.ofNat cn) - (0 : Int32))), .val (.ref b2)] [(.int (16 : Int32)), (.int (0 : Int32)), (.ref b2), (.int (0 : Int32)), (.ref a1)]))
  refine Go.by (fun _ => XS.iloadN X2.here hx rfl (hb hby d38_21) rfl) ?_
  show Go p.tables e below _ (T2.setTop (mkF m 22 #[.val (.ref a1), .val (.int (0 : Int32)), .val (.int (Int32.ofNat cn)), .val (.int ((Int32.ofNat cn) - (0 : Int32))), .val (.ref b2)] [(.int (0 : Int32)), (.int (16 : Int32)), (.int (0 : Int32)), (.ref b2), (.int (0 : Int32)), (.ref a1)]))
  refine Go.by (fun _ => XS.isub X2.here hx rfl (hb hby d38_22) rfl) ?_
  show Go p.tables e below _ (T2.setTop (mkF m 23 #[.val (.ref a1), .val (.int (0 : Int32)), .val (.int (Int32.ofNat cn)), .val (.int ((Int32.ofNat cn) - (0 : Int32))), .val (.ref b2)] [(.int (16 : Int32)), (.int (0 : Int32)), (.ref b2), (.int (0 : Int32)), (.ref a1)]))
  refine Go.by (fun _ => XS.iloadN X2.here hx rfl (hb hby d38_23) rfl) ?_
  show Go p.tables e below _ (T2.setTop (mkF m 24 #[.val (.ref a1), .val (.int (0 : Int32)), .val (.int (Int32.ofNat cn)), .val (.int ((Int32.ofNat cn) - (0 : Int32))), .val (.ref b2)] [(.int ((Int32.ofNat cn) - (0 : Int32))), (.int (16 : Int32)), (.int (0 : Int32)), (.ref b2), (.int (0 : Int32)), (.ref a1)]))
  obtain ⟨v4, T4, h4, X4, q4, xs4, st4⟩ := X2.callS hx hZ f0n (y := (⟨"java/lang/Math", "min", "(II)I"⟩ : MethodName)) hown (tw hw 211 rfl) (tw hw 212 rfl) (tw hw 213 rfl) (tw hw 214 rfl) (by decide) (rm40 l Z a0 hw [] (16 : Int32) ((Int32.ofNat cn) - (0 : Int32)) h2 n0 Zs3 (own_lt16 hcn)) (g := (mkF m 24 #[.val (.ref a1), .val (.int (0 : Int32)), .val (.int (Int32.ofNat cn)), .val (.int ((Int32.ofNat cn) - (0 : Int32))), .val (.ref b2)] [(.int ((Int32.ofNat cn) - (0 : Int32))), (.int (16 : Int32)), (.int (0 : Int32)), (.ref b2), (.int (0 : Int32)), (.ref a1)])) rfl (by rw [hml]; rfl) (argsL := [(.int (16 : Int32)), (.int ((Int32.ofNat cn) - (0 : Int32)))]) (rest := [(.int (0 : Int32)), (.ref b2), (.int (0 : Int32)), (.ref a1)]) (lenOf pd20 rfl) rfl (hb hby d38_24) rfl (by decide) (Nat.le_of_ble_eq_true rfl) (k' := 1) (n' := 15) rfl rfl (by decide) (by decide)
  refine Go.by st4 ?_
  obtain ⟨rfl, rfl⟩ := q4
  show Go p.tables e below _ (T4.setTop (mkF m 27 #[.val (.ref a1), .val (.int (0 : Int32)), .val (.int (Int32.ofNat cn)), .val (.int ((Int32.ofNat cn) - (0 : Int32))), .val (.ref b2)] [(.int ((Int32.ofNat cn) - (0 : Int32))), (.int (0 : Int32)), (.ref b2), (.int (0 : Int32)), (.ref a1)]))
  obtain ⟨T5, h5, X5, K5, V5, st5⟩ := X4.acopy hx hZ hown (tw hw 215 rfl) (tw hw 169 rfl) (tw hw 167 rfl) (tw hw 168 rfl) f3_24 V2 rfl g_b2 (Or.inl (List.mem_cons_self ..)) (by decide) (by decide) (by rw [own_sub0]; exact i32_nneg (by omega)) (i := 0) (j := 0) (cc := cn) rfl rfl (by rw [own_sub0]; exact i32_nat (by omega)) (by omega) (by omega) (g := (mkF m 27 #[.val (.ref a1), .val (.int (0 : Int32)), .val (.int (Int32.ofNat cn)), .val (.int ((Int32.ofNat cn) - (0 : Int32))), .val (.ref b2)] [(.int ((Int32.ofNat cn) - (0 : Int32))), (.int (0 : Int32)), (.ref b2), (.int (0 : Int32)), (.ref a1)])) rfl (by rw [hml]; rfl) rfl (hb hby d38_27) (by decide) (Nat.le_of_ble_eq_true rfl)
  have f6_54 := Avf.keep f3_24 K5 (ninS ne_a1_b2 nin0)
  have f6_55 := f3_25.trans K5 (allS (Or.inr sz_b2) all0)
  have f6_56 := A2.keep K5
  have Zs6 : n0 ≤ h5.size := Nat.le_trans Zs3 K5.1
  refine Go.by st5 ?_
  show Go p.tables e below _ (T5.setTop (mkF m 30 #[.val (.ref a1), .val (.int (0 : Int32)), .val (.int (Int32.ofNat cn)), .val (.int ((Int32.ofNat cn) - (0 : Int32))), .val (.ref b2)] []))
  refine Go.by (fun _ => XS.aload X5.here hx rfl (hb hby d38_30) rfl rfl) ?_
  show Go p.tables e below _ (T5.setTop (mkF m 32 #[.val (.ref a1), .val (.int (0 : Int32)), .val (.int (Int32.ofNat cn)), .val (.int ((Int32.ofNat cn) - (0 : Int32))), .val (.ref b2)] [(.ref b2)]))
  refine Go.retA X5 hx hlk hret rfl rfl (hb hby d38_32) (by decide) (by decide) (fun _ z => z.elim) ?_
  refine ⟨b2, kc2, rfl, sz_b2, f6_55, Avf.cong V5 (fun t ht => ?_)⟩
  show (if 0 ≤ t ∧ t < 0 + cn then Value.int (g (0 + (t - 0))) else Value.int 0) = Value.int (g t)
  rw [if_pos (by omega)]
  simp
theorem d37_0 : decode jdk_65_method_132_code 0 = .ok (.iload_n 1, 1) := by decide +kernel
theorem d37_1 : decode jdk_65_method_132_code 1 = .ok (.ifCond .ne 9, 3) := by decide +kernel
theorem d37_4 : decode jdk_65_method_132_code 4 = .ok (.iload_n 2, 1) := by decide +kernel
theorem d37_5 : decode jdk_65_method_132_code 5 = .ok (.aload_n 0, 1) := by decide +kernel
theorem d37_6 : decode jdk_65_method_132_code 6 = .ok (.arraylength, 1) := by decide +kernel
theorem d37_7 : decode jdk_65_method_132_code 7 = .ok (.if_icmp .eq 10, 3) := by decide +kernel
theorem d37_10 : decode jdk_65_method_132_code 10 = .ok (.aload_n 0, 1) := by decide +kernel
theorem d37_11 : decode jdk_65_method_132_code 11 = .ok (.iload_n 1, 1) := by decide +kernel
theorem d37_12 : decode jdk_65_method_132_code 12 = .ok (.iload_n 2, 1) := by decide +kernel
theorem d37_13 : decode jdk_65_method_132_code 13 = .ok (.invokestatic 339, 3) := by decide +kernel
theorem pd21 : parseMethodDescriptor "([BII)[B" = some ⟨[(.array .byte), .int, .int], some (.array .byte)⟩ := by decide +kernel
theorem d37_16 : decode jdk_65_method_132_code 16 = .ok (.areturn, 1) := by decide +kernel
abbrev Rm37 : Room := { frames := 2, cells := 1, slots := 15, locals := 34 }
set_option maxRecDepth 65536 in
set_option maxHeartbeats 40000000 in
theorem rm37 (l : Launch) (Z : State) (a0 : Array Value) (hw : ∀ d ∈ tables_1, d.before a0 Z = true) (ws : List Jvm.Cond) (a1 : Addr) (kd : ClassId) (cn : Nat) (g : Nat → Int32) (h0 : Heap) (n0 : Nat) (Z0 : n0 ≤ h0.size) (V_a1 : Avf Z h0 a1 kd .byte 16 (fun i => (.int (g i)))) (hcn : cn ≤ 15) :
    Met l Z EL [] (fun _ _ _ => False) n0 (⟨"java/util/Arrays", "copyOfRange", "([BII)[B"⟩ : MethodName) jdk_65_method_132_code 3 (some (.array .byte)) ws Rm37 #[(.ref a1), (.int (0 : Int32)), (.int (Int32.ofNat cn))] h0 (fun v h => ∃ b kc, v = some (.ref b) ∧ h0.size ≤ b ∧ Keep h0 h [] ∧ Avf Z h b kc .byte cn (fun i => (.int (g i)))) := by
  refine enter (Ls := #[.val (.ref a1), .val (.int (0 : Int32)), .val (.int (Int32.ofNat cn))]) (plainFor_of_name pn9) (fun m => by first | (simp [entryFrame, mkF, argsToLocals, Value.category]; done) | rfl) ?_
  intro p e s m below meth c T0 hx hby hml hown hnm hret hlk hZ X0
  have K0 := Keep.refl h0 []
  show Go p.tables e below _ (T0.setTop (mkF m 0 #[.val (.ref a1), .val (.int (0 : Int32)), .val (.int (Int32.ofNat cn))] []))
  refine Go.by (fun _ => XS.iloadN X0.here hx rfl (hb hby d37_0) rfl) ?_
  show Go p.tables e below _ (T0.setTop (mkF m 1 #[.val (.ref a1), .val (.int (0 : Int32)), .val (.int (Int32.ofNat cn))] [(.int (0 : Int32))]))
  refine Go.by (fun _ => XS.ifNo X0.here hx rfl (hb hby d37_1) rfl ((if0 _ _).trans (teq (by decide)).2)) ?_
  show Go p.tables e below _ (T0.setTop (mkF m 4 #[.val (.ref a1), .val (.int (0 : Int32)), .val (.int (Int32.ofNat cn))] []))
  refine Go.by (fun _ => XS.iloadN X0.here hx rfl (hb hby d37_4) rfl) ?_
  show Go p.tables e below _ (T0.setTop (mkF m 5 #[.val (.ref a1), .val (.int (0 : Int32)), .val (.int (Int32.ofNat cn))] [(.int (Int32.ofNat cn))]))
  refine Go.by (fun _ => XS.aloadN X0.here hx rfl (hb hby d37_5) rfl rfl) ?_
  show Go p.tables e below _ (T0.setTop (mkF m 6 #[.val (.ref a1), .val (.int (0 : Int32)), .val (.int (Int32.ofNat cn))] [(.ref a1), (.int (Int32.ofNat cn))]))
  refine Go.by (X0.len hx hZ V_a1 (z := (16 : Int32)) rfl (g := (mkF m 6 #[.val (.ref a1), .val (.int (0 : Int32)), .val (.int (Int32.ofNat cn))] [(.ref a1), (.int (Int32.ofNat cn))])) rfl rfl (hb hby d37_6)) ?_
  show Go p.tables e below _ (T0.setTop (mkF m 7 #[.val (.ref a1), .val (.int (0 : Int32)), .val (.int (Int32.ofNat cn))] [(.int (16 : Int32)), (.int (Int32.ofNat cn))]))
  refine Go.by (fun _ => XS.icmpNo X0.here hx rfl (hb hby d37_7) rfl (feq ((own_ne16 hcn))).1) ?_
  show Go p.tables e below _ (T0.setTop (mkF m 10 #[.val (.ref a1), .val (.int (0 : Int32)), .val (.int (Int32.ofNat cn))] []))
  refine Go.by (fun _ => XS.aloadN X0.here hx rfl (hb hby d37_10) rfl rfl) ?_
  show Go p.tables e below _ (T0.setTop (mkF m 11 #[.val (.ref a1), .val (.int (0 : Int32)), .val (.int (Int32.ofNat cn))] [(.ref a1)]))
  refine Go.by (fun _ => XS.iloadN X0.here hx rfl (hb hby d37_11) rfl) ?_
  show Go p.tables e below _ (T0.setTop (mkF m 12 #[.val (.ref a1), .val (.int (0 : Int32)), .val (.int (Int32.ofNat cn))] [(.int (0 : Int32)), (.ref a1)]))
  refine Go.by (fun _ => XS.iloadN X0.here hx rfl (hb hby d37_12) rfl) ?_
  show Go p.tables e below _ (T0.setTop (mkF m 13 #[.val (.ref a1), .val (.int (0 : Int32)), .val (.int (Int32.ofNat cn))] [(.int (Int32.ofNat cn)), (.int (0 : Int32)), (.ref a1)]))
  obtain ⟨v1, T1, h1, X1, q1, xs1, st1⟩ := X0.callS hx hZ f0n (y := (⟨"java/util/Arrays", "copyOfRangeByte", "([BII)[B"⟩ : MethodName)) hown (tw hw 205 rfl) (tw hw 206 rfl) (tw hw 203 rfl) (tw hw 207 rfl) (by decide) (rm38 l Z a0 hw [] a1 kd cn g h0 n0 Z0 V_a1 hcn) (g := (mkF m 13 #[.val (.ref a1), .val (.int (0 : Int32)), .val (.int (Int32.ofNat cn))] [(.int (Int32.ofNat cn)), (.int (0 : Int32)), (.ref a1)])) rfl (by rw [hml]; rfl) (argsL := [(.ref a1), (.int (0 : Int32)), (.int (Int32.ofNat cn))]) (rest := []) (lenOf pd21 rfl) rfl (hb hby d37_13) rfl (by decide) (Nat.le_of_ble_eq_true rfl) (k' := 1) (n' := 15) rfl rfl (by decide) (by decide)
  refine Go.by st1 ?_
  obtain ⟨d1, kc1, rfl, sd1, K1, V1⟩ := q1
  have g_d1 : n0 ≤ d1 := Nat.le_trans Z0 sd1
  have sz_d1 : h0.size ≤ d1 := Nat.le_trans K0.1 sd1
  have ne_a1_d1 : a1 ≠ d1 := Nat.ne_of_lt (Nat.lt_of_lt_of_le V_a1.lt sd1)
  have f2_26 := Avf.ext V_a1 (keep_ext K1)
  have f2_27 := K0.ext (keep_ext K1)
  have Zs2 : n0 ≤ h1.size := Nat.le_trans Z0 (keep_ext K1).1
  show Go p.tables e below _ (T1.setTop (mkF m 16 #[.val (.ref a1), .val (.int (0 : Int32)), .val (.int (Int32.ofNat cn))] [(.ref d1)]))
  exact Go.retA X1 hx hlk hret rfl rfl (hb hby d37_16) (by decide) (by decide) (fun _ z => z.elim) ⟨d1, kc1, rfl, sz_d1, f2_27, V1⟩
theorem d32_0 : decode jdk_42_method_150_code 0 = .ok (.aload_n 0, 1) := by decide +kernel
theorem d32_1 : decode jdk_42_method_150_code 1 = .ok (.invokespecial 1, 3) := by decide +kernel
theorem d32_4 : decode jdk_42_method_150_code 4 = .ok (.aload_n 1, 1) := by decide +kernel
theorem d32_5 : decode jdk_42_method_150_code 5 = .ok (.invokevirtual 552, 3) := by decide +kernel
theorem pd22 : parseMethodDescriptor "()[B" = some ⟨[], some (.array .byte)⟩ := by decide +kernel
theorem d32_8 : decode jdk_42_method_150_code 8 = .ok (.astore_n 3, 1) := by decide +kernel
theorem d32_9 : decode jdk_42_method_150_code 9 = .ok (.aload_n 1, 1) := by decide +kernel
theorem d32_10 : decode jdk_42_method_150_code 10 = .ok (.invokevirtual 549, 3) := by decide +kernel
theorem d32_13 : decode jdk_42_method_150_code 13 = .ok (.istore 4, 2) := by decide +kernel
theorem d32_15 : decode jdk_42_method_150_code 15 = .ok (.aload_n 1, 1) := by decide +kernel
theorem d32_16 : decode jdk_42_method_150_code 16 = .ok (.invokevirtual 1047, 3) := by decide +kernel
theorem d32_19 : decode jdk_42_method_150_code 19 = .ok (.ifCond .eq 22, 3) := by decide +kernel
theorem d32_22 : decode jdk_42_method_150_code 22 = .ok (.aload_n 0, 1) := by decide +kernel
theorem d32_23 : decode jdk_42_method_150_code 23 = .ok (.iconst 0, 1) := by decide +kernel
theorem d32_24 : decode jdk_42_method_150_code 24 = .ok (.putfield 15, 3) := by decide +kernel
theorem d32_27 : decode jdk_42_method_150_code 27 = .ok (.aload_n 0, 1) := by decide +kernel
theorem d32_28 : decode jdk_42_method_150_code 28 = .ok (.aload_n 3, 1) := by decide +kernel
theorem d32_29 : decode jdk_42_method_150_code 29 = .ok (.iconst 0, 1) := by decide +kernel
theorem d32_30 : decode jdk_42_method_150_code 30 = .ok (.iload 4, 2) := by decide +kernel
theorem d32_32 : decode jdk_42_method_150_code 32 = .ok (.invokestatic 54, 3) := by decide +kernel
theorem d32_35 : decode jdk_42_method_150_code 35 = .ok (.putfield 9, 3) := by decide +kernel
theorem d32_38 : decode jdk_42_method_150_code 38 = .ok (.goto 59, 3) := by decide +kernel
theorem d32_97 : decode jdk_42_method_150_code 97 = .ok (.return_, 1) := by decide +kernel
abbrev Rm32 : Room := { frames := 3, cells := 1, slots := 15, locals := 49 }
set_option maxRecDepth 65536 in
set_option maxHeartbeats 40000000 in
theorem rm32 (l : Launch) (Z : State) (a0 : Array Value) (hw : ∀ d ∈ tables_1, d.before a0 Z = true) (ws : List Jvm.Cond) (a1 : Addr) (a2 : Addr) (cs : Int32) (d : Addr) (kd : ClassId) (cn : Nat) (g : Nat → Int32) (h0 : Heap) (n0 : Nat) (Z0 : n0 ≤ h0.size) (O0 : Old Z n0 h0) (S_CS0 : Sta Z Z.heap "java/lang/String" "COMPACT_STRINGS" "Z" (.int cs)) (hcs : ¬ cs = 0) (E_a1 : Exa Z h0 a1 "java/lang/String") (g_a1 : n0 ≤ a1) (Fv : Fld Z h0 a1 "java/lang/String" "value" "[B" .null) (Fc : Fld Z h0 a1 "java/lang/String" "coder" "B" (.int (0 : Int32))) (E_a2 : Exa Z h0 a2 "java/lang/StringBuilder") (Fv_a2 : Fld Z h0 a2 "java/lang/AbstractStringBuilder" "value" "[B" (.ref d)) (Fc_a2 : Fld Z h0 a2 "java/lang/AbstractStringBuilder" "coder" "B" (.int (0 : Int32))) (Fn_a2 : Fld Z h0 a2 "java/lang/AbstractStringBuilder" "count" "I" (.int (Int32.ofNat cn))) (V_d : Avf Z h0 d kd .byte 16 (fun i => (.int (g i)))) (hcn : cn ≤ 15) :
    Met l Z EL [a1] (fun _ _ _ => False) n0 (⟨"java/lang/String", "<init>", "(Ljava/lang/AbstractStringBuilder;Ljava/lang/Void;)V"⟩ : MethodName) jdk_42_method_150_code 5 none ws Rm32 #[(.ref a1), (.ref a2), .null] h0 (fun v h => v = none ∧ Keep h0 h [a1] ∧ Exa Z h a1 "java/lang/String" ∧ ∃ b kc, h0.size ≤ b ∧ Fld Z h a1 "java/lang/String" "value" "[B" (.ref b) ∧ Fld Z h a1 "java/lang/String" "coder" "B" (.int (0 : Int32)) ∧ Avf Z h b kc .byte cn (fun i => (.int (g i)))) := by
  refine enter (Ls := #[.val (.ref a1), .val (.ref a2), .val .null, .unset, .unset]) (plainFor_of_name pn1) (fun m => by first | (simp [entryFrame, mkF, argsToLocals, Value.category]; done) | rfl) ?_
  intro p e s m below meth c T0 hx hby hml hown hnm hret hlk hZ X0
  have S_CS := S_CS0.ext O0.2
  have na21 : a2 ≠ a1 := Exa.ne E_a2 E_a1 (by decide)
  have nd1 : d ≠ a1 := exa_nev E_a1 (tw hw 10 rfl) V_d
  have K0 := Keep.refl h0 [a1]
  show Go p.tables e below _ (T0.setTop (mkF m 0 #[.val (.ref a1), .val (.ref a2), .val .null, .unset, .unset] []))
  refine Go.by (fun _ => XS.aloadN X0.here hx rfl (hb hby d32_0) rfl rfl) ?_
  show Go p.tables e below _ (T0.setTop (mkF m 1 #[.val (.ref a1), .val (.ref a2), .val .null, .unset, .unset] [(.ref a1)]))
  obtain ⟨T1, X1, st1⟩ := X0.initO hx hZ hown (tw hw 19 rfl) (tw hw 20 rfl) (tw hw 21 rfl) (g := (mkF m 1 #[.val (.ref a1), .val (.ref a2), .val .null, .unset, .unset] [(.ref a1)])) rfl (by rw [hml]; rfl) rfl (hb hby d32_1) (by decide) (Nat.le_of_ble_eq_true rfl)
  refine Go.by st1 ?_
  show Go p.tables e below _ (T1.setTop (mkF m 4 #[.val (.ref a1), .val (.ref a2), .val .null, .unset, .unset] []))
  refine Go.by (fun _ => XS.aloadN X1.here hx rfl (hb hby d32_4) rfl rfl) ?_
  show Go p.tables e below _ (T1.setTop (mkF m 5 #[.val (.ref a1), .val (.ref a2), .val .null, .unset, .unset] [(.ref a2)]))
  obtain ⟨v2, T2, h2, X2, q2, xs2, st2⟩ := X1.callV hx hZ f0n (y := (⟨"java/lang/AbstractStringBuilder", "getValue", "()[B"⟩ : MethodName)) (z := (⟨"java/lang/AbstractStringBuilder", "getValue", "()[B"⟩ : MethodName)) hown (tw hw 183 rfl) (tw hw 184 rfl) (fun _ hZ => notFace_of_selects (args := #[]) (mvT hZ (tw hw 186 rfl))) (tw hw 186 rfl) (tw hw 185 rfl) (tw hw 124 rfl) (tw hw 187 rfl) (by decide) (rm33 l Z a0 hw [] a2 cs d kd cn g h0 n0 Z0 O0 S_CS0 hcs E_a2 Fv_a2 Fc_a2 Fn_a2 V_d) E_a2 (g := (mkF m 5 #[.val (.ref a1), .val (.ref a2), .val .null, .unset, .unset] [(.ref a2)])) rfl (by rw [hml]; rfl) (argsL := []) (rest := []) (lenOf pd22 rfl) rfl (hb hby d32_5) rfl (by decide) (Nat.le_of_ble_eq_true rfl) (k' := 0) (n' := 0) rfl rfl (by decide) (by decide)
  refine Go.by st2 ?_
  obtain ⟨rfl, rfl⟩ := q2
  show Go p.tables e below _ (T2.setTop (mkF m 8 #[.val (.ref a1), .val (.ref a2), .val .null, .unset, .unset] [(.ref d)]))
  refine Go.by (fun _ => XS.astoreN X2.here hx rfl (hb hby d32_8) rfl rfl (l' := #[.val (.ref a1), .val (.ref a2), .val .null, .val (.ref d), .unset]) rfl) ?_
  show Go p.tables e below _ (T2.setTop (mkF m 9 #[.val (.ref a1), .val (.ref a2), .val .null, .val (.ref d), .unset] []))
  refine Go.by (fun _ => XS.aloadN X2.here hx rfl (hb hby d32_9) rfl rfl) ?_
  show Go p.tables e below _ (T2.setTop (mkF m 10 #[.val (.ref a1), .val (.ref a2), .val .null, .val (.ref d), .unset] [(.ref a2)]))
  obtain ⟨v3, T3, h3, X3, q3, xs3, st3⟩ := X2.callV hx hZ f0n (y := (⟨"java/lang/AbstractStringBuilder", "length", "()I"⟩ : MethodName)) (z := (⟨"java/lang/StringBuilder", "length", "()I"⟩ : MethodName)) hown (tw hw 188 rfl) (tw hw 189 rfl) (fun _ hZ => nf_of (tw hw 148 rfl) rfl hZ) (tw hw 191 rfl) (tw hw 192 rfl) (tw hw 116 rfl) (tw hw 193 rfl) (by decide) (rm34 l Z a0 hw [] a2 cs d kd cn g h0 n0 Z0 O0 S_CS0 hcs E_a2 Fv_a2 Fc_a2 Fn_a2 V_d) E_a2 (g := (mkF m 10 #[.val (.ref a1), .val (.ref a2), .val .null, .val (.ref d), .unset] [(.ref a2)])) rfl (by rw [hml]; rfl) (argsL := []) (rest := []) (lenOf pd11 rfl) rfl (hb hby d32_10) rfl (by decide) (Nat.le_of_ble_eq_true rfl) (k' := 0) (n' := 0) rfl rfl (by decide) (by decide)
  refine Go.by st3 ?_
  obtain ⟨rfl, rfl⟩ := q3
  show Go p.tables e below _ (T3.setTop (mkF m 13 #[.val (.ref a1), .val (.ref a2), .val .null, .val (.ref d), .unset] [(.int (Int32.ofNat cn))]))
  refine Go.by (fun _ => XS.istore X3.here hx rfl (hb hby d32_13) rfl (l' := #[.val (.ref a1), .val (.ref a2), .val .null, .val (.ref d), .val (.int (Int32.ofNat cn))]) rfl) ?_
  show Go p.tables e below _ (T3.setTop (mkF m 15 #[.val (.ref a1), .val (.ref a2), .val .null, .val (.ref d), .val (.int (Int32.ofNat cn))] []))
  refine Go.by (fun _ => XS.aloadN X3.here hx rfl (hb hby d32_15) rfl rfl) ?_
  show Go p.tables e below _ (T3.setTop (mkF m 16 #[.val (.ref a1), .val (.ref a2), .val .null, .val (.ref d), .val (.int (Int32.ofNat cn))] [(.ref a2)]))
  obtain ⟨v4, T4, h4, X4, q4, xs4, st4⟩ := X3.callV hx hZ f0n (y := (⟨"java/lang/AbstractStringBuilder", "isLatin1", "()Z"⟩ : MethodName)) (z := (⟨"java/lang/AbstractStringBuilder", "isLatin1", "()Z"⟩ : MethodName)) hown (tw hw 196 rfl) (tw hw 197 rfl) (fun _ hZ => notFace_of_selects (args := #[]) (mvT hZ (tw hw 199 rfl))) (tw hw 199 rfl) (tw hw 198 rfl) (tw hw 124 rfl) (tw hw 200 rfl) (by decide) (rm36 l Z a0 hw [] a2 cs d kd cn g h0 n0 Z0 O0 S_CS0 hcs E_a2 Fv_a2 Fc_a2 Fn_a2 V_d) E_a2 (g := (mkF m 16 #[.val (.ref a1), .val (.ref a2), .val .null, .val (.ref d), .val (.int (Int32.ofNat cn))] [(.ref a2)])) rfl (by rw [hml]; rfl) (argsL := []) (rest := []) (lenOf pd9 rfl) rfl (hb hby d32_16) rfl (by decide) (Nat.le_of_ble_eq_true rfl) (k' := 0) (n' := 0) rfl rfl (by decide) (by decide)
  refine Go.by st4 ?_
  obtain ⟨rfl, rfl⟩ := q4
  show Go p.tables e below _ (T4.setTop (mkF m 19 #[.val (.ref a1), .val (.ref a2), .val .null, .val (.ref d), .val (.int (Int32.ofNat cn))] [(.int (1 : Int32))]))
  refine Go.by (fun _ => XS.ifNo X4.here hx rfl (hb hby d32_19) rfl ((if0 _ _).trans (feq (by decide)).1)) ?_
  show Go p.tables e below _ (T4.setTop (mkF m 22 #[.val (.ref a1), .val (.ref a2), .val .null, .val (.ref d), .val (.int (Int32.ofNat cn))] []))
  refine Go.by (fun _ => XS.aloadN X4.here hx rfl (hb hby d32_22) rfl rfl) ?_
  show Go p.tables e below _ (T4.setTop (mkF m 23 #[.val (.ref a1), .val (.ref a2), .val .null, .val (.ref d), .val (.int (Int32.ofNat cn))] [(.ref a1)]))
  refine Go.by (fun _ => XS.iconst X4.here hx rfl (hb hby d32_23)) ?_
  show Go p.tables e below _ (T4.setTop (mkF m 24 #[.val (.ref a1), .val (.ref a2), .val .null, .val (.ref d), .val (.int (Int32.ofNat cn))] [(.int (0 : Int32)), (.ref a1)]))
  obtain ⟨T5, h5, X5, W5, st5⟩ := X4.putFN hx hZ hown (tw hw 34 rfl) Via.refl Fc E_a1 g_a1 (Or.inl (List.mem_cons_self ..)) (Or.inr ⟨(tw hw 35 rfl), rfl, hnm⟩) (tw hw 10 rfl) (ty := .byte) (v' := (.int (0 : Int32))) (by decide) rfl rfl (g := (mkF m 24 #[.val (.ref a1), .val (.ref a2), .val .null, .val (.ref d), .val (.int (Int32.ofNat cn))] [(.int (0 : Int32)), (.ref a1)])) rfl rfl (hb hby d32_24)
  have Fw5 := Fc.same W5
  have f6_40 := S_CS.wr W5
  have f6_41 := O0.wr W5 g_a1
  have f6_42 := E_a1.wr W5
  have f6_43 := Fv.other W5 (Or.inr (slot_ne (Or.inr (tw hw 37 rfl)) (Or.inr (tw hw 35 rfl)) (by decide) (t := (.array .byte)) (t' := .byte) (by decide) (by decide)))
  have f6_44 := E_a2.wr W5
  have f6_45 := Fv_a2.other W5 (Or.inl na21)
  have f6_46 := Fc_a2.other W5 (Or.inl na21)
  have f6_47 := Fn_a2.other W5 (Or.inl na21)
  have f6_48 := Avf.other V_d W5 nd1
  have f6_49 := K0.wr W5 (Or.inl (List.mem_of_getElem? (i := 0) rfl))
  have Zs6 : n0 ≤ h5.size := by rw [W5.size]; exact Z0
  refine Go.by st5 ?_
  show Go p.tables e below _ (T5.setTop (mkF m 27 #[.val (.ref a1), .val (.ref a2), .val .null, .val (.ref d), .val (.int (Int32.ofNat cn))] []))
  refine Go.by (fun _ => XS.aloadN X5.here hx rfl (hb hby d32_27) rfl rfl) ?_
  show Go p.tables e below _ (T5.setTop (mkF m 28 #[.val (.ref a1), .val (.ref a2), .val .null, .val (.ref d), .val (.int (Int32.ofNat cn))] [(.ref a1)]))
  refine Go.by (fun _ => XS.aloadN X5.here hx rfl (hb hby d32_28) rfl rfl) ?_
  show Go p.tables e below _ (T5.setTop (mkF m 29 #[.val (.ref a1), .val (.ref a2), .val .null, .val (.ref d), .val (.int (Int32.ofNat cn))] [(.ref d), (.ref a1)]))
  refine Go.by (fun _ => XS.iconst X5.here hx rfl (hb hby d32_29)) ?_
  show Go p.tables e below _ (T5.setTop (mkF m 30 #[.val (.ref a1), .val (.ref a2), .val .null, .val (.ref d), .val (.int (Int32.ofNat cn))] [(.int (0 : Int32)), (.ref d), (.ref a1)]))
  refine Go.by (fun _ => XS.iload X5.here hx rfl (hb hby d32_30) rfl) ?_
  show Go p.tables e below _ (T5.setTop (mkF m 32 #[.val (.ref a1), .val (.ref a2), .val .null, .val (.ref d), .val (.int (Int32.ofNat cn))] [(.int (Int32.ofNat cn)), (.int (0 : Int32)), (.ref d), (.ref a1)]))
  obtain ⟨v7, T7, h7, X7, q7, xs7, st7⟩ := X5.callS hx hZ f0n (y := (⟨"java/util/Arrays", "copyOfRange", "([BII)[B"⟩ : MethodName)) hown (tw hw 201 rfl) (tw hw 202 rfl) (tw hw 203 rfl) (tw hw 204 rfl) (by decide) (rm37 l Z a0 hw [] d kd cn g h5 n0 Zs6 f6_48 hcn) (g := (mkF m 32 #[.val (.ref a1), .val (.ref a2), .val .null, .val (.ref d), .val (.int (Int32.ofNat cn))] [(.int (Int32.ofNat cn)), (.int (0 : Int32)), (.ref d), (.ref a1)])) rfl (by rw [hml]; rfl) (argsL := [(.ref d), (.int (0 : Int32)), (.int (Int32.ofNat cn))]) (rest := [(.ref a1)]) (lenOf pd21 rfl) rfl (hb hby d32_32) rfl (by decide) (Nat.le_of_ble_eq_true rfl) (k' := 1) (n' := 15) rfl rfl (by decide) (by decide)
  refine Go.by st7 ?_
  obtain ⟨d7, kc7, rfl, sd7, K7, V7⟩ := q7
  have g_d7 : n0 ≤ d7 := Nat.le_trans Zs6 sd7
  have sz_d7 : h0.size ≤ d7 := Nat.le_trans f6_49.1 sd7
  have ne_a1_d7 : a1 ≠ d7 := Nat.ne_of_lt (Nat.lt_of_lt_of_le f6_42.lt sd7)
  have ne_a2_d7 : a2 ≠ d7 := Nat.ne_of_lt (Nat.lt_of_lt_of_le f6_44.lt sd7)
  have ne_d_d7 : d ≠ d7 := Nat.ne_of_lt (Nat.lt_of_lt_of_le f6_48.lt sd7)
  have f8_69 := f6_40.ext (keep_ext K7)
  have f8_70 := f6_41.ext (keep_ext K7)
  have f8_71 := f6_42.ext (keep_ext K7)
  have f8_72 := f6_43.ext (keep_ext K7)
  have f8_73 := Fw5.ext (keep_ext K7)
  have f8_74 := f6_44.ext (keep_ext K7)
  have f8_75 := f6_45.ext (keep_ext K7)
  have f8_76 := f6_46.ext (keep_ext K7)
  have f8_77 := f6_47.ext (keep_ext K7)
  have f8_78 := Avf.ext f6_48 (keep_ext K7)
  have f8_79 := f6_49.ext (keep_ext K7)
  have Zs8 : n0 ≤ h7.size := Nat.le_trans Zs6 (keep_ext K7).1
  show Go p.tables e below _ (T7.setTop (mkF m 35 #[.val (.ref a1), .val (.ref a2), .val .null, .val (.ref d), .val (.int (Int32.ofNat cn))] [(.ref d7), (.ref a1)]))
  obtain ⟨T9, h9, X9, W9, st9⟩ := X7.putF hx hZ hown (host := "") (Or.inl (tw hw 36 rfl)) Via.refl f8_72 f8_71 g_a1 (Or.inl (List.mem_cons_self ..)) (Or.inr ⟨(tw hw 37 rfl), rfl, hnm⟩) (tw hw 10 rfl) (ty := (.array .byte)) (by decide) rfl rfl (g := (mkF m 35 #[.val (.ref a1), .val (.ref a2), .val .null, .val (.ref d), .val (.int (Int32.ofNat cn))] [(.ref d7), (.ref a1)])) rfl rfl (hb hby d32_35)
  have Fw9 := f8_72.same W9
  have f10_84 := f8_69.wr W9
  have f10_85 := f8_70.wr W9 g_a1
  have f10_86 := f8_71.wr W9
  have f10_87 := f8_73.other W9 (Or.inr (slot_ne (Or.inr (tw hw 35 rfl)) (Or.inr (tw hw 37 rfl)) (by decide) (t := .byte) (t' := (.array .byte)) (by decide) (by decide)))
  have f10_88 := f8_74.wr W9
  have f10_89 := f8_75.other W9 (Or.inl na21)
  have f10_90 := f8_76.other W9 (Or.inl na21)
  have f10_91 := f8_77.other W9 (Or.inl na21)
  have f10_92 := Avf.other f8_78 W9 nd1
  have f10_93 := f8_79.wr W9 (Or.inl (List.mem_of_getElem? (i := 0) rfl))
  have f10_94 := Avf.other V7 W9 (Ne.symm ne_a1_d7)
  have Zs10 : n0 ≤ h9.size := by rw [W9.size]; exact Zs8
  refine Go.by st9 ?_
  show Go p.tables e below _ (T9.setTop (mkF m 38 #[.val (.ref a1), .val (.ref a2), .val .null, .val (.ref d), .val (.int (Int32.ofNat cn))] []))
  refine Go.by (fun _ => XS.goto X9.here hx rfl (pc0 := 38) (pc' := 97) rfl (hb hby d32_38) (by decide) (by decide)) ?_
  show Go p.tables e below _ (T9.setTop (mkF m 97 #[.val (.ref a1), .val (.ref a2), .val .null, .val (.ref d), .val (.int (Int32.ofNat cn))] []))
  exact Go.ret0 X9 hx hlk hret (hb hby d32_97) (by decide) (by decide) (fun _ z => z.elim) ⟨rfl, f10_93, f10_86, d7, kc7, sz_d7, Fw9, f10_87, f10_94⟩
theorem d31_0 : decode jdk_42_method_53_code 0 = .ok (.aload_n 0, 1) := by decide +kernel
theorem d31_1 : decode jdk_42_method_53_code 1 = .ok (.aload_n 1, 1) := by decide +kernel
theorem d31_2 : decode jdk_42_method_53_code 2 = .ok (.aconst_null, 1) := by decide +kernel
theorem d31_3 : decode jdk_42_method_53_code 3 = .ok (.invokespecial 489, 3) := by decide +kernel
theorem pd23 : parseMethodDescriptor "(Ljava/lang/AbstractStringBuilder;Ljava/lang/Void;)V" = some ⟨[(.object "java/lang/AbstractStringBuilder"), (.object "java/lang/Void")], none⟩ := by decide +kernel
theorem d31_6 : decode jdk_42_method_53_code 6 = .ok (.return_, 1) := by decide +kernel
abbrev Rm31 : Room := { frames := 4, cells := 1, slots := 15, locals := 65 }
set_option maxRecDepth 65536 in
set_option maxHeartbeats 40000000 in
theorem rm31 (l : Launch) (Z : State) (a0 : Array Value) (hw : ∀ d ∈ tables_1, d.before a0 Z = true) (ws : List Jvm.Cond) (a1 : Addr) (a2 : Addr) (cs : Int32) (d : Addr) (kd : ClassId) (cn : Nat) (g : Nat → Int32) (h0 : Heap) (n0 : Nat) (Z0 : n0 ≤ h0.size) (O0 : Old Z n0 h0) (S_CS0 : Sta Z Z.heap "java/lang/String" "COMPACT_STRINGS" "Z" (.int cs)) (hcs : ¬ cs = 0) (E_a1 : Exa Z h0 a1 "java/lang/String") (g_a1 : n0 ≤ a1) (Fv : Fld Z h0 a1 "java/lang/String" "value" "[B" .null) (Fc : Fld Z h0 a1 "java/lang/String" "coder" "B" (.int (0 : Int32))) (E_a2 : Exa Z h0 a2 "java/lang/StringBuilder") (Fv_a2 : Fld Z h0 a2 "java/lang/AbstractStringBuilder" "value" "[B" (.ref d)) (Fc_a2 : Fld Z h0 a2 "java/lang/AbstractStringBuilder" "coder" "B" (.int (0 : Int32))) (Fn_a2 : Fld Z h0 a2 "java/lang/AbstractStringBuilder" "count" "I" (.int (Int32.ofNat cn))) (V_d : Avf Z h0 d kd .byte 16 (fun i => (.int (g i)))) (hcn : cn ≤ 15) :
    Met l Z EL [a1] (fun _ _ _ => False) n0 (⟨"java/lang/String", "<init>", "(Ljava/lang/StringBuilder;)V"⟩ : MethodName) jdk_42_method_53_code 2 none ws Rm31 #[(.ref a1), (.ref a2)] h0 (fun v h => v = none ∧ Keep h0 h [a1] ∧ Exa Z h a1 "java/lang/String" ∧ ∃ b kc, h0.size ≤ b ∧ Fld Z h a1 "java/lang/String" "value" "[B" (.ref b) ∧ Fld Z h a1 "java/lang/String" "coder" "B" (.int (0 : Int32)) ∧ Avf Z h b kc .byte cn (fun i => (.int (g i)))) := by
  refine enter (Ls := #[.val (.ref a1), .val (.ref a2)]) (plainFor_of_name pn1) (fun m => by first | (simp [entryFrame, mkF, argsToLocals, Value.category]; done) | rfl) ?_
  intro p e s m below meth c T0 hx hby hml hown hnm hret hlk hZ X0
  have S_CS := S_CS0.ext O0.2
  have na21 : a2 ≠ a1 := Exa.ne E_a2 E_a1 (by decide)
  have nd1 : d ≠ a1 := exa_nev E_a1 (tw hw 10 rfl) V_d
  have K0 := Keep.refl h0 [a1]
  show Go p.tables e below _ (T0.setTop (mkF m 0 #[.val (.ref a1), .val (.ref a2)] []))
  refine Go.by (fun _ => XS.aloadN X0.here hx rfl (hb hby d31_0) rfl rfl) ?_
  show Go p.tables e below _ (T0.setTop (mkF m 1 #[.val (.ref a1), .val (.ref a2)] [(.ref a1)]))
  refine Go.by (fun _ => XS.aloadN X0.here hx rfl (hb hby d31_1) rfl rfl) ?_
  show Go p.tables e below _ (T0.setTop (mkF m 2 #[.val (.ref a1), .val (.ref a2)] [(.ref a2), (.ref a1)]))
  refine Go.by (fun _ => XS.aconstNull X0.here hx rfl (hb hby d31_2)) ?_
  show Go p.tables e below _ (T0.setTop (mkF m 3 #[.val (.ref a1), .val (.ref a2)] [.null, (.ref a2), (.ref a1)]))
  obtain ⟨v1, T1, h1, X1, q1, xs1, st1⟩ := X0.callI hx hZ (f0s (List.mem_cons_self ..) f0n) (y := (⟨"java/lang/String", "<init>", "(Ljava/lang/AbstractStringBuilder;Ljava/lang/Void;)V"⟩ : MethodName)) rfl hown (tw hw 180 rfl) (tw hw 181 rfl) (tw hw 11 rfl) (tw hw 182 rfl) (by decide) (rm32 l Z a0 hw [] a1 a2 cs d kd cn g h0 n0 Z0 O0 S_CS0 hcs E_a1 g_a1 Fv Fc E_a2 Fv_a2 Fc_a2 Fn_a2 V_d hcn) (g := (mkF m 3 #[.val (.ref a1), .val (.ref a2)] [.null, (.ref a2), (.ref a1)])) rfl (by rw [hml]; rfl) (argsL := [(.ref a2), .null]) (rest := []) (lenOf pd23 rfl) rfl (hb hby d31_3) rfl (by decide) (Nat.le_of_ble_eq_true rfl) (k' := 1) (n' := 15) rfl rfl (by decide) (by decide)
  refine Go.by st1 ?_
  obtain ⟨rfl, K1, Ex1, d1, kc1, sd1, Fv1, Fc1, V1⟩ := q1
  have g_d1 : n0 ≤ d1 := Nat.le_trans Z0 sd1
  have sz_d1 : h0.size ≤ d1 := Nat.le_trans K0.1 sd1
  have ne_a1_d1 : a1 ≠ d1 := Nat.ne_of_lt (Nat.lt_of_lt_of_le E_a1.lt sd1)
  have ne_a2_d1 : a2 ≠ d1 := Nat.ne_of_lt (Nat.lt_of_lt_of_le E_a2.lt sd1)
  have ne_d_d1 : d ≠ d1 := Nat.ne_of_lt (Nat.lt_of_lt_of_le V_d.lt sd1)
  have f2_19 := Sta.keepN S_CS K1 (allS E_a1.plain all0)
  have f2_20 := O0.keep K1 (allS g_a1 all0)
  have f2_21 := E_a1.keep K1
  have f2_22 := E_a2.keep K1
  have f2_23 := Fv_a2.keep K1 (ninS na21 nin0)
  have f2_24 := Fc_a2.keep K1 (ninS na21 nin0)
  have f2_25 := Fn_a2.keep K1 (ninS na21 nin0)
  have f2_26 := Avf.keep V_d K1 (ninS nd1 nin0)
  have f2_27 := K0.trans K1 (allS (Or.inl (List.mem_of_getElem? (i := 0) rfl)) all0)
  have Zs2 : n0 ≤ h1.size := Nat.le_trans Z0 K1.1
  show Go p.tables e below _ (T1.setTop (mkF m 6 #[.val (.ref a1), .val (.ref a2)] []))
  exact Go.ret0 X1 hx hlk hret (hb hby d31_6) (by decide) (by decide) (fun _ z => z.elim) ⟨rfl, f2_27, Ex1, d1, kc1, sz_d1, Fv1, Fc1, V1⟩
theorem d30_0 : decode jdk_67_method_42_code 0 = .ok (.new 18, 3) := by decide +kernel
theorem d30_3 : decode jdk_67_method_42_code 3 = .ok (.dup, 1) := by decide +kernel
theorem d30_4 : decode jdk_67_method_42_code 4 = .ok (.aload_n 0, 1) := by decide +kernel
theorem d30_5 : decode jdk_67_method_42_code 5 = .ok (.invokespecial 137, 3) := by decide +kernel
theorem pd24 : parseMethodDescriptor "(Ljava/lang/StringBuilder;)V" = some ⟨[(.object "java/lang/StringBuilder")], none⟩ := by decide +kernel
theorem d30_8 : decode jdk_67_method_42_code 8 = .ok (.areturn, 1) := by decide +kernel
abbrev Rm30 : Room := { frames := 5, cells := 2, slots := 19, locals := 79 }
set_option maxRecDepth 65536 in
set_option maxHeartbeats 40000000 in
theorem rm30 (l : Launch) (Z : State) (a0 : Array Value) (hw : ∀ d ∈ tables_1, d.before a0 Z = true) (ws : List Jvm.Cond) (a1 : Addr) (cs : Int32) (d : Addr) (kd : ClassId) (cn : Nat) (g : Nat → Int32) (h0 : Heap) (n0 : Nat) (Z0 : n0 ≤ h0.size) (O0 : Old Z n0 h0) (S_CS0 : Sta Z Z.heap "java/lang/String" "COMPACT_STRINGS" "Z" (.int cs)) (hcs : ¬ cs = 0) (E_a1 : Exa Z h0 a1 "java/lang/StringBuilder") (Fv_a1 : Fld Z h0 a1 "java/lang/AbstractStringBuilder" "value" "[B" (.ref d)) (Fc_a1 : Fld Z h0 a1 "java/lang/AbstractStringBuilder" "coder" "B" (.int (0 : Int32))) (Fn_a1 : Fld Z h0 a1 "java/lang/AbstractStringBuilder" "count" "I" (.int (Int32.ofNat cn))) (V_d : Avf Z h0 d kd .byte 16 (fun i => (.int (g i)))) (hcn : cn ≤ 15) :
    Met l Z EL [] (fun _ _ _ => False) n0 (⟨"java/lang/StringBuilder", "toString", "()Ljava/lang/String;"⟩ : MethodName) jdk_67_method_42_code 1 (some (.object "java/lang/String")) ws Rm30 #[(.ref a1)] h0 (fun v h => ∃ r b kc, v = some (.ref r) ∧ h0.size ≤ r ∧ h0.size ≤ b ∧ Keep h0 h [] ∧ Exa Z h r "java/lang/String" ∧ Fld Z h r "java/lang/String" "value" "[B" (.ref b) ∧ Fld Z h r "java/lang/String" "coder" "B" (.int (0 : Int32)) ∧ Avf Z h b kc .byte cn (fun i => (.int (g i)))) := by
  refine enter (Ls := #[.val (.ref a1)]) (plainFor_of_name pn8) (fun m => by first | (simp [entryFrame, mkF, argsToLocals, Value.category]; done) | rfl) ?_
  intro p e s m below meth c T0 hx hby hml hown hnm hret hlk hZ X0
  have S_CS := S_CS0.ext O0.2
  have K0 := Keep.refl h0 []
  show Go p.tables e below _ (T0.setTop (mkF m 0 #[.val (.ref a1)] []))
  obtain ⟨T1, h1, b1, X1, g1, E1, A1, D1, st1⟩ := X0.newOF hx hZ hown (tw hw 176 rfl) (tw hw 10 rfl) (tw hw 11 rfl) (g := (mkF m 0 #[.val (.ref a1)] [])) rfl (hb hby d30_0) (k' := 1) (n' := 4) rfl rfl (by decide) (by decide)
  have g_b1 : n0 ≤ b1 := by rw [g1]; exact Z0
  have sz_b1 : h0.size ≤ b1 := by rw [g1]; exact K0.1
  have ne_a1_b1 : a1 ≠ b1 := Nat.ne_of_lt (by rw [g1]; exact E_a1.lt)
  have ne_d_b1 : d ≠ b1 := Nat.ne_of_lt (by rw [g1]; exact V_d.lt)
  have f2_8 := S_CS.ext E1
  have f2_9 := O0.ext E1
  have f2_10 := E_a1.ext E1
  have f2_11 := Fv_a1.ext E1
  have f2_12 := Fc_a1.ext E1
  have f2_13 := Fn_a1.ext E1
  have f2_14 := Avf.ext V_d E1
  have f2_15 := K0.ext E1
  have Zs2 : n0 ≤ h1.size := Nat.le_trans Z0 E1.1
  have F1_coder : Fld Z h1 b1 "java/lang/String" "coder" "B" (.int (0 : Int32)) := D1 (Or.inr (tw hw 35 rfl)) (ty := .byte) (by decide)
  have F1_value : Fld Z h1 b1 "java/lang/String" "value" "[B" .null := D1 (Or.inr (tw hw 37 rfl)) (ty := (.array .byte)) (by decide)
  refine Go.by st1 ?_
  show Go p.tables e below _ (T1.setTop (mkF m 3 #[.val (.ref a1)] [(.ref b1)]))
  refine Go.by (fun _ => XS.dup X1.here hx rfl (hb hby d30_3) rfl rfl) ?_
  show Go p.tables e below _ (T1.setTop (mkF m 4 #[.val (.ref a1)] [(.ref b1), (.ref b1)]))
  refine Go.by (fun _ => XS.aloadN X1.here hx rfl (hb hby d30_4) rfl rfl) ?_
  show Go p.tables e below _ (T1.setTop (mkF m 5 #[.val (.ref a1)] [(.ref a1), (.ref b1), (.ref b1)]))
  obtain ⟨v3, T3, h3, X3, q3, xs3, st3⟩ := X1.callI hx hZ (f0s (List.mem_cons_self ..) f0n) (y := (⟨"java/lang/String", "<init>", "(Ljava/lang/StringBuilder;)V"⟩ : MethodName)) rfl hown (tw hw 177 rfl) (tw hw 178 rfl) (tw hw 11 rfl) (tw hw 179 rfl) (by decide) (rm31 l Z a0 hw [] b1 a1 cs d kd cn g h1 n0 Zs2 f2_9 S_CS0 hcs A1 g_b1 F1_value F1_coder f2_10 f2_11 f2_12 f2_13 f2_14 hcn) (g := (mkF m 5 #[.val (.ref a1)] [(.ref a1), (.ref b1), (.ref b1)])) rfl (by rw [hml]; rfl) (argsL := [(.ref a1)]) (rest := [(.ref b1)]) (lenOf pd24 rfl) rfl (hb hby d30_5) rfl (by decide) (Nat.le_of_ble_eq_true rfl) (k' := 2) (n' := 19) rfl rfl (by decide) (by decide)
  refine Go.by st3 ?_
  obtain ⟨rfl, K3, Ex3, d3, kc3, sd3, Fv3, Fc3, V3⟩ := q3
  have g_d3 : n0 ≤ d3 := Nat.le_trans Zs2 sd3
  have sz_d3 : h0.size ≤ d3 := Nat.le_trans f2_15.1 sd3
  have ne_a1_d3 : a1 ≠ d3 := Nat.ne_of_lt (Nat.lt_of_lt_of_le f2_10.lt sd3)
  have ne_d_d3 : d ≠ d3 := Nat.ne_of_lt (Nat.lt_of_lt_of_le f2_14.lt sd3)
  have ne_b1_d3 : b1 ≠ d3 := Nat.ne_of_lt (Nat.lt_of_lt_of_le A1.lt sd3)
  have f4_33 := Sta.keepN f2_8 K3 (allS A1.plain all0)
  have f4_34 := f2_9.keep K3 (allS g_b1 all0)
  have f4_35 := f2_10.keep K3
  have f4_36 := f2_11.keep K3 (ninS ne_a1_b1 nin0)
  have f4_37 := f2_12.keep K3 (ninS ne_a1_b1 nin0)
  have f4_38 := f2_13.keep K3 (ninS ne_a1_b1 nin0)
  have f4_39 := Avf.keep f2_14 K3 (ninS ne_d_b1 nin0)
  have f4_40 := f2_15.trans K3 (allS (Or.inr sz_b1) all0)
  have f4_41 := A1.keep K3
  have Zs4 : n0 ≤ h3.size := Nat.le_trans Zs2 K3.1
  show Go p.tables e below _ (T3.setTop (mkF m 8 #[.val (.ref a1)] [(.ref b1)]))
  exact Go.retA X3 hx hlk hret rfl rfl (hb hby d30_8) (by decide) (by decide) (fun _ z => z.elim) ⟨b1, d3, kc3, rfl, sz_b1, sz_d3, f4_40, Ex3, Fv3, Fc3, V3⟩
theorem d21_0 : decode prog_10_method_3_code 0 = .ok (.new 33, 3) := by decide +kernel
theorem d21_3 : decode prog_10_method_3_code 3 = .ok (.dup, 1) := by decide +kernel
theorem d21_4 : decode prog_10_method_3_code 4 = .ok (.invokespecial 35, 3) := by decide +kernel
theorem d21_7 : decode prog_10_method_3_code 7 = .ok (.aload_n 0, 1) := by decide +kernel
theorem d21_8 : decode prog_10_method_3_code 8 = .ok (.getfield 48, 3) := by decide +kernel
theorem d21_11 : decode prog_10_method_3_code 11 = .ok (.invokevirtual 38, 3) := by decide +kernel
theorem pd25 : parseMethodDescriptor "(Ljava/lang/String;)Ljava/lang/StringBuilder;" = some ⟨[(.object "java/lang/String")], some (.object "java/lang/StringBuilder")⟩ := by decide +kernel
theorem d21_14 : decode prog_10_method_3_code 14 = .ok (.ldc 61, 2) := by decide +kernel
theorem d21_16 : decode prog_10_method_3_code 16 = .ok (.invokevirtual 38, 3) := by decide +kernel
theorem d21_19 : decode prog_10_method_3_code 19 = .ok (.aload_n 0, 1) := by decide +kernel
theorem d21_20 : decode prog_10_method_3_code 20 = .ok (.getfield 53, 3) := by decide +kernel
theorem d21_23 : decode prog_10_method_3_code 23 = .ok (.invokevirtual 38, 3) := by decide +kernel
theorem d21_26 : decode prog_10_method_3_code 26 = .ok (.invokevirtual 44, 3) := by decide +kernel
theorem pd26 : parseMethodDescriptor "()Ljava/lang/String;" = some ⟨[], some (.object "java/lang/String")⟩ := by decide +kernel
theorem d21_29 : decode prog_10_method_3_code 29 = .ok (.areturn, 1) := by decide +kernel
abbrev Rm21 : Room := { frames := 6, cells := 6, slots := 47, locals := 91 }
set_option maxRecDepth 65536 in
set_option maxHeartbeats 40000000 in
theorem rm21 (l : Launch) (Z : State) (a0 : Array Value) (hw : ∀ d ∈ tables_1, d.before a0 Z = true) (ws : List Jvm.Cond) (a1 : Addr) (cs : Int32) (a2 a3 u1 u3 : Addr) (k1 k3 : ClassId) (N1 N3 : Nat) (w1 w3 : Nat → Int32) (h0 : Heap) (n0 : Nat) (Z0 : n0 ≤ h0.size) (O0 : Old Z n0 h0) (S_CS0 : Sta Z Z.heap "java/lang/String" "COMPACT_STRINGS" "Z" (.int cs)) (hcs : ¬ cs = 0) (E_a1 : Exa Z h0 a1 "com/example/istorie/istorie/EntityId") (Ft : Fld Z h0 a1 "com/example/istorie/istorie/EntityId" "typeName" "Ljava/lang/String;" (.ref a2)) (Fi : Fld Z h0 a1 "com/example/istorie/istorie/EntityId" "identifier" "Ljava/lang/String;" (.ref a3)) (E_a2 : Exa Z h0 a2 "java/lang/String") (Fv_a2 : Fld Z h0 a2 "java/lang/String" "value" "[B" (.ref u1)) (Fc_a2 : Fld Z h0 a2 "java/lang/String" "coder" "B" (.int (0 : Int32))) (V_u1 : Avf Z h0 u1 k1 .byte N1 (fun i => (.int (w1 i)))) (E_a3 : Exa Z h0 a3 "java/lang/String") (Fv_a3 : Fld Z h0 a3 "java/lang/String" "value" "[B" (.ref u3)) (Fc_a3 : Fld Z h0 a3 "java/lang/String" "coder" "B" (.int (0 : Int32))) (V_u3 : Avf Z h0 u3 k3 .byte N3 (fun i => (.int (w3 i)))) (hN : N1 ≤ 3 ∧ N3 ≤ 3) :
    Met l Z EL [] (fun _ _ _ => False) n0 (⟨"com/example/istorie/istorie/EntityId", "value", "()Ljava/lang/String;"⟩ : MethodName) prog_10_method_3_code 1 (some (.object "java/lang/String")) ws Rm21 #[(.ref a1)] h0 (fun v h => ∃ r b kc, v = some (.ref r) ∧ h0.size ≤ r ∧ h0.size ≤ b ∧ Keep h0 h [] ∧ Exa Z h r "java/lang/String" ∧ Fld Z h r "java/lang/String" "value" "[B" (.ref b) ∧ Fld Z h r "java/lang/String" "coder" "B" (.int (0 : Int32)) ∧ Avf Z h b kc .byte (0 + N1 + 1 + N3) (fun i => (.int ((apg (0 + N1 + 1) N3 w3 (apg (0 + N1) 1 (fun _ => (47 : Int32)) (apg 0 N1 w1 (fun _ => (0 : Int32))))) i)))) := by
  refine enter (Ls := #[.val (.ref a1)]) (plainFor_of_name pn6) (fun m => by first | (simp [entryFrame, mkF, argsToLocals, Value.category]; done) | rfl) ?_
  intro p e s m below meth c T0 hx hby hml hown hnm hret hlk hZ X0
  have S_CS := S_CS0.ext O0.2
  have K0 := Keep.refl h0 []
  show Go p.tables e below _ (T0.setTop (mkF m 0 #[.val (.ref a1)] []))
  obtain ⟨T1, h1, b1, X1, g1, E1, A1, D1, st1⟩ := X0.newO hx hZ hown (tw hw 114 rfl) (tw hw 115 rfl) (tw hw 116 rfl) (g := (mkF m 0 #[.val (.ref a1)] [])) rfl (hb hby d21_0) (k' := 1) (n' := 4) rfl rfl (by decide) (by decide)
  have g_b1 : n0 ≤ b1 := by rw [g1]; exact Z0
  have sz_b1 : h0.size ≤ b1 := by rw [g1]; exact K0.1
  have ne_a2_b1 : a2 ≠ b1 := Nat.ne_of_lt (by rw [g1]; exact E_a2.lt)
  have ne_u1_b1 : u1 ≠ b1 := Nat.ne_of_lt (by rw [g1]; exact V_u1.lt)
  have ne_a3_b1 : a3 ≠ b1 := Nat.ne_of_lt (by rw [g1]; exact E_a3.lt)
  have ne_u3_b1 : u3 ≠ b1 := Nat.ne_of_lt (by rw [g1]; exact V_u3.lt)
  have ne_a1_b1 : a1 ≠ b1 := Nat.ne_of_lt (by rw [g1]; exact E_a1.lt)
  have f2_11 := S_CS.ext E1
  have f2_12 := O0.ext E1
  have f2_13 := E_a2.ext E1
  have f2_14 := Fv_a2.ext E1
  have f2_15 := Fc_a2.ext E1
  have f2_16 := Avf.ext V_u1 E1
  have f2_17 := E_a3.ext E1
  have f2_18 := Fv_a3.ext E1
  have f2_19 := Fc_a3.ext E1
  have f2_20 := Avf.ext V_u3 E1
  have f2_21 := E_a1.ext E1
  have f2_22 := Ft.ext E1
  have f2_23 := Fi.ext E1
  have f2_24 := K0.ext E1
  have Zs2 : n0 ≤ h1.size := Nat.le_trans Z0 E1.1
  have F1_value : Fld Z h1 b1 "java/lang/AbstractStringBuilder" "value" "[B" .null := D1 (Or.inl (tw hw 129 rfl)) (ty := (.array .byte)) (by decide)
  have F1_coder : Fld Z h1 b1 "java/lang/AbstractStringBuilder" "coder" "B" (.int (0 : Int32)) := D1 (Or.inl (tw hw 131 rfl)) (ty := .byte) (by decide)
  have F1_count : Fld Z h1 b1 "java/lang/AbstractStringBuilder" "count" "I" (.int (0 : Int32)) := D1 (Or.inl (tw hw 144 rfl)) (ty := .int) (by decide)
  refine Go.by st1 ?_
  show Go p.tables e below _ (T1.setTop (mkF m 3 #[.val (.ref a1)] [(.ref b1)]))
  refine Go.by (fun _ => XS.dup X1.here hx rfl (hb hby d21_3) rfl rfl) ?_
  show Go p.tables e below _ (T1.setTop (mkF m 4 #[.val (.ref a1)] [(.ref b1), (.ref b1)]))
  obtain ⟨v3, T3, h3, X3, q3, xs3, st3⟩ := X1.callI hx hZ f0n (y := (⟨"java/lang/StringBuilder", "<init>", "()V"⟩ : MethodName)) rfl hown (tw hw 117 rfl) (tw hw 118 rfl) (tw hw 116 rfl) (tw hw 119 rfl) (by decide) (rm22 l Z a0 hw [] b1 cs h1 n0 Zs2 f2_12 S_CS0 hcs A1 g_b1 F1_value F1_coder F1_count) (g := (mkF m 4 #[.val (.ref a1)] [(.ref b1), (.ref b1)])) rfl (by rw [hml]; rfl) (argsL := []) (rest := [(.ref b1)]) (lenOf pd12 rfl) rfl (hb hby d21_4) rfl (by decide) (Nat.le_of_ble_eq_true rfl) (k' := 2) (n' := 20) rfl rfl (by decide) (by decide)
  refine Go.by st3 ?_
  obtain ⟨rfl, K3, Ex3, d3, kc3, sd3, Fv3, Fc3, Fn3, V3⟩ := q3
  have g_d3 : n0 ≤ d3 := Nat.le_trans Zs2 sd3
  have sz_d3 : h0.size ≤ d3 := Nat.le_trans f2_24.1 sd3
  have ne_a2_d3 : a2 ≠ d3 := Nat.ne_of_lt (Nat.lt_of_lt_of_le f2_13.lt sd3)
  have ne_u1_d3 : u1 ≠ d3 := Nat.ne_of_lt (Nat.lt_of_lt_of_le f2_16.lt sd3)
  have ne_a3_d3 : a3 ≠ d3 := Nat.ne_of_lt (Nat.lt_of_lt_of_le f2_17.lt sd3)
  have ne_u3_d3 : u3 ≠ d3 := Nat.ne_of_lt (Nat.lt_of_lt_of_le f2_20.lt sd3)
  have ne_a1_d3 : a1 ≠ d3 := Nat.ne_of_lt (Nat.lt_of_lt_of_le f2_21.lt sd3)
  have ne_b1_d3 : b1 ≠ d3 := Nat.ne_of_lt (Nat.lt_of_lt_of_le A1.lt sd3)
  have f4_44 := Sta.keepN f2_11 K3 (allS A1.plain all0)
  have f4_45 := f2_12.keep K3 (allS g_b1 all0)
  have f4_46 := f2_13.keep K3
  have f4_47 := f2_14.keep K3 (ninS ne_a2_b1 nin0)
  have f4_48 := f2_15.keep K3 (ninS ne_a2_b1 nin0)
  have f4_49 := Avf.keep f2_16 K3 (ninS ne_u1_b1 nin0)
  have f4_50 := f2_17.keep K3
  have f4_51 := f2_18.keep K3 (ninS ne_a3_b1 nin0)
  have f4_52 := f2_19.keep K3 (ninS ne_a3_b1 nin0)
  have f4_53 := Avf.keep f2_20 K3 (ninS ne_u3_b1 nin0)
  have f4_54 := f2_21.keep K3
  have f4_55 := f2_22.keep K3 (ninS ne_a1_b1 nin0)
  have f4_56 := f2_23.keep K3 (ninS ne_a1_b1 nin0)
  have f4_57 := f2_24.trans K3 (allS (Or.inr sz_b1) all0)
  have f4_58 := A1.keep K3
  have Zs4 : n0 ≤ h3.size := Nat.le_trans Zs2 K3.1
  have Y3 := xs3 [d3] (fun x hx => by
    rcases List.mem_cons.mp hx with rfl | hx
    · exact Or.inr Fv3
    · exact Or.inl hx)
  show Go p.tables e below _ (T3.setTop (mkF m 7 #[.val (.ref a1)] [(.ref b1)]))
  refine Go.by (fun _ => XS.aloadN Y3.here hx rfl (hb hby d21_7) rfl rfl) ?_
  show Go p.tables e below _ (T3.setTop (mkF m 8 #[.val (.ref a1)] [(.ref a1), (.ref b1)]))
  obtain ⟨T5, X5, st5⟩ := Y3.getF hx hZ hown (host := "") (Or.inl (tw hw 105 rfl)) Via.refl f4_55 (g := (mkF m 8 #[.val (.ref a1)] [(.ref a1), (.ref b1)])) rfl rfl (hb hby d21_8)
  refine Go.by st5 ?_
  show Go p.tables e below _ (T5.setTop (mkF m 11 #[.val (.ref a1)] [(.ref a2), (.ref b1)]))
  obtain ⟨v6, T6, h6, X6, q6, xs6, st6⟩ := X5.callV hx hZ (f0s (List.mem_cons_self ..) f0n) (y := (⟨"java/lang/StringBuilder", "append", "(Ljava/lang/String;)Ljava/lang/StringBuilder;"⟩ : MethodName)) (z := (⟨"java/lang/StringBuilder", "append", "(Ljava/lang/String;)Ljava/lang/StringBuilder;"⟩ : MethodName)) hown (tw hw 132 rfl) (tw hw 133 rfl) (fun _ hZ => notFace_of_selects (args := #[]) (mvT hZ (tw hw 135 rfl))) (tw hw 135 rfl) (tw hw 134 rfl) (tw hw 116 rfl) (tw hw 136 rfl) (by decide) (rm24 l Z a0 hw [] b1 a2 cs d3 kc3 0 (fun _ => (0 : Int32)) u1 k1 N1 w1 h3 n0 Zs4 f4_45 S_CS0 hcs Ex3 Fv3 Fc3 Fn3 V3 f4_46 f4_47 f4_48 f4_49 g_d3 ne_u1_d3 (by omega) g_b1) Ex3 (g := (mkF m 11 #[.val (.ref a1)] [(.ref a2), (.ref b1)])) rfl (by rw [hml]; rfl) (argsL := [(.ref a2)]) (rest := []) (lenOf pd25 rfl) rfl (hb hby d21_11) rfl (by decide) (Nat.le_of_ble_eq_true rfl) (k' := 2) (n' := 20) rfl rfl (by decide) (by decide)
  refine Go.by st6 ?_
  obtain ⟨rfl, K6, Ex6, Fv6, Fc6, Fn6, V6⟩ := q6
  have f7_73 := Sta.keepN f4_44 K6 (allS Ex3.plain (allS V3.plain all0))
  have f7_74 := f4_45.keep K6 (allS g_b1 (allS g_d3 all0))
  have f7_75 := f4_46.keep K6
  have f7_76 := f4_47.keep K6 (ninS ne_a2_b1 (ninS ne_a2_d3 nin0))
  have f7_77 := f4_48.keep K6 (ninS ne_a2_b1 (ninS ne_a2_d3 nin0))
  have f7_78 := Avf.keep f4_49 K6 (ninS ne_u1_b1 (ninS ne_u1_d3 nin0))
  have f7_79 := f4_50.keep K6
  have f7_80 := f4_51.keep K6 (ninS ne_a3_b1 (ninS ne_a3_d3 nin0))
  have f7_81 := f4_52.keep K6 (ninS ne_a3_b1 (ninS ne_a3_d3 nin0))
  have f7_82 := Avf.keep f4_53 K6 (ninS ne_u3_b1 (ninS ne_u3_d3 nin0))
  have f7_83 := f4_54.keep K6
  have f7_84 := f4_55.keep K6 (ninS ne_a1_b1 (ninS ne_a1_d3 nin0))
  have f7_85 := f4_56.keep K6 (ninS ne_a1_b1 (ninS ne_a1_d3 nin0))
  have f7_86 := f4_57.trans K6 (allS (Or.inr sz_b1) (allS (Or.inr sz_d3) all0))
  have f7_87 := Ex3.keep K6
  have Zs7 : n0 ≤ h6.size := Nat.le_trans Zs4 K6.1
  show Go p.tables e below _ (T6.setTop (mkF m 14 #[.val (.ref a1)] [(.ref b1)]))
  obtain ⟨T8, h8, s8, t8, kc8, X8, E8, A8, Fc8, Fv8, V8, ns8, st8⟩ := X6.ldcR hx hown (tw hw 170 rfl) (atoms_S hw) (List.mem_of_getElem? (i := 2) rfl) (vs := [(.int 47)]) (z := 1) (sz := 1) (by decide) (by decide) (by decide) (by decide) (g := (mkF m 14 #[.val (.ref a1)] [(.ref b1)])) rfl (hb hby d21_14) (nn := 4) (k' := 4) (n' := 28) (by decide) (by decide) rfl rfl (by decide) (by decide)
  have f9_91 := f7_73.ext E8
  have f9_92 := f7_74.ext E8
  have f9_93 := f7_75.ext E8
  have f9_94 := f7_76.ext E8
  have f9_95 := f7_77.ext E8
  have f9_96 := Avf.ext f7_78 E8
  have f9_97 := f7_79.ext E8
  have f9_98 := f7_80.ext E8
  have f9_99 := f7_81.ext E8
  have f9_100 := Avf.ext f7_82 E8
  have f9_101 := f7_83.ext E8
  have f9_102 := f7_84.ext E8
  have f9_103 := f7_85.ext E8
  have f9_104 := f7_86.ext E8
  have f9_105 := Ex6.ext E8
  have f9_106 := Fv6.ext E8
  have f9_107 := Fc6.ext E8
  have f9_108 := Fn6.ext E8
  have f9_109 := Avf.ext V6 E8
  have Zs9 : n0 ≤ h8.size := Nat.le_trans Zs7 E8.1
  have ne_s8_a1 : s8 ≠ a1 := Exa.ne A8 f9_101 (by decide)
  have ne_s8_b1 : s8 ≠ b1 := Exa.ne A8 f9_105 (by decide)
  have ne_t8_a2 : t8 ≠ a2 := exa_nev f9_93 (tw hw 10 rfl) V8
  have ne_t8_a3 : t8 ≠ a3 := exa_nev f9_97 (tw hw 10 rfl) V8
  have ne_t8_a1 : t8 ≠ a1 := exa_nev f9_101 (tw hw 7 rfl) V8
  have ne_t8_b1 : t8 ≠ b1 := exa_nev f9_105 (tw hw 115 rfl) V8
  have ne_t8_s8 : t8 ≠ s8 := exa_nev A8 (tw hw 10 rfl) V8
  refine Go.by st8 ?_
  show Go p.tables e below _ (T8.setTop (mkF m 16 #[.val (.ref a1)] [(.ref s8), (.ref b1)]))
  have Vs10 := Avf.cong V8 (g := (fun i => (.int ((fun _ => (47 : Int32)) i)))) (fun i hi => by match i, hi with | 0, _ => rfl)
  obtain ⟨v11, T11, h11, X11, q11, xs11, st11⟩ := X8.callV hx hZ (f0s (List.mem_cons_self ..) f0n) (y := (⟨"java/lang/StringBuilder", "append", "(Ljava/lang/String;)Ljava/lang/StringBuilder;"⟩ : MethodName)) (z := (⟨"java/lang/StringBuilder", "append", "(Ljava/lang/String;)Ljava/lang/StringBuilder;"⟩ : MethodName)) hown (tw hw 132 rfl) (tw hw 133 rfl) (fun _ hZ => notFace_of_selects (args := #[]) (mvT hZ (tw hw 135 rfl))) (tw hw 135 rfl) (tw hw 134 rfl) (tw hw 116 rfl) (tw hw 136 rfl) (by decide) (rm24 l Z a0 hw [] b1 s8 cs d3 kc3 (0 + N1) (apg 0 N1 w1 (fun _ => (0 : Int32))) t8 kc8 1 (fun _ => (47 : Int32)) h8 n0 Zs9 f9_92 S_CS0 hcs f9_105 f9_106 f9_107 f9_108 f9_109 A8 Fv8 Fc8 Vs10 g_d3 (ns8 _ (List.mem_cons_self ..)).2 (by omega) g_b1) f9_105 (g := (mkF m 16 #[.val (.ref a1)] [(.ref s8), (.ref b1)])) rfl (by rw [hml]; rfl) (argsL := [(.ref s8)]) (rest := []) (lenOf pd25 rfl) rfl (hb hby d21_16) rfl (by decide) (Nat.le_of_ble_eq_true rfl) (k' := 4) (n' := 28) rfl rfl (by decide) (by decide)
  refine Go.by st11 ?_
  obtain ⟨rfl, K11, Ex11, Fv11, Fc11, Fn11, V11⟩ := q11
  have f12_124 := Sta.keepN f9_91 K11 (allS f9_105.plain (allS f9_109.plain all0))
  have f12_125 := f9_92.keep K11 (allS g_b1 (allS g_d3 all0))
  have f12_126 := f9_93.keep K11
  have f12_127 := f9_94.keep K11 (ninS ne_a2_b1 (ninS ne_a2_d3 nin0))
  have f12_128 := f9_95.keep K11 (ninS ne_a2_b1 (ninS ne_a2_d3 nin0))
  have f12_129 := Avf.keep f9_96 K11 (ninS ne_u1_b1 (ninS ne_u1_d3 nin0))
  have f12_130 := f9_97.keep K11
  have f12_131 := f9_98.keep K11 (ninS ne_a3_b1 (ninS ne_a3_d3 nin0))
  have f12_132 := f9_99.keep K11 (ninS ne_a3_b1 (ninS ne_a3_d3 nin0))
  have f12_133 := Avf.keep f9_100 K11 (ninS ne_u3_b1 (ninS ne_u3_d3 nin0))
  have f12_134 := f9_101.keep K11
  have f12_135 := f9_102.keep K11 (ninS ne_a1_b1 (ninS ne_a1_d3 nin0))
  have f12_136 := f9_103.keep K11 (ninS ne_a1_b1 (ninS ne_a1_d3 nin0))
  have f12_137 := f9_104.trans K11 (allS (Or.inr sz_b1) (allS (Or.inr sz_d3) all0))
  have f12_138 := f9_105.keep K11
  have f12_139 := A8.keep K11
  have f12_140 := Fc8.keep K11 (ninS ne_s8_b1 (ninS (ns8 _ (List.mem_cons_self ..)).1 nin0))
  have f12_141 := Fv8.keep K11 (ninS ne_s8_b1 (ninS (ns8 _ (List.mem_cons_self ..)).1 nin0))
  have f12_142 := Avf.keep Vs10 K11 (ninS ne_t8_b1 (ninS (ns8 _ (List.mem_cons_self ..)).2 nin0))
  have Zs12 : n0 ≤ h11.size := Nat.le_trans Zs9 K11.1
  show Go p.tables e below _ (T11.setTop (mkF m 19 #[.val (.ref a1)] [(.ref b1)]))
  refine Go.by (fun _ => XS.aloadN X11.here hx rfl (hb hby d21_19) rfl rfl) ?_
  show Go p.tables e below _ (T11.setTop (mkF m 20 #[.val (.ref a1)] [(.ref a1), (.ref b1)]))
  obtain ⟨T13, X13, st13⟩ := X11.getF hx hZ hown (host := "") (Or.inl (tw hw 107 rfl)) Via.refl f12_136 (g := (mkF m 20 #[.val (.ref a1)] [(.ref a1), (.ref b1)])) rfl rfl (hb hby d21_20)
  refine Go.by st13 ?_
  show Go p.tables e below _ (T13.setTop (mkF m 23 #[.val (.ref a1)] [(.ref a3), (.ref b1)]))
  obtain ⟨v14, T14, h14, X14, q14, xs14, st14⟩ := X13.callV hx hZ (f0s (List.mem_cons_self ..) f0n) (y := (⟨"java/lang/StringBuilder", "append", "(Ljava/lang/String;)Ljava/lang/StringBuilder;"⟩ : MethodName)) (z := (⟨"java/lang/StringBuilder", "append", "(Ljava/lang/String;)Ljava/lang/StringBuilder;"⟩ : MethodName)) hown (tw hw 132 rfl) (tw hw 133 rfl) (fun _ hZ => notFace_of_selects (args := #[]) (mvT hZ (tw hw 135 rfl))) (tw hw 135 rfl) (tw hw 134 rfl) (tw hw 116 rfl) (tw hw 136 rfl) (by decide) (rm24 l Z a0 hw [] b1 a3 cs d3 kc3 ((0 + N1) + 1) (apg (0 + N1) 1 (fun _ => (47 : Int32)) (apg 0 N1 w1 (fun _ => (0 : Int32)))) u3 k3 N3 w3 h11 n0 Zs12 f12_125 S_CS0 hcs Ex11 Fv11 Fc11 Fn11 V11 f12_130 f12_131 f12_132 f12_133 g_d3 ne_u3_d3 (by omega) g_b1) Ex11 (g := (mkF m 23 #[.val (.ref a1)] [(.ref a3), (.ref b1)])) rfl (by rw [hml]; rfl) (argsL := [(.ref a3)]) (rest := []) (lenOf pd25 rfl) rfl (hb hby d21_23) rfl (by decide) (Nat.le_of_ble_eq_true rfl) (k' := 4) (n' := 28) rfl rfl (by decide) (by decide)
  refine Go.by st14 ?_
  obtain ⟨rfl, K14, Ex14, Fv14, Fc14, Fn14, V14⟩ := q14
  have f15_153 := Sta.keepN f12_124 K14 (allS Ex11.plain (allS V11.plain all0))
  have f15_154 := f12_125.keep K14 (allS g_b1 (allS g_d3 all0))
  have f15_155 := f12_126.keep K14
  have f15_156 := f12_127.keep K14 (ninS ne_a2_b1 (ninS ne_a2_d3 nin0))
  have f15_157 := f12_128.keep K14 (ninS ne_a2_b1 (ninS ne_a2_d3 nin0))
  have f15_158 := Avf.keep f12_129 K14 (ninS ne_u1_b1 (ninS ne_u1_d3 nin0))
  have f15_159 := f12_130.keep K14
  have f15_160 := f12_131.keep K14 (ninS ne_a3_b1 (ninS ne_a3_d3 nin0))
  have f15_161 := f12_132.keep K14 (ninS ne_a3_b1 (ninS ne_a3_d3 nin0))
  have f15_162 := Avf.keep f12_133 K14 (ninS ne_u3_b1 (ninS ne_u3_d3 nin0))
  have f15_163 := f12_134.keep K14
  have f15_164 := f12_135.keep K14 (ninS ne_a1_b1 (ninS ne_a1_d3 nin0))
  have f15_165 := f12_136.keep K14 (ninS ne_a1_b1 (ninS ne_a1_d3 nin0))
  have f15_166 := f12_137.trans K14 (allS (Or.inr sz_b1) (allS (Or.inr sz_d3) all0))
  have f15_167 := Ex11.keep K14
  have f15_168 := f12_139.keep K14
  have f15_169 := f12_140.keep K14 (ninS ne_s8_b1 (ninS (ns8 _ (List.mem_cons_self ..)).1 nin0))
  have f15_170 := f12_141.keep K14 (ninS ne_s8_b1 (ninS (ns8 _ (List.mem_cons_self ..)).1 nin0))
  have f15_171 := Avf.keep f12_142 K14 (ninS ne_t8_b1 (ninS (ns8 _ (List.mem_cons_self ..)).2 nin0))
  have Zs15 : n0 ≤ h14.size := Nat.le_trans Zs12 K14.1
  show Go p.tables e below _ (T14.setTop (mkF m 26 #[.val (.ref a1)] [(.ref b1)]))
  obtain ⟨v16, T16, h16, X16, q16, xs16, st16⟩ := X14.callV hx hZ f0n (y := (⟨"java/lang/StringBuilder", "toString", "()Ljava/lang/String;"⟩ : MethodName)) (z := (⟨"java/lang/StringBuilder", "toString", "()Ljava/lang/String;"⟩ : MethodName)) hown (tw hw 171 rfl) (tw hw 172 rfl) (fun _ hZ => notFace_of_selects (args := #[]) (mvT hZ (tw hw 174 rfl))) (tw hw 174 rfl) (tw hw 173 rfl) (tw hw 116 rfl) (tw hw 175 rfl) (by decide) (rm30 l Z a0 hw [] b1 cs d3 kc3 (((0 + N1) + 1) + N3) (apg ((0 + N1) + 1) N3 w3 (apg (0 + N1) 1 (fun _ => (47 : Int32)) (apg 0 N1 w1 (fun _ => (0 : Int32))))) h14 n0 Zs15 f15_154 S_CS0 hcs Ex14 Fv14 Fc14 Fn14 V14 (by omega)) Ex14 (g := (mkF m 26 #[.val (.ref a1)] [(.ref b1)])) rfl (by rw [hml]; rfl) (argsL := []) (rest := []) (lenOf pd26 rfl) rfl (hb hby d21_26) rfl (by decide) (Nat.le_of_ble_eq_true rfl) (k' := 6) (n' := 47) rfl rfl (by decide) (by decide)
  refine Go.by st16 ?_
  obtain ⟨r16, d16, kc16, rfl, sr16, sd16, K16, Ex16, Fv16, Fc16, V16⟩ := q16
  have g_r16 : n0 ≤ r16 := Nat.le_trans Zs15 sr16
  have sz_r16 : h0.size ≤ r16 := Nat.le_trans f15_166.1 sr16
  have ne_a2_r16 : a2 ≠ r16 := Nat.ne_of_lt (Nat.lt_of_lt_of_le f15_155.lt sr16)
  have ne_u1_r16 : u1 ≠ r16 := Nat.ne_of_lt (Nat.lt_of_lt_of_le f15_158.lt sr16)
  have ne_a3_r16 : a3 ≠ r16 := Nat.ne_of_lt (Nat.lt_of_lt_of_le f15_159.lt sr16)
  have ne_u3_r16 : u3 ≠ r16 := Nat.ne_of_lt (Nat.lt_of_lt_of_le f15_162.lt sr16)
  have ne_a1_r16 : a1 ≠ r16 := Nat.ne_of_lt (Nat.lt_of_lt_of_le f15_163.lt sr16)
  have ne_b1_r16 : b1 ≠ r16 := Nat.ne_of_lt (Nat.lt_of_lt_of_le Ex14.lt sr16)
  have ne_s8_r16 : s8 ≠ r16 := Nat.ne_of_lt (Nat.lt_of_lt_of_le f15_168.lt sr16)
  have ne_t8_r16 : t8 ≠ r16 := Nat.ne_of_lt (Nat.lt_of_lt_of_le f15_171.lt sr16)
  have ne_d3_r16 : d3 ≠ r16 := Nat.ne_of_lt (Nat.lt_of_lt_of_le V14.lt sr16)
  have g_d16 : n0 ≤ d16 := Nat.le_trans Zs15 sd16
  have sz_d16 : h0.size ≤ d16 := Nat.le_trans f15_166.1 sd16
  have ne_a2_d16 : a2 ≠ d16 := Nat.ne_of_lt (Nat.lt_of_lt_of_le f15_155.lt sd16)
  have ne_u1_d16 : u1 ≠ d16 := Nat.ne_of_lt (Nat.lt_of_lt_of_le f15_158.lt sd16)
  have ne_a3_d16 : a3 ≠ d16 := Nat.ne_of_lt (Nat.lt_of_lt_of_le f15_159.lt sd16)
  have ne_u3_d16 : u3 ≠ d16 := Nat.ne_of_lt (Nat.lt_of_lt_of_le f15_162.lt sd16)
  have ne_a1_d16 : a1 ≠ d16 := Nat.ne_of_lt (Nat.lt_of_lt_of_le f15_163.lt sd16)
  have ne_b1_d16 : b1 ≠ d16 := Nat.ne_of_lt (Nat.lt_of_lt_of_le Ex14.lt sd16)
  have ne_s8_d16 : s8 ≠ d16 := Nat.ne_of_lt (Nat.lt_of_lt_of_le f15_168.lt sd16)
  have ne_t8_d16 : t8 ≠ d16 := Nat.ne_of_lt (Nat.lt_of_lt_of_le f15_171.lt sd16)
  have ne_d3_d16 : d3 ≠ d16 := Nat.ne_of_lt (Nat.lt_of_lt_of_le V14.lt sd16)
  have f17_199 := f15_153.ext (keep_ext K16)
  have f17_200 := f15_154.ext (keep_ext K16)
  have f17_201 := f15_155.ext (keep_ext K16)
  have f17_202 := f15_156.ext (keep_ext K16)
  have f17_203 := f15_157.ext (keep_ext K16)
  have f17_204 := Avf.ext f15_158 (keep_ext K16)
  have f17_205 := f15_159.ext (keep_ext K16)
  have f17_206 := f15_160.ext (keep_ext K16)
  have f17_207 := f15_161.ext (keep_ext K16)
  have f17_208 := Avf.ext f15_162 (keep_ext K16)
  have f17_209 := f15_163.ext (keep_ext K16)
  have f17_210 := f15_164.ext (keep_ext K16)
  have f17_211 := f15_165.ext (keep_ext K16)
  have f17_212 := f15_166.ext (keep_ext K16)
  have f17_213 := Ex14.ext (keep_ext K16)
  have f17_214 := f15_168.ext (keep_ext K16)
  have f17_215 := f15_169.ext (keep_ext K16)
  have f17_216 := f15_170.ext (keep_ext K16)
  have f17_217 := Avf.ext f15_171 (keep_ext K16)
  have f17_218 := Fv14.ext (keep_ext K16)
  have f17_219 := Fc14.ext (keep_ext K16)
  have f17_220 := Fn14.ext (keep_ext K16)
  have f17_221 := Avf.ext V14 (keep_ext K16)
  have Zs17 : n0 ≤ h16.size := Nat.le_trans Zs15 (keep_ext K16).1
  show Go p.tables e below _ (T16.setTop (mkF m 29 #[.val (.ref a1)] [(.ref r16)]))
  exact Go.retA X16 hx hlk hret rfl rfl (hb hby d21_29) (by decide) (by decide) (fun _ z => z.elim) ⟨r16, d16, kc16, rfl, sz_r16, sz_d16, f17_212, Ex16, Fv16, Fc16, V16⟩
theorem d1_0 : decode method_3_code 0 = .ok (.iload_n 0, 1) := by decide +kernel
theorem d1_1 : decode method_3_code 1 = .ok (.bipush 32, 2) := by decide +kernel
theorem d1_3 : decode method_3_code 3 = .ok (.if_icmp .eq 27, 3) := by decide +kernel
theorem d1_30 : decode method_3_code 30 = .ok (.iconst 1, 1) := by decide +kernel
theorem d1_31 : decode method_3_code 31 = .ok (.goto 4, 3) := by decide +kernel
theorem d1_35 : decode method_3_code 35 = .ok (.ireturn, 1) := by decide +kernel
theorem d1_6 : decode method_3_code 6 = .ok (.iload_n 0, 1) := by decide +kernel
theorem d1_7 : decode method_3_code 7 = .ok (.bipush 9, 2) := by decide +kernel
theorem d1_9 : decode method_3_code 9 = .ok (.if_icmp .lt 9, 3) := by decide +kernel
theorem d1_18 : decode method_3_code 18 = .ok (.iload_n 0, 1) := by decide +kernel
theorem d1_19 : decode method_3_code 19 = .ok (.bipush 28, 2) := by decide +kernel
theorem d1_21 : decode method_3_code 21 = .ok (.if_icmp .lt 13, 3) := by decide +kernel
theorem d1_34 : decode method_3_code 34 = .ok (.iconst 0, 1) := by decide +kernel
theorem d1_24 : decode method_3_code 24 = .ok (.iload_n 0, 1) := by decide +kernel
theorem d1_25 : decode method_3_code 25 = .ok (.bipush 31, 2) := by decide +kernel
theorem d1_27 : decode method_3_code 27 = .ok (.if_icmp .gt 7, 3) := by decide +kernel
theorem d1_12 : decode method_3_code 12 = .ok (.iload_n 0, 1) := by decide +kernel
theorem d1_13 : decode method_3_code 13 = .ok (.bipush 13, 2) := by decide +kernel
theorem d1_15 : decode method_3_code 15 = .ok (.if_icmp .le 15, 3) := by decide +kernel
abbrev Rm1 : Room := { frames := 0, cells := 0, slots := 0, locals := 0 }
theorem pn10 : plainName "com/example/istorie/istorie/EntityIdValuePinLaw" = true := by first | (simp [plainName, overriddenIn]; done) | decide +kernel
set_option maxRecDepth 65536 in
set_option maxHeartbeats 40000000 in
theorem rm1 (l : Launch) (Z : State) (a0 : Array Value) (hw : ∀ d ∈ tables_1, d.before a0 Z = true) (ws : List Jvm.Cond) (p1 : Int32) (h0 : Heap) (n0 : Nat) (Z0 : n0 ≤ h0.size) :
    Met l Z EL [] (fun _ _ _ => False) n0 (⟨"com/example/istorie/istorie/EntityIdValuePinLaw", "ws", "(C)Z"⟩ : MethodName) method_3_code 1 (some .boolean) ws Rm1 #[(.int p1)] h0 (fun v h => ((wsI p1 ∧ v = some (.int 1)) ∨ (¬ wsI p1 ∧ v = some (.int 0))) ∧ h0 = h) := by
  refine enter (Ls := #[.val (.int p1)]) (plainFor_of_name pn10) (fun m => by first | (simp [entryFrame, mkF, argsToLocals, Value.category]; done) | rfl) ?_
  intro p e s m below meth c T0 hx hby hml hown hnm hret hlk hZ X0
  show Go p.tables e below _ (T0.setTop (mkF m 0 #[.val (.int p1)] []))
  refine Go.by (fun _ => XS.iloadN X0.here hx rfl (hb hby d1_0) rfl) ?_
  show Go p.tables e below _ (T0.setTop (mkF m 1 #[.val (.int p1)] [(.int p1)]))
  refine Go.by (fun _ => XS.bipush X0.here hx rfl (hb hby d1_1)) ?_
  show Go p.tables e below _ (T0.setTop (mkF m 3 #[.val (.int p1)] [(.int (32 : Int32)), (.int p1)]))
  by_cases hc3_1 : p1 = (32 : Int32)
  · skip
    refine Go.by (fun _ => XS.icmpYes X0.here hx rfl (pc0 := 3) (pc' := 30) rfl (hb hby d1_3) rfl (teq hc3_1).1 (by decide) (by decide)) ?_
    show Go p.tables e below _ (T0.setTop (mkF m 30 #[.val (.int p1)] []))
    refine Go.by (fun _ => XS.iconst X0.here hx rfl (hb hby d1_30)) ?_
    show Go p.tables e below _ (T0.setTop (mkF m 31 #[.val (.int p1)] [(.int (1 : Int32))]))
    refine Go.by (fun _ => XS.goto X0.here hx rfl (pc0 := 31) (pc' := 35) rfl (hb hby d1_31) (by decide) (by decide)) ?_
    show Go p.tables e below _ (T0.setTop (mkF m 35 #[.val (.int p1)] [(.int (1 : Int32))]))
    refine Go.retN X0 hx hlk (z' := (1 : Int32)) hret (by simp) (hb hby d1_35) rfl (by decide) (by decide) (fun _ z => z.elim) ?_
    refine ⟨Or.inl ⟨?_, rfl⟩, rfl⟩
    unfold wsI
    simp only [Int32.lt_iff_toInt_lt, ← Int32.toInt_inj, Int32.reduceToInt] at hc3_1
    omega
  · skip
    refine Go.by (fun _ => XS.icmpNo X0.here hx rfl (hb hby d1_3) rfl (feq hc3_1).1) ?_
    show Go p.tables e below _ (T0.setTop (mkF m 6 #[.val (.int p1)] []))
    refine Go.by (fun _ => XS.iloadN X0.here hx rfl (hb hby d1_6) rfl) ?_
    show Go p.tables e below _ (T0.setTop (mkF m 7 #[.val (.int p1)] [(.int p1)]))
    refine Go.by (fun _ => XS.bipush X0.here hx rfl (hb hby d1_7)) ?_
    show Go p.tables e below _ (T0.setTop (mkF m 9 #[.val (.int p1)] [(.int (9 : Int32)), (.int p1)]))
    by_cases hc9_2 : p1 < (9 : Int32)
    · skip
      refine Go.by (fun _ => XS.icmpYes X0.here hx rfl (pc0 := 9) (pc' := 18) rfl (hb hby d1_9) rfl (tlt hc9_2).1 (by decide) (by decide)) ?_
      show Go p.tables e below _ (T0.setTop (mkF m 18 #[.val (.int p1)] []))
      refine Go.by (fun _ => XS.iloadN X0.here hx rfl (hb hby d1_18) rfl) ?_
      show Go p.tables e below _ (T0.setTop (mkF m 19 #[.val (.int p1)] [(.int p1)]))
      refine Go.by (fun _ => XS.bipush X0.here hx rfl (hb hby d1_19)) ?_
      show Go p.tables e below _ (T0.setTop (mkF m 21 #[.val (.int p1)] [(.int (28 : Int32)), (.int p1)]))
      by_cases hc21_3 : p1 < (28 : Int32)
      · skip
        refine Go.by (fun _ => XS.icmpYes X0.here hx rfl (pc0 := 21) (pc' := 34) rfl (hb hby d1_21) rfl (tlt hc21_3).1 (by decide) (by decide)) ?_
        show Go p.tables e below _ (T0.setTop (mkF m 34 #[.val (.int p1)] []))
        refine Go.by (fun _ => XS.iconst X0.here hx rfl (hb hby d1_34)) ?_
        show Go p.tables e below _ (T0.setTop (mkF m 35 #[.val (.int p1)] [(.int (0 : Int32))]))
        refine Go.retN X0 hx hlk (z' := (0 : Int32)) hret (by simp) (hb hby d1_35) rfl (by decide) (by decide) (fun _ z => z.elim) ?_
        refine ⟨Or.inr ⟨?_, rfl⟩, rfl⟩
        unfold wsI
        simp only [Int32.lt_iff_toInt_lt, ← Int32.toInt_inj, Int32.reduceToInt] at hc3_1
        simp only [Int32.lt_iff_toInt_lt, ← Int32.toInt_inj, Int32.reduceToInt] at hc9_2
        simp only [Int32.lt_iff_toInt_lt, ← Int32.toInt_inj, Int32.reduceToInt] at hc21_3
        omega
      · skip
        refine Go.by (fun _ => XS.icmpNo X0.here hx rfl (hb hby d1_21) rfl (flt hc21_3).1) ?_
        show Go p.tables e below _ (T0.setTop (mkF m 24 #[.val (.int p1)] []))
        refine Go.by (fun _ => XS.iloadN X0.here hx rfl (hb hby d1_24) rfl) ?_
        show Go p.tables e below _ (T0.setTop (mkF m 25 #[.val (.int p1)] [(.int p1)]))
        refine Go.by (fun _ => XS.bipush X0.here hx rfl (hb hby d1_25)) ?_
        show Go p.tables e below _ (T0.setTop (mkF m 27 #[.val (.int p1)] [(.int (31 : Int32)), (.int p1)]))
        by_cases hc27_4 : (31 : Int32) < p1
        · skip
          refine Go.by (fun _ => XS.icmpYes X0.here hx rfl (pc0 := 27) (pc' := 34) rfl (hb hby d1_27) rfl (tlt hc27_4).2.2.1 (by decide) (by decide)) ?_
          show Go p.tables e below _ (T0.setTop (mkF m 34 #[.val (.int p1)] []))
          refine Go.by (fun _ => XS.iconst X0.here hx rfl (hb hby d1_34)) ?_
          show Go p.tables e below _ (T0.setTop (mkF m 35 #[.val (.int p1)] [(.int (0 : Int32))]))
          refine Go.retN X0 hx hlk (z' := (0 : Int32)) hret (by simp) (hb hby d1_35) rfl (by decide) (by decide) (fun _ z => z.elim) ?_
          refine ⟨Or.inr ⟨?_, rfl⟩, rfl⟩
          unfold wsI
          simp only [Int32.lt_iff_toInt_lt, ← Int32.toInt_inj, Int32.reduceToInt] at hc3_1
          simp only [Int32.lt_iff_toInt_lt, ← Int32.toInt_inj, Int32.reduceToInt] at hc9_2
          simp only [Int32.lt_iff_toInt_lt, ← Int32.toInt_inj, Int32.reduceToInt] at hc21_3
          simp only [Int32.lt_iff_toInt_lt, ← Int32.toInt_inj, Int32.reduceToInt] at hc27_4
          omega
        · skip
          refine Go.by (fun _ => XS.icmpNo X0.here hx rfl (hb hby d1_27) rfl (flt hc27_4).2.2.1) ?_
          show Go p.tables e below _ (T0.setTop (mkF m 30 #[.val (.int p1)] []))
          refine Go.by (fun _ => XS.iconst X0.here hx rfl (hb hby d1_30)) ?_
          show Go p.tables e below _ (T0.setTop (mkF m 31 #[.val (.int p1)] [(.int (1 : Int32))]))
          refine Go.by (fun _ => XS.goto X0.here hx rfl (pc0 := 31) (pc' := 35) rfl (hb hby d1_31) (by decide) (by decide)) ?_
          show Go p.tables e below _ (T0.setTop (mkF m 35 #[.val (.int p1)] [(.int (1 : Int32))]))
          refine Go.retN X0 hx hlk (z' := (1 : Int32)) hret (by simp) (hb hby d1_35) rfl (by decide) (by decide) (fun _ z => z.elim) ?_
          refine ⟨Or.inl ⟨?_, rfl⟩, rfl⟩
          unfold wsI
          simp only [Int32.lt_iff_toInt_lt, ← Int32.toInt_inj, Int32.reduceToInt] at hc3_1
          simp only [Int32.lt_iff_toInt_lt, ← Int32.toInt_inj, Int32.reduceToInt] at hc9_2
          simp only [Int32.lt_iff_toInt_lt, ← Int32.toInt_inj, Int32.reduceToInt] at hc21_3
          simp only [Int32.lt_iff_toInt_lt, ← Int32.toInt_inj, Int32.reduceToInt] at hc27_4
          omega
    · skip
      refine Go.by (fun _ => XS.icmpNo X0.here hx rfl (hb hby d1_9) rfl (flt hc9_2).1) ?_
      show Go p.tables e below _ (T0.setTop (mkF m 12 #[.val (.int p1)] []))
      refine Go.by (fun _ => XS.iloadN X0.here hx rfl (hb hby d1_12) rfl) ?_
      show Go p.tables e below _ (T0.setTop (mkF m 13 #[.val (.int p1)] [(.int p1)]))
      refine Go.by (fun _ => XS.bipush X0.here hx rfl (hb hby d1_13)) ?_
      show Go p.tables e below _ (T0.setTop (mkF m 15 #[.val (.int p1)] [(.int (13 : Int32)), (.int p1)]))
      by_cases hc15_5 : (13 : Int32) < p1
      · skip
        refine Go.by (fun _ => XS.icmpNo X0.here hx rfl (hb hby d1_15) rfl (tlt hc15_5).2.2.2) ?_
        show Go p.tables e below _ (T0.setTop (mkF m 18 #[.val (.int p1)] []))
        refine Go.by (fun _ => XS.iloadN X0.here hx rfl (hb hby d1_18) rfl) ?_
        show Go p.tables e below _ (T0.setTop (mkF m 19 #[.val (.int p1)] [(.int p1)]))
        refine Go.by (fun _ => XS.bipush X0.here hx rfl (hb hby d1_19)) ?_
        show Go p.tables e below _ (T0.setTop (mkF m 21 #[.val (.int p1)] [(.int (28 : Int32)), (.int p1)]))
        by_cases hc21_6 : p1 < (28 : Int32)
        · skip
          refine Go.by (fun _ => XS.icmpYes X0.here hx rfl (pc0 := 21) (pc' := 34) rfl (hb hby d1_21) rfl (tlt hc21_6).1 (by decide) (by decide)) ?_
          show Go p.tables e below _ (T0.setTop (mkF m 34 #[.val (.int p1)] []))
          refine Go.by (fun _ => XS.iconst X0.here hx rfl (hb hby d1_34)) ?_
          show Go p.tables e below _ (T0.setTop (mkF m 35 #[.val (.int p1)] [(.int (0 : Int32))]))
          refine Go.retN X0 hx hlk (z' := (0 : Int32)) hret (by simp) (hb hby d1_35) rfl (by decide) (by decide) (fun _ z => z.elim) ?_
          refine ⟨Or.inr ⟨?_, rfl⟩, rfl⟩
          unfold wsI
          simp only [Int32.lt_iff_toInt_lt, ← Int32.toInt_inj, Int32.reduceToInt] at hc3_1
          simp only [Int32.lt_iff_toInt_lt, ← Int32.toInt_inj, Int32.reduceToInt] at hc9_2
          simp only [Int32.lt_iff_toInt_lt, ← Int32.toInt_inj, Int32.reduceToInt] at hc15_5
          simp only [Int32.lt_iff_toInt_lt, ← Int32.toInt_inj, Int32.reduceToInt] at hc21_6
          omega
        · skip
          refine Go.by (fun _ => XS.icmpNo X0.here hx rfl (hb hby d1_21) rfl (flt hc21_6).1) ?_
          show Go p.tables e below _ (T0.setTop (mkF m 24 #[.val (.int p1)] []))
          refine Go.by (fun _ => XS.iloadN X0.here hx rfl (hb hby d1_24) rfl) ?_
          show Go p.tables e below _ (T0.setTop (mkF m 25 #[.val (.int p1)] [(.int p1)]))
          refine Go.by (fun _ => XS.bipush X0.here hx rfl (hb hby d1_25)) ?_
          show Go p.tables e below _ (T0.setTop (mkF m 27 #[.val (.int p1)] [(.int (31 : Int32)), (.int p1)]))
          by_cases hc27_7 : (31 : Int32) < p1
          · skip
            refine Go.by (fun _ => XS.icmpYes X0.here hx rfl (pc0 := 27) (pc' := 34) rfl (hb hby d1_27) rfl (tlt hc27_7).2.2.1 (by decide) (by decide)) ?_
            show Go p.tables e below _ (T0.setTop (mkF m 34 #[.val (.int p1)] []))
            refine Go.by (fun _ => XS.iconst X0.here hx rfl (hb hby d1_34)) ?_
            show Go p.tables e below _ (T0.setTop (mkF m 35 #[.val (.int p1)] [(.int (0 : Int32))]))
            refine Go.retN X0 hx hlk (z' := (0 : Int32)) hret (by simp) (hb hby d1_35) rfl (by decide) (by decide) (fun _ z => z.elim) ?_
            refine ⟨Or.inr ⟨?_, rfl⟩, rfl⟩
            unfold wsI
            simp only [Int32.lt_iff_toInt_lt, ← Int32.toInt_inj, Int32.reduceToInt] at hc3_1
            simp only [Int32.lt_iff_toInt_lt, ← Int32.toInt_inj, Int32.reduceToInt] at hc9_2
            simp only [Int32.lt_iff_toInt_lt, ← Int32.toInt_inj, Int32.reduceToInt] at hc15_5
            simp only [Int32.lt_iff_toInt_lt, ← Int32.toInt_inj, Int32.reduceToInt] at hc21_6
            simp only [Int32.lt_iff_toInt_lt, ← Int32.toInt_inj, Int32.reduceToInt] at hc27_7
            omega
          · skip
            refine Go.by (fun _ => XS.icmpNo X0.here hx rfl (hb hby d1_27) rfl (flt hc27_7).2.2.1) ?_
            show Go p.tables e below _ (T0.setTop (mkF m 30 #[.val (.int p1)] []))
            refine Go.by (fun _ => XS.iconst X0.here hx rfl (hb hby d1_30)) ?_
            show Go p.tables e below _ (T0.setTop (mkF m 31 #[.val (.int p1)] [(.int (1 : Int32))]))
            refine Go.by (fun _ => XS.goto X0.here hx rfl (pc0 := 31) (pc' := 35) rfl (hb hby d1_31) (by decide) (by decide)) ?_
            show Go p.tables e below _ (T0.setTop (mkF m 35 #[.val (.int p1)] [(.int (1 : Int32))]))
            refine Go.retN X0 hx hlk (z' := (1 : Int32)) hret (by simp) (hb hby d1_35) rfl (by decide) (by decide) (fun _ z => z.elim) ?_
            refine ⟨Or.inl ⟨?_, rfl⟩, rfl⟩
            unfold wsI
            simp only [Int32.lt_iff_toInt_lt, ← Int32.toInt_inj, Int32.reduceToInt] at hc3_1
            simp only [Int32.lt_iff_toInt_lt, ← Int32.toInt_inj, Int32.reduceToInt] at hc9_2
            simp only [Int32.lt_iff_toInt_lt, ← Int32.toInt_inj, Int32.reduceToInt] at hc15_5
            simp only [Int32.lt_iff_toInt_lt, ← Int32.toInt_inj, Int32.reduceToInt] at hc21_6
            simp only [Int32.lt_iff_toInt_lt, ← Int32.toInt_inj, Int32.reduceToInt] at hc27_7
            omega
      · skip
        refine Go.by (fun _ => XS.icmpYes X0.here hx rfl (pc0 := 15) (pc' := 30) rfl (hb hby d1_15) rfl (flt hc15_5).2.2.2 (by decide) (by decide)) ?_
        show Go p.tables e below _ (T0.setTop (mkF m 30 #[.val (.int p1)] []))
        refine Go.by (fun _ => XS.iconst X0.here hx rfl (hb hby d1_30)) ?_
        show Go p.tables e below _ (T0.setTop (mkF m 31 #[.val (.int p1)] [(.int (1 : Int32))]))
        refine Go.by (fun _ => XS.goto X0.here hx rfl (pc0 := 31) (pc' := 35) rfl (hb hby d1_31) (by decide) (by decide)) ?_
        show Go p.tables e below _ (T0.setTop (mkF m 35 #[.val (.int p1)] [(.int (1 : Int32))]))
        refine Go.retN X0 hx hlk (z' := (1 : Int32)) hret (by simp) (hb hby d1_35) rfl (by decide) (by decide) (fun _ z => z.elim) ?_
        refine ⟨Or.inl ⟨?_, rfl⟩, rfl⟩
        unfold wsI
        simp only [Int32.lt_iff_toInt_lt, ← Int32.toInt_inj, Int32.reduceToInt] at hc3_1
        simp only [Int32.lt_iff_toInt_lt, ← Int32.toInt_inj, Int32.reduceToInt] at hc9_2
        simp only [Int32.lt_iff_toInt_lt, ← Int32.toInt_inj, Int32.reduceToInt] at hc15_5
        omega
theorem pd27 : parseMethodDescriptor "([C)V" = some ⟨[(.array .char)], none⟩ := by decide +kernel
theorem pd28 : parseMethodDescriptor "(Ljava/lang/String;Ljava/lang/String;)V" = some ⟨[(.object "java/lang/String"), (.object "java/lang/String")], none⟩ := by decide +kernel
theorem pd29 : parseMethodDescriptor "(Ljava/lang/Object;)Z" = some ⟨[(.object "java/lang/Object")], some .boolean⟩ := by decide +kernel
theorem pd30 : parseMethodDescriptor "(C)Z" = some ⟨[.char], some .boolean⟩ := by decide +kernel
set_option maxRecDepth 65536 in
set_option maxHeartbeats 40000000 in
theorem rm0 (l : Launch) (Z : State) (a0 : Array Value) (hw : ∀ d ∈ tables_1, d.before a0 Z = true) (ws : List Jvm.Cond) (p0 : Int32) (p1 : Int32) (p2 : Int32) (cs : Int32) (aA aI : Addr) (kA : ClassId) (h0 : Heap) (n0 : Nat) (Z0 : n0 ≤ h0.size) (O0 : Old Z n0 h0) (S_CS0 : Sta Z Z.heap "java/lang/String" "COMPACT_STRINGS" "Z" (.int cs)) (hcs : ¬ cs = 0) (S_A0 : Sta Z Z.heap "java/lang/CharacterDataLatin1" "A" "[I" (.ref aA)) (V_A0 : Avf Z Z.heap aA kA .int 256 (fun i => (.int (tabA i)))) (S_I0 : Sta Z Z.heap "java/lang/CharacterDataLatin1" "instance" "Ljava/lang/CharacterDataLatin1;" (.ref aI)) (E_I0 : Exa Z Z.heap aI "java/lang/CharacterDataLatin1") :
    Met l Z EL [] (fun _ _ _ => False) n0 x code maxLocals ret ws room_1 #[(.int p0), (.int p1), (.int p2)] h0 (fun v h => v = some (.int 1)) := by
  refine enter (Ls := #[.val (.int p0), .val (.int p1), .val (.int p2), .unset, .unset, .unset, .unset, .unset, .unset, .unset, .unset, .unset, .unset, .unset, .unset, .unset, .unset]) (plainFor_of_name pn10) (fun m => by first | (simp [entryFrame, mkF, argsToLocals, Value.category, maxLocals]; done) | rfl) ?_
  intro p e s m below meth c T0 hx hby hml hown hnm hret hlk hZ X0
  show Go p.tables e below _ (T0.setTop (mkF m 0 #[.val (.int p0), .val (.int p1), .val (.int p2), .unset, .unset, .unset, .unset, .unset, .unset, .unset, .unset, .unset, .unset, .unset, .unset, .unset, .unset] []))
  refine Go.by (fun _ => XS.iconst X0.here hx rfl (hb hby at_0)) ?_
  show Go p.tables e below _ (T0.setTop (mkF m 1 #[.val (.int p0), .val (.int p1), .val (.int p2), .unset, .unset, .unset, .unset, .unset, .unset, .unset, .unset, .unset, .unset, .unset, .unset, .unset, .unset] [(.int (1 : Int32))]))
  refine Go.by (fun _ => XS.iloadN X0.here hx rfl (hb hby at_1) rfl) ?_
  show Go p.tables e below _ (T0.setTop (mkF m 2 #[.val (.int p0), .val (.int p1), .val (.int p2), .unset, .unset, .unset, .unset, .unset, .unset, .unset, .unset, .unset, .unset, .unset, .unset, .unset, .unset] [(.int p2), (.int (1 : Int32))]))
  refine Go.by (X0.ldcInt hx hZ hown (tw hw 0 rfl) (g := (mkF m 2 #[.val (.int p0), .val (.int p1), .val (.int p2), .unset, .unset, .unset, .unset, .unset, .unset, .unset, .unset, .unset, .unset, .unset, .unset, .unset, .unset] [(.int p2), (.int (1 : Int32))])) rfl (hb hby at_2)) ?_
  show Go p.tables e below _ (T0.setTop (mkF m 4 #[.val (.int p0), .val (.int p1), .val (.int p2), .unset, .unset, .unset, .unset, .unset, .unset, .unset, .unset, .unset, .unset, .unset, .unset, .unset, .unset] [(.int (2147483647 : Int32)), (.int p2), (.int (1 : Int32))]))
  refine Go.by (fun _ => XS.iand X0.here hx rfl (hb hby at_4) rfl) ?_
  show Go p.tables e below _ (T0.setTop (mkF m 5 #[.val (.int p0), .val (.int p1), .val (.int p2), .unset, .unset, .unset, .unset, .unset, .unset, .unset, .unset, .unset, .unset, .unset, .unset, .unset, .unset] [(.int (p2 &&& (2147483647 : Int32))), (.int (1 : Int32))]))
  refine Go.by (fun _ => XS.iconst X0.here hx rfl (hb hby at_5)) ?_
  show Go p.tables e below _ (T0.setTop (mkF m 6 #[.val (.int p0), .val (.int p1), .val (.int p2), .unset, .unset, .unset, .unset, .unset, .unset, .unset, .unset, .unset, .unset, .unset, .unset, .unset, .unset] [(.int (3 : Int32)), (.int (p2 &&& (2147483647 : Int32))), (.int (1 : Int32))]))
  refine Go.by (fun _ => iremS X0 hx rfl (hb hby at_6) rfl (by decide)) ?_
  show Go p.tables e below _ (T0.setTop (mkF m 7 #[.val (.int p0), .val (.int p1), .val (.int p2), .unset, .unset, .unset, .unset, .unset, .unset, .unset, .unset, .unset, .unset, .unset, .unset, .unset, .unset] [(.int ((p2 &&& (2147483647 : Int32)) % (3 : Int32))), (.int (1 : Int32))]))
  refine Go.by (fun _ => XS.iadd X0.here hx rfl (hb hby at_7) rfl) ?_
  show Go p.tables e below _ (T0.setTop (mkF m 8 #[.val (.int p0), .val (.int p1), .val (.int p2), .unset, .unset, .unset, .unset, .unset, .unset, .unset, .unset, .unset, .unset, .unset, .unset, .unset, .unset] [(.int ((1 : Int32) + ((p2 &&& (2147483647 : Int32)) % (3 : Int32))))]))
  have b_x3 : 1 ≤ ((1 : Int32) + ((p2 &&& (2147483647 : Int32)) % (3 : Int32))).toInt ∧ ((1 : Int32) + ((p2 &&& (2147483647 : Int32)) % (3 : Int32))).toInt ≤ 3 := own_n3 (own_m31 _)
  generalize ((1 : Int32) + ((p2 &&& (2147483647 : Int32)) % (3 : Int32))) = x3 at b_x3 ⊢
  show Go p.tables e below _ (T0.setTop (mkF m 8 #[.val (.int p0), .val (.int p1), .val (.int p2), .unset, .unset, .unset, .unset, .unset, .unset, .unset, .unset, .unset, .unset, .unset, .unset, .unset, .unset] [(.int x3)]))
  refine Go.by (fun _ => XS.istoreN X0.here hx rfl (hb hby at_8) rfl (l' := #[.val (.int p0), .val (.int p1), .val (.int p2), .val (.int x3), .unset, .unset, .unset, .unset, .unset, .unset, .unset, .unset, .unset, .unset, .unset, .unset, .unset]) rfl) ?_
  show Go p.tables e below _ (T0.setTop (mkF m 9 #[.val (.int p0), .val (.int p1), .val (.int p2), .val (.int x3), .unset, .unset, .unset, .unset, .unset, .unset, .unset, .unset, .unset, .unset, .unset, .unset, .unset] []))
  refine Go.by (fun _ => XS.iconst X0.here hx rfl (hb hby at_9)) ?_
  show Go p.tables e below _ (T0.setTop (mkF m 10 #[.val (.int p0), .val (.int p1), .val (.int p2), .val (.int x3), .unset, .unset, .unset, .unset, .unset, .unset, .unset, .unset, .unset, .unset, .unset, .unset, .unset] [(.int (1 : Int32))]))
  refine Go.by (fun _ => XS.iloadN X0.here hx rfl (hb hby at_10) rfl) ?_
  show Go p.tables e below _ (T0.setTop (mkF m 11 #[.val (.int p0), .val (.int p1), .val (.int p2), .val (.int x3), .unset, .unset, .unset, .unset, .unset, .unset, .unset, .unset, .unset, .unset, .unset, .unset, .unset] [(.int p2), (.int (1 : Int32))]))
  refine Go.by (fun _ => XS.iconst X0.here hx rfl (hb hby at_11)) ?_
  show Go p.tables e below _ (T0.setTop (mkF m 12 #[.val (.int p0), .val (.int p1), .val (.int p2), .val (.int x3), .unset, .unset, .unset, .unset, .unset, .unset, .unset, .unset, .unset, .unset, .unset, .unset, .unset] [(.int (2 : Int32)), (.int p2), (.int (1 : Int32))]))
  refine Go.by (fun _ => XS.iushr X0.here hx rfl (hb hby at_12) rfl) ?_
  show Go p.tables e below _ (T0.setTop (mkF m 13 #[.val (.int p0), .val (.int p1), .val (.int p2), .val (.int x3), .unset, .unset, .unset, .unset, .unset, .unset, .unset, .unset, .unset, .unset, .unset, .unset, .unset] [(.int ((p2.toUInt32 >>> ((2 : Int32) &&& 31).toUInt32).toInt32)), (.int (1 : Int32))]))
  refine Go.by (fun _ => XS.iconst X0.here hx rfl (hb hby at_13)) ?_
  show Go p.tables e below _ (T0.setTop (mkF m 14 #[.val (.int p0), .val (.int p1), .val (.int p2), .val (.int x3), .unset, .unset, .unset, .unset, .unset, .unset, .unset, .unset, .unset, .unset, .unset, .unset, .unset] [(.int (3 : Int32)), (.int ((p2.toUInt32 >>> ((2 : Int32) &&& 31).toUInt32).toInt32)), (.int (1 : Int32))]))
  refine Go.by (fun _ => iremS X0 hx rfl (hb hby at_14) rfl (by decide)) ?_
  show Go p.tables e below _ (T0.setTop (mkF m 15 #[.val (.int p0), .val (.int p1), .val (.int p2), .val (.int x3), .unset, .unset, .unset, .unset, .unset, .unset, .unset, .unset, .unset, .unset, .unset, .unset, .unset] [(.int (((p2.toUInt32 >>> ((2 : Int32) &&& 31).toUInt32).toInt32) % (3 : Int32))), (.int (1 : Int32))]))
  refine Go.by (fun _ => XS.iadd X0.here hx rfl (hb hby at_15) rfl) ?_
  show Go p.tables e below _ (T0.setTop (mkF m 16 #[.val (.int p0), .val (.int p1), .val (.int p2), .val (.int x3), .unset, .unset, .unset, .unset, .unset, .unset, .unset, .unset, .unset, .unset, .unset, .unset, .unset] [(.int ((1 : Int32) + (((p2.toUInt32 >>> ((2 : Int32) &&& 31).toUInt32).toInt32) % (3 : Int32))))]))
  have b_x4 : 1 ≤ ((1 : Int32) + (((p2.toUInt32 >>> ((2 : Int32) &&& 31).toUInt32).toInt32) % (3 : Int32))).toInt ∧ ((1 : Int32) + (((p2.toUInt32 >>> ((2 : Int32) &&& 31).toUInt32).toInt32) % (3 : Int32))).toInt ≤ 3 := own_n3 (own_ush _)
  generalize ((1 : Int32) + (((p2.toUInt32 >>> ((2 : Int32) &&& 31).toUInt32).toInt32) % (3 : Int32))) = x4 at b_x4 ⊢
  show Go p.tables e below _ (T0.setTop (mkF m 16 #[.val (.int p0), .val (.int p1), .val (.int p2), .val (.int x3), .unset, .unset, .unset, .unset, .unset, .unset, .unset, .unset, .unset, .unset, .unset, .unset, .unset] [(.int x4)]))
  refine Go.by (fun _ => XS.istore X0.here hx rfl (hb hby at_16) rfl (l' := #[.val (.int p0), .val (.int p1), .val (.int p2), .val (.int x3), .val (.int x4), .unset, .unset, .unset, .unset, .unset, .unset, .unset, .unset, .unset, .unset, .unset, .unset]) rfl) ?_
  show Go p.tables e below _ (T0.setTop (mkF m 18 #[.val (.int p0), .val (.int p1), .val (.int p2), .val (.int x3), .val (.int x4), .unset, .unset, .unset, .unset, .unset, .unset, .unset, .unset, .unset, .unset, .unset, .unset] []))
  refine Go.by (fun _ => XS.iloadN X0.here hx rfl (hb hby at_18) rfl) ?_
  show Go p.tables e below _ (T0.setTop (mkF m 19 #[.val (.int p0), .val (.int p1), .val (.int p2), .val (.int x3), .val (.int x4), .unset, .unset, .unset, .unset, .unset, .unset, .unset, .unset, .unset, .unset, .unset, .unset] [(.int p0)]))
  refine Go.by (fun _ => XS.sipush X0.here hx rfl (hb hby at_19)) ?_
  show Go p.tables e below _ (T0.setTop (mkF m 22 #[.val (.int p0), .val (.int p1), .val (.int p2), .val (.int x3), .val (.int x4), .unset, .unset, .unset, .unset, .unset, .unset, .unset, .unset, .unset, .unset, .unset, .unset] [(.int (255 : Int32)), (.int p0)]))
  refine Go.by (fun _ => XS.iand X0.here hx rfl (hb hby at_22) rfl) ?_
  show Go p.tables e below _ (T0.setTop (mkF m 23 #[.val (.int p0), .val (.int p1), .val (.int p2), .val (.int x3), .val (.int x4), .unset, .unset, .unset, .unset, .unset, .unset, .unset, .unset, .unset, .unset, .unset, .unset] [(.int (p0 &&& (255 : Int32)))]))
  refine Go.by (fun _ => XS.i2c X0.here hx rfl (hb hby at_23) rfl) ?_
  show Go p.tables e below _ (T0.setTop (mkF m 24 #[.val (.int p0), .val (.int p1), .val (.int p2), .val (.int x3), .val (.int x4), .unset, .unset, .unset, .unset, .unset, .unset, .unset, .unset, .unset, .unset, .unset, .unset] [(.int ((p0 &&& (255 : Int32)).toUInt32.toUInt16.toUInt32.toInt32))]))
  have b_x5 : 0 ≤ ((p0 &&& (255 : Int32)).toUInt32.toUInt16.toUInt32.toInt32).toInt ∧ ((p0 &&& (255 : Int32)).toUInt32.toUInt16.toUInt32.toInt32).toInt ≤ 255 := own_byc _
  generalize ((p0 &&& (255 : Int32)).toUInt32.toUInt16.toUInt32.toInt32) = x5 at b_x5 ⊢
  show Go p.tables e below _ (T0.setTop (mkF m 24 #[.val (.int p0), .val (.int p1), .val (.int p2), .val (.int x3), .val (.int x4), .unset, .unset, .unset, .unset, .unset, .unset, .unset, .unset, .unset, .unset, .unset, .unset] [(.int x5)]))
  refine Go.by (fun _ => XS.istore X0.here hx rfl (hb hby at_24) rfl (l' := #[.val (.int p0), .val (.int p1), .val (.int p2), .val (.int x3), .val (.int x4), .val (.int x5), .unset, .unset, .unset, .unset, .unset, .unset, .unset, .unset, .unset, .unset, .unset]) rfl) ?_
  show Go p.tables e below _ (T0.setTop (mkF m 26 #[.val (.int p0), .val (.int p1), .val (.int p2), .val (.int x3), .val (.int x4), .val (.int x5), .unset, .unset, .unset, .unset, .unset, .unset, .unset, .unset, .unset, .unset, .unset] []))
  refine Go.by (fun _ => XS.iloadN X0.here hx rfl (hb hby at_26) rfl) ?_
  show Go p.tables e below _ (T0.setTop (mkF m 27 #[.val (.int p0), .val (.int p1), .val (.int p2), .val (.int x3), .val (.int x4), .val (.int x5), .unset, .unset, .unset, .unset, .unset, .unset, .unset, .unset, .unset, .unset, .unset] [(.int p0)]))
  refine Go.by (fun _ => XS.bipush X0.here hx rfl (hb hby at_27)) ?_
  show Go p.tables e below _ (T0.setTop (mkF m 29 #[.val (.int p0), .val (.int p1), .val (.int p2), .val (.int x3), .val (.int x4), .val (.int x5), .unset, .unset, .unset, .unset, .unset, .unset, .unset, .unset, .unset, .unset, .unset] [(.int (8 : Int32)), (.int p0)]))
  refine Go.by (fun _ => XS.iushr X0.here hx rfl (hb hby at_29) rfl) ?_
  show Go p.tables e below _ (T0.setTop (mkF m 30 #[.val (.int p0), .val (.int p1), .val (.int p2), .val (.int x3), .val (.int x4), .val (.int x5), .unset, .unset, .unset, .unset, .unset, .unset, .unset, .unset, .unset, .unset, .unset] [(.int ((p0.toUInt32 >>> ((8 : Int32) &&& 31).toUInt32).toInt32))]))
  refine Go.by (fun _ => XS.sipush X0.here hx rfl (hb hby at_30)) ?_
  show Go p.tables e below _ (T0.setTop (mkF m 33 #[.val (.int p0), .val (.int p1), .val (.int p2), .val (.int x3), .val (.int x4), .val (.int x5), .unset, .unset, .unset, .unset, .unset, .unset, .unset, .unset, .unset, .unset, .unset] [(.int (255 : Int32)), (.int ((p0.toUInt32 >>> ((8 : Int32) &&& 31).toUInt32).toInt32))]))
  refine Go.by (fun _ => XS.iand X0.here hx rfl (hb hby at_33) rfl) ?_
  show Go p.tables e below _ (T0.setTop (mkF m 34 #[.val (.int p0), .val (.int p1), .val (.int p2), .val (.int x3), .val (.int x4), .val (.int x5), .unset, .unset, .unset, .unset, .unset, .unset, .unset, .unset, .unset, .unset, .unset] [(.int (((p0.toUInt32 >>> ((8 : Int32) &&& 31).toUInt32).toInt32) &&& (255 : Int32)))]))
  refine Go.by (fun _ => XS.i2c X0.here hx rfl (hb hby at_34) rfl) ?_
  show Go p.tables e below _ (T0.setTop (mkF m 35 #[.val (.int p0), .val (.int p1), .val (.int p2), .val (.int x3), .val (.int x4), .val (.int x5), .unset, .unset, .unset, .unset, .unset, .unset, .unset, .unset, .unset, .unset, .unset] [(.int ((((p0.toUInt32 >>> ((8 : Int32) &&& 31).toUInt32).toInt32) &&& (255 : Int32)).toUInt32.toUInt16.toUInt32.toInt32))]))
  have b_x6 : 0 ≤ ((((p0.toUInt32 >>> ((8 : Int32) &&& 31).toUInt32).toInt32) &&& (255 : Int32)).toUInt32.toUInt16.toUInt32.toInt32).toInt ∧ ((((p0.toUInt32 >>> ((8 : Int32) &&& 31).toUInt32).toInt32) &&& (255 : Int32)).toUInt32.toUInt16.toUInt32.toInt32).toInt ≤ 255 := own_byc _
  generalize ((((p0.toUInt32 >>> ((8 : Int32) &&& 31).toUInt32).toInt32) &&& (255 : Int32)).toUInt32.toUInt16.toUInt32.toInt32) = x6 at b_x6 ⊢
  show Go p.tables e below _ (T0.setTop (mkF m 35 #[.val (.int p0), .val (.int p1), .val (.int p2), .val (.int x3), .val (.int x4), .val (.int x5), .unset, .unset, .unset, .unset, .unset, .unset, .unset, .unset, .unset, .unset, .unset] [(.int x6)]))
  refine Go.by (fun _ => XS.istore X0.here hx rfl (hb hby at_35) rfl (l' := #[.val (.int p0), .val (.int p1), .val (.int p2), .val (.int x3), .val (.int x4), .val (.int x5), .val (.int x6), .unset, .unset, .unset, .unset, .unset, .unset, .unset, .unset, .unset, .unset]) rfl) ?_
  show Go p.tables e below _ (T0.setTop (mkF m 37 #[.val (.int p0), .val (.int p1), .val (.int p2), .val (.int x3), .val (.int x4), .val (.int x5), .val (.int x6), .unset, .unset, .unset, .unset, .unset, .unset, .unset, .unset, .unset, .unset] []))
  refine Go.by (fun _ => XS.iloadN X0.here hx rfl (hb hby at_37) rfl) ?_
  show Go p.tables e below _ (T0.setTop (mkF m 38 #[.val (.int p0), .val (.int p1), .val (.int p2), .val (.int x3), .val (.int x4), .val (.int x5), .val (.int x6), .unset, .unset, .unset, .unset, .unset, .unset, .unset, .unset, .unset, .unset] [(.int p0)]))
  refine Go.by (fun _ => XS.bipush X0.here hx rfl (hb hby at_38)) ?_
  show Go p.tables e below _ (T0.setTop (mkF m 40 #[.val (.int p0), .val (.int p1), .val (.int p2), .val (.int x3), .val (.int x4), .val (.int x5), .val (.int x6), .unset, .unset, .unset, .unset, .unset, .unset, .unset, .unset, .unset, .unset] [(.int (16 : Int32)), (.int p0)]))
  refine Go.by (fun _ => XS.iushr X0.here hx rfl (hb hby at_40) rfl) ?_
  show Go p.tables e below _ (T0.setTop (mkF m 41 #[.val (.int p0), .val (.int p1), .val (.int p2), .val (.int x3), .val (.int x4), .val (.int x5), .val (.int x6), .unset, .unset, .unset, .unset, .unset, .unset, .unset, .unset, .unset, .unset] [(.int ((p0.toUInt32 >>> ((16 : Int32) &&& 31).toUInt32).toInt32))]))
  refine Go.by (fun _ => XS.sipush X0.here hx rfl (hb hby at_41)) ?_
  show Go p.tables e below _ (T0.setTop (mkF m 44 #[.val (.int p0), .val (.int p1), .val (.int p2), .val (.int x3), .val (.int x4), .val (.int x5), .val (.int x6), .unset, .unset, .unset, .unset, .unset, .unset, .unset, .unset, .unset, .unset] [(.int (255 : Int32)), (.int ((p0.toUInt32 >>> ((16 : Int32) &&& 31).toUInt32).toInt32))]))
  refine Go.by (fun _ => XS.iand X0.here hx rfl (hb hby at_44) rfl) ?_
  show Go p.tables e below _ (T0.setTop (mkF m 45 #[.val (.int p0), .val (.int p1), .val (.int p2), .val (.int x3), .val (.int x4), .val (.int x5), .val (.int x6), .unset, .unset, .unset, .unset, .unset, .unset, .unset, .unset, .unset, .unset] [(.int (((p0.toUInt32 >>> ((16 : Int32) &&& 31).toUInt32).toInt32) &&& (255 : Int32)))]))
  refine Go.by (fun _ => XS.i2c X0.here hx rfl (hb hby at_45) rfl) ?_
  show Go p.tables e below _ (T0.setTop (mkF m 46 #[.val (.int p0), .val (.int p1), .val (.int p2), .val (.int x3), .val (.int x4), .val (.int x5), .val (.int x6), .unset, .unset, .unset, .unset, .unset, .unset, .unset, .unset, .unset, .unset] [(.int ((((p0.toUInt32 >>> ((16 : Int32) &&& 31).toUInt32).toInt32) &&& (255 : Int32)).toUInt32.toUInt16.toUInt32.toInt32))]))
  have b_x7 : 0 ≤ ((((p0.toUInt32 >>> ((16 : Int32) &&& 31).toUInt32).toInt32) &&& (255 : Int32)).toUInt32.toUInt16.toUInt32.toInt32).toInt ∧ ((((p0.toUInt32 >>> ((16 : Int32) &&& 31).toUInt32).toInt32) &&& (255 : Int32)).toUInt32.toUInt16.toUInt32.toInt32).toInt ≤ 255 := own_byc _
  generalize ((((p0.toUInt32 >>> ((16 : Int32) &&& 31).toUInt32).toInt32) &&& (255 : Int32)).toUInt32.toUInt16.toUInt32.toInt32) = x7 at b_x7 ⊢
  show Go p.tables e below _ (T0.setTop (mkF m 46 #[.val (.int p0), .val (.int p1), .val (.int p2), .val (.int x3), .val (.int x4), .val (.int x5), .val (.int x6), .unset, .unset, .unset, .unset, .unset, .unset, .unset, .unset, .unset, .unset] [(.int x7)]))
  refine Go.by (fun _ => XS.istore X0.here hx rfl (hb hby at_46) rfl (l' := #[.val (.int p0), .val (.int p1), .val (.int p2), .val (.int x3), .val (.int x4), .val (.int x5), .val (.int x6), .val (.int x7), .unset, .unset, .unset, .unset, .unset, .unset, .unset, .unset, .unset]) rfl) ?_
  show Go p.tables e below _ (T0.setTop (mkF m 48 #[.val (.int p0), .val (.int p1), .val (.int p2), .val (.int x3), .val (.int x4), .val (.int x5), .val (.int x6), .val (.int x7), .unset, .unset, .unset, .unset, .unset, .unset, .unset, .unset, .unset] []))
  refine Go.by (fun _ => XS.iloadN X0.here hx rfl (hb hby at_48) rfl) ?_
  show Go p.tables e below _ (T0.setTop (mkF m 49 #[.val (.int p0), .val (.int p1), .val (.int p2), .val (.int x3), .val (.int x4), .val (.int x5), .val (.int x6), .val (.int x7), .unset, .unset, .unset, .unset, .unset, .unset, .unset, .unset, .unset] [(.int p1)]))
  refine Go.by (fun _ => XS.sipush X0.here hx rfl (hb hby at_49)) ?_
  show Go p.tables e below _ (T0.setTop (mkF m 52 #[.val (.int p0), .val (.int p1), .val (.int p2), .val (.int x3), .val (.int x4), .val (.int x5), .val (.int x6), .val (.int x7), .unset, .unset, .unset, .unset, .unset, .unset, .unset, .unset, .unset] [(.int (255 : Int32)), (.int p1)]))
  refine Go.by (fun _ => XS.iand X0.here hx rfl (hb hby at_52) rfl) ?_
  show Go p.tables e below _ (T0.setTop (mkF m 53 #[.val (.int p0), .val (.int p1), .val (.int p2), .val (.int x3), .val (.int x4), .val (.int x5), .val (.int x6), .val (.int x7), .unset, .unset, .unset, .unset, .unset, .unset, .unset, .unset, .unset] [(.int (p1 &&& (255 : Int32)))]))
  refine Go.by (fun _ => XS.i2c X0.here hx rfl (hb hby at_53) rfl) ?_
  show Go p.tables e below _ (T0.setTop (mkF m 54 #[.val (.int p0), .val (.int p1), .val (.int p2), .val (.int x3), .val (.int x4), .val (.int x5), .val (.int x6), .val (.int x7), .unset, .unset, .unset, .unset, .unset, .unset, .unset, .unset, .unset] [(.int ((p1 &&& (255 : Int32)).toUInt32.toUInt16.toUInt32.toInt32))]))
  have b_x8 : 0 ≤ ((p1 &&& (255 : Int32)).toUInt32.toUInt16.toUInt32.toInt32).toInt ∧ ((p1 &&& (255 : Int32)).toUInt32.toUInt16.toUInt32.toInt32).toInt ≤ 255 := own_byc _
  generalize ((p1 &&& (255 : Int32)).toUInt32.toUInt16.toUInt32.toInt32) = x8 at b_x8 ⊢
  show Go p.tables e below _ (T0.setTop (mkF m 54 #[.val (.int p0), .val (.int p1), .val (.int p2), .val (.int x3), .val (.int x4), .val (.int x5), .val (.int x6), .val (.int x7), .unset, .unset, .unset, .unset, .unset, .unset, .unset, .unset, .unset] [(.int x8)]))
  refine Go.by (fun _ => XS.istore X0.here hx rfl (hb hby at_54) rfl (l' := #[.val (.int p0), .val (.int p1), .val (.int p2), .val (.int x3), .val (.int x4), .val (.int x5), .val (.int x6), .val (.int x7), .val (.int x8), .unset, .unset, .unset, .unset, .unset, .unset, .unset, .unset]) rfl) ?_
  show Go p.tables e below _ (T0.setTop (mkF m 56 #[.val (.int p0), .val (.int p1), .val (.int p2), .val (.int x3), .val (.int x4), .val (.int x5), .val (.int x6), .val (.int x7), .val (.int x8), .unset, .unset, .unset, .unset, .unset, .unset, .unset, .unset] []))
  refine Go.by (fun _ => XS.iloadN X0.here hx rfl (hb hby at_56) rfl) ?_
  show Go p.tables e below _ (T0.setTop (mkF m 57 #[.val (.int p0), .val (.int p1), .val (.int p2), .val (.int x3), .val (.int x4), .val (.int x5), .val (.int x6), .val (.int x7), .val (.int x8), .unset, .unset, .unset, .unset, .unset, .unset, .unset, .unset] [(.int p1)]))
  refine Go.by (fun _ => XS.bipush X0.here hx rfl (hb hby at_57)) ?_
  show Go p.tables e below _ (T0.setTop (mkF m 59 #[.val (.int p0), .val (.int p1), .val (.int p2), .val (.int x3), .val (.int x4), .val (.int x5), .val (.int x6), .val (.int x7), .val (.int x8), .unset, .unset, .unset, .unset, .unset, .unset, .unset, .unset] [(.int (8 : Int32)), (.int p1)]))
  refine Go.by (fun _ => XS.iushr X0.here hx rfl (hb hby at_59) rfl) ?_
  show Go p.tables e below _ (T0.setTop (mkF m 60 #[.val (.int p0), .val (.int p1), .val (.int p2), .val (.int x3), .val (.int x4), .val (.int x5), .val (.int x6), .val (.int x7), .val (.int x8), .unset, .unset, .unset, .unset, .unset, .unset, .unset, .unset] [(.int ((p1.toUInt32 >>> ((8 : Int32) &&& 31).toUInt32).toInt32))]))
  refine Go.by (fun _ => XS.sipush X0.here hx rfl (hb hby at_60)) ?_
  show Go p.tables e below _ (T0.setTop (mkF m 63 #[.val (.int p0), .val (.int p1), .val (.int p2), .val (.int x3), .val (.int x4), .val (.int x5), .val (.int x6), .val (.int x7), .val (.int x8), .unset, .unset, .unset, .unset, .unset, .unset, .unset, .unset] [(.int (255 : Int32)), (.int ((p1.toUInt32 >>> ((8 : Int32) &&& 31).toUInt32).toInt32))]))
  refine Go.by (fun _ => XS.iand X0.here hx rfl (hb hby at_63) rfl) ?_
  show Go p.tables e below _ (T0.setTop (mkF m 64 #[.val (.int p0), .val (.int p1), .val (.int p2), .val (.int x3), .val (.int x4), .val (.int x5), .val (.int x6), .val (.int x7), .val (.int x8), .unset, .unset, .unset, .unset, .unset, .unset, .unset, .unset] [(.int (((p1.toUInt32 >>> ((8 : Int32) &&& 31).toUInt32).toInt32) &&& (255 : Int32)))]))
  refine Go.by (fun _ => XS.i2c X0.here hx rfl (hb hby at_64) rfl) ?_
  show Go p.tables e below _ (T0.setTop (mkF m 65 #[.val (.int p0), .val (.int p1), .val (.int p2), .val (.int x3), .val (.int x4), .val (.int x5), .val (.int x6), .val (.int x7), .val (.int x8), .unset, .unset, .unset, .unset, .unset, .unset, .unset, .unset] [(.int ((((p1.toUInt32 >>> ((8 : Int32) &&& 31).toUInt32).toInt32) &&& (255 : Int32)).toUInt32.toUInt16.toUInt32.toInt32))]))
  have b_x9 : 0 ≤ ((((p1.toUInt32 >>> ((8 : Int32) &&& 31).toUInt32).toInt32) &&& (255 : Int32)).toUInt32.toUInt16.toUInt32.toInt32).toInt ∧ ((((p1.toUInt32 >>> ((8 : Int32) &&& 31).toUInt32).toInt32) &&& (255 : Int32)).toUInt32.toUInt16.toUInt32.toInt32).toInt ≤ 255 := own_byc _
  generalize ((((p1.toUInt32 >>> ((8 : Int32) &&& 31).toUInt32).toInt32) &&& (255 : Int32)).toUInt32.toUInt16.toUInt32.toInt32) = x9 at b_x9 ⊢
  show Go p.tables e below _ (T0.setTop (mkF m 65 #[.val (.int p0), .val (.int p1), .val (.int p2), .val (.int x3), .val (.int x4), .val (.int x5), .val (.int x6), .val (.int x7), .val (.int x8), .unset, .unset, .unset, .unset, .unset, .unset, .unset, .unset] [(.int x9)]))
  refine Go.by (fun _ => XS.istore X0.here hx rfl (hb hby at_65) rfl (l' := #[.val (.int p0), .val (.int p1), .val (.int p2), .val (.int x3), .val (.int x4), .val (.int x5), .val (.int x6), .val (.int x7), .val (.int x8), .val (.int x9), .unset, .unset, .unset, .unset, .unset, .unset, .unset]) rfl) ?_
  show Go p.tables e below _ (T0.setTop (mkF m 67 #[.val (.int p0), .val (.int p1), .val (.int p2), .val (.int x3), .val (.int x4), .val (.int x5), .val (.int x6), .val (.int x7), .val (.int x8), .val (.int x9), .unset, .unset, .unset, .unset, .unset, .unset, .unset] []))
  refine Go.by (fun _ => XS.iloadN X0.here hx rfl (hb hby at_67) rfl) ?_
  show Go p.tables e below _ (T0.setTop (mkF m 68 #[.val (.int p0), .val (.int p1), .val (.int p2), .val (.int x3), .val (.int x4), .val (.int x5), .val (.int x6), .val (.int x7), .val (.int x8), .val (.int x9), .unset, .unset, .unset, .unset, .unset, .unset, .unset] [(.int p1)]))
  refine Go.by (fun _ => XS.bipush X0.here hx rfl (hb hby at_68)) ?_
  show Go p.tables e below _ (T0.setTop (mkF m 70 #[.val (.int p0), .val (.int p1), .val (.int p2), .val (.int x3), .val (.int x4), .val (.int x5), .val (.int x6), .val (.int x7), .val (.int x8), .val (.int x9), .unset, .unset, .unset, .unset, .unset, .unset, .unset] [(.int (16 : Int32)), (.int p1)]))
  refine Go.by (fun _ => XS.iushr X0.here hx rfl (hb hby at_70) rfl) ?_
  show Go p.tables e below _ (T0.setTop (mkF m 71 #[.val (.int p0), .val (.int p1), .val (.int p2), .val (.int x3), .val (.int x4), .val (.int x5), .val (.int x6), .val (.int x7), .val (.int x8), .val (.int x9), .unset, .unset, .unset, .unset, .unset, .unset, .unset] [(.int ((p1.toUInt32 >>> ((16 : Int32) &&& 31).toUInt32).toInt32))]))
  refine Go.by (fun _ => XS.sipush X0.here hx rfl (hb hby at_71)) ?_
  show Go p.tables e below _ (T0.setTop (mkF m 74 #[.val (.int p0), .val (.int p1), .val (.int p2), .val (.int x3), .val (.int x4), .val (.int x5), .val (.int x6), .val (.int x7), .val (.int x8), .val (.int x9), .unset, .unset, .unset, .unset, .unset, .unset, .unset] [(.int (255 : Int32)), (.int ((p1.toUInt32 >>> ((16 : Int32) &&& 31).toUInt32).toInt32))]))
  refine Go.by (fun _ => XS.iand X0.here hx rfl (hb hby at_74) rfl) ?_
  show Go p.tables e below _ (T0.setTop (mkF m 75 #[.val (.int p0), .val (.int p1), .val (.int p2), .val (.int x3), .val (.int x4), .val (.int x5), .val (.int x6), .val (.int x7), .val (.int x8), .val (.int x9), .unset, .unset, .unset, .unset, .unset, .unset, .unset] [(.int (((p1.toUInt32 >>> ((16 : Int32) &&& 31).toUInt32).toInt32) &&& (255 : Int32)))]))
  refine Go.by (fun _ => XS.i2c X0.here hx rfl (hb hby at_75) rfl) ?_
  show Go p.tables e below _ (T0.setTop (mkF m 76 #[.val (.int p0), .val (.int p1), .val (.int p2), .val (.int x3), .val (.int x4), .val (.int x5), .val (.int x6), .val (.int x7), .val (.int x8), .val (.int x9), .unset, .unset, .unset, .unset, .unset, .unset, .unset] [(.int ((((p1.toUInt32 >>> ((16 : Int32) &&& 31).toUInt32).toInt32) &&& (255 : Int32)).toUInt32.toUInt16.toUInt32.toInt32))]))
  have b_x10 : 0 ≤ ((((p1.toUInt32 >>> ((16 : Int32) &&& 31).toUInt32).toInt32) &&& (255 : Int32)).toUInt32.toUInt16.toUInt32.toInt32).toInt ∧ ((((p1.toUInt32 >>> ((16 : Int32) &&& 31).toUInt32).toInt32) &&& (255 : Int32)).toUInt32.toUInt16.toUInt32.toInt32).toInt ≤ 255 := own_byc _
  generalize ((((p1.toUInt32 >>> ((16 : Int32) &&& 31).toUInt32).toInt32) &&& (255 : Int32)).toUInt32.toUInt16.toUInt32.toInt32) = x10 at b_x10 ⊢
  show Go p.tables e below _ (T0.setTop (mkF m 76 #[.val (.int p0), .val (.int p1), .val (.int p2), .val (.int x3), .val (.int x4), .val (.int x5), .val (.int x6), .val (.int x7), .val (.int x8), .val (.int x9), .unset, .unset, .unset, .unset, .unset, .unset, .unset] [(.int x10)]))
  refine Go.by (fun _ => XS.istore X0.here hx rfl (hb hby at_76) rfl (l' := #[.val (.int p0), .val (.int p1), .val (.int p2), .val (.int x3), .val (.int x4), .val (.int x5), .val (.int x6), .val (.int x7), .val (.int x8), .val (.int x9), .val (.int x10), .unset, .unset, .unset, .unset, .unset, .unset]) rfl) ?_
  show Go p.tables e below _ (T0.setTop (mkF m 78 #[.val (.int p0), .val (.int p1), .val (.int p2), .val (.int x3), .val (.int x4), .val (.int x5), .val (.int x6), .val (.int x7), .val (.int x8), .val (.int x9), .val (.int x10), .unset, .unset, .unset, .unset, .unset, .unset] []))
  have J : ∀ (y3 y4 : Int32) (N1 N2 : Nat) (u11 u12 u13 : Addr) (k11 k12 k13 : ClassId) (Tj : State) (hj : Heap), y3.toInt = N1 → y4.toInt = N2 → (1 ≤ N1 ∧ N1 ≤ 3 ∧ 1 ≤ N2 ∧ N2 ≤ 3) → Sd Z EL [] n0 p l e room_1 s m #[(.int p0), (.int p1), (.int p2)] below meth c Tj hj 3 13 → n0 ≤ hj.size → Old Z n0 hj → Avf Z hj u11 k11 .char N1 (fun i => (.int ((c3 x5 x6 x7) i))) → Avf Z hj u12 k12 .char N2 (fun i => (.int ((c3 x8 x9 x10) i))) → Avf Z hj u13 k13 .char (N1 + 1 + N2) (fun i => (.int ((c7 N1 (c3 x5 x6 x7) (c3 x8 x9 x10)) i))) → Go p.tables e below (Ret Z EL (fun _ _ _ => False) s n0 (fun v h => v = some (.int 1)) room_1.cells room_1.slots) (Tj.setTop (mkF m 227 #[.val (.int p0), .val (.int p1), .val (.int p2), .val (.int y3), .val (.int y4), .val (.int x5), .val (.int x6), .val (.int x7), .val (.int x8), .val (.int x9), .val (.int x10), .val (.ref u11), .val (.ref u12), .val (.ref u13), .unset, .unset, .unset] [])) := by
    intro y3 y4 N1 N2 u11 u12 u13 k11 k12 k13 Tj hj hy3 hy4 hNN Xj Zj Oj Vj11 Vj12 Vj13
    have J1 : ∀ (Tj1 : State), Sd Z EL [] n0 p l e room_1 s m #[(.int p0), (.int p1), (.int p2)] below meth c Tj1 hj 3 13 → ∀ (e14 : Int32), e14 = 1 ∨ (e14 = 0 ∧ ∃ j, j < N1 ∧ ¬ wsI ((c3 x5 x6 x7) j)) → Go p.tables e below (Ret Z EL (fun _ _ _ => False) s n0 (fun v h => v = some (.int 1)) room_1.cells room_1.slots) (Tj1.setTop (mkF m 266 #[.val (.int p0), .val (.int p1), .val (.int p2), .val (.int y3), .val (.int y4), .val (.int x5), .val (.int x6), .val (.int x7), .val (.int x8), .val (.int x9), .val (.int x10), .val (.ref u11), .val (.ref u12), .val (.ref u13), .unset, .unset, .unset] [(.int e14)])) := by
      intro Tj1 Xj1 e14 hj1
      refine Go.by (fun _ => XS.istore Xj1.here hx rfl (hb hby at_266) rfl (l' := #[.val (.int p0), .val (.int p1), .val (.int p2), .val (.int y3), .val (.int y4), .val (.int x5), .val (.int x6), .val (.int x7), .val (.int x8), .val (.int x9), .val (.int x10), .val (.ref u11), .val (.ref u12), .val (.ref u13), .val (.int e14), .unset, .unset]) rfl) ?_
      show Go p.tables e below _ (Tj1.setTop (mkF m 268 #[.val (.int p0), .val (.int p1), .val (.int p2), .val (.int y3), .val (.int y4), .val (.int x5), .val (.int x6), .val (.int x7), .val (.int x8), .val (.int x9), .val (.int x10), .val (.ref u11), .val (.ref u12), .val (.ref u13), .val (.int e14), .unset, .unset] []))
      refine Go.by (fun _ => XS.iload Xj1.here hx rfl (hb hby at_268) rfl) ?_
      show Go p.tables e below _ (Tj1.setTop (mkF m 270 #[.val (.int p0), .val (.int p1), .val (.int p2), .val (.int y3), .val (.int y4), .val (.int x5), .val (.int x6), .val (.int x7), .val (.int x8), .val (.int x9), .val (.int x10), .val (.ref u11), .val (.ref u12), .val (.ref u13), .val (.int e14), .unset, .unset] [(.int e14)]))
      by_cases hc270_2 : e14 = (0 : Int32)
      · skip
        refine Go.by (fun _ => XS.ifYes Xj1.here hx rfl (pc0 := 270) (pc' := 275) rfl (hb hby at_270) rfl ((if0 _ _).trans (teq hc270_2).1) (by decide) (by decide)) ?_
        show Go p.tables e below _ (Tj1.setTop (mkF m 275 #[.val (.int p0), .val (.int p1), .val (.int p2), .val (.int y3), .val (.int y4), .val (.int x5), .val (.int x6), .val (.int x7), .val (.int x8), .val (.int x9), .val (.int x10), .val (.ref u11), .val (.ref u12), .val (.ref u13), .val (.int e14), .unset, .unset] []))
        have hbl0 := (hj1.resolve_left (fun q => absurd (hc270_2.symm.trans q) (by decide))).2
        have hblk : ∃ j, j < N1 ∧ ¬ wsI ((fun j => ((c3 x5 x6 x7) j).toInt8.toInt32) j &&& (255 : Int32)) := by
          obtain ⟨j, h1, h2⟩ := hbl0
          refine ⟨j, h1, ?_⟩
          show ¬ wsI (((c3 x5 x6 x7) j).toInt8.toInt32 &&& (255 : Int32))
          rw [own_b8 (own_c3b b_x5 b_x6 b_x7 j)]
          exact h2
        obtain ⟨T3, h3, b3, X3, g3, E3, A3, D3, st3⟩ := Xj1.newO hx hZ hown (tw hw 6 rfl) (tw hw 7 rfl) (tw hw 8 rfl) (g := (mkF m 275 #[.val (.int p0), .val (.int p1), .val (.int p2), .val (.int y3), .val (.int y4), .val (.int x5), .val (.int x6), .val (.int x7), .val (.int x8), .val (.int x9), .val (.int x10), .val (.ref u11), .val (.ref u12), .val (.ref u13), .val (.int e14), .unset, .unset] [])) rfl (hb hby at_275) (k' := 4) (n' := 15) rfl rfl (by decide) (by decide)
        have g_b3 : n0 ≤ b3 := by rw [g3]; exact Zj
        have ne_u11_b3 : u11 ≠ b3 := Nat.ne_of_lt (by rw [g3]; exact Vj11.lt)
        have ne_u12_b3 : u12 ≠ b3 := Nat.ne_of_lt (by rw [g3]; exact Vj12.lt)
        have ne_u13_b3 : u13 ≠ b3 := Nat.ne_of_lt (by rw [g3]; exact Vj13.lt)
        have f4_157 := Oj.ext E3
        have f4_158 := Avf.ext Vj11 E3
        have f4_159 := Avf.ext Vj12 E3
        have f4_160 := Avf.ext Vj13 E3
        have Zs4 : n0 ≤ h3.size := Nat.le_trans Zj E3.1
        have F3_typeName : Fld Z h3 b3 "com/example/istorie/istorie/EntityId" "typeName" "Ljava/lang/String;" .null := D3 (Or.inr (tw hw 106 rfl)) (ty := (.object "java/lang/String")) (by decide)
        have F3_identifier : Fld Z h3 b3 "com/example/istorie/istorie/EntityId" "identifier" "Ljava/lang/String;" .null := D3 (Or.inr (tw hw 108 rfl)) (ty := (.object "java/lang/String")) (by decide)
        refine Go.by st3 ?_
        show Go p.tables e below _ (T3.setTop (mkF m 278 #[.val (.int p0), .val (.int p1), .val (.int p2), .val (.int y3), .val (.int y4), .val (.int x5), .val (.int x6), .val (.int x7), .val (.int x8), .val (.int x9), .val (.int x10), .val (.ref u11), .val (.ref u12), .val (.ref u13), .val (.int e14), .unset, .unset] [(.ref b3)]))
        refine Go.by (fun _ => XS.dup X3.here hx rfl (hb hby at_278) rfl rfl) ?_
        show Go p.tables e below _ (T3.setTop (mkF m 279 #[.val (.int p0), .val (.int p1), .val (.int p2), .val (.int y3), .val (.int y4), .val (.int x5), .val (.int x6), .val (.int x7), .val (.int x8), .val (.int x9), .val (.int x10), .val (.ref u11), .val (.ref u12), .val (.ref u13), .val (.int e14), .unset, .unset] [(.ref b3), (.ref b3)]))
        obtain ⟨T5, h5, b5, X5, g5, E5, A5, D5, st5⟩ := X3.newOF hx hZ hown (tw hw 9 rfl) (tw hw 10 rfl) (tw hw 11 rfl) (g := (mkF m 279 #[.val (.int p0), .val (.int p1), .val (.int p2), .val (.int y3), .val (.int y4), .val (.int x5), .val (.int x6), .val (.int x7), .val (.int x8), .val (.int x9), .val (.int x10), .val (.ref u11), .val (.ref u12), .val (.ref u13), .val (.int e14), .unset, .unset] [(.ref b3), (.ref b3)])) rfl (hb hby at_279) (k' := 5) (n' := 19) rfl rfl (by decide) (by decide)
        have g_b5 : n0 ≤ b5 := by rw [g5]; exact Zs4
        have ne_u11_b5 : u11 ≠ b5 := Nat.ne_of_lt (by rw [g5]; exact f4_158.lt)
        have ne_u12_b5 : u12 ≠ b5 := Nat.ne_of_lt (by rw [g5]; exact f4_159.lt)
        have ne_u13_b5 : u13 ≠ b5 := Nat.ne_of_lt (by rw [g5]; exact f4_160.lt)
        have ne_b3_b5 : b3 ≠ b5 := Nat.ne_of_lt (by rw [g5]; exact A3.lt)
        have f6_174 := f4_157.ext E5
        have f6_175 := Avf.ext f4_158 E5
        have f6_176 := Avf.ext f4_159 E5
        have f6_177 := Avf.ext f4_160 E5
        have f6_178 := A3.ext E5
        have f6_179 := F3_typeName.ext E5
        have f6_180 := F3_identifier.ext E5
        have Zs6 : n0 ≤ h5.size := Nat.le_trans Zs4 E5.1
        have F5_coder : Fld Z h5 b5 "java/lang/String" "coder" "B" (.int (0 : Int32)) := D5 (Or.inr (tw hw 35 rfl)) (ty := .byte) (by decide)
        have F5_value : Fld Z h5 b5 "java/lang/String" "value" "[B" .null := D5 (Or.inr (tw hw 37 rfl)) (ty := (.array .byte)) (by decide)
        refine Go.by st5 ?_
        show Go p.tables e below _ (T5.setTop (mkF m 282 #[.val (.int p0), .val (.int p1), .val (.int p2), .val (.int y3), .val (.int y4), .val (.int x5), .val (.int x6), .val (.int x7), .val (.int x8), .val (.int x9), .val (.int x10), .val (.ref u11), .val (.ref u12), .val (.ref u13), .val (.int e14), .unset, .unset] [(.ref b5), (.ref b3), (.ref b3)]))
        refine Go.by (fun _ => XS.dup X5.here hx rfl (hb hby at_282) rfl rfl) ?_
        show Go p.tables e below _ (T5.setTop (mkF m 283 #[.val (.int p0), .val (.int p1), .val (.int p2), .val (.int y3), .val (.int y4), .val (.int x5), .val (.int x6), .val (.int x7), .val (.int x8), .val (.int x9), .val (.int x10), .val (.ref u11), .val (.ref u12), .val (.ref u13), .val (.int e14), .unset, .unset] [(.ref b5), (.ref b5), (.ref b3), (.ref b3)]))
        refine Go.by (fun _ => XS.aload X5.here hx rfl (hb hby at_283) rfl rfl) ?_
        show Go p.tables e below _ (T5.setTop (mkF m 285 #[.val (.int p0), .val (.int p1), .val (.int p2), .val (.int y3), .val (.int y4), .val (.int x5), .val (.int x6), .val (.int x7), .val (.int x8), .val (.int x9), .val (.int x10), .val (.ref u11), .val (.ref u12), .val (.ref u13), .val (.int e14), .unset, .unset] [(.ref u11), (.ref b5), (.ref b5), (.ref b3), (.ref b3)]))
        obtain ⟨v7, T7, h7, X7, q7, xs7, st7⟩ := X5.callI hx hZ (f0s (List.mem_cons_self ..) f0n) (y := (⟨"java/lang/String", "<init>", "([C)V"⟩ : MethodName)) rfl hown (tw hw 12 rfl) (tw hw 13 rfl) (tw hw 11 rfl) (tw hw 14 rfl) (by decide) (rmW l Z a0 hw [] b5 u11 k11 N1 (c3 x5 x6 x7) cs h5 n0 Zs6 f6_174 S_CS0 hcs A5 g_b5 F5_value F5_coder f6_175 (own_hcx (own_c3b b_x5 b_x6 b_x7)) (by omega)) (g := (mkF m 285 #[.val (.int p0), .val (.int p1), .val (.int p2), .val (.int y3), .val (.int y4), .val (.int x5), .val (.int x6), .val (.int x7), .val (.int x8), .val (.int x9), .val (.int x10), .val (.ref u11), .val (.ref u12), .val (.ref u13), .val (.int e14), .unset, .unset] [(.ref u11), (.ref b5), (.ref b5), (.ref b3), (.ref b3)])) rfl (by rw [hml]; rfl) (argsL := [(.ref u11)]) (rest := [(.ref b5), (.ref b3), (.ref b3)]) (lenOf pd27 rfl) rfl (hb hby at_285) rfl (by decide) (Nat.le_of_ble_eq_true rfl) (k' := 6) (n' := 27) rfl rfl (by decide) (by decide)
        refine Go.by st7 ?_
        obtain ⟨rfl, K7, Ex7, d7, kc7, sd7, Fv7, Fc7, V7⟩ := q7
        have g_d7 : n0 ≤ d7 := Nat.le_trans Zs6 sd7
        have ne_u11_d7 : u11 ≠ d7 := Nat.ne_of_lt (Nat.lt_of_lt_of_le f6_175.lt sd7)
        have ne_u12_d7 : u12 ≠ d7 := Nat.ne_of_lt (Nat.lt_of_lt_of_le f6_176.lt sd7)
        have ne_u13_d7 : u13 ≠ d7 := Nat.ne_of_lt (Nat.lt_of_lt_of_le f6_177.lt sd7)
        have ne_b3_d7 : b3 ≠ d7 := Nat.ne_of_lt (Nat.lt_of_lt_of_le f6_178.lt sd7)
        have ne_b5_d7 : b5 ≠ d7 := Nat.ne_of_lt (Nat.lt_of_lt_of_le A5.lt sd7)
        have f8_199 := f6_174.keep K7 (allS g_b5 all0)
        have f8_200 := Avf.keep f6_175 K7 (ninS ne_u11_b5 nin0)
        have f8_201 := Avf.keep f6_176 K7 (ninS ne_u12_b5 nin0)
        have f8_202 := Avf.keep f6_177 K7 (ninS ne_u13_b5 nin0)
        have f8_203 := f6_178.keep K7
        have f8_204 := f6_179.keep K7 (ninS ne_b3_b5 nin0)
        have f8_205 := f6_180.keep K7 (ninS ne_b3_b5 nin0)
        have f8_206 := A5.keep K7
        have Zs8 : n0 ≤ h7.size := Nat.le_trans Zs6 K7.1
        show Go p.tables e below _ (T7.setTop (mkF m 288 #[.val (.int p0), .val (.int p1), .val (.int p2), .val (.int y3), .val (.int y4), .val (.int x5), .val (.int x6), .val (.int x7), .val (.int x8), .val (.int x9), .val (.int x10), .val (.ref u11), .val (.ref u12), .val (.ref u13), .val (.int e14), .unset, .unset] [(.ref b5), (.ref b3), (.ref b3)]))
        obtain ⟨T9, h9, b9, X9, g9, E9, A9, D9, st9⟩ := X7.newOF hx hZ hown (tw hw 9 rfl) (tw hw 10 rfl) (tw hw 11 rfl) (g := (mkF m 288 #[.val (.int p0), .val (.int p1), .val (.int p2), .val (.int y3), .val (.int y4), .val (.int x5), .val (.int x6), .val (.int x7), .val (.int x8), .val (.int x9), .val (.int x10), .val (.ref u11), .val (.ref u12), .val (.ref u13), .val (.int e14), .unset, .unset] [(.ref b5), (.ref b3), (.ref b3)])) rfl (hb hby at_288) (k' := 7) (n' := 31) rfl rfl (by decide) (by decide)
        have g_b9 : n0 ≤ b9 := by rw [g9]; exact Zs8
        have ne_u11_b9 : u11 ≠ b9 := Nat.ne_of_lt (by rw [g9]; exact f8_200.lt)
        have ne_u12_b9 : u12 ≠ b9 := Nat.ne_of_lt (by rw [g9]; exact f8_201.lt)
        have ne_u13_b9 : u13 ≠ b9 := Nat.ne_of_lt (by rw [g9]; exact f8_202.lt)
        have ne_b3_b9 : b3 ≠ b9 := Nat.ne_of_lt (by rw [g9]; exact f8_203.lt)
        have ne_b5_b9 : b5 ≠ b9 := Nat.ne_of_lt (by rw [g9]; exact Ex7.lt)
        have ne_d7_b9 : d7 ≠ b9 := Nat.ne_of_lt (by rw [g9]; exact V7.lt)
        have f10_217 := f8_199.ext E9
        have f10_218 := Avf.ext f8_200 E9
        have f10_219 := Avf.ext f8_201 E9
        have f10_220 := Avf.ext f8_202 E9
        have f10_221 := f8_203.ext E9
        have f10_222 := f8_204.ext E9
        have f10_223 := f8_205.ext E9
        have f10_224 := Ex7.ext E9
        have f10_225 := Fv7.ext E9
        have f10_226 := Fc7.ext E9
        have f10_227 := Avf.ext V7 E9
        have Zs10 : n0 ≤ h9.size := Nat.le_trans Zs8 E9.1
        have F9_coder : Fld Z h9 b9 "java/lang/String" "coder" "B" (.int (0 : Int32)) := D9 (Or.inr (tw hw 35 rfl)) (ty := .byte) (by decide)
        have F9_value : Fld Z h9 b9 "java/lang/String" "value" "[B" .null := D9 (Or.inr (tw hw 37 rfl)) (ty := (.array .byte)) (by decide)
        refine Go.by st9 ?_
        show Go p.tables e below _ (T9.setTop (mkF m 291 #[.val (.int p0), .val (.int p1), .val (.int p2), .val (.int y3), .val (.int y4), .val (.int x5), .val (.int x6), .val (.int x7), .val (.int x8), .val (.int x9), .val (.int x10), .val (.ref u11), .val (.ref u12), .val (.ref u13), .val (.int e14), .unset, .unset] [(.ref b9), (.ref b5), (.ref b3), (.ref b3)]))
        refine Go.by (fun _ => XS.dup X9.here hx rfl (hb hby at_291) rfl rfl) ?_
        show Go p.tables e below _ (T9.setTop (mkF m 292 #[.val (.int p0), .val (.int p1), .val (.int p2), .val (.int y3), .val (.int y4), .val (.int x5), .val (.int x6), .val (.int x7), .val (.int x8), .val (.int x9), .val (.int x10), .val (.ref u11), .val (.ref u12), .val (.ref u13), .val (.int e14), .unset, .unset] [(.ref b9), (.ref b9), (.ref b5), (.ref b3), (.ref b3)]))
        refine Go.by (fun _ => XS.aload X9.here hx rfl (hb hby at_292) rfl rfl) ?_
        show Go p.tables e below _ (T9.setTop (mkF m 294 #[.val (.int p0), .val (.int p1), .val (.int p2), .val (.int y3), .val (.int y4), .val (.int x5), .val (.int x6), .val (.int x7), .val (.int x8), .val (.int x9), .val (.int x10), .val (.ref u11), .val (.ref u12), .val (.ref u13), .val (.int e14), .unset, .unset] [(.ref u12), (.ref b9), (.ref b9), (.ref b5), (.ref b3), (.ref b3)]))
        obtain ⟨v11, T11, h11, X11, q11, xs11, st11⟩ := X9.callI hx hZ (f0s (List.mem_cons_self ..) f0n) (y := (⟨"java/lang/String", "<init>", "([C)V"⟩ : MethodName)) rfl hown (tw hw 12 rfl) (tw hw 13 rfl) (tw hw 11 rfl) (tw hw 14 rfl) (by decide) (rmW l Z a0 hw [] b9 u12 k12 N2 (c3 x8 x9 x10) cs h9 n0 Zs10 f10_217 S_CS0 hcs A9 g_b9 F9_value F9_coder f10_219 (own_hcx (own_c3b b_x8 b_x9 b_x10)) (by omega)) (g := (mkF m 294 #[.val (.int p0), .val (.int p1), .val (.int p2), .val (.int y3), .val (.int y4), .val (.int x5), .val (.int x6), .val (.int x7), .val (.int x8), .val (.int x9), .val (.int x10), .val (.ref u11), .val (.ref u12), .val (.ref u13), .val (.int e14), .unset, .unset] [(.ref u12), (.ref b9), (.ref b9), (.ref b5), (.ref b3), (.ref b3)])) rfl (by rw [hml]; rfl) (argsL := [(.ref u12)]) (rest := [(.ref b9), (.ref b5), (.ref b3), (.ref b3)]) (lenOf pd27 rfl) rfl (hb hby at_294) rfl (by decide) (Nat.le_of_ble_eq_true rfl) (k' := 8) (n' := 39) rfl rfl (by decide) (by decide)
        refine Go.by st11 ?_
        obtain ⟨rfl, K11, Ex11, d11, kc11, sd11, Fv11, Fc11, V11⟩ := q11
        have g_d11 : n0 ≤ d11 := Nat.le_trans Zs10 sd11
        have ne_u11_d11 : u11 ≠ d11 := Nat.ne_of_lt (Nat.lt_of_lt_of_le f10_218.lt sd11)
        have ne_u12_d11 : u12 ≠ d11 := Nat.ne_of_lt (Nat.lt_of_lt_of_le f10_219.lt sd11)
        have ne_u13_d11 : u13 ≠ d11 := Nat.ne_of_lt (Nat.lt_of_lt_of_le f10_220.lt sd11)
        have ne_b3_d11 : b3 ≠ d11 := Nat.ne_of_lt (Nat.lt_of_lt_of_le f10_221.lt sd11)
        have ne_b5_d11 : b5 ≠ d11 := Nat.ne_of_lt (Nat.lt_of_lt_of_le f10_224.lt sd11)
        have ne_d7_d11 : d7 ≠ d11 := Nat.ne_of_lt (Nat.lt_of_lt_of_le f10_227.lt sd11)
        have ne_b9_d11 : b9 ≠ d11 := Nat.ne_of_lt (Nat.lt_of_lt_of_le A9.lt sd11)
        have f12_248 := f10_217.keep K11 (allS g_b9 all0)
        have f12_249 := Avf.keep f10_218 K11 (ninS ne_u11_b9 nin0)
        have f12_250 := Avf.keep f10_219 K11 (ninS ne_u12_b9 nin0)
        have f12_251 := Avf.keep f10_220 K11 (ninS ne_u13_b9 nin0)
        have f12_252 := f10_221.keep K11
        have f12_253 := f10_222.keep K11 (ninS ne_b3_b9 nin0)
        have f12_254 := f10_223.keep K11 (ninS ne_b3_b9 nin0)
        have f12_255 := f10_224.keep K11
        have f12_256 := f10_225.keep K11 (ninS ne_b5_b9 nin0)
        have f12_257 := f10_226.keep K11 (ninS ne_b5_b9 nin0)
        have f12_258 := Avf.keep f10_227 K11 (ninS ne_d7_b9 nin0)
        have f12_259 := A9.keep K11
        have Zs12 : n0 ≤ h11.size := Nat.le_trans Zs10 K11.1
        show Go p.tables e below _ (T11.setTop (mkF m 297 #[.val (.int p0), .val (.int p1), .val (.int p2), .val (.int y3), .val (.int y4), .val (.int x5), .val (.int x6), .val (.int x7), .val (.int x8), .val (.int x9), .val (.int x10), .val (.ref u11), .val (.ref u12), .val (.ref u13), .val (.int e14), .unset, .unset] [(.ref b9), (.ref b5), (.ref b3), (.ref b3)]))
        obtain ⟨v13, T13, h13, X13, q13, xs13, st13⟩ := X11.callI hx hZ f0n (y := (⟨"com/example/istorie/istorie/EntityId", "<init>", "(Ljava/lang/String;Ljava/lang/String;)V"⟩ : MethodName)) rfl hown (tw hw 38 rfl) (tw hw 39 rfl) (tw hw 8 rfl) (tw hw 40 rfl) (by decide) (rm8 l Z a0 hw [] b3 b5 b9 cs d7 d11 kc7 kc11 N1 N2 (fun j => ((c3 x5 x6 x7) j).toInt8.toInt32) (fun j => ((c3 x8 x9 x10) j).toInt8.toInt32) aA aI kA h11 n0 Zs12 f12_248 S_CS0 hcs f12_252 g_b3 f12_253 f12_254 f12_255 f12_256 f12_257 f12_258 Ex11 Fv11 Fc11 V11 S_A0 V_A0 S_I0 E_I0 hblk hNN.2.2.1) (g := (mkF m 297 #[.val (.int p0), .val (.int p1), .val (.int p2), .val (.int y3), .val (.int y4), .val (.int x5), .val (.int x6), .val (.int x7), .val (.int x8), .val (.int x9), .val (.int x10), .val (.ref u11), .val (.ref u12), .val (.ref u13), .val (.int e14), .unset, .unset] [(.ref b9), (.ref b5), (.ref b3), (.ref b3)])) rfl (by rw [hml]; rfl) (argsL := [(.ref b5), (.ref b9)]) (rest := [(.ref b3)]) (lenOf pd28 rfl) rfl (hb hby at_297) rfl (by decide) (Nat.le_of_ble_eq_true rfl) (k' := 12) (n' := 119) rfl rfl (by decide) (by decide)
        refine Go.by st13 ?_
        obtain ⟨rfl, K13, Ex13, Ft13, Fi13⟩ := q13
        have f14_265 := f12_248.keep K13 (allS g_b3 all0)
        have f14_266 := Avf.keep f12_249 K13 (ninS ne_u11_b3 nin0)
        have f14_267 := Avf.keep f12_250 K13 (ninS ne_u12_b3 nin0)
        have f14_268 := Avf.keep f12_251 K13 (ninS ne_u13_b3 nin0)
        have f14_269 := f12_252.keep K13
        have f14_270 := f12_255.keep K13
        have f14_271 := f12_256.keep K13 (ninS (Ne.symm ne_b3_b5) nin0)
        have f14_272 := f12_257.keep K13 (ninS (Ne.symm ne_b3_b5) nin0)
        have f14_273 := Avf.keep f12_258 K13 (ninS (Ne.symm ne_b3_d7) nin0)
        have f14_274 := Ex11.keep K13
        have f14_275 := Fv11.keep K13 (ninS (Ne.symm ne_b3_b9) nin0)
        have f14_276 := Fc11.keep K13 (ninS (Ne.symm ne_b3_b9) nin0)
        have f14_277 := Avf.keep V11 K13 (ninS (Ne.symm ne_b3_d11) nin0)
        have Zs14 : n0 ≤ h13.size := Nat.le_trans Zs12 K13.1
        show Go p.tables e below _ (T13.setTop (mkF m 300 #[.val (.int p0), .val (.int p1), .val (.int p2), .val (.int y3), .val (.int y4), .val (.int x5), .val (.int x6), .val (.int x7), .val (.int x8), .val (.int x9), .val (.int x10), .val (.ref u11), .val (.ref u12), .val (.ref u13), .val (.int e14), .unset, .unset] [(.ref b3)]))
        refine Go.by (fun _ => XS.astore X13.here hx rfl (hb hby at_300) rfl rfl (l' := #[.val (.int p0), .val (.int p1), .val (.int p2), .val (.int y3), .val (.int y4), .val (.int x5), .val (.int x6), .val (.int x7), .val (.int x8), .val (.int x9), .val (.int x10), .val (.ref u11), .val (.ref u12), .val (.ref u13), .val (.int e14), .val (.ref b3), .unset]) rfl) ?_
        show Go p.tables e below _ (T13.setTop (mkF m 302 #[.val (.int p0), .val (.int p1), .val (.int p2), .val (.int y3), .val (.int y4), .val (.int x5), .val (.int x6), .val (.int x7), .val (.int x8), .val (.int x9), .val (.int x10), .val (.ref u11), .val (.ref u12), .val (.ref u13), .val (.int e14), .val (.ref b3), .unset] []))
        refine Go.by (fun _ => XS.aload X13.here hx rfl (hb hby at_302) rfl rfl) ?_
        show Go p.tables e below _ (T13.setTop (mkF m 304 #[.val (.int p0), .val (.int p1), .val (.int p2), .val (.int y3), .val (.int y4), .val (.int x5), .val (.int x6), .val (.int x7), .val (.int x8), .val (.int x9), .val (.int x10), .val (.ref u11), .val (.ref u12), .val (.ref u13), .val (.int e14), .val (.ref b3), .unset] [(.ref b3)]))
        obtain ⟨v15, T15, h15, X15, q15, xs15, st15⟩ := X13.callV hx hZ f0n (y := (⟨"com/example/istorie/istorie/EntityId", "value", "()Ljava/lang/String;"⟩ : MethodName)) (z := (⟨"com/example/istorie/istorie/EntityId", "value", "()Ljava/lang/String;"⟩ : MethodName)) hown (tw hw 109 rfl) (tw hw 110 rfl) (fun _ hZ => notFace_of_selects (args := #[]) (mvT hZ (tw hw 112 rfl))) (tw hw 112 rfl) (tw hw 111 rfl) (tw hw 8 rfl) (tw hw 113 rfl) (by decide) (rm21 l Z a0 hw [] b3 cs b5 b9 d7 d11 kc7 kc11 N1 N2 (fun j => ((c3 x5 x6 x7) j).toInt8.toInt32) (fun j => ((c3 x8 x9 x10) j).toInt8.toInt32) h13 n0 Zs14 f14_265 S_CS0 hcs Ex13 Ft13 Fi13 f14_270 f14_271 f14_272 f14_273 f14_274 f14_275 f14_276 f14_277 ⟨hNN.2.1, hNN.2.2.2⟩) Ex13 (g := (mkF m 304 #[.val (.int p0), .val (.int p1), .val (.int p2), .val (.int y3), .val (.int y4), .val (.int x5), .val (.int x6), .val (.int x7), .val (.int x8), .val (.int x9), .val (.int x10), .val (.ref u11), .val (.ref u12), .val (.ref u13), .val (.int e14), .val (.ref b3), .unset] [(.ref b3)])) rfl (by rw [hml]; rfl) (argsL := []) (rest := []) (lenOf pd26 rfl) rfl (hb hby at_304) rfl (by decide) (Nat.le_of_ble_eq_true rfl) (k' := 18) (n' := 166) rfl rfl (by decide) (by decide)
        refine Go.by st15 ?_
        obtain ⟨r15, d15, kc15, rfl, sr15, sd15, K15, Ex15, Fv15, Fc15, V15⟩ := q15
        have g_r15 : n0 ≤ r15 := Nat.le_trans Zs14 sr15
        have ne_u11_r15 : u11 ≠ r15 := Nat.ne_of_lt (Nat.lt_of_lt_of_le f14_266.lt sr15)
        have ne_u12_r15 : u12 ≠ r15 := Nat.ne_of_lt (Nat.lt_of_lt_of_le f14_267.lt sr15)
        have ne_u13_r15 : u13 ≠ r15 := Nat.ne_of_lt (Nat.lt_of_lt_of_le f14_268.lt sr15)
        have ne_b3_r15 : b3 ≠ r15 := Nat.ne_of_lt (Nat.lt_of_lt_of_le Ex13.lt sr15)
        have ne_b5_r15 : b5 ≠ r15 := Nat.ne_of_lt (Nat.lt_of_lt_of_le f14_270.lt sr15)
        have ne_d7_r15 : d7 ≠ r15 := Nat.ne_of_lt (Nat.lt_of_lt_of_le f14_273.lt sr15)
        have ne_b9_r15 : b9 ≠ r15 := Nat.ne_of_lt (Nat.lt_of_lt_of_le f14_274.lt sr15)
        have ne_d11_r15 : d11 ≠ r15 := Nat.ne_of_lt (Nat.lt_of_lt_of_le f14_277.lt sr15)
        have g_d15 : n0 ≤ d15 := Nat.le_trans Zs14 sd15
        have ne_u11_d15 : u11 ≠ d15 := Nat.ne_of_lt (Nat.lt_of_lt_of_le f14_266.lt sd15)
        have ne_u12_d15 : u12 ≠ d15 := Nat.ne_of_lt (Nat.lt_of_lt_of_le f14_267.lt sd15)
        have ne_u13_d15 : u13 ≠ d15 := Nat.ne_of_lt (Nat.lt_of_lt_of_le f14_268.lt sd15)
        have ne_b3_d15 : b3 ≠ d15 := Nat.ne_of_lt (Nat.lt_of_lt_of_le Ex13.lt sd15)
        have ne_b5_d15 : b5 ≠ d15 := Nat.ne_of_lt (Nat.lt_of_lt_of_le f14_270.lt sd15)
        have ne_d7_d15 : d7 ≠ d15 := Nat.ne_of_lt (Nat.lt_of_lt_of_le f14_273.lt sd15)
        have ne_b9_d15 : b9 ≠ d15 := Nat.ne_of_lt (Nat.lt_of_lt_of_le f14_274.lt sd15)
        have ne_d11_d15 : d11 ≠ d15 := Nat.ne_of_lt (Nat.lt_of_lt_of_le f14_277.lt sd15)
        have f16_305 := f14_265.ext (keep_ext K15)
        have f16_306 := Avf.ext f14_266 (keep_ext K15)
        have f16_307 := Avf.ext f14_267 (keep_ext K15)
        have f16_308 := Avf.ext f14_268 (keep_ext K15)
        have f16_309 := Ex13.ext (keep_ext K15)
        have f16_310 := f14_270.ext (keep_ext K15)
        have f16_311 := f14_271.ext (keep_ext K15)
        have f16_312 := f14_272.ext (keep_ext K15)
        have f16_313 := Avf.ext f14_273 (keep_ext K15)
        have f16_314 := f14_274.ext (keep_ext K15)
        have f16_315 := f14_275.ext (keep_ext K15)
        have f16_316 := f14_276.ext (keep_ext K15)
        have f16_317 := Avf.ext f14_277 (keep_ext K15)
        have f16_318 := Ft13.ext (keep_ext K15)
        have f16_319 := Fi13.ext (keep_ext K15)
        have Zs16 : n0 ≤ h15.size := Nat.le_trans Zs14 (keep_ext K15).1
        show Go p.tables e below _ (T15.setTop (mkF m 307 #[.val (.int p0), .val (.int p1), .val (.int p2), .val (.int y3), .val (.int y4), .val (.int x5), .val (.int x6), .val (.int x7), .val (.int x8), .val (.int x9), .val (.int x10), .val (.ref u11), .val (.ref u12), .val (.ref u13), .val (.int e14), .val (.ref b3), .unset] [(.ref r15)]))
        refine Go.by (fun _ => XS.astore X15.here hx rfl (hb hby at_307) rfl rfl (l' := #[.val (.int p0), .val (.int p1), .val (.int p2), .val (.int y3), .val (.int y4), .val (.int x5), .val (.int x6), .val (.int x7), .val (.int x8), .val (.int x9), .val (.int x10), .val (.ref u11), .val (.ref u12), .val (.ref u13), .val (.int e14), .val (.ref b3), .val (.ref r15)]) rfl) ?_
        show Go p.tables e below _ (T15.setTop (mkF m 309 #[.val (.int p0), .val (.int p1), .val (.int p2), .val (.int y3), .val (.int y4), .val (.int x5), .val (.int x6), .val (.int x7), .val (.int x8), .val (.int x9), .val (.int x10), .val (.ref u11), .val (.ref u12), .val (.ref u13), .val (.int e14), .val (.ref b3), .val (.ref r15)] []))
        obtain ⟨T17, h17, b17, X17, g17, E17, A17, D17, st17⟩ := X15.newOF hx hZ hown (tw hw 9 rfl) (tw hw 10 rfl) (tw hw 11 rfl) (g := (mkF m 309 #[.val (.int p0), .val (.int p1), .val (.int p2), .val (.int y3), .val (.int y4), .val (.int x5), .val (.int x6), .val (.int x7), .val (.int x8), .val (.int x9), .val (.int x10), .val (.ref u11), .val (.ref u12), .val (.ref u13), .val (.int e14), .val (.ref b3), .val (.ref r15)] [])) rfl (hb hby at_309) (k' := 19) (n' := 170) rfl rfl (by decide) (by decide)
        have g_b17 : n0 ≤ b17 := by rw [g17]; exact Zs16
        have ne_u11_b17 : u11 ≠ b17 := Nat.ne_of_lt (by rw [g17]; exact f16_306.lt)
        have ne_u12_b17 : u12 ≠ b17 := Nat.ne_of_lt (by rw [g17]; exact f16_307.lt)
        have ne_u13_b17 : u13 ≠ b17 := Nat.ne_of_lt (by rw [g17]; exact f16_308.lt)
        have ne_b3_b17 : b3 ≠ b17 := Nat.ne_of_lt (by rw [g17]; exact f16_309.lt)
        have ne_b5_b17 : b5 ≠ b17 := Nat.ne_of_lt (by rw [g17]; exact f16_310.lt)
        have ne_d7_b17 : d7 ≠ b17 := Nat.ne_of_lt (by rw [g17]; exact f16_313.lt)
        have ne_b9_b17 : b9 ≠ b17 := Nat.ne_of_lt (by rw [g17]; exact f16_314.lt)
        have ne_d11_b17 : d11 ≠ b17 := Nat.ne_of_lt (by rw [g17]; exact f16_317.lt)
        have ne_r15_b17 : r15 ≠ b17 := Nat.ne_of_lt (by rw [g17]; exact Ex15.lt)
        have ne_d15_b17 : d15 ≠ b17 := Nat.ne_of_lt (by rw [g17]; exact V15.lt)
        have f18_336 := f16_305.ext E17
        have f18_337 := Avf.ext f16_306 E17
        have f18_338 := Avf.ext f16_307 E17
        have f18_339 := Avf.ext f16_308 E17
        have f18_340 := f16_309.ext E17
        have f18_341 := f16_310.ext E17
        have f18_342 := f16_311.ext E17
        have f18_343 := f16_312.ext E17
        have f18_344 := Avf.ext f16_313 E17
        have f18_345 := f16_314.ext E17
        have f18_346 := f16_315.ext E17
        have f18_347 := f16_316.ext E17
        have f18_348 := Avf.ext f16_317 E17
        have f18_349 := f16_318.ext E17
        have f18_350 := f16_319.ext E17
        have f18_351 := Ex15.ext E17
        have f18_352 := Fv15.ext E17
        have f18_353 := Fc15.ext E17
        have f18_354 := Avf.ext V15 E17
        have Zs18 : n0 ≤ h17.size := Nat.le_trans Zs16 E17.1
        have F17_coder : Fld Z h17 b17 "java/lang/String" "coder" "B" (.int (0 : Int32)) := D17 (Or.inr (tw hw 35 rfl)) (ty := .byte) (by decide)
        have F17_value : Fld Z h17 b17 "java/lang/String" "value" "[B" .null := D17 (Or.inr (tw hw 37 rfl)) (ty := (.array .byte)) (by decide)
        refine Go.by st17 ?_
        show Go p.tables e below _ (T17.setTop (mkF m 312 #[.val (.int p0), .val (.int p1), .val (.int p2), .val (.int y3), .val (.int y4), .val (.int x5), .val (.int x6), .val (.int x7), .val (.int x8), .val (.int x9), .val (.int x10), .val (.ref u11), .val (.ref u12), .val (.ref u13), .val (.int e14), .val (.ref b3), .val (.ref r15)] [(.ref b17)]))
        refine Go.by (fun _ => XS.dup X17.here hx rfl (hb hby at_312) rfl rfl) ?_
        show Go p.tables e below _ (T17.setTop (mkF m 313 #[.val (.int p0), .val (.int p1), .val (.int p2), .val (.int y3), .val (.int y4), .val (.int x5), .val (.int x6), .val (.int x7), .val (.int x8), .val (.int x9), .val (.int x10), .val (.ref u11), .val (.ref u12), .val (.ref u13), .val (.int e14), .val (.ref b3), .val (.ref r15)] [(.ref b17), (.ref b17)]))
        refine Go.by (fun _ => XS.aload X17.here hx rfl (hb hby at_313) rfl rfl) ?_
        show Go p.tables e below _ (T17.setTop (mkF m 315 #[.val (.int p0), .val (.int p1), .val (.int p2), .val (.int y3), .val (.int y4), .val (.int x5), .val (.int x6), .val (.int x7), .val (.int x8), .val (.int x9), .val (.int x10), .val (.ref u11), .val (.ref u12), .val (.ref u13), .val (.int e14), .val (.ref b3), .val (.ref r15)] [(.ref u13), (.ref b17), (.ref b17)]))
        obtain ⟨v19, T19, h19, X19, q19, xs19, st19⟩ := X17.callI hx hZ (f0s (List.mem_cons_self ..) f0n) (y := (⟨"java/lang/String", "<init>", "([C)V"⟩ : MethodName)) rfl hown (tw hw 12 rfl) (tw hw 13 rfl) (tw hw 11 rfl) (tw hw 14 rfl) (by decide) (rmW l Z a0 hw [] b17 u13 k13 (N1 + 1 + N2) (c7 N1 (c3 x5 x6 x7) (c3 x8 x9 x10)) cs h17 n0 Zs18 f18_336 S_CS0 hcs A17 g_b17 F17_value F17_coder f18_339 (own_hcx (own_c7b (own_c3b b_x5 b_x6 b_x7) (own_c3b b_x8 b_x9 b_x10))) (by omega)) (g := (mkF m 315 #[.val (.int p0), .val (.int p1), .val (.int p2), .val (.int y3), .val (.int y4), .val (.int x5), .val (.int x6), .val (.int x7), .val (.int x8), .val (.int x9), .val (.int x10), .val (.ref u11), .val (.ref u12), .val (.ref u13), .val (.int e14), .val (.ref b3), .val (.ref r15)] [(.ref u13), (.ref b17), (.ref b17)])) rfl (by rw [hml]; rfl) (argsL := [(.ref u13)]) (rest := [(.ref b17)]) (lenOf pd27 rfl) rfl (hb hby at_315) rfl (by decide) (Nat.le_of_ble_eq_true rfl) (k' := 20) (n' := 178) rfl rfl (by decide) (by decide)
        refine Go.by st19 ?_
        obtain ⟨rfl, K19, Ex19, d19, kc19, sd19, Fv19, Fc19, V19⟩ := q19
        have g_d19 : n0 ≤ d19 := Nat.le_trans Zs18 sd19
        have ne_u11_d19 : u11 ≠ d19 := Nat.ne_of_lt (Nat.lt_of_lt_of_le f18_337.lt sd19)
        have ne_u12_d19 : u12 ≠ d19 := Nat.ne_of_lt (Nat.lt_of_lt_of_le f18_338.lt sd19)
        have ne_u13_d19 : u13 ≠ d19 := Nat.ne_of_lt (Nat.lt_of_lt_of_le f18_339.lt sd19)
        have ne_b3_d19 : b3 ≠ d19 := Nat.ne_of_lt (Nat.lt_of_lt_of_le f18_340.lt sd19)
        have ne_b5_d19 : b5 ≠ d19 := Nat.ne_of_lt (Nat.lt_of_lt_of_le f18_341.lt sd19)
        have ne_d7_d19 : d7 ≠ d19 := Nat.ne_of_lt (Nat.lt_of_lt_of_le f18_344.lt sd19)
        have ne_b9_d19 : b9 ≠ d19 := Nat.ne_of_lt (Nat.lt_of_lt_of_le f18_345.lt sd19)
        have ne_d11_d19 : d11 ≠ d19 := Nat.ne_of_lt (Nat.lt_of_lt_of_le f18_348.lt sd19)
        have ne_r15_d19 : r15 ≠ d19 := Nat.ne_of_lt (Nat.lt_of_lt_of_le f18_351.lt sd19)
        have ne_d15_d19 : d15 ≠ d19 := Nat.ne_of_lt (Nat.lt_of_lt_of_le f18_354.lt sd19)
        have ne_b17_d19 : b17 ≠ d19 := Nat.ne_of_lt (Nat.lt_of_lt_of_le A17.lt sd19)
        have f20_379 := f18_336.keep K19 (allS g_b17 all0)
        have f20_380 := Avf.keep f18_337 K19 (ninS ne_u11_b17 nin0)
        have f20_381 := Avf.keep f18_338 K19 (ninS ne_u12_b17 nin0)
        have f20_382 := Avf.keep f18_339 K19 (ninS ne_u13_b17 nin0)
        have f20_383 := f18_340.keep K19
        have f20_384 := f18_341.keep K19
        have f20_385 := f18_342.keep K19 (ninS ne_b5_b17 nin0)
        have f20_386 := f18_343.keep K19 (ninS ne_b5_b17 nin0)
        have f20_387 := Avf.keep f18_344 K19 (ninS ne_d7_b17 nin0)
        have f20_388 := f18_345.keep K19
        have f20_389 := f18_346.keep K19 (ninS ne_b9_b17 nin0)
        have f20_390 := f18_347.keep K19 (ninS ne_b9_b17 nin0)
        have f20_391 := Avf.keep f18_348 K19 (ninS ne_d11_b17 nin0)
        have f20_392 := f18_349.keep K19 (ninS ne_b3_b17 nin0)
        have f20_393 := f18_350.keep K19 (ninS ne_b3_b17 nin0)
        have f20_394 := f18_351.keep K19
        have f20_395 := f18_352.keep K19 (ninS ne_r15_b17 nin0)
        have f20_396 := f18_353.keep K19 (ninS ne_r15_b17 nin0)
        have f20_397 := Avf.keep f18_354 K19 (ninS ne_d15_b17 nin0)
        have f20_398 := A17.keep K19
        have Zs20 : n0 ≤ h19.size := Nat.le_trans Zs18 K19.1
        show Go p.tables e below _ (T19.setTop (mkF m 318 #[.val (.int p0), .val (.int p1), .val (.int p2), .val (.int y3), .val (.int y4), .val (.int x5), .val (.int x6), .val (.int x7), .val (.int x8), .val (.int x9), .val (.int x10), .val (.ref u11), .val (.ref u12), .val (.ref u13), .val (.int e14), .val (.ref b3), .val (.ref r15)] [(.ref b17)]))
        refine Go.by (fun _ => XS.aload X19.here hx rfl (hb hby at_318) rfl rfl) ?_
        show Go p.tables e below _ (T19.setTop (mkF m 320 #[.val (.int p0), .val (.int p1), .val (.int p2), .val (.int y3), .val (.int y4), .val (.int x5), .val (.int x6), .val (.int x7), .val (.int x8), .val (.int x9), .val (.int x10), .val (.ref u11), .val (.ref u12), .val (.ref u13), .val (.int e14), .val (.ref b3), .val (.ref r15)] [(.ref r15), (.ref b17)]))
        obtain ⟨v21, T21, h21, X21, q21, xs21, st21⟩ := X19.callV hx hZ f0n (y := (⟨"java/lang/String", "equals", "(Ljava/lang/Object;)Z"⟩ : MethodName)) (z := (⟨"java/lang/String", "equals", "(Ljava/lang/Object;)Z"⟩ : MethodName)) hown (tw hw 216 rfl) (tw hw 217 rfl) (fun _ hZ => notFace_of_selects (args := #[]) (mvT hZ (tw hw 219 rfl))) (tw hw 219 rfl) (tw hw 218 rfl) (tw hw 11 rfl) (tw hw 220 rfl) (by decide) (rm41 l Z a0 hw [] b17 r15 cs d19 d15 kc19 kc15 (N1 + 1 + N2) (0 + N1 + 1 + N2) (fun j => ((c7 N1 (c3 x5 x6 x7) (c3 x8 x9 x10)) j).toInt8.toInt32) (apg (0 + N1 + 1) N2 (fun j => ((c3 x8 x9 x10) j).toInt8.toInt32) (apg (0 + N1) 1 (fun _ => (47 : Int32)) (apg 0 N1 (fun j => ((c3 x5 x6 x7) j).toInt8.toInt32) (fun _ => (0 : Int32))))) h19 n0 Zs20 f20_379 S_CS0 hcs Ex19 Fv19 Fc19 V19 f20_394 f20_395 f20_396 f20_397) Ex19 (g := (mkF m 320 #[.val (.int p0), .val (.int p1), .val (.int p2), .val (.int y3), .val (.int y4), .val (.int x5), .val (.int x6), .val (.int x7), .val (.int x8), .val (.int x9), .val (.int x10), .val (.ref u11), .val (.ref u12), .val (.ref u13), .val (.int e14), .val (.ref b3), .val (.ref r15)] [(.ref r15), (.ref b17)])) rfl (by rw [hml]; rfl) (argsL := [(.ref r15)]) (rest := []) (lenOf pd29 rfl) rfl (hb hby at_320) rfl (by decide) (Nat.le_of_ble_eq_true rfl) (k' := 20) (n' := 178) rfl rfl (by decide) (by decide)
        refine Go.by st21 ?_
        rcases q21 with ⟨⟨hq21, rfl⟩ | ⟨hq21, rfl⟩, rfl⟩
        · skip
          show Go p.tables e below _ (T21.setTop (mkF m 323 #[.val (.int p0), .val (.int p1), .val (.int p2), .val (.int y3), .val (.int y4), .val (.int x5), .val (.int x6), .val (.int x7), .val (.int x8), .val (.int x9), .val (.int x10), .val (.ref u11), .val (.ref u12), .val (.ref u13), .val (.int e14), .val (.ref b3), .val (.ref r15)] [(.int (1 : Int32))]))
          exact Go.retN X21 hx hlk (z' := (1 : Int32)) hret (by simp) (hb hby at_323) rfl (by decide) (by decide) (fun _ z => z.elim) rfl
        · skip
          show Go p.tables e below _ (T21.setTop (mkF m 323 #[.val (.int p0), .val (.int p1), .val (.int p2), .val (.int y3), .val (.int y4), .val (.int x5), .val (.int x6), .val (.int x7), .val (.int x8), .val (.int x9), .val (.int x10), .val (.ref u11), .val (.ref u12), .val (.ref u13), .val (.int e14), .val (.ref b3), .val (.ref r15)] [(.int (0 : Int32))]))
          refine Go.retN X21 hx hlk (z' := (0 : Int32)) hret (by simp) (hb hby at_323) rfl (by decide) (by decide) (fun _ z => z.elim) ?_
          refine absurd ⟨by omega, fun i hi => ?_⟩ hq21
          exact own_fin N1 N2 (c3 x5 x6 x7) (c3 x8 x9 x10) i hi
      · skip
        refine Go.by (fun _ => XS.ifNo Xj1.here hx rfl (hb hby at_270) rfl ((if0 _ _).trans (feq hc270_2).1)) ?_
        show Go p.tables e below _ (Tj1.setTop (mkF m 273 #[.val (.int p0), .val (.int p1), .val (.int p2), .val (.int y3), .val (.int y4), .val (.int x5), .val (.int x6), .val (.int x7), .val (.int x8), .val (.int x9), .val (.int x10), .val (.ref u11), .val (.ref u12), .val (.ref u13), .val (.int e14), .unset, .unset] []))
        refine Go.by (fun _ => XS.iconst Xj1.here hx rfl (hb hby at_273)) ?_
        show Go p.tables e below _ (Tj1.setTop (mkF m 274 #[.val (.int p0), .val (.int p1), .val (.int p2), .val (.int y3), .val (.int y4), .val (.int x5), .val (.int x6), .val (.int x7), .val (.int x8), .val (.int x9), .val (.int x10), .val (.ref u11), .val (.ref u12), .val (.ref u13), .val (.int e14), .unset, .unset] [(.int (1 : Int32))]))
        exact Go.retN Xj1 hx hlk (z' := (1 : Int32)) hret (by simp) (hb hby at_274) rfl (by decide) (by decide) (fun _ z => z.elim) rfl
    refine Go.by (fun _ => XS.iload Xj.here hx rfl (hb hby at_227) rfl) ?_
    show Go p.tables e below _ (Tj.setTop (mkF m 229 #[.val (.int p0), .val (.int p1), .val (.int p2), .val (.int y3), .val (.int y4), .val (.int x5), .val (.int x6), .val (.int x7), .val (.int x8), .val (.int x9), .val (.int x10), .val (.ref u11), .val (.ref u12), .val (.ref u13), .unset, .unset, .unset] [(.int x5)]))
    obtain ⟨v22, T22, h22, X22, q22, xs22, st22⟩ := Xj.callS hx hZ f0n (y := (⟨"com/example/istorie/istorie/EntityIdValuePinLaw", "ws", "(C)Z"⟩ : MethodName)) hown (tw hw 2 rfl) (tw hw 3 rfl) (tw hw 4 rfl) (tw hw 5 rfl) (by decide) (rm1 l Z a0 hw [] x5 hj n0 Zj) (g := (mkF m 229 #[.val (.int p0), .val (.int p1), .val (.int p2), .val (.int y3), .val (.int y4), .val (.int x5), .val (.int x6), .val (.int x7), .val (.int x8), .val (.int x9), .val (.int x10), .val (.ref u11), .val (.ref u12), .val (.ref u13), .unset, .unset, .unset] [(.int x5)])) rfl (by rw [hml]; rfl) (argsL := [(.int x5)]) (rest := []) (lenOf pd30 rfl) rfl (hb hby at_229) rfl (by decide) (Nat.le_of_ble_eq_true rfl) (k' := 3) (n' := 13) rfl rfl (by decide) (by decide)
    refine Go.by st22 ?_
    rcases q22 with ⟨⟨hq22, rfl⟩ | ⟨hq22, rfl⟩, rfl⟩
    · skip
      show Go p.tables e below _ (T22.setTop (mkF m 232 #[.val (.int p0), .val (.int p1), .val (.int p2), .val (.int y3), .val (.int y4), .val (.int x5), .val (.int x6), .val (.int x7), .val (.int x8), .val (.int x9), .val (.int x10), .val (.ref u11), .val (.ref u12), .val (.ref u13), .unset, .unset, .unset] [(.int (1 : Int32))]))
      refine Go.by (fun _ => XS.ifNo X22.here hx rfl (hb hby at_232) rfl ((if0 _ _).trans (feq (by decide)).1)) ?_
      show Go p.tables e below _ (T22.setTop (mkF m 235 #[.val (.int p0), .val (.int p1), .val (.int p2), .val (.int y3), .val (.int y4), .val (.int x5), .val (.int x6), .val (.int x7), .val (.int x8), .val (.int x9), .val (.int x10), .val (.ref u11), .val (.ref u12), .val (.ref u13), .unset, .unset, .unset] []))
      refine Go.by (fun _ => XS.iloadN X22.here hx rfl (hb hby at_235) rfl) ?_
      show Go p.tables e below _ (T22.setTop (mkF m 236 #[.val (.int p0), .val (.int p1), .val (.int p2), .val (.int y3), .val (.int y4), .val (.int x5), .val (.int x6), .val (.int x7), .val (.int x8), .val (.int x9), .val (.int x10), .val (.ref u11), .val (.ref u12), .val (.ref u13), .unset, .unset, .unset] [(.int y3)]))
      refine Go.by (fun _ => XS.iconst X22.here hx rfl (hb hby at_236)) ?_
      show Go p.tables e below _ (T22.setTop (mkF m 237 #[.val (.int p0), .val (.int p1), .val (.int p2), .val (.int y3), .val (.int y4), .val (.int x5), .val (.int x6), .val (.int x7), .val (.int x8), .val (.int x9), .val (.int x10), .val (.ref u11), .val (.ref u12), .val (.ref u13), .unset, .unset, .unset] [(.int (2 : Int32)), (.int y3)]))
      by_cases hc237_23 : y3 < (2 : Int32)
      · skip
        refine Go.by (fun _ => XS.icmpYes X22.here hx rfl (pc0 := 237) (pc' := 248) rfl (hb hby at_237) rfl (tlt hc237_23).1 (by decide) (by decide)) ?_
        show Go p.tables e below _ (T22.setTop (mkF m 248 #[.val (.int p0), .val (.int p1), .val (.int p2), .val (.int y3), .val (.int y4), .val (.int x5), .val (.int x6), .val (.int x7), .val (.int x8), .val (.int x9), .val (.int x10), .val (.ref u11), .val (.ref u12), .val (.ref u13), .unset, .unset, .unset] []))
        refine Go.by (fun _ => XS.iloadN X22.here hx rfl (hb hby at_248) rfl) ?_
        show Go p.tables e below _ (T22.setTop (mkF m 249 #[.val (.int p0), .val (.int p1), .val (.int p2), .val (.int y3), .val (.int y4), .val (.int x5), .val (.int x6), .val (.int x7), .val (.int x8), .val (.int x9), .val (.int x10), .val (.ref u11), .val (.ref u12), .val (.ref u13), .unset, .unset, .unset] [(.int y3)]))
        refine Go.by (fun _ => XS.iconst X22.here hx rfl (hb hby at_249)) ?_
        show Go p.tables e below _ (T22.setTop (mkF m 250 #[.val (.int p0), .val (.int p1), .val (.int p2), .val (.int y3), .val (.int y4), .val (.int x5), .val (.int x6), .val (.int x7), .val (.int x8), .val (.int x9), .val (.int x10), .val (.ref u11), .val (.ref u12), .val (.ref u13), .unset, .unset, .unset] [(.int (3 : Int32)), (.int y3)]))
        by_cases hc250_24 : y3 < (3 : Int32)
        · skip
          refine Go.by (fun _ => XS.icmpYes X22.here hx rfl (pc0 := 250) (pc' := 261) rfl (hb hby at_250) rfl (tlt hc250_24).1 (by decide) (by decide)) ?_
          show Go p.tables e below _ (T22.setTop (mkF m 261 #[.val (.int p0), .val (.int p1), .val (.int p2), .val (.int y3), .val (.int y4), .val (.int x5), .val (.int x6), .val (.int x7), .val (.int x8), .val (.int x9), .val (.int x10), .val (.ref u11), .val (.ref u12), .val (.ref u13), .unset, .unset, .unset] []))
          refine Go.by (fun _ => XS.iconst X22.here hx rfl (hb hby at_261)) ?_
          show Go p.tables e below _ (T22.setTop (mkF m 262 #[.val (.int p0), .val (.int p1), .val (.int p2), .val (.int y3), .val (.int y4), .val (.int x5), .val (.int x6), .val (.int x7), .val (.int x8), .val (.int x9), .val (.int x10), .val (.ref u11), .val (.ref u12), .val (.ref u13), .unset, .unset, .unset] [(.int (1 : Int32))]))
          refine Go.by (fun _ => XS.goto X22.here hx rfl (pc0 := 262) (pc' := 266) rfl (hb hby at_262) (by decide) (by decide)) ?_
          show Go p.tables e below _ (T22.setTop (mkF m 266 #[.val (.int p0), .val (.int p1), .val (.int p2), .val (.int y3), .val (.int y4), .val (.int x5), .val (.int x6), .val (.int x7), .val (.int x8), .val (.int x9), .val (.int x10), .val (.ref u11), .val (.ref u12), .val (.ref u13), .unset, .unset, .unset] [(.int (1 : Int32))]))
          exact J1 _ X22 (1 : Int32) (Or.inl rfl)
        · skip
          refine Go.by (fun _ => XS.icmpNo X22.here hx rfl (hb hby at_250) rfl (flt hc250_24).1) ?_
          show Go p.tables e below _ (T22.setTop (mkF m 253 #[.val (.int p0), .val (.int p1), .val (.int p2), .val (.int y3), .val (.int y4), .val (.int x5), .val (.int x6), .val (.int x7), .val (.int x8), .val (.int x9), .val (.int x10), .val (.ref u11), .val (.ref u12), .val (.ref u13), .unset, .unset, .unset] []))
          refine Go.by (fun _ => XS.iload X22.here hx rfl (hb hby at_253) rfl) ?_
          show Go p.tables e below _ (T22.setTop (mkF m 255 #[.val (.int p0), .val (.int p1), .val (.int p2), .val (.int y3), .val (.int y4), .val (.int x5), .val (.int x6), .val (.int x7), .val (.int x8), .val (.int x9), .val (.int x10), .val (.ref u11), .val (.ref u12), .val (.ref u13), .unset, .unset, .unset] [(.int x7)]))
          obtain ⟨v25, T25, h25, X25, q25, xs25, st25⟩ := X22.callS hx hZ f0n (y := (⟨"com/example/istorie/istorie/EntityIdValuePinLaw", "ws", "(C)Z"⟩ : MethodName)) hown (tw hw 2 rfl) (tw hw 3 rfl) (tw hw 4 rfl) (tw hw 5 rfl) (by decide) (rm1 l Z a0 hw [] x7 hj n0 Zj) (g := (mkF m 255 #[.val (.int p0), .val (.int p1), .val (.int p2), .val (.int y3), .val (.int y4), .val (.int x5), .val (.int x6), .val (.int x7), .val (.int x8), .val (.int x9), .val (.int x10), .val (.ref u11), .val (.ref u12), .val (.ref u13), .unset, .unset, .unset] [(.int x7)])) rfl (by rw [hml]; rfl) (argsL := [(.int x7)]) (rest := []) (lenOf pd30 rfl) rfl (hb hby at_255) rfl (by decide) (Nat.le_of_ble_eq_true rfl) (k' := 3) (n' := 13) rfl rfl (by decide) (by decide)
          refine Go.by st25 ?_
          rcases q25 with ⟨⟨hq25, rfl⟩ | ⟨hq25, rfl⟩, rfl⟩
          · skip
            show Go p.tables e below _ (T25.setTop (mkF m 258 #[.val (.int p0), .val (.int p1), .val (.int p2), .val (.int y3), .val (.int y4), .val (.int x5), .val (.int x6), .val (.int x7), .val (.int x8), .val (.int x9), .val (.int x10), .val (.ref u11), .val (.ref u12), .val (.ref u13), .unset, .unset, .unset] [(.int (1 : Int32))]))
            refine Go.by (fun _ => XS.ifNo X25.here hx rfl (hb hby at_258) rfl ((if0 _ _).trans (feq (by decide)).1)) ?_
            show Go p.tables e below _ (T25.setTop (mkF m 261 #[.val (.int p0), .val (.int p1), .val (.int p2), .val (.int y3), .val (.int y4), .val (.int x5), .val (.int x6), .val (.int x7), .val (.int x8), .val (.int x9), .val (.int x10), .val (.ref u11), .val (.ref u12), .val (.ref u13), .unset, .unset, .unset] []))
            refine Go.by (fun _ => XS.iconst X25.here hx rfl (hb hby at_261)) ?_
            show Go p.tables e below _ (T25.setTop (mkF m 262 #[.val (.int p0), .val (.int p1), .val (.int p2), .val (.int y3), .val (.int y4), .val (.int x5), .val (.int x6), .val (.int x7), .val (.int x8), .val (.int x9), .val (.int x10), .val (.ref u11), .val (.ref u12), .val (.ref u13), .unset, .unset, .unset] [(.int (1 : Int32))]))
            refine Go.by (fun _ => XS.goto X25.here hx rfl (pc0 := 262) (pc' := 266) rfl (hb hby at_262) (by decide) (by decide)) ?_
            show Go p.tables e below _ (T25.setTop (mkF m 266 #[.val (.int p0), .val (.int p1), .val (.int p2), .val (.int y3), .val (.int y4), .val (.int x5), .val (.int x6), .val (.int x7), .val (.int x8), .val (.int x9), .val (.int x10), .val (.ref u11), .val (.ref u12), .val (.ref u13), .unset, .unset, .unset] [(.int (1 : Int32))]))
            exact J1 _ X25 (1 : Int32) (Or.inl rfl)
          · skip
            show Go p.tables e below _ (T25.setTop (mkF m 258 #[.val (.int p0), .val (.int p1), .val (.int p2), .val (.int y3), .val (.int y4), .val (.int x5), .val (.int x6), .val (.int x7), .val (.int x8), .val (.int x9), .val (.int x10), .val (.ref u11), .val (.ref u12), .val (.ref u13), .unset, .unset, .unset] [(.int (0 : Int32))]))
            refine Go.by (fun _ => XS.ifYes X25.here hx rfl (pc0 := 258) (pc' := 265) rfl (hb hby at_258) rfl ((if0 _ _).trans (teq (by decide)).1) (by decide) (by decide)) ?_
            show Go p.tables e below _ (T25.setTop (mkF m 265 #[.val (.int p0), .val (.int p1), .val (.int p2), .val (.int y3), .val (.int y4), .val (.int x5), .val (.int x6), .val (.int x7), .val (.int x8), .val (.int x9), .val (.int x10), .val (.ref u11), .val (.ref u12), .val (.ref u13), .unset, .unset, .unset] []))
            refine Go.by (fun _ => XS.iconst X25.here hx rfl (hb hby at_265)) ?_
            show Go p.tables e below _ (T25.setTop (mkF m 266 #[.val (.int p0), .val (.int p1), .val (.int p2), .val (.int y3), .val (.int y4), .val (.int x5), .val (.int x6), .val (.int x7), .val (.int x8), .val (.int x9), .val (.int x10), .val (.ref u11), .val (.ref u12), .val (.ref u13), .unset, .unset, .unset] [(.int (0 : Int32))]))
            exact J1 _ X25 (0 : Int32) (Or.inr ⟨rfl, 2, (own_ge3 hy3 hc250_24), hq25⟩)
      · skip
        refine Go.by (fun _ => XS.icmpNo X22.here hx rfl (hb hby at_237) rfl (flt hc237_23).1) ?_
        show Go p.tables e below _ (T22.setTop (mkF m 240 #[.val (.int p0), .val (.int p1), .val (.int p2), .val (.int y3), .val (.int y4), .val (.int x5), .val (.int x6), .val (.int x7), .val (.int x8), .val (.int x9), .val (.int x10), .val (.ref u11), .val (.ref u12), .val (.ref u13), .unset, .unset, .unset] []))
        refine Go.by (fun _ => XS.iload X22.here hx rfl (hb hby at_240) rfl) ?_
        show Go p.tables e below _ (T22.setTop (mkF m 242 #[.val (.int p0), .val (.int p1), .val (.int p2), .val (.int y3), .val (.int y4), .val (.int x5), .val (.int x6), .val (.int x7), .val (.int x8), .val (.int x9), .val (.int x10), .val (.ref u11), .val (.ref u12), .val (.ref u13), .unset, .unset, .unset] [(.int x6)]))
        obtain ⟨v26, T26, h26, X26, q26, xs26, st26⟩ := X22.callS hx hZ f0n (y := (⟨"com/example/istorie/istorie/EntityIdValuePinLaw", "ws", "(C)Z"⟩ : MethodName)) hown (tw hw 2 rfl) (tw hw 3 rfl) (tw hw 4 rfl) (tw hw 5 rfl) (by decide) (rm1 l Z a0 hw [] x6 hj n0 Zj) (g := (mkF m 242 #[.val (.int p0), .val (.int p1), .val (.int p2), .val (.int y3), .val (.int y4), .val (.int x5), .val (.int x6), .val (.int x7), .val (.int x8), .val (.int x9), .val (.int x10), .val (.ref u11), .val (.ref u12), .val (.ref u13), .unset, .unset, .unset] [(.int x6)])) rfl (by rw [hml]; rfl) (argsL := [(.int x6)]) (rest := []) (lenOf pd30 rfl) rfl (hb hby at_242) rfl (by decide) (Nat.le_of_ble_eq_true rfl) (k' := 3) (n' := 13) rfl rfl (by decide) (by decide)
        refine Go.by st26 ?_
        rcases q26 with ⟨⟨hq26, rfl⟩ | ⟨hq26, rfl⟩, rfl⟩
        · skip
          show Go p.tables e below _ (T26.setTop (mkF m 245 #[.val (.int p0), .val (.int p1), .val (.int p2), .val (.int y3), .val (.int y4), .val (.int x5), .val (.int x6), .val (.int x7), .val (.int x8), .val (.int x9), .val (.int x10), .val (.ref u11), .val (.ref u12), .val (.ref u13), .unset, .unset, .unset] [(.int (1 : Int32))]))
          refine Go.by (fun _ => XS.ifNo X26.here hx rfl (hb hby at_245) rfl ((if0 _ _).trans (feq (by decide)).1)) ?_
          show Go p.tables e below _ (T26.setTop (mkF m 248 #[.val (.int p0), .val (.int p1), .val (.int p2), .val (.int y3), .val (.int y4), .val (.int x5), .val (.int x6), .val (.int x7), .val (.int x8), .val (.int x9), .val (.int x10), .val (.ref u11), .val (.ref u12), .val (.ref u13), .unset, .unset, .unset] []))
          refine Go.by (fun _ => XS.iloadN X26.here hx rfl (hb hby at_248) rfl) ?_
          show Go p.tables e below _ (T26.setTop (mkF m 249 #[.val (.int p0), .val (.int p1), .val (.int p2), .val (.int y3), .val (.int y4), .val (.int x5), .val (.int x6), .val (.int x7), .val (.int x8), .val (.int x9), .val (.int x10), .val (.ref u11), .val (.ref u12), .val (.ref u13), .unset, .unset, .unset] [(.int y3)]))
          refine Go.by (fun _ => XS.iconst X26.here hx rfl (hb hby at_249)) ?_
          show Go p.tables e below _ (T26.setTop (mkF m 250 #[.val (.int p0), .val (.int p1), .val (.int p2), .val (.int y3), .val (.int y4), .val (.int x5), .val (.int x6), .val (.int x7), .val (.int x8), .val (.int x9), .val (.int x10), .val (.ref u11), .val (.ref u12), .val (.ref u13), .unset, .unset, .unset] [(.int (3 : Int32)), (.int y3)]))
          by_cases hc250_27 : y3 < (3 : Int32)
          · skip
            refine Go.by (fun _ => XS.icmpYes X26.here hx rfl (pc0 := 250) (pc' := 261) rfl (hb hby at_250) rfl (tlt hc250_27).1 (by decide) (by decide)) ?_
            show Go p.tables e below _ (T26.setTop (mkF m 261 #[.val (.int p0), .val (.int p1), .val (.int p2), .val (.int y3), .val (.int y4), .val (.int x5), .val (.int x6), .val (.int x7), .val (.int x8), .val (.int x9), .val (.int x10), .val (.ref u11), .val (.ref u12), .val (.ref u13), .unset, .unset, .unset] []))
            refine Go.by (fun _ => XS.iconst X26.here hx rfl (hb hby at_261)) ?_
            show Go p.tables e below _ (T26.setTop (mkF m 262 #[.val (.int p0), .val (.int p1), .val (.int p2), .val (.int y3), .val (.int y4), .val (.int x5), .val (.int x6), .val (.int x7), .val (.int x8), .val (.int x9), .val (.int x10), .val (.ref u11), .val (.ref u12), .val (.ref u13), .unset, .unset, .unset] [(.int (1 : Int32))]))
            refine Go.by (fun _ => XS.goto X26.here hx rfl (pc0 := 262) (pc' := 266) rfl (hb hby at_262) (by decide) (by decide)) ?_
            show Go p.tables e below _ (T26.setTop (mkF m 266 #[.val (.int p0), .val (.int p1), .val (.int p2), .val (.int y3), .val (.int y4), .val (.int x5), .val (.int x6), .val (.int x7), .val (.int x8), .val (.int x9), .val (.int x10), .val (.ref u11), .val (.ref u12), .val (.ref u13), .unset, .unset, .unset] [(.int (1 : Int32))]))
            exact J1 _ X26 (1 : Int32) (Or.inl rfl)
          · skip
            refine Go.by (fun _ => XS.icmpNo X26.here hx rfl (hb hby at_250) rfl (flt hc250_27).1) ?_
            show Go p.tables e below _ (T26.setTop (mkF m 253 #[.val (.int p0), .val (.int p1), .val (.int p2), .val (.int y3), .val (.int y4), .val (.int x5), .val (.int x6), .val (.int x7), .val (.int x8), .val (.int x9), .val (.int x10), .val (.ref u11), .val (.ref u12), .val (.ref u13), .unset, .unset, .unset] []))
            refine Go.by (fun _ => XS.iload X26.here hx rfl (hb hby at_253) rfl) ?_
            show Go p.tables e below _ (T26.setTop (mkF m 255 #[.val (.int p0), .val (.int p1), .val (.int p2), .val (.int y3), .val (.int y4), .val (.int x5), .val (.int x6), .val (.int x7), .val (.int x8), .val (.int x9), .val (.int x10), .val (.ref u11), .val (.ref u12), .val (.ref u13), .unset, .unset, .unset] [(.int x7)]))
            obtain ⟨v28, T28, h28, X28, q28, xs28, st28⟩ := X26.callS hx hZ f0n (y := (⟨"com/example/istorie/istorie/EntityIdValuePinLaw", "ws", "(C)Z"⟩ : MethodName)) hown (tw hw 2 rfl) (tw hw 3 rfl) (tw hw 4 rfl) (tw hw 5 rfl) (by decide) (rm1 l Z a0 hw [] x7 hj n0 Zj) (g := (mkF m 255 #[.val (.int p0), .val (.int p1), .val (.int p2), .val (.int y3), .val (.int y4), .val (.int x5), .val (.int x6), .val (.int x7), .val (.int x8), .val (.int x9), .val (.int x10), .val (.ref u11), .val (.ref u12), .val (.ref u13), .unset, .unset, .unset] [(.int x7)])) rfl (by rw [hml]; rfl) (argsL := [(.int x7)]) (rest := []) (lenOf pd30 rfl) rfl (hb hby at_255) rfl (by decide) (Nat.le_of_ble_eq_true rfl) (k' := 3) (n' := 13) rfl rfl (by decide) (by decide)
            refine Go.by st28 ?_
            rcases q28 with ⟨⟨hq28, rfl⟩ | ⟨hq28, rfl⟩, rfl⟩
            · skip
              show Go p.tables e below _ (T28.setTop (mkF m 258 #[.val (.int p0), .val (.int p1), .val (.int p2), .val (.int y3), .val (.int y4), .val (.int x5), .val (.int x6), .val (.int x7), .val (.int x8), .val (.int x9), .val (.int x10), .val (.ref u11), .val (.ref u12), .val (.ref u13), .unset, .unset, .unset] [(.int (1 : Int32))]))
              refine Go.by (fun _ => XS.ifNo X28.here hx rfl (hb hby at_258) rfl ((if0 _ _).trans (feq (by decide)).1)) ?_
              show Go p.tables e below _ (T28.setTop (mkF m 261 #[.val (.int p0), .val (.int p1), .val (.int p2), .val (.int y3), .val (.int y4), .val (.int x5), .val (.int x6), .val (.int x7), .val (.int x8), .val (.int x9), .val (.int x10), .val (.ref u11), .val (.ref u12), .val (.ref u13), .unset, .unset, .unset] []))
              refine Go.by (fun _ => XS.iconst X28.here hx rfl (hb hby at_261)) ?_
              show Go p.tables e below _ (T28.setTop (mkF m 262 #[.val (.int p0), .val (.int p1), .val (.int p2), .val (.int y3), .val (.int y4), .val (.int x5), .val (.int x6), .val (.int x7), .val (.int x8), .val (.int x9), .val (.int x10), .val (.ref u11), .val (.ref u12), .val (.ref u13), .unset, .unset, .unset] [(.int (1 : Int32))]))
              refine Go.by (fun _ => XS.goto X28.here hx rfl (pc0 := 262) (pc' := 266) rfl (hb hby at_262) (by decide) (by decide)) ?_
              show Go p.tables e below _ (T28.setTop (mkF m 266 #[.val (.int p0), .val (.int p1), .val (.int p2), .val (.int y3), .val (.int y4), .val (.int x5), .val (.int x6), .val (.int x7), .val (.int x8), .val (.int x9), .val (.int x10), .val (.ref u11), .val (.ref u12), .val (.ref u13), .unset, .unset, .unset] [(.int (1 : Int32))]))
              exact J1 _ X28 (1 : Int32) (Or.inl rfl)
            · skip
              show Go p.tables e below _ (T28.setTop (mkF m 258 #[.val (.int p0), .val (.int p1), .val (.int p2), .val (.int y3), .val (.int y4), .val (.int x5), .val (.int x6), .val (.int x7), .val (.int x8), .val (.int x9), .val (.int x10), .val (.ref u11), .val (.ref u12), .val (.ref u13), .unset, .unset, .unset] [(.int (0 : Int32))]))
              refine Go.by (fun _ => XS.ifYes X28.here hx rfl (pc0 := 258) (pc' := 265) rfl (hb hby at_258) rfl ((if0 _ _).trans (teq (by decide)).1) (by decide) (by decide)) ?_
              show Go p.tables e below _ (T28.setTop (mkF m 265 #[.val (.int p0), .val (.int p1), .val (.int p2), .val (.int y3), .val (.int y4), .val (.int x5), .val (.int x6), .val (.int x7), .val (.int x8), .val (.int x9), .val (.int x10), .val (.ref u11), .val (.ref u12), .val (.ref u13), .unset, .unset, .unset] []))
              refine Go.by (fun _ => XS.iconst X28.here hx rfl (hb hby at_265)) ?_
              show Go p.tables e below _ (T28.setTop (mkF m 266 #[.val (.int p0), .val (.int p1), .val (.int p2), .val (.int y3), .val (.int y4), .val (.int x5), .val (.int x6), .val (.int x7), .val (.int x8), .val (.int x9), .val (.int x10), .val (.ref u11), .val (.ref u12), .val (.ref u13), .unset, .unset, .unset] [(.int (0 : Int32))]))
              exact J1 _ X28 (0 : Int32) (Or.inr ⟨rfl, 2, (own_ge3 hy3 hc250_27), hq28⟩)
        · skip
          show Go p.tables e below _ (T26.setTop (mkF m 245 #[.val (.int p0), .val (.int p1), .val (.int p2), .val (.int y3), .val (.int y4), .val (.int x5), .val (.int x6), .val (.int x7), .val (.int x8), .val (.int x9), .val (.int x10), .val (.ref u11), .val (.ref u12), .val (.ref u13), .unset, .unset, .unset] [(.int (0 : Int32))]))
          refine Go.by (fun _ => XS.ifYes X26.here hx rfl (pc0 := 245) (pc' := 265) rfl (hb hby at_245) rfl ((if0 _ _).trans (teq (by decide)).1) (by decide) (by decide)) ?_
          show Go p.tables e below _ (T26.setTop (mkF m 265 #[.val (.int p0), .val (.int p1), .val (.int p2), .val (.int y3), .val (.int y4), .val (.int x5), .val (.int x6), .val (.int x7), .val (.int x8), .val (.int x9), .val (.int x10), .val (.ref u11), .val (.ref u12), .val (.ref u13), .unset, .unset, .unset] []))
          refine Go.by (fun _ => XS.iconst X26.here hx rfl (hb hby at_265)) ?_
          show Go p.tables e below _ (T26.setTop (mkF m 266 #[.val (.int p0), .val (.int p1), .val (.int p2), .val (.int y3), .val (.int y4), .val (.int x5), .val (.int x6), .val (.int x7), .val (.int x8), .val (.int x9), .val (.int x10), .val (.ref u11), .val (.ref u12), .val (.ref u13), .unset, .unset, .unset] [(.int (0 : Int32))]))
          exact J1 _ X26 (0 : Int32) (Or.inr ⟨rfl, 1, (own_ge2 hy3 hc237_23), hq26⟩)
    · skip
      show Go p.tables e below _ (T22.setTop (mkF m 232 #[.val (.int p0), .val (.int p1), .val (.int p2), .val (.int y3), .val (.int y4), .val (.int x5), .val (.int x6), .val (.int x7), .val (.int x8), .val (.int x9), .val (.int x10), .val (.ref u11), .val (.ref u12), .val (.ref u13), .unset, .unset, .unset] [(.int (0 : Int32))]))
      refine Go.by (fun _ => XS.ifYes X22.here hx rfl (pc0 := 232) (pc' := 265) rfl (hb hby at_232) rfl ((if0 _ _).trans (teq (by decide)).1) (by decide) (by decide)) ?_
      show Go p.tables e below _ (T22.setTop (mkF m 265 #[.val (.int p0), .val (.int p1), .val (.int p2), .val (.int y3), .val (.int y4), .val (.int x5), .val (.int x6), .val (.int x7), .val (.int x8), .val (.int x9), .val (.int x10), .val (.ref u11), .val (.ref u12), .val (.ref u13), .unset, .unset, .unset] []))
      refine Go.by (fun _ => XS.iconst X22.here hx rfl (hb hby at_265)) ?_
      show Go p.tables e below _ (T22.setTop (mkF m 266 #[.val (.int p0), .val (.int p1), .val (.int p2), .val (.int y3), .val (.int y4), .val (.int x5), .val (.int x6), .val (.int x7), .val (.int x8), .val (.int x9), .val (.int x10), .val (.ref u11), .val (.ref u12), .val (.ref u13), .unset, .unset, .unset] [(.int (0 : Int32))]))
      exact J1 _ X22 (0 : Int32) (Or.inr ⟨rfl, 0, (by omega), hq22⟩)
  rcases own_three b_x3 with rfl | rfl | rfl
  · skip
    rcases own_three b_x4 with rfl | rfl | rfl
    · skip
      refine Go.by (fun _ => XS.iloadN X0.here hx rfl (hb hby at_78) rfl) ?_
      obtain ⟨T29, h29, kc29, b29, X29, g29, E29, A29, V29, st29⟩ := X0.newP hx hZ (tw hw 1 rfl) (g := (mkF m 79 #[.val (.int p0), .val (.int p1), .val (.int p2), .val (.int (1 : Int32)), .val (.int (1 : Int32)), .val (.int x5), .val (.int x6), .val (.int x7), .val (.int x8), .val (.int x9), .val (.int x10), .unset, .unset, .unset, .unset, .unset, .unset] [(.int (1 : Int32))])) rfl (hb hby at_79) rfl (by decide) (sz := 1) (cap := 1) (k' := 1) (n' := 1) rfl (Nat.le_refl _) (by decide) rfl rfl (by decide) (by decide) (ad := "[C") (by decide)
      have g_b29 : n0 ≤ b29 := by rw [g29]; exact Z0
      have f30_544 := O0.ext E29
      have Zs30 : n0 ≤ h29.size := Nat.le_trans Z0 E29.1
      refine Go.by st29 ?_
      show Go p.tables e below _ (T29.setTop (mkF m 81 #[.val (.int p0), .val (.int p1), .val (.int p2), .val (.int (1 : Int32)), .val (.int (1 : Int32)), .val (.int x5), .val (.int x6), .val (.int x7), .val (.int x8), .val (.int x9), .val (.int x10), .unset, .unset, .unset, .unset, .unset, .unset] [(.ref b29)]))
      refine Go.by (fun _ => XS.astore X29.here hx rfl (hb hby at_81) rfl rfl (l' := #[.val (.int p0), .val (.int p1), .val (.int p2), .val (.int (1 : Int32)), .val (.int (1 : Int32)), .val (.int x5), .val (.int x6), .val (.int x7), .val (.int x8), .val (.int x9), .val (.int x10), .val (.ref b29), .unset, .unset, .unset, .unset, .unset]) rfl) ?_
      show Go p.tables e below _ (T29.setTop (mkF m 83 #[.val (.int p0), .val (.int p1), .val (.int p2), .val (.int (1 : Int32)), .val (.int (1 : Int32)), .val (.int x5), .val (.int x6), .val (.int x7), .val (.int x8), .val (.int x9), .val (.int x10), .val (.ref b29), .unset, .unset, .unset, .unset, .unset] []))
      refine Go.by (fun _ => XS.aload X29.here hx rfl (hb hby at_83) rfl rfl) ?_
      refine Go.by (fun _ => XS.iconst X29.here hx rfl (hb hby at_85)) ?_
      refine Go.by (fun _ => XS.iload X29.here hx rfl (hb hby at_86) rfl) ?_
      show Go p.tables e below _ (T29.setTop (mkF m 88 #[.val (.int p0), .val (.int p1), .val (.int p2), .val (.int (1 : Int32)), .val (.int (1 : Int32)), .val (.int x5), .val (.int x6), .val (.int x7), .val (.int x8), .val (.int x9), .val (.int x10), .val (.ref b29), .unset, .unset, .unset, .unset, .unset] [(.int x5), (.int (0 : Int32)), (.ref b29)]))
      obtain ⟨T31, h31, X31, W31, V31, st31⟩ := X29.stC hx hZ V29 g_b29 (by decide) (i := 0) rfl (by decide) (g := (mkF m 88 #[.val (.int p0), .val (.int p1), .val (.int p2), .val (.int (1 : Int32)), .val (.int (1 : Int32)), .val (.int x5), .val (.int x6), .val (.int x7), .val (.int x8), .val (.int x9), .val (.int x10), .val (.ref b29), .unset, .unset, .unset, .unset, .unset] [(.int x5), (.int (0 : Int32)), (.ref b29)])) rfl rfl (hb hby at_88)
      have f32_555 := f30_544.wr W31 g_b29
      have f32_556 := A29.wr W31
      have Zs32 : n0 ≤ h31.size := by rw [W31.size]; exact Zs30
      refine Go.by st31 ?_
      show Go p.tables e below _ (T31.setTop (mkF m 89 #[.val (.int p0), .val (.int p1), .val (.int p2), .val (.int (1 : Int32)), .val (.int (1 : Int32)), .val (.int x5), .val (.int x6), .val (.int x7), .val (.int x8), .val (.int x9), .val (.int x10), .val (.ref b29), .unset, .unset, .unset, .unset, .unset] []))
      refine Go.by (fun _ => XS.iloadN X31.here hx rfl (hb hby at_89) rfl) ?_
      refine Go.by (fun _ => XS.iconst X31.here hx rfl (hb hby at_90)) ?_
      refine Go.by (fun _ => XS.icmpYes X31.here hx rfl (pc0 := 91) (pc' := 100) rfl (hb hby at_91) rfl (flt (by decide)).2.2.2 (by decide) (by decide)) ?_
      show Go p.tables e below _ (T31.setTop (mkF m 100 #[.val (.int p0), .val (.int p1), .val (.int p2), .val (.int (1 : Int32)), .val (.int (1 : Int32)), .val (.int x5), .val (.int x6), .val (.int x7), .val (.int x8), .val (.int x9), .val (.int x10), .val (.ref b29), .unset, .unset, .unset, .unset, .unset] []))
      refine Go.by (fun _ => XS.iloadN X31.here hx rfl (hb hby at_100) rfl) ?_
      refine Go.by (fun _ => XS.iconst X31.here hx rfl (hb hby at_101)) ?_
      refine Go.by (fun _ => XS.icmpYes X31.here hx rfl (pc0 := 102) (pc' := 111) rfl (hb hby at_102) rfl (flt (by decide)).2.2.2 (by decide) (by decide)) ?_
      show Go p.tables e below _ (T31.setTop (mkF m 111 #[.val (.int p0), .val (.int p1), .val (.int p2), .val (.int (1 : Int32)), .val (.int (1 : Int32)), .val (.int x5), .val (.int x6), .val (.int x7), .val (.int x8), .val (.int x9), .val (.int x10), .val (.ref b29), .unset, .unset, .unset, .unset, .unset] []))
      refine Go.by (fun _ => XS.iload X31.here hx rfl (hb hby at_111) rfl) ?_
      obtain ⟨T33, h33, kc33, b33, X33, g33, E33, A33, V33, st33⟩ := X31.newP hx hZ (tw hw 1 rfl) (g := (mkF m 113 #[.val (.int p0), .val (.int p1), .val (.int p2), .val (.int (1 : Int32)), .val (.int (1 : Int32)), .val (.int x5), .val (.int x6), .val (.int x7), .val (.int x8), .val (.int x9), .val (.int x10), .val (.ref b29), .unset, .unset, .unset, .unset, .unset] [(.int (1 : Int32))])) rfl (hb hby at_113) rfl (by decide) (sz := 1) (cap := 1) (k' := 2) (n' := 2) rfl (Nat.le_refl _) (by decide) rfl rfl (by decide) (by decide) (ad := "[C") (by decide)
      have g_b33 : n0 ≤ b33 := by rw [g33]; exact Zs32
      have ne_b29_b33 : b29 ≠ b33 := Nat.ne_of_lt (by rw [g33]; exact f32_556.lt)
      have f34_572 := f32_555.ext E33
      have f34_573 := f32_556.ext E33
      have f34_574 := Avf.ext V31 E33
      have Zs34 : n0 ≤ h33.size := Nat.le_trans Zs32 E33.1
      refine Go.by st33 ?_
      show Go p.tables e below _ (T33.setTop (mkF m 115 #[.val (.int p0), .val (.int p1), .val (.int p2), .val (.int (1 : Int32)), .val (.int (1 : Int32)), .val (.int x5), .val (.int x6), .val (.int x7), .val (.int x8), .val (.int x9), .val (.int x10), .val (.ref b29), .unset, .unset, .unset, .unset, .unset] [(.ref b33)]))
      refine Go.by (fun _ => XS.astore X33.here hx rfl (hb hby at_115) rfl rfl (l' := #[.val (.int p0), .val (.int p1), .val (.int p2), .val (.int (1 : Int32)), .val (.int (1 : Int32)), .val (.int x5), .val (.int x6), .val (.int x7), .val (.int x8), .val (.int x9), .val (.int x10), .val (.ref b29), .val (.ref b33), .unset, .unset, .unset, .unset]) rfl) ?_
      show Go p.tables e below _ (T33.setTop (mkF m 117 #[.val (.int p0), .val (.int p1), .val (.int p2), .val (.int (1 : Int32)), .val (.int (1 : Int32)), .val (.int x5), .val (.int x6), .val (.int x7), .val (.int x8), .val (.int x9), .val (.int x10), .val (.ref b29), .val (.ref b33), .unset, .unset, .unset, .unset] []))
      refine Go.by (fun _ => XS.aload X33.here hx rfl (hb hby at_117) rfl rfl) ?_
      refine Go.by (fun _ => XS.iconst X33.here hx rfl (hb hby at_119)) ?_
      refine Go.by (fun _ => XS.iload X33.here hx rfl (hb hby at_120) rfl) ?_
      obtain ⟨T35, h35, X35, W35, V35, st35⟩ := X33.stC hx hZ V33 g_b33 (by decide) (i := 0) rfl (by decide) (g := (mkF m 122 #[.val (.int p0), .val (.int p1), .val (.int p2), .val (.int (1 : Int32)), .val (.int (1 : Int32)), .val (.int x5), .val (.int x6), .val (.int x7), .val (.int x8), .val (.int x9), .val (.int x10), .val (.ref b29), .val (.ref b33), .unset, .unset, .unset, .unset] [(.int x8), (.int (0 : Int32)), (.ref b33)])) rfl rfl (hb hby at_122)
      have f36_584 := f34_572.wr W35 g_b33
      have f36_585 := f34_573.wr W35
      have f36_586 := Avf.other f34_574 W35 ne_b29_b33
      have f36_587 := A33.wr W35
      have Zs36 : n0 ≤ h35.size := by rw [W35.size]; exact Zs34
      refine Go.by st35 ?_
      show Go p.tables e below _ (T35.setTop (mkF m 123 #[.val (.int p0), .val (.int p1), .val (.int p2), .val (.int (1 : Int32)), .val (.int (1 : Int32)), .val (.int x5), .val (.int x6), .val (.int x7), .val (.int x8), .val (.int x9), .val (.int x10), .val (.ref b29), .val (.ref b33), .unset, .unset, .unset, .unset] []))
      refine Go.by (fun _ => XS.iload X35.here hx rfl (hb hby at_123) rfl) ?_
      refine Go.by (fun _ => XS.iconst X35.here hx rfl (hb hby at_125)) ?_
      refine Go.by (fun _ => XS.icmpYes X35.here hx rfl (pc0 := 126) (pc' := 135) rfl (hb hby at_126) rfl (flt (by decide)).2.2.2 (by decide) (by decide)) ?_
      show Go p.tables e below _ (T35.setTop (mkF m 135 #[.val (.int p0), .val (.int p1), .val (.int p2), .val (.int (1 : Int32)), .val (.int (1 : Int32)), .val (.int x5), .val (.int x6), .val (.int x7), .val (.int x8), .val (.int x9), .val (.int x10), .val (.ref b29), .val (.ref b33), .unset, .unset, .unset, .unset] []))
      refine Go.by (fun _ => XS.iload X35.here hx rfl (hb hby at_135) rfl) ?_
      refine Go.by (fun _ => XS.iconst X35.here hx rfl (hb hby at_137)) ?_
      show Go p.tables e below _ (T35.setTop (mkF m 138 #[.val (.int p0), .val (.int p1), .val (.int p2), .val (.int (1 : Int32)), .val (.int (1 : Int32)), .val (.int x5), .val (.int x6), .val (.int x7), .val (.int x8), .val (.int x9), .val (.int x10), .val (.ref b29), .val (.ref b33), .unset, .unset, .unset, .unset] [(.int (2 : Int32)), (.int (1 : Int32))]))
      refine Go.by (fun _ => XS.icmpYes X35.here hx rfl (pc0 := 138) (pc' := 147) rfl (hb hby at_138) rfl (flt (by decide)).2.2.2 (by decide) (by decide)) ?_
      show Go p.tables e below _ (T35.setTop (mkF m 147 #[.val (.int p0), .val (.int p1), .val (.int p2), .val (.int (1 : Int32)), .val (.int (1 : Int32)), .val (.int x5), .val (.int x6), .val (.int x7), .val (.int x8), .val (.int x9), .val (.int x10), .val (.ref b29), .val (.ref b33), .unset, .unset, .unset, .unset] []))
      refine Go.by (fun _ => XS.iloadN X35.here hx rfl (hb hby at_147) rfl) ?_
      refine Go.by (fun _ => XS.iconst X35.here hx rfl (hb hby at_148)) ?_
      refine Go.by (fun _ => XS.iadd X35.here hx rfl (hb hby at_149) rfl) ?_
      refine Go.by (fun _ => XS.iload X35.here hx rfl (hb hby at_150) rfl) ?_
      refine Go.by (fun _ => XS.iadd X35.here hx rfl (hb hby at_152) rfl) ?_
      obtain ⟨T37, h37, kc37, b37, X37, g37, E37, A37, V37, st37⟩ := X35.newP hx hZ (tw hw 1 rfl) (g := (mkF m 153 #[.val (.int p0), .val (.int p1), .val (.int p2), .val (.int (1 : Int32)), .val (.int (1 : Int32)), .val (.int x5), .val (.int x6), .val (.int x7), .val (.int x8), .val (.int x9), .val (.int x10), .val (.ref b29), .val (.ref b33), .unset, .unset, .unset, .unset] [(.int (3 : Int32))])) rfl (hb hby at_153) rfl (by decide) (sz := 3) (cap := 3) (k' := 3) (n' := 5) rfl (Nat.le_refl _) (by decide) rfl rfl (by decide) (by decide) (ad := "[C") (by decide)
      have g_b37 : n0 ≤ b37 := by rw [g37]; exact Zs36
      have ne_b29_b37 : b29 ≠ b37 := Nat.ne_of_lt (by rw [g37]; exact f36_585.lt)
      have ne_b33_b37 : b33 ≠ b37 := Nat.ne_of_lt (by rw [g37]; exact f36_587.lt)
      have f38_609 := f36_584.ext E37
      have f38_610 := f36_585.ext E37
      have f38_611 := Avf.ext f36_586 E37
      have f38_612 := f36_587.ext E37
      have f38_613 := Avf.ext V35 E37
      have Zs38 : n0 ≤ h37.size := Nat.le_trans Zs36 E37.1
      refine Go.by st37 ?_
      show Go p.tables e below _ (T37.setTop (mkF m 155 #[.val (.int p0), .val (.int p1), .val (.int p2), .val (.int (1 : Int32)), .val (.int (1 : Int32)), .val (.int x5), .val (.int x6), .val (.int x7), .val (.int x8), .val (.int x9), .val (.int x10), .val (.ref b29), .val (.ref b33), .unset, .unset, .unset, .unset] [(.ref b37)]))
      refine Go.by (fun _ => XS.astore X37.here hx rfl (hb hby at_155) rfl rfl (l' := #[.val (.int p0), .val (.int p1), .val (.int p2), .val (.int (1 : Int32)), .val (.int (1 : Int32)), .val (.int x5), .val (.int x6), .val (.int x7), .val (.int x8), .val (.int x9), .val (.int x10), .val (.ref b29), .val (.ref b33), .val (.ref b37), .unset, .unset, .unset]) rfl) ?_
      show Go p.tables e below _ (T37.setTop (mkF m 157 #[.val (.int p0), .val (.int p1), .val (.int p2), .val (.int (1 : Int32)), .val (.int (1 : Int32)), .val (.int x5), .val (.int x6), .val (.int x7), .val (.int x8), .val (.int x9), .val (.int x10), .val (.ref b29), .val (.ref b33), .val (.ref b37), .unset, .unset, .unset] []))
      refine Go.by (fun _ => XS.aload X37.here hx rfl (hb hby at_157) rfl rfl) ?_
      show Go p.tables e below _ (T37.setTop (mkF m 159 #[.val (.int p0), .val (.int p1), .val (.int p2), .val (.int (1 : Int32)), .val (.int (1 : Int32)), .val (.int x5), .val (.int x6), .val (.int x7), .val (.int x8), .val (.int x9), .val (.int x10), .val (.ref b29), .val (.ref b33), .val (.ref b37), .unset, .unset, .unset] [(.ref b37)]))
      refine Go.by (fun _ => XS.iconst X37.here hx rfl (hb hby at_159)) ?_
      refine Go.by (fun _ => XS.iload X37.here hx rfl (hb hby at_160) rfl) ?_
      obtain ⟨T39, h39, X39, W39, V39, st39⟩ := X37.stC hx hZ V37 g_b37 (by decide) (i := 0) rfl (by decide) (g := (mkF m 162 #[.val (.int p0), .val (.int p1), .val (.int p2), .val (.int (1 : Int32)), .val (.int (1 : Int32)), .val (.int x5), .val (.int x6), .val (.int x7), .val (.int x8), .val (.int x9), .val (.int x10), .val (.ref b29), .val (.ref b33), .val (.ref b37), .unset, .unset, .unset] [(.int x5), (.int (0 : Int32)), (.ref b37)])) rfl rfl (hb hby at_162)
      have f40_624 := f38_609.wr W39 g_b37
      have f40_625 := f38_610.wr W39
      have f40_626 := Avf.other f38_611 W39 ne_b29_b37
      have f40_627 := f38_612.wr W39
      have f40_628 := Avf.other f38_613 W39 ne_b33_b37
      have f40_629 := A37.wr W39
      have Zs40 : n0 ≤ h39.size := by rw [W39.size]; exact Zs38
      refine Go.by st39 ?_
      show Go p.tables e below _ (T39.setTop (mkF m 163 #[.val (.int p0), .val (.int p1), .val (.int p2), .val (.int (1 : Int32)), .val (.int (1 : Int32)), .val (.int x5), .val (.int x6), .val (.int x7), .val (.int x8), .val (.int x9), .val (.int x10), .val (.ref b29), .val (.ref b33), .val (.ref b37), .unset, .unset, .unset] []))
      refine Go.by (fun _ => XS.iloadN X39.here hx rfl (hb hby at_163) rfl) ?_
      refine Go.by (fun _ => XS.iconst X39.here hx rfl (hb hby at_164)) ?_
      refine Go.by (fun _ => XS.icmpYes X39.here hx rfl (pc0 := 165) (pc' := 174) rfl (hb hby at_165) rfl (flt (by decide)).2.2.2 (by decide) (by decide)) ?_
      show Go p.tables e below _ (T39.setTop (mkF m 174 #[.val (.int p0), .val (.int p1), .val (.int p2), .val (.int (1 : Int32)), .val (.int (1 : Int32)), .val (.int x5), .val (.int x6), .val (.int x7), .val (.int x8), .val (.int x9), .val (.int x10), .val (.ref b29), .val (.ref b33), .val (.ref b37), .unset, .unset, .unset] []))
      refine Go.by (fun _ => XS.iloadN X39.here hx rfl (hb hby at_174) rfl) ?_
      refine Go.by (fun _ => XS.iconst X39.here hx rfl (hb hby at_175)) ?_
      refine Go.by (fun _ => XS.icmpYes X39.here hx rfl (pc0 := 176) (pc' := 185) rfl (hb hby at_176) rfl (flt (by decide)).2.2.2 (by decide) (by decide)) ?_
      show Go p.tables e below _ (T39.setTop (mkF m 185 #[.val (.int p0), .val (.int p1), .val (.int p2), .val (.int (1 : Int32)), .val (.int (1 : Int32)), .val (.int x5), .val (.int x6), .val (.int x7), .val (.int x8), .val (.int x9), .val (.int x10), .val (.ref b29), .val (.ref b33), .val (.ref b37), .unset, .unset, .unset] []))
      refine Go.by (fun _ => XS.aload X39.here hx rfl (hb hby at_185) rfl rfl) ?_
      show Go p.tables e below _ (T39.setTop (mkF m 187 #[.val (.int p0), .val (.int p1), .val (.int p2), .val (.int (1 : Int32)), .val (.int (1 : Int32)), .val (.int x5), .val (.int x6), .val (.int x7), .val (.int x8), .val (.int x9), .val (.int x10), .val (.ref b29), .val (.ref b33), .val (.ref b37), .unset, .unset, .unset] [(.ref b37)]))
      refine Go.by (fun _ => XS.iloadN X39.here hx rfl (hb hby at_187) rfl) ?_
      refine Go.by (fun _ => XS.bipush X39.here hx rfl (hb hby at_188)) ?_
      obtain ⟨T41, h41, X41, W41, V41, st41⟩ := X39.stC hx hZ V39 g_b37 (by decide) (i := 1) rfl (by decide) (g := (mkF m 190 #[.val (.int p0), .val (.int p1), .val (.int p2), .val (.int (1 : Int32)), .val (.int (1 : Int32)), .val (.int x5), .val (.int x6), .val (.int x7), .val (.int x8), .val (.int x9), .val (.int x10), .val (.ref b29), .val (.ref b33), .val (.ref b37), .unset, .unset, .unset] [(.int (47 : Int32)), (.int (1 : Int32)), (.ref b37)])) rfl rfl (hb hby at_190)
      have f42_646 := f40_624.wr W41 g_b37
      have f42_647 := f40_625.wr W41
      have f42_648 := Avf.other f40_626 W41 ne_b29_b37
      have f42_649 := f40_627.wr W41
      have f42_650 := Avf.other f40_628 W41 ne_b33_b37
      have f42_651 := f40_629.wr W41
      have Zs42 : n0 ≤ h41.size := by rw [W41.size]; exact Zs40
      refine Go.by st41 ?_
      show Go p.tables e below _ (T41.setTop (mkF m 191 #[.val (.int p0), .val (.int p1), .val (.int p2), .val (.int (1 : Int32)), .val (.int (1 : Int32)), .val (.int x5), .val (.int x6), .val (.int x7), .val (.int x8), .val (.int x9), .val (.int x10), .val (.ref b29), .val (.ref b33), .val (.ref b37), .unset, .unset, .unset] []))
      refine Go.by (fun _ => XS.aload X41.here hx rfl (hb hby at_191) rfl rfl) ?_
      refine Go.by (fun _ => XS.iloadN X41.here hx rfl (hb hby at_193) rfl) ?_
      refine Go.by (fun _ => XS.iconst X41.here hx rfl (hb hby at_194)) ?_
      refine Go.by (fun _ => XS.iadd X41.here hx rfl (hb hby at_195) rfl) ?_
      refine Go.by (fun _ => XS.iload X41.here hx rfl (hb hby at_196) rfl) ?_
      show Go p.tables e below _ (T41.setTop (mkF m 198 #[.val (.int p0), .val (.int p1), .val (.int p2), .val (.int (1 : Int32)), .val (.int (1 : Int32)), .val (.int x5), .val (.int x6), .val (.int x7), .val (.int x8), .val (.int x9), .val (.int x10), .val (.ref b29), .val (.ref b33), .val (.ref b37), .unset, .unset, .unset] [(.int x8), (.int (2 : Int32)), (.ref b37)]))
      obtain ⟨T43, h43, X43, W43, V43, st43⟩ := X41.stC hx hZ V41 g_b37 (by decide) (i := 2) rfl (by decide) (g := (mkF m 198 #[.val (.int p0), .val (.int p1), .val (.int p2), .val (.int (1 : Int32)), .val (.int (1 : Int32)), .val (.int x5), .val (.int x6), .val (.int x7), .val (.int x8), .val (.int x9), .val (.int x10), .val (.ref b29), .val (.ref b33), .val (.ref b37), .unset, .unset, .unset] [(.int x8), (.int (2 : Int32)), (.ref b37)])) rfl rfl (hb hby at_198)
      have f44_662 := f42_646.wr W43 g_b37
      have f44_663 := f42_647.wr W43
      have f44_664 := Avf.other f42_648 W43 ne_b29_b37
      have f44_665 := f42_649.wr W43
      have f44_666 := Avf.other f42_650 W43 ne_b33_b37
      have f44_667 := f42_651.wr W43
      have Zs44 : n0 ≤ h43.size := by rw [W43.size]; exact Zs42
      refine Go.by st43 ?_
      show Go p.tables e below _ (T43.setTop (mkF m 199 #[.val (.int p0), .val (.int p1), .val (.int p2), .val (.int (1 : Int32)), .val (.int (1 : Int32)), .val (.int x5), .val (.int x6), .val (.int x7), .val (.int x8), .val (.int x9), .val (.int x10), .val (.ref b29), .val (.ref b33), .val (.ref b37), .unset, .unset, .unset] []))
      refine Go.by (fun _ => XS.iload X43.here hx rfl (hb hby at_199) rfl) ?_
      refine Go.by (fun _ => XS.iconst X43.here hx rfl (hb hby at_201)) ?_
      refine Go.by (fun _ => XS.icmpYes X43.here hx rfl (pc0 := 202) (pc' := 213) rfl (hb hby at_202) rfl (flt (by decide)).2.2.2 (by decide) (by decide)) ?_
      show Go p.tables e below _ (T43.setTop (mkF m 213 #[.val (.int p0), .val (.int p1), .val (.int p2), .val (.int (1 : Int32)), .val (.int (1 : Int32)), .val (.int x5), .val (.int x6), .val (.int x7), .val (.int x8), .val (.int x9), .val (.int x10), .val (.ref b29), .val (.ref b33), .val (.ref b37), .unset, .unset, .unset] []))
      refine Go.by (fun _ => XS.iload X43.here hx rfl (hb hby at_213) rfl) ?_
      refine Go.by (fun _ => XS.iconst X43.here hx rfl (hb hby at_215)) ?_
      refine Go.by (fun _ => XS.icmpYes X43.here hx rfl (pc0 := 216) (pc' := 227) rfl (hb hby at_216) rfl (flt (by decide)).2.2.2 (by decide) (by decide)) ?_
      show Go p.tables e below _ (T43.setTop (mkF m 227 #[.val (.int p0), .val (.int p1), .val (.int p2), .val (.int (1 : Int32)), .val (.int (1 : Int32)), .val (.int x5), .val (.int x6), .val (.int x7), .val (.int x8), .val (.int x9), .val (.int x10), .val (.ref b29), .val (.ref b33), .val (.ref b37), .unset, .unset, .unset] []))
      have Vc11 := Avf.cong f44_664 (g := (fun i => (.int ((c3 x5 x6 x7) i)))) (fun i hi => by
        match i, hi with
        | 0, _ => exact congrArg Value.int (own_nc2 b_x5))
      have Vc12 := Avf.cong f44_666 (g := (fun i => (.int ((c3 x8 x9 x10) i)))) (fun i hi => by
        match i, hi with
        | 0, _ => exact congrArg Value.int (own_nc2 b_x8))
      have Vc13 := Avf.cong V43 (g := (fun i => (.int ((c7 1 (c3 x5 x6 x7) (c3 x8 x9 x10)) i)))) (fun i hi => by
        match i, hi with
        | 0, _ => exact congrArg Value.int (own_nc2 b_x5)
        | 1, _ => exact congrArg Value.int (show nar .char (47 : Int32) = 47 from rfl)
        | 2, _ => exact congrArg Value.int (own_nc2 b_x8))
      exact J _ _ 1 1 _ _ _ _ _ _ _ _ rfl rfl (by decide) (X43.more (by decide) (by decide)) Zs44 f44_662 Vc11 Vc12 Vc13
    · skip
      refine Go.by (fun _ => XS.iloadN X0.here hx rfl (hb hby at_78) rfl) ?_
      obtain ⟨T46, h46, kc46, b46, X46, g46, E46, A46, V46, st46⟩ := X0.newP hx hZ (tw hw 1 rfl) (g := (mkF m 79 #[.val (.int p0), .val (.int p1), .val (.int p2), .val (.int (1 : Int32)), .val (.int (2 : Int32)), .val (.int x5), .val (.int x6), .val (.int x7), .val (.int x8), .val (.int x9), .val (.int x10), .unset, .unset, .unset, .unset, .unset, .unset] [(.int (1 : Int32))])) rfl (hb hby at_79) rfl (by decide) (sz := 1) (cap := 1) (k' := 1) (n' := 1) rfl (Nat.le_refl _) (by decide) rfl rfl (by decide) (by decide) (ad := "[C") (by decide)
      have g_b46 : n0 ≤ b46 := by rw [g46]; exact Z0
      have f47_695 := O0.ext E46
      have Zs47 : n0 ≤ h46.size := Nat.le_trans Z0 E46.1
      refine Go.by st46 ?_
      show Go p.tables e below _ (T46.setTop (mkF m 81 #[.val (.int p0), .val (.int p1), .val (.int p2), .val (.int (1 : Int32)), .val (.int (2 : Int32)), .val (.int x5), .val (.int x6), .val (.int x7), .val (.int x8), .val (.int x9), .val (.int x10), .unset, .unset, .unset, .unset, .unset, .unset] [(.ref b46)]))
      refine Go.by (fun _ => XS.astore X46.here hx rfl (hb hby at_81) rfl rfl (l' := #[.val (.int p0), .val (.int p1), .val (.int p2), .val (.int (1 : Int32)), .val (.int (2 : Int32)), .val (.int x5), .val (.int x6), .val (.int x7), .val (.int x8), .val (.int x9), .val (.int x10), .val (.ref b46), .unset, .unset, .unset, .unset, .unset]) rfl) ?_
      show Go p.tables e below _ (T46.setTop (mkF m 83 #[.val (.int p0), .val (.int p1), .val (.int p2), .val (.int (1 : Int32)), .val (.int (2 : Int32)), .val (.int x5), .val (.int x6), .val (.int x7), .val (.int x8), .val (.int x9), .val (.int x10), .val (.ref b46), .unset, .unset, .unset, .unset, .unset] []))
      refine Go.by (fun _ => XS.aload X46.here hx rfl (hb hby at_83) rfl rfl) ?_
      refine Go.by (fun _ => XS.iconst X46.here hx rfl (hb hby at_85)) ?_
      refine Go.by (fun _ => XS.iload X46.here hx rfl (hb hby at_86) rfl) ?_
      obtain ⟨T48, h48, X48, W48, V48, st48⟩ := X46.stC hx hZ V46 g_b46 (by decide) (i := 0) rfl (by decide) (g := (mkF m 88 #[.val (.int p0), .val (.int p1), .val (.int p2), .val (.int (1 : Int32)), .val (.int (2 : Int32)), .val (.int x5), .val (.int x6), .val (.int x7), .val (.int x8), .val (.int x9), .val (.int x10), .val (.ref b46), .unset, .unset, .unset, .unset, .unset] [(.int x5), (.int (0 : Int32)), (.ref b46)])) rfl rfl (hb hby at_88)
      have f49_705 := f47_695.wr W48 g_b46
      have f49_706 := A46.wr W48
      have Zs49 : n0 ≤ h48.size := by rw [W48.size]; exact Zs47
      refine Go.by st48 ?_
      show Go p.tables e below _ (T48.setTop (mkF m 89 #[.val (.int p0), .val (.int p1), .val (.int p2), .val (.int (1 : Int32)), .val (.int (2 : Int32)), .val (.int x5), .val (.int x6), .val (.int x7), .val (.int x8), .val (.int x9), .val (.int x10), .val (.ref b46), .unset, .unset, .unset, .unset, .unset] []))
      refine Go.by (fun _ => XS.iloadN X48.here hx rfl (hb hby at_89) rfl) ?_
      refine Go.by (fun _ => XS.iconst X48.here hx rfl (hb hby at_90)) ?_
      refine Go.by (fun _ => XS.icmpYes X48.here hx rfl (pc0 := 91) (pc' := 100) rfl (hb hby at_91) rfl (flt (by decide)).2.2.2 (by decide) (by decide)) ?_
      show Go p.tables e below _ (T48.setTop (mkF m 100 #[.val (.int p0), .val (.int p1), .val (.int p2), .val (.int (1 : Int32)), .val (.int (2 : Int32)), .val (.int x5), .val (.int x6), .val (.int x7), .val (.int x8), .val (.int x9), .val (.int x10), .val (.ref b46), .unset, .unset, .unset, .unset, .unset] []))
      refine Go.by (fun _ => XS.iloadN X48.here hx rfl (hb hby at_100) rfl) ?_
      refine Go.by (fun _ => XS.iconst X48.here hx rfl (hb hby at_101)) ?_
      show Go p.tables e below _ (T48.setTop (mkF m 102 #[.val (.int p0), .val (.int p1), .val (.int p2), .val (.int (1 : Int32)), .val (.int (2 : Int32)), .val (.int x5), .val (.int x6), .val (.int x7), .val (.int x8), .val (.int x9), .val (.int x10), .val (.ref b46), .unset, .unset, .unset, .unset, .unset] [(.int (2 : Int32)), (.int (1 : Int32))]))
      refine Go.by (fun _ => XS.icmpYes X48.here hx rfl (pc0 := 102) (pc' := 111) rfl (hb hby at_102) rfl (flt (by decide)).2.2.2 (by decide) (by decide)) ?_
      show Go p.tables e below _ (T48.setTop (mkF m 111 #[.val (.int p0), .val (.int p1), .val (.int p2), .val (.int (1 : Int32)), .val (.int (2 : Int32)), .val (.int x5), .val (.int x6), .val (.int x7), .val (.int x8), .val (.int x9), .val (.int x10), .val (.ref b46), .unset, .unset, .unset, .unset, .unset] []))
      refine Go.by (fun _ => XS.iload X48.here hx rfl (hb hby at_111) rfl) ?_
      obtain ⟨T50, h50, kc50, b50, X50, g50, E50, A50, V50, st50⟩ := X48.newP hx hZ (tw hw 1 rfl) (g := (mkF m 113 #[.val (.int p0), .val (.int p1), .val (.int p2), .val (.int (1 : Int32)), .val (.int (2 : Int32)), .val (.int x5), .val (.int x6), .val (.int x7), .val (.int x8), .val (.int x9), .val (.int x10), .val (.ref b46), .unset, .unset, .unset, .unset, .unset] [(.int (2 : Int32))])) rfl (hb hby at_113) rfl (by decide) (sz := 2) (cap := 2) (k' := 2) (n' := 3) rfl (Nat.le_refl _) (by decide) rfl rfl (by decide) (by decide) (ad := "[C") (by decide)
      have g_b50 : n0 ≤ b50 := by rw [g50]; exact Zs49
      have ne_b46_b50 : b46 ≠ b50 := Nat.ne_of_lt (by rw [g50]; exact f49_706.lt)
      have f51_723 := f49_705.ext E50
      have f51_724 := f49_706.ext E50
      have f51_725 := Avf.ext V48 E50
      have Zs51 : n0 ≤ h50.size := Nat.le_trans Zs49 E50.1
      refine Go.by st50 ?_
      show Go p.tables e below _ (T50.setTop (mkF m 115 #[.val (.int p0), .val (.int p1), .val (.int p2), .val (.int (1 : Int32)), .val (.int (2 : Int32)), .val (.int x5), .val (.int x6), .val (.int x7), .val (.int x8), .val (.int x9), .val (.int x10), .val (.ref b46), .unset, .unset, .unset, .unset, .unset] [(.ref b50)]))
      refine Go.by (fun _ => XS.astore X50.here hx rfl (hb hby at_115) rfl rfl (l' := #[.val (.int p0), .val (.int p1), .val (.int p2), .val (.int (1 : Int32)), .val (.int (2 : Int32)), .val (.int x5), .val (.int x6), .val (.int x7), .val (.int x8), .val (.int x9), .val (.int x10), .val (.ref b46), .val (.ref b50), .unset, .unset, .unset, .unset]) rfl) ?_
      show Go p.tables e below _ (T50.setTop (mkF m 117 #[.val (.int p0), .val (.int p1), .val (.int p2), .val (.int (1 : Int32)), .val (.int (2 : Int32)), .val (.int x5), .val (.int x6), .val (.int x7), .val (.int x8), .val (.int x9), .val (.int x10), .val (.ref b46), .val (.ref b50), .unset, .unset, .unset, .unset] []))
      refine Go.by (fun _ => XS.aload X50.here hx rfl (hb hby at_117) rfl rfl) ?_
      refine Go.by (fun _ => XS.iconst X50.here hx rfl (hb hby at_119)) ?_
      refine Go.by (fun _ => XS.iload X50.here hx rfl (hb hby at_120) rfl) ?_
      obtain ⟨T52, h52, X52, W52, V52, st52⟩ := X50.stC hx hZ V50 g_b50 (by decide) (i := 0) rfl (by decide) (g := (mkF m 122 #[.val (.int p0), .val (.int p1), .val (.int p2), .val (.int (1 : Int32)), .val (.int (2 : Int32)), .val (.int x5), .val (.int x6), .val (.int x7), .val (.int x8), .val (.int x9), .val (.int x10), .val (.ref b46), .val (.ref b50), .unset, .unset, .unset, .unset] [(.int x8), (.int (0 : Int32)), (.ref b50)])) rfl rfl (hb hby at_122)
      have f53_735 := f51_723.wr W52 g_b50
      have f53_736 := f51_724.wr W52
      have f53_737 := Avf.other f51_725 W52 ne_b46_b50
      have f53_738 := A50.wr W52
      have Zs53 : n0 ≤ h52.size := by rw [W52.size]; exact Zs51
      refine Go.by st52 ?_
      show Go p.tables e below _ (T52.setTop (mkF m 123 #[.val (.int p0), .val (.int p1), .val (.int p2), .val (.int (1 : Int32)), .val (.int (2 : Int32)), .val (.int x5), .val (.int x6), .val (.int x7), .val (.int x8), .val (.int x9), .val (.int x10), .val (.ref b46), .val (.ref b50), .unset, .unset, .unset, .unset] []))
      refine Go.by (fun _ => XS.iload X52.here hx rfl (hb hby at_123) rfl) ?_
      show Go p.tables e below _ (T52.setTop (mkF m 125 #[.val (.int p0), .val (.int p1), .val (.int p2), .val (.int (1 : Int32)), .val (.int (2 : Int32)), .val (.int x5), .val (.int x6), .val (.int x7), .val (.int x8), .val (.int x9), .val (.int x10), .val (.ref b46), .val (.ref b50), .unset, .unset, .unset, .unset] [(.int (2 : Int32))]))
      refine Go.by (fun _ => XS.iconst X52.here hx rfl (hb hby at_125)) ?_
      refine Go.by (fun _ => XS.icmpNo X52.here hx rfl (hb hby at_126) rfl (tlt (by decide)).2.2.2) ?_
      show Go p.tables e below _ (T52.setTop (mkF m 129 #[.val (.int p0), .val (.int p1), .val (.int p2), .val (.int (1 : Int32)), .val (.int (2 : Int32)), .val (.int x5), .val (.int x6), .val (.int x7), .val (.int x8), .val (.int x9), .val (.int x10), .val (.ref b46), .val (.ref b50), .unset, .unset, .unset, .unset] []))
      refine Go.by (fun _ => XS.aload X52.here hx rfl (hb hby at_129) rfl rfl) ?_
      refine Go.by (fun _ => XS.iconst X52.here hx rfl (hb hby at_131)) ?_
      refine Go.by (fun _ => XS.iload X52.here hx rfl (hb hby at_132) rfl) ?_
      obtain ⟨T54, h54, X54, W54, V54, st54⟩ := X52.stC hx hZ V52 g_b50 (by decide) (i := 1) rfl (by decide) (g := (mkF m 134 #[.val (.int p0), .val (.int p1), .val (.int p2), .val (.int (1 : Int32)), .val (.int (2 : Int32)), .val (.int x5), .val (.int x6), .val (.int x7), .val (.int x8), .val (.int x9), .val (.int x10), .val (.ref b46), .val (.ref b50), .unset, .unset, .unset, .unset] [(.int x9), (.int (1 : Int32)), (.ref b50)])) rfl rfl (hb hby at_134)
      have f55_751 := f53_735.wr W54 g_b50
      have f55_752 := f53_736.wr W54
      have f55_753 := Avf.other f53_737 W54 ne_b46_b50
      have f55_754 := f53_738.wr W54
      have Zs55 : n0 ≤ h54.size := by rw [W54.size]; exact Zs53
      refine Go.by st54 ?_
      show Go p.tables e below _ (T54.setTop (mkF m 135 #[.val (.int p0), .val (.int p1), .val (.int p2), .val (.int (1 : Int32)), .val (.int (2 : Int32)), .val (.int x5), .val (.int x6), .val (.int x7), .val (.int x8), .val (.int x9), .val (.int x10), .val (.ref b46), .val (.ref b50), .unset, .unset, .unset, .unset] []))
      refine Go.by (fun _ => XS.iload X54.here hx rfl (hb hby at_135) rfl) ?_
      refine Go.by (fun _ => XS.iconst X54.here hx rfl (hb hby at_137)) ?_
      refine Go.by (fun _ => XS.icmpYes X54.here hx rfl (pc0 := 138) (pc' := 147) rfl (hb hby at_138) rfl (flt (by decide)).2.2.2 (by decide) (by decide)) ?_
      show Go p.tables e below _ (T54.setTop (mkF m 147 #[.val (.int p0), .val (.int p1), .val (.int p2), .val (.int (1 : Int32)), .val (.int (2 : Int32)), .val (.int x5), .val (.int x6), .val (.int x7), .val (.int x8), .val (.int x9), .val (.int x10), .val (.ref b46), .val (.ref b50), .unset, .unset, .unset, .unset] []))
      refine Go.by (fun _ => XS.iloadN X54.here hx rfl (hb hby at_147) rfl) ?_
      show Go p.tables e below _ (T54.setTop (mkF m 148 #[.val (.int p0), .val (.int p1), .val (.int p2), .val (.int (1 : Int32)), .val (.int (2 : Int32)), .val (.int x5), .val (.int x6), .val (.int x7), .val (.int x8), .val (.int x9), .val (.int x10), .val (.ref b46), .val (.ref b50), .unset, .unset, .unset, .unset] [(.int (1 : Int32))]))
      refine Go.by (fun _ => XS.iconst X54.here hx rfl (hb hby at_148)) ?_
      refine Go.by (fun _ => XS.iadd X54.here hx rfl (hb hby at_149) rfl) ?_
      refine Go.by (fun _ => XS.iload X54.here hx rfl (hb hby at_150) rfl) ?_
      refine Go.by (fun _ => XS.iadd X54.here hx rfl (hb hby at_152) rfl) ?_
      obtain ⟨T56, h56, kc56, b56, X56, g56, E56, A56, V56, st56⟩ := X54.newP hx hZ (tw hw 1 rfl) (g := (mkF m 153 #[.val (.int p0), .val (.int p1), .val (.int p2), .val (.int (1 : Int32)), .val (.int (2 : Int32)), .val (.int x5), .val (.int x6), .val (.int x7), .val (.int x8), .val (.int x9), .val (.int x10), .val (.ref b46), .val (.ref b50), .unset, .unset, .unset, .unset] [(.int (4 : Int32))])) rfl (hb hby at_153) rfl (by decide) (sz := 4) (cap := 4) (k' := 3) (n' := 7) rfl (Nat.le_refl _) (by decide) rfl rfl (by decide) (by decide) (ad := "[C") (by decide)
      have g_b56 : n0 ≤ b56 := by rw [g56]; exact Zs55
      have ne_b46_b56 : b46 ≠ b56 := Nat.ne_of_lt (by rw [g56]; exact f55_752.lt)
      have ne_b50_b56 : b50 ≠ b56 := Nat.ne_of_lt (by rw [g56]; exact f55_754.lt)
      have f57_772 := f55_751.ext E56
      have f57_773 := f55_752.ext E56
      have f57_774 := Avf.ext f55_753 E56
      have f57_775 := f55_754.ext E56
      have f57_776 := Avf.ext V54 E56
      have Zs57 : n0 ≤ h56.size := Nat.le_trans Zs55 E56.1
      refine Go.by st56 ?_
      show Go p.tables e below _ (T56.setTop (mkF m 155 #[.val (.int p0), .val (.int p1), .val (.int p2), .val (.int (1 : Int32)), .val (.int (2 : Int32)), .val (.int x5), .val (.int x6), .val (.int x7), .val (.int x8), .val (.int x9), .val (.int x10), .val (.ref b46), .val (.ref b50), .unset, .unset, .unset, .unset] [(.ref b56)]))
      refine Go.by (fun _ => XS.astore X56.here hx rfl (hb hby at_155) rfl rfl (l' := #[.val (.int p0), .val (.int p1), .val (.int p2), .val (.int (1 : Int32)), .val (.int (2 : Int32)), .val (.int x5), .val (.int x6), .val (.int x7), .val (.int x8), .val (.int x9), .val (.int x10), .val (.ref b46), .val (.ref b50), .val (.ref b56), .unset, .unset, .unset]) rfl) ?_
      show Go p.tables e below _ (T56.setTop (mkF m 157 #[.val (.int p0), .val (.int p1), .val (.int p2), .val (.int (1 : Int32)), .val (.int (2 : Int32)), .val (.int x5), .val (.int x6), .val (.int x7), .val (.int x8), .val (.int x9), .val (.int x10), .val (.ref b46), .val (.ref b50), .val (.ref b56), .unset, .unset, .unset] []))
      refine Go.by (fun _ => XS.aload X56.here hx rfl (hb hby at_157) rfl rfl) ?_
      refine Go.by (fun _ => XS.iconst X56.here hx rfl (hb hby at_159)) ?_
      show Go p.tables e below _ (T56.setTop (mkF m 160 #[.val (.int p0), .val (.int p1), .val (.int p2), .val (.int (1 : Int32)), .val (.int (2 : Int32)), .val (.int x5), .val (.int x6), .val (.int x7), .val (.int x8), .val (.int x9), .val (.int x10), .val (.ref b46), .val (.ref b50), .val (.ref b56), .unset, .unset, .unset] [(.int (0 : Int32)), (.ref b56)]))
      refine Go.by (fun _ => XS.iload X56.here hx rfl (hb hby at_160) rfl) ?_
      obtain ⟨T58, h58, X58, W58, V58, st58⟩ := X56.stC hx hZ V56 g_b56 (by decide) (i := 0) rfl (by decide) (g := (mkF m 162 #[.val (.int p0), .val (.int p1), .val (.int p2), .val (.int (1 : Int32)), .val (.int (2 : Int32)), .val (.int x5), .val (.int x6), .val (.int x7), .val (.int x8), .val (.int x9), .val (.int x10), .val (.ref b46), .val (.ref b50), .val (.ref b56), .unset, .unset, .unset] [(.int x5), (.int (0 : Int32)), (.ref b56)])) rfl rfl (hb hby at_162)
      have f59_787 := f57_772.wr W58 g_b56
      have f59_788 := f57_773.wr W58
      have f59_789 := Avf.other f57_774 W58 ne_b46_b56
      have f59_790 := f57_775.wr W58
      have f59_791 := Avf.other f57_776 W58 ne_b50_b56
      have f59_792 := A56.wr W58
      have Zs59 : n0 ≤ h58.size := by rw [W58.size]; exact Zs57
      refine Go.by st58 ?_
      show Go p.tables e below _ (T58.setTop (mkF m 163 #[.val (.int p0), .val (.int p1), .val (.int p2), .val (.int (1 : Int32)), .val (.int (2 : Int32)), .val (.int x5), .val (.int x6), .val (.int x7), .val (.int x8), .val (.int x9), .val (.int x10), .val (.ref b46), .val (.ref b50), .val (.ref b56), .unset, .unset, .unset] []))
      refine Go.by (fun _ => XS.iloadN X58.here hx rfl (hb hby at_163) rfl) ?_
      refine Go.by (fun _ => XS.iconst X58.here hx rfl (hb hby at_164)) ?_
      refine Go.by (fun _ => XS.icmpYes X58.here hx rfl (pc0 := 165) (pc' := 174) rfl (hb hby at_165) rfl (flt (by decide)).2.2.2 (by decide) (by decide)) ?_
      show Go p.tables e below _ (T58.setTop (mkF m 174 #[.val (.int p0), .val (.int p1), .val (.int p2), .val (.int (1 : Int32)), .val (.int (2 : Int32)), .val (.int x5), .val (.int x6), .val (.int x7), .val (.int x8), .val (.int x9), .val (.int x10), .val (.ref b46), .val (.ref b50), .val (.ref b56), .unset, .unset, .unset] []))
      refine Go.by (fun _ => XS.iloadN X58.here hx rfl (hb hby at_174) rfl) ?_
      refine Go.by (fun _ => XS.iconst X58.here hx rfl (hb hby at_175)) ?_
      refine Go.by (fun _ => XS.icmpYes X58.here hx rfl (pc0 := 176) (pc' := 185) rfl (hb hby at_176) rfl (flt (by decide)).2.2.2 (by decide) (by decide)) ?_
      show Go p.tables e below _ (T58.setTop (mkF m 185 #[.val (.int p0), .val (.int p1), .val (.int p2), .val (.int (1 : Int32)), .val (.int (2 : Int32)), .val (.int x5), .val (.int x6), .val (.int x7), .val (.int x8), .val (.int x9), .val (.int x10), .val (.ref b46), .val (.ref b50), .val (.ref b56), .unset, .unset, .unset] []))
      refine Go.by (fun _ => XS.aload X58.here hx rfl (hb hby at_185) rfl rfl) ?_
      refine Go.by (fun _ => XS.iloadN X58.here hx rfl (hb hby at_187) rfl) ?_
      show Go p.tables e below _ (T58.setTop (mkF m 188 #[.val (.int p0), .val (.int p1), .val (.int p2), .val (.int (1 : Int32)), .val (.int (2 : Int32)), .val (.int x5), .val (.int x6), .val (.int x7), .val (.int x8), .val (.int x9), .val (.int x10), .val (.ref b46), .val (.ref b50), .val (.ref b56), .unset, .unset, .unset] [(.int (1 : Int32)), (.ref b56)]))
      refine Go.by (fun _ => XS.bipush X58.here hx rfl (hb hby at_188)) ?_
      obtain ⟨T60, h60, X60, W60, V60, st60⟩ := X58.stC hx hZ V58 g_b56 (by decide) (i := 1) rfl (by decide) (g := (mkF m 190 #[.val (.int p0), .val (.int p1), .val (.int p2), .val (.int (1 : Int32)), .val (.int (2 : Int32)), .val (.int x5), .val (.int x6), .val (.int x7), .val (.int x8), .val (.int x9), .val (.int x10), .val (.ref b46), .val (.ref b50), .val (.ref b56), .unset, .unset, .unset] [(.int (47 : Int32)), (.int (1 : Int32)), (.ref b56)])) rfl rfl (hb hby at_190)
      have f61_809 := f59_787.wr W60 g_b56
      have f61_810 := f59_788.wr W60
      have f61_811 := Avf.other f59_789 W60 ne_b46_b56
      have f61_812 := f59_790.wr W60
      have f61_813 := Avf.other f59_791 W60 ne_b50_b56
      have f61_814 := f59_792.wr W60
      have Zs61 : n0 ≤ h60.size := by rw [W60.size]; exact Zs59
      refine Go.by st60 ?_
      show Go p.tables e below _ (T60.setTop (mkF m 191 #[.val (.int p0), .val (.int p1), .val (.int p2), .val (.int (1 : Int32)), .val (.int (2 : Int32)), .val (.int x5), .val (.int x6), .val (.int x7), .val (.int x8), .val (.int x9), .val (.int x10), .val (.ref b46), .val (.ref b50), .val (.ref b56), .unset, .unset, .unset] []))
      refine Go.by (fun _ => XS.aload X60.here hx rfl (hb hby at_191) rfl rfl) ?_
      refine Go.by (fun _ => XS.iloadN X60.here hx rfl (hb hby at_193) rfl) ?_
      refine Go.by (fun _ => XS.iconst X60.here hx rfl (hb hby at_194)) ?_
      refine Go.by (fun _ => XS.iadd X60.here hx rfl (hb hby at_195) rfl) ?_
      refine Go.by (fun _ => XS.iload X60.here hx rfl (hb hby at_196) rfl) ?_
      obtain ⟨T62, h62, X62, W62, V62, st62⟩ := X60.stC hx hZ V60 g_b56 (by decide) (i := 2) rfl (by decide) (g := (mkF m 198 #[.val (.int p0), .val (.int p1), .val (.int p2), .val (.int (1 : Int32)), .val (.int (2 : Int32)), .val (.int x5), .val (.int x6), .val (.int x7), .val (.int x8), .val (.int x9), .val (.int x10), .val (.ref b46), .val (.ref b50), .val (.ref b56), .unset, .unset, .unset] [(.int x8), (.int (2 : Int32)), (.ref b56)])) rfl rfl (hb hby at_198)
      have f63_824 := f61_809.wr W62 g_b56
      have f63_825 := f61_810.wr W62
      have f63_826 := Avf.other f61_811 W62 ne_b46_b56
      have f63_827 := f61_812.wr W62
      have f63_828 := Avf.other f61_813 W62 ne_b50_b56
      have f63_829 := f61_814.wr W62
      have Zs63 : n0 ≤ h62.size := by rw [W62.size]; exact Zs61
      refine Go.by st62 ?_
      show Go p.tables e below _ (T62.setTop (mkF m 199 #[.val (.int p0), .val (.int p1), .val (.int p2), .val (.int (1 : Int32)), .val (.int (2 : Int32)), .val (.int x5), .val (.int x6), .val (.int x7), .val (.int x8), .val (.int x9), .val (.int x10), .val (.ref b46), .val (.ref b50), .val (.ref b56), .unset, .unset, .unset] []))
      refine Go.by (fun _ => XS.iload X62.here hx rfl (hb hby at_199) rfl) ?_
      refine Go.by (fun _ => XS.iconst X62.here hx rfl (hb hby at_201)) ?_
      refine Go.by (fun _ => XS.icmpNo X62.here hx rfl (hb hby at_202) rfl (tlt (by decide)).2.2.2) ?_
      show Go p.tables e below _ (T62.setTop (mkF m 205 #[.val (.int p0), .val (.int p1), .val (.int p2), .val (.int (1 : Int32)), .val (.int (2 : Int32)), .val (.int x5), .val (.int x6), .val (.int x7), .val (.int x8), .val (.int x9), .val (.int x10), .val (.ref b46), .val (.ref b50), .val (.ref b56), .unset, .unset, .unset] []))
      refine Go.by (fun _ => XS.aload X62.here hx rfl (hb hby at_205) rfl rfl) ?_
      refine Go.by (fun _ => XS.iloadN X62.here hx rfl (hb hby at_207) rfl) ?_
      refine Go.by (fun _ => XS.iconst X62.here hx rfl (hb hby at_208)) ?_
      refine Go.by (fun _ => XS.iadd X62.here hx rfl (hb hby at_209) rfl) ?_
      refine Go.by (fun _ => XS.iload X62.here hx rfl (hb hby at_210) rfl) ?_
      obtain ⟨T64, h64, X64, W64, V64, st64⟩ := X62.stC hx hZ V62 g_b56 (by decide) (i := 3) rfl (by decide) (g := (mkF m 212 #[.val (.int p0), .val (.int p1), .val (.int p2), .val (.int (1 : Int32)), .val (.int (2 : Int32)), .val (.int x5), .val (.int x6), .val (.int x7), .val (.int x8), .val (.int x9), .val (.int x10), .val (.ref b46), .val (.ref b50), .val (.ref b56), .unset, .unset, .unset] [(.int x9), (.int (3 : Int32)), (.ref b56)])) rfl rfl (hb hby at_212)
      have f65_843 := f63_824.wr W64 g_b56
      have f65_844 := f63_825.wr W64
      have f65_845 := Avf.other f63_826 W64 ne_b46_b56
      have f65_846 := f63_827.wr W64
      have f65_847 := Avf.other f63_828 W64 ne_b50_b56
      have f65_848 := f63_829.wr W64
      have Zs65 : n0 ≤ h64.size := by rw [W64.size]; exact Zs63
      refine Go.by st64 ?_
      show Go p.tables e below _ (T64.setTop (mkF m 213 #[.val (.int p0), .val (.int p1), .val (.int p2), .val (.int (1 : Int32)), .val (.int (2 : Int32)), .val (.int x5), .val (.int x6), .val (.int x7), .val (.int x8), .val (.int x9), .val (.int x10), .val (.ref b46), .val (.ref b50), .val (.ref b56), .unset, .unset, .unset] []))
      refine Go.by (fun _ => XS.iload X64.here hx rfl (hb hby at_213) rfl) ?_
      refine Go.by (fun _ => XS.iconst X64.here hx rfl (hb hby at_215)) ?_
      refine Go.by (fun _ => XS.icmpYes X64.here hx rfl (pc0 := 216) (pc' := 227) rfl (hb hby at_216) rfl (flt (by decide)).2.2.2 (by decide) (by decide)) ?_
      show Go p.tables e below _ (T64.setTop (mkF m 227 #[.val (.int p0), .val (.int p1), .val (.int p2), .val (.int (1 : Int32)), .val (.int (2 : Int32)), .val (.int x5), .val (.int x6), .val (.int x7), .val (.int x8), .val (.int x9), .val (.int x10), .val (.ref b46), .val (.ref b50), .val (.ref b56), .unset, .unset, .unset] []))
      have Vc11 := Avf.cong f65_845 (g := (fun i => (.int ((c3 x5 x6 x7) i)))) (fun i hi => by
        match i, hi with
        | 0, _ => exact congrArg Value.int (own_nc2 b_x5))
      have Vc12 := Avf.cong f65_847 (g := (fun i => (.int ((c3 x8 x9 x10) i)))) (fun i hi => by
        match i, hi with
        | 0, _ => exact congrArg Value.int (own_nc2 b_x8)
        | 1, _ => exact congrArg Value.int (own_nc2 b_x9))
      have Vc13 := Avf.cong V64 (g := (fun i => (.int ((c7 1 (c3 x5 x6 x7) (c3 x8 x9 x10)) i)))) (fun i hi => by
        match i, hi with
        | 0, _ => exact congrArg Value.int (own_nc2 b_x5)
        | 1, _ => exact congrArg Value.int (show nar .char (47 : Int32) = 47 from rfl)
        | 2, _ => exact congrArg Value.int (own_nc2 b_x8)
        | 3, _ => exact congrArg Value.int (own_nc2 b_x9))
      exact J _ _ 1 2 _ _ _ _ _ _ _ _ rfl rfl (by decide) (X64.more (by decide) (by decide)) Zs65 f65_843 Vc11 Vc12 Vc13
    · skip
      refine Go.by (fun _ => XS.iloadN X0.here hx rfl (hb hby at_78) rfl) ?_
      obtain ⟨T67, h67, kc67, b67, X67, g67, E67, A67, V67, st67⟩ := X0.newP hx hZ (tw hw 1 rfl) (g := (mkF m 79 #[.val (.int p0), .val (.int p1), .val (.int p2), .val (.int (1 : Int32)), .val (.int (3 : Int32)), .val (.int x5), .val (.int x6), .val (.int x7), .val (.int x8), .val (.int x9), .val (.int x10), .unset, .unset, .unset, .unset, .unset, .unset] [(.int (1 : Int32))])) rfl (hb hby at_79) rfl (by decide) (sz := 1) (cap := 1) (k' := 1) (n' := 1) rfl (Nat.le_refl _) (by decide) rfl rfl (by decide) (by decide) (ad := "[C") (by decide)
      have g_b67 : n0 ≤ b67 := by rw [g67]; exact Z0
      have f68_874 := O0.ext E67
      have Zs68 : n0 ≤ h67.size := Nat.le_trans Z0 E67.1
      refine Go.by st67 ?_
      show Go p.tables e below _ (T67.setTop (mkF m 81 #[.val (.int p0), .val (.int p1), .val (.int p2), .val (.int (1 : Int32)), .val (.int (3 : Int32)), .val (.int x5), .val (.int x6), .val (.int x7), .val (.int x8), .val (.int x9), .val (.int x10), .unset, .unset, .unset, .unset, .unset, .unset] [(.ref b67)]))
      refine Go.by (fun _ => XS.astore X67.here hx rfl (hb hby at_81) rfl rfl (l' := #[.val (.int p0), .val (.int p1), .val (.int p2), .val (.int (1 : Int32)), .val (.int (3 : Int32)), .val (.int x5), .val (.int x6), .val (.int x7), .val (.int x8), .val (.int x9), .val (.int x10), .val (.ref b67), .unset, .unset, .unset, .unset, .unset]) rfl) ?_
      show Go p.tables e below _ (T67.setTop (mkF m 83 #[.val (.int p0), .val (.int p1), .val (.int p2), .val (.int (1 : Int32)), .val (.int (3 : Int32)), .val (.int x5), .val (.int x6), .val (.int x7), .val (.int x8), .val (.int x9), .val (.int x10), .val (.ref b67), .unset, .unset, .unset, .unset, .unset] []))
      refine Go.by (fun _ => XS.aload X67.here hx rfl (hb hby at_83) rfl rfl) ?_
      refine Go.by (fun _ => XS.iconst X67.here hx rfl (hb hby at_85)) ?_
      refine Go.by (fun _ => XS.iload X67.here hx rfl (hb hby at_86) rfl) ?_
      show Go p.tables e below _ (T67.setTop (mkF m 88 #[.val (.int p0), .val (.int p1), .val (.int p2), .val (.int (1 : Int32)), .val (.int (3 : Int32)), .val (.int x5), .val (.int x6), .val (.int x7), .val (.int x8), .val (.int x9), .val (.int x10), .val (.ref b67), .unset, .unset, .unset, .unset, .unset] [(.int x5), (.int (0 : Int32)), (.ref b67)]))
      obtain ⟨T69, h69, X69, W69, V69, st69⟩ := X67.stC hx hZ V67 g_b67 (by decide) (i := 0) rfl (by decide) (g := (mkF m 88 #[.val (.int p0), .val (.int p1), .val (.int p2), .val (.int (1 : Int32)), .val (.int (3 : Int32)), .val (.int x5), .val (.int x6), .val (.int x7), .val (.int x8), .val (.int x9), .val (.int x10), .val (.ref b67), .unset, .unset, .unset, .unset, .unset] [(.int x5), (.int (0 : Int32)), (.ref b67)])) rfl rfl (hb hby at_88)
      have f70_885 := f68_874.wr W69 g_b67
      have f70_886 := A67.wr W69
      have Zs70 : n0 ≤ h69.size := by rw [W69.size]; exact Zs68
      refine Go.by st69 ?_
      show Go p.tables e below _ (T69.setTop (mkF m 89 #[.val (.int p0), .val (.int p1), .val (.int p2), .val (.int (1 : Int32)), .val (.int (3 : Int32)), .val (.int x5), .val (.int x6), .val (.int x7), .val (.int x8), .val (.int x9), .val (.int x10), .val (.ref b67), .unset, .unset, .unset, .unset, .unset] []))
      refine Go.by (fun _ => XS.iloadN X69.here hx rfl (hb hby at_89) rfl) ?_
      refine Go.by (fun _ => XS.iconst X69.here hx rfl (hb hby at_90)) ?_
      refine Go.by (fun _ => XS.icmpYes X69.here hx rfl (pc0 := 91) (pc' := 100) rfl (hb hby at_91) rfl (flt (by decide)).2.2.2 (by decide) (by decide)) ?_
      show Go p.tables e below _ (T69.setTop (mkF m 100 #[.val (.int p0), .val (.int p1), .val (.int p2), .val (.int (1 : Int32)), .val (.int (3 : Int32)), .val (.int x5), .val (.int x6), .val (.int x7), .val (.int x8), .val (.int x9), .val (.int x10), .val (.ref b67), .unset, .unset, .unset, .unset, .unset] []))
      refine Go.by (fun _ => XS.iloadN X69.here hx rfl (hb hby at_100) rfl) ?_
      refine Go.by (fun _ => XS.iconst X69.here hx rfl (hb hby at_101)) ?_
      refine Go.by (fun _ => XS.icmpYes X69.here hx rfl (pc0 := 102) (pc' := 111) rfl (hb hby at_102) rfl (flt (by decide)).2.2.2 (by decide) (by decide)) ?_
      show Go p.tables e below _ (T69.setTop (mkF m 111 #[.val (.int p0), .val (.int p1), .val (.int p2), .val (.int (1 : Int32)), .val (.int (3 : Int32)), .val (.int x5), .val (.int x6), .val (.int x7), .val (.int x8), .val (.int x9), .val (.int x10), .val (.ref b67), .unset, .unset, .unset, .unset, .unset] []))
      refine Go.by (fun _ => XS.iload X69.here hx rfl (hb hby at_111) rfl) ?_
      obtain ⟨T71, h71, kc71, b71, X71, g71, E71, A71, V71, st71⟩ := X69.newP hx hZ (tw hw 1 rfl) (g := (mkF m 113 #[.val (.int p0), .val (.int p1), .val (.int p2), .val (.int (1 : Int32)), .val (.int (3 : Int32)), .val (.int x5), .val (.int x6), .val (.int x7), .val (.int x8), .val (.int x9), .val (.int x10), .val (.ref b67), .unset, .unset, .unset, .unset, .unset] [(.int (3 : Int32))])) rfl (hb hby at_113) rfl (by decide) (sz := 3) (cap := 3) (k' := 2) (n' := 4) rfl (Nat.le_refl _) (by decide) rfl rfl (by decide) (by decide) (ad := "[C") (by decide)
      have g_b71 : n0 ≤ b71 := by rw [g71]; exact Zs70
      have ne_b67_b71 : b67 ≠ b71 := Nat.ne_of_lt (by rw [g71]; exact f70_886.lt)
      have f72_902 := f70_885.ext E71
      have f72_903 := f70_886.ext E71
      have f72_904 := Avf.ext V69 E71
      have Zs72 : n0 ≤ h71.size := Nat.le_trans Zs70 E71.1
      refine Go.by st71 ?_
      show Go p.tables e below _ (T71.setTop (mkF m 115 #[.val (.int p0), .val (.int p1), .val (.int p2), .val (.int (1 : Int32)), .val (.int (3 : Int32)), .val (.int x5), .val (.int x6), .val (.int x7), .val (.int x8), .val (.int x9), .val (.int x10), .val (.ref b67), .unset, .unset, .unset, .unset, .unset] [(.ref b71)]))
      refine Go.by (fun _ => XS.astore X71.here hx rfl (hb hby at_115) rfl rfl (l' := #[.val (.int p0), .val (.int p1), .val (.int p2), .val (.int (1 : Int32)), .val (.int (3 : Int32)), .val (.int x5), .val (.int x6), .val (.int x7), .val (.int x8), .val (.int x9), .val (.int x10), .val (.ref b67), .val (.ref b71), .unset, .unset, .unset, .unset]) rfl) ?_
      show Go p.tables e below _ (T71.setTop (mkF m 117 #[.val (.int p0), .val (.int p1), .val (.int p2), .val (.int (1 : Int32)), .val (.int (3 : Int32)), .val (.int x5), .val (.int x6), .val (.int x7), .val (.int x8), .val (.int x9), .val (.int x10), .val (.ref b67), .val (.ref b71), .unset, .unset, .unset, .unset] []))
      refine Go.by (fun _ => XS.aload X71.here hx rfl (hb hby at_117) rfl rfl) ?_
      refine Go.by (fun _ => XS.iconst X71.here hx rfl (hb hby at_119)) ?_
      refine Go.by (fun _ => XS.iload X71.here hx rfl (hb hby at_120) rfl) ?_
      obtain ⟨T73, h73, X73, W73, V73, st73⟩ := X71.stC hx hZ V71 g_b71 (by decide) (i := 0) rfl (by decide) (g := (mkF m 122 #[.val (.int p0), .val (.int p1), .val (.int p2), .val (.int (1 : Int32)), .val (.int (3 : Int32)), .val (.int x5), .val (.int x6), .val (.int x7), .val (.int x8), .val (.int x9), .val (.int x10), .val (.ref b67), .val (.ref b71), .unset, .unset, .unset, .unset] [(.int x8), (.int (0 : Int32)), (.ref b71)])) rfl rfl (hb hby at_122)
      have f74_914 := f72_902.wr W73 g_b71
      have f74_915 := f72_903.wr W73
      have f74_916 := Avf.other f72_904 W73 ne_b67_b71
      have f74_917 := A71.wr W73
      have Zs74 : n0 ≤ h73.size := by rw [W73.size]; exact Zs72
      refine Go.by st73 ?_
      show Go p.tables e below _ (T73.setTop (mkF m 123 #[.val (.int p0), .val (.int p1), .val (.int p2), .val (.int (1 : Int32)), .val (.int (3 : Int32)), .val (.int x5), .val (.int x6), .val (.int x7), .val (.int x8), .val (.int x9), .val (.int x10), .val (.ref b67), .val (.ref b71), .unset, .unset, .unset, .unset] []))
      refine Go.by (fun _ => XS.iload X73.here hx rfl (hb hby at_123) rfl) ?_
      refine Go.by (fun _ => XS.iconst X73.here hx rfl (hb hby at_125)) ?_
      refine Go.by (fun _ => XS.icmpNo X73.here hx rfl (hb hby at_126) rfl (tlt (by decide)).2.2.2) ?_
      show Go p.tables e below _ (T73.setTop (mkF m 129 #[.val (.int p0), .val (.int p1), .val (.int p2), .val (.int (1 : Int32)), .val (.int (3 : Int32)), .val (.int x5), .val (.int x6), .val (.int x7), .val (.int x8), .val (.int x9), .val (.int x10), .val (.ref b67), .val (.ref b71), .unset, .unset, .unset, .unset] []))
      refine Go.by (fun _ => XS.aload X73.here hx rfl (hb hby at_129) rfl rfl) ?_
      refine Go.by (fun _ => XS.iconst X73.here hx rfl (hb hby at_131)) ?_
      show Go p.tables e below _ (T73.setTop (mkF m 132 #[.val (.int p0), .val (.int p1), .val (.int p2), .val (.int (1 : Int32)), .val (.int (3 : Int32)), .val (.int x5), .val (.int x6), .val (.int x7), .val (.int x8), .val (.int x9), .val (.int x10), .val (.ref b67), .val (.ref b71), .unset, .unset, .unset, .unset] [(.int (1 : Int32)), (.ref b71)]))
      refine Go.by (fun _ => XS.iload X73.here hx rfl (hb hby at_132) rfl) ?_
      obtain ⟨T75, h75, X75, W75, V75, st75⟩ := X73.stC hx hZ V73 g_b71 (by decide) (i := 1) rfl (by decide) (g := (mkF m 134 #[.val (.int p0), .val (.int p1), .val (.int p2), .val (.int (1 : Int32)), .val (.int (3 : Int32)), .val (.int x5), .val (.int x6), .val (.int x7), .val (.int x8), .val (.int x9), .val (.int x10), .val (.ref b67), .val (.ref b71), .unset, .unset, .unset, .unset] [(.int x9), (.int (1 : Int32)), (.ref b71)])) rfl rfl (hb hby at_134)
      have f76_930 := f74_914.wr W75 g_b71
      have f76_931 := f74_915.wr W75
      have f76_932 := Avf.other f74_916 W75 ne_b67_b71
      have f76_933 := f74_917.wr W75
      have Zs76 : n0 ≤ h75.size := by rw [W75.size]; exact Zs74
      refine Go.by st75 ?_
      show Go p.tables e below _ (T75.setTop (mkF m 135 #[.val (.int p0), .val (.int p1), .val (.int p2), .val (.int (1 : Int32)), .val (.int (3 : Int32)), .val (.int x5), .val (.int x6), .val (.int x7), .val (.int x8), .val (.int x9), .val (.int x10), .val (.ref b67), .val (.ref b71), .unset, .unset, .unset, .unset] []))
      refine Go.by (fun _ => XS.iload X75.here hx rfl (hb hby at_135) rfl) ?_
      refine Go.by (fun _ => XS.iconst X75.here hx rfl (hb hby at_137)) ?_
      refine Go.by (fun _ => XS.icmpNo X75.here hx rfl (hb hby at_138) rfl (tlt (by decide)).2.2.2) ?_
      show Go p.tables e below _ (T75.setTop (mkF m 141 #[.val (.int p0), .val (.int p1), .val (.int p2), .val (.int (1 : Int32)), .val (.int (3 : Int32)), .val (.int x5), .val (.int x6), .val (.int x7), .val (.int x8), .val (.int x9), .val (.int x10), .val (.ref b67), .val (.ref b71), .unset, .unset, .unset, .unset] []))
      refine Go.by (fun _ => XS.aload X75.here hx rfl (hb hby at_141) rfl rfl) ?_
      refine Go.by (fun _ => XS.iconst X75.here hx rfl (hb hby at_143)) ?_
      refine Go.by (fun _ => XS.iload X75.here hx rfl (hb hby at_144) rfl) ?_
      obtain ⟨T77, h77, X77, W77, V77, st77⟩ := X75.stC hx hZ V75 g_b71 (by decide) (i := 2) rfl (by decide) (g := (mkF m 146 #[.val (.int p0), .val (.int p1), .val (.int p2), .val (.int (1 : Int32)), .val (.int (3 : Int32)), .val (.int x5), .val (.int x6), .val (.int x7), .val (.int x8), .val (.int x9), .val (.int x10), .val (.ref b67), .val (.ref b71), .unset, .unset, .unset, .unset] [(.int x10), (.int (2 : Int32)), (.ref b71)])) rfl rfl (hb hby at_146)
      have f78_945 := f76_930.wr W77 g_b71
      have f78_946 := f76_931.wr W77
      have f78_947 := Avf.other f76_932 W77 ne_b67_b71
      have f78_948 := f76_933.wr W77
      have Zs78 : n0 ≤ h77.size := by rw [W77.size]; exact Zs76
      refine Go.by st77 ?_
      show Go p.tables e below _ (T77.setTop (mkF m 147 #[.val (.int p0), .val (.int p1), .val (.int p2), .val (.int (1 : Int32)), .val (.int (3 : Int32)), .val (.int x5), .val (.int x6), .val (.int x7), .val (.int x8), .val (.int x9), .val (.int x10), .val (.ref b67), .val (.ref b71), .unset, .unset, .unset, .unset] []))
      refine Go.by (fun _ => XS.iloadN X77.here hx rfl (hb hby at_147) rfl) ?_
      refine Go.by (fun _ => XS.iconst X77.here hx rfl (hb hby at_148)) ?_
      refine Go.by (fun _ => XS.iadd X77.here hx rfl (hb hby at_149) rfl) ?_
      refine Go.by (fun _ => XS.iload X77.here hx rfl (hb hby at_150) rfl) ?_
      refine Go.by (fun _ => XS.iadd X77.here hx rfl (hb hby at_152) rfl) ?_
      obtain ⟨T79, h79, kc79, b79, X79, g79, E79, A79, V79, st79⟩ := X77.newP hx hZ (tw hw 1 rfl) (g := (mkF m 153 #[.val (.int p0), .val (.int p1), .val (.int p2), .val (.int (1 : Int32)), .val (.int (3 : Int32)), .val (.int x5), .val (.int x6), .val (.int x7), .val (.int x8), .val (.int x9), .val (.int x10), .val (.ref b67), .val (.ref b71), .unset, .unset, .unset, .unset] [(.int (5 : Int32))])) rfl (hb hby at_153) rfl (by decide) (sz := 5) (cap := 5) (k' := 3) (n' := 9) rfl (Nat.le_refl _) (by decide) rfl rfl (by decide) (by decide) (ad := "[C") (by decide)
      have g_b79 : n0 ≤ b79 := by rw [g79]; exact Zs78
      have ne_b67_b79 : b67 ≠ b79 := Nat.ne_of_lt (by rw [g79]; exact f78_946.lt)
      have ne_b71_b79 : b71 ≠ b79 := Nat.ne_of_lt (by rw [g79]; exact f78_948.lt)
      have f80_961 := f78_945.ext E79
      have f80_962 := f78_946.ext E79
      have f80_963 := Avf.ext f78_947 E79
      have f80_964 := f78_948.ext E79
      have f80_965 := Avf.ext V77 E79
      have Zs80 : n0 ≤ h79.size := Nat.le_trans Zs78 E79.1
      refine Go.by st79 ?_
      show Go p.tables e below _ (T79.setTop (mkF m 155 #[.val (.int p0), .val (.int p1), .val (.int p2), .val (.int (1 : Int32)), .val (.int (3 : Int32)), .val (.int x5), .val (.int x6), .val (.int x7), .val (.int x8), .val (.int x9), .val (.int x10), .val (.ref b67), .val (.ref b71), .unset, .unset, .unset, .unset] [(.ref b79)]))
      refine Go.by (fun _ => XS.astore X79.here hx rfl (hb hby at_155) rfl rfl (l' := #[.val (.int p0), .val (.int p1), .val (.int p2), .val (.int (1 : Int32)), .val (.int (3 : Int32)), .val (.int x5), .val (.int x6), .val (.int x7), .val (.int x8), .val (.int x9), .val (.int x10), .val (.ref b67), .val (.ref b71), .val (.ref b79), .unset, .unset, .unset]) rfl) ?_
      show Go p.tables e below _ (T79.setTop (mkF m 157 #[.val (.int p0), .val (.int p1), .val (.int p2), .val (.int (1 : Int32)), .val (.int (3 : Int32)), .val (.int x5), .val (.int x6), .val (.int x7), .val (.int x8), .val (.int x9), .val (.int x10), .val (.ref b67), .val (.ref b71), .val (.ref b79), .unset, .unset, .unset] []))
      refine Go.by (fun _ => XS.aload X79.here hx rfl (hb hby at_157) rfl rfl) ?_
      show Go p.tables e below _ (T79.setTop (mkF m 159 #[.val (.int p0), .val (.int p1), .val (.int p2), .val (.int (1 : Int32)), .val (.int (3 : Int32)), .val (.int x5), .val (.int x6), .val (.int x7), .val (.int x8), .val (.int x9), .val (.int x10), .val (.ref b67), .val (.ref b71), .val (.ref b79), .unset, .unset, .unset] [(.ref b79)]))
      refine Go.by (fun _ => XS.iconst X79.here hx rfl (hb hby at_159)) ?_
      refine Go.by (fun _ => XS.iload X79.here hx rfl (hb hby at_160) rfl) ?_
      obtain ⟨T81, h81, X81, W81, V81, st81⟩ := X79.stC hx hZ V79 g_b79 (by decide) (i := 0) rfl (by decide) (g := (mkF m 162 #[.val (.int p0), .val (.int p1), .val (.int p2), .val (.int (1 : Int32)), .val (.int (3 : Int32)), .val (.int x5), .val (.int x6), .val (.int x7), .val (.int x8), .val (.int x9), .val (.int x10), .val (.ref b67), .val (.ref b71), .val (.ref b79), .unset, .unset, .unset] [(.int x5), (.int (0 : Int32)), (.ref b79)])) rfl rfl (hb hby at_162)
      have f82_976 := f80_961.wr W81 g_b79
      have f82_977 := f80_962.wr W81
      have f82_978 := Avf.other f80_963 W81 ne_b67_b79
      have f82_979 := f80_964.wr W81
      have f82_980 := Avf.other f80_965 W81 ne_b71_b79
      have f82_981 := A79.wr W81
      have Zs82 : n0 ≤ h81.size := by rw [W81.size]; exact Zs80
      refine Go.by st81 ?_
      show Go p.tables e below _ (T81.setTop (mkF m 163 #[.val (.int p0), .val (.int p1), .val (.int p2), .val (.int (1 : Int32)), .val (.int (3 : Int32)), .val (.int x5), .val (.int x6), .val (.int x7), .val (.int x8), .val (.int x9), .val (.int x10), .val (.ref b67), .val (.ref b71), .val (.ref b79), .unset, .unset, .unset] []))
      refine Go.by (fun _ => XS.iloadN X81.here hx rfl (hb hby at_163) rfl) ?_
      refine Go.by (fun _ => XS.iconst X81.here hx rfl (hb hby at_164)) ?_
      refine Go.by (fun _ => XS.icmpYes X81.here hx rfl (pc0 := 165) (pc' := 174) rfl (hb hby at_165) rfl (flt (by decide)).2.2.2 (by decide) (by decide)) ?_
      show Go p.tables e below _ (T81.setTop (mkF m 174 #[.val (.int p0), .val (.int p1), .val (.int p2), .val (.int (1 : Int32)), .val (.int (3 : Int32)), .val (.int x5), .val (.int x6), .val (.int x7), .val (.int x8), .val (.int x9), .val (.int x10), .val (.ref b67), .val (.ref b71), .val (.ref b79), .unset, .unset, .unset] []))
      refine Go.by (fun _ => XS.iloadN X81.here hx rfl (hb hby at_174) rfl) ?_
      refine Go.by (fun _ => XS.iconst X81.here hx rfl (hb hby at_175)) ?_
      refine Go.by (fun _ => XS.icmpYes X81.here hx rfl (pc0 := 176) (pc' := 185) rfl (hb hby at_176) rfl (flt (by decide)).2.2.2 (by decide) (by decide)) ?_
      show Go p.tables e below _ (T81.setTop (mkF m 185 #[.val (.int p0), .val (.int p1), .val (.int p2), .val (.int (1 : Int32)), .val (.int (3 : Int32)), .val (.int x5), .val (.int x6), .val (.int x7), .val (.int x8), .val (.int x9), .val (.int x10), .val (.ref b67), .val (.ref b71), .val (.ref b79), .unset, .unset, .unset] []))
      refine Go.by (fun _ => XS.aload X81.here hx rfl (hb hby at_185) rfl rfl) ?_
      show Go p.tables e below _ (T81.setTop (mkF m 187 #[.val (.int p0), .val (.int p1), .val (.int p2), .val (.int (1 : Int32)), .val (.int (3 : Int32)), .val (.int x5), .val (.int x6), .val (.int x7), .val (.int x8), .val (.int x9), .val (.int x10), .val (.ref b67), .val (.ref b71), .val (.ref b79), .unset, .unset, .unset] [(.ref b79)]))
      refine Go.by (fun _ => XS.iloadN X81.here hx rfl (hb hby at_187) rfl) ?_
      refine Go.by (fun _ => XS.bipush X81.here hx rfl (hb hby at_188)) ?_
      obtain ⟨T83, h83, X83, W83, V83, st83⟩ := X81.stC hx hZ V81 g_b79 (by decide) (i := 1) rfl (by decide) (g := (mkF m 190 #[.val (.int p0), .val (.int p1), .val (.int p2), .val (.int (1 : Int32)), .val (.int (3 : Int32)), .val (.int x5), .val (.int x6), .val (.int x7), .val (.int x8), .val (.int x9), .val (.int x10), .val (.ref b67), .val (.ref b71), .val (.ref b79), .unset, .unset, .unset] [(.int (47 : Int32)), (.int (1 : Int32)), (.ref b79)])) rfl rfl (hb hby at_190)
      have f84_998 := f82_976.wr W83 g_b79
      have f84_999 := f82_977.wr W83
      have f84_1000 := Avf.other f82_978 W83 ne_b67_b79
      have f84_1001 := f82_979.wr W83
      have f84_1002 := Avf.other f82_980 W83 ne_b71_b79
      have f84_1003 := f82_981.wr W83
      have Zs84 : n0 ≤ h83.size := by rw [W83.size]; exact Zs82
      refine Go.by st83 ?_
      show Go p.tables e below _ (T83.setTop (mkF m 191 #[.val (.int p0), .val (.int p1), .val (.int p2), .val (.int (1 : Int32)), .val (.int (3 : Int32)), .val (.int x5), .val (.int x6), .val (.int x7), .val (.int x8), .val (.int x9), .val (.int x10), .val (.ref b67), .val (.ref b71), .val (.ref b79), .unset, .unset, .unset] []))
      refine Go.by (fun _ => XS.aload X83.here hx rfl (hb hby at_191) rfl rfl) ?_
      refine Go.by (fun _ => XS.iloadN X83.here hx rfl (hb hby at_193) rfl) ?_
      refine Go.by (fun _ => XS.iconst X83.here hx rfl (hb hby at_194)) ?_
      refine Go.by (fun _ => XS.iadd X83.here hx rfl (hb hby at_195) rfl) ?_
      refine Go.by (fun _ => XS.iload X83.here hx rfl (hb hby at_196) rfl) ?_
      show Go p.tables e below _ (T83.setTop (mkF m 198 #[.val (.int p0), .val (.int p1), .val (.int p2), .val (.int (1 : Int32)), .val (.int (3 : Int32)), .val (.int x5), .val (.int x6), .val (.int x7), .val (.int x8), .val (.int x9), .val (.int x10), .val (.ref b67), .val (.ref b71), .val (.ref b79), .unset, .unset, .unset] [(.int x8), (.int (2 : Int32)), (.ref b79)]))
      obtain ⟨T85, h85, X85, W85, V85, st85⟩ := X83.stC hx hZ V83 g_b79 (by decide) (i := 2) rfl (by decide) (g := (mkF m 198 #[.val (.int p0), .val (.int p1), .val (.int p2), .val (.int (1 : Int32)), .val (.int (3 : Int32)), .val (.int x5), .val (.int x6), .val (.int x7), .val (.int x8), .val (.int x9), .val (.int x10), .val (.ref b67), .val (.ref b71), .val (.ref b79), .unset, .unset, .unset] [(.int x8), (.int (2 : Int32)), (.ref b79)])) rfl rfl (hb hby at_198)
      have f86_1014 := f84_998.wr W85 g_b79
      have f86_1015 := f84_999.wr W85
      have f86_1016 := Avf.other f84_1000 W85 ne_b67_b79
      have f86_1017 := f84_1001.wr W85
      have f86_1018 := Avf.other f84_1002 W85 ne_b71_b79
      have f86_1019 := f84_1003.wr W85
      have Zs86 : n0 ≤ h85.size := by rw [W85.size]; exact Zs84
      refine Go.by st85 ?_
      show Go p.tables e below _ (T85.setTop (mkF m 199 #[.val (.int p0), .val (.int p1), .val (.int p2), .val (.int (1 : Int32)), .val (.int (3 : Int32)), .val (.int x5), .val (.int x6), .val (.int x7), .val (.int x8), .val (.int x9), .val (.int x10), .val (.ref b67), .val (.ref b71), .val (.ref b79), .unset, .unset, .unset] []))
      refine Go.by (fun _ => XS.iload X85.here hx rfl (hb hby at_199) rfl) ?_
      refine Go.by (fun _ => XS.iconst X85.here hx rfl (hb hby at_201)) ?_
      refine Go.by (fun _ => XS.icmpNo X85.here hx rfl (hb hby at_202) rfl (tlt (by decide)).2.2.2) ?_
      show Go p.tables e below _ (T85.setTop (mkF m 205 #[.val (.int p0), .val (.int p1), .val (.int p2), .val (.int (1 : Int32)), .val (.int (3 : Int32)), .val (.int x5), .val (.int x6), .val (.int x7), .val (.int x8), .val (.int x9), .val (.int x10), .val (.ref b67), .val (.ref b71), .val (.ref b79), .unset, .unset, .unset] []))
      refine Go.by (fun _ => XS.aload X85.here hx rfl (hb hby at_205) rfl rfl) ?_
      refine Go.by (fun _ => XS.iloadN X85.here hx rfl (hb hby at_207) rfl) ?_
      refine Go.by (fun _ => XS.iconst X85.here hx rfl (hb hby at_208)) ?_
      refine Go.by (fun _ => XS.iadd X85.here hx rfl (hb hby at_209) rfl) ?_
      refine Go.by (fun _ => XS.iload X85.here hx rfl (hb hby at_210) rfl) ?_
      show Go p.tables e below _ (T85.setTop (mkF m 212 #[.val (.int p0), .val (.int p1), .val (.int p2), .val (.int (1 : Int32)), .val (.int (3 : Int32)), .val (.int x5), .val (.int x6), .val (.int x7), .val (.int x8), .val (.int x9), .val (.int x10), .val (.ref b67), .val (.ref b71), .val (.ref b79), .unset, .unset, .unset] [(.int x9), (.int (3 : Int32)), (.ref b79)]))
      obtain ⟨T87, h87, X87, W87, V87, st87⟩ := X85.stC hx hZ V85 g_b79 (by decide) (i := 3) rfl (by decide) (g := (mkF m 212 #[.val (.int p0), .val (.int p1), .val (.int p2), .val (.int (1 : Int32)), .val (.int (3 : Int32)), .val (.int x5), .val (.int x6), .val (.int x7), .val (.int x8), .val (.int x9), .val (.int x10), .val (.ref b67), .val (.ref b71), .val (.ref b79), .unset, .unset, .unset] [(.int x9), (.int (3 : Int32)), (.ref b79)])) rfl rfl (hb hby at_212)
      have f88_1034 := f86_1014.wr W87 g_b79
      have f88_1035 := f86_1015.wr W87
      have f88_1036 := Avf.other f86_1016 W87 ne_b67_b79
      have f88_1037 := f86_1017.wr W87
      have f88_1038 := Avf.other f86_1018 W87 ne_b71_b79
      have f88_1039 := f86_1019.wr W87
      have Zs88 : n0 ≤ h87.size := by rw [W87.size]; exact Zs86
      refine Go.by st87 ?_
      show Go p.tables e below _ (T87.setTop (mkF m 213 #[.val (.int p0), .val (.int p1), .val (.int p2), .val (.int (1 : Int32)), .val (.int (3 : Int32)), .val (.int x5), .val (.int x6), .val (.int x7), .val (.int x8), .val (.int x9), .val (.int x10), .val (.ref b67), .val (.ref b71), .val (.ref b79), .unset, .unset, .unset] []))
      refine Go.by (fun _ => XS.iload X87.here hx rfl (hb hby at_213) rfl) ?_
      refine Go.by (fun _ => XS.iconst X87.here hx rfl (hb hby at_215)) ?_
      refine Go.by (fun _ => XS.icmpNo X87.here hx rfl (hb hby at_216) rfl (tlt (by decide)).2.2.2) ?_
      show Go p.tables e below _ (T87.setTop (mkF m 219 #[.val (.int p0), .val (.int p1), .val (.int p2), .val (.int (1 : Int32)), .val (.int (3 : Int32)), .val (.int x5), .val (.int x6), .val (.int x7), .val (.int x8), .val (.int x9), .val (.int x10), .val (.ref b67), .val (.ref b71), .val (.ref b79), .unset, .unset, .unset] []))
      refine Go.by (fun _ => XS.aload X87.here hx rfl (hb hby at_219) rfl rfl) ?_
      refine Go.by (fun _ => XS.iloadN X87.here hx rfl (hb hby at_221) rfl) ?_
      refine Go.by (fun _ => XS.iconst X87.here hx rfl (hb hby at_222)) ?_
      refine Go.by (fun _ => XS.iadd X87.here hx rfl (hb hby at_223) rfl) ?_
      refine Go.by (fun _ => XS.iload X87.here hx rfl (hb hby at_224) rfl) ?_
      show Go p.tables e below _ (T87.setTop (mkF m 226 #[.val (.int p0), .val (.int p1), .val (.int p2), .val (.int (1 : Int32)), .val (.int (3 : Int32)), .val (.int x5), .val (.int x6), .val (.int x7), .val (.int x8), .val (.int x9), .val (.int x10), .val (.ref b67), .val (.ref b71), .val (.ref b79), .unset, .unset, .unset] [(.int x10), (.int (4 : Int32)), (.ref b79)]))
      obtain ⟨T89, h89, X89, W89, V89, st89⟩ := X87.stC hx hZ V87 g_b79 (by decide) (i := 4) rfl (by decide) (g := (mkF m 226 #[.val (.int p0), .val (.int p1), .val (.int p2), .val (.int (1 : Int32)), .val (.int (3 : Int32)), .val (.int x5), .val (.int x6), .val (.int x7), .val (.int x8), .val (.int x9), .val (.int x10), .val (.ref b67), .val (.ref b71), .val (.ref b79), .unset, .unset, .unset] [(.int x10), (.int (4 : Int32)), (.ref b79)])) rfl rfl (hb hby at_226)
      have f90_1054 := f88_1034.wr W89 g_b79
      have f90_1055 := f88_1035.wr W89
      have f90_1056 := Avf.other f88_1036 W89 ne_b67_b79
      have f90_1057 := f88_1037.wr W89
      have f90_1058 := Avf.other f88_1038 W89 ne_b71_b79
      have f90_1059 := f88_1039.wr W89
      have Zs90 : n0 ≤ h89.size := by rw [W89.size]; exact Zs88
      refine Go.by st89 ?_
      show Go p.tables e below _ (T89.setTop (mkF m 227 #[.val (.int p0), .val (.int p1), .val (.int p2), .val (.int (1 : Int32)), .val (.int (3 : Int32)), .val (.int x5), .val (.int x6), .val (.int x7), .val (.int x8), .val (.int x9), .val (.int x10), .val (.ref b67), .val (.ref b71), .val (.ref b79), .unset, .unset, .unset] []))
      have Vc11 := Avf.cong f90_1056 (g := (fun i => (.int ((c3 x5 x6 x7) i)))) (fun i hi => by
        match i, hi with
        | 0, _ => exact congrArg Value.int (own_nc2 b_x5))
      have Vc12 := Avf.cong f90_1058 (g := (fun i => (.int ((c3 x8 x9 x10) i)))) (fun i hi => by
        match i, hi with
        | 0, _ => exact congrArg Value.int (own_nc2 b_x8)
        | 1, _ => exact congrArg Value.int (own_nc2 b_x9)
        | 2, _ => exact congrArg Value.int (own_nc2 b_x10))
      have Vc13 := Avf.cong V89 (g := (fun i => (.int ((c7 1 (c3 x5 x6 x7) (c3 x8 x9 x10)) i)))) (fun i hi => by
        match i, hi with
        | 0, _ => exact congrArg Value.int (own_nc2 b_x5)
        | 1, _ => exact congrArg Value.int (show nar .char (47 : Int32) = 47 from rfl)
        | 2, _ => exact congrArg Value.int (own_nc2 b_x8)
        | 3, _ => exact congrArg Value.int (own_nc2 b_x9)
        | 4, _ => exact congrArg Value.int (own_nc2 b_x10))
      exact J _ _ 1 3 _ _ _ _ _ _ _ _ rfl rfl (by decide) (X89.more (by decide) (by decide)) Zs90 f90_1054 Vc11 Vc12 Vc13
  · skip
    rcases own_three b_x4 with rfl | rfl | rfl
    · skip
      refine Go.by (fun _ => XS.iloadN X0.here hx rfl (hb hby at_78) rfl) ?_
      obtain ⟨T92, h92, kc92, b92, X92, g92, E92, A92, V92, st92⟩ := X0.newP hx hZ (tw hw 1 rfl) (g := (mkF m 79 #[.val (.int p0), .val (.int p1), .val (.int p2), .val (.int (2 : Int32)), .val (.int (1 : Int32)), .val (.int x5), .val (.int x6), .val (.int x7), .val (.int x8), .val (.int x9), .val (.int x10), .unset, .unset, .unset, .unset, .unset, .unset] [(.int (2 : Int32))])) rfl (hb hby at_79) rfl (by decide) (sz := 2) (cap := 2) (k' := 1) (n' := 2) rfl (Nat.le_refl _) (by decide) rfl rfl (by decide) (by decide) (ad := "[C") (by decide)
      have g_b92 : n0 ≤ b92 := by rw [g92]; exact Z0
      have f93_1085 := O0.ext E92
      have Zs93 : n0 ≤ h92.size := Nat.le_trans Z0 E92.1
      refine Go.by st92 ?_
      show Go p.tables e below _ (T92.setTop (mkF m 81 #[.val (.int p0), .val (.int p1), .val (.int p2), .val (.int (2 : Int32)), .val (.int (1 : Int32)), .val (.int x5), .val (.int x6), .val (.int x7), .val (.int x8), .val (.int x9), .val (.int x10), .unset, .unset, .unset, .unset, .unset, .unset] [(.ref b92)]))
      refine Go.by (fun _ => XS.astore X92.here hx rfl (hb hby at_81) rfl rfl (l' := #[.val (.int p0), .val (.int p1), .val (.int p2), .val (.int (2 : Int32)), .val (.int (1 : Int32)), .val (.int x5), .val (.int x6), .val (.int x7), .val (.int x8), .val (.int x9), .val (.int x10), .val (.ref b92), .unset, .unset, .unset, .unset, .unset]) rfl) ?_
      show Go p.tables e below _ (T92.setTop (mkF m 83 #[.val (.int p0), .val (.int p1), .val (.int p2), .val (.int (2 : Int32)), .val (.int (1 : Int32)), .val (.int x5), .val (.int x6), .val (.int x7), .val (.int x8), .val (.int x9), .val (.int x10), .val (.ref b92), .unset, .unset, .unset, .unset, .unset] []))
      refine Go.by (fun _ => XS.aload X92.here hx rfl (hb hby at_83) rfl rfl) ?_
      refine Go.by (fun _ => XS.iconst X92.here hx rfl (hb hby at_85)) ?_
      refine Go.by (fun _ => XS.iload X92.here hx rfl (hb hby at_86) rfl) ?_
      obtain ⟨T94, h94, X94, W94, V94, st94⟩ := X92.stC hx hZ V92 g_b92 (by decide) (i := 0) rfl (by decide) (g := (mkF m 88 #[.val (.int p0), .val (.int p1), .val (.int p2), .val (.int (2 : Int32)), .val (.int (1 : Int32)), .val (.int x5), .val (.int x6), .val (.int x7), .val (.int x8), .val (.int x9), .val (.int x10), .val (.ref b92), .unset, .unset, .unset, .unset, .unset] [(.int x5), (.int (0 : Int32)), (.ref b92)])) rfl rfl (hb hby at_88)
      have f95_1095 := f93_1085.wr W94 g_b92
      have f95_1096 := A92.wr W94
      have Zs95 : n0 ≤ h94.size := by rw [W94.size]; exact Zs93
      refine Go.by st94 ?_
      show Go p.tables e below _ (T94.setTop (mkF m 89 #[.val (.int p0), .val (.int p1), .val (.int p2), .val (.int (2 : Int32)), .val (.int (1 : Int32)), .val (.int x5), .val (.int x6), .val (.int x7), .val (.int x8), .val (.int x9), .val (.int x10), .val (.ref b92), .unset, .unset, .unset, .unset, .unset] []))
      refine Go.by (fun _ => XS.iloadN X94.here hx rfl (hb hby at_89) rfl) ?_
      refine Go.by (fun _ => XS.iconst X94.here hx rfl (hb hby at_90)) ?_
      refine Go.by (fun _ => XS.icmpNo X94.here hx rfl (hb hby at_91) rfl (tlt (by decide)).2.2.2) ?_
      show Go p.tables e below _ (T94.setTop (mkF m 94 #[.val (.int p0), .val (.int p1), .val (.int p2), .val (.int (2 : Int32)), .val (.int (1 : Int32)), .val (.int x5), .val (.int x6), .val (.int x7), .val (.int x8), .val (.int x9), .val (.int x10), .val (.ref b92), .unset, .unset, .unset, .unset, .unset] []))
      refine Go.by (fun _ => XS.aload X94.here hx rfl (hb hby at_94) rfl rfl) ?_
      refine Go.by (fun _ => XS.iconst X94.here hx rfl (hb hby at_96)) ?_
      refine Go.by (fun _ => XS.iload X94.here hx rfl (hb hby at_97) rfl) ?_
      obtain ⟨T96, h96, X96, W96, V96, st96⟩ := X94.stC hx hZ V94 g_b92 (by decide) (i := 1) rfl (by decide) (g := (mkF m 99 #[.val (.int p0), .val (.int p1), .val (.int p2), .val (.int (2 : Int32)), .val (.int (1 : Int32)), .val (.int x5), .val (.int x6), .val (.int x7), .val (.int x8), .val (.int x9), .val (.int x10), .val (.ref b92), .unset, .unset, .unset, .unset, .unset] [(.int x6), (.int (1 : Int32)), (.ref b92)])) rfl rfl (hb hby at_99)
      have f97_1108 := f95_1095.wr W96 g_b92
      have f97_1109 := f95_1096.wr W96
      have Zs97 : n0 ≤ h96.size := by rw [W96.size]; exact Zs95
      refine Go.by st96 ?_
      show Go p.tables e below _ (T96.setTop (mkF m 100 #[.val (.int p0), .val (.int p1), .val (.int p2), .val (.int (2 : Int32)), .val (.int (1 : Int32)), .val (.int x5), .val (.int x6), .val (.int x7), .val (.int x8), .val (.int x9), .val (.int x10), .val (.ref b92), .unset, .unset, .unset, .unset, .unset] []))
      refine Go.by (fun _ => XS.iloadN X96.here hx rfl (hb hby at_100) rfl) ?_
      refine Go.by (fun _ => XS.iconst X96.here hx rfl (hb hby at_101)) ?_
      show Go p.tables e below _ (T96.setTop (mkF m 102 #[.val (.int p0), .val (.int p1), .val (.int p2), .val (.int (2 : Int32)), .val (.int (1 : Int32)), .val (.int x5), .val (.int x6), .val (.int x7), .val (.int x8), .val (.int x9), .val (.int x10), .val (.ref b92), .unset, .unset, .unset, .unset, .unset] [(.int (2 : Int32)), (.int (2 : Int32))]))
      refine Go.by (fun _ => XS.icmpYes X96.here hx rfl (pc0 := 102) (pc' := 111) rfl (hb hby at_102) rfl (flt (by decide)).2.2.2 (by decide) (by decide)) ?_
      show Go p.tables e below _ (T96.setTop (mkF m 111 #[.val (.int p0), .val (.int p1), .val (.int p2), .val (.int (2 : Int32)), .val (.int (1 : Int32)), .val (.int x5), .val (.int x6), .val (.int x7), .val (.int x8), .val (.int x9), .val (.int x10), .val (.ref b92), .unset, .unset, .unset, .unset, .unset] []))
      refine Go.by (fun _ => XS.iload X96.here hx rfl (hb hby at_111) rfl) ?_
      obtain ⟨T98, h98, kc98, b98, X98, g98, E98, A98, V98, st98⟩ := X96.newP hx hZ (tw hw 1 rfl) (g := (mkF m 113 #[.val (.int p0), .val (.int p1), .val (.int p2), .val (.int (2 : Int32)), .val (.int (1 : Int32)), .val (.int x5), .val (.int x6), .val (.int x7), .val (.int x8), .val (.int x9), .val (.int x10), .val (.ref b92), .unset, .unset, .unset, .unset, .unset] [(.int (1 : Int32))])) rfl (hb hby at_113) rfl (by decide) (sz := 1) (cap := 1) (k' := 2) (n' := 3) rfl (Nat.le_refl _) (by decide) rfl rfl (by decide) (by decide) (ad := "[C") (by decide)
      have g_b98 : n0 ≤ b98 := by rw [g98]; exact Zs97
      have ne_b92_b98 : b92 ≠ b98 := Nat.ne_of_lt (by rw [g98]; exact f97_1109.lt)
      have f99_1122 := f97_1108.ext E98
      have f99_1123 := f97_1109.ext E98
      have f99_1124 := Avf.ext V96 E98
      have Zs99 : n0 ≤ h98.size := Nat.le_trans Zs97 E98.1
      refine Go.by st98 ?_
      show Go p.tables e below _ (T98.setTop (mkF m 115 #[.val (.int p0), .val (.int p1), .val (.int p2), .val (.int (2 : Int32)), .val (.int (1 : Int32)), .val (.int x5), .val (.int x6), .val (.int x7), .val (.int x8), .val (.int x9), .val (.int x10), .val (.ref b92), .unset, .unset, .unset, .unset, .unset] [(.ref b98)]))
      refine Go.by (fun _ => XS.astore X98.here hx rfl (hb hby at_115) rfl rfl (l' := #[.val (.int p0), .val (.int p1), .val (.int p2), .val (.int (2 : Int32)), .val (.int (1 : Int32)), .val (.int x5), .val (.int x6), .val (.int x7), .val (.int x8), .val (.int x9), .val (.int x10), .val (.ref b92), .val (.ref b98), .unset, .unset, .unset, .unset]) rfl) ?_
      show Go p.tables e below _ (T98.setTop (mkF m 117 #[.val (.int p0), .val (.int p1), .val (.int p2), .val (.int (2 : Int32)), .val (.int (1 : Int32)), .val (.int x5), .val (.int x6), .val (.int x7), .val (.int x8), .val (.int x9), .val (.int x10), .val (.ref b92), .val (.ref b98), .unset, .unset, .unset, .unset] []))
      refine Go.by (fun _ => XS.aload X98.here hx rfl (hb hby at_117) rfl rfl) ?_
      refine Go.by (fun _ => XS.iconst X98.here hx rfl (hb hby at_119)) ?_
      refine Go.by (fun _ => XS.iload X98.here hx rfl (hb hby at_120) rfl) ?_
      obtain ⟨T100, h100, X100, W100, V100, st100⟩ := X98.stC hx hZ V98 g_b98 (by decide) (i := 0) rfl (by decide) (g := (mkF m 122 #[.val (.int p0), .val (.int p1), .val (.int p2), .val (.int (2 : Int32)), .val (.int (1 : Int32)), .val (.int x5), .val (.int x6), .val (.int x7), .val (.int x8), .val (.int x9), .val (.int x10), .val (.ref b92), .val (.ref b98), .unset, .unset, .unset, .unset] [(.int x8), (.int (0 : Int32)), (.ref b98)])) rfl rfl (hb hby at_122)
      have f101_1134 := f99_1122.wr W100 g_b98
      have f101_1135 := f99_1123.wr W100
      have f101_1136 := Avf.other f99_1124 W100 ne_b92_b98
      have f101_1137 := A98.wr W100
      have Zs101 : n0 ≤ h100.size := by rw [W100.size]; exact Zs99
      refine Go.by st100 ?_
      show Go p.tables e below _ (T100.setTop (mkF m 123 #[.val (.int p0), .val (.int p1), .val (.int p2), .val (.int (2 : Int32)), .val (.int (1 : Int32)), .val (.int x5), .val (.int x6), .val (.int x7), .val (.int x8), .val (.int x9), .val (.int x10), .val (.ref b92), .val (.ref b98), .unset, .unset, .unset, .unset] []))
      refine Go.by (fun _ => XS.iload X100.here hx rfl (hb hby at_123) rfl) ?_
      show Go p.tables e below _ (T100.setTop (mkF m 125 #[.val (.int p0), .val (.int p1), .val (.int p2), .val (.int (2 : Int32)), .val (.int (1 : Int32)), .val (.int x5), .val (.int x6), .val (.int x7), .val (.int x8), .val (.int x9), .val (.int x10), .val (.ref b92), .val (.ref b98), .unset, .unset, .unset, .unset] [(.int (1 : Int32))]))
      refine Go.by (fun _ => XS.iconst X100.here hx rfl (hb hby at_125)) ?_
      refine Go.by (fun _ => XS.icmpYes X100.here hx rfl (pc0 := 126) (pc' := 135) rfl (hb hby at_126) rfl (flt (by decide)).2.2.2 (by decide) (by decide)) ?_
      show Go p.tables e below _ (T100.setTop (mkF m 135 #[.val (.int p0), .val (.int p1), .val (.int p2), .val (.int (2 : Int32)), .val (.int (1 : Int32)), .val (.int x5), .val (.int x6), .val (.int x7), .val (.int x8), .val (.int x9), .val (.int x10), .val (.ref b92), .val (.ref b98), .unset, .unset, .unset, .unset] []))
      refine Go.by (fun _ => XS.iload X100.here hx rfl (hb hby at_135) rfl) ?_
      refine Go.by (fun _ => XS.iconst X100.here hx rfl (hb hby at_137)) ?_
      refine Go.by (fun _ => XS.icmpYes X100.here hx rfl (pc0 := 138) (pc' := 147) rfl (hb hby at_138) rfl (flt (by decide)).2.2.2 (by decide) (by decide)) ?_
      show Go p.tables e below _ (T100.setTop (mkF m 147 #[.val (.int p0), .val (.int p1), .val (.int p2), .val (.int (2 : Int32)), .val (.int (1 : Int32)), .val (.int x5), .val (.int x6), .val (.int x7), .val (.int x8), .val (.int x9), .val (.int x10), .val (.ref b92), .val (.ref b98), .unset, .unset, .unset, .unset] []))
      refine Go.by (fun _ => XS.iloadN X100.here hx rfl (hb hby at_147) rfl) ?_
      refine Go.by (fun _ => XS.iconst X100.here hx rfl (hb hby at_148)) ?_
      refine Go.by (fun _ => XS.iadd X100.here hx rfl (hb hby at_149) rfl) ?_
      refine Go.by (fun _ => XS.iload X100.here hx rfl (hb hby at_150) rfl) ?_
      refine Go.by (fun _ => XS.iadd X100.here hx rfl (hb hby at_152) rfl) ?_
      show Go p.tables e below _ (T100.setTop (mkF m 153 #[.val (.int p0), .val (.int p1), .val (.int p2), .val (.int (2 : Int32)), .val (.int (1 : Int32)), .val (.int x5), .val (.int x6), .val (.int x7), .val (.int x8), .val (.int x9), .val (.int x10), .val (.ref b92), .val (.ref b98), .unset, .unset, .unset, .unset] [(.int (4 : Int32))]))
      obtain ⟨T102, h102, kc102, b102, X102, g102, E102, A102, V102, st102⟩ := X100.newP hx hZ (tw hw 1 rfl) (g := (mkF m 153 #[.val (.int p0), .val (.int p1), .val (.int p2), .val (.int (2 : Int32)), .val (.int (1 : Int32)), .val (.int x5), .val (.int x6), .val (.int x7), .val (.int x8), .val (.int x9), .val (.int x10), .val (.ref b92), .val (.ref b98), .unset, .unset, .unset, .unset] [(.int (4 : Int32))])) rfl (hb hby at_153) rfl (by decide) (sz := 4) (cap := 4) (k' := 3) (n' := 7) rfl (Nat.le_refl _) (by decide) rfl rfl (by decide) (by decide) (ad := "[C") (by decide)
      have g_b102 : n0 ≤ b102 := by rw [g102]; exact Zs101
      have ne_b92_b102 : b92 ≠ b102 := Nat.ne_of_lt (by rw [g102]; exact f101_1135.lt)
      have ne_b98_b102 : b98 ≠ b102 := Nat.ne_of_lt (by rw [g102]; exact f101_1137.lt)
      have f103_1160 := f101_1134.ext E102
      have f103_1161 := f101_1135.ext E102
      have f103_1162 := Avf.ext f101_1136 E102
      have f103_1163 := f101_1137.ext E102
      have f103_1164 := Avf.ext V100 E102
      have Zs103 : n0 ≤ h102.size := Nat.le_trans Zs101 E102.1
      refine Go.by st102 ?_
      show Go p.tables e below _ (T102.setTop (mkF m 155 #[.val (.int p0), .val (.int p1), .val (.int p2), .val (.int (2 : Int32)), .val (.int (1 : Int32)), .val (.int x5), .val (.int x6), .val (.int x7), .val (.int x8), .val (.int x9), .val (.int x10), .val (.ref b92), .val (.ref b98), .unset, .unset, .unset, .unset] [(.ref b102)]))
      refine Go.by (fun _ => XS.astore X102.here hx rfl (hb hby at_155) rfl rfl (l' := #[.val (.int p0), .val (.int p1), .val (.int p2), .val (.int (2 : Int32)), .val (.int (1 : Int32)), .val (.int x5), .val (.int x6), .val (.int x7), .val (.int x8), .val (.int x9), .val (.int x10), .val (.ref b92), .val (.ref b98), .val (.ref b102), .unset, .unset, .unset]) rfl) ?_
      show Go p.tables e below _ (T102.setTop (mkF m 157 #[.val (.int p0), .val (.int p1), .val (.int p2), .val (.int (2 : Int32)), .val (.int (1 : Int32)), .val (.int x5), .val (.int x6), .val (.int x7), .val (.int x8), .val (.int x9), .val (.int x10), .val (.ref b92), .val (.ref b98), .val (.ref b102), .unset, .unset, .unset] []))
      refine Go.by (fun _ => XS.aload X102.here hx rfl (hb hby at_157) rfl rfl) ?_
      refine Go.by (fun _ => XS.iconst X102.here hx rfl (hb hby at_159)) ?_
      refine Go.by (fun _ => XS.iload X102.here hx rfl (hb hby at_160) rfl) ?_
      obtain ⟨T104, h104, X104, W104, V104, st104⟩ := X102.stC hx hZ V102 g_b102 (by decide) (i := 0) rfl (by decide) (g := (mkF m 162 #[.val (.int p0), .val (.int p1), .val (.int p2), .val (.int (2 : Int32)), .val (.int (1 : Int32)), .val (.int x5), .val (.int x6), .val (.int x7), .val (.int x8), .val (.int x9), .val (.int x10), .val (.ref b92), .val (.ref b98), .val (.ref b102), .unset, .unset, .unset] [(.int x5), (.int (0 : Int32)), (.ref b102)])) rfl rfl (hb hby at_162)
      have f105_1174 := f103_1160.wr W104 g_b102
      have f105_1175 := f103_1161.wr W104
      have f105_1176 := Avf.other f103_1162 W104 ne_b92_b102
      have f105_1177 := f103_1163.wr W104
      have f105_1178 := Avf.other f103_1164 W104 ne_b98_b102
      have f105_1179 := A102.wr W104
      have Zs105 : n0 ≤ h104.size := by rw [W104.size]; exact Zs103
      refine Go.by st104 ?_
      show Go p.tables e below _ (T104.setTop (mkF m 163 #[.val (.int p0), .val (.int p1), .val (.int p2), .val (.int (2 : Int32)), .val (.int (1 : Int32)), .val (.int x5), .val (.int x6), .val (.int x7), .val (.int x8), .val (.int x9), .val (.int x10), .val (.ref b92), .val (.ref b98), .val (.ref b102), .unset, .unset, .unset] []))
      refine Go.by (fun _ => XS.iloadN X104.here hx rfl (hb hby at_163) rfl) ?_
      refine Go.by (fun _ => XS.iconst X104.here hx rfl (hb hby at_164)) ?_
      show Go p.tables e below _ (T104.setTop (mkF m 165 #[.val (.int p0), .val (.int p1), .val (.int p2), .val (.int (2 : Int32)), .val (.int (1 : Int32)), .val (.int x5), .val (.int x6), .val (.int x7), .val (.int x8), .val (.int x9), .val (.int x10), .val (.ref b92), .val (.ref b98), .val (.ref b102), .unset, .unset, .unset] [(.int (1 : Int32)), (.int (2 : Int32))]))
      refine Go.by (fun _ => XS.icmpNo X104.here hx rfl (hb hby at_165) rfl (tlt (by decide)).2.2.2) ?_
      show Go p.tables e below _ (T104.setTop (mkF m 168 #[.val (.int p0), .val (.int p1), .val (.int p2), .val (.int (2 : Int32)), .val (.int (1 : Int32)), .val (.int x5), .val (.int x6), .val (.int x7), .val (.int x8), .val (.int x9), .val (.int x10), .val (.ref b92), .val (.ref b98), .val (.ref b102), .unset, .unset, .unset] []))
      refine Go.by (fun _ => XS.aload X104.here hx rfl (hb hby at_168) rfl rfl) ?_
      refine Go.by (fun _ => XS.iconst X104.here hx rfl (hb hby at_170)) ?_
      refine Go.by (fun _ => XS.iload X104.here hx rfl (hb hby at_171) rfl) ?_
      obtain ⟨T106, h106, X106, W106, V106, st106⟩ := X104.stC hx hZ V104 g_b102 (by decide) (i := 1) rfl (by decide) (g := (mkF m 173 #[.val (.int p0), .val (.int p1), .val (.int p2), .val (.int (2 : Int32)), .val (.int (1 : Int32)), .val (.int x5), .val (.int x6), .val (.int x7), .val (.int x8), .val (.int x9), .val (.int x10), .val (.ref b92), .val (.ref b98), .val (.ref b102), .unset, .unset, .unset] [(.int x6), (.int (1 : Int32)), (.ref b102)])) rfl rfl (hb hby at_173)
      have f107_1192 := f105_1174.wr W106 g_b102
      have f107_1193 := f105_1175.wr W106
      have f107_1194 := Avf.other f105_1176 W106 ne_b92_b102
      have f107_1195 := f105_1177.wr W106
      have f107_1196 := Avf.other f105_1178 W106 ne_b98_b102
      have f107_1197 := f105_1179.wr W106
      have Zs107 : n0 ≤ h106.size := by rw [W106.size]; exact Zs105
      refine Go.by st106 ?_
      show Go p.tables e below _ (T106.setTop (mkF m 174 #[.val (.int p0), .val (.int p1), .val (.int p2), .val (.int (2 : Int32)), .val (.int (1 : Int32)), .val (.int x5), .val (.int x6), .val (.int x7), .val (.int x8), .val (.int x9), .val (.int x10), .val (.ref b92), .val (.ref b98), .val (.ref b102), .unset, .unset, .unset] []))
      refine Go.by (fun _ => XS.iloadN X106.here hx rfl (hb hby at_174) rfl) ?_
      refine Go.by (fun _ => XS.iconst X106.here hx rfl (hb hby at_175)) ?_
      refine Go.by (fun _ => XS.icmpYes X106.here hx rfl (pc0 := 176) (pc' := 185) rfl (hb hby at_176) rfl (flt (by decide)).2.2.2 (by decide) (by decide)) ?_
      show Go p.tables e below _ (T106.setTop (mkF m 185 #[.val (.int p0), .val (.int p1), .val (.int p2), .val (.int (2 : Int32)), .val (.int (1 : Int32)), .val (.int x5), .val (.int x6), .val (.int x7), .val (.int x8), .val (.int x9), .val (.int x10), .val (.ref b92), .val (.ref b98), .val (.ref b102), .unset, .unset, .unset] []))
      refine Go.by (fun _ => XS.aload X106.here hx rfl (hb hby at_185) rfl rfl) ?_
      refine Go.by (fun _ => XS.iloadN X106.here hx rfl (hb hby at_187) rfl) ?_
      show Go p.tables e below _ (T106.setTop (mkF m 188 #[.val (.int p0), .val (.int p1), .val (.int p2), .val (.int (2 : Int32)), .val (.int (1 : Int32)), .val (.int x5), .val (.int x6), .val (.int x7), .val (.int x8), .val (.int x9), .val (.int x10), .val (.ref b92), .val (.ref b98), .val (.ref b102), .unset, .unset, .unset] [(.int (2 : Int32)), (.ref b102)]))
      refine Go.by (fun _ => XS.bipush X106.here hx rfl (hb hby at_188)) ?_
      obtain ⟨T108, h108, X108, W108, V108, st108⟩ := X106.stC hx hZ V106 g_b102 (by decide) (i := 2) rfl (by decide) (g := (mkF m 190 #[.val (.int p0), .val (.int p1), .val (.int p2), .val (.int (2 : Int32)), .val (.int (1 : Int32)), .val (.int x5), .val (.int x6), .val (.int x7), .val (.int x8), .val (.int x9), .val (.int x10), .val (.ref b92), .val (.ref b98), .val (.ref b102), .unset, .unset, .unset] [(.int (47 : Int32)), (.int (2 : Int32)), (.ref b102)])) rfl rfl (hb hby at_190)
      have f109_1210 := f107_1192.wr W108 g_b102
      have f109_1211 := f107_1193.wr W108
      have f109_1212 := Avf.other f107_1194 W108 ne_b92_b102
      have f109_1213 := f107_1195.wr W108
      have f109_1214 := Avf.other f107_1196 W108 ne_b98_b102
      have f109_1215 := f107_1197.wr W108
      have Zs109 : n0 ≤ h108.size := by rw [W108.size]; exact Zs107
      refine Go.by st108 ?_
      show Go p.tables e below _ (T108.setTop (mkF m 191 #[.val (.int p0), .val (.int p1), .val (.int p2), .val (.int (2 : Int32)), .val (.int (1 : Int32)), .val (.int x5), .val (.int x6), .val (.int x7), .val (.int x8), .val (.int x9), .val (.int x10), .val (.ref b92), .val (.ref b98), .val (.ref b102), .unset, .unset, .unset] []))
      refine Go.by (fun _ => XS.aload X108.here hx rfl (hb hby at_191) rfl rfl) ?_
      refine Go.by (fun _ => XS.iloadN X108.here hx rfl (hb hby at_193) rfl) ?_
      refine Go.by (fun _ => XS.iconst X108.here hx rfl (hb hby at_194)) ?_
      refine Go.by (fun _ => XS.iadd X108.here hx rfl (hb hby at_195) rfl) ?_
      refine Go.by (fun _ => XS.iload X108.here hx rfl (hb hby at_196) rfl) ?_
      obtain ⟨T110, h110, X110, W110, V110, st110⟩ := X108.stC hx hZ V108 g_b102 (by decide) (i := 3) rfl (by decide) (g := (mkF m 198 #[.val (.int p0), .val (.int p1), .val (.int p2), .val (.int (2 : Int32)), .val (.int (1 : Int32)), .val (.int x5), .val (.int x6), .val (.int x7), .val (.int x8), .val (.int x9), .val (.int x10), .val (.ref b92), .val (.ref b98), .val (.ref b102), .unset, .unset, .unset] [(.int x8), (.int (3 : Int32)), (.ref b102)])) rfl rfl (hb hby at_198)
      have f111_1225 := f109_1210.wr W110 g_b102
      have f111_1226 := f109_1211.wr W110
      have f111_1227 := Avf.other f109_1212 W110 ne_b92_b102
      have f111_1228 := f109_1213.wr W110
      have f111_1229 := Avf.other f109_1214 W110 ne_b98_b102
      have f111_1230 := f109_1215.wr W110
      have Zs111 : n0 ≤ h110.size := by rw [W110.size]; exact Zs109
      refine Go.by st110 ?_
      show Go p.tables e below _ (T110.setTop (mkF m 199 #[.val (.int p0), .val (.int p1), .val (.int p2), .val (.int (2 : Int32)), .val (.int (1 : Int32)), .val (.int x5), .val (.int x6), .val (.int x7), .val (.int x8), .val (.int x9), .val (.int x10), .val (.ref b92), .val (.ref b98), .val (.ref b102), .unset, .unset, .unset] []))
      refine Go.by (fun _ => XS.iload X110.here hx rfl (hb hby at_199) rfl) ?_
      refine Go.by (fun _ => XS.iconst X110.here hx rfl (hb hby at_201)) ?_
      refine Go.by (fun _ => XS.icmpYes X110.here hx rfl (pc0 := 202) (pc' := 213) rfl (hb hby at_202) rfl (flt (by decide)).2.2.2 (by decide) (by decide)) ?_
      show Go p.tables e below _ (T110.setTop (mkF m 213 #[.val (.int p0), .val (.int p1), .val (.int p2), .val (.int (2 : Int32)), .val (.int (1 : Int32)), .val (.int x5), .val (.int x6), .val (.int x7), .val (.int x8), .val (.int x9), .val (.int x10), .val (.ref b92), .val (.ref b98), .val (.ref b102), .unset, .unset, .unset] []))
      refine Go.by (fun _ => XS.iload X110.here hx rfl (hb hby at_213) rfl) ?_
      refine Go.by (fun _ => XS.iconst X110.here hx rfl (hb hby at_215)) ?_
      refine Go.by (fun _ => XS.icmpYes X110.here hx rfl (pc0 := 216) (pc' := 227) rfl (hb hby at_216) rfl (flt (by decide)).2.2.2 (by decide) (by decide)) ?_
      show Go p.tables e below _ (T110.setTop (mkF m 227 #[.val (.int p0), .val (.int p1), .val (.int p2), .val (.int (2 : Int32)), .val (.int (1 : Int32)), .val (.int x5), .val (.int x6), .val (.int x7), .val (.int x8), .val (.int x9), .val (.int x10), .val (.ref b92), .val (.ref b98), .val (.ref b102), .unset, .unset, .unset] []))
      have Vc11 := Avf.cong f111_1227 (g := (fun i => (.int ((c3 x5 x6 x7) i)))) (fun i hi => by
        match i, hi with
        | 0, _ => exact congrArg Value.int (own_nc2 b_x5)
        | 1, _ => exact congrArg Value.int (own_nc2 b_x6))
      have Vc12 := Avf.cong f111_1229 (g := (fun i => (.int ((c3 x8 x9 x10) i)))) (fun i hi => by
        match i, hi with
        | 0, _ => exact congrArg Value.int (own_nc2 b_x8))
      have Vc13 := Avf.cong V110 (g := (fun i => (.int ((c7 2 (c3 x5 x6 x7) (c3 x8 x9 x10)) i)))) (fun i hi => by
        match i, hi with
        | 0, _ => exact congrArg Value.int (own_nc2 b_x5)
        | 1, _ => exact congrArg Value.int (own_nc2 b_x6)
        | 2, _ => exact congrArg Value.int (show nar .char (47 : Int32) = 47 from rfl)
        | 3, _ => exact congrArg Value.int (own_nc2 b_x8))
      exact J _ _ 2 1 _ _ _ _ _ _ _ _ rfl rfl (by decide) (X110.more (by decide) (by decide)) Zs111 f111_1225 Vc11 Vc12 Vc13
    · skip
      refine Go.by (fun _ => XS.iloadN X0.here hx rfl (hb hby at_78) rfl) ?_
      obtain ⟨T113, h113, kc113, b113, X113, g113, E113, A113, V113, st113⟩ := X0.newP hx hZ (tw hw 1 rfl) (g := (mkF m 79 #[.val (.int p0), .val (.int p1), .val (.int p2), .val (.int (2 : Int32)), .val (.int (2 : Int32)), .val (.int x5), .val (.int x6), .val (.int x7), .val (.int x8), .val (.int x9), .val (.int x10), .unset, .unset, .unset, .unset, .unset, .unset] [(.int (2 : Int32))])) rfl (hb hby at_79) rfl (by decide) (sz := 2) (cap := 2) (k' := 1) (n' := 2) rfl (Nat.le_refl _) (by decide) rfl rfl (by decide) (by decide) (ad := "[C") (by decide)
      have g_b113 : n0 ≤ b113 := by rw [g113]; exact Z0
      have f114_1260 := O0.ext E113
      have Zs114 : n0 ≤ h113.size := Nat.le_trans Z0 E113.1
      refine Go.by st113 ?_
      show Go p.tables e below _ (T113.setTop (mkF m 81 #[.val (.int p0), .val (.int p1), .val (.int p2), .val (.int (2 : Int32)), .val (.int (2 : Int32)), .val (.int x5), .val (.int x6), .val (.int x7), .val (.int x8), .val (.int x9), .val (.int x10), .unset, .unset, .unset, .unset, .unset, .unset] [(.ref b113)]))
      refine Go.by (fun _ => XS.astore X113.here hx rfl (hb hby at_81) rfl rfl (l' := #[.val (.int p0), .val (.int p1), .val (.int p2), .val (.int (2 : Int32)), .val (.int (2 : Int32)), .val (.int x5), .val (.int x6), .val (.int x7), .val (.int x8), .val (.int x9), .val (.int x10), .val (.ref b113), .unset, .unset, .unset, .unset, .unset]) rfl) ?_
      show Go p.tables e below _ (T113.setTop (mkF m 83 #[.val (.int p0), .val (.int p1), .val (.int p2), .val (.int (2 : Int32)), .val (.int (2 : Int32)), .val (.int x5), .val (.int x6), .val (.int x7), .val (.int x8), .val (.int x9), .val (.int x10), .val (.ref b113), .unset, .unset, .unset, .unset, .unset] []))
      refine Go.by (fun _ => XS.aload X113.here hx rfl (hb hby at_83) rfl rfl) ?_
      show Go p.tables e below _ (T113.setTop (mkF m 85 #[.val (.int p0), .val (.int p1), .val (.int p2), .val (.int (2 : Int32)), .val (.int (2 : Int32)), .val (.int x5), .val (.int x6), .val (.int x7), .val (.int x8), .val (.int x9), .val (.int x10), .val (.ref b113), .unset, .unset, .unset, .unset, .unset] [(.ref b113)]))
      refine Go.by (fun _ => XS.iconst X113.here hx rfl (hb hby at_85)) ?_
      refine Go.by (fun _ => XS.iload X113.here hx rfl (hb hby at_86) rfl) ?_
      obtain ⟨T115, h115, X115, W115, V115, st115⟩ := X113.stC hx hZ V113 g_b113 (by decide) (i := 0) rfl (by decide) (g := (mkF m 88 #[.val (.int p0), .val (.int p1), .val (.int p2), .val (.int (2 : Int32)), .val (.int (2 : Int32)), .val (.int x5), .val (.int x6), .val (.int x7), .val (.int x8), .val (.int x9), .val (.int x10), .val (.ref b113), .unset, .unset, .unset, .unset, .unset] [(.int x5), (.int (0 : Int32)), (.ref b113)])) rfl rfl (hb hby at_88)
      have f116_1271 := f114_1260.wr W115 g_b113
      have f116_1272 := A113.wr W115
      have Zs116 : n0 ≤ h115.size := by rw [W115.size]; exact Zs114
      refine Go.by st115 ?_
      show Go p.tables e below _ (T115.setTop (mkF m 89 #[.val (.int p0), .val (.int p1), .val (.int p2), .val (.int (2 : Int32)), .val (.int (2 : Int32)), .val (.int x5), .val (.int x6), .val (.int x7), .val (.int x8), .val (.int x9), .val (.int x10), .val (.ref b113), .unset, .unset, .unset, .unset, .unset] []))
      refine Go.by (fun _ => XS.iloadN X115.here hx rfl (hb hby at_89) rfl) ?_
      refine Go.by (fun _ => XS.iconst X115.here hx rfl (hb hby at_90)) ?_
      refine Go.by (fun _ => XS.icmpNo X115.here hx rfl (hb hby at_91) rfl (tlt (by decide)).2.2.2) ?_
      show Go p.tables e below _ (T115.setTop (mkF m 94 #[.val (.int p0), .val (.int p1), .val (.int p2), .val (.int (2 : Int32)), .val (.int (2 : Int32)), .val (.int x5), .val (.int x6), .val (.int x7), .val (.int x8), .val (.int x9), .val (.int x10), .val (.ref b113), .unset, .unset, .unset, .unset, .unset] []))
      refine Go.by (fun _ => XS.aload X115.here hx rfl (hb hby at_94) rfl rfl) ?_
      refine Go.by (fun _ => XS.iconst X115.here hx rfl (hb hby at_96)) ?_
      refine Go.by (fun _ => XS.iload X115.here hx rfl (hb hby at_97) rfl) ?_
      show Go p.tables e below _ (T115.setTop (mkF m 99 #[.val (.int p0), .val (.int p1), .val (.int p2), .val (.int (2 : Int32)), .val (.int (2 : Int32)), .val (.int x5), .val (.int x6), .val (.int x7), .val (.int x8), .val (.int x9), .val (.int x10), .val (.ref b113), .unset, .unset, .unset, .unset, .unset] [(.int x6), (.int (1 : Int32)), (.ref b113)]))
      obtain ⟨T117, h117, X117, W117, V117, st117⟩ := X115.stC hx hZ V115 g_b113 (by decide) (i := 1) rfl (by decide) (g := (mkF m 99 #[.val (.int p0), .val (.int p1), .val (.int p2), .val (.int (2 : Int32)), .val (.int (2 : Int32)), .val (.int x5), .val (.int x6), .val (.int x7), .val (.int x8), .val (.int x9), .val (.int x10), .val (.ref b113), .unset, .unset, .unset, .unset, .unset] [(.int x6), (.int (1 : Int32)), (.ref b113)])) rfl rfl (hb hby at_99)
      have f118_1285 := f116_1271.wr W117 g_b113
      have f118_1286 := f116_1272.wr W117
      have Zs118 : n0 ≤ h117.size := by rw [W117.size]; exact Zs116
      refine Go.by st117 ?_
      show Go p.tables e below _ (T117.setTop (mkF m 100 #[.val (.int p0), .val (.int p1), .val (.int p2), .val (.int (2 : Int32)), .val (.int (2 : Int32)), .val (.int x5), .val (.int x6), .val (.int x7), .val (.int x8), .val (.int x9), .val (.int x10), .val (.ref b113), .unset, .unset, .unset, .unset, .unset] []))
      refine Go.by (fun _ => XS.iloadN X117.here hx rfl (hb hby at_100) rfl) ?_
      refine Go.by (fun _ => XS.iconst X117.here hx rfl (hb hby at_101)) ?_
      refine Go.by (fun _ => XS.icmpYes X117.here hx rfl (pc0 := 102) (pc' := 111) rfl (hb hby at_102) rfl (flt (by decide)).2.2.2 (by decide) (by decide)) ?_
      show Go p.tables e below _ (T117.setTop (mkF m 111 #[.val (.int p0), .val (.int p1), .val (.int p2), .val (.int (2 : Int32)), .val (.int (2 : Int32)), .val (.int x5), .val (.int x6), .val (.int x7), .val (.int x8), .val (.int x9), .val (.int x10), .val (.ref b113), .unset, .unset, .unset, .unset, .unset] []))
      refine Go.by (fun _ => XS.iload X117.here hx rfl (hb hby at_111) rfl) ?_
      obtain ⟨T119, h119, kc119, b119, X119, g119, E119, A119, V119, st119⟩ := X117.newP hx hZ (tw hw 1 rfl) (g := (mkF m 113 #[.val (.int p0), .val (.int p1), .val (.int p2), .val (.int (2 : Int32)), .val (.int (2 : Int32)), .val (.int x5), .val (.int x6), .val (.int x7), .val (.int x8), .val (.int x9), .val (.int x10), .val (.ref b113), .unset, .unset, .unset, .unset, .unset] [(.int (2 : Int32))])) rfl (hb hby at_113) rfl (by decide) (sz := 2) (cap := 2) (k' := 2) (n' := 4) rfl (Nat.le_refl _) (by decide) rfl rfl (by decide) (by decide) (ad := "[C") (by decide)
      have g_b119 : n0 ≤ b119 := by rw [g119]; exact Zs118
      have ne_b113_b119 : b113 ≠ b119 := Nat.ne_of_lt (by rw [g119]; exact f118_1286.lt)
      have f120_1298 := f118_1285.ext E119
      have f120_1299 := f118_1286.ext E119
      have f120_1300 := Avf.ext V117 E119
      have Zs120 : n0 ≤ h119.size := Nat.le_trans Zs118 E119.1
      refine Go.by st119 ?_
      show Go p.tables e below _ (T119.setTop (mkF m 115 #[.val (.int p0), .val (.int p1), .val (.int p2), .val (.int (2 : Int32)), .val (.int (2 : Int32)), .val (.int x5), .val (.int x6), .val (.int x7), .val (.int x8), .val (.int x9), .val (.int x10), .val (.ref b113), .unset, .unset, .unset, .unset, .unset] [(.ref b119)]))
      refine Go.by (fun _ => XS.astore X119.here hx rfl (hb hby at_115) rfl rfl (l' := #[.val (.int p0), .val (.int p1), .val (.int p2), .val (.int (2 : Int32)), .val (.int (2 : Int32)), .val (.int x5), .val (.int x6), .val (.int x7), .val (.int x8), .val (.int x9), .val (.int x10), .val (.ref b113), .val (.ref b119), .unset, .unset, .unset, .unset]) rfl) ?_
      show Go p.tables e below _ (T119.setTop (mkF m 117 #[.val (.int p0), .val (.int p1), .val (.int p2), .val (.int (2 : Int32)), .val (.int (2 : Int32)), .val (.int x5), .val (.int x6), .val (.int x7), .val (.int x8), .val (.int x9), .val (.int x10), .val (.ref b113), .val (.ref b119), .unset, .unset, .unset, .unset] []))
      refine Go.by (fun _ => XS.aload X119.here hx rfl (hb hby at_117) rfl rfl) ?_
      refine Go.by (fun _ => XS.iconst X119.here hx rfl (hb hby at_119)) ?_
      show Go p.tables e below _ (T119.setTop (mkF m 120 #[.val (.int p0), .val (.int p1), .val (.int p2), .val (.int (2 : Int32)), .val (.int (2 : Int32)), .val (.int x5), .val (.int x6), .val (.int x7), .val (.int x8), .val (.int x9), .val (.int x10), .val (.ref b113), .val (.ref b119), .unset, .unset, .unset, .unset] [(.int (0 : Int32)), (.ref b119)]))
      refine Go.by (fun _ => XS.iload X119.here hx rfl (hb hby at_120) rfl) ?_
      obtain ⟨T121, h121, X121, W121, V121, st121⟩ := X119.stC hx hZ V119 g_b119 (by decide) (i := 0) rfl (by decide) (g := (mkF m 122 #[.val (.int p0), .val (.int p1), .val (.int p2), .val (.int (2 : Int32)), .val (.int (2 : Int32)), .val (.int x5), .val (.int x6), .val (.int x7), .val (.int x8), .val (.int x9), .val (.int x10), .val (.ref b113), .val (.ref b119), .unset, .unset, .unset, .unset] [(.int x8), (.int (0 : Int32)), (.ref b119)])) rfl rfl (hb hby at_122)
      have f122_1311 := f120_1298.wr W121 g_b119
      have f122_1312 := f120_1299.wr W121
      have f122_1313 := Avf.other f120_1300 W121 ne_b113_b119
      have f122_1314 := A119.wr W121
      have Zs122 : n0 ≤ h121.size := by rw [W121.size]; exact Zs120
      refine Go.by st121 ?_
      show Go p.tables e below _ (T121.setTop (mkF m 123 #[.val (.int p0), .val (.int p1), .val (.int p2), .val (.int (2 : Int32)), .val (.int (2 : Int32)), .val (.int x5), .val (.int x6), .val (.int x7), .val (.int x8), .val (.int x9), .val (.int x10), .val (.ref b113), .val (.ref b119), .unset, .unset, .unset, .unset] []))
      refine Go.by (fun _ => XS.iload X121.here hx rfl (hb hby at_123) rfl) ?_
      refine Go.by (fun _ => XS.iconst X121.here hx rfl (hb hby at_125)) ?_
      refine Go.by (fun _ => XS.icmpNo X121.here hx rfl (hb hby at_126) rfl (tlt (by decide)).2.2.2) ?_
      show Go p.tables e below _ (T121.setTop (mkF m 129 #[.val (.int p0), .val (.int p1), .val (.int p2), .val (.int (2 : Int32)), .val (.int (2 : Int32)), .val (.int x5), .val (.int x6), .val (.int x7), .val (.int x8), .val (.int x9), .val (.int x10), .val (.ref b113), .val (.ref b119), .unset, .unset, .unset, .unset] []))
      refine Go.by (fun _ => XS.aload X121.here hx rfl (hb hby at_129) rfl rfl) ?_
      refine Go.by (fun _ => XS.iconst X121.here hx rfl (hb hby at_131)) ?_
      refine Go.by (fun _ => XS.iload X121.here hx rfl (hb hby at_132) rfl) ?_
      obtain ⟨T123, h123, X123, W123, V123, st123⟩ := X121.stC hx hZ V121 g_b119 (by decide) (i := 1) rfl (by decide) (g := (mkF m 134 #[.val (.int p0), .val (.int p1), .val (.int p2), .val (.int (2 : Int32)), .val (.int (2 : Int32)), .val (.int x5), .val (.int x6), .val (.int x7), .val (.int x8), .val (.int x9), .val (.int x10), .val (.ref b113), .val (.ref b119), .unset, .unset, .unset, .unset] [(.int x9), (.int (1 : Int32)), (.ref b119)])) rfl rfl (hb hby at_134)
      have f124_1326 := f122_1311.wr W123 g_b119
      have f124_1327 := f122_1312.wr W123
      have f124_1328 := Avf.other f122_1313 W123 ne_b113_b119
      have f124_1329 := f122_1314.wr W123
      have Zs124 : n0 ≤ h123.size := by rw [W123.size]; exact Zs122
      refine Go.by st123 ?_
      show Go p.tables e below _ (T123.setTop (mkF m 135 #[.val (.int p0), .val (.int p1), .val (.int p2), .val (.int (2 : Int32)), .val (.int (2 : Int32)), .val (.int x5), .val (.int x6), .val (.int x7), .val (.int x8), .val (.int x9), .val (.int x10), .val (.ref b113), .val (.ref b119), .unset, .unset, .unset, .unset] []))
      refine Go.by (fun _ => XS.iload X123.here hx rfl (hb hby at_135) rfl) ?_
      refine Go.by (fun _ => XS.iconst X123.here hx rfl (hb hby at_137)) ?_
      refine Go.by (fun _ => XS.icmpYes X123.here hx rfl (pc0 := 138) (pc' := 147) rfl (hb hby at_138) rfl (flt (by decide)).2.2.2 (by decide) (by decide)) ?_
      show Go p.tables e below _ (T123.setTop (mkF m 147 #[.val (.int p0), .val (.int p1), .val (.int p2), .val (.int (2 : Int32)), .val (.int (2 : Int32)), .val (.int x5), .val (.int x6), .val (.int x7), .val (.int x8), .val (.int x9), .val (.int x10), .val (.ref b113), .val (.ref b119), .unset, .unset, .unset, .unset] []))
      refine Go.by (fun _ => XS.iloadN X123.here hx rfl (hb hby at_147) rfl) ?_
      refine Go.by (fun _ => XS.iconst X123.here hx rfl (hb hby at_148)) ?_
      refine Go.by (fun _ => XS.iadd X123.here hx rfl (hb hby at_149) rfl) ?_
      refine Go.by (fun _ => XS.iload X123.here hx rfl (hb hby at_150) rfl) ?_
      refine Go.by (fun _ => XS.iadd X123.here hx rfl (hb hby at_152) rfl) ?_
      obtain ⟨T125, h125, kc125, b125, X125, g125, E125, A125, V125, st125⟩ := X123.newP hx hZ (tw hw 1 rfl) (g := (mkF m 153 #[.val (.int p0), .val (.int p1), .val (.int p2), .val (.int (2 : Int32)), .val (.int (2 : Int32)), .val (.int x5), .val (.int x6), .val (.int x7), .val (.int x8), .val (.int x9), .val (.int x10), .val (.ref b113), .val (.ref b119), .unset, .unset, .unset, .unset] [(.int (5 : Int32))])) rfl (hb hby at_153) rfl (by decide) (sz := 5) (cap := 5) (k' := 3) (n' := 9) rfl (Nat.le_refl _) (by decide) rfl rfl (by decide) (by decide) (ad := "[C") (by decide)
      have g_b125 : n0 ≤ b125 := by rw [g125]; exact Zs124
      have ne_b113_b125 : b113 ≠ b125 := Nat.ne_of_lt (by rw [g125]; exact f124_1327.lt)
      have ne_b119_b125 : b119 ≠ b125 := Nat.ne_of_lt (by rw [g125]; exact f124_1329.lt)
      have f126_1346 := f124_1326.ext E125
      have f126_1347 := f124_1327.ext E125
      have f126_1348 := Avf.ext f124_1328 E125
      have f126_1349 := f124_1329.ext E125
      have f126_1350 := Avf.ext V123 E125
      have Zs126 : n0 ≤ h125.size := Nat.le_trans Zs124 E125.1
      refine Go.by st125 ?_
      show Go p.tables e below _ (T125.setTop (mkF m 155 #[.val (.int p0), .val (.int p1), .val (.int p2), .val (.int (2 : Int32)), .val (.int (2 : Int32)), .val (.int x5), .val (.int x6), .val (.int x7), .val (.int x8), .val (.int x9), .val (.int x10), .val (.ref b113), .val (.ref b119), .unset, .unset, .unset, .unset] [(.ref b125)]))
      refine Go.by (fun _ => XS.astore X125.here hx rfl (hb hby at_155) rfl rfl (l' := #[.val (.int p0), .val (.int p1), .val (.int p2), .val (.int (2 : Int32)), .val (.int (2 : Int32)), .val (.int x5), .val (.int x6), .val (.int x7), .val (.int x8), .val (.int x9), .val (.int x10), .val (.ref b113), .val (.ref b119), .val (.ref b125), .unset, .unset, .unset]) rfl) ?_
      show Go p.tables e below _ (T125.setTop (mkF m 157 #[.val (.int p0), .val (.int p1), .val (.int p2), .val (.int (2 : Int32)), .val (.int (2 : Int32)), .val (.int x5), .val (.int x6), .val (.int x7), .val (.int x8), .val (.int x9), .val (.int x10), .val (.ref b113), .val (.ref b119), .val (.ref b125), .unset, .unset, .unset] []))
      refine Go.by (fun _ => XS.aload X125.here hx rfl (hb hby at_157) rfl rfl) ?_
      refine Go.by (fun _ => XS.iconst X125.here hx rfl (hb hby at_159)) ?_
      refine Go.by (fun _ => XS.iload X125.here hx rfl (hb hby at_160) rfl) ?_
      obtain ⟨T127, h127, X127, W127, V127, st127⟩ := X125.stC hx hZ V125 g_b125 (by decide) (i := 0) rfl (by decide) (g := (mkF m 162 #[.val (.int p0), .val (.int p1), .val (.int p2), .val (.int (2 : Int32)), .val (.int (2 : Int32)), .val (.int x5), .val (.int x6), .val (.int x7), .val (.int x8), .val (.int x9), .val (.int x10), .val (.ref b113), .val (.ref b119), .val (.ref b125), .unset, .unset, .unset] [(.int x5), (.int (0 : Int32)), (.ref b125)])) rfl rfl (hb hby at_162)
      have f128_1360 := f126_1346.wr W127 g_b125
      have f128_1361 := f126_1347.wr W127
      have f128_1362 := Avf.other f126_1348 W127 ne_b113_b125
      have f128_1363 := f126_1349.wr W127
      have f128_1364 := Avf.other f126_1350 W127 ne_b119_b125
      have f128_1365 := A125.wr W127
      have Zs128 : n0 ≤ h127.size := by rw [W127.size]; exact Zs126
      refine Go.by st127 ?_
      show Go p.tables e below _ (T127.setTop (mkF m 163 #[.val (.int p0), .val (.int p1), .val (.int p2), .val (.int (2 : Int32)), .val (.int (2 : Int32)), .val (.int x5), .val (.int x6), .val (.int x7), .val (.int x8), .val (.int x9), .val (.int x10), .val (.ref b113), .val (.ref b119), .val (.ref b125), .unset, .unset, .unset] []))
      refine Go.by (fun _ => XS.iloadN X127.here hx rfl (hb hby at_163) rfl) ?_
      refine Go.by (fun _ => XS.iconst X127.here hx rfl (hb hby at_164)) ?_
      refine Go.by (fun _ => XS.icmpNo X127.here hx rfl (hb hby at_165) rfl (tlt (by decide)).2.2.2) ?_
      show Go p.tables e below _ (T127.setTop (mkF m 168 #[.val (.int p0), .val (.int p1), .val (.int p2), .val (.int (2 : Int32)), .val (.int (2 : Int32)), .val (.int x5), .val (.int x6), .val (.int x7), .val (.int x8), .val (.int x9), .val (.int x10), .val (.ref b113), .val (.ref b119), .val (.ref b125), .unset, .unset, .unset] []))
      refine Go.by (fun _ => XS.aload X127.here hx rfl (hb hby at_168) rfl rfl) ?_
      show Go p.tables e below _ (T127.setTop (mkF m 170 #[.val (.int p0), .val (.int p1), .val (.int p2), .val (.int (2 : Int32)), .val (.int (2 : Int32)), .val (.int x5), .val (.int x6), .val (.int x7), .val (.int x8), .val (.int x9), .val (.int x10), .val (.ref b113), .val (.ref b119), .val (.ref b125), .unset, .unset, .unset] [(.ref b125)]))
      refine Go.by (fun _ => XS.iconst X127.here hx rfl (hb hby at_170)) ?_
      refine Go.by (fun _ => XS.iload X127.here hx rfl (hb hby at_171) rfl) ?_
      obtain ⟨T129, h129, X129, W129, V129, st129⟩ := X127.stC hx hZ V127 g_b125 (by decide) (i := 1) rfl (by decide) (g := (mkF m 173 #[.val (.int p0), .val (.int p1), .val (.int p2), .val (.int (2 : Int32)), .val (.int (2 : Int32)), .val (.int x5), .val (.int x6), .val (.int x7), .val (.int x8), .val (.int x9), .val (.int x10), .val (.ref b113), .val (.ref b119), .val (.ref b125), .unset, .unset, .unset] [(.int x6), (.int (1 : Int32)), (.ref b125)])) rfl rfl (hb hby at_173)
      have f130_1378 := f128_1360.wr W129 g_b125
      have f130_1379 := f128_1361.wr W129
      have f130_1380 := Avf.other f128_1362 W129 ne_b113_b125
      have f130_1381 := f128_1363.wr W129
      have f130_1382 := Avf.other f128_1364 W129 ne_b119_b125
      have f130_1383 := f128_1365.wr W129
      have Zs130 : n0 ≤ h129.size := by rw [W129.size]; exact Zs128
      refine Go.by st129 ?_
      show Go p.tables e below _ (T129.setTop (mkF m 174 #[.val (.int p0), .val (.int p1), .val (.int p2), .val (.int (2 : Int32)), .val (.int (2 : Int32)), .val (.int x5), .val (.int x6), .val (.int x7), .val (.int x8), .val (.int x9), .val (.int x10), .val (.ref b113), .val (.ref b119), .val (.ref b125), .unset, .unset, .unset] []))
      refine Go.by (fun _ => XS.iloadN X129.here hx rfl (hb hby at_174) rfl) ?_
      refine Go.by (fun _ => XS.iconst X129.here hx rfl (hb hby at_175)) ?_
      refine Go.by (fun _ => XS.icmpYes X129.here hx rfl (pc0 := 176) (pc' := 185) rfl (hb hby at_176) rfl (flt (by decide)).2.2.2 (by decide) (by decide)) ?_
      show Go p.tables e below _ (T129.setTop (mkF m 185 #[.val (.int p0), .val (.int p1), .val (.int p2), .val (.int (2 : Int32)), .val (.int (2 : Int32)), .val (.int x5), .val (.int x6), .val (.int x7), .val (.int x8), .val (.int x9), .val (.int x10), .val (.ref b113), .val (.ref b119), .val (.ref b125), .unset, .unset, .unset] []))
      refine Go.by (fun _ => XS.aload X129.here hx rfl (hb hby at_185) rfl rfl) ?_
      refine Go.by (fun _ => XS.iloadN X129.here hx rfl (hb hby at_187) rfl) ?_
      refine Go.by (fun _ => XS.bipush X129.here hx rfl (hb hby at_188)) ?_
      show Go p.tables e below _ (T129.setTop (mkF m 190 #[.val (.int p0), .val (.int p1), .val (.int p2), .val (.int (2 : Int32)), .val (.int (2 : Int32)), .val (.int x5), .val (.int x6), .val (.int x7), .val (.int x8), .val (.int x9), .val (.int x10), .val (.ref b113), .val (.ref b119), .val (.ref b125), .unset, .unset, .unset] [(.int (47 : Int32)), (.int (2 : Int32)), (.ref b125)]))
      obtain ⟨T131, h131, X131, W131, V131, st131⟩ := X129.stC hx hZ V129 g_b125 (by decide) (i := 2) rfl (by decide) (g := (mkF m 190 #[.val (.int p0), .val (.int p1), .val (.int p2), .val (.int (2 : Int32)), .val (.int (2 : Int32)), .val (.int x5), .val (.int x6), .val (.int x7), .val (.int x8), .val (.int x9), .val (.int x10), .val (.ref b113), .val (.ref b119), .val (.ref b125), .unset, .unset, .unset] [(.int (47 : Int32)), (.int (2 : Int32)), (.ref b125)])) rfl rfl (hb hby at_190)
      have f132_1396 := f130_1378.wr W131 g_b125
      have f132_1397 := f130_1379.wr W131
      have f132_1398 := Avf.other f130_1380 W131 ne_b113_b125
      have f132_1399 := f130_1381.wr W131
      have f132_1400 := Avf.other f130_1382 W131 ne_b119_b125
      have f132_1401 := f130_1383.wr W131
      have Zs132 : n0 ≤ h131.size := by rw [W131.size]; exact Zs130
      refine Go.by st131 ?_
      show Go p.tables e below _ (T131.setTop (mkF m 191 #[.val (.int p0), .val (.int p1), .val (.int p2), .val (.int (2 : Int32)), .val (.int (2 : Int32)), .val (.int x5), .val (.int x6), .val (.int x7), .val (.int x8), .val (.int x9), .val (.int x10), .val (.ref b113), .val (.ref b119), .val (.ref b125), .unset, .unset, .unset] []))
      refine Go.by (fun _ => XS.aload X131.here hx rfl (hb hby at_191) rfl rfl) ?_
      refine Go.by (fun _ => XS.iloadN X131.here hx rfl (hb hby at_193) rfl) ?_
      refine Go.by (fun _ => XS.iconst X131.here hx rfl (hb hby at_194)) ?_
      refine Go.by (fun _ => XS.iadd X131.here hx rfl (hb hby at_195) rfl) ?_
      refine Go.by (fun _ => XS.iload X131.here hx rfl (hb hby at_196) rfl) ?_
      obtain ⟨T133, h133, X133, W133, V133, st133⟩ := X131.stC hx hZ V131 g_b125 (by decide) (i := 3) rfl (by decide) (g := (mkF m 198 #[.val (.int p0), .val (.int p1), .val (.int p2), .val (.int (2 : Int32)), .val (.int (2 : Int32)), .val (.int x5), .val (.int x6), .val (.int x7), .val (.int x8), .val (.int x9), .val (.int x10), .val (.ref b113), .val (.ref b119), .val (.ref b125), .unset, .unset, .unset] [(.int x8), (.int (3 : Int32)), (.ref b125)])) rfl rfl (hb hby at_198)
      have f134_1411 := f132_1396.wr W133 g_b125
      have f134_1412 := f132_1397.wr W133
      have f134_1413 := Avf.other f132_1398 W133 ne_b113_b125
      have f134_1414 := f132_1399.wr W133
      have f134_1415 := Avf.other f132_1400 W133 ne_b119_b125
      have f134_1416 := f132_1401.wr W133
      have Zs134 : n0 ≤ h133.size := by rw [W133.size]; exact Zs132
      refine Go.by st133 ?_
      show Go p.tables e below _ (T133.setTop (mkF m 199 #[.val (.int p0), .val (.int p1), .val (.int p2), .val (.int (2 : Int32)), .val (.int (2 : Int32)), .val (.int x5), .val (.int x6), .val (.int x7), .val (.int x8), .val (.int x9), .val (.int x10), .val (.ref b113), .val (.ref b119), .val (.ref b125), .unset, .unset, .unset] []))
      refine Go.by (fun _ => XS.iload X133.here hx rfl (hb hby at_199) rfl) ?_
      show Go p.tables e below _ (T133.setTop (mkF m 201 #[.val (.int p0), .val (.int p1), .val (.int p2), .val (.int (2 : Int32)), .val (.int (2 : Int32)), .val (.int x5), .val (.int x6), .val (.int x7), .val (.int x8), .val (.int x9), .val (.int x10), .val (.ref b113), .val (.ref b119), .val (.ref b125), .unset, .unset, .unset] [(.int (2 : Int32))]))
      refine Go.by (fun _ => XS.iconst X133.here hx rfl (hb hby at_201)) ?_
      refine Go.by (fun _ => XS.icmpNo X133.here hx rfl (hb hby at_202) rfl (tlt (by decide)).2.2.2) ?_
      show Go p.tables e below _ (T133.setTop (mkF m 205 #[.val (.int p0), .val (.int p1), .val (.int p2), .val (.int (2 : Int32)), .val (.int (2 : Int32)), .val (.int x5), .val (.int x6), .val (.int x7), .val (.int x8), .val (.int x9), .val (.int x10), .val (.ref b113), .val (.ref b119), .val (.ref b125), .unset, .unset, .unset] []))
      refine Go.by (fun _ => XS.aload X133.here hx rfl (hb hby at_205) rfl rfl) ?_
      refine Go.by (fun _ => XS.iloadN X133.here hx rfl (hb hby at_207) rfl) ?_
      refine Go.by (fun _ => XS.iconst X133.here hx rfl (hb hby at_208)) ?_
      refine Go.by (fun _ => XS.iadd X133.here hx rfl (hb hby at_209) rfl) ?_
      refine Go.by (fun _ => XS.iload X133.here hx rfl (hb hby at_210) rfl) ?_
      obtain ⟨T135, h135, X135, W135, V135, st135⟩ := X133.stC hx hZ V133 g_b125 (by decide) (i := 4) rfl (by decide) (g := (mkF m 212 #[.val (.int p0), .val (.int p1), .val (.int p2), .val (.int (2 : Int32)), .val (.int (2 : Int32)), .val (.int x5), .val (.int x6), .val (.int x7), .val (.int x8), .val (.int x9), .val (.int x10), .val (.ref b113), .val (.ref b119), .val (.ref b125), .unset, .unset, .unset] [(.int x9), (.int (4 : Int32)), (.ref b125)])) rfl rfl (hb hby at_212)
      have f136_1431 := f134_1411.wr W135 g_b125
      have f136_1432 := f134_1412.wr W135
      have f136_1433 := Avf.other f134_1413 W135 ne_b113_b125
      have f136_1434 := f134_1414.wr W135
      have f136_1435 := Avf.other f134_1415 W135 ne_b119_b125
      have f136_1436 := f134_1416.wr W135
      have Zs136 : n0 ≤ h135.size := by rw [W135.size]; exact Zs134
      refine Go.by st135 ?_
      show Go p.tables e below _ (T135.setTop (mkF m 213 #[.val (.int p0), .val (.int p1), .val (.int p2), .val (.int (2 : Int32)), .val (.int (2 : Int32)), .val (.int x5), .val (.int x6), .val (.int x7), .val (.int x8), .val (.int x9), .val (.int x10), .val (.ref b113), .val (.ref b119), .val (.ref b125), .unset, .unset, .unset] []))
      refine Go.by (fun _ => XS.iload X135.here hx rfl (hb hby at_213) rfl) ?_
      show Go p.tables e below _ (T135.setTop (mkF m 215 #[.val (.int p0), .val (.int p1), .val (.int p2), .val (.int (2 : Int32)), .val (.int (2 : Int32)), .val (.int x5), .val (.int x6), .val (.int x7), .val (.int x8), .val (.int x9), .val (.int x10), .val (.ref b113), .val (.ref b119), .val (.ref b125), .unset, .unset, .unset] [(.int (2 : Int32))]))
      refine Go.by (fun _ => XS.iconst X135.here hx rfl (hb hby at_215)) ?_
      refine Go.by (fun _ => XS.icmpYes X135.here hx rfl (pc0 := 216) (pc' := 227) rfl (hb hby at_216) rfl (flt (by decide)).2.2.2 (by decide) (by decide)) ?_
      show Go p.tables e below _ (T135.setTop (mkF m 227 #[.val (.int p0), .val (.int p1), .val (.int p2), .val (.int (2 : Int32)), .val (.int (2 : Int32)), .val (.int x5), .val (.int x6), .val (.int x7), .val (.int x8), .val (.int x9), .val (.int x10), .val (.ref b113), .val (.ref b119), .val (.ref b125), .unset, .unset, .unset] []))
      have Vc11 := Avf.cong f136_1433 (g := (fun i => (.int ((c3 x5 x6 x7) i)))) (fun i hi => by
        match i, hi with
        | 0, _ => exact congrArg Value.int (own_nc2 b_x5)
        | 1, _ => exact congrArg Value.int (own_nc2 b_x6))
      have Vc12 := Avf.cong f136_1435 (g := (fun i => (.int ((c3 x8 x9 x10) i)))) (fun i hi => by
        match i, hi with
        | 0, _ => exact congrArg Value.int (own_nc2 b_x8)
        | 1, _ => exact congrArg Value.int (own_nc2 b_x9))
      have Vc13 := Avf.cong V135 (g := (fun i => (.int ((c7 2 (c3 x5 x6 x7) (c3 x8 x9 x10)) i)))) (fun i hi => by
        match i, hi with
        | 0, _ => exact congrArg Value.int (own_nc2 b_x5)
        | 1, _ => exact congrArg Value.int (own_nc2 b_x6)
        | 2, _ => exact congrArg Value.int (show nar .char (47 : Int32) = 47 from rfl)
        | 3, _ => exact congrArg Value.int (own_nc2 b_x8)
        | 4, _ => exact congrArg Value.int (own_nc2 b_x9))
      exact J _ _ 2 2 _ _ _ _ _ _ _ _ rfl rfl (by decide) (X135.more (by decide) (by decide)) Zs136 f136_1431 Vc11 Vc12 Vc13
    · skip
      refine Go.by (fun _ => XS.iloadN X0.here hx rfl (hb hby at_78) rfl) ?_
      obtain ⟨T138, h138, kc138, b138, X138, g138, E138, A138, V138, st138⟩ := X0.newP hx hZ (tw hw 1 rfl) (g := (mkF m 79 #[.val (.int p0), .val (.int p1), .val (.int p2), .val (.int (2 : Int32)), .val (.int (3 : Int32)), .val (.int x5), .val (.int x6), .val (.int x7), .val (.int x8), .val (.int x9), .val (.int x10), .unset, .unset, .unset, .unset, .unset, .unset] [(.int (2 : Int32))])) rfl (hb hby at_79) rfl (by decide) (sz := 2) (cap := 2) (k' := 1) (n' := 2) rfl (Nat.le_refl _) (by decide) rfl rfl (by decide) (by decide) (ad := "[C") (by decide)
      have g_b138 : n0 ≤ b138 := by rw [g138]; exact Z0
      have f139_1465 := O0.ext E138
      have Zs139 : n0 ≤ h138.size := Nat.le_trans Z0 E138.1
      refine Go.by st138 ?_
      show Go p.tables e below _ (T138.setTop (mkF m 81 #[.val (.int p0), .val (.int p1), .val (.int p2), .val (.int (2 : Int32)), .val (.int (3 : Int32)), .val (.int x5), .val (.int x6), .val (.int x7), .val (.int x8), .val (.int x9), .val (.int x10), .unset, .unset, .unset, .unset, .unset, .unset] [(.ref b138)]))
      refine Go.by (fun _ => XS.astore X138.here hx rfl (hb hby at_81) rfl rfl (l' := #[.val (.int p0), .val (.int p1), .val (.int p2), .val (.int (2 : Int32)), .val (.int (3 : Int32)), .val (.int x5), .val (.int x6), .val (.int x7), .val (.int x8), .val (.int x9), .val (.int x10), .val (.ref b138), .unset, .unset, .unset, .unset, .unset]) rfl) ?_
      show Go p.tables e below _ (T138.setTop (mkF m 83 #[.val (.int p0), .val (.int p1), .val (.int p2), .val (.int (2 : Int32)), .val (.int (3 : Int32)), .val (.int x5), .val (.int x6), .val (.int x7), .val (.int x8), .val (.int x9), .val (.int x10), .val (.ref b138), .unset, .unset, .unset, .unset, .unset] []))
      refine Go.by (fun _ => XS.aload X138.here hx rfl (hb hby at_83) rfl rfl) ?_
      refine Go.by (fun _ => XS.iconst X138.here hx rfl (hb hby at_85)) ?_
      refine Go.by (fun _ => XS.iload X138.here hx rfl (hb hby at_86) rfl) ?_
      obtain ⟨T140, h140, X140, W140, V140, st140⟩ := X138.stC hx hZ V138 g_b138 (by decide) (i := 0) rfl (by decide) (g := (mkF m 88 #[.val (.int p0), .val (.int p1), .val (.int p2), .val (.int (2 : Int32)), .val (.int (3 : Int32)), .val (.int x5), .val (.int x6), .val (.int x7), .val (.int x8), .val (.int x9), .val (.int x10), .val (.ref b138), .unset, .unset, .unset, .unset, .unset] [(.int x5), (.int (0 : Int32)), (.ref b138)])) rfl rfl (hb hby at_88)
      have f141_1475 := f139_1465.wr W140 g_b138
      have f141_1476 := A138.wr W140
      have Zs141 : n0 ≤ h140.size := by rw [W140.size]; exact Zs139
      refine Go.by st140 ?_
      show Go p.tables e below _ (T140.setTop (mkF m 89 #[.val (.int p0), .val (.int p1), .val (.int p2), .val (.int (2 : Int32)), .val (.int (3 : Int32)), .val (.int x5), .val (.int x6), .val (.int x7), .val (.int x8), .val (.int x9), .val (.int x10), .val (.ref b138), .unset, .unset, .unset, .unset, .unset] []))
      refine Go.by (fun _ => XS.iloadN X140.here hx rfl (hb hby at_89) rfl) ?_
      refine Go.by (fun _ => XS.iconst X140.here hx rfl (hb hby at_90)) ?_
      refine Go.by (fun _ => XS.icmpNo X140.here hx rfl (hb hby at_91) rfl (tlt (by decide)).2.2.2) ?_
      show Go p.tables e below _ (T140.setTop (mkF m 94 #[.val (.int p0), .val (.int p1), .val (.int p2), .val (.int (2 : Int32)), .val (.int (3 : Int32)), .val (.int x5), .val (.int x6), .val (.int x7), .val (.int x8), .val (.int x9), .val (.int x10), .val (.ref b138), .unset, .unset, .unset, .unset, .unset] []))
      refine Go.by (fun _ => XS.aload X140.here hx rfl (hb hby at_94) rfl rfl) ?_
      refine Go.by (fun _ => XS.iconst X140.here hx rfl (hb hby at_96)) ?_
      refine Go.by (fun _ => XS.iload X140.here hx rfl (hb hby at_97) rfl) ?_
      obtain ⟨T142, h142, X142, W142, V142, st142⟩ := X140.stC hx hZ V140 g_b138 (by decide) (i := 1) rfl (by decide) (g := (mkF m 99 #[.val (.int p0), .val (.int p1), .val (.int p2), .val (.int (2 : Int32)), .val (.int (3 : Int32)), .val (.int x5), .val (.int x6), .val (.int x7), .val (.int x8), .val (.int x9), .val (.int x10), .val (.ref b138), .unset, .unset, .unset, .unset, .unset] [(.int x6), (.int (1 : Int32)), (.ref b138)])) rfl rfl (hb hby at_99)
      have f143_1488 := f141_1475.wr W142 g_b138
      have f143_1489 := f141_1476.wr W142
      have Zs143 : n0 ≤ h142.size := by rw [W142.size]; exact Zs141
      refine Go.by st142 ?_
      show Go p.tables e below _ (T142.setTop (mkF m 100 #[.val (.int p0), .val (.int p1), .val (.int p2), .val (.int (2 : Int32)), .val (.int (3 : Int32)), .val (.int x5), .val (.int x6), .val (.int x7), .val (.int x8), .val (.int x9), .val (.int x10), .val (.ref b138), .unset, .unset, .unset, .unset, .unset] []))
      refine Go.by (fun _ => XS.iloadN X142.here hx rfl (hb hby at_100) rfl) ?_
      refine Go.by (fun _ => XS.iconst X142.here hx rfl (hb hby at_101)) ?_
      show Go p.tables e below _ (T142.setTop (mkF m 102 #[.val (.int p0), .val (.int p1), .val (.int p2), .val (.int (2 : Int32)), .val (.int (3 : Int32)), .val (.int x5), .val (.int x6), .val (.int x7), .val (.int x8), .val (.int x9), .val (.int x10), .val (.ref b138), .unset, .unset, .unset, .unset, .unset] [(.int (2 : Int32)), (.int (2 : Int32))]))
      refine Go.by (fun _ => XS.icmpYes X142.here hx rfl (pc0 := 102) (pc' := 111) rfl (hb hby at_102) rfl (flt (by decide)).2.2.2 (by decide) (by decide)) ?_
      show Go p.tables e below _ (T142.setTop (mkF m 111 #[.val (.int p0), .val (.int p1), .val (.int p2), .val (.int (2 : Int32)), .val (.int (3 : Int32)), .val (.int x5), .val (.int x6), .val (.int x7), .val (.int x8), .val (.int x9), .val (.int x10), .val (.ref b138), .unset, .unset, .unset, .unset, .unset] []))
      refine Go.by (fun _ => XS.iload X142.here hx rfl (hb hby at_111) rfl) ?_
      obtain ⟨T144, h144, kc144, b144, X144, g144, E144, A144, V144, st144⟩ := X142.newP hx hZ (tw hw 1 rfl) (g := (mkF m 113 #[.val (.int p0), .val (.int p1), .val (.int p2), .val (.int (2 : Int32)), .val (.int (3 : Int32)), .val (.int x5), .val (.int x6), .val (.int x7), .val (.int x8), .val (.int x9), .val (.int x10), .val (.ref b138), .unset, .unset, .unset, .unset, .unset] [(.int (3 : Int32))])) rfl (hb hby at_113) rfl (by decide) (sz := 3) (cap := 3) (k' := 2) (n' := 5) rfl (Nat.le_refl _) (by decide) rfl rfl (by decide) (by decide) (ad := "[C") (by decide)
      have g_b144 : n0 ≤ b144 := by rw [g144]; exact Zs143
      have ne_b138_b144 : b138 ≠ b144 := Nat.ne_of_lt (by rw [g144]; exact f143_1489.lt)
      have f145_1502 := f143_1488.ext E144
      have f145_1503 := f143_1489.ext E144
      have f145_1504 := Avf.ext V142 E144
      have Zs145 : n0 ≤ h144.size := Nat.le_trans Zs143 E144.1
      refine Go.by st144 ?_
      show Go p.tables e below _ (T144.setTop (mkF m 115 #[.val (.int p0), .val (.int p1), .val (.int p2), .val (.int (2 : Int32)), .val (.int (3 : Int32)), .val (.int x5), .val (.int x6), .val (.int x7), .val (.int x8), .val (.int x9), .val (.int x10), .val (.ref b138), .unset, .unset, .unset, .unset, .unset] [(.ref b144)]))
      refine Go.by (fun _ => XS.astore X144.here hx rfl (hb hby at_115) rfl rfl (l' := #[.val (.int p0), .val (.int p1), .val (.int p2), .val (.int (2 : Int32)), .val (.int (3 : Int32)), .val (.int x5), .val (.int x6), .val (.int x7), .val (.int x8), .val (.int x9), .val (.int x10), .val (.ref b138), .val (.ref b144), .unset, .unset, .unset, .unset]) rfl) ?_
      show Go p.tables e below _ (T144.setTop (mkF m 117 #[.val (.int p0), .val (.int p1), .val (.int p2), .val (.int (2 : Int32)), .val (.int (3 : Int32)), .val (.int x5), .val (.int x6), .val (.int x7), .val (.int x8), .val (.int x9), .val (.int x10), .val (.ref b138), .val (.ref b144), .unset, .unset, .unset, .unset] []))
      refine Go.by (fun _ => XS.aload X144.here hx rfl (hb hby at_117) rfl rfl) ?_
      refine Go.by (fun _ => XS.iconst X144.here hx rfl (hb hby at_119)) ?_
      refine Go.by (fun _ => XS.iload X144.here hx rfl (hb hby at_120) rfl) ?_
      obtain ⟨T146, h146, X146, W146, V146, st146⟩ := X144.stC hx hZ V144 g_b144 (by decide) (i := 0) rfl (by decide) (g := (mkF m 122 #[.val (.int p0), .val (.int p1), .val (.int p2), .val (.int (2 : Int32)), .val (.int (3 : Int32)), .val (.int x5), .val (.int x6), .val (.int x7), .val (.int x8), .val (.int x9), .val (.int x10), .val (.ref b138), .val (.ref b144), .unset, .unset, .unset, .unset] [(.int x8), (.int (0 : Int32)), (.ref b144)])) rfl rfl (hb hby at_122)
      have f147_1514 := f145_1502.wr W146 g_b144
      have f147_1515 := f145_1503.wr W146
      have f147_1516 := Avf.other f145_1504 W146 ne_b138_b144
      have f147_1517 := A144.wr W146
      have Zs147 : n0 ≤ h146.size := by rw [W146.size]; exact Zs145
      refine Go.by st146 ?_
      show Go p.tables e below _ (T146.setTop (mkF m 123 #[.val (.int p0), .val (.int p1), .val (.int p2), .val (.int (2 : Int32)), .val (.int (3 : Int32)), .val (.int x5), .val (.int x6), .val (.int x7), .val (.int x8), .val (.int x9), .val (.int x10), .val (.ref b138), .val (.ref b144), .unset, .unset, .unset, .unset] []))
      refine Go.by (fun _ => XS.iload X146.here hx rfl (hb hby at_123) rfl) ?_
      show Go p.tables e below _ (T146.setTop (mkF m 125 #[.val (.int p0), .val (.int p1), .val (.int p2), .val (.int (2 : Int32)), .val (.int (3 : Int32)), .val (.int x5), .val (.int x6), .val (.int x7), .val (.int x8), .val (.int x9), .val (.int x10), .val (.ref b138), .val (.ref b144), .unset, .unset, .unset, .unset] [(.int (3 : Int32))]))
      refine Go.by (fun _ => XS.iconst X146.here hx rfl (hb hby at_125)) ?_
      refine Go.by (fun _ => XS.icmpNo X146.here hx rfl (hb hby at_126) rfl (tlt (by decide)).2.2.2) ?_
      show Go p.tables e below _ (T146.setTop (mkF m 129 #[.val (.int p0), .val (.int p1), .val (.int p2), .val (.int (2 : Int32)), .val (.int (3 : Int32)), .val (.int x5), .val (.int x6), .val (.int x7), .val (.int x8), .val (.int x9), .val (.int x10), .val (.ref b138), .val (.ref b144), .unset, .unset, .unset, .unset] []))
      refine Go.by (fun _ => XS.aload X146.here hx rfl (hb hby at_129) rfl rfl) ?_
      refine Go.by (fun _ => XS.iconst X146.here hx rfl (hb hby at_131)) ?_
      refine Go.by (fun _ => XS.iload X146.here hx rfl (hb hby at_132) rfl) ?_
      obtain ⟨T148, h148, X148, W148, V148, st148⟩ := X146.stC hx hZ V146 g_b144 (by decide) (i := 1) rfl (by decide) (g := (mkF m 134 #[.val (.int p0), .val (.int p1), .val (.int p2), .val (.int (2 : Int32)), .val (.int (3 : Int32)), .val (.int x5), .val (.int x6), .val (.int x7), .val (.int x8), .val (.int x9), .val (.int x10), .val (.ref b138), .val (.ref b144), .unset, .unset, .unset, .unset] [(.int x9), (.int (1 : Int32)), (.ref b144)])) rfl rfl (hb hby at_134)
      have f149_1530 := f147_1514.wr W148 g_b144
      have f149_1531 := f147_1515.wr W148
      have f149_1532 := Avf.other f147_1516 W148 ne_b138_b144
      have f149_1533 := f147_1517.wr W148
      have Zs149 : n0 ≤ h148.size := by rw [W148.size]; exact Zs147
      refine Go.by st148 ?_
      show Go p.tables e below _ (T148.setTop (mkF m 135 #[.val (.int p0), .val (.int p1), .val (.int p2), .val (.int (2 : Int32)), .val (.int (3 : Int32)), .val (.int x5), .val (.int x6), .val (.int x7), .val (.int x8), .val (.int x9), .val (.int x10), .val (.ref b138), .val (.ref b144), .unset, .unset, .unset, .unset] []))
      refine Go.by (fun _ => XS.iload X148.here hx rfl (hb hby at_135) rfl) ?_
      refine Go.by (fun _ => XS.iconst X148.here hx rfl (hb hby at_137)) ?_
      refine Go.by (fun _ => XS.icmpNo X148.here hx rfl (hb hby at_138) rfl (tlt (by decide)).2.2.2) ?_
      show Go p.tables e below _ (T148.setTop (mkF m 141 #[.val (.int p0), .val (.int p1), .val (.int p2), .val (.int (2 : Int32)), .val (.int (3 : Int32)), .val (.int x5), .val (.int x6), .val (.int x7), .val (.int x8), .val (.int x9), .val (.int x10), .val (.ref b138), .val (.ref b144), .unset, .unset, .unset, .unset] []))
      refine Go.by (fun _ => XS.aload X148.here hx rfl (hb hby at_141) rfl rfl) ?_
      show Go p.tables e below _ (T148.setTop (mkF m 143 #[.val (.int p0), .val (.int p1), .val (.int p2), .val (.int (2 : Int32)), .val (.int (3 : Int32)), .val (.int x5), .val (.int x6), .val (.int x7), .val (.int x8), .val (.int x9), .val (.int x10), .val (.ref b138), .val (.ref b144), .unset, .unset, .unset, .unset] [(.ref b144)]))
      refine Go.by (fun _ => XS.iconst X148.here hx rfl (hb hby at_143)) ?_
      refine Go.by (fun _ => XS.iload X148.here hx rfl (hb hby at_144) rfl) ?_
      obtain ⟨T150, h150, X150, W150, V150, st150⟩ := X148.stC hx hZ V148 g_b144 (by decide) (i := 2) rfl (by decide) (g := (mkF m 146 #[.val (.int p0), .val (.int p1), .val (.int p2), .val (.int (2 : Int32)), .val (.int (3 : Int32)), .val (.int x5), .val (.int x6), .val (.int x7), .val (.int x8), .val (.int x9), .val (.int x10), .val (.ref b138), .val (.ref b144), .unset, .unset, .unset, .unset] [(.int x10), (.int (2 : Int32)), (.ref b144)])) rfl rfl (hb hby at_146)
      have f151_1546 := f149_1530.wr W150 g_b144
      have f151_1547 := f149_1531.wr W150
      have f151_1548 := Avf.other f149_1532 W150 ne_b138_b144
      have f151_1549 := f149_1533.wr W150
      have Zs151 : n0 ≤ h150.size := by rw [W150.size]; exact Zs149
      refine Go.by st150 ?_
      show Go p.tables e below _ (T150.setTop (mkF m 147 #[.val (.int p0), .val (.int p1), .val (.int p2), .val (.int (2 : Int32)), .val (.int (3 : Int32)), .val (.int x5), .val (.int x6), .val (.int x7), .val (.int x8), .val (.int x9), .val (.int x10), .val (.ref b138), .val (.ref b144), .unset, .unset, .unset, .unset] []))
      refine Go.by (fun _ => XS.iloadN X150.here hx rfl (hb hby at_147) rfl) ?_
      refine Go.by (fun _ => XS.iconst X150.here hx rfl (hb hby at_148)) ?_
      refine Go.by (fun _ => XS.iadd X150.here hx rfl (hb hby at_149) rfl) ?_
      refine Go.by (fun _ => XS.iload X150.here hx rfl (hb hby at_150) rfl) ?_
      refine Go.by (fun _ => XS.iadd X150.here hx rfl (hb hby at_152) rfl) ?_
      show Go p.tables e below _ (T150.setTop (mkF m 153 #[.val (.int p0), .val (.int p1), .val (.int p2), .val (.int (2 : Int32)), .val (.int (3 : Int32)), .val (.int x5), .val (.int x6), .val (.int x7), .val (.int x8), .val (.int x9), .val (.int x10), .val (.ref b138), .val (.ref b144), .unset, .unset, .unset, .unset] [(.int (6 : Int32))]))
      obtain ⟨T152, h152, kc152, b152, X152, g152, E152, A152, V152, st152⟩ := X150.newP hx hZ (tw hw 1 rfl) (g := (mkF m 153 #[.val (.int p0), .val (.int p1), .val (.int p2), .val (.int (2 : Int32)), .val (.int (3 : Int32)), .val (.int x5), .val (.int x6), .val (.int x7), .val (.int x8), .val (.int x9), .val (.int x10), .val (.ref b138), .val (.ref b144), .unset, .unset, .unset, .unset] [(.int (6 : Int32))])) rfl (hb hby at_153) rfl (by decide) (sz := 6) (cap := 6) (k' := 3) (n' := 11) rfl (Nat.le_refl _) (by decide) rfl rfl (by decide) (by decide) (ad := "[C") (by decide)
      have g_b152 : n0 ≤ b152 := by rw [g152]; exact Zs151
      have ne_b138_b152 : b138 ≠ b152 := Nat.ne_of_lt (by rw [g152]; exact f151_1547.lt)
      have ne_b144_b152 : b144 ≠ b152 := Nat.ne_of_lt (by rw [g152]; exact f151_1549.lt)
      have f153_1563 := f151_1546.ext E152
      have f153_1564 := f151_1547.ext E152
      have f153_1565 := Avf.ext f151_1548 E152
      have f153_1566 := f151_1549.ext E152
      have f153_1567 := Avf.ext V150 E152
      have Zs153 : n0 ≤ h152.size := Nat.le_trans Zs151 E152.1
      refine Go.by st152 ?_
      show Go p.tables e below _ (T152.setTop (mkF m 155 #[.val (.int p0), .val (.int p1), .val (.int p2), .val (.int (2 : Int32)), .val (.int (3 : Int32)), .val (.int x5), .val (.int x6), .val (.int x7), .val (.int x8), .val (.int x9), .val (.int x10), .val (.ref b138), .val (.ref b144), .unset, .unset, .unset, .unset] [(.ref b152)]))
      refine Go.by (fun _ => XS.astore X152.here hx rfl (hb hby at_155) rfl rfl (l' := #[.val (.int p0), .val (.int p1), .val (.int p2), .val (.int (2 : Int32)), .val (.int (3 : Int32)), .val (.int x5), .val (.int x6), .val (.int x7), .val (.int x8), .val (.int x9), .val (.int x10), .val (.ref b138), .val (.ref b144), .val (.ref b152), .unset, .unset, .unset]) rfl) ?_
      show Go p.tables e below _ (T152.setTop (mkF m 157 #[.val (.int p0), .val (.int p1), .val (.int p2), .val (.int (2 : Int32)), .val (.int (3 : Int32)), .val (.int x5), .val (.int x6), .val (.int x7), .val (.int x8), .val (.int x9), .val (.int x10), .val (.ref b138), .val (.ref b144), .val (.ref b152), .unset, .unset, .unset] []))
      refine Go.by (fun _ => XS.aload X152.here hx rfl (hb hby at_157) rfl rfl) ?_
      refine Go.by (fun _ => XS.iconst X152.here hx rfl (hb hby at_159)) ?_
      refine Go.by (fun _ => XS.iload X152.here hx rfl (hb hby at_160) rfl) ?_
      obtain ⟨T154, h154, X154, W154, V154, st154⟩ := X152.stC hx hZ V152 g_b152 (by decide) (i := 0) rfl (by decide) (g := (mkF m 162 #[.val (.int p0), .val (.int p1), .val (.int p2), .val (.int (2 : Int32)), .val (.int (3 : Int32)), .val (.int x5), .val (.int x6), .val (.int x7), .val (.int x8), .val (.int x9), .val (.int x10), .val (.ref b138), .val (.ref b144), .val (.ref b152), .unset, .unset, .unset] [(.int x5), (.int (0 : Int32)), (.ref b152)])) rfl rfl (hb hby at_162)
      have f155_1577 := f153_1563.wr W154 g_b152
      have f155_1578 := f153_1564.wr W154
      have f155_1579 := Avf.other f153_1565 W154 ne_b138_b152
      have f155_1580 := f153_1566.wr W154
      have f155_1581 := Avf.other f153_1567 W154 ne_b144_b152
      have f155_1582 := A152.wr W154
      have Zs155 : n0 ≤ h154.size := by rw [W154.size]; exact Zs153
      refine Go.by st154 ?_
      show Go p.tables e below _ (T154.setTop (mkF m 163 #[.val (.int p0), .val (.int p1), .val (.int p2), .val (.int (2 : Int32)), .val (.int (3 : Int32)), .val (.int x5), .val (.int x6), .val (.int x7), .val (.int x8), .val (.int x9), .val (.int x10), .val (.ref b138), .val (.ref b144), .val (.ref b152), .unset, .unset, .unset] []))
      refine Go.by (fun _ => XS.iloadN X154.here hx rfl (hb hby at_163) rfl) ?_
      refine Go.by (fun _ => XS.iconst X154.here hx rfl (hb hby at_164)) ?_
      show Go p.tables e below _ (T154.setTop (mkF m 165 #[.val (.int p0), .val (.int p1), .val (.int p2), .val (.int (2 : Int32)), .val (.int (3 : Int32)), .val (.int x5), .val (.int x6), .val (.int x7), .val (.int x8), .val (.int x9), .val (.int x10), .val (.ref b138), .val (.ref b144), .val (.ref b152), .unset, .unset, .unset] [(.int (1 : Int32)), (.int (2 : Int32))]))
      refine Go.by (fun _ => XS.icmpNo X154.here hx rfl (hb hby at_165) rfl (tlt (by decide)).2.2.2) ?_
      show Go p.tables e below _ (T154.setTop (mkF m 168 #[.val (.int p0), .val (.int p1), .val (.int p2), .val (.int (2 : Int32)), .val (.int (3 : Int32)), .val (.int x5), .val (.int x6), .val (.int x7), .val (.int x8), .val (.int x9), .val (.int x10), .val (.ref b138), .val (.ref b144), .val (.ref b152), .unset, .unset, .unset] []))
      refine Go.by (fun _ => XS.aload X154.here hx rfl (hb hby at_168) rfl rfl) ?_
      refine Go.by (fun _ => XS.iconst X154.here hx rfl (hb hby at_170)) ?_
      refine Go.by (fun _ => XS.iload X154.here hx rfl (hb hby at_171) rfl) ?_
      obtain ⟨T156, h156, X156, W156, V156, st156⟩ := X154.stC hx hZ V154 g_b152 (by decide) (i := 1) rfl (by decide) (g := (mkF m 173 #[.val (.int p0), .val (.int p1), .val (.int p2), .val (.int (2 : Int32)), .val (.int (3 : Int32)), .val (.int x5), .val (.int x6), .val (.int x7), .val (.int x8), .val (.int x9), .val (.int x10), .val (.ref b138), .val (.ref b144), .val (.ref b152), .unset, .unset, .unset] [(.int x6), (.int (1 : Int32)), (.ref b152)])) rfl rfl (hb hby at_173)
      have f157_1595 := f155_1577.wr W156 g_b152
      have f157_1596 := f155_1578.wr W156
      have f157_1597 := Avf.other f155_1579 W156 ne_b138_b152
      have f157_1598 := f155_1580.wr W156
      have f157_1599 := Avf.other f155_1581 W156 ne_b144_b152
      have f157_1600 := f155_1582.wr W156
      have Zs157 : n0 ≤ h156.size := by rw [W156.size]; exact Zs155
      refine Go.by st156 ?_
      show Go p.tables e below _ (T156.setTop (mkF m 174 #[.val (.int p0), .val (.int p1), .val (.int p2), .val (.int (2 : Int32)), .val (.int (3 : Int32)), .val (.int x5), .val (.int x6), .val (.int x7), .val (.int x8), .val (.int x9), .val (.int x10), .val (.ref b138), .val (.ref b144), .val (.ref b152), .unset, .unset, .unset] []))
      refine Go.by (fun _ => XS.iloadN X156.here hx rfl (hb hby at_174) rfl) ?_
      refine Go.by (fun _ => XS.iconst X156.here hx rfl (hb hby at_175)) ?_
      refine Go.by (fun _ => XS.icmpYes X156.here hx rfl (pc0 := 176) (pc' := 185) rfl (hb hby at_176) rfl (flt (by decide)).2.2.2 (by decide) (by decide)) ?_
      show Go p.tables e below _ (T156.setTop (mkF m 185 #[.val (.int p0), .val (.int p1), .val (.int p2), .val (.int (2 : Int32)), .val (.int (3 : Int32)), .val (.int x5), .val (.int x6), .val (.int x7), .val (.int x8), .val (.int x9), .val (.int x10), .val (.ref b138), .val (.ref b144), .val (.ref b152), .unset, .unset, .unset] []))
      refine Go.by (fun _ => XS.aload X156.here hx rfl (hb hby at_185) rfl rfl) ?_
      refine Go.by (fun _ => XS.iloadN X156.here hx rfl (hb hby at_187) rfl) ?_
      show Go p.tables e below _ (T156.setTop (mkF m 188 #[.val (.int p0), .val (.int p1), .val (.int p2), .val (.int (2 : Int32)), .val (.int (3 : Int32)), .val (.int x5), .val (.int x6), .val (.int x7), .val (.int x8), .val (.int x9), .val (.int x10), .val (.ref b138), .val (.ref b144), .val (.ref b152), .unset, .unset, .unset] [(.int (2 : Int32)), (.ref b152)]))
      refine Go.by (fun _ => XS.bipush X156.here hx rfl (hb hby at_188)) ?_
      obtain ⟨T158, h158, X158, W158, V158, st158⟩ := X156.stC hx hZ V156 g_b152 (by decide) (i := 2) rfl (by decide) (g := (mkF m 190 #[.val (.int p0), .val (.int p1), .val (.int p2), .val (.int (2 : Int32)), .val (.int (3 : Int32)), .val (.int x5), .val (.int x6), .val (.int x7), .val (.int x8), .val (.int x9), .val (.int x10), .val (.ref b138), .val (.ref b144), .val (.ref b152), .unset, .unset, .unset] [(.int (47 : Int32)), (.int (2 : Int32)), (.ref b152)])) rfl rfl (hb hby at_190)
      have f159_1613 := f157_1595.wr W158 g_b152
      have f159_1614 := f157_1596.wr W158
      have f159_1615 := Avf.other f157_1597 W158 ne_b138_b152
      have f159_1616 := f157_1598.wr W158
      have f159_1617 := Avf.other f157_1599 W158 ne_b144_b152
      have f159_1618 := f157_1600.wr W158
      have Zs159 : n0 ≤ h158.size := by rw [W158.size]; exact Zs157
      refine Go.by st158 ?_
      show Go p.tables e below _ (T158.setTop (mkF m 191 #[.val (.int p0), .val (.int p1), .val (.int p2), .val (.int (2 : Int32)), .val (.int (3 : Int32)), .val (.int x5), .val (.int x6), .val (.int x7), .val (.int x8), .val (.int x9), .val (.int x10), .val (.ref b138), .val (.ref b144), .val (.ref b152), .unset, .unset, .unset] []))
      refine Go.by (fun _ => XS.aload X158.here hx rfl (hb hby at_191) rfl rfl) ?_
      refine Go.by (fun _ => XS.iloadN X158.here hx rfl (hb hby at_193) rfl) ?_
      refine Go.by (fun _ => XS.iconst X158.here hx rfl (hb hby at_194)) ?_
      refine Go.by (fun _ => XS.iadd X158.here hx rfl (hb hby at_195) rfl) ?_
      refine Go.by (fun _ => XS.iload X158.here hx rfl (hb hby at_196) rfl) ?_
      obtain ⟨T160, h160, X160, W160, V160, st160⟩ := X158.stC hx hZ V158 g_b152 (by decide) (i := 3) rfl (by decide) (g := (mkF m 198 #[.val (.int p0), .val (.int p1), .val (.int p2), .val (.int (2 : Int32)), .val (.int (3 : Int32)), .val (.int x5), .val (.int x6), .val (.int x7), .val (.int x8), .val (.int x9), .val (.int x10), .val (.ref b138), .val (.ref b144), .val (.ref b152), .unset, .unset, .unset] [(.int x8), (.int (3 : Int32)), (.ref b152)])) rfl rfl (hb hby at_198)
      have f161_1628 := f159_1613.wr W160 g_b152
      have f161_1629 := f159_1614.wr W160
      have f161_1630 := Avf.other f159_1615 W160 ne_b138_b152
      have f161_1631 := f159_1616.wr W160
      have f161_1632 := Avf.other f159_1617 W160 ne_b144_b152
      have f161_1633 := f159_1618.wr W160
      have Zs161 : n0 ≤ h160.size := by rw [W160.size]; exact Zs159
      refine Go.by st160 ?_
      show Go p.tables e below _ (T160.setTop (mkF m 199 #[.val (.int p0), .val (.int p1), .val (.int p2), .val (.int (2 : Int32)), .val (.int (3 : Int32)), .val (.int x5), .val (.int x6), .val (.int x7), .val (.int x8), .val (.int x9), .val (.int x10), .val (.ref b138), .val (.ref b144), .val (.ref b152), .unset, .unset, .unset] []))
      refine Go.by (fun _ => XS.iload X160.here hx rfl (hb hby at_199) rfl) ?_
      refine Go.by (fun _ => XS.iconst X160.here hx rfl (hb hby at_201)) ?_
      refine Go.by (fun _ => XS.icmpNo X160.here hx rfl (hb hby at_202) rfl (tlt (by decide)).2.2.2) ?_
      show Go p.tables e below _ (T160.setTop (mkF m 205 #[.val (.int p0), .val (.int p1), .val (.int p2), .val (.int (2 : Int32)), .val (.int (3 : Int32)), .val (.int x5), .val (.int x6), .val (.int x7), .val (.int x8), .val (.int x9), .val (.int x10), .val (.ref b138), .val (.ref b144), .val (.ref b152), .unset, .unset, .unset] []))
      refine Go.by (fun _ => XS.aload X160.here hx rfl (hb hby at_205) rfl rfl) ?_
      refine Go.by (fun _ => XS.iloadN X160.here hx rfl (hb hby at_207) rfl) ?_
      refine Go.by (fun _ => XS.iconst X160.here hx rfl (hb hby at_208)) ?_
      refine Go.by (fun _ => XS.iadd X160.here hx rfl (hb hby at_209) rfl) ?_
      refine Go.by (fun _ => XS.iload X160.here hx rfl (hb hby at_210) rfl) ?_
      obtain ⟨T162, h162, X162, W162, V162, st162⟩ := X160.stC hx hZ V160 g_b152 (by decide) (i := 4) rfl (by decide) (g := (mkF m 212 #[.val (.int p0), .val (.int p1), .val (.int p2), .val (.int (2 : Int32)), .val (.int (3 : Int32)), .val (.int x5), .val (.int x6), .val (.int x7), .val (.int x8), .val (.int x9), .val (.int x10), .val (.ref b138), .val (.ref b144), .val (.ref b152), .unset, .unset, .unset] [(.int x9), (.int (4 : Int32)), (.ref b152)])) rfl rfl (hb hby at_212)
      have f163_1647 := f161_1628.wr W162 g_b152
      have f163_1648 := f161_1629.wr W162
      have f163_1649 := Avf.other f161_1630 W162 ne_b138_b152
      have f163_1650 := f161_1631.wr W162
      have f163_1651 := Avf.other f161_1632 W162 ne_b144_b152
      have f163_1652 := f161_1633.wr W162
      have Zs163 : n0 ≤ h162.size := by rw [W162.size]; exact Zs161
      refine Go.by st162 ?_
      show Go p.tables e below _ (T162.setTop (mkF m 213 #[.val (.int p0), .val (.int p1), .val (.int p2), .val (.int (2 : Int32)), .val (.int (3 : Int32)), .val (.int x5), .val (.int x6), .val (.int x7), .val (.int x8), .val (.int x9), .val (.int x10), .val (.ref b138), .val (.ref b144), .val (.ref b152), .unset, .unset, .unset] []))
      refine Go.by (fun _ => XS.iload X162.here hx rfl (hb hby at_213) rfl) ?_
      refine Go.by (fun _ => XS.iconst X162.here hx rfl (hb hby at_215)) ?_
      refine Go.by (fun _ => XS.icmpNo X162.here hx rfl (hb hby at_216) rfl (tlt (by decide)).2.2.2) ?_
      show Go p.tables e below _ (T162.setTop (mkF m 219 #[.val (.int p0), .val (.int p1), .val (.int p2), .val (.int (2 : Int32)), .val (.int (3 : Int32)), .val (.int x5), .val (.int x6), .val (.int x7), .val (.int x8), .val (.int x9), .val (.int x10), .val (.ref b138), .val (.ref b144), .val (.ref b152), .unset, .unset, .unset] []))
      refine Go.by (fun _ => XS.aload X162.here hx rfl (hb hby at_219) rfl rfl) ?_
      refine Go.by (fun _ => XS.iloadN X162.here hx rfl (hb hby at_221) rfl) ?_
      refine Go.by (fun _ => XS.iconst X162.here hx rfl (hb hby at_222)) ?_
      refine Go.by (fun _ => XS.iadd X162.here hx rfl (hb hby at_223) rfl) ?_
      refine Go.by (fun _ => XS.iload X162.here hx rfl (hb hby at_224) rfl) ?_
      obtain ⟨T164, h164, X164, W164, V164, st164⟩ := X162.stC hx hZ V162 g_b152 (by decide) (i := 5) rfl (by decide) (g := (mkF m 226 #[.val (.int p0), .val (.int p1), .val (.int p2), .val (.int (2 : Int32)), .val (.int (3 : Int32)), .val (.int x5), .val (.int x6), .val (.int x7), .val (.int x8), .val (.int x9), .val (.int x10), .val (.ref b138), .val (.ref b144), .val (.ref b152), .unset, .unset, .unset] [(.int x10), (.int (5 : Int32)), (.ref b152)])) rfl rfl (hb hby at_226)
      have f165_1666 := f163_1647.wr W164 g_b152
      have f165_1667 := f163_1648.wr W164
      have f165_1668 := Avf.other f163_1649 W164 ne_b138_b152
      have f165_1669 := f163_1650.wr W164
      have f165_1670 := Avf.other f163_1651 W164 ne_b144_b152
      have f165_1671 := f163_1652.wr W164
      have Zs165 : n0 ≤ h164.size := by rw [W164.size]; exact Zs163
      refine Go.by st164 ?_
      show Go p.tables e below _ (T164.setTop (mkF m 227 #[.val (.int p0), .val (.int p1), .val (.int p2), .val (.int (2 : Int32)), .val (.int (3 : Int32)), .val (.int x5), .val (.int x6), .val (.int x7), .val (.int x8), .val (.int x9), .val (.int x10), .val (.ref b138), .val (.ref b144), .val (.ref b152), .unset, .unset, .unset] []))
      have Vc11 := Avf.cong f165_1668 (g := (fun i => (.int ((c3 x5 x6 x7) i)))) (fun i hi => by
        match i, hi with
        | 0, _ => exact congrArg Value.int (own_nc2 b_x5)
        | 1, _ => exact congrArg Value.int (own_nc2 b_x6))
      have Vc12 := Avf.cong f165_1670 (g := (fun i => (.int ((c3 x8 x9 x10) i)))) (fun i hi => by
        match i, hi with
        | 0, _ => exact congrArg Value.int (own_nc2 b_x8)
        | 1, _ => exact congrArg Value.int (own_nc2 b_x9)
        | 2, _ => exact congrArg Value.int (own_nc2 b_x10))
      have Vc13 := Avf.cong V164 (g := (fun i => (.int ((c7 2 (c3 x5 x6 x7) (c3 x8 x9 x10)) i)))) (fun i hi => by
        match i, hi with
        | 0, _ => exact congrArg Value.int (own_nc2 b_x5)
        | 1, _ => exact congrArg Value.int (own_nc2 b_x6)
        | 2, _ => exact congrArg Value.int (show nar .char (47 : Int32) = 47 from rfl)
        | 3, _ => exact congrArg Value.int (own_nc2 b_x8)
        | 4, _ => exact congrArg Value.int (own_nc2 b_x9)
        | 5, _ => exact congrArg Value.int (own_nc2 b_x10))
      exact J _ _ 2 3 _ _ _ _ _ _ _ _ rfl rfl (by decide) (X164.more (by decide) (by decide)) Zs165 f165_1666 Vc11 Vc12 Vc13
  · skip
    rcases own_three b_x4 with rfl | rfl | rfl
    · skip
      refine Go.by (fun _ => XS.iloadN X0.here hx rfl (hb hby at_78) rfl) ?_
      obtain ⟨T167, h167, kc167, b167, X167, g167, E167, A167, V167, st167⟩ := X0.newP hx hZ (tw hw 1 rfl) (g := (mkF m 79 #[.val (.int p0), .val (.int p1), .val (.int p2), .val (.int (3 : Int32)), .val (.int (1 : Int32)), .val (.int x5), .val (.int x6), .val (.int x7), .val (.int x8), .val (.int x9), .val (.int x10), .unset, .unset, .unset, .unset, .unset, .unset] [(.int (3 : Int32))])) rfl (hb hby at_79) rfl (by decide) (sz := 3) (cap := 3) (k' := 1) (n' := 3) rfl (Nat.le_refl _) (by decide) rfl rfl (by decide) (by decide) (ad := "[C") (by decide)
      have g_b167 : n0 ≤ b167 := by rw [g167]; exact Z0
      have f168_1699 := O0.ext E167
      have Zs168 : n0 ≤ h167.size := Nat.le_trans Z0 E167.1
      refine Go.by st167 ?_
      show Go p.tables e below _ (T167.setTop (mkF m 81 #[.val (.int p0), .val (.int p1), .val (.int p2), .val (.int (3 : Int32)), .val (.int (1 : Int32)), .val (.int x5), .val (.int x6), .val (.int x7), .val (.int x8), .val (.int x9), .val (.int x10), .unset, .unset, .unset, .unset, .unset, .unset] [(.ref b167)]))
      refine Go.by (fun _ => XS.astore X167.here hx rfl (hb hby at_81) rfl rfl (l' := #[.val (.int p0), .val (.int p1), .val (.int p2), .val (.int (3 : Int32)), .val (.int (1 : Int32)), .val (.int x5), .val (.int x6), .val (.int x7), .val (.int x8), .val (.int x9), .val (.int x10), .val (.ref b167), .unset, .unset, .unset, .unset, .unset]) rfl) ?_
      show Go p.tables e below _ (T167.setTop (mkF m 83 #[.val (.int p0), .val (.int p1), .val (.int p2), .val (.int (3 : Int32)), .val (.int (1 : Int32)), .val (.int x5), .val (.int x6), .val (.int x7), .val (.int x8), .val (.int x9), .val (.int x10), .val (.ref b167), .unset, .unset, .unset, .unset, .unset] []))
      refine Go.by (fun _ => XS.aload X167.here hx rfl (hb hby at_83) rfl rfl) ?_
      refine Go.by (fun _ => XS.iconst X167.here hx rfl (hb hby at_85)) ?_
      refine Go.by (fun _ => XS.iload X167.here hx rfl (hb hby at_86) rfl) ?_
      obtain ⟨T169, h169, X169, W169, V169, st169⟩ := X167.stC hx hZ V167 g_b167 (by decide) (i := 0) rfl (by decide) (g := (mkF m 88 #[.val (.int p0), .val (.int p1), .val (.int p2), .val (.int (3 : Int32)), .val (.int (1 : Int32)), .val (.int x5), .val (.int x6), .val (.int x7), .val (.int x8), .val (.int x9), .val (.int x10), .val (.ref b167), .unset, .unset, .unset, .unset, .unset] [(.int x5), (.int (0 : Int32)), (.ref b167)])) rfl rfl (hb hby at_88)
      have f170_1709 := f168_1699.wr W169 g_b167
      have f170_1710 := A167.wr W169
      have Zs170 : n0 ≤ h169.size := by rw [W169.size]; exact Zs168
      refine Go.by st169 ?_
      show Go p.tables e below _ (T169.setTop (mkF m 89 #[.val (.int p0), .val (.int p1), .val (.int p2), .val (.int (3 : Int32)), .val (.int (1 : Int32)), .val (.int x5), .val (.int x6), .val (.int x7), .val (.int x8), .val (.int x9), .val (.int x10), .val (.ref b167), .unset, .unset, .unset, .unset, .unset] []))
      refine Go.by (fun _ => XS.iloadN X169.here hx rfl (hb hby at_89) rfl) ?_
      show Go p.tables e below _ (T169.setTop (mkF m 90 #[.val (.int p0), .val (.int p1), .val (.int p2), .val (.int (3 : Int32)), .val (.int (1 : Int32)), .val (.int x5), .val (.int x6), .val (.int x7), .val (.int x8), .val (.int x9), .val (.int x10), .val (.ref b167), .unset, .unset, .unset, .unset, .unset] [(.int (3 : Int32))]))
      refine Go.by (fun _ => XS.iconst X169.here hx rfl (hb hby at_90)) ?_
      refine Go.by (fun _ => XS.icmpNo X169.here hx rfl (hb hby at_91) rfl (tlt (by decide)).2.2.2) ?_
      show Go p.tables e below _ (T169.setTop (mkF m 94 #[.val (.int p0), .val (.int p1), .val (.int p2), .val (.int (3 : Int32)), .val (.int (1 : Int32)), .val (.int x5), .val (.int x6), .val (.int x7), .val (.int x8), .val (.int x9), .val (.int x10), .val (.ref b167), .unset, .unset, .unset, .unset, .unset] []))
      refine Go.by (fun _ => XS.aload X169.here hx rfl (hb hby at_94) rfl rfl) ?_
      refine Go.by (fun _ => XS.iconst X169.here hx rfl (hb hby at_96)) ?_
      refine Go.by (fun _ => XS.iload X169.here hx rfl (hb hby at_97) rfl) ?_
      obtain ⟨T171, h171, X171, W171, V171, st171⟩ := X169.stC hx hZ V169 g_b167 (by decide) (i := 1) rfl (by decide) (g := (mkF m 99 #[.val (.int p0), .val (.int p1), .val (.int p2), .val (.int (3 : Int32)), .val (.int (1 : Int32)), .val (.int x5), .val (.int x6), .val (.int x7), .val (.int x8), .val (.int x9), .val (.int x10), .val (.ref b167), .unset, .unset, .unset, .unset, .unset] [(.int x6), (.int (1 : Int32)), (.ref b167)])) rfl rfl (hb hby at_99)
      have f172_1723 := f170_1709.wr W171 g_b167
      have f172_1724 := f170_1710.wr W171
      have Zs172 : n0 ≤ h171.size := by rw [W171.size]; exact Zs170
      refine Go.by st171 ?_
      show Go p.tables e below _ (T171.setTop (mkF m 100 #[.val (.int p0), .val (.int p1), .val (.int p2), .val (.int (3 : Int32)), .val (.int (1 : Int32)), .val (.int x5), .val (.int x6), .val (.int x7), .val (.int x8), .val (.int x9), .val (.int x10), .val (.ref b167), .unset, .unset, .unset, .unset, .unset] []))
      refine Go.by (fun _ => XS.iloadN X171.here hx rfl (hb hby at_100) rfl) ?_
      refine Go.by (fun _ => XS.iconst X171.here hx rfl (hb hby at_101)) ?_
      refine Go.by (fun _ => XS.icmpNo X171.here hx rfl (hb hby at_102) rfl (tlt (by decide)).2.2.2) ?_
      show Go p.tables e below _ (T171.setTop (mkF m 105 #[.val (.int p0), .val (.int p1), .val (.int p2), .val (.int (3 : Int32)), .val (.int (1 : Int32)), .val (.int x5), .val (.int x6), .val (.int x7), .val (.int x8), .val (.int x9), .val (.int x10), .val (.ref b167), .unset, .unset, .unset, .unset, .unset] []))
      refine Go.by (fun _ => XS.aload X171.here hx rfl (hb hby at_105) rfl rfl) ?_
      show Go p.tables e below _ (T171.setTop (mkF m 107 #[.val (.int p0), .val (.int p1), .val (.int p2), .val (.int (3 : Int32)), .val (.int (1 : Int32)), .val (.int x5), .val (.int x6), .val (.int x7), .val (.int x8), .val (.int x9), .val (.int x10), .val (.ref b167), .unset, .unset, .unset, .unset, .unset] [(.ref b167)]))
      refine Go.by (fun _ => XS.iconst X171.here hx rfl (hb hby at_107)) ?_
      refine Go.by (fun _ => XS.iload X171.here hx rfl (hb hby at_108) rfl) ?_
      obtain ⟨T173, h173, X173, W173, V173, st173⟩ := X171.stC hx hZ V171 g_b167 (by decide) (i := 2) rfl (by decide) (g := (mkF m 110 #[.val (.int p0), .val (.int p1), .val (.int p2), .val (.int (3 : Int32)), .val (.int (1 : Int32)), .val (.int x5), .val (.int x6), .val (.int x7), .val (.int x8), .val (.int x9), .val (.int x10), .val (.ref b167), .unset, .unset, .unset, .unset, .unset] [(.int x7), (.int (2 : Int32)), (.ref b167)])) rfl rfl (hb hby at_110)
      have f174_1737 := f172_1723.wr W173 g_b167
      have f174_1738 := f172_1724.wr W173
      have Zs174 : n0 ≤ h173.size := by rw [W173.size]; exact Zs172
      refine Go.by st173 ?_
      show Go p.tables e below _ (T173.setTop (mkF m 111 #[.val (.int p0), .val (.int p1), .val (.int p2), .val (.int (3 : Int32)), .val (.int (1 : Int32)), .val (.int x5), .val (.int x6), .val (.int x7), .val (.int x8), .val (.int x9), .val (.int x10), .val (.ref b167), .unset, .unset, .unset, .unset, .unset] []))
      refine Go.by (fun _ => XS.iload X173.here hx rfl (hb hby at_111) rfl) ?_
      obtain ⟨T175, h175, kc175, b175, X175, g175, E175, A175, V175, st175⟩ := X173.newP hx hZ (tw hw 1 rfl) (g := (mkF m 113 #[.val (.int p0), .val (.int p1), .val (.int p2), .val (.int (3 : Int32)), .val (.int (1 : Int32)), .val (.int x5), .val (.int x6), .val (.int x7), .val (.int x8), .val (.int x9), .val (.int x10), .val (.ref b167), .unset, .unset, .unset, .unset, .unset] [(.int (1 : Int32))])) rfl (hb hby at_113) rfl (by decide) (sz := 1) (cap := 1) (k' := 2) (n' := 4) rfl (Nat.le_refl _) (by decide) rfl rfl (by decide) (by decide) (ad := "[C") (by decide)
      have g_b175 : n0 ≤ b175 := by rw [g175]; exact Zs174
      have ne_b167_b175 : b167 ≠ b175 := Nat.ne_of_lt (by rw [g175]; exact f174_1738.lt)
      have f176_1746 := f174_1737.ext E175
      have f176_1747 := f174_1738.ext E175
      have f176_1748 := Avf.ext V173 E175
      have Zs176 : n0 ≤ h175.size := Nat.le_trans Zs174 E175.1
      refine Go.by st175 ?_
      show Go p.tables e below _ (T175.setTop (mkF m 115 #[.val (.int p0), .val (.int p1), .val (.int p2), .val (.int (3 : Int32)), .val (.int (1 : Int32)), .val (.int x5), .val (.int x6), .val (.int x7), .val (.int x8), .val (.int x9), .val (.int x10), .val (.ref b167), .unset, .unset, .unset, .unset, .unset] [(.ref b175)]))
      refine Go.by (fun _ => XS.astore X175.here hx rfl (hb hby at_115) rfl rfl (l' := #[.val (.int p0), .val (.int p1), .val (.int p2), .val (.int (3 : Int32)), .val (.int (1 : Int32)), .val (.int x5), .val (.int x6), .val (.int x7), .val (.int x8), .val (.int x9), .val (.int x10), .val (.ref b167), .val (.ref b175), .unset, .unset, .unset, .unset]) rfl) ?_
      show Go p.tables e below _ (T175.setTop (mkF m 117 #[.val (.int p0), .val (.int p1), .val (.int p2), .val (.int (3 : Int32)), .val (.int (1 : Int32)), .val (.int x5), .val (.int x6), .val (.int x7), .val (.int x8), .val (.int x9), .val (.int x10), .val (.ref b167), .val (.ref b175), .unset, .unset, .unset, .unset] []))
      refine Go.by (fun _ => XS.aload X175.here hx rfl (hb hby at_117) rfl rfl) ?_
      refine Go.by (fun _ => XS.iconst X175.here hx rfl (hb hby at_119)) ?_
      show Go p.tables e below _ (T175.setTop (mkF m 120 #[.val (.int p0), .val (.int p1), .val (.int p2), .val (.int (3 : Int32)), .val (.int (1 : Int32)), .val (.int x5), .val (.int x6), .val (.int x7), .val (.int x8), .val (.int x9), .val (.int x10), .val (.ref b167), .val (.ref b175), .unset, .unset, .unset, .unset] [(.int (0 : Int32)), (.ref b175)]))
      refine Go.by (fun _ => XS.iload X175.here hx rfl (hb hby at_120) rfl) ?_
      obtain ⟨T177, h177, X177, W177, V177, st177⟩ := X175.stC hx hZ V175 g_b175 (by decide) (i := 0) rfl (by decide) (g := (mkF m 122 #[.val (.int p0), .val (.int p1), .val (.int p2), .val (.int (3 : Int32)), .val (.int (1 : Int32)), .val (.int x5), .val (.int x6), .val (.int x7), .val (.int x8), .val (.int x9), .val (.int x10), .val (.ref b167), .val (.ref b175), .unset, .unset, .unset, .unset] [(.int x8), (.int (0 : Int32)), (.ref b175)])) rfl rfl (hb hby at_122)
      have f178_1759 := f176_1746.wr W177 g_b175
      have f178_1760 := f176_1747.wr W177
      have f178_1761 := Avf.other f176_1748 W177 ne_b167_b175
      have f178_1762 := A175.wr W177
      have Zs178 : n0 ≤ h177.size := by rw [W177.size]; exact Zs176
      refine Go.by st177 ?_
      show Go p.tables e below _ (T177.setTop (mkF m 123 #[.val (.int p0), .val (.int p1), .val (.int p2), .val (.int (3 : Int32)), .val (.int (1 : Int32)), .val (.int x5), .val (.int x6), .val (.int x7), .val (.int x8), .val (.int x9), .val (.int x10), .val (.ref b167), .val (.ref b175), .unset, .unset, .unset, .unset] []))
      refine Go.by (fun _ => XS.iload X177.here hx rfl (hb hby at_123) rfl) ?_
      refine Go.by (fun _ => XS.iconst X177.here hx rfl (hb hby at_125)) ?_
      refine Go.by (fun _ => XS.icmpYes X177.here hx rfl (pc0 := 126) (pc' := 135) rfl (hb hby at_126) rfl (flt (by decide)).2.2.2 (by decide) (by decide)) ?_
      show Go p.tables e below _ (T177.setTop (mkF m 135 #[.val (.int p0), .val (.int p1), .val (.int p2), .val (.int (3 : Int32)), .val (.int (1 : Int32)), .val (.int x5), .val (.int x6), .val (.int x7), .val (.int x8), .val (.int x9), .val (.int x10), .val (.ref b167), .val (.ref b175), .unset, .unset, .unset, .unset] []))
      refine Go.by (fun _ => XS.iload X177.here hx rfl (hb hby at_135) rfl) ?_
      refine Go.by (fun _ => XS.iconst X177.here hx rfl (hb hby at_137)) ?_
      refine Go.by (fun _ => XS.icmpYes X177.here hx rfl (pc0 := 138) (pc' := 147) rfl (hb hby at_138) rfl (flt (by decide)).2.2.2 (by decide) (by decide)) ?_
      show Go p.tables e below _ (T177.setTop (mkF m 147 #[.val (.int p0), .val (.int p1), .val (.int p2), .val (.int (3 : Int32)), .val (.int (1 : Int32)), .val (.int x5), .val (.int x6), .val (.int x7), .val (.int x8), .val (.int x9), .val (.int x10), .val (.ref b167), .val (.ref b175), .unset, .unset, .unset, .unset] []))
      refine Go.by (fun _ => XS.iloadN X177.here hx rfl (hb hby at_147) rfl) ?_
      refine Go.by (fun _ => XS.iconst X177.here hx rfl (hb hby at_148)) ?_
      show Go p.tables e below _ (T177.setTop (mkF m 149 #[.val (.int p0), .val (.int p1), .val (.int p2), .val (.int (3 : Int32)), .val (.int (1 : Int32)), .val (.int x5), .val (.int x6), .val (.int x7), .val (.int x8), .val (.int x9), .val (.int x10), .val (.ref b167), .val (.ref b175), .unset, .unset, .unset, .unset] [(.int (1 : Int32)), (.int (3 : Int32))]))
      refine Go.by (fun _ => XS.iadd X177.here hx rfl (hb hby at_149) rfl) ?_
      refine Go.by (fun _ => XS.iload X177.here hx rfl (hb hby at_150) rfl) ?_
      refine Go.by (fun _ => XS.iadd X177.here hx rfl (hb hby at_152) rfl) ?_
      obtain ⟨T179, h179, kc179, b179, X179, g179, E179, A179, V179, st179⟩ := X177.newP hx hZ (tw hw 1 rfl) (g := (mkF m 153 #[.val (.int p0), .val (.int p1), .val (.int p2), .val (.int (3 : Int32)), .val (.int (1 : Int32)), .val (.int x5), .val (.int x6), .val (.int x7), .val (.int x8), .val (.int x9), .val (.int x10), .val (.ref b167), .val (.ref b175), .unset, .unset, .unset, .unset] [(.int (5 : Int32))])) rfl (hb hby at_153) rfl (by decide) (sz := 5) (cap := 5) (k' := 3) (n' := 9) rfl (Nat.le_refl _) (by decide) rfl rfl (by decide) (by decide) (ad := "[C") (by decide)
      have g_b179 : n0 ≤ b179 := by rw [g179]; exact Zs178
      have ne_b167_b179 : b167 ≠ b179 := Nat.ne_of_lt (by rw [g179]; exact f178_1760.lt)
      have ne_b175_b179 : b175 ≠ b179 := Nat.ne_of_lt (by rw [g179]; exact f178_1762.lt)
      have f180_1784 := f178_1759.ext E179
      have f180_1785 := f178_1760.ext E179
      have f180_1786 := Avf.ext f178_1761 E179
      have f180_1787 := f178_1762.ext E179
      have f180_1788 := Avf.ext V177 E179
      have Zs180 : n0 ≤ h179.size := Nat.le_trans Zs178 E179.1
      refine Go.by st179 ?_
      show Go p.tables e below _ (T179.setTop (mkF m 155 #[.val (.int p0), .val (.int p1), .val (.int p2), .val (.int (3 : Int32)), .val (.int (1 : Int32)), .val (.int x5), .val (.int x6), .val (.int x7), .val (.int x8), .val (.int x9), .val (.int x10), .val (.ref b167), .val (.ref b175), .unset, .unset, .unset, .unset] [(.ref b179)]))
      refine Go.by (fun _ => XS.astore X179.here hx rfl (hb hby at_155) rfl rfl (l' := #[.val (.int p0), .val (.int p1), .val (.int p2), .val (.int (3 : Int32)), .val (.int (1 : Int32)), .val (.int x5), .val (.int x6), .val (.int x7), .val (.int x8), .val (.int x9), .val (.int x10), .val (.ref b167), .val (.ref b175), .val (.ref b179), .unset, .unset, .unset]) rfl) ?_
      show Go p.tables e below _ (T179.setTop (mkF m 157 #[.val (.int p0), .val (.int p1), .val (.int p2), .val (.int (3 : Int32)), .val (.int (1 : Int32)), .val (.int x5), .val (.int x6), .val (.int x7), .val (.int x8), .val (.int x9), .val (.int x10), .val (.ref b167), .val (.ref b175), .val (.ref b179), .unset, .unset, .unset] []))
      refine Go.by (fun _ => XS.aload X179.here hx rfl (hb hby at_157) rfl rfl) ?_
      refine Go.by (fun _ => XS.iconst X179.here hx rfl (hb hby at_159)) ?_
      refine Go.by (fun _ => XS.iload X179.here hx rfl (hb hby at_160) rfl) ?_
      show Go p.tables e below _ (T179.setTop (mkF m 162 #[.val (.int p0), .val (.int p1), .val (.int p2), .val (.int (3 : Int32)), .val (.int (1 : Int32)), .val (.int x5), .val (.int x6), .val (.int x7), .val (.int x8), .val (.int x9), .val (.int x10), .val (.ref b167), .val (.ref b175), .val (.ref b179), .unset, .unset, .unset] [(.int x5), (.int (0 : Int32)), (.ref b179)]))
      obtain ⟨T181, h181, X181, W181, V181, st181⟩ := X179.stC hx hZ V179 g_b179 (by decide) (i := 0) rfl (by decide) (g := (mkF m 162 #[.val (.int p0), .val (.int p1), .val (.int p2), .val (.int (3 : Int32)), .val (.int (1 : Int32)), .val (.int x5), .val (.int x6), .val (.int x7), .val (.int x8), .val (.int x9), .val (.int x10), .val (.ref b167), .val (.ref b175), .val (.ref b179), .unset, .unset, .unset] [(.int x5), (.int (0 : Int32)), (.ref b179)])) rfl rfl (hb hby at_162)
      have f182_1799 := f180_1784.wr W181 g_b179
      have f182_1800 := f180_1785.wr W181
      have f182_1801 := Avf.other f180_1786 W181 ne_b167_b179
      have f182_1802 := f180_1787.wr W181
      have f182_1803 := Avf.other f180_1788 W181 ne_b175_b179
      have f182_1804 := A179.wr W181
      have Zs182 : n0 ≤ h181.size := by rw [W181.size]; exact Zs180
      refine Go.by st181 ?_
      show Go p.tables e below _ (T181.setTop (mkF m 163 #[.val (.int p0), .val (.int p1), .val (.int p2), .val (.int (3 : Int32)), .val (.int (1 : Int32)), .val (.int x5), .val (.int x6), .val (.int x7), .val (.int x8), .val (.int x9), .val (.int x10), .val (.ref b167), .val (.ref b175), .val (.ref b179), .unset, .unset, .unset] []))
      refine Go.by (fun _ => XS.iloadN X181.here hx rfl (hb hby at_163) rfl) ?_
      refine Go.by (fun _ => XS.iconst X181.here hx rfl (hb hby at_164)) ?_
      refine Go.by (fun _ => XS.icmpNo X181.here hx rfl (hb hby at_165) rfl (tlt (by decide)).2.2.2) ?_
      show Go p.tables e below _ (T181.setTop (mkF m 168 #[.val (.int p0), .val (.int p1), .val (.int p2), .val (.int (3 : Int32)), .val (.int (1 : Int32)), .val (.int x5), .val (.int x6), .val (.int x7), .val (.int x8), .val (.int x9), .val (.int x10), .val (.ref b167), .val (.ref b175), .val (.ref b179), .unset, .unset, .unset] []))
      refine Go.by (fun _ => XS.aload X181.here hx rfl (hb hby at_168) rfl rfl) ?_
      refine Go.by (fun _ => XS.iconst X181.here hx rfl (hb hby at_170)) ?_
      refine Go.by (fun _ => XS.iload X181.here hx rfl (hb hby at_171) rfl) ?_
      obtain ⟨T183, h183, X183, W183, V183, st183⟩ := X181.stC hx hZ V181 g_b179 (by decide) (i := 1) rfl (by decide) (g := (mkF m 173 #[.val (.int p0), .val (.int p1), .val (.int p2), .val (.int (3 : Int32)), .val (.int (1 : Int32)), .val (.int x5), .val (.int x6), .val (.int x7), .val (.int x8), .val (.int x9), .val (.int x10), .val (.ref b167), .val (.ref b175), .val (.ref b179), .unset, .unset, .unset] [(.int x6), (.int (1 : Int32)), (.ref b179)])) rfl rfl (hb hby at_173)
      have f184_1816 := f182_1799.wr W183 g_b179
      have f184_1817 := f182_1800.wr W183
      have f184_1818 := Avf.other f182_1801 W183 ne_b167_b179
      have f184_1819 := f182_1802.wr W183
      have f184_1820 := Avf.other f182_1803 W183 ne_b175_b179
      have f184_1821 := f182_1804.wr W183
      have Zs184 : n0 ≤ h183.size := by rw [W183.size]; exact Zs182
      refine Go.by st183 ?_
      show Go p.tables e below _ (T183.setTop (mkF m 174 #[.val (.int p0), .val (.int p1), .val (.int p2), .val (.int (3 : Int32)), .val (.int (1 : Int32)), .val (.int x5), .val (.int x6), .val (.int x7), .val (.int x8), .val (.int x9), .val (.int x10), .val (.ref b167), .val (.ref b175), .val (.ref b179), .unset, .unset, .unset] []))
      refine Go.by (fun _ => XS.iloadN X183.here hx rfl (hb hby at_174) rfl) ?_
      show Go p.tables e below _ (T183.setTop (mkF m 175 #[.val (.int p0), .val (.int p1), .val (.int p2), .val (.int (3 : Int32)), .val (.int (1 : Int32)), .val (.int x5), .val (.int x6), .val (.int x7), .val (.int x8), .val (.int x9), .val (.int x10), .val (.ref b167), .val (.ref b175), .val (.ref b179), .unset, .unset, .unset] [(.int (3 : Int32))]))
      refine Go.by (fun _ => XS.iconst X183.here hx rfl (hb hby at_175)) ?_
      refine Go.by (fun _ => XS.icmpNo X183.here hx rfl (hb hby at_176) rfl (tlt (by decide)).2.2.2) ?_
      show Go p.tables e below _ (T183.setTop (mkF m 179 #[.val (.int p0), .val (.int p1), .val (.int p2), .val (.int (3 : Int32)), .val (.int (1 : Int32)), .val (.int x5), .val (.int x6), .val (.int x7), .val (.int x8), .val (.int x9), .val (.int x10), .val (.ref b167), .val (.ref b175), .val (.ref b179), .unset, .unset, .unset] []))
      refine Go.by (fun _ => XS.aload X183.here hx rfl (hb hby at_179) rfl rfl) ?_
      refine Go.by (fun _ => XS.iconst X183.here hx rfl (hb hby at_181)) ?_
      refine Go.by (fun _ => XS.iload X183.here hx rfl (hb hby at_182) rfl) ?_
      obtain ⟨T185, h185, X185, W185, V185, st185⟩ := X183.stC hx hZ V183 g_b179 (by decide) (i := 2) rfl (by decide) (g := (mkF m 184 #[.val (.int p0), .val (.int p1), .val (.int p2), .val (.int (3 : Int32)), .val (.int (1 : Int32)), .val (.int x5), .val (.int x6), .val (.int x7), .val (.int x8), .val (.int x9), .val (.int x10), .val (.ref b167), .val (.ref b175), .val (.ref b179), .unset, .unset, .unset] [(.int x7), (.int (2 : Int32)), (.ref b179)])) rfl rfl (hb hby at_184)
      have f186_1834 := f184_1816.wr W185 g_b179
      have f186_1835 := f184_1817.wr W185
      have f186_1836 := Avf.other f184_1818 W185 ne_b167_b179
      have f186_1837 := f184_1819.wr W185
      have f186_1838 := Avf.other f184_1820 W185 ne_b175_b179
      have f186_1839 := f184_1821.wr W185
      have Zs186 : n0 ≤ h185.size := by rw [W185.size]; exact Zs184
      refine Go.by st185 ?_
      show Go p.tables e below _ (T185.setTop (mkF m 185 #[.val (.int p0), .val (.int p1), .val (.int p2), .val (.int (3 : Int32)), .val (.int (1 : Int32)), .val (.int x5), .val (.int x6), .val (.int x7), .val (.int x8), .val (.int x9), .val (.int x10), .val (.ref b167), .val (.ref b175), .val (.ref b179), .unset, .unset, .unset] []))
      refine Go.by (fun _ => XS.aload X185.here hx rfl (hb hby at_185) rfl rfl) ?_
      refine Go.by (fun _ => XS.iloadN X185.here hx rfl (hb hby at_187) rfl) ?_
      refine Go.by (fun _ => XS.bipush X185.here hx rfl (hb hby at_188)) ?_
      show Go p.tables e below _ (T185.setTop (mkF m 190 #[.val (.int p0), .val (.int p1), .val (.int p2), .val (.int (3 : Int32)), .val (.int (1 : Int32)), .val (.int x5), .val (.int x6), .val (.int x7), .val (.int x8), .val (.int x9), .val (.int x10), .val (.ref b167), .val (.ref b175), .val (.ref b179), .unset, .unset, .unset] [(.int (47 : Int32)), (.int (3 : Int32)), (.ref b179)]))
      obtain ⟨T187, h187, X187, W187, V187, st187⟩ := X185.stC hx hZ V185 g_b179 (by decide) (i := 3) rfl (by decide) (g := (mkF m 190 #[.val (.int p0), .val (.int p1), .val (.int p2), .val (.int (3 : Int32)), .val (.int (1 : Int32)), .val (.int x5), .val (.int x6), .val (.int x7), .val (.int x8), .val (.int x9), .val (.int x10), .val (.ref b167), .val (.ref b175), .val (.ref b179), .unset, .unset, .unset] [(.int (47 : Int32)), (.int (3 : Int32)), (.ref b179)])) rfl rfl (hb hby at_190)
      have f188_1848 := f186_1834.wr W187 g_b179
      have f188_1849 := f186_1835.wr W187
      have f188_1850 := Avf.other f186_1836 W187 ne_b167_b179
      have f188_1851 := f186_1837.wr W187
      have f188_1852 := Avf.other f186_1838 W187 ne_b175_b179
      have f188_1853 := f186_1839.wr W187
      have Zs188 : n0 ≤ h187.size := by rw [W187.size]; exact Zs186
      refine Go.by st187 ?_
      show Go p.tables e below _ (T187.setTop (mkF m 191 #[.val (.int p0), .val (.int p1), .val (.int p2), .val (.int (3 : Int32)), .val (.int (1 : Int32)), .val (.int x5), .val (.int x6), .val (.int x7), .val (.int x8), .val (.int x9), .val (.int x10), .val (.ref b167), .val (.ref b175), .val (.ref b179), .unset, .unset, .unset] []))
      refine Go.by (fun _ => XS.aload X187.here hx rfl (hb hby at_191) rfl rfl) ?_
      refine Go.by (fun _ => XS.iloadN X187.here hx rfl (hb hby at_193) rfl) ?_
      refine Go.by (fun _ => XS.iconst X187.here hx rfl (hb hby at_194)) ?_
      refine Go.by (fun _ => XS.iadd X187.here hx rfl (hb hby at_195) rfl) ?_
      refine Go.by (fun _ => XS.iload X187.here hx rfl (hb hby at_196) rfl) ?_
      obtain ⟨T189, h189, X189, W189, V189, st189⟩ := X187.stC hx hZ V187 g_b179 (by decide) (i := 4) rfl (by decide) (g := (mkF m 198 #[.val (.int p0), .val (.int p1), .val (.int p2), .val (.int (3 : Int32)), .val (.int (1 : Int32)), .val (.int x5), .val (.int x6), .val (.int x7), .val (.int x8), .val (.int x9), .val (.int x10), .val (.ref b167), .val (.ref b175), .val (.ref b179), .unset, .unset, .unset] [(.int x8), (.int (4 : Int32)), (.ref b179)])) rfl rfl (hb hby at_198)
      have f190_1863 := f188_1848.wr W189 g_b179
      have f190_1864 := f188_1849.wr W189
      have f190_1865 := Avf.other f188_1850 W189 ne_b167_b179
      have f190_1866 := f188_1851.wr W189
      have f190_1867 := Avf.other f188_1852 W189 ne_b175_b179
      have f190_1868 := f188_1853.wr W189
      have Zs190 : n0 ≤ h189.size := by rw [W189.size]; exact Zs188
      refine Go.by st189 ?_
      show Go p.tables e below _ (T189.setTop (mkF m 199 #[.val (.int p0), .val (.int p1), .val (.int p2), .val (.int (3 : Int32)), .val (.int (1 : Int32)), .val (.int x5), .val (.int x6), .val (.int x7), .val (.int x8), .val (.int x9), .val (.int x10), .val (.ref b167), .val (.ref b175), .val (.ref b179), .unset, .unset, .unset] []))
      refine Go.by (fun _ => XS.iload X189.here hx rfl (hb hby at_199) rfl) ?_
      show Go p.tables e below _ (T189.setTop (mkF m 201 #[.val (.int p0), .val (.int p1), .val (.int p2), .val (.int (3 : Int32)), .val (.int (1 : Int32)), .val (.int x5), .val (.int x6), .val (.int x7), .val (.int x8), .val (.int x9), .val (.int x10), .val (.ref b167), .val (.ref b175), .val (.ref b179), .unset, .unset, .unset] [(.int (1 : Int32))]))
      refine Go.by (fun _ => XS.iconst X189.here hx rfl (hb hby at_201)) ?_
      refine Go.by (fun _ => XS.icmpYes X189.here hx rfl (pc0 := 202) (pc' := 213) rfl (hb hby at_202) rfl (flt (by decide)).2.2.2 (by decide) (by decide)) ?_
      show Go p.tables e below _ (T189.setTop (mkF m 213 #[.val (.int p0), .val (.int p1), .val (.int p2), .val (.int (3 : Int32)), .val (.int (1 : Int32)), .val (.int x5), .val (.int x6), .val (.int x7), .val (.int x8), .val (.int x9), .val (.int x10), .val (.ref b167), .val (.ref b175), .val (.ref b179), .unset, .unset, .unset] []))
      refine Go.by (fun _ => XS.iload X189.here hx rfl (hb hby at_213) rfl) ?_
      refine Go.by (fun _ => XS.iconst X189.here hx rfl (hb hby at_215)) ?_
      refine Go.by (fun _ => XS.icmpYes X189.here hx rfl (pc0 := 216) (pc' := 227) rfl (hb hby at_216) rfl (flt (by decide)).2.2.2 (by decide) (by decide)) ?_
      show Go p.tables e below _ (T189.setTop (mkF m 227 #[.val (.int p0), .val (.int p1), .val (.int p2), .val (.int (3 : Int32)), .val (.int (1 : Int32)), .val (.int x5), .val (.int x6), .val (.int x7), .val (.int x8), .val (.int x9), .val (.int x10), .val (.ref b167), .val (.ref b175), .val (.ref b179), .unset, .unset, .unset] []))
      have Vc11 := Avf.cong f190_1865 (g := (fun i => (.int ((c3 x5 x6 x7) i)))) (fun i hi => by
        match i, hi with
        | 0, _ => exact congrArg Value.int (own_nc2 b_x5)
        | 1, _ => exact congrArg Value.int (own_nc2 b_x6)
        | 2, _ => exact congrArg Value.int (own_nc2 b_x7))
      have Vc12 := Avf.cong f190_1867 (g := (fun i => (.int ((c3 x8 x9 x10) i)))) (fun i hi => by
        match i, hi with
        | 0, _ => exact congrArg Value.int (own_nc2 b_x8))
      have Vc13 := Avf.cong V189 (g := (fun i => (.int ((c7 3 (c3 x5 x6 x7) (c3 x8 x9 x10)) i)))) (fun i hi => by
        match i, hi with
        | 0, _ => exact congrArg Value.int (own_nc2 b_x5)
        | 1, _ => exact congrArg Value.int (own_nc2 b_x6)
        | 2, _ => exact congrArg Value.int (own_nc2 b_x7)
        | 3, _ => exact congrArg Value.int (show nar .char (47 : Int32) = 47 from rfl)
        | 4, _ => exact congrArg Value.int (own_nc2 b_x8))
      exact J _ _ 3 1 _ _ _ _ _ _ _ _ rfl rfl (by decide) (X189.more (by decide) (by decide)) Zs190 f190_1863 Vc11 Vc12 Vc13
    · skip
      refine Go.by (fun _ => XS.iloadN X0.here hx rfl (hb hby at_78) rfl) ?_
      obtain ⟨T192, h192, kc192, b192, X192, g192, E192, A192, V192, st192⟩ := X0.newP hx hZ (tw hw 1 rfl) (g := (mkF m 79 #[.val (.int p0), .val (.int p1), .val (.int p2), .val (.int (3 : Int32)), .val (.int (2 : Int32)), .val (.int x5), .val (.int x6), .val (.int x7), .val (.int x8), .val (.int x9), .val (.int x10), .unset, .unset, .unset, .unset, .unset, .unset] [(.int (3 : Int32))])) rfl (hb hby at_79) rfl (by decide) (sz := 3) (cap := 3) (k' := 1) (n' := 3) rfl (Nat.le_refl _) (by decide) rfl rfl (by decide) (by decide) (ad := "[C") (by decide)
      have g_b192 : n0 ≤ b192 := by rw [g192]; exact Z0
      have f193_1901 := O0.ext E192
      have Zs193 : n0 ≤ h192.size := Nat.le_trans Z0 E192.1
      refine Go.by st192 ?_
      show Go p.tables e below _ (T192.setTop (mkF m 81 #[.val (.int p0), .val (.int p1), .val (.int p2), .val (.int (3 : Int32)), .val (.int (2 : Int32)), .val (.int x5), .val (.int x6), .val (.int x7), .val (.int x8), .val (.int x9), .val (.int x10), .unset, .unset, .unset, .unset, .unset, .unset] [(.ref b192)]))
      refine Go.by (fun _ => XS.astore X192.here hx rfl (hb hby at_81) rfl rfl (l' := #[.val (.int p0), .val (.int p1), .val (.int p2), .val (.int (3 : Int32)), .val (.int (2 : Int32)), .val (.int x5), .val (.int x6), .val (.int x7), .val (.int x8), .val (.int x9), .val (.int x10), .val (.ref b192), .unset, .unset, .unset, .unset, .unset]) rfl) ?_
      show Go p.tables e below _ (T192.setTop (mkF m 83 #[.val (.int p0), .val (.int p1), .val (.int p2), .val (.int (3 : Int32)), .val (.int (2 : Int32)), .val (.int x5), .val (.int x6), .val (.int x7), .val (.int x8), .val (.int x9), .val (.int x10), .val (.ref b192), .unset, .unset, .unset, .unset, .unset] []))
      refine Go.by (fun _ => XS.aload X192.here hx rfl (hb hby at_83) rfl rfl) ?_
      refine Go.by (fun _ => XS.iconst X192.here hx rfl (hb hby at_85)) ?_
      show Go p.tables e below _ (T192.setTop (mkF m 86 #[.val (.int p0), .val (.int p1), .val (.int p2), .val (.int (3 : Int32)), .val (.int (2 : Int32)), .val (.int x5), .val (.int x6), .val (.int x7), .val (.int x8), .val (.int x9), .val (.int x10), .val (.ref b192), .unset, .unset, .unset, .unset, .unset] [(.int (0 : Int32)), (.ref b192)]))
      refine Go.by (fun _ => XS.iload X192.here hx rfl (hb hby at_86) rfl) ?_
      obtain ⟨T194, h194, X194, W194, V194, st194⟩ := X192.stC hx hZ V192 g_b192 (by decide) (i := 0) rfl (by decide) (g := (mkF m 88 #[.val (.int p0), .val (.int p1), .val (.int p2), .val (.int (3 : Int32)), .val (.int (2 : Int32)), .val (.int x5), .val (.int x6), .val (.int x7), .val (.int x8), .val (.int x9), .val (.int x10), .val (.ref b192), .unset, .unset, .unset, .unset, .unset] [(.int x5), (.int (0 : Int32)), (.ref b192)])) rfl rfl (hb hby at_88)
      have f195_1912 := f193_1901.wr W194 g_b192
      have f195_1913 := A192.wr W194
      have Zs195 : n0 ≤ h194.size := by rw [W194.size]; exact Zs193
      refine Go.by st194 ?_
      show Go p.tables e below _ (T194.setTop (mkF m 89 #[.val (.int p0), .val (.int p1), .val (.int p2), .val (.int (3 : Int32)), .val (.int (2 : Int32)), .val (.int x5), .val (.int x6), .val (.int x7), .val (.int x8), .val (.int x9), .val (.int x10), .val (.ref b192), .unset, .unset, .unset, .unset, .unset] []))
      refine Go.by (fun _ => XS.iloadN X194.here hx rfl (hb hby at_89) rfl) ?_
      refine Go.by (fun _ => XS.iconst X194.here hx rfl (hb hby at_90)) ?_
      refine Go.by (fun _ => XS.icmpNo X194.here hx rfl (hb hby at_91) rfl (tlt (by decide)).2.2.2) ?_
      show Go p.tables e below _ (T194.setTop (mkF m 94 #[.val (.int p0), .val (.int p1), .val (.int p2), .val (.int (3 : Int32)), .val (.int (2 : Int32)), .val (.int x5), .val (.int x6), .val (.int x7), .val (.int x8), .val (.int x9), .val (.int x10), .val (.ref b192), .unset, .unset, .unset, .unset, .unset] []))
      refine Go.by (fun _ => XS.aload X194.here hx rfl (hb hby at_94) rfl rfl) ?_
      refine Go.by (fun _ => XS.iconst X194.here hx rfl (hb hby at_96)) ?_
      refine Go.by (fun _ => XS.iload X194.here hx rfl (hb hby at_97) rfl) ?_
      obtain ⟨T196, h196, X196, W196, V196, st196⟩ := X194.stC hx hZ V194 g_b192 (by decide) (i := 1) rfl (by decide) (g := (mkF m 99 #[.val (.int p0), .val (.int p1), .val (.int p2), .val (.int (3 : Int32)), .val (.int (2 : Int32)), .val (.int x5), .val (.int x6), .val (.int x7), .val (.int x8), .val (.int x9), .val (.int x10), .val (.ref b192), .unset, .unset, .unset, .unset, .unset] [(.int x6), (.int (1 : Int32)), (.ref b192)])) rfl rfl (hb hby at_99)
      have f197_1925 := f195_1912.wr W196 g_b192
      have f197_1926 := f195_1913.wr W196
      have Zs197 : n0 ≤ h196.size := by rw [W196.size]; exact Zs195
      refine Go.by st196 ?_
      show Go p.tables e below _ (T196.setTop (mkF m 100 #[.val (.int p0), .val (.int p1), .val (.int p2), .val (.int (3 : Int32)), .val (.int (2 : Int32)), .val (.int x5), .val (.int x6), .val (.int x7), .val (.int x8), .val (.int x9), .val (.int x10), .val (.ref b192), .unset, .unset, .unset, .unset, .unset] []))
      refine Go.by (fun _ => XS.iloadN X196.here hx rfl (hb hby at_100) rfl) ?_
      refine Go.by (fun _ => XS.iconst X196.here hx rfl (hb hby at_101)) ?_
      refine Go.by (fun _ => XS.icmpNo X196.here hx rfl (hb hby at_102) rfl (tlt (by decide)).2.2.2) ?_
      show Go p.tables e below _ (T196.setTop (mkF m 105 #[.val (.int p0), .val (.int p1), .val (.int p2), .val (.int (3 : Int32)), .val (.int (2 : Int32)), .val (.int x5), .val (.int x6), .val (.int x7), .val (.int x8), .val (.int x9), .val (.int x10), .val (.ref b192), .unset, .unset, .unset, .unset, .unset] []))
      refine Go.by (fun _ => XS.aload X196.here hx rfl (hb hby at_105) rfl rfl) ?_
      refine Go.by (fun _ => XS.iconst X196.here hx rfl (hb hby at_107)) ?_
      refine Go.by (fun _ => XS.iload X196.here hx rfl (hb hby at_108) rfl) ?_
      obtain ⟨T198, h198, X198, W198, V198, st198⟩ := X196.stC hx hZ V196 g_b192 (by decide) (i := 2) rfl (by decide) (g := (mkF m 110 #[.val (.int p0), .val (.int p1), .val (.int p2), .val (.int (3 : Int32)), .val (.int (2 : Int32)), .val (.int x5), .val (.int x6), .val (.int x7), .val (.int x8), .val (.int x9), .val (.int x10), .val (.ref b192), .unset, .unset, .unset, .unset, .unset] [(.int x7), (.int (2 : Int32)), (.ref b192)])) rfl rfl (hb hby at_110)
      have f199_1938 := f197_1925.wr W198 g_b192
      have f199_1939 := f197_1926.wr W198
      have Zs199 : n0 ≤ h198.size := by rw [W198.size]; exact Zs197
      refine Go.by st198 ?_
      show Go p.tables e below _ (T198.setTop (mkF m 111 #[.val (.int p0), .val (.int p1), .val (.int p2), .val (.int (3 : Int32)), .val (.int (2 : Int32)), .val (.int x5), .val (.int x6), .val (.int x7), .val (.int x8), .val (.int x9), .val (.int x10), .val (.ref b192), .unset, .unset, .unset, .unset, .unset] []))
      refine Go.by (fun _ => XS.iload X198.here hx rfl (hb hby at_111) rfl) ?_
      obtain ⟨T200, h200, kc200, b200, X200, g200, E200, A200, V200, st200⟩ := X198.newP hx hZ (tw hw 1 rfl) (g := (mkF m 113 #[.val (.int p0), .val (.int p1), .val (.int p2), .val (.int (3 : Int32)), .val (.int (2 : Int32)), .val (.int x5), .val (.int x6), .val (.int x7), .val (.int x8), .val (.int x9), .val (.int x10), .val (.ref b192), .unset, .unset, .unset, .unset, .unset] [(.int (2 : Int32))])) rfl (hb hby at_113) rfl (by decide) (sz := 2) (cap := 2) (k' := 2) (n' := 5) rfl (Nat.le_refl _) (by decide) rfl rfl (by decide) (by decide) (ad := "[C") (by decide)
      have g_b200 : n0 ≤ b200 := by rw [g200]; exact Zs199
      have ne_b192_b200 : b192 ≠ b200 := Nat.ne_of_lt (by rw [g200]; exact f199_1939.lt)
      have f201_1947 := f199_1938.ext E200
      have f201_1948 := f199_1939.ext E200
      have f201_1949 := Avf.ext V198 E200
      have Zs201 : n0 ≤ h200.size := Nat.le_trans Zs199 E200.1
      refine Go.by st200 ?_
      show Go p.tables e below _ (T200.setTop (mkF m 115 #[.val (.int p0), .val (.int p1), .val (.int p2), .val (.int (3 : Int32)), .val (.int (2 : Int32)), .val (.int x5), .val (.int x6), .val (.int x7), .val (.int x8), .val (.int x9), .val (.int x10), .val (.ref b192), .unset, .unset, .unset, .unset, .unset] [(.ref b200)]))
      refine Go.by (fun _ => XS.astore X200.here hx rfl (hb hby at_115) rfl rfl (l' := #[.val (.int p0), .val (.int p1), .val (.int p2), .val (.int (3 : Int32)), .val (.int (2 : Int32)), .val (.int x5), .val (.int x6), .val (.int x7), .val (.int x8), .val (.int x9), .val (.int x10), .val (.ref b192), .val (.ref b200), .unset, .unset, .unset, .unset]) rfl) ?_
      show Go p.tables e below _ (T200.setTop (mkF m 117 #[.val (.int p0), .val (.int p1), .val (.int p2), .val (.int (3 : Int32)), .val (.int (2 : Int32)), .val (.int x5), .val (.int x6), .val (.int x7), .val (.int x8), .val (.int x9), .val (.int x10), .val (.ref b192), .val (.ref b200), .unset, .unset, .unset, .unset] []))
      refine Go.by (fun _ => XS.aload X200.here hx rfl (hb hby at_117) rfl rfl) ?_
      refine Go.by (fun _ => XS.iconst X200.here hx rfl (hb hby at_119)) ?_
      refine Go.by (fun _ => XS.iload X200.here hx rfl (hb hby at_120) rfl) ?_
      obtain ⟨T202, h202, X202, W202, V202, st202⟩ := X200.stC hx hZ V200 g_b200 (by decide) (i := 0) rfl (by decide) (g := (mkF m 122 #[.val (.int p0), .val (.int p1), .val (.int p2), .val (.int (3 : Int32)), .val (.int (2 : Int32)), .val (.int x5), .val (.int x6), .val (.int x7), .val (.int x8), .val (.int x9), .val (.int x10), .val (.ref b192), .val (.ref b200), .unset, .unset, .unset, .unset] [(.int x8), (.int (0 : Int32)), (.ref b200)])) rfl rfl (hb hby at_122)
      have f203_1959 := f201_1947.wr W202 g_b200
      have f203_1960 := f201_1948.wr W202
      have f203_1961 := Avf.other f201_1949 W202 ne_b192_b200
      have f203_1962 := A200.wr W202
      have Zs203 : n0 ≤ h202.size := by rw [W202.size]; exact Zs201
      refine Go.by st202 ?_
      show Go p.tables e below _ (T202.setTop (mkF m 123 #[.val (.int p0), .val (.int p1), .val (.int p2), .val (.int (3 : Int32)), .val (.int (2 : Int32)), .val (.int x5), .val (.int x6), .val (.int x7), .val (.int x8), .val (.int x9), .val (.int x10), .val (.ref b192), .val (.ref b200), .unset, .unset, .unset, .unset] []))
      refine Go.by (fun _ => XS.iload X202.here hx rfl (hb hby at_123) rfl) ?_
      refine Go.by (fun _ => XS.iconst X202.here hx rfl (hb hby at_125)) ?_
      refine Go.by (fun _ => XS.icmpNo X202.here hx rfl (hb hby at_126) rfl (tlt (by decide)).2.2.2) ?_
      show Go p.tables e below _ (T202.setTop (mkF m 129 #[.val (.int p0), .val (.int p1), .val (.int p2), .val (.int (3 : Int32)), .val (.int (2 : Int32)), .val (.int x5), .val (.int x6), .val (.int x7), .val (.int x8), .val (.int x9), .val (.int x10), .val (.ref b192), .val (.ref b200), .unset, .unset, .unset, .unset] []))
      refine Go.by (fun _ => XS.aload X202.here hx rfl (hb hby at_129) rfl rfl) ?_
      show Go p.tables e below _ (T202.setTop (mkF m 131 #[.val (.int p0), .val (.int p1), .val (.int p2), .val (.int (3 : Int32)), .val (.int (2 : Int32)), .val (.int x5), .val (.int x6), .val (.int x7), .val (.int x8), .val (.int x9), .val (.int x10), .val (.ref b192), .val (.ref b200), .unset, .unset, .unset, .unset] [(.ref b200)]))
      refine Go.by (fun _ => XS.iconst X202.here hx rfl (hb hby at_131)) ?_
      refine Go.by (fun _ => XS.iload X202.here hx rfl (hb hby at_132) rfl) ?_
      obtain ⟨T204, h204, X204, W204, V204, st204⟩ := X202.stC hx hZ V202 g_b200 (by decide) (i := 1) rfl (by decide) (g := (mkF m 134 #[.val (.int p0), .val (.int p1), .val (.int p2), .val (.int (3 : Int32)), .val (.int (2 : Int32)), .val (.int x5), .val (.int x6), .val (.int x7), .val (.int x8), .val (.int x9), .val (.int x10), .val (.ref b192), .val (.ref b200), .unset, .unset, .unset, .unset] [(.int x9), (.int (1 : Int32)), (.ref b200)])) rfl rfl (hb hby at_134)
      have f205_1975 := f203_1959.wr W204 g_b200
      have f205_1976 := f203_1960.wr W204
      have f205_1977 := Avf.other f203_1961 W204 ne_b192_b200
      have f205_1978 := f203_1962.wr W204
      have Zs205 : n0 ≤ h204.size := by rw [W204.size]; exact Zs203
      refine Go.by st204 ?_
      show Go p.tables e below _ (T204.setTop (mkF m 135 #[.val (.int p0), .val (.int p1), .val (.int p2), .val (.int (3 : Int32)), .val (.int (2 : Int32)), .val (.int x5), .val (.int x6), .val (.int x7), .val (.int x8), .val (.int x9), .val (.int x10), .val (.ref b192), .val (.ref b200), .unset, .unset, .unset, .unset] []))
      refine Go.by (fun _ => XS.iload X204.here hx rfl (hb hby at_135) rfl) ?_
      refine Go.by (fun _ => XS.iconst X204.here hx rfl (hb hby at_137)) ?_
      refine Go.by (fun _ => XS.icmpYes X204.here hx rfl (pc0 := 138) (pc' := 147) rfl (hb hby at_138) rfl (flt (by decide)).2.2.2 (by decide) (by decide)) ?_
      show Go p.tables e below _ (T204.setTop (mkF m 147 #[.val (.int p0), .val (.int p1), .val (.int p2), .val (.int (3 : Int32)), .val (.int (2 : Int32)), .val (.int x5), .val (.int x6), .val (.int x7), .val (.int x8), .val (.int x9), .val (.int x10), .val (.ref b192), .val (.ref b200), .unset, .unset, .unset, .unset] []))
      refine Go.by (fun _ => XS.iloadN X204.here hx rfl (hb hby at_147) rfl) ?_
      refine Go.by (fun _ => XS.iconst X204.here hx rfl (hb hby at_148)) ?_
      refine Go.by (fun _ => XS.iadd X204.here hx rfl (hb hby at_149) rfl) ?_
      show Go p.tables e below _ (T204.setTop (mkF m 150 #[.val (.int p0), .val (.int p1), .val (.int p2), .val (.int (3 : Int32)), .val (.int (2 : Int32)), .val (.int x5), .val (.int x6), .val (.int x7), .val (.int x8), .val (.int x9), .val (.int x10), .val (.ref b192), .val (.ref b200), .unset, .unset, .unset, .unset] [(.int (4 : Int32))]))
      refine Go.by (fun _ => XS.iload X204.here hx rfl (hb hby at_150) rfl) ?_
      refine Go.by (fun _ => XS.iadd X204.here hx rfl (hb hby at_152) rfl) ?_
      obtain ⟨T206, h206, kc206, b206, X206, g206, E206, A206, V206, st206⟩ := X204.newP hx hZ (tw hw 1 rfl) (g := (mkF m 153 #[.val (.int p0), .val (.int p1), .val (.int p2), .val (.int (3 : Int32)), .val (.int (2 : Int32)), .val (.int x5), .val (.int x6), .val (.int x7), .val (.int x8), .val (.int x9), .val (.int x10), .val (.ref b192), .val (.ref b200), .unset, .unset, .unset, .unset] [(.int (6 : Int32))])) rfl (hb hby at_153) rfl (by decide) (sz := 6) (cap := 6) (k' := 3) (n' := 11) rfl (Nat.le_refl _) (by decide) rfl rfl (by decide) (by decide) (ad := "[C") (by decide)
      have g_b206 : n0 ≤ b206 := by rw [g206]; exact Zs205
      have ne_b192_b206 : b192 ≠ b206 := Nat.ne_of_lt (by rw [g206]; exact f205_1976.lt)
      have ne_b200_b206 : b200 ≠ b206 := Nat.ne_of_lt (by rw [g206]; exact f205_1978.lt)
      have f207_1996 := f205_1975.ext E206
      have f207_1997 := f205_1976.ext E206
      have f207_1998 := Avf.ext f205_1977 E206
      have f207_1999 := f205_1978.ext E206
      have f207_2000 := Avf.ext V204 E206
      have Zs207 : n0 ≤ h206.size := Nat.le_trans Zs205 E206.1
      refine Go.by st206 ?_
      show Go p.tables e below _ (T206.setTop (mkF m 155 #[.val (.int p0), .val (.int p1), .val (.int p2), .val (.int (3 : Int32)), .val (.int (2 : Int32)), .val (.int x5), .val (.int x6), .val (.int x7), .val (.int x8), .val (.int x9), .val (.int x10), .val (.ref b192), .val (.ref b200), .unset, .unset, .unset, .unset] [(.ref b206)]))
      refine Go.by (fun _ => XS.astore X206.here hx rfl (hb hby at_155) rfl rfl (l' := #[.val (.int p0), .val (.int p1), .val (.int p2), .val (.int (3 : Int32)), .val (.int (2 : Int32)), .val (.int x5), .val (.int x6), .val (.int x7), .val (.int x8), .val (.int x9), .val (.int x10), .val (.ref b192), .val (.ref b200), .val (.ref b206), .unset, .unset, .unset]) rfl) ?_
      show Go p.tables e below _ (T206.setTop (mkF m 157 #[.val (.int p0), .val (.int p1), .val (.int p2), .val (.int (3 : Int32)), .val (.int (2 : Int32)), .val (.int x5), .val (.int x6), .val (.int x7), .val (.int x8), .val (.int x9), .val (.int x10), .val (.ref b192), .val (.ref b200), .val (.ref b206), .unset, .unset, .unset] []))
      refine Go.by (fun _ => XS.aload X206.here hx rfl (hb hby at_157) rfl rfl) ?_
      refine Go.by (fun _ => XS.iconst X206.here hx rfl (hb hby at_159)) ?_
      refine Go.by (fun _ => XS.iload X206.here hx rfl (hb hby at_160) rfl) ?_
      obtain ⟨T208, h208, X208, W208, V208, st208⟩ := X206.stC hx hZ V206 g_b206 (by decide) (i := 0) rfl (by decide) (g := (mkF m 162 #[.val (.int p0), .val (.int p1), .val (.int p2), .val (.int (3 : Int32)), .val (.int (2 : Int32)), .val (.int x5), .val (.int x6), .val (.int x7), .val (.int x8), .val (.int x9), .val (.int x10), .val (.ref b192), .val (.ref b200), .val (.ref b206), .unset, .unset, .unset] [(.int x5), (.int (0 : Int32)), (.ref b206)])) rfl rfl (hb hby at_162)
      have f209_2010 := f207_1996.wr W208 g_b206
      have f209_2011 := f207_1997.wr W208
      have f209_2012 := Avf.other f207_1998 W208 ne_b192_b206
      have f209_2013 := f207_1999.wr W208
      have f209_2014 := Avf.other f207_2000 W208 ne_b200_b206
      have f209_2015 := A206.wr W208
      have Zs209 : n0 ≤ h208.size := by rw [W208.size]; exact Zs207
      refine Go.by st208 ?_
      show Go p.tables e below _ (T208.setTop (mkF m 163 #[.val (.int p0), .val (.int p1), .val (.int p2), .val (.int (3 : Int32)), .val (.int (2 : Int32)), .val (.int x5), .val (.int x6), .val (.int x7), .val (.int x8), .val (.int x9), .val (.int x10), .val (.ref b192), .val (.ref b200), .val (.ref b206), .unset, .unset, .unset] []))
      refine Go.by (fun _ => XS.iloadN X208.here hx rfl (hb hby at_163) rfl) ?_
      refine Go.by (fun _ => XS.iconst X208.here hx rfl (hb hby at_164)) ?_
      refine Go.by (fun _ => XS.icmpNo X208.here hx rfl (hb hby at_165) rfl (tlt (by decide)).2.2.2) ?_
      show Go p.tables e below _ (T208.setTop (mkF m 168 #[.val (.int p0), .val (.int p1), .val (.int p2), .val (.int (3 : Int32)), .val (.int (2 : Int32)), .val (.int x5), .val (.int x6), .val (.int x7), .val (.int x8), .val (.int x9), .val (.int x10), .val (.ref b192), .val (.ref b200), .val (.ref b206), .unset, .unset, .unset] []))
      refine Go.by (fun _ => XS.aload X208.here hx rfl (hb hby at_168) rfl rfl) ?_
      refine Go.by (fun _ => XS.iconst X208.here hx rfl (hb hby at_170)) ?_
      refine Go.by (fun _ => XS.iload X208.here hx rfl (hb hby at_171) rfl) ?_
      obtain ⟨T210, h210, X210, W210, V210, st210⟩ := X208.stC hx hZ V208 g_b206 (by decide) (i := 1) rfl (by decide) (g := (mkF m 173 #[.val (.int p0), .val (.int p1), .val (.int p2), .val (.int (3 : Int32)), .val (.int (2 : Int32)), .val (.int x5), .val (.int x6), .val (.int x7), .val (.int x8), .val (.int x9), .val (.int x10), .val (.ref b192), .val (.ref b200), .val (.ref b206), .unset, .unset, .unset] [(.int x6), (.int (1 : Int32)), (.ref b206)])) rfl rfl (hb hby at_173)
      have f211_2027 := f209_2010.wr W210 g_b206
      have f211_2028 := f209_2011.wr W210
      have f211_2029 := Avf.other f209_2012 W210 ne_b192_b206
      have f211_2030 := f209_2013.wr W210
      have f211_2031 := Avf.other f209_2014 W210 ne_b200_b206
      have f211_2032 := f209_2015.wr W210
      have Zs211 : n0 ≤ h210.size := by rw [W210.size]; exact Zs209
      refine Go.by st210 ?_
      show Go p.tables e below _ (T210.setTop (mkF m 174 #[.val (.int p0), .val (.int p1), .val (.int p2), .val (.int (3 : Int32)), .val (.int (2 : Int32)), .val (.int x5), .val (.int x6), .val (.int x7), .val (.int x8), .val (.int x9), .val (.int x10), .val (.ref b192), .val (.ref b200), .val (.ref b206), .unset, .unset, .unset] []))
      refine Go.by (fun _ => XS.iloadN X210.here hx rfl (hb hby at_174) rfl) ?_
      refine Go.by (fun _ => XS.iconst X210.here hx rfl (hb hby at_175)) ?_
      show Go p.tables e below _ (T210.setTop (mkF m 176 #[.val (.int p0), .val (.int p1), .val (.int p2), .val (.int (3 : Int32)), .val (.int (2 : Int32)), .val (.int x5), .val (.int x6), .val (.int x7), .val (.int x8), .val (.int x9), .val (.int x10), .val (.ref b192), .val (.ref b200), .val (.ref b206), .unset, .unset, .unset] [(.int (2 : Int32)), (.int (3 : Int32))]))
      refine Go.by (fun _ => XS.icmpNo X210.here hx rfl (hb hby at_176) rfl (tlt (by decide)).2.2.2) ?_
      show Go p.tables e below _ (T210.setTop (mkF m 179 #[.val (.int p0), .val (.int p1), .val (.int p2), .val (.int (3 : Int32)), .val (.int (2 : Int32)), .val (.int x5), .val (.int x6), .val (.int x7), .val (.int x8), .val (.int x9), .val (.int x10), .val (.ref b192), .val (.ref b200), .val (.ref b206), .unset, .unset, .unset] []))
      refine Go.by (fun _ => XS.aload X210.here hx rfl (hb hby at_179) rfl rfl) ?_
      refine Go.by (fun _ => XS.iconst X210.here hx rfl (hb hby at_181)) ?_
      refine Go.by (fun _ => XS.iload X210.here hx rfl (hb hby at_182) rfl) ?_
      obtain ⟨T212, h212, X212, W212, V212, st212⟩ := X210.stC hx hZ V210 g_b206 (by decide) (i := 2) rfl (by decide) (g := (mkF m 184 #[.val (.int p0), .val (.int p1), .val (.int p2), .val (.int (3 : Int32)), .val (.int (2 : Int32)), .val (.int x5), .val (.int x6), .val (.int x7), .val (.int x8), .val (.int x9), .val (.int x10), .val (.ref b192), .val (.ref b200), .val (.ref b206), .unset, .unset, .unset] [(.int x7), (.int (2 : Int32)), (.ref b206)])) rfl rfl (hb hby at_184)
      have f213_2045 := f211_2027.wr W212 g_b206
      have f213_2046 := f211_2028.wr W212
      have f213_2047 := Avf.other f211_2029 W212 ne_b192_b206
      have f213_2048 := f211_2030.wr W212
      have f213_2049 := Avf.other f211_2031 W212 ne_b200_b206
      have f213_2050 := f211_2032.wr W212
      have Zs213 : n0 ≤ h212.size := by rw [W212.size]; exact Zs211
      refine Go.by st212 ?_
      show Go p.tables e below _ (T212.setTop (mkF m 185 #[.val (.int p0), .val (.int p1), .val (.int p2), .val (.int (3 : Int32)), .val (.int (2 : Int32)), .val (.int x5), .val (.int x6), .val (.int x7), .val (.int x8), .val (.int x9), .val (.int x10), .val (.ref b192), .val (.ref b200), .val (.ref b206), .unset, .unset, .unset] []))
      refine Go.by (fun _ => XS.aload X212.here hx rfl (hb hby at_185) rfl rfl) ?_
      refine Go.by (fun _ => XS.iloadN X212.here hx rfl (hb hby at_187) rfl) ?_
      refine Go.by (fun _ => XS.bipush X212.here hx rfl (hb hby at_188)) ?_
      obtain ⟨T214, h214, X214, W214, V214, st214⟩ := X212.stC hx hZ V212 g_b206 (by decide) (i := 3) rfl (by decide) (g := (mkF m 190 #[.val (.int p0), .val (.int p1), .val (.int p2), .val (.int (3 : Int32)), .val (.int (2 : Int32)), .val (.int x5), .val (.int x6), .val (.int x7), .val (.int x8), .val (.int x9), .val (.int x10), .val (.ref b192), .val (.ref b200), .val (.ref b206), .unset, .unset, .unset] [(.int (47 : Int32)), (.int (3 : Int32)), (.ref b206)])) rfl rfl (hb hby at_190)
      have f215_2058 := f213_2045.wr W214 g_b206
      have f215_2059 := f213_2046.wr W214
      have f215_2060 := Avf.other f213_2047 W214 ne_b192_b206
      have f215_2061 := f213_2048.wr W214
      have f215_2062 := Avf.other f213_2049 W214 ne_b200_b206
      have f215_2063 := f213_2050.wr W214
      have Zs215 : n0 ≤ h214.size := by rw [W214.size]; exact Zs213
      refine Go.by st214 ?_
      show Go p.tables e below _ (T214.setTop (mkF m 191 #[.val (.int p0), .val (.int p1), .val (.int p2), .val (.int (3 : Int32)), .val (.int (2 : Int32)), .val (.int x5), .val (.int x6), .val (.int x7), .val (.int x8), .val (.int x9), .val (.int x10), .val (.ref b192), .val (.ref b200), .val (.ref b206), .unset, .unset, .unset] []))
      refine Go.by (fun _ => XS.aload X214.here hx rfl (hb hby at_191) rfl rfl) ?_
      refine Go.by (fun _ => XS.iloadN X214.here hx rfl (hb hby at_193) rfl) ?_
      refine Go.by (fun _ => XS.iconst X214.here hx rfl (hb hby at_194)) ?_
      refine Go.by (fun _ => XS.iadd X214.here hx rfl (hb hby at_195) rfl) ?_
      refine Go.by (fun _ => XS.iload X214.here hx rfl (hb hby at_196) rfl) ?_
      obtain ⟨T216, h216, X216, W216, V216, st216⟩ := X214.stC hx hZ V214 g_b206 (by decide) (i := 4) rfl (by decide) (g := (mkF m 198 #[.val (.int p0), .val (.int p1), .val (.int p2), .val (.int (3 : Int32)), .val (.int (2 : Int32)), .val (.int x5), .val (.int x6), .val (.int x7), .val (.int x8), .val (.int x9), .val (.int x10), .val (.ref b192), .val (.ref b200), .val (.ref b206), .unset, .unset, .unset] [(.int x8), (.int (4 : Int32)), (.ref b206)])) rfl rfl (hb hby at_198)
      have f217_2073 := f215_2058.wr W216 g_b206
      have f217_2074 := f215_2059.wr W216
      have f217_2075 := Avf.other f215_2060 W216 ne_b192_b206
      have f217_2076 := f215_2061.wr W216
      have f217_2077 := Avf.other f215_2062 W216 ne_b200_b206
      have f217_2078 := f215_2063.wr W216
      have Zs217 : n0 ≤ h216.size := by rw [W216.size]; exact Zs215
      refine Go.by st216 ?_
      show Go p.tables e below _ (T216.setTop (mkF m 199 #[.val (.int p0), .val (.int p1), .val (.int p2), .val (.int (3 : Int32)), .val (.int (2 : Int32)), .val (.int x5), .val (.int x6), .val (.int x7), .val (.int x8), .val (.int x9), .val (.int x10), .val (.ref b192), .val (.ref b200), .val (.ref b206), .unset, .unset, .unset] []))
      refine Go.by (fun _ => XS.iload X216.here hx rfl (hb hby at_199) rfl) ?_
      refine Go.by (fun _ => XS.iconst X216.here hx rfl (hb hby at_201)) ?_
      show Go p.tables e below _ (T216.setTop (mkF m 202 #[.val (.int p0), .val (.int p1), .val (.int p2), .val (.int (3 : Int32)), .val (.int (2 : Int32)), .val (.int x5), .val (.int x6), .val (.int x7), .val (.int x8), .val (.int x9), .val (.int x10), .val (.ref b192), .val (.ref b200), .val (.ref b206), .unset, .unset, .unset] [(.int (1 : Int32)), (.int (2 : Int32))]))
      refine Go.by (fun _ => XS.icmpNo X216.here hx rfl (hb hby at_202) rfl (tlt (by decide)).2.2.2) ?_
      show Go p.tables e below _ (T216.setTop (mkF m 205 #[.val (.int p0), .val (.int p1), .val (.int p2), .val (.int (3 : Int32)), .val (.int (2 : Int32)), .val (.int x5), .val (.int x6), .val (.int x7), .val (.int x8), .val (.int x9), .val (.int x10), .val (.ref b192), .val (.ref b200), .val (.ref b206), .unset, .unset, .unset] []))
      refine Go.by (fun _ => XS.aload X216.here hx rfl (hb hby at_205) rfl rfl) ?_
      refine Go.by (fun _ => XS.iloadN X216.here hx rfl (hb hby at_207) rfl) ?_
      refine Go.by (fun _ => XS.iconst X216.here hx rfl (hb hby at_208)) ?_
      refine Go.by (fun _ => XS.iadd X216.here hx rfl (hb hby at_209) rfl) ?_
      refine Go.by (fun _ => XS.iload X216.here hx rfl (hb hby at_210) rfl) ?_
      obtain ⟨T218, h218, X218, W218, V218, st218⟩ := X216.stC hx hZ V216 g_b206 (by decide) (i := 5) rfl (by decide) (g := (mkF m 212 #[.val (.int p0), .val (.int p1), .val (.int p2), .val (.int (3 : Int32)), .val (.int (2 : Int32)), .val (.int x5), .val (.int x6), .val (.int x7), .val (.int x8), .val (.int x9), .val (.int x10), .val (.ref b192), .val (.ref b200), .val (.ref b206), .unset, .unset, .unset] [(.int x9), (.int (5 : Int32)), (.ref b206)])) rfl rfl (hb hby at_212)
      have f219_2093 := f217_2073.wr W218 g_b206
      have f219_2094 := f217_2074.wr W218
      have f219_2095 := Avf.other f217_2075 W218 ne_b192_b206
      have f219_2096 := f217_2076.wr W218
      have f219_2097 := Avf.other f217_2077 W218 ne_b200_b206
      have f219_2098 := f217_2078.wr W218
      have Zs219 : n0 ≤ h218.size := by rw [W218.size]; exact Zs217
      refine Go.by st218 ?_
      show Go p.tables e below _ (T218.setTop (mkF m 213 #[.val (.int p0), .val (.int p1), .val (.int p2), .val (.int (3 : Int32)), .val (.int (2 : Int32)), .val (.int x5), .val (.int x6), .val (.int x7), .val (.int x8), .val (.int x9), .val (.int x10), .val (.ref b192), .val (.ref b200), .val (.ref b206), .unset, .unset, .unset] []))
      refine Go.by (fun _ => XS.iload X218.here hx rfl (hb hby at_213) rfl) ?_
      refine Go.by (fun _ => XS.iconst X218.here hx rfl (hb hby at_215)) ?_
      show Go p.tables e below _ (T218.setTop (mkF m 216 #[.val (.int p0), .val (.int p1), .val (.int p2), .val (.int (3 : Int32)), .val (.int (2 : Int32)), .val (.int x5), .val (.int x6), .val (.int x7), .val (.int x8), .val (.int x9), .val (.int x10), .val (.ref b192), .val (.ref b200), .val (.ref b206), .unset, .unset, .unset] [(.int (2 : Int32)), (.int (2 : Int32))]))
      refine Go.by (fun _ => XS.icmpYes X218.here hx rfl (pc0 := 216) (pc' := 227) rfl (hb hby at_216) rfl (flt (by decide)).2.2.2 (by decide) (by decide)) ?_
      show Go p.tables e below _ (T218.setTop (mkF m 227 #[.val (.int p0), .val (.int p1), .val (.int p2), .val (.int (3 : Int32)), .val (.int (2 : Int32)), .val (.int x5), .val (.int x6), .val (.int x7), .val (.int x8), .val (.int x9), .val (.int x10), .val (.ref b192), .val (.ref b200), .val (.ref b206), .unset, .unset, .unset] []))
      have Vc11 := Avf.cong f219_2095 (g := (fun i => (.int ((c3 x5 x6 x7) i)))) (fun i hi => by
        match i, hi with
        | 0, _ => exact congrArg Value.int (own_nc2 b_x5)
        | 1, _ => exact congrArg Value.int (own_nc2 b_x6)
        | 2, _ => exact congrArg Value.int (own_nc2 b_x7))
      have Vc12 := Avf.cong f219_2097 (g := (fun i => (.int ((c3 x8 x9 x10) i)))) (fun i hi => by
        match i, hi with
        | 0, _ => exact congrArg Value.int (own_nc2 b_x8)
        | 1, _ => exact congrArg Value.int (own_nc2 b_x9))
      have Vc13 := Avf.cong V218 (g := (fun i => (.int ((c7 3 (c3 x5 x6 x7) (c3 x8 x9 x10)) i)))) (fun i hi => by
        match i, hi with
        | 0, _ => exact congrArg Value.int (own_nc2 b_x5)
        | 1, _ => exact congrArg Value.int (own_nc2 b_x6)
        | 2, _ => exact congrArg Value.int (own_nc2 b_x7)
        | 3, _ => exact congrArg Value.int (show nar .char (47 : Int32) = 47 from rfl)
        | 4, _ => exact congrArg Value.int (own_nc2 b_x8)
        | 5, _ => exact congrArg Value.int (own_nc2 b_x9))
      exact J _ _ 3 2 _ _ _ _ _ _ _ _ rfl rfl (by decide) (X218.more (by decide) (by decide)) Zs219 f219_2093 Vc11 Vc12 Vc13
    · skip
      refine Go.by (fun _ => XS.iloadN X0.here hx rfl (hb hby at_78) rfl) ?_
      obtain ⟨T221, h221, kc221, b221, X221, g221, E221, A221, V221, st221⟩ := X0.newP hx hZ (tw hw 1 rfl) (g := (mkF m 79 #[.val (.int p0), .val (.int p1), .val (.int p2), .val (.int (3 : Int32)), .val (.int (3 : Int32)), .val (.int x5), .val (.int x6), .val (.int x7), .val (.int x8), .val (.int x9), .val (.int x10), .unset, .unset, .unset, .unset, .unset, .unset] [(.int (3 : Int32))])) rfl (hb hby at_79) rfl (by decide) (sz := 3) (cap := 3) (k' := 1) (n' := 3) rfl (Nat.le_refl _) (by decide) rfl rfl (by decide) (by decide) (ad := "[C") (by decide)
      have g_b221 : n0 ≤ b221 := by rw [g221]; exact Z0
      have f222_2129 := O0.ext E221
      have Zs222 : n0 ≤ h221.size := Nat.le_trans Z0 E221.1
      refine Go.by st221 ?_
      show Go p.tables e below _ (T221.setTop (mkF m 81 #[.val (.int p0), .val (.int p1), .val (.int p2), .val (.int (3 : Int32)), .val (.int (3 : Int32)), .val (.int x5), .val (.int x6), .val (.int x7), .val (.int x8), .val (.int x9), .val (.int x10), .unset, .unset, .unset, .unset, .unset, .unset] [(.ref b221)]))
      refine Go.by (fun _ => XS.astore X221.here hx rfl (hb hby at_81) rfl rfl (l' := #[.val (.int p0), .val (.int p1), .val (.int p2), .val (.int (3 : Int32)), .val (.int (3 : Int32)), .val (.int x5), .val (.int x6), .val (.int x7), .val (.int x8), .val (.int x9), .val (.int x10), .val (.ref b221), .unset, .unset, .unset, .unset, .unset]) rfl) ?_
      show Go p.tables e below _ (T221.setTop (mkF m 83 #[.val (.int p0), .val (.int p1), .val (.int p2), .val (.int (3 : Int32)), .val (.int (3 : Int32)), .val (.int x5), .val (.int x6), .val (.int x7), .val (.int x8), .val (.int x9), .val (.int x10), .val (.ref b221), .unset, .unset, .unset, .unset, .unset] []))
      refine Go.by (fun _ => XS.aload X221.here hx rfl (hb hby at_83) rfl rfl) ?_
      refine Go.by (fun _ => XS.iconst X221.here hx rfl (hb hby at_85)) ?_
      refine Go.by (fun _ => XS.iload X221.here hx rfl (hb hby at_86) rfl) ?_
      obtain ⟨T223, h223, X223, W223, V223, st223⟩ := X221.stC hx hZ V221 g_b221 (by decide) (i := 0) rfl (by decide) (g := (mkF m 88 #[.val (.int p0), .val (.int p1), .val (.int p2), .val (.int (3 : Int32)), .val (.int (3 : Int32)), .val (.int x5), .val (.int x6), .val (.int x7), .val (.int x8), .val (.int x9), .val (.int x10), .val (.ref b221), .unset, .unset, .unset, .unset, .unset] [(.int x5), (.int (0 : Int32)), (.ref b221)])) rfl rfl (hb hby at_88)
      have f224_2139 := f222_2129.wr W223 g_b221
      have f224_2140 := A221.wr W223
      have Zs224 : n0 ≤ h223.size := by rw [W223.size]; exact Zs222
      refine Go.by st223 ?_
      show Go p.tables e below _ (T223.setTop (mkF m 89 #[.val (.int p0), .val (.int p1), .val (.int p2), .val (.int (3 : Int32)), .val (.int (3 : Int32)), .val (.int x5), .val (.int x6), .val (.int x7), .val (.int x8), .val (.int x9), .val (.int x10), .val (.ref b221), .unset, .unset, .unset, .unset, .unset] []))
      refine Go.by (fun _ => XS.iloadN X223.here hx rfl (hb hby at_89) rfl) ?_
      show Go p.tables e below _ (T223.setTop (mkF m 90 #[.val (.int p0), .val (.int p1), .val (.int p2), .val (.int (3 : Int32)), .val (.int (3 : Int32)), .val (.int x5), .val (.int x6), .val (.int x7), .val (.int x8), .val (.int x9), .val (.int x10), .val (.ref b221), .unset, .unset, .unset, .unset, .unset] [(.int (3 : Int32))]))
      refine Go.by (fun _ => XS.iconst X223.here hx rfl (hb hby at_90)) ?_
      refine Go.by (fun _ => XS.icmpNo X223.here hx rfl (hb hby at_91) rfl (tlt (by decide)).2.2.2) ?_
      show Go p.tables e below _ (T223.setTop (mkF m 94 #[.val (.int p0), .val (.int p1), .val (.int p2), .val (.int (3 : Int32)), .val (.int (3 : Int32)), .val (.int x5), .val (.int x6), .val (.int x7), .val (.int x8), .val (.int x9), .val (.int x10), .val (.ref b221), .unset, .unset, .unset, .unset, .unset] []))
      refine Go.by (fun _ => XS.aload X223.here hx rfl (hb hby at_94) rfl rfl) ?_
      refine Go.by (fun _ => XS.iconst X223.here hx rfl (hb hby at_96)) ?_
      refine Go.by (fun _ => XS.iload X223.here hx rfl (hb hby at_97) rfl) ?_
      obtain ⟨T225, h225, X225, W225, V225, st225⟩ := X223.stC hx hZ V223 g_b221 (by decide) (i := 1) rfl (by decide) (g := (mkF m 99 #[.val (.int p0), .val (.int p1), .val (.int p2), .val (.int (3 : Int32)), .val (.int (3 : Int32)), .val (.int x5), .val (.int x6), .val (.int x7), .val (.int x8), .val (.int x9), .val (.int x10), .val (.ref b221), .unset, .unset, .unset, .unset, .unset] [(.int x6), (.int (1 : Int32)), (.ref b221)])) rfl rfl (hb hby at_99)
      have f226_2153 := f224_2139.wr W225 g_b221
      have f226_2154 := f224_2140.wr W225
      have Zs226 : n0 ≤ h225.size := by rw [W225.size]; exact Zs224
      refine Go.by st225 ?_
      show Go p.tables e below _ (T225.setTop (mkF m 100 #[.val (.int p0), .val (.int p1), .val (.int p2), .val (.int (3 : Int32)), .val (.int (3 : Int32)), .val (.int x5), .val (.int x6), .val (.int x7), .val (.int x8), .val (.int x9), .val (.int x10), .val (.ref b221), .unset, .unset, .unset, .unset, .unset] []))
      refine Go.by (fun _ => XS.iloadN X225.here hx rfl (hb hby at_100) rfl) ?_
      refine Go.by (fun _ => XS.iconst X225.here hx rfl (hb hby at_101)) ?_
      refine Go.by (fun _ => XS.icmpNo X225.here hx rfl (hb hby at_102) rfl (tlt (by decide)).2.2.2) ?_
      show Go p.tables e below _ (T225.setTop (mkF m 105 #[.val (.int p0), .val (.int p1), .val (.int p2), .val (.int (3 : Int32)), .val (.int (3 : Int32)), .val (.int x5), .val (.int x6), .val (.int x7), .val (.int x8), .val (.int x9), .val (.int x10), .val (.ref b221), .unset, .unset, .unset, .unset, .unset] []))
      refine Go.by (fun _ => XS.aload X225.here hx rfl (hb hby at_105) rfl rfl) ?_
      show Go p.tables e below _ (T225.setTop (mkF m 107 #[.val (.int p0), .val (.int p1), .val (.int p2), .val (.int (3 : Int32)), .val (.int (3 : Int32)), .val (.int x5), .val (.int x6), .val (.int x7), .val (.int x8), .val (.int x9), .val (.int x10), .val (.ref b221), .unset, .unset, .unset, .unset, .unset] [(.ref b221)]))
      refine Go.by (fun _ => XS.iconst X225.here hx rfl (hb hby at_107)) ?_
      refine Go.by (fun _ => XS.iload X225.here hx rfl (hb hby at_108) rfl) ?_
      obtain ⟨T227, h227, X227, W227, V227, st227⟩ := X225.stC hx hZ V225 g_b221 (by decide) (i := 2) rfl (by decide) (g := (mkF m 110 #[.val (.int p0), .val (.int p1), .val (.int p2), .val (.int (3 : Int32)), .val (.int (3 : Int32)), .val (.int x5), .val (.int x6), .val (.int x7), .val (.int x8), .val (.int x9), .val (.int x10), .val (.ref b221), .unset, .unset, .unset, .unset, .unset] [(.int x7), (.int (2 : Int32)), (.ref b221)])) rfl rfl (hb hby at_110)
      have f228_2167 := f226_2153.wr W227 g_b221
      have f228_2168 := f226_2154.wr W227
      have Zs228 : n0 ≤ h227.size := by rw [W227.size]; exact Zs226
      refine Go.by st227 ?_
      show Go p.tables e below _ (T227.setTop (mkF m 111 #[.val (.int p0), .val (.int p1), .val (.int p2), .val (.int (3 : Int32)), .val (.int (3 : Int32)), .val (.int x5), .val (.int x6), .val (.int x7), .val (.int x8), .val (.int x9), .val (.int x10), .val (.ref b221), .unset, .unset, .unset, .unset, .unset] []))
      refine Go.by (fun _ => XS.iload X227.here hx rfl (hb hby at_111) rfl) ?_
      obtain ⟨T229, h229, kc229, b229, X229, g229, E229, A229, V229, st229⟩ := X227.newP hx hZ (tw hw 1 rfl) (g := (mkF m 113 #[.val (.int p0), .val (.int p1), .val (.int p2), .val (.int (3 : Int32)), .val (.int (3 : Int32)), .val (.int x5), .val (.int x6), .val (.int x7), .val (.int x8), .val (.int x9), .val (.int x10), .val (.ref b221), .unset, .unset, .unset, .unset, .unset] [(.int (3 : Int32))])) rfl (hb hby at_113) rfl (by decide) (sz := 3) (cap := 3) (k' := 2) (n' := 6) rfl (Nat.le_refl _) (by decide) rfl rfl (by decide) (by decide) (ad := "[C") (by decide)
      have g_b229 : n0 ≤ b229 := by rw [g229]; exact Zs228
      have ne_b221_b229 : b221 ≠ b229 := Nat.ne_of_lt (by rw [g229]; exact f228_2168.lt)
      have f230_2176 := f228_2167.ext E229
      have f230_2177 := f228_2168.ext E229
      have f230_2178 := Avf.ext V227 E229
      have Zs230 : n0 ≤ h229.size := Nat.le_trans Zs228 E229.1
      refine Go.by st229 ?_
      show Go p.tables e below _ (T229.setTop (mkF m 115 #[.val (.int p0), .val (.int p1), .val (.int p2), .val (.int (3 : Int32)), .val (.int (3 : Int32)), .val (.int x5), .val (.int x6), .val (.int x7), .val (.int x8), .val (.int x9), .val (.int x10), .val (.ref b221), .unset, .unset, .unset, .unset, .unset] [(.ref b229)]))
      refine Go.by (fun _ => XS.astore X229.here hx rfl (hb hby at_115) rfl rfl (l' := #[.val (.int p0), .val (.int p1), .val (.int p2), .val (.int (3 : Int32)), .val (.int (3 : Int32)), .val (.int x5), .val (.int x6), .val (.int x7), .val (.int x8), .val (.int x9), .val (.int x10), .val (.ref b221), .val (.ref b229), .unset, .unset, .unset, .unset]) rfl) ?_
      show Go p.tables e below _ (T229.setTop (mkF m 117 #[.val (.int p0), .val (.int p1), .val (.int p2), .val (.int (3 : Int32)), .val (.int (3 : Int32)), .val (.int x5), .val (.int x6), .val (.int x7), .val (.int x8), .val (.int x9), .val (.int x10), .val (.ref b221), .val (.ref b229), .unset, .unset, .unset, .unset] []))
      refine Go.by (fun _ => XS.aload X229.here hx rfl (hb hby at_117) rfl rfl) ?_
      refine Go.by (fun _ => XS.iconst X229.here hx rfl (hb hby at_119)) ?_
      show Go p.tables e below _ (T229.setTop (mkF m 120 #[.val (.int p0), .val (.int p1), .val (.int p2), .val (.int (3 : Int32)), .val (.int (3 : Int32)), .val (.int x5), .val (.int x6), .val (.int x7), .val (.int x8), .val (.int x9), .val (.int x10), .val (.ref b221), .val (.ref b229), .unset, .unset, .unset, .unset] [(.int (0 : Int32)), (.ref b229)]))
      refine Go.by (fun _ => XS.iload X229.here hx rfl (hb hby at_120) rfl) ?_
      obtain ⟨T231, h231, X231, W231, V231, st231⟩ := X229.stC hx hZ V229 g_b229 (by decide) (i := 0) rfl (by decide) (g := (mkF m 122 #[.val (.int p0), .val (.int p1), .val (.int p2), .val (.int (3 : Int32)), .val (.int (3 : Int32)), .val (.int x5), .val (.int x6), .val (.int x7), .val (.int x8), .val (.int x9), .val (.int x10), .val (.ref b221), .val (.ref b229), .unset, .unset, .unset, .unset] [(.int x8), (.int (0 : Int32)), (.ref b229)])) rfl rfl (hb hby at_122)
      have f232_2189 := f230_2176.wr W231 g_b229
      have f232_2190 := f230_2177.wr W231
      have f232_2191 := Avf.other f230_2178 W231 ne_b221_b229
      have f232_2192 := A229.wr W231
      have Zs232 : n0 ≤ h231.size := by rw [W231.size]; exact Zs230
      refine Go.by st231 ?_
      show Go p.tables e below _ (T231.setTop (mkF m 123 #[.val (.int p0), .val (.int p1), .val (.int p2), .val (.int (3 : Int32)), .val (.int (3 : Int32)), .val (.int x5), .val (.int x6), .val (.int x7), .val (.int x8), .val (.int x9), .val (.int x10), .val (.ref b221), .val (.ref b229), .unset, .unset, .unset, .unset] []))
      refine Go.by (fun _ => XS.iload X231.here hx rfl (hb hby at_123) rfl) ?_
      refine Go.by (fun _ => XS.iconst X231.here hx rfl (hb hby at_125)) ?_
      refine Go.by (fun _ => XS.icmpNo X231.here hx rfl (hb hby at_126) rfl (tlt (by decide)).2.2.2) ?_
      show Go p.tables e below _ (T231.setTop (mkF m 129 #[.val (.int p0), .val (.int p1), .val (.int p2), .val (.int (3 : Int32)), .val (.int (3 : Int32)), .val (.int x5), .val (.int x6), .val (.int x7), .val (.int x8), .val (.int x9), .val (.int x10), .val (.ref b221), .val (.ref b229), .unset, .unset, .unset, .unset] []))
      refine Go.by (fun _ => XS.aload X231.here hx rfl (hb hby at_129) rfl rfl) ?_
      refine Go.by (fun _ => XS.iconst X231.here hx rfl (hb hby at_131)) ?_
      refine Go.by (fun _ => XS.iload X231.here hx rfl (hb hby at_132) rfl) ?_
      obtain ⟨T233, h233, X233, W233, V233, st233⟩ := X231.stC hx hZ V231 g_b229 (by decide) (i := 1) rfl (by decide) (g := (mkF m 134 #[.val (.int p0), .val (.int p1), .val (.int p2), .val (.int (3 : Int32)), .val (.int (3 : Int32)), .val (.int x5), .val (.int x6), .val (.int x7), .val (.int x8), .val (.int x9), .val (.int x10), .val (.ref b221), .val (.ref b229), .unset, .unset, .unset, .unset] [(.int x9), (.int (1 : Int32)), (.ref b229)])) rfl rfl (hb hby at_134)
      have f234_2204 := f232_2189.wr W233 g_b229
      have f234_2205 := f232_2190.wr W233
      have f234_2206 := Avf.other f232_2191 W233 ne_b221_b229
      have f234_2207 := f232_2192.wr W233
      have Zs234 : n0 ≤ h233.size := by rw [W233.size]; exact Zs232
      refine Go.by st233 ?_
      show Go p.tables e below _ (T233.setTop (mkF m 135 #[.val (.int p0), .val (.int p1), .val (.int p2), .val (.int (3 : Int32)), .val (.int (3 : Int32)), .val (.int x5), .val (.int x6), .val (.int x7), .val (.int x8), .val (.int x9), .val (.int x10), .val (.ref b221), .val (.ref b229), .unset, .unset, .unset, .unset] []))
      refine Go.by (fun _ => XS.iload X233.here hx rfl (hb hby at_135) rfl) ?_
      refine Go.by (fun _ => XS.iconst X233.here hx rfl (hb hby at_137)) ?_
      refine Go.by (fun _ => XS.icmpNo X233.here hx rfl (hb hby at_138) rfl (tlt (by decide)).2.2.2) ?_
      show Go p.tables e below _ (T233.setTop (mkF m 141 #[.val (.int p0), .val (.int p1), .val (.int p2), .val (.int (3 : Int32)), .val (.int (3 : Int32)), .val (.int x5), .val (.int x6), .val (.int x7), .val (.int x8), .val (.int x9), .val (.int x10), .val (.ref b221), .val (.ref b229), .unset, .unset, .unset, .unset] []))
      refine Go.by (fun _ => XS.aload X233.here hx rfl (hb hby at_141) rfl rfl) ?_
      refine Go.by (fun _ => XS.iconst X233.here hx rfl (hb hby at_143)) ?_
      refine Go.by (fun _ => XS.iload X233.here hx rfl (hb hby at_144) rfl) ?_
      obtain ⟨T235, h235, X235, W235, V235, st235⟩ := X233.stC hx hZ V233 g_b229 (by decide) (i := 2) rfl (by decide) (g := (mkF m 146 #[.val (.int p0), .val (.int p1), .val (.int p2), .val (.int (3 : Int32)), .val (.int (3 : Int32)), .val (.int x5), .val (.int x6), .val (.int x7), .val (.int x8), .val (.int x9), .val (.int x10), .val (.ref b221), .val (.ref b229), .unset, .unset, .unset, .unset] [(.int x10), (.int (2 : Int32)), (.ref b229)])) rfl rfl (hb hby at_146)
      have f236_2219 := f234_2204.wr W235 g_b229
      have f236_2220 := f234_2205.wr W235
      have f236_2221 := Avf.other f234_2206 W235 ne_b221_b229
      have f236_2222 := f234_2207.wr W235
      have Zs236 : n0 ≤ h235.size := by rw [W235.size]; exact Zs234
      refine Go.by st235 ?_
      show Go p.tables e below _ (T235.setTop (mkF m 147 #[.val (.int p0), .val (.int p1), .val (.int p2), .val (.int (3 : Int32)), .val (.int (3 : Int32)), .val (.int x5), .val (.int x6), .val (.int x7), .val (.int x8), .val (.int x9), .val (.int x10), .val (.ref b221), .val (.ref b229), .unset, .unset, .unset, .unset] []))
      refine Go.by (fun _ => XS.iloadN X235.here hx rfl (hb hby at_147) rfl) ?_
      refine Go.by (fun _ => XS.iconst X235.here hx rfl (hb hby at_148)) ?_
      show Go p.tables e below _ (T235.setTop (mkF m 149 #[.val (.int p0), .val (.int p1), .val (.int p2), .val (.int (3 : Int32)), .val (.int (3 : Int32)), .val (.int x5), .val (.int x6), .val (.int x7), .val (.int x8), .val (.int x9), .val (.int x10), .val (.ref b221), .val (.ref b229), .unset, .unset, .unset, .unset] [(.int (1 : Int32)), (.int (3 : Int32))]))
      refine Go.by (fun _ => XS.iadd X235.here hx rfl (hb hby at_149) rfl) ?_
      refine Go.by (fun _ => XS.iload X235.here hx rfl (hb hby at_150) rfl) ?_
      refine Go.by (fun _ => XS.iadd X235.here hx rfl (hb hby at_152) rfl) ?_
      obtain ⟨T237, h237, kc237, b237, X237, g237, E237, A237, V237, st237⟩ := X235.newP hx hZ (tw hw 1 rfl) (g := (mkF m 153 #[.val (.int p0), .val (.int p1), .val (.int p2), .val (.int (3 : Int32)), .val (.int (3 : Int32)), .val (.int x5), .val (.int x6), .val (.int x7), .val (.int x8), .val (.int x9), .val (.int x10), .val (.ref b221), .val (.ref b229), .unset, .unset, .unset, .unset] [(.int (7 : Int32))])) rfl (hb hby at_153) rfl (by decide) (sz := 7) (cap := 7) (k' := 3) (n' := 13) rfl (Nat.le_refl _) (by decide) rfl rfl (by decide) (by decide) (ad := "[C") (by decide)
      have g_b237 : n0 ≤ b237 := by rw [g237]; exact Zs236
      have ne_b221_b237 : b221 ≠ b237 := Nat.ne_of_lt (by rw [g237]; exact f236_2220.lt)
      have ne_b229_b237 : b229 ≠ b237 := Nat.ne_of_lt (by rw [g237]; exact f236_2222.lt)
      have f238_2236 := f236_2219.ext E237
      have f238_2237 := f236_2220.ext E237
      have f238_2238 := Avf.ext f236_2221 E237
      have f238_2239 := f236_2222.ext E237
      have f238_2240 := Avf.ext V235 E237
      have Zs238 : n0 ≤ h237.size := Nat.le_trans Zs236 E237.1
      refine Go.by st237 ?_
      show Go p.tables e below _ (T237.setTop (mkF m 155 #[.val (.int p0), .val (.int p1), .val (.int p2), .val (.int (3 : Int32)), .val (.int (3 : Int32)), .val (.int x5), .val (.int x6), .val (.int x7), .val (.int x8), .val (.int x9), .val (.int x10), .val (.ref b221), .val (.ref b229), .unset, .unset, .unset, .unset] [(.ref b237)]))
      refine Go.by (fun _ => XS.astore X237.here hx rfl (hb hby at_155) rfl rfl (l' := #[.val (.int p0), .val (.int p1), .val (.int p2), .val (.int (3 : Int32)), .val (.int (3 : Int32)), .val (.int x5), .val (.int x6), .val (.int x7), .val (.int x8), .val (.int x9), .val (.int x10), .val (.ref b221), .val (.ref b229), .val (.ref b237), .unset, .unset, .unset]) rfl) ?_
      show Go p.tables e below _ (T237.setTop (mkF m 157 #[.val (.int p0), .val (.int p1), .val (.int p2), .val (.int (3 : Int32)), .val (.int (3 : Int32)), .val (.int x5), .val (.int x6), .val (.int x7), .val (.int x8), .val (.int x9), .val (.int x10), .val (.ref b221), .val (.ref b229), .val (.ref b237), .unset, .unset, .unset] []))
      refine Go.by (fun _ => XS.aload X237.here hx rfl (hb hby at_157) rfl rfl) ?_
      refine Go.by (fun _ => XS.iconst X237.here hx rfl (hb hby at_159)) ?_
      refine Go.by (fun _ => XS.iload X237.here hx rfl (hb hby at_160) rfl) ?_
      show Go p.tables e below _ (T237.setTop (mkF m 162 #[.val (.int p0), .val (.int p1), .val (.int p2), .val (.int (3 : Int32)), .val (.int (3 : Int32)), .val (.int x5), .val (.int x6), .val (.int x7), .val (.int x8), .val (.int x9), .val (.int x10), .val (.ref b221), .val (.ref b229), .val (.ref b237), .unset, .unset, .unset] [(.int x5), (.int (0 : Int32)), (.ref b237)]))
      obtain ⟨T239, h239, X239, W239, V239, st239⟩ := X237.stC hx hZ V237 g_b237 (by decide) (i := 0) rfl (by decide) (g := (mkF m 162 #[.val (.int p0), .val (.int p1), .val (.int p2), .val (.int (3 : Int32)), .val (.int (3 : Int32)), .val (.int x5), .val (.int x6), .val (.int x7), .val (.int x8), .val (.int x9), .val (.int x10), .val (.ref b221), .val (.ref b229), .val (.ref b237), .unset, .unset, .unset] [(.int x5), (.int (0 : Int32)), (.ref b237)])) rfl rfl (hb hby at_162)
      have f240_2251 := f238_2236.wr W239 g_b237
      have f240_2252 := f238_2237.wr W239
      have f240_2253 := Avf.other f238_2238 W239 ne_b221_b237
      have f240_2254 := f238_2239.wr W239
      have f240_2255 := Avf.other f238_2240 W239 ne_b229_b237
      have f240_2256 := A237.wr W239
      have Zs240 : n0 ≤ h239.size := by rw [W239.size]; exact Zs238
      refine Go.by st239 ?_
      show Go p.tables e below _ (T239.setTop (mkF m 163 #[.val (.int p0), .val (.int p1), .val (.int p2), .val (.int (3 : Int32)), .val (.int (3 : Int32)), .val (.int x5), .val (.int x6), .val (.int x7), .val (.int x8), .val (.int x9), .val (.int x10), .val (.ref b221), .val (.ref b229), .val (.ref b237), .unset, .unset, .unset] []))
      refine Go.by (fun _ => XS.iloadN X239.here hx rfl (hb hby at_163) rfl) ?_
      refine Go.by (fun _ => XS.iconst X239.here hx rfl (hb hby at_164)) ?_
      refine Go.by (fun _ => XS.icmpNo X239.here hx rfl (hb hby at_165) rfl (tlt (by decide)).2.2.2) ?_
      show Go p.tables e below _ (T239.setTop (mkF m 168 #[.val (.int p0), .val (.int p1), .val (.int p2), .val (.int (3 : Int32)), .val (.int (3 : Int32)), .val (.int x5), .val (.int x6), .val (.int x7), .val (.int x8), .val (.int x9), .val (.int x10), .val (.ref b221), .val (.ref b229), .val (.ref b237), .unset, .unset, .unset] []))
      refine Go.by (fun _ => XS.aload X239.here hx rfl (hb hby at_168) rfl rfl) ?_
      refine Go.by (fun _ => XS.iconst X239.here hx rfl (hb hby at_170)) ?_
      refine Go.by (fun _ => XS.iload X239.here hx rfl (hb hby at_171) rfl) ?_
      obtain ⟨T241, h241, X241, W241, V241, st241⟩ := X239.stC hx hZ V239 g_b237 (by decide) (i := 1) rfl (by decide) (g := (mkF m 173 #[.val (.int p0), .val (.int p1), .val (.int p2), .val (.int (3 : Int32)), .val (.int (3 : Int32)), .val (.int x5), .val (.int x6), .val (.int x7), .val (.int x8), .val (.int x9), .val (.int x10), .val (.ref b221), .val (.ref b229), .val (.ref b237), .unset, .unset, .unset] [(.int x6), (.int (1 : Int32)), (.ref b237)])) rfl rfl (hb hby at_173)
      have f242_2268 := f240_2251.wr W241 g_b237
      have f242_2269 := f240_2252.wr W241
      have f242_2270 := Avf.other f240_2253 W241 ne_b221_b237
      have f242_2271 := f240_2254.wr W241
      have f242_2272 := Avf.other f240_2255 W241 ne_b229_b237
      have f242_2273 := f240_2256.wr W241
      have Zs242 : n0 ≤ h241.size := by rw [W241.size]; exact Zs240
      refine Go.by st241 ?_
      show Go p.tables e below _ (T241.setTop (mkF m 174 #[.val (.int p0), .val (.int p1), .val (.int p2), .val (.int (3 : Int32)), .val (.int (3 : Int32)), .val (.int x5), .val (.int x6), .val (.int x7), .val (.int x8), .val (.int x9), .val (.int x10), .val (.ref b221), .val (.ref b229), .val (.ref b237), .unset, .unset, .unset] []))
      refine Go.by (fun _ => XS.iloadN X241.here hx rfl (hb hby at_174) rfl) ?_
      show Go p.tables e below _ (T241.setTop (mkF m 175 #[.val (.int p0), .val (.int p1), .val (.int p2), .val (.int (3 : Int32)), .val (.int (3 : Int32)), .val (.int x5), .val (.int x6), .val (.int x7), .val (.int x8), .val (.int x9), .val (.int x10), .val (.ref b221), .val (.ref b229), .val (.ref b237), .unset, .unset, .unset] [(.int (3 : Int32))]))
      refine Go.by (fun _ => XS.iconst X241.here hx rfl (hb hby at_175)) ?_
      refine Go.by (fun _ => XS.icmpNo X241.here hx rfl (hb hby at_176) rfl (tlt (by decide)).2.2.2) ?_
      show Go p.tables e below _ (T241.setTop (mkF m 179 #[.val (.int p0), .val (.int p1), .val (.int p2), .val (.int (3 : Int32)), .val (.int (3 : Int32)), .val (.int x5), .val (.int x6), .val (.int x7), .val (.int x8), .val (.int x9), .val (.int x10), .val (.ref b221), .val (.ref b229), .val (.ref b237), .unset, .unset, .unset] []))
      refine Go.by (fun _ => XS.aload X241.here hx rfl (hb hby at_179) rfl rfl) ?_
      refine Go.by (fun _ => XS.iconst X241.here hx rfl (hb hby at_181)) ?_
      refine Go.by (fun _ => XS.iload X241.here hx rfl (hb hby at_182) rfl) ?_
      obtain ⟨T243, h243, X243, W243, V243, st243⟩ := X241.stC hx hZ V241 g_b237 (by decide) (i := 2) rfl (by decide) (g := (mkF m 184 #[.val (.int p0), .val (.int p1), .val (.int p2), .val (.int (3 : Int32)), .val (.int (3 : Int32)), .val (.int x5), .val (.int x6), .val (.int x7), .val (.int x8), .val (.int x9), .val (.int x10), .val (.ref b221), .val (.ref b229), .val (.ref b237), .unset, .unset, .unset] [(.int x7), (.int (2 : Int32)), (.ref b237)])) rfl rfl (hb hby at_184)
      have f244_2286 := f242_2268.wr W243 g_b237
      have f244_2287 := f242_2269.wr W243
      have f244_2288 := Avf.other f242_2270 W243 ne_b221_b237
      have f244_2289 := f242_2271.wr W243
      have f244_2290 := Avf.other f242_2272 W243 ne_b229_b237
      have f244_2291 := f242_2273.wr W243
      have Zs244 : n0 ≤ h243.size := by rw [W243.size]; exact Zs242
      refine Go.by st243 ?_
      show Go p.tables e below _ (T243.setTop (mkF m 185 #[.val (.int p0), .val (.int p1), .val (.int p2), .val (.int (3 : Int32)), .val (.int (3 : Int32)), .val (.int x5), .val (.int x6), .val (.int x7), .val (.int x8), .val (.int x9), .val (.int x10), .val (.ref b221), .val (.ref b229), .val (.ref b237), .unset, .unset, .unset] []))
      refine Go.by (fun _ => XS.aload X243.here hx rfl (hb hby at_185) rfl rfl) ?_
      refine Go.by (fun _ => XS.iloadN X243.here hx rfl (hb hby at_187) rfl) ?_
      refine Go.by (fun _ => XS.bipush X243.here hx rfl (hb hby at_188)) ?_
      show Go p.tables e below _ (T243.setTop (mkF m 190 #[.val (.int p0), .val (.int p1), .val (.int p2), .val (.int (3 : Int32)), .val (.int (3 : Int32)), .val (.int x5), .val (.int x6), .val (.int x7), .val (.int x8), .val (.int x9), .val (.int x10), .val (.ref b221), .val (.ref b229), .val (.ref b237), .unset, .unset, .unset] [(.int (47 : Int32)), (.int (3 : Int32)), (.ref b237)]))
      obtain ⟨T245, h245, X245, W245, V245, st245⟩ := X243.stC hx hZ V243 g_b237 (by decide) (i := 3) rfl (by decide) (g := (mkF m 190 #[.val (.int p0), .val (.int p1), .val (.int p2), .val (.int (3 : Int32)), .val (.int (3 : Int32)), .val (.int x5), .val (.int x6), .val (.int x7), .val (.int x8), .val (.int x9), .val (.int x10), .val (.ref b221), .val (.ref b229), .val (.ref b237), .unset, .unset, .unset] [(.int (47 : Int32)), (.int (3 : Int32)), (.ref b237)])) rfl rfl (hb hby at_190)
      have f246_2300 := f244_2286.wr W245 g_b237
      have f246_2301 := f244_2287.wr W245
      have f246_2302 := Avf.other f244_2288 W245 ne_b221_b237
      have f246_2303 := f244_2289.wr W245
      have f246_2304 := Avf.other f244_2290 W245 ne_b229_b237
      have f246_2305 := f244_2291.wr W245
      have Zs246 : n0 ≤ h245.size := by rw [W245.size]; exact Zs244
      refine Go.by st245 ?_
      show Go p.tables e below _ (T245.setTop (mkF m 191 #[.val (.int p0), .val (.int p1), .val (.int p2), .val (.int (3 : Int32)), .val (.int (3 : Int32)), .val (.int x5), .val (.int x6), .val (.int x7), .val (.int x8), .val (.int x9), .val (.int x10), .val (.ref b221), .val (.ref b229), .val (.ref b237), .unset, .unset, .unset] []))
      refine Go.by (fun _ => XS.aload X245.here hx rfl (hb hby at_191) rfl rfl) ?_
      refine Go.by (fun _ => XS.iloadN X245.here hx rfl (hb hby at_193) rfl) ?_
      refine Go.by (fun _ => XS.iconst X245.here hx rfl (hb hby at_194)) ?_
      refine Go.by (fun _ => XS.iadd X245.here hx rfl (hb hby at_195) rfl) ?_
      refine Go.by (fun _ => XS.iload X245.here hx rfl (hb hby at_196) rfl) ?_
      obtain ⟨T247, h247, X247, W247, V247, st247⟩ := X245.stC hx hZ V245 g_b237 (by decide) (i := 4) rfl (by decide) (g := (mkF m 198 #[.val (.int p0), .val (.int p1), .val (.int p2), .val (.int (3 : Int32)), .val (.int (3 : Int32)), .val (.int x5), .val (.int x6), .val (.int x7), .val (.int x8), .val (.int x9), .val (.int x10), .val (.ref b221), .val (.ref b229), .val (.ref b237), .unset, .unset, .unset] [(.int x8), (.int (4 : Int32)), (.ref b237)])) rfl rfl (hb hby at_198)
      have f248_2315 := f246_2300.wr W247 g_b237
      have f248_2316 := f246_2301.wr W247
      have f248_2317 := Avf.other f246_2302 W247 ne_b221_b237
      have f248_2318 := f246_2303.wr W247
      have f248_2319 := Avf.other f246_2304 W247 ne_b229_b237
      have f248_2320 := f246_2305.wr W247
      have Zs248 : n0 ≤ h247.size := by rw [W247.size]; exact Zs246
      refine Go.by st247 ?_
      show Go p.tables e below _ (T247.setTop (mkF m 199 #[.val (.int p0), .val (.int p1), .val (.int p2), .val (.int (3 : Int32)), .val (.int (3 : Int32)), .val (.int x5), .val (.int x6), .val (.int x7), .val (.int x8), .val (.int x9), .val (.int x10), .val (.ref b221), .val (.ref b229), .val (.ref b237), .unset, .unset, .unset] []))
      refine Go.by (fun _ => XS.iload X247.here hx rfl (hb hby at_199) rfl) ?_
      show Go p.tables e below _ (T247.setTop (mkF m 201 #[.val (.int p0), .val (.int p1), .val (.int p2), .val (.int (3 : Int32)), .val (.int (3 : Int32)), .val (.int x5), .val (.int x6), .val (.int x7), .val (.int x8), .val (.int x9), .val (.int x10), .val (.ref b221), .val (.ref b229), .val (.ref b237), .unset, .unset, .unset] [(.int (3 : Int32))]))
      refine Go.by (fun _ => XS.iconst X247.here hx rfl (hb hby at_201)) ?_
      refine Go.by (fun _ => XS.icmpNo X247.here hx rfl (hb hby at_202) rfl (tlt (by decide)).2.2.2) ?_
      show Go p.tables e below _ (T247.setTop (mkF m 205 #[.val (.int p0), .val (.int p1), .val (.int p2), .val (.int (3 : Int32)), .val (.int (3 : Int32)), .val (.int x5), .val (.int x6), .val (.int x7), .val (.int x8), .val (.int x9), .val (.int x10), .val (.ref b221), .val (.ref b229), .val (.ref b237), .unset, .unset, .unset] []))
      refine Go.by (fun _ => XS.aload X247.here hx rfl (hb hby at_205) rfl rfl) ?_
      refine Go.by (fun _ => XS.iloadN X247.here hx rfl (hb hby at_207) rfl) ?_
      refine Go.by (fun _ => XS.iconst X247.here hx rfl (hb hby at_208)) ?_
      refine Go.by (fun _ => XS.iadd X247.here hx rfl (hb hby at_209) rfl) ?_
      refine Go.by (fun _ => XS.iload X247.here hx rfl (hb hby at_210) rfl) ?_
      obtain ⟨T249, h249, X249, W249, V249, st249⟩ := X247.stC hx hZ V247 g_b237 (by decide) (i := 5) rfl (by decide) (g := (mkF m 212 #[.val (.int p0), .val (.int p1), .val (.int p2), .val (.int (3 : Int32)), .val (.int (3 : Int32)), .val (.int x5), .val (.int x6), .val (.int x7), .val (.int x8), .val (.int x9), .val (.int x10), .val (.ref b221), .val (.ref b229), .val (.ref b237), .unset, .unset, .unset] [(.int x9), (.int (5 : Int32)), (.ref b237)])) rfl rfl (hb hby at_212)
      have f250_2335 := f248_2315.wr W249 g_b237
      have f250_2336 := f248_2316.wr W249
      have f250_2337 := Avf.other f248_2317 W249 ne_b221_b237
      have f250_2338 := f248_2318.wr W249
      have f250_2339 := Avf.other f248_2319 W249 ne_b229_b237
      have f250_2340 := f248_2320.wr W249
      have Zs250 : n0 ≤ h249.size := by rw [W249.size]; exact Zs248
      refine Go.by st249 ?_
      show Go p.tables e below _ (T249.setTop (mkF m 213 #[.val (.int p0), .val (.int p1), .val (.int p2), .val (.int (3 : Int32)), .val (.int (3 : Int32)), .val (.int x5), .val (.int x6), .val (.int x7), .val (.int x8), .val (.int x9), .val (.int x10), .val (.ref b221), .val (.ref b229), .val (.ref b237), .unset, .unset, .unset] []))
      refine Go.by (fun _ => XS.iload X249.here hx rfl (hb hby at_213) rfl) ?_
      show Go p.tables e below _ (T249.setTop (mkF m 215 #[.val (.int p0), .val (.int p1), .val (.int p2), .val (.int (3 : Int32)), .val (.int (3 : Int32)), .val (.int x5), .val (.int x6), .val (.int x7), .val (.int x8), .val (.int x9), .val (.int x10), .val (.ref b221), .val (.ref b229), .val (.ref b237), .unset, .unset, .unset] [(.int (3 : Int32))]))
      refine Go.by (fun _ => XS.iconst X249.here hx rfl (hb hby at_215)) ?_
      refine Go.by (fun _ => XS.icmpNo X249.here hx rfl (hb hby at_216) rfl (tlt (by decide)).2.2.2) ?_
      show Go p.tables e below _ (T249.setTop (mkF m 219 #[.val (.int p0), .val (.int p1), .val (.int p2), .val (.int (3 : Int32)), .val (.int (3 : Int32)), .val (.int x5), .val (.int x6), .val (.int x7), .val (.int x8), .val (.int x9), .val (.int x10), .val (.ref b221), .val (.ref b229), .val (.ref b237), .unset, .unset, .unset] []))
      refine Go.by (fun _ => XS.aload X249.here hx rfl (hb hby at_219) rfl rfl) ?_
      refine Go.by (fun _ => XS.iloadN X249.here hx rfl (hb hby at_221) rfl) ?_
      refine Go.by (fun _ => XS.iconst X249.here hx rfl (hb hby at_222)) ?_
      refine Go.by (fun _ => XS.iadd X249.here hx rfl (hb hby at_223) rfl) ?_
      refine Go.by (fun _ => XS.iload X249.here hx rfl (hb hby at_224) rfl) ?_
      obtain ⟨T251, h251, X251, W251, V251, st251⟩ := X249.stC hx hZ V249 g_b237 (by decide) (i := 6) rfl (by decide) (g := (mkF m 226 #[.val (.int p0), .val (.int p1), .val (.int p2), .val (.int (3 : Int32)), .val (.int (3 : Int32)), .val (.int x5), .val (.int x6), .val (.int x7), .val (.int x8), .val (.int x9), .val (.int x10), .val (.ref b221), .val (.ref b229), .val (.ref b237), .unset, .unset, .unset] [(.int x10), (.int (6 : Int32)), (.ref b237)])) rfl rfl (hb hby at_226)
      have f252_2355 := f250_2335.wr W251 g_b237
      have f252_2356 := f250_2336.wr W251
      have f252_2357 := Avf.other f250_2337 W251 ne_b221_b237
      have f252_2358 := f250_2338.wr W251
      have f252_2359 := Avf.other f250_2339 W251 ne_b229_b237
      have f252_2360 := f250_2340.wr W251
      have Zs252 : n0 ≤ h251.size := by rw [W251.size]; exact Zs250
      refine Go.by st251 ?_
      show Go p.tables e below _ (T251.setTop (mkF m 227 #[.val (.int p0), .val (.int p1), .val (.int p2), .val (.int (3 : Int32)), .val (.int (3 : Int32)), .val (.int x5), .val (.int x6), .val (.int x7), .val (.int x8), .val (.int x9), .val (.int x10), .val (.ref b221), .val (.ref b229), .val (.ref b237), .unset, .unset, .unset] []))
      have Vc11 := Avf.cong f252_2357 (g := (fun i => (.int ((c3 x5 x6 x7) i)))) (fun i hi => by
        match i, hi with
        | 0, _ => exact congrArg Value.int (own_nc2 b_x5)
        | 1, _ => exact congrArg Value.int (own_nc2 b_x6)
        | 2, _ => exact congrArg Value.int (own_nc2 b_x7))
      have Vc12 := Avf.cong f252_2359 (g := (fun i => (.int ((c3 x8 x9 x10) i)))) (fun i hi => by
        match i, hi with
        | 0, _ => exact congrArg Value.int (own_nc2 b_x8)
        | 1, _ => exact congrArg Value.int (own_nc2 b_x9)
        | 2, _ => exact congrArg Value.int (own_nc2 b_x10))
      have Vc13 := Avf.cong V251 (g := (fun i => (.int ((c7 3 (c3 x5 x6 x7) (c3 x8 x9 x10)) i)))) (fun i hi => by
        match i, hi with
        | 0, _ => exact congrArg Value.int (own_nc2 b_x5)
        | 1, _ => exact congrArg Value.int (own_nc2 b_x6)
        | 2, _ => exact congrArg Value.int (own_nc2 b_x7)
        | 3, _ => exact congrArg Value.int (show nar .char (47 : Int32) = 47 from rfl)
        | 4, _ => exact congrArg Value.int (own_nc2 b_x8)
        | 5, _ => exact congrArg Value.int (own_nc2 b_x9)
        | 6, _ => exact congrArg Value.int (own_nc2 b_x10))
      exact J _ _ 3 3 _ _ _ _ _ _ _ _ rfl rfl (by decide) (X251.more (by decide) (by decide)) Zs252 f252_2355 Vc11 Vc12 Vc13
set_option maxRecDepth 65536 in
set_option maxHeartbeats 40000000 in
theorem comes_1 {Post : Tables → Env → Array Value → State → Outcome → State → Prop} (hpost : ∀ tb e args s v u, (limb_1_1.after args s (.returned v) u = true ∧ limb_1_2.after args s (.returned v) u = true ∧ True) → ReturnedEndW s (.returned v) u (Jvm.fieldLocs frame_1_writes args s ++ Jvm.arrayLocs frame_1_arrays args s ++ Jvm.staticLocs frame_1_statics s) 48 3328 → Post tb e args s (.returned v) u) :
    ArmFor flags0 classFile x code maxLocals ret World_1 tables_1 room_1 Calls_1 rest_1 Pre_1 Post := by
  intro l hfl _ _ p e ha hc hk s m args below hf hA hF happ hP
  obtain ⟨hcalls, hrest, hpre⟩ := hP
  obtain ⟨-, -, -, hnamed, -, -, -, hat⟩ := (Spec.applies_iff hf).mp happ
  obtain ⟨hg, hn⟩ := and_e (Cond.before_iff.mp (show (Jvm.Cond.and given_1 narrow_1).before args s = true from hpre))
  obtain ⟨gc, gr0⟩ := and_e hg
  obtain ⟨ga0, gr1⟩ := and_e gr0
  obtain ⟨ga1, ga2⟩ := and_e gr1
  obtain ⟨w0, w1, w2, rfl⟩ : ∃ w0 w1 w2 : Value, args = #[w0, w1, w2] := by
    have hs : args.size = 3 := by simpa [Cond.value, given_1] using gc
    obtain ⟨L⟩ := args
    match L, hs with
    | [w0, w1, w2], _ => exact ⟨w0, w1, w2, rfl⟩
  have hw := fun d (hd : d ∈ tables_1) => atoms_spec (ws := Jvm.Cond.code x code maxLocals ret :: tables_1) hat d (List.mem_cons_of_mem _ hd)
  have hfit : Fit s := fun {y c} hc i hi => by
    obtain ⟨ha, rfl⟩ := Array.getElem?_eq_some_iff.mp hc
    have q := List.all_eq_true.mp ((Array.all_eq_true_iff_forall_mem.mp hF) _ (Array.getElem_mem ha)) i (List.mem_range.mpr hi)
    simpa [Array.getElem?_eq_getElem hi] using q
  obtain ⟨hsets, hown0⟩ := atoms_of _ (rest_1_c_eq ▸ (show rest_1_c.before _ s = true from hrest))
  have hr0 := Cond.before_iff.mp hown0
  obtain ⟨i0, ei0⟩ := is_v ga0
  obtain rfl : w0 = (.int i0) := Option.some.inj ei0
  obtain ⟨i1, ei1⟩ := is_v ga1
  obtain rfl : w1 = (.int i1) := Option.some.inj ei1
  obtain ⟨i2, ei2⟩ := is_v ga2
  obtain rfl : w2 = (.int i2) := Option.some.inj ei2
  obtain ⟨cs, evcs⟩ := is_v (Cond.before_iff.mp (hsets _ (List.mem_of_getElem? (i := 1) rfl)))
  have S_CS0 : Sta s s.heap "java/lang/String" "COMPACT_STRINGS" "Z" (.int cs) := Sta.start evcs (Or.inl (hsets _ (List.mem_of_getElem? (i := 0) rfl)))
  have hcs : ¬ cs = 0 := gotF (Cond.eq_ints evcs (Term.int_eval 0)) (not_v (Cond.before_iff.mp (hsets _ (List.mem_of_getElem? (i := 2) rfl))))
  have xi := Cond.before_iff.mp (hsets _ (List.mem_of_getElem? (i := 11) rfl))
  obtain ⟨aI, evi⟩ := exa_v xi
  have S_I0 : Sta s s.heap "java/lang/CharacterDataLatin1" "instance" "Ljava/lang/CharacterDataLatin1;" (.ref aI) := Sta.start evi (Or.inl (hsets _ (List.mem_of_getElem? (i := 10) rfl)))
  have E_I0 := Exa.start evi xi
  have xa := Cond.before_iff.mp (hsets _ (List.mem_of_getElem? (i := 14) rfl))
  obtain ⟨aA, eva⟩ := arr_v xa
  obtain ⟨cA, ArA⟩ := Arr.start eva xa
  have S_A0 : Sta s s.heap "java/lang/CharacterDataLatin1" "A" "[I" (.ref aA) := Sta.start eva (Or.inl (hsets _ (List.mem_of_getElem? (i := 13) rfl)))
  have lenA : cA.slots.size = 256 := avf_len ArA eva (int_of_eq (Cond.before_iff.mp (hsets _ (List.mem_of_getElem? (i := 16) rfl)))) rfl
  have V_A0 : Avf s s.heap aA cA.cls .int 256 (fun i => (.int (tabA i))) := by
    refine ⟨cA, ArA, rfl, lenA, by decide, fun i hi => ?_⟩
    have q := (elem_in (int_of_eq (Cond.before_iff.mp (hsets _ (List.mem_of_getElem? (own_Aw ⟨i, hi⟩))))) eva (Term.int_eval (Int32.ofNat i)) ArA.1).2
    rw [i32_nat (by omega)] at q
    exact ⟨q, rfl⟩
  have wcs := hsets _ (List.mem_of_getElem? (i := 2) rfl)
  have hEW : EW s _ EL := (EW.cons (tw hw 47 rfl) (by decide) (EW.cons (tw hw 54 rfl) (by decide) (EW.cons (tw hw 170 rfl) (by decide) EW.nil)))
  have hCH : CHv s EL s.vm s.heap := CHv.start hEW (show Jvm.Lit.constsHeld consts_1 s from hcalls.1) (show Jvm.Lit.compactW.before _ s = true from wcs) (tw hw 27 rfl) (tw hw 10 rfl)
  obtain ⟨n, o, h1, h2, h3, _, L, rfl, ⟨rfl, N⟩, -, -, hq⟩ := rm0 l s _ hw tables_1 i0 i1 i2 cs aA aI _ s.heap s.heap.size (Nat.le_refl _) (Old.start s) S_CS0 hcs S_A0 V_A0 S_I0 E_I0 p e ha hc hk s m _ below hf ((Spec.applies_iff_loose hf).mp happ).1 ⟨rfl, rfl, State.Warmed39.refl s, hCH, ⟨_, hEW⟩, fun _ q => nomatch q⟩ trivial
  refine ⟨n, _, h1, h2, h3, hpost _ _ _ _ _ _ ⟨Cond.after_iff.mpr rfl, Cond.after_iff.mpr (eq_i res_at (Term.int_eval (1)) rfl), trivial⟩ ⟨hq.1, hq.2.1, hq.2.2.1, (hq.2.2.2.sift fun y hy => Or.inr (N y hy)).mono (by decide) (by decide)⟩⟩
theorem main_1_1 : Claimed_1_1 := comes_1 fun _ _ _ _ _ _ h hF => ⟨h.1, hF⟩
theorem main_1_2 : Claimed_1_2 := comes_1 fun _ _ _ _ _ _ h hF => ⟨h.2.1, hF⟩
end Jvm.Pilot.@@N@@
namespace Jvm.Pilot.@@N@@
open Jvm Jvm.ClassFile Sem Op Lib Jvm.Free Jvm.Stand Jvm.Pilot.@@N@@.Jvm.D
/-! MADE BY PROGRAM (witnessworld.py) out of the Statement's table words and the real class files: 31 classes; the members and pool entries that the words name. The judged class is class 1, her method 1. -/
namespace start1
open Jvm.ClassFile
def u (s : String) : CpInfo := .utf8 (stringToUtf16 s)
/-- a pool by its gaps: so many unusable entries, then the entry; so many at the end -/
def gap : Nat → List CpInfo → List CpInfo
  | 0, r => r
  | n + 1, r => .unusable :: gap n r
def poolList (es : List (Nat × CpInfo)) (last : Nat) : List CpInfo := es.foldr (fun e r => gap e.1 (e.2 :: r)) (gap last [])
def pool (es : List (Nat × CpInfo)) (last : Nat) : Array CpInfo := ⟨poolList es last⟩
def fileOf (pool : Array CpInfo) (this : Nat) (attrs : Array Attribute := #[]) (ms : Array MethodInfo := #[]) (fl : Nat := 33) (sup : Nat := 0) (ifs : Array Nat := #[]) (fds : Array FieldInfo := #[]) : ClassFile where
  minorVersion := 0
  majorVersion := 65
  constantPool := pool
  accessFlags := fl
  thisClass := this
  superClass := sup
  interfaces := ifs
  fields := fds
  methods := ms
  attributes := attrs
def plain (name : String) (sup : Option ClassId) : Class where
  name := name
  kind := .ordinary
  loader := none
  accessFlags := 33
  super := sup
  interfaces := #[]
  cf := none
  fields := #[]
  methods := #[]
  instanceTypes := #[]
  staticTypes := #[]
  resolved := #[]
  callSites := []
  init := .initialized
  statics := none
  mirror := none

def pool0 : Array CpInfo := pool [(5, u "<init>"), (0, u "()V"), (1, .class_ 10), (1, u "java/lang/Object")] 113

def k0c0 : Code := { maxStack := 0, maxLocals := 1, code := object_method_1_code, exceptionTable := #[], attributes := #[] }
def k0m0 : Method := { name := "<init>", desc := "()V", sig := { parameters := [], returnType := none }, accessFlags := 1, code := some k0c0 }
/-- java/lang/Object -/
def k0 : Class := { plain "java/lang/Object" none with
  accessFlags := 33
  interfaces := #[]
  cf := some (fileOf pool0 8 #[] #[{ accessFlags := 1, nameIndex := 5, descriptorIndex := 6, attributes := #[] }] 33 0 #[] #[])
  fields := #[]
  methods := #[k0m0]
  instanceTypes := #[]
  staticTypes := #[]
  resolved := Array.replicate 124 none
  statics := none }

def pool1 : Array CpInfo := pool [(2, .class_ 4), (1, u "java/lang/Object"), (0, u "<init>"), (0, u "()V"), (0, .integer 2147483647), (0, .methodref 9 10), (0, .class_ 11), (0, .nameAndType 12 13), (0, u "com/example/istorie/istorie/EntityIdValuePinLaw"), (0, u "ws"), (0, u "(C)Z"), (0, .class_ 15), (0, u "com/example/istorie/istorie/EntityId"), (0, .class_ 17), (0, u "java/lang/String"), (0, .methodref 16 19), (0, .nameAndType 5 20), (0, u "([C)V"), (0, .methodref 14 22), (0, .nameAndType 5 23), (0, u "(Ljava/lang/String;Ljava/lang/String;)V"), (0, .methodref 14 25), (0, .nameAndType 26 27), (0, u "value"), (0, u "()Ljava/lang/String;"), (0, .methodref 16 29), (0, .nameAndType 30 31), (0, u "equals"), (0, u "(Ljava/lang/Object;)Z"), (2, u "law"), (0, u "(III)Z")] 5

def k1m0 : Method := { name := "<init>", desc := "()V", sig := { parameters := [], returnType := none }, accessFlags := 1, code := none }
def k1c1 : Code := { maxStack := 6, maxLocals := 17, code := code, exceptionTable := #[], attributes := #[] }
def k1m1 : Method := { name := "law", desc := "(III)Z", sig := { parameters := [.int, .int, .int], returnType := some .boolean }, accessFlags := 9, code := some k1c1 }
def k1c2 : Code := { maxStack := 2, maxLocals := 1, code := method_3_code, exceptionTable := #[], attributes := #[] }
def k1m2 : Method := { name := "ws", desc := "(C)Z", sig := { parameters := [.char], returnType := some .boolean }, accessFlags := 10, code := some k1c2 }
/-- com/example/istorie/istorie/EntityIdValuePinLaw -/
def k1 : Class := { plain "com/example/istorie/istorie/EntityIdValuePinLaw" (some 0) with
  accessFlags := 49
  interfaces := #[]
  cf := some (fileOf pool1 9 #[] #[{ accessFlags := 1, nameIndex := 5, descriptorIndex := 6, attributes := #[] }, { accessFlags := 9, nameIndex := 34, descriptorIndex := 35, attributes := #[] }, { accessFlags := 10, nameIndex := 12, descriptorIndex := 13, attributes := #[] }] 49 2 #[] #[])
  fields := #[]
  methods := #[k1m0, k1m1, k1m2]
  instanceTypes := #[]
  staticTypes := #[]
  resolved := Array.replicate 41 none
  statics := none }

def pool2 : Array CpInfo := pool [(1, .methodref 2 3), (0, .class_ 4), (0, .nameAndType 5 6), (0, u "java/lang/Object"), (0, u "<init>"), (0, u "()V"), (0, .class_ 8), (0, u "java/lang/Record")] 13

def k2c0 : Code := { maxStack := 1, maxLocals := 1, code := jdk_30_method_1_code, exceptionTable := #[], attributes := #[] }
def k2m0 : Method := { name := "<init>", desc := "()V", sig := { parameters := [], returnType := none }, accessFlags := 4, code := some k2c0 }
/-- java/lang/Record -/
def k2 : Class := { plain "java/lang/Record" (some 0) with
  accessFlags := 1057
  interfaces := #[]
  cf := some (fileOf pool2 7 #[] #[{ accessFlags := 4, nameIndex := 5, descriptorIndex := 6, attributes := #[] }] 1057 2 #[] #[])
  fields := #[]
  methods := #[k2m0]
  instanceTypes := #[]
  staticTypes := #[]
  resolved := Array.replicate 22 none
  statics := none }

def pool3 : Array CpInfo := pool [(1, .class_ 2), (0, u "com/example/istorie/istorie/GlobalId"), (0, .class_ 4), (0, u "java/lang/Object")] 11

/-- com/example/istorie/istorie/GlobalId -/
def k3 : Class := { plain "com/example/istorie/istorie/GlobalId" (some 0) with
  accessFlags := 1537
  interfaces := #[]
  cf := some (fileOf pool3 1 #[] #[] 1537 3 #[] #[])
  fields := #[]
  methods := #[]
  instanceTypes := #[]
  staticTypes := #[]
  resolved := Array.replicate 16 none
  statics := none }

def pool4 : Array CpInfo := pool [(1, .methodref 2 3), (0, .class_ 4), (0, .nameAndType 5 6), (0, u "java/lang/Record"), (0, u "<init>"), (0, u "()V"), (0, .string 8), (0, u "typeName"), (0, .methodref 10 11), (0, .class_ 12), (0, .nameAndType 13 14), (0, u "java/util/Objects"), (0, u "requireNonNull"), (0, u "(Ljava/lang/Object;Ljava/lang/String;)Ljava/lang/Object;"), (0, .string 16), (0, u "identifier"), (0, .methodref 18 19), (0, .class_ 20), (0, .nameAndType 21 22), (0, u "java/lang/String"), (0, u "isBlank"), (0, u "()Z"), (7, .methodref 18 31), (0, .nameAndType 32 22), (0, u "isEmpty"), (0, .class_ 34), (0, u "java/lang/StringBuilder"), (0, .methodref 33 3), (2, .methodref 33 39), (0, .nameAndType 40 41), (0, u "append"), (0, u "(Ljava/lang/String;)Ljava/lang/StringBuilder;"), (2, .methodref 33 45), (0, .nameAndType 46 47), (0, u "toString"), (0, u "()Ljava/lang/String;"), (0, .fieldref 49 50), (0, .class_ 51), (0, .nameAndType 8 52), (0, u "com/example/istorie/istorie/EntityId"), (0, u "Ljava/lang/String;"), (0, .fieldref 49 54), (0, .nameAndType 16 52), (5, u "(Ljava/lang/String;Ljava/lang/String;)V"), (0, .string 62), (0, u "/"), (11, u "value"), (8, .class_ 84), (0, u "com/example/istorie/istorie/GlobalId")] 31

def k4c0 : Code := { maxStack := 4, maxLocals := 3, code := prog_10_method_1_code, exceptionTable := #[], attributes := #[] }
def k4m0 : Method := { name := "<init>", desc := "(Ljava/lang/String;Ljava/lang/String;)V", sig := { parameters := [(.object "java/lang/String"), (.object "java/lang/String")], returnType := none }, accessFlags := 1, code := some k4c0 }
def k4c1 : Code := { maxStack := 2, maxLocals := 1, code := prog_10_method_3_code, exceptionTable := #[], attributes := #[] }
def k4m1 : Method := { name := "value", desc := "()Ljava/lang/String;", sig := { parameters := [], returnType := some (.object "java/lang/String") }, accessFlags := 1, code := some k4c1 }
/-- com/example/istorie/istorie/EntityId -/
def k4 : Class := { plain "com/example/istorie/istorie/EntityId" (some 2) with
  accessFlags := 49
  interfaces := #[3]
  cf := some (fileOf pool4 49 #[] #[{ accessFlags := 1, nameIndex := 5, descriptorIndex := 60, attributes := #[] }, { accessFlags := 1, nameIndex := 74, descriptorIndex := 47, attributes := #[] }] 49 2 #[83] #[{ accessFlags := 18, nameIndex := 8, descriptorIndex := 52, attributes := #[] }, { accessFlags := 18, nameIndex := 16, descriptorIndex := 52, attributes := #[] }])
  fields := #[{ name := "typeName", type := (.object "java/lang/String"), accessFlags := 18, slot := 0, constantValue := 0 }, { name := "identifier", type := (.object "java/lang/String"), accessFlags := 18, slot := 1, constantValue := 0 }]
  methods := #[k4m0, k4m1]
  instanceTypes := #[(.object "java/lang/String"), (.object "java/lang/String")]
  staticTypes := #[]
  resolved := Array.replicate 116 none
  statics := none }

def pool5 : Array CpInfo := pool [(1, .class_ 2), (0, u "java/io/Serializable"), (0, .class_ 4), (0, u "java/lang/Object")] 2

/-- java/io/Serializable -/
def k5 : Class := { plain "java/io/Serializable" (some 0) with
  accessFlags := 1537
  interfaces := #[]
  cf := some (fileOf pool5 1 #[] #[] 1537 3 #[] #[])
  fields := #[]
  methods := #[]
  instanceTypes := #[]
  staticTypes := #[]
  resolved := Array.replicate 7 none
  statics := none }

def pool6 : Array CpInfo := pool [(1, .class_ 2), (0, u "java/lang/Comparable"), (0, .class_ 4), (0, u "java/lang/Object")] 7

/-- java/lang/Comparable -/
def k6 : Class := { plain "java/lang/Comparable" (some 0) with
  accessFlags := 1537
  interfaces := #[]
  cf := some (fileOf pool6 1 #[] #[] 1537 3 #[] #[])
  fields := #[]
  methods := #[]
  instanceTypes := #[]
  staticTypes := #[]
  resolved := Array.replicate 12 none
  statics := none }

def pool7 : Array CpInfo := pool [(2, .class_ 4), (1, u "java/lang/CharSequence"), (42, .class_ 48), (0, u "java/lang/CharSequence$1CodePointIterator"), (10, .class_ 60), (0, u "java/lang/CharSequence$1CharIterator"), (5, .class_ 67), (0, u "java/lang/Object")] 63

/-- java/lang/CharSequence -/
def k7 : Class := { plain "java/lang/CharSequence" (some 0) with
  accessFlags := 1537
  interfaces := #[]
  cf := some (fileOf pool7 2 #[.nestMembers #[47, 59]] #[] 1537 66 #[] #[])
  fields := #[]
  methods := #[]
  instanceTypes := #[]
  staticTypes := #[]
  resolved := Array.replicate 131 none
  statics := none }

def pool8 : Array CpInfo := pool [(1, .class_ 2), (0, u "java/lang/constant/Constable"), (0, .class_ 4), (0, u "java/lang/Object")] 6

/-- java/lang/constant/Constable -/
def k8 : Class := { plain "java/lang/constant/Constable" (some 0) with
  accessFlags := 1537
  interfaces := #[]
  cf := some (fileOf pool8 1 #[] #[] 1537 3 #[] #[])
  fields := #[]
  methods := #[]
  instanceTypes := #[]
  staticTypes := #[]
  resolved := Array.replicate 11 none
  statics := none }

def pool9 : Array CpInfo := pool [(1, .class_ 2), (0, u "java/lang/constant/ConstantDesc"), (0, .class_ 4), (0, u "java/lang/Object")] 32

/-- java/lang/constant/ConstantDesc -/
def k9 : Class := { plain "java/lang/constant/ConstantDesc" (some 0) with
  accessFlags := 1537
  interfaces := #[]
  cf := some (fileOf pool9 1 #[] #[] 1537 3 #[] #[])
  fields := #[]
  methods := #[]
  instanceTypes := #[]
  staticTypes := #[]
  resolved := Array.replicate 37 none
  statics := none }

def pool10 : Array CpInfo := pool [(1, .methodref 2 3), (0, .class_ 4), (0, .nameAndType 5 6), (0, u "java/lang/Object"), (0, u "<init>"), (0, u "()V"), (2, .fieldref 10 11), (0, .class_ 12), (0, .nameAndType 13 14), (0, u "java/lang/String"), (0, u "value"), (0, u "[B"), (0, .fieldref 10 16), (0, .nameAndType 17 18), (0, u "coder"), (0, u "B"), (2, u "hash"), (0, u "I"), (2, u "hashIsZero"), (0, u "Z"), (0, .methodref 10 28), (0, .nameAndType 5 29), (0, u "([CIILjava/lang/Void;)V"), (8, .fieldref 10 39), (0, .nameAndType 40 26), (0, u "COMPACT_STRINGS"), (1, .class_ 44), (1, u "java/lang/StringUTF16"), (0, u "compress"), (1, .methodref 42 48), (0, .nameAndType 49 50), (0, u "coderFromArrayLen"), (0, u "([BI)B"), (3, .methodref 55 56), (0, .class_ 57), (0, .nameAndType 58 59), (0, u "java/util/Arrays"), (0, u "copyOfRange"), (0, u "([BII)[B"), (47, .class_ 109), (1, u "java/lang/StringLatin1"), (32, u "()Z"), (34, .methodref 42 178), (0, .nameAndType 45 179), (0, u "([CII)[B"), (13, .class_ 195), (1, u "java/lang/System"), (16, .methodref 193 213), (0, .nameAndType 214 215), (0, u "arraycopy"), (0, u "(Ljava/lang/Object;ILjava/lang/Object;II)V"), (118, u "()I"), (0, .methodref 10 336), (0, .nameAndType 17 337), (0, u "()B"), (2, u "()[B"), (148, .methodref 10 490), (0, .nameAndType 5 491), (0, u "(Ljava/lang/AbstractStringBuilder;Ljava/lang/Void;)V"), (0, .methodref 10 493), (0, .nameAndType 494 142), (0, u "isLatin1"), (10, .methodref 10 506), (0, .nameAndType 507 334), (0, u "length"), (24, u "getBytes"), (8, .methodref 107 542), (0, .nameAndType 543 544), (0, u "equals"), (0, u "([B[B)Z"), (4, .methodref 550 506), (0, .class_ 551), (0, u "java/lang/AbstractStringBuilder"), (0, .methodref 550 553), (0, .nameAndType 554 340), (0, u "getValue"), (18, u "(Ljava/lang/Object;)Z"), (1, .class_ 576), (0, u "java/lang/CharSequence"), (22, u "CASE_INSENSITIVE_ORDER"), (0, u "Ljava/util/Comparator;"), (30, u "([B)I"), (60, u "isEmpty"), (128, u "([BIB)V"), (54, .methodref 10 877), (0, .nameAndType 878 334), (0, u "indexOfNonWhitespace"), (45, .methodref 107 925), (0, .nameAndType 878 631), (26, u "isBlank"), (57, u "([C)V"), (36, .methodref 550 493), (53, u "serialPersistentFields"), (0, u "[Ljava/io/ObjectStreamField;"), (0, .class_ 1104), (0, u "java/lang/String$CaseInsensitiveComparator"), (1, .class_ 1107), (0, u "java/io/Serializable"), (0, .class_ 1109), (0, u "java/lang/Comparable"), (0, .class_ 1111), (0, u "java/lang/constant/Constable"), (0, .class_ 1113), (0, u "java/lang/constant/ConstantDesc"), (2, u "serialVersionUID"), (0, u "J"), (3, u "REPL"), (0, u "C"), (2, u "LATIN1"), (1, u "UTF16"), (105, u "(Ljava/lang/StringBuilder;)V")] 217

def k10m0 : Method := { name := "<init>", desc := "()V", sig := { parameters := [], returnType := none }, accessFlags := 1, code := none }
def k10c1 : Code := { maxStack := 5, maxLocals := 2, code := jdk_42_method_3_code, exceptionTable := #[], attributes := #[] }
def k10m1 : Method := { name := "<init>", desc := "([C)V", sig := { parameters := [(.array .char)], returnType := none }, accessFlags := 1, code := some k10c1 }
def k10c2 : Code := { maxStack := 3, maxLocals := 2, code := jdk_42_method_53_code, exceptionTable := #[], attributes := #[] }
def k10m2 : Method := { name := "<init>", desc := "(Ljava/lang/StringBuilder;)V", sig := { parameters := [(.object "java/lang/StringBuilder")], returnType := none }, accessFlags := 1, code := some k10c2 }
def k10c3 : Code := { maxStack := 2, maxLocals := 1, code := jdk_42_method_54_code, exceptionTable := #[], attributes := #[] }
def k10m3 : Method := { name := "length", desc := "()I", sig := { parameters := [], returnType := some .int }, accessFlags := 1, code := some k10c3 }
def k10c4 : Code := { maxStack := 1, maxLocals := 1, code := jdk_42_method_55_code, exceptionTable := #[], attributes := #[] }
def k10m4 : Method := { name := "isEmpty", desc := "()Z", sig := { parameters := [], returnType := some .boolean }, accessFlags := 1, code := some k10c4 }
def k10c5 : Code := { maxStack := 2, maxLocals := 3, code := jdk_42_method_66_code, exceptionTable := #[], attributes := #[] }
def k10m5 : Method := { name := "equals", desc := "(Ljava/lang/Object;)Z", sig := { parameters := [(.object "java/lang/Object")], returnType := some .boolean }, accessFlags := 1, code := some k10c5 }
def k10c6 : Code := { maxStack := 2, maxLocals := 1, code := jdk_42_method_117_code, exceptionTable := #[], attributes := #[] }
def k10m6 : Method := { name := "isBlank", desc := "()Z", sig := { parameters := [], returnType := some .boolean }, accessFlags := 1, code := some k10c6 }
def k10c7 : Code := { maxStack := 1, maxLocals := 1, code := jdk_42_method_120_code, exceptionTable := #[], attributes := #[] }
def k10m7 : Method := { name := "indexOfNonWhitespace", desc := "()I", sig := { parameters := [], returnType := some .int }, accessFlags := 2, code := some k10c7 }
def k10c8 : Code := { maxStack := 5, maxLocals := 4, code := jdk_42_method_147_code, exceptionTable := #[], attributes := #[] }
def k10m8 : Method := { name := "getBytes", desc := "([BIB)V", sig := { parameters := [(.array .byte), .int, .byte], returnType := none }, accessFlags := 0, code := some k10c8 }
def k10c9 : Code := { maxStack := 4, maxLocals := 6, code := jdk_42_method_149_code, exceptionTable := #[], attributes := #[] }
def k10m9 : Method := { name := "<init>", desc := "([CIILjava/lang/Void;)V", sig := { parameters := [(.array .char), .int, .int, (.object "java/lang/Void")], returnType := none }, accessFlags := 2, code := some k10c9 }
def k10c10 : Code := { maxStack := 5, maxLocals := 5, code := jdk_42_method_150_code, exceptionTable := #[], attributes := #[] }
def k10m10 : Method := { name := "<init>", desc := "(Ljava/lang/AbstractStringBuilder;Ljava/lang/Void;)V", sig := { parameters := [(.object "java/lang/AbstractStringBuilder"), (.object "java/lang/Void")], returnType := none }, accessFlags := 0, code := some k10c10 }
def k10c11 : Code := { maxStack := 1, maxLocals := 1, code := jdk_42_method_152_code, exceptionTable := #[], attributes := #[] }
def k10m11 : Method := { name := "coder", desc := "()B", sig := { parameters := [], returnType := some .byte }, accessFlags := 0, code := some k10c11 }
def k10c12 : Code := { maxStack := 1, maxLocals := 1, code := jdk_42_method_154_code, exceptionTable := #[], attributes := #[] }
def k10m12 : Method := { name := "isLatin1", desc := "()Z", sig := { parameters := [], returnType := some .boolean }, accessFlags := 0, code := some k10c12 }
/-- java/lang/String -/
def k10 : Class := { plain "java/lang/String" (some 0) with
  accessFlags := 49
  interfaces := #[5, 6, 7, 8, 9]
  cf := some (fileOf pool10 10 #[.nestMembers #[1103]] #[{ accessFlags := 1, nameIndex := 5, descriptorIndex := 6, attributes := #[] }, { accessFlags := 1, nameIndex := 5, descriptorIndex := 1010, attributes := #[] }, { accessFlags := 1, nameIndex := 5, descriptorIndex := 1233, attributes := #[] }, { accessFlags := 1, nameIndex := 507, descriptorIndex := 334, attributes := #[] }, { accessFlags := 1, nameIndex := 692, descriptorIndex := 142, attributes := #[] }, { accessFlags := 1, nameIndex := 543, descriptorIndex := 573, attributes := #[] }, { accessFlags := 1, nameIndex := 952, descriptorIndex := 142, attributes := #[] }, { accessFlags := 2, nameIndex := 878, descriptorIndex := 334, attributes := #[] }, { accessFlags := 0, nameIndex := 532, descriptorIndex := 821, attributes := #[] }, { accessFlags := 2, nameIndex := 5, descriptorIndex := 29, attributes := #[] }, { accessFlags := 0, nameIndex := 5, descriptorIndex := 491, attributes := #[] }, { accessFlags := 0, nameIndex := 17, descriptorIndex := 337, attributes := #[] }, { accessFlags := 0, nameIndex := 494, descriptorIndex := 142, attributes := #[] }] 49 2 #[1106, 1108, 575, 1110, 1112] #[{ accessFlags := 18, nameIndex := 13, descriptorIndex := 14, attributes := #[] }, { accessFlags := 18, nameIndex := 17, descriptorIndex := 18, attributes := #[] }, { accessFlags := 2, nameIndex := 21, descriptorIndex := 22, attributes := #[] }, { accessFlags := 2, nameIndex := 25, descriptorIndex := 26, attributes := #[] }, { accessFlags := 26, nameIndex := 1116, descriptorIndex := 1117, attributes := #[] }, { accessFlags := 24, nameIndex := 40, descriptorIndex := 26, attributes := #[] }, { accessFlags := 26, nameIndex := 1101, descriptorIndex := 1102, attributes := #[] }, { accessFlags := 26, nameIndex := 1121, descriptorIndex := 1122, attributes := #[] }, { accessFlags := 25, nameIndex := 599, descriptorIndex := 600, attributes := #[] }, { accessFlags := 24, nameIndex := 1125, descriptorIndex := 18, attributes := #[] }, { accessFlags := 24, nameIndex := 1127, descriptorIndex := 18, attributes := #[] }])
  fields := #[{ name := "value", type := (.array .byte), accessFlags := 18, slot := 0, constantValue := 0 }, { name := "coder", type := .byte, accessFlags := 18, slot := 1, constantValue := 0 }, { name := "hash", type := .int, accessFlags := 2, slot := 2, constantValue := 0 }, { name := "hashIsZero", type := .boolean, accessFlags := 2, slot := 3, constantValue := 0 }, { name := "serialVersionUID", type := .long, accessFlags := 26, slot := 0, constantValue := 0 }, { name := "COMPACT_STRINGS", type := .boolean, accessFlags := 24, slot := 1, constantValue := 0 }, { name := "serialPersistentFields", type := (.array (.object "java/io/ObjectStreamField")), accessFlags := 26, slot := 2, constantValue := 0 }, { name := "REPL", type := .char, accessFlags := 26, slot := 3, constantValue := 0 }, { name := "CASE_INSENSITIVE_ORDER", type := (.object "java/util/Comparator"), accessFlags := 25, slot := 4, constantValue := 0 }, { name := "LATIN1", type := .byte, accessFlags := 24, slot := 5, constantValue := 0 }, { name := "UTF16", type := .byte, accessFlags := 24, slot := 6, constantValue := 0 }]
  methods := #[k10m0, k10m1, k10m2, k10m3, k10m4, k10m5, k10m6, k10m7, k10m8, k10m9, k10m10, k10m11, k10m12]
  instanceTypes := #[(.array .byte), .byte, .int, .boolean]
  staticTypes := #[.long, .boolean, (.array (.object "java/io/ObjectStreamField")), .char, (.object "java/util/Comparator"), .byte, .byte]
  resolved := Array.replicate 1451 none
  statics := some 0 }

def pool11 : Array CpInfo := pool [(6, .class_ 8), (1, u "java/lang/Object"), (0, u "<init>"), (0, u "()V"), (1, .class_ 14), (1, u "java/lang/StringUTF16"), (31, u "$assertionsDisabled"), (0, u "Z"), (13, u "HI_BYTE_SHIFT"), (0, u "I"), (2, u "LO_BYTE_SHIFT"), (49, .methodref 12 116), (0, .nameAndType 117 118), (0, u "compress"), (0, u "([CI[BII)I"), (3, u "([CII)[B"), (138, u "coderFromArrayLen"), (0, u "([BI)B"), (106, .class_ 371), (1, u "java/lang/StringUTF16$LinesSpliterator"), (58, u "MAX_LENGTH"), (196, .class_ 628), (0, u "java/lang/StringUTF16$CodePointsSpliterator"), (0, .class_ 630), (0, u "java/lang/StringUTF16$CharsSpliterator")] 4

def k11m0 : Method := { name := "<init>", desc := "()V", sig := { parameters := [], returnType := none }, accessFlags := 0, code := none }
def k11c1 : Code := { maxStack := 2, maxLocals := 2, code := jdk_52_method_15_code, exceptionTable := #[], attributes := #[] }
def k11m1 : Method := { name := "coderFromArrayLen", desc := "([BI)B", sig := { parameters := [(.array .byte), .int], returnType := some .byte }, accessFlags := 8, code := some k11c1 }
def k11c2 : Code := { maxStack := 5, maxLocals := 6, code := jdk_52_method_16_code, exceptionTable := #[], attributes := #[] }
def k11m2 : Method := { name := "compress", desc := "([CII)[B", sig := { parameters := [(.array .char), .int, .int], returnType := some (.array .byte) }, accessFlags := 9, code := some k11c2 }
def k11c3 : Code := { maxStack := 3, maxLocals := 7, code := jdk_52_method_21_code, exceptionTable := #[], attributes := #[] }
def k11m3 : Method := { name := "compress", desc := "([CI[BII)I", sig := { parameters := [(.array .char), .int, (.array .byte), .int, .int], returnType := some .int }, accessFlags := 9, code := some k11c3 }
/-- java/lang/StringUTF16 -/
def k11 : Class := { plain "java/lang/StringUTF16" (some 0) with
  accessFlags := 48
  interfaces := #[]
  cf := some (fileOf pool11 12 #[.nestMembers #[627, 629, 369]] #[{ accessFlags := 0, nameIndex := 9, descriptorIndex := 10, attributes := #[] }, { accessFlags := 8, nameIndex := 261, descriptorIndex := 262, attributes := #[] }, { accessFlags := 9, nameIndex := 117, descriptorIndex := 122, attributes := #[] }, { accessFlags := 9, nameIndex := 117, descriptorIndex := 118, attributes := #[] }] 48 6 #[] #[{ accessFlags := 26, nameIndex := 61, descriptorIndex := 62, attributes := #[] }, { accessFlags := 26, nameIndex := 65, descriptorIndex := 62, attributes := #[] }, { accessFlags := 24, nameIndex := 430, descriptorIndex := 62, attributes := #[] }, { accessFlags := 4120, nameIndex := 46, descriptorIndex := 47, attributes := #[] }])
  fields := #[{ name := "HI_BYTE_SHIFT", type := .int, accessFlags := 26, slot := 0, constantValue := 0 }, { name := "LO_BYTE_SHIFT", type := .int, accessFlags := 26, slot := 1, constantValue := 0 }, { name := "MAX_LENGTH", type := .int, accessFlags := 24, slot := 2, constantValue := 0 }, { name := "$assertionsDisabled", type := .boolean, accessFlags := 4120, slot := 3, constantValue := 0 }]
  methods := #[k11m0, k11m1, k11m2, k11m3]
  instanceTypes := #[]
  staticTypes := #[.int, .int, .int, .boolean]
  resolved := Array.replicate 635 none
  statics := none }

def pool12 : Array CpInfo := pool [(2, .class_ 4), (1, u "java/lang/Object"), (0, u "<init>"), (0, u "()V"), (35, .class_ 44), (1, u "java/util/Objects"), (0, u "requireNonNull"), (48, u "(Ljava/lang/Object;Ljava/lang/String;)Ljava/lang/Object;")] 89

def k12m0 : Method := { name := "<init>", desc := "()V", sig := { parameters := [], returnType := none }, accessFlags := 2, code := none }
def k12c1 : Code := { maxStack := 3, maxLocals := 2, code := jdk_31_method_11_code, exceptionTable := #[], attributes := #[] }
def k12m1 : Method := { name := "requireNonNull", desc := "(Ljava/lang/Object;Ljava/lang/String;)Ljava/lang/Object;", sig := { parameters := [(.object "java/lang/Object"), (.object "java/lang/String")], returnType := some (.object "java/lang/Object") }, accessFlags := 9, code := some k12c1 }
/-- java/util/Objects -/
def k12 : Class := { plain "java/util/Objects" (some 0) with
  accessFlags := 49
  interfaces := #[]
  cf := some (fileOf pool12 42 #[] #[{ accessFlags := 2, nameIndex := 5, descriptorIndex := 6, attributes := #[] }, { accessFlags := 9, nameIndex := 45, descriptorIndex := 94, attributes := #[] }] 49 2 #[] #[])
  fields := #[]
  methods := #[k12m0, k12m1]
  instanceTypes := #[]
  staticTypes := #[]
  resolved := Array.replicate 184 none
  statics := none }

def pool13 : Array CpInfo := pool [(4, .class_ 6), (1, u "java/lang/Object"), (0, u "<init>"), (0, u "()V"), (5, .class_ 16), (1, u "java/lang/StringLatin1"), (33, .methodref 14 51), (0, .nameAndType 52 53), (0, u "getChar"), (0, u "([BI)C"), (3, u "([B)I"), (8, .fieldref 67 68), (0, .class_ 69), (0, .nameAndType 70 71), (0, u "java/lang/CharacterDataLatin1"), (0, u "instance"), (0, u "Ljava/lang/CharacterDataLatin1;"), (19, u "(I)Z"), (29, u "$assertionsDisabled"), (0, u "Z"), (88, .methodref 67 212), (0, .nameAndType 213 91), (0, u "isWhitespace"), (2, u "indexOfNonWhitespace"), (4, .class_ 223), (1, u "java/lang/StringLatin1$LinesSpliterator"), (57, u "equals"), (0, u "([B[B)Z"), (107, .class_ 391), (0, u "java/lang/StringLatin1$CharsSpliterator")] 3

def k13m0 : Method := { name := "<init>", desc := "()V", sig := { parameters := [], returnType := none }, accessFlags := 0, code := none }
def k13c1 : Code := { maxStack := 3, maxLocals := 3, code := jdk_43_method_13_code, exceptionTable := #[], attributes := #[] }
def k13m1 : Method := { name := "equals", desc := "([B[B)Z", sig := { parameters := [(.array .byte), (.array .byte)], returnType := some .boolean }, accessFlags := 9, code := some k13c1 }
def k13c2 : Code := { maxStack := 2, maxLocals := 4, code := jdk_43_method_37_code, exceptionTable := #[], attributes := #[] }
def k13m2 : Method := { name := "indexOfNonWhitespace", desc := "([B)I", sig := { parameters := [(.array .byte)], returnType := some .int }, accessFlags := 9, code := some k13c2 }
def k13c3 : Code := { maxStack := 2, maxLocals := 2, code := jdk_43_method_44_code, exceptionTable := #[], attributes := #[] }
def k13m3 : Method := { name := "getChar", desc := "([BI)C", sig := { parameters := [(.array .byte), .int], returnType := some .char }, accessFlags := 9, code := some k13c3 }
/-- java/lang/StringLatin1 -/
def k13 : Class := { plain "java/lang/StringLatin1" (some 0) with
  accessFlags := 48
  interfaces := #[]
  cf := some (fileOf pool13 14 #[.nestMembers #[390, 221]] #[{ accessFlags := 0, nameIndex := 7, descriptorIndex := 8, attributes := #[] }, { accessFlags := 9, nameIndex := 281, descriptorIndex := 282, attributes := #[] }, { accessFlags := 9, nameIndex := 216, descriptorIndex := 57, attributes := #[] }, { accessFlags := 9, nameIndex := 52, descriptorIndex := 53, attributes := #[] }] 48 4 #[] #[{ accessFlags := 4120, nameIndex := 121, descriptorIndex := 122, attributes := #[] }])
  fields := #[{ name := "$assertionsDisabled", type := .boolean, accessFlags := 4120, slot := 0, constantValue := 0 }]
  methods := #[k13m0, k13m1, k13m2, k13m3]
  instanceTypes := #[]
  staticTypes := #[.boolean]
  resolved := Array.replicate 395 none
  statics := none }

def pool14 : Array CpInfo := pool [(2, .class_ 4), (1, u "java/lang/Object"), (0, u "<init>"), (0, u "()V"), (1, .class_ 10), (1, u "java/lang/CharacterData")] 75

def k14m0 : Method := { name := "<init>", desc := "()V", sig := { parameters := [], returnType := none }, accessFlags := 0, code := none }
/-- java/lang/CharacterData -/
def k14 : Class := { plain "java/lang/CharacterData" (some 0) with
  accessFlags := 1056
  interfaces := #[]
  cf := some (fileOf pool14 8 #[] #[{ accessFlags := 0, nameIndex := 5, descriptorIndex := 6, attributes := #[] }] 1056 2 #[] #[])
  fields := #[]
  methods := #[k14m0]
  instanceTypes := #[]
  staticTypes := #[]
  resolved := Array.replicate 86 none
  statics := none }

def pool15 : Array CpInfo := pool [(1, .fieldref 2 3), (0, .class_ 4), (0, .nameAndType 5 6), (0, u "java/lang/CharacterDataLatin1"), (0, u "A"), (0, u "[I"), (2, u "B"), (0, u "[C"), (3, u "(I)I"), (0, .methodref 2 16), (0, .nameAndType 17 14), (0, u "getProperties"), (3, u "(I)Z"), (5, u "DIGITS"), (0, u "[B"), (8, u "sharpsMap"), (1, .class_ 41), (1, u "java/lang/CharacterData"), (0, u "<init>"), (0, u "()V"), (3, u "instance"), (0, u "Ljava/lang/CharacterDataLatin1;"), (78, u "isWhitespace")] 13

def k15c0 : Code := { maxStack := 2, maxLocals := 4, code := jdk_116_method_1_code, exceptionTable := #[], attributes := #[] }
def k15m0 : Method := { name := "getProperties", desc := "(I)I", sig := { parameters := [.int], returnType := some .int }, accessFlags := 0, code := some k15c0 }
def k15c1 : Code := { maxStack := 2, maxLocals := 3, code := jdk_116_method_26_code, exceptionTable := #[], attributes := #[] }
def k15m1 : Method := { name := "isWhitespace", desc := "(I)Z", sig := { parameters := [.int], returnType := some .boolean }, accessFlags := 0, code := some k15c1 }
def k15m2 : Method := { name := "<init>", desc := "()V", sig := { parameters := [], returnType := none }, accessFlags := 2, code := none }
/-- java/lang/CharacterDataLatin1 -/
def k15 : Class := { plain "java/lang/CharacterDataLatin1" (some 14) with
  accessFlags := 32
  interfaces := #[]
  cf := some (fileOf pool15 2 #[] #[{ accessFlags := 0, nameIndex := 17, descriptorIndex := 14, attributes := #[] }, { accessFlags := 0, nameIndex := 127, descriptorIndex := 21, attributes := #[] }, { accessFlags := 2, nameIndex := 42, descriptorIndex := 43, attributes := #[] }] 32 39 #[] #[{ accessFlags := 26, nameIndex := 27, descriptorIndex := 28, attributes := #[] }, { accessFlags := 8, nameIndex := 37, descriptorIndex := 10, attributes := #[] }, { accessFlags := 24, nameIndex := 47, descriptorIndex := 48, attributes := #[] }, { accessFlags := 24, nameIndex := 5, descriptorIndex := 6, attributes := #[] }, { accessFlags := 24, nameIndex := 9, descriptorIndex := 10, attributes := #[] }])
  fields := #[{ name := "DIGITS", type := (.array .byte), accessFlags := 26, slot := 0, constantValue := 0 }, { name := "sharpsMap", type := (.array .char), accessFlags := 8, slot := 1, constantValue := 0 }, { name := "instance", type := (.object "java/lang/CharacterDataLatin1"), accessFlags := 24, slot := 2, constantValue := 0 }, { name := "A", type := (.array .int), accessFlags := 24, slot := 3, constantValue := 0 }, { name := "B", type := (.array .char), accessFlags := 24, slot := 4, constantValue := 0 }]
  methods := #[k15m0, k15m1, k15m2]
  instanceTypes := #[]
  staticTypes := #[(.array .byte), (.array .char), (.object "java/lang/CharacterDataLatin1"), (.array .int), (.array .char)]
  resolved := Array.replicate 141 none
  statics := some 1 }

def pool16 : Array CpInfo := pool [(1, .class_ 2), (0, u "java/lang/Appendable"), (0, .class_ 4), (0, u "java/lang/Object")] 9

/-- java/lang/Appendable -/
def k16 : Class := { plain "java/lang/Appendable" (some 0) with
  accessFlags := 1537
  interfaces := #[]
  cf := some (fileOf pool16 1 #[] #[] 1537 3 #[] #[])
  fields := #[]
  methods := #[]
  instanceTypes := #[]
  staticTypes := #[]
  resolved := Array.replicate 14 none
  statics := none }

def pool17 : Array CpInfo := pool [(1, .class_ 2), (0, u "java/lang/String"), (0, .methodref 4 5), (0, .class_ 6), (0, .nameAndType 7 8), (0, u "java/lang/Object"), (0, u "<init>"), (0, u "()V"), (1, .class_ 12), (1, u "java/lang/AbstractStringBuilder"), (0, u "EMPTYVALUE"), (0, u "[B"), (0, .fieldref 10 16), (0, .nameAndType 17 14), (0, u "value"), (0, .fieldref 1 19), (0, .nameAndType 20 21), (0, u "COMPACT_STRINGS"), (0, u "Z"), (0, .fieldref 10 23), (0, .nameAndType 24 25), (0, u "coder"), (0, u "B"), (6, .methodref 1 33), (0, .nameAndType 34 35), (0, u "length"), (0, u "()I"), (4, .methodref 1 41), (0, .nameAndType 24 42), (0, u "()B"), (2, u "append"), (0, u "(Ljava/lang/String;)Ljava/lang/AbstractStringBuilder;"), (1, .class_ 49), (0, u "java/lang/CharSequence"), (19, u "(Ljava/lang/String;)V"), (5, u "maybeLatin1"), (3, .fieldref 10 80), (0, .nameAndType 81 82), (0, u "count"), (0, u "I"), (2, u "isLatin1"), (0, u "()Z"), (13, .methodref 10 101), (0, .nameAndType 102 103), (0, u "ensureCapacityInternal"), (0, u "(I)V"), (104, .methodref 10 209), (0, .nameAndType 210 211), (0, u "putStringAt"), (0, u "(ILjava/lang/String;)V"), (5, u "inflateIfNeededFor"), (2, .nameAndType 221 222), (0, u "getBytes"), (0, u "([BIB)V"), (174, .methodref 10 398), (0, .nameAndType 217 69), (0, .methodref 1 220), (3, u "()[B"), (40, .class_ 445), (0, u "java/lang/Appendable"), (106, u "getValue")] 56

def k17m0 : Method := { name := "<init>", desc := "()V", sig := { parameters := [], returnType := none }, accessFlags := 0, code := none }
def k17c1 : Code := { maxStack := 2, maxLocals := 2, code := jdk_68_method_2_code, exceptionTable := #[], attributes := #[] }
def k17m1 : Method := { name := "<init>", desc := "(I)V", sig := { parameters := [.int], returnType := none }, accessFlags := 0, code := some k17c1 }
def k17c2 : Code := { maxStack := 1, maxLocals := 1, code := jdk_68_method_6_code, exceptionTable := #[], attributes := #[] }
def k17m2 : Method := { name := "length", desc := "()I", sig := { parameters := [], returnType := some .int }, accessFlags := 1, code := some k17c2 }
def k17c3 : Code := { maxStack := 4, maxLocals := 3, code := jdk_68_method_9_code, exceptionTable := #[], attributes := #[] }
def k17m3 : Method := { name := "ensureCapacityInternal", desc := "(I)V", sig := { parameters := [.int], returnType := none }, accessFlags := 2, code := some k17c3 }
def k17c4 : Code := { maxStack := 3, maxLocals := 3, code := jdk_68_method_22_code, exceptionTable := #[], attributes := #[] }
def k17m4 : Method := { name := "append", desc := "(Ljava/lang/String;)Ljava/lang/AbstractStringBuilder;", sig := { parameters := [(.object "java/lang/String")], returnType := some (.object "java/lang/AbstractStringBuilder") }, accessFlags := 1, code := some k17c4 }
def k17c5 : Code := { maxStack := 1, maxLocals := 1, code := jdk_68_method_64_code, exceptionTable := #[], attributes := #[] }
def k17m5 : Method := { name := "getValue", desc := "()[B", sig := { parameters := [], returnType := some (.array .byte) }, accessFlags := 16, code := some k17c5 }
def k17c6 : Code := { maxStack := 1, maxLocals := 1, code := jdk_68_method_68_code, exceptionTable := #[], attributes := #[] }
def k17m6 : Method := { name := "isLatin1", desc := "()Z", sig := { parameters := [], returnType := some .boolean }, accessFlags := 16, code := some k17c6 }
def k17c7 : Code := { maxStack := 2, maxLocals := 2, code := jdk_68_method_71_code, exceptionTable := #[], attributes := #[] }
def k17m7 : Method := { name := "inflateIfNeededFor", desc := "(Ljava/lang/String;)V", sig := { parameters := [(.object "java/lang/String")], returnType := none }, accessFlags := 2, code := some k17c7 }
def k17c8 : Code := { maxStack := 4, maxLocals := 3, code := jdk_68_method_73_code, exceptionTable := #[], attributes := #[] }
def k17m8 : Method := { name := "putStringAt", desc := "(ILjava/lang/String;)V", sig := { parameters := [.int, (.object "java/lang/String")], returnType := none }, accessFlags := 2, code := some k17c8 }
/-- java/lang/AbstractStringBuilder -/
def k17 : Class := { plain "java/lang/AbstractStringBuilder" (some 0) with
  accessFlags := 1056
  interfaces := #[16, 7]
  cf := some (fileOf pool17 10 #[] #[{ accessFlags := 0, nameIndex := 7, descriptorIndex := 8, attributes := #[] }, { accessFlags := 0, nameIndex := 7, descriptorIndex := 103, attributes := #[] }, { accessFlags := 1, nameIndex := 34, descriptorIndex := 35, attributes := #[] }, { accessFlags := 2, nameIndex := 102, descriptorIndex := 103, attributes := #[] }, { accessFlags := 1, nameIndex := 45, descriptorIndex := 46, attributes := #[] }, { accessFlags := 16, nameIndex := 552, descriptorIndex := 403, attributes := #[] }, { accessFlags := 16, nameIndex := 85, descriptorIndex := 86, attributes := #[] }, { accessFlags := 2, nameIndex := 217, descriptorIndex := 69, attributes := #[] }, { accessFlags := 2, nameIndex := 210, descriptorIndex := 211, attributes := #[] }] 1056 4 #[444, 48] #[{ accessFlags := 0, nameIndex := 17, descriptorIndex := 14, attributes := #[] }, { accessFlags := 0, nameIndex := 24, descriptorIndex := 25, attributes := #[] }, { accessFlags := 0, nameIndex := 75, descriptorIndex := 21, attributes := #[] }, { accessFlags := 0, nameIndex := 81, descriptorIndex := 82, attributes := #[] }, { accessFlags := 26, nameIndex := 13, descriptorIndex := 14, attributes := #[] }])
  fields := #[{ name := "value", type := (.array .byte), accessFlags := 0, slot := 0, constantValue := 0 }, { name := "coder", type := .byte, accessFlags := 0, slot := 1, constantValue := 0 }, { name := "maybeLatin1", type := .boolean, accessFlags := 0, slot := 2, constantValue := 0 }, { name := "count", type := .int, accessFlags := 0, slot := 3, constantValue := 0 }, { name := "EMPTYVALUE", type := (.array .byte), accessFlags := 26, slot := 0, constantValue := 0 }]
  methods := #[k17m0, k17m1, k17m2, k17m3, k17m4, k17m5, k17m6, k17m7, k17m8]
  instanceTypes := #[(.array .byte), .byte, .boolean, .int]
  staticTypes := #[(.array .byte)]
  resolved := Array.replicate 609 none
  statics := none }

def pool18 : Array CpInfo := pool [(1, .methodref 2 3), (0, .class_ 4), (0, .nameAndType 5 6), (0, u "java/lang/AbstractStringBuilder"), (0, u "<init>"), (0, u "(I)V"), (11, .class_ 20), (1, u "java/lang/String"), (3, .class_ 26), (1, u "java/lang/StringBuilder"), (0, u "append"), (0, u "(Ljava/lang/String;)Ljava/lang/StringBuilder;"), (0, .methodref 2 30), (0, .nameAndType 27 31), (0, u "(Ljava/lang/String;)Ljava/lang/AbstractStringBuilder;"), (105, .methodref 18 138), (0, .nameAndType 5 139), (0, u "(Ljava/lang/StringBuilder;)V"), (5, u "()V"), (10, u "()I"), (186, .methodref 2 344), (0, .nameAndType 345 156), (0, u "length"), (3, .class_ 350), (0, u "java/lang/Appendable"), (0, .class_ 352), (0, u "java/io/Serializable"), (0, .class_ 354), (0, u "java/lang/Comparable"), (0, .class_ 356), (0, u "java/lang/CharSequence"), (0, u "serialVersionUID"), (0, u "J"), (40, u "toString"), (0, u "()Ljava/lang/String;")] 21

def k18c0 : Code := { maxStack := 2, maxLocals := 1, code := jdk_67_method_1_code, exceptionTable := #[], attributes := #[] }
def k18m0 : Method := { name := "<init>", desc := "()V", sig := { parameters := [], returnType := none }, accessFlags := 1, code := some k18c0 }
def k18c1 : Code := { maxStack := 2, maxLocals := 2, code := jdk_67_method_7_code, exceptionTable := #[], attributes := #[] }
def k18m1 : Method := { name := "append", desc := "(Ljava/lang/String;)Ljava/lang/StringBuilder;", sig := { parameters := [(.object "java/lang/String")], returnType := some (.object "java/lang/StringBuilder") }, accessFlags := 1, code := some k18c1 }
def k18c2 : Code := { maxStack := 3, maxLocals := 1, code := jdk_67_method_42_code, exceptionTable := #[], attributes := #[] }
def k18m2 : Method := { name := "toString", desc := "()Ljava/lang/String;", sig := { parameters := [], returnType := some (.object "java/lang/String") }, accessFlags := 1, code := some k18c2 }
def k18c3 : Code := { maxStack := 1, maxLocals := 1, code := jdk_67_method_93_code, exceptionTable := #[], attributes := #[] }
def k18m3 : Method := { name := "length", desc := "()I", sig := { parameters := [], returnType := some .int }, accessFlags := 4161, code := some k18c3 }
/-- java/lang/StringBuilder -/
def k18 : Class := { plain "java/lang/StringBuilder" (some 17) with
  accessFlags := 49
  interfaces := #[16, 5, 6, 7]
  cf := some (fileOf pool18 24 #[] #[{ accessFlags := 1, nameIndex := 5, descriptorIndex := 145, attributes := #[] }, { accessFlags := 1, nameIndex := 27, descriptorIndex := 28, attributes := #[] }, { accessFlags := 1, nameIndex := 399, descriptorIndex := 400, attributes := #[] }, { accessFlags := 4161, nameIndex := 345, descriptorIndex := 156, attributes := #[] }] 49 2 #[349, 351, 353, 355] #[{ accessFlags := 24, nameIndex := 357, descriptorIndex := 358, attributes := #[] }])
  fields := #[{ name := "serialVersionUID", type := .long, accessFlags := 24, slot := 0, constantValue := 0 }]
  methods := #[k18m0, k18m1, k18m2, k18m3]
  instanceTypes := #[(.array .byte), .byte, .boolean, .int]
  staticTypes := #[.long]
  resolved := Array.replicate 422 none
  statics := none }

def pool19 : Array CpInfo := pool [(2, .class_ 4), (1, u "java/lang/Object"), (0, u "<init>"), (0, u "()V"), (1, .class_ 10), (1, u "java/lang/System"), (0, u "allowSecurityManager"), (0, u "I"), (16, u "cons"), (0, u "Ljava/io/Console;"), (77, .class_ 110), (1, u "java/lang/System$CallersHolder"), (43, u "initialErrStream"), (0, u "Ljava/io/PrintStream;"), (19, u "security"), (0, u "Ljava/lang/SecurityManager;"), (31, .class_ 209), (0, u "java/lang/System$1"), (7, u "props"), (0, u "Ljava/util/Properties;"), (2, u "lineSeparator"), (0, u "Ljava/lang/String;"), (96, .class_ 321), (1, u "java/lang/System$LoggerFinder"), (5, .class_ 328), (0, u "java/lang/System$Logger"), (67, u "err"), (2, u "out"), (91, u "notSupportedJnuEncoding"), (15, u "in"), (17, u "initialIn"), (0, u "Ljava/io/InputStream;"), (35, u "bootLayer"), (0, u "Ljava/lang/ModuleLayer;"), (99, .class_ 664), (0, u "java/lang/System$2"), (9, u "NEVER"), (2, u "MAYBE"), (49, u "arraycopy"), (0, u "(Ljava/lang/Object;ILjava/lang/Object;II)V"), (72, .class_ 802), (0, u "java/lang/System$Logger$Level")] 31

def k19m0 : Method := { name := "<init>", desc := "()V", sig := { parameters := [], returnType := none }, accessFlags := 2, code := none }
def k19m1 : Method := { name := "arraycopy", desc := "(Ljava/lang/Object;ILjava/lang/Object;II)V", sig := { parameters := [(.object "java/lang/Object"), .int, (.object "java/lang/Object"), .int, .int], returnType := none }, accessFlags := 265, code := none }
/-- java/lang/System -/
def k19 : Class := { plain "java/lang/System" (some 0) with
  accessFlags := 49
  interfaces := #[]
  cf := some (fileOf pool19 8 #[.nestMembers #[319, 327, 801, 108, 663, 208]] #[{ accessFlags := 2, nameIndex := 5, descriptorIndex := 6, attributes := #[] }, { accessFlags := 265, nameIndex := 727, descriptorIndex := 728, attributes := #[] }] 49 2 #[] #[{ accessFlags := 25, nameIndex := 507, descriptorIndex := 526, attributes := #[] }, { accessFlags := 25, nameIndex := 399, descriptorIndex := 155, attributes := #[] }, { accessFlags := 25, nameIndex := 396, descriptorIndex := 155, attributes := #[] }, { accessFlags := 10, nameIndex := 525, descriptorIndex := 526, attributes := #[] }, { accessFlags := 26, nameIndex := 674, descriptorIndex := 12, attributes := #[] }, { accessFlags := 26, nameIndex := 677, descriptorIndex := 12, attributes := #[] }, { accessFlags := 10, nameIndex := 11, descriptorIndex := 12, attributes := #[] }, { accessFlags := 74, nameIndex := 175, descriptorIndex := 176, attributes := #[] }, { accessFlags := 10, nameIndex := 491, descriptorIndex := 222, attributes := #[] }, { accessFlags := 74, nameIndex := 29, descriptorIndex := 30, attributes := #[] }, { accessFlags := 74, nameIndex := 154, descriptorIndex := 155, attributes := #[] }, { accessFlags := 10, nameIndex := 217, descriptorIndex := 218, attributes := #[] }, { accessFlags := 10, nameIndex := 221, descriptorIndex := 222, attributes := #[] }, { accessFlags := 8, nameIndex := 562, descriptorIndex := 563, attributes := #[] }])
  fields := #[{ name := "in", type := (.object "java/io/InputStream"), accessFlags := 25, slot := 0, constantValue := 0 }, { name := "out", type := (.object "java/io/PrintStream"), accessFlags := 25, slot := 1, constantValue := 0 }, { name := "err", type := (.object "java/io/PrintStream"), accessFlags := 25, slot := 2, constantValue := 0 }, { name := "initialIn", type := (.object "java/io/InputStream"), accessFlags := 10, slot := 3, constantValue := 0 }, { name := "NEVER", type := .int, accessFlags := 26, slot := 4, constantValue := 0 }, { name := "MAYBE", type := .int, accessFlags := 26, slot := 5, constantValue := 0 }, { name := "allowSecurityManager", type := .int, accessFlags := 10, slot := 6, constantValue := 0 }, { name := "security", type := (.object "java/lang/SecurityManager"), accessFlags := 74, slot := 7, constantValue := 0 }, { name := "notSupportedJnuEncoding", type := (.object "java/lang/String"), accessFlags := 10, slot := 8, constantValue := 0 }, { name := "cons", type := (.object "java/io/Console"), accessFlags := 74, slot := 9, constantValue := 0 }, { name := "initialErrStream", type := (.object "java/io/PrintStream"), accessFlags := 74, slot := 10, constantValue := 0 }, { name := "props", type := (.object "java/util/Properties"), accessFlags := 10, slot := 11, constantValue := 0 }, { name := "lineSeparator", type := (.object "java/lang/String"), accessFlags := 10, slot := 12, constantValue := 0 }, { name := "bootLayer", type := (.object "java/lang/ModuleLayer"), accessFlags := 8, slot := 13, constantValue := 0 }]
  methods := #[k19m0, k19m1]
  instanceTypes := #[]
  staticTypes := #[(.object "java/io/InputStream"), (.object "java/io/PrintStream"), (.object "java/io/PrintStream"), (.object "java/io/InputStream"), .int, .int, .int, (.object "java/lang/SecurityManager"), (.object "java/lang/String"), (.object "java/io/Console"), (.object "java/io/PrintStream"), (.object "java/util/Properties"), (.object "java/lang/String"), (.object "java/lang/ModuleLayer")]
  resolved := Array.replicate 834 none
  statics := none }

def pool20 : Array CpInfo := pool [(2, .class_ 4), (1, u "java/lang/Object"), (0, u "<init>"), (0, u "()V"), (7, .class_ 16), (1, u "java/util/Arrays"), (57, .class_ 76), (1, u "java/util/Arrays$NaturalOrder"), (36, .class_ 115), (1, u "java/util/Arrays$LegacyMergeSort"), (1, u "Z"), (21, u "copyOfRange"), (10, .methodref 151 152), (0, .class_ 153), (0, .nameAndType 154 155), (0, u "java/lang/System"), (0, u "arraycopy"), (0, u "(Ljava/lang/Object;ILjava/lang/Object;II)V"), (148, .methodref 305 306), (0, .class_ 307), (0, .nameAndType 308 309), (0, u "java/lang/Math"), (0, u "min"), (0, u "(II)I"), (29, .methodref 14 340), (0, .nameAndType 341 342), (0, u "copyOfRangeByte"), (0, u "([BII)[B"), (0, .methodref 14 344), (0, .nameAndType 345 346), (0, u "checkLength"), (0, u "(II)V"), (28, .class_ 376), (0, u "java/util/Arrays$ArrayList"), (68, u "$assertionsDisabled"), (269, u "MIN_ARRAY_SORT_GRAN"), (0, u "I"), (2, u "INSERTIONSORT_THRESHOLD"), (255, .class_ 976), (0, u "java/util/Arrays$ArrayItr")] 52

def k20m0 : Method := { name := "<init>", desc := "()V", sig := { parameters := [], returnType := none }, accessFlags := 2, code := none }
def k20c1 : Code := { maxStack := 4, maxLocals := 2, code := jdk_65_method_131_code, exceptionTable := #[], attributes := #[] }
def k20m1 : Method := { name := "checkLength", desc := "(II)V", sig := { parameters := [.int, .int], returnType := none }, accessFlags := 10, code := some k20c1 }
def k20c2 : Code := { maxStack := 3, maxLocals := 3, code := jdk_65_method_132_code, exceptionTable := #[], attributes := #[] }
def k20m2 : Method := { name := "copyOfRange", desc := "([BII)[B", sig := { parameters := [(.array .byte), .int, .int], returnType := some (.array .byte) }, accessFlags := 9, code := some k20c2 }
def k20c3 : Code := { maxStack := 6, maxLocals := 5, code := jdk_65_method_133_code, exceptionTable := #[], attributes := #[] }
def k20m3 : Method := { name := "copyOfRangeByte", desc := "([BII)[B", sig := { parameters := [(.array .byte), .int, .int], returnType := some (.array .byte) }, accessFlags := 10, code := some k20c3 }
/-- java/util/Arrays -/
def k20 : Class := { plain "java/util/Arrays" (some 0) with
  accessFlags := 49
  interfaces := #[]
  cf := some (fileOf pool20 14 #[.nestMembers #[975, 375, 113, 74]] #[{ accessFlags := 2, nameIndex := 5, descriptorIndex := 6, attributes := #[] }, { accessFlags := 10, nameIndex := 345, descriptorIndex := 346, attributes := #[] }, { accessFlags := 9, nameIndex := 139, descriptorIndex := 342, attributes := #[] }, { accessFlags := 10, nameIndex := 341, descriptorIndex := 342, attributes := #[] }] 49 2 #[] #[{ accessFlags := 26, nameIndex := 715, descriptorIndex := 716, attributes := #[] }, { accessFlags := 26, nameIndex := 719, descriptorIndex := 716, attributes := #[] }, { accessFlags := 4120, nameIndex := 445, descriptorIndex := 117, attributes := #[] }])
  fields := #[{ name := "MIN_ARRAY_SORT_GRAN", type := .int, accessFlags := 26, slot := 0, constantValue := 0 }, { name := "INSERTIONSORT_THRESHOLD", type := .int, accessFlags := 26, slot := 1, constantValue := 0 }, { name := "$assertionsDisabled", type := .boolean, accessFlags := 4120, slot := 2, constantValue := 0 }]
  methods := #[k20m0, k20m1, k20m2, k20m3]
  instanceTypes := #[]
  staticTypes := #[.int, .int, .boolean]
  resolved := Array.replicate 1029 none
  statics := none }

def pool21 : Array CpInfo := pool [(1, .class_ 2), (0, u "java/lang/Math"), (1, .class_ 6), (1, u "java/lang/Object"), (0, u "<init>"), (0, u "()V"), (89, .class_ 100), (1, u "java/lang/Math$RandomNumberGeneratorHolder"), (71, u "negativeZeroFloatBits"), (0, u "J"), (2, u "negativeZeroDoubleBits"), (24, u "min"), (43, u "$assertionsDisabled"), (0, u "Z"), (88, u "(II)I"), (2, u "twoToTheDoubleScaleDown"), (0, u "D"), (4, u "twoToTheDoubleScaleUp"), (9, u "E"), (3, u "PI"), (2, u "TAU"), (2, u "DEGREES_TO_RADIANS"), (0, u "RADIANS_TO_DEGREES")] 94

def k21m0 : Method := { name := "<init>", desc := "()V", sig := { parameters := [], returnType := none }, accessFlags := 2, code := none }
def k21c1 : Code := { maxStack := 2, maxLocals := 2, code := jdk_29_method_69_code, exceptionTable := #[], attributes := #[] }
def k21m1 : Method := { name := "min", desc := "(II)I", sig := { parameters := [.int, .int], returnType := some .int }, accessFlags := 9, code := some k21c1 }
/-- java/lang/Math -/
def k21 : Class := { plain "java/lang/Math" (some 0) with
  accessFlags := 49
  interfaces := #[]
  cf := some (fileOf pool21 1 #[.nestMembers #[98]] #[{ accessFlags := 2, nameIndex := 7, descriptorIndex := 8, attributes := #[] }, { accessFlags := 9, nameIndex := 201, descriptorIndex := 335, attributes := #[] }] 49 4 #[] #[{ accessFlags := 25, nameIndex := 354, descriptorIndex := 339, attributes := #[] }, { accessFlags := 25, nameIndex := 358, descriptorIndex := 339, attributes := #[] }, { accessFlags := 25, nameIndex := 361, descriptorIndex := 339, attributes := #[] }, { accessFlags := 26, nameIndex := 364, descriptorIndex := 339, attributes := #[] }, { accessFlags := 26, nameIndex := 365, descriptorIndex := 339, attributes := #[] }, { accessFlags := 26, nameIndex := 172, descriptorIndex := 173, attributes := #[] }, { accessFlags := 26, nameIndex := 176, descriptorIndex := 173, attributes := #[] }, { accessFlags := 8, nameIndex := 344, descriptorIndex := 339, attributes := #[] }, { accessFlags := 8, nameIndex := 338, descriptorIndex := 339, attributes := #[] }, { accessFlags := 4120, nameIndex := 245, descriptorIndex := 246, attributes := #[] }])
  fields := #[{ name := "E", type := .double, accessFlags := 25, slot := 0, constantValue := 0 }, { name := "PI", type := .double, accessFlags := 25, slot := 1, constantValue := 0 }, { name := "TAU", type := .double, accessFlags := 25, slot := 2, constantValue := 0 }, { name := "DEGREES_TO_RADIANS", type := .double, accessFlags := 26, slot := 3, constantValue := 0 }, { name := "RADIANS_TO_DEGREES", type := .double, accessFlags := 26, slot := 4, constantValue := 0 }, { name := "negativeZeroFloatBits", type := .long, accessFlags := 26, slot := 5, constantValue := 0 }, { name := "negativeZeroDoubleBits", type := .long, accessFlags := 26, slot := 6, constantValue := 0 }, { name := "twoToTheDoubleScaleUp", type := .double, accessFlags := 8, slot := 7, constantValue := 0 }, { name := "twoToTheDoubleScaleDown", type := .double, accessFlags := 8, slot := 8, constantValue := 0 }, { name := "$assertionsDisabled", type := .boolean, accessFlags := 4120, slot := 9, constantValue := 0 }]
  methods := #[k21m0, k21m1]
  instanceTypes := #[]
  staticTypes := #[.double, .double, .double, .double, .double, .long, .long, .double, .double, .boolean]
  resolved := Array.replicate 460 none
  statics := none }

def pool22 : Array CpInfo := pool [(2, .class_ 4), (1, u "java/lang/Object"), (0, u "<init>"), (0, u "()V"), (17, .class_ 26), (1, u "jdk/internal/util/Preconditions"), (28, .class_ 56), (0, u "jdk/internal/util/Preconditions$4"), (57, .class_ 115), (0, u "jdk/internal/util/Preconditions$1"), (7, u "SIOOBE_FORMATTER"), (0, u "Ljava/util/function/BiFunction;"), (0, .class_ 126), (0, u "jdk/internal/util/Preconditions$2"), (3, u "AIOOBE_FORMATTER"), (0, .class_ 132), (0, u "jdk/internal/util/Preconditions$3"), (3, u "IOOBE_FORMATTER")] 57

def k22m0 : Method := { name := "<init>", desc := "()V", sig := { parameters := [], returnType := none }, accessFlags := 1, code := none }
/-- jdk/internal/util/Preconditions -/
def k22 : Class := { plain "jdk/internal/util/Preconditions" (some 0) with
  accessFlags := 33
  interfaces := #[]
  cf := some (fileOf pool22 24 #[.nestMembers #[55, 131, 125, 114]] #[{ accessFlags := 1, nameIndex := 5, descriptorIndex := 6, attributes := #[] }] 33 2 #[] #[{ accessFlags := 25, nameIndex := 123, descriptorIndex := 124, attributes := #[] }, { accessFlags := 25, nameIndex := 130, descriptorIndex := 124, attributes := #[] }, { accessFlags := 25, nameIndex := 136, descriptorIndex := 124, attributes := #[] }])
  fields := #[{ name := "SIOOBE_FORMATTER", type := (.object "java/util/function/BiFunction"), accessFlags := 25, slot := 0, constantValue := 0 }, { name := "AIOOBE_FORMATTER", type := (.object "java/util/function/BiFunction"), accessFlags := 25, slot := 1, constantValue := 0 }, { name := "IOOBE_FORMATTER", type := (.object "java/util/function/BiFunction"), accessFlags := 25, slot := 2, constantValue := 0 }]
  methods := #[k22m0]
  instanceTypes := #[]
  staticTypes := #[(.object "java/util/function/BiFunction"), (.object "java/util/function/BiFunction"), (.object "java/util/function/BiFunction")]
  resolved := Array.replicate 194 none
  statics := some 2 }

def pool23 : Array CpInfo := pool [(9, u "<init>"), (6, .class_ 18), (1, u "java/lang/Object"), (0, u "()V"), (1, .class_ 23), (1, u "jdk/internal/util/ArraysSupport"), (0, u "LOG2_ARRAY_LONG_INDEX_SCALE"), (0, u "I"), (2, u "U"), (0, u "Ljdk/internal/misc/Unsafe;"), (8, u "BIG_ENDIAN"), (0, u "Z"), (8, u "LOG2_BYTE_BIT_SIZE"), (4, u "LOG2_ARRAY_INT_INDEX_SCALE"), (54, u "JLA"), (0, u "Ljdk/internal/access/JavaLangAccess;"), (11, u "LOG2_ARRAY_BOOLEAN_INDEX_SCALE"), (9, u "LOG2_ARRAY_BYTE_INDEX_SCALE"), (5, u "LOG2_ARRAY_CHAR_INDEX_SCALE"), (5, u "LOG2_ARRAY_SHORT_INDEX_SCALE"), (18, u "LOG2_ARRAY_FLOAT_INDEX_SCALE"), (24, u "LOG2_ARRAY_DOUBLE_INDEX_SCALE"), (89, u "T_BOOLEAN"), (2, u "T_CHAR"), (1, u "T_FLOAT"), (1, u "T_DOUBLE"), (1, u "T_BYTE"), (1, u "T_SHORT"), (1, u "T_INT"), (1, u "T_LONG"), (1, u "SOFT_MAX_ARRAY_LENGTH")] 83

def k23m0 : Method := { name := "<init>", desc := "()V", sig := { parameters := [], returnType := none }, accessFlags := 2, code := none }
/-- jdk/internal/util/ArraysSupport -/
def k23 : Class := { plain "jdk/internal/util/ArraysSupport" (some 0) with
  accessFlags := 33
  interfaces := #[]
  cf := some (fileOf pool23 21 #[] #[{ accessFlags := 2, nameIndex := 9, descriptorIndex := 19, attributes := #[] }] 33 16 #[] #[{ accessFlags := 24, nameIndex := 28, descriptorIndex := 29, attributes := #[] }, { accessFlags := 26, nameIndex := 38, descriptorIndex := 39, attributes := #[] }, { accessFlags := 25, nameIndex := 121, descriptorIndex := 25, attributes := #[] }, { accessFlags := 25, nameIndex := 131, descriptorIndex := 25, attributes := #[] }, { accessFlags := 25, nameIndex := 137, descriptorIndex := 25, attributes := #[] }, { accessFlags := 25, nameIndex := 143, descriptorIndex := 25, attributes := #[] }, { accessFlags := 25, nameIndex := 53, descriptorIndex := 25, attributes := #[] }, { accessFlags := 25, nameIndex := 24, descriptorIndex := 25, attributes := #[] }, { accessFlags := 25, nameIndex := 162, descriptorIndex := 25, attributes := #[] }, { accessFlags := 25, nameIndex := 187, descriptorIndex := 25, attributes := #[] }, { accessFlags := 26, nameIndex := 48, descriptorIndex := 25, attributes := #[] }, { accessFlags := 25, nameIndex := 277, descriptorIndex := 25, attributes := #[] }, { accessFlags := 25, nameIndex := 280, descriptorIndex := 25, attributes := #[] }, { accessFlags := 25, nameIndex := 282, descriptorIndex := 25, attributes := #[] }, { accessFlags := 25, nameIndex := 284, descriptorIndex := 25, attributes := #[] }, { accessFlags := 25, nameIndex := 286, descriptorIndex := 25, attributes := #[] }, { accessFlags := 25, nameIndex := 288, descriptorIndex := 25, attributes := #[] }, { accessFlags := 25, nameIndex := 290, descriptorIndex := 25, attributes := #[] }, { accessFlags := 25, nameIndex := 292, descriptorIndex := 25, attributes := #[] }, { accessFlags := 26, nameIndex := 108, descriptorIndex := 109, attributes := #[] }, { accessFlags := 25, nameIndex := 294, descriptorIndex := 25, attributes := #[] }])
  fields := #[{ name := "U", type := (.object "jdk/internal/misc/Unsafe"), accessFlags := 24, slot := 0, constantValue := 0 }, { name := "BIG_ENDIAN", type := .boolean, accessFlags := 26, slot := 1, constantValue := 0 }, { name := "LOG2_ARRAY_BOOLEAN_INDEX_SCALE", type := .int, accessFlags := 25, slot := 2, constantValue := 0 }, { name := "LOG2_ARRAY_BYTE_INDEX_SCALE", type := .int, accessFlags := 25, slot := 3, constantValue := 0 }, { name := "LOG2_ARRAY_CHAR_INDEX_SCALE", type := .int, accessFlags := 25, slot := 4, constantValue := 0 }, { name := "LOG2_ARRAY_SHORT_INDEX_SCALE", type := .int, accessFlags := 25, slot := 5, constantValue := 0 }, { name := "LOG2_ARRAY_INT_INDEX_SCALE", type := .int, accessFlags := 25, slot := 6, constantValue := 0 }, { name := "LOG2_ARRAY_LONG_INDEX_SCALE", type := .int, accessFlags := 25, slot := 7, constantValue := 0 }, { name := "LOG2_ARRAY_FLOAT_INDEX_SCALE", type := .int, accessFlags := 25, slot := 8, constantValue := 0 }, { name := "LOG2_ARRAY_DOUBLE_INDEX_SCALE", type := .int, accessFlags := 25, slot := 9, constantValue := 0 }, { name := "LOG2_BYTE_BIT_SIZE", type := .int, accessFlags := 26, slot := 10, constantValue := 0 }, { name := "T_BOOLEAN", type := .int, accessFlags := 25, slot := 11, constantValue := 0 }, { name := "T_CHAR", type := .int, accessFlags := 25, slot := 12, constantValue := 0 }, { name := "T_FLOAT", type := .int, accessFlags := 25, slot := 13, constantValue := 0 }, { name := "T_DOUBLE", type := .int, accessFlags := 25, slot := 14, constantValue := 0 }, { name := "T_BYTE", type := .int, accessFlags := 25, slot := 15, constantValue := 0 }, { name := "T_SHORT", type := .int, accessFlags := 25, slot := 16, constantValue := 0 }, { name := "T_INT", type := .int, accessFlags := 25, slot := 17, constantValue := 0 }, { name := "T_LONG", type := .int, accessFlags := 25, slot := 18, constantValue := 0 }, { name := "JLA", type := (.object "jdk/internal/access/JavaLangAccess"), accessFlags := 26, slot := 19, constantValue := 0 }, { name := "SOFT_MAX_ARRAY_LENGTH", type := .int, accessFlags := 25, slot := 20, constantValue := 0 }]
  methods := #[k23m0]
  instanceTypes := #[]
  staticTypes := #[(.object "jdk/internal/misc/Unsafe"), .boolean, .int, .int, .int, .int, .int, .int, .int, .int, .int, .int, .int, .int, .int, .int, .int, .int, .int, (.object "jdk/internal/access/JavaLangAccess"), .int]
  resolved := Array.replicate 378 none
  statics := none }

def pool24 : Array CpInfo := pool [(1, u "java/lang/Cloneable"), (0, .class_ 1), (0, u "java/lang/Object"), (0, .class_ 3)] 3

/-- java/lang/Cloneable -/
def k24 : Class := { plain "java/lang/Cloneable" (some 0) with
  accessFlags := 1537
  interfaces := #[]
  cf := some (fileOf pool24 2 #[] #[] 1537 4 #[] #[])
  fields := #[]
  methods := #[]
  instanceTypes := #[]
  staticTypes := #[]
  resolved := Array.replicate 8 none
  statics := none }

/-- the primitive byte -/
def k25 : Class := { plain "byte" none with kind := .primitive 'B', accessFlags := 0x411 }
/-- [B -/
def k26 : Class := { plain "[B" (some 0) with kind := .array 25 .byte, interfaces := #[24, 5], accessFlags := 1041 }

/-- the primitive char -/
def k27 : Class := { plain "char" none with kind := .primitive 'C', accessFlags := 0x411 }
/-- [C -/
def k28 : Class := { plain "[C" (some 0) with kind := .array 27 .char, interfaces := #[24, 5], accessFlags := 1041 }

/-- the primitive int -/
def k29 : Class := { plain "int" none with kind := .primitive 'I', accessFlags := 0x411 }
/-- [I -/
def k30 : Class := { plain "[I" (some 0) with kind := .array 29 .int, interfaces := #[24, 5], accessFlags := 1041 }

def heap : Heap := #[{ cls := 10, slots := #[.long 0, .int 1, .null, .int 0, .null, .int 0, .int 0], vm := .statics 10 },
  { cls := 15, slots := #[.null, .null, .ref 3, .ref 4, .null], vm := .statics 15 },
  { cls := 22, slots := #[.null, .null, .null], vm := .statics 22 },
  { cls := 15, slots := #[], vm := .none },
  { cls := 30, slots := #[.int 1207963663, .int 1207963663, .int 1207963663, .int 1207963663, .int 1207963663, .int 1207963663, .int 1207963663, .int 1207963663, .int 1207963663, .int 1476411407, .int 1342193679, .int 1476411407, .int 1610629135, .int 1342193679, .int 1207963663, .int 1207963663, .int 1207963663, .int 1207963663, .int 1207963663, .int 1207963663, .int 1207963663, .int 1207963663, .int 1207963663, .int 1207963663, .int 1207963663, .int 1207963663, .int 1207963663, .int 1207963663, .int 1342193679, .int 1342193679, .int 1342193679, .int 1476411407, .int 1610629132, .int 1744830488, .int 1744830488, .int 671088664, .int 671113242, .int 671088664, .int 1744830488, .int 1744830488, .int (-402653163), .int (-402653162), .int 1744830488, .int 536870937, .int 939524120, .int 536870932, .int 939524120, .int 939524120, .int 402667017, .int 402667017, .int 402667017, .int 402667017, .int 402667017, .int 402667017, .int 402667017, .int 402667017, .int 402667017, .int 402667017, .int 939524120, .int 1744830488, .int (-402653159), .int 1744830489, .int (-402653159), .int 1744830488, .int 1744830488, .int 8552417, .int 8552417, .int 8552417, .int 8552417, .int 8552417, .int 8552417, .int 8552417, .int 8552417, .int 8552417, .int 8552417, .int 8552417, .int 8552417, .int 8552417, .int 8552417, .int 8552417, .int 8552417, .int 8552417, .int 8552417, .int 8552417, .int 8552417, .int 8552417, .int 8552417, .int 8552417, .int 8552417, .int 8552417, .int 8552417, .int (-402653163), .int 1744830488, .int (-402653162), .int 1744830491, .int 1744850967, .int 1744830491, .int 8486882, .int 8486882, .int 8486882, .int 8486882, .int 8486882, .int 8486882, .int 8486882, .int 8486882, .int 8486882, .int 8486882, .int 8486882, .int 8486882, .int 8486882, .int 8486882, .int 8486882, .int 8486882, .int 8486882, .int 8486882, .int 8486882, .int 8486882, .int 8486882, .int 8486882, .int 8486882, .int 8486882, .int 8486882, .int 8486882, .int (-402653163), .int 1744830489, .int (-402653162), .int 1744830489, .int 1207963663, .int 1207963663, .int 1207963663, .int 1207963663, .int 1207963663, .int 1207963663, .int 1342181391, .int 1207963663, .int 1207963663, .int 1207963663, .int 1207963663, .int 1207963663, .int 1207963663, .int 1207963663, .int 1207963663, .int 1207963663, .int 1207963663, .int 1207963663, .int 1207963663, .int 1207963663, .int 1207963663, .int 1207963663, .int 1207963663, .int 1207963663, .int 1207963663, .int 1207963663, .int 1207963663, .int 1207963663, .int 1207963663, .int 1207963663, .int 1207963663, .int 1207963663, .int 1207963663, .int 939524108, .int 1744830488, .int 671113242, .int 671113242, .int 671113242, .int 671113242, .int 1744830492, .int 1744830488, .int 1744830491, .int 1744830492, .int 28677, .int (-402653155), .int 1744830489, .int 1207963664, .int 1744830492, .int 1744830491, .int 671088668, .int 671088665, .int 402654731, .int 402654731, .int 1744830491, .int 134049794, .int 1744830488, .int 1744830488, .int 1744830491, .int 402654475, .int 28677, .int (-402653154), .int 1744832523, .int 1744832523, .int 1744832523, .int 1744830488, .int 8548353, .int 8548353, .int 8548353, .int 8548353, .int 8548353, .int 8548353, .int 8548353, .int 8548353, .int 8548353, .int 8548353, .int 8548353, .int 8548353, .int 8548353, .int 8548353, .int 8548353, .int 8548353, .int 8548353, .int 8548353, .int 8548353, .int 8548353, .int 8548353, .int 8548353, .int 8548353, .int 1744830489, .int 8548353, .int 8548353, .int 8548353, .int 8548353, .int 8548353, .int 8548353, .int 8548353, .int 134049794, .int 8482818, .int 8482818, .int 8482818, .int 8482818, .int 8482818, .int 8482818, .int 8482818, .int 8482818, .int 8482818, .int 8482818, .int 8482818, .int 8482818, .int 8482818, .int 8482818, .int 8482818, .int 8482818, .int 8482818, .int 8482818, .int 8482818, .int 8482818, .int 8482818, .int 8482818, .int 8482818, .int 1744830489, .int 8482818, .int 8482818, .int 8482818, .int 8482818, .int 8482818, .int 8482818, .int 8482818, .int 102592514], vm := .none },
  { cls := 23, slots := #[], vm := .none }]
def classes : Array Class := #[k0, k1, k2, k3, k4, k5, k6, k7, k8, k9, k10, k11, k12, k13, k14, k15, k16, k17, k18, k19, k20, k21, k22, k23, k24, k25, k26, k27, k28, k29, k30]
def interned : List (Array UInt16 × Addr) := []
def slotsUsed : Nat := 271
def theMethod : MethodId := ⟨1, 1⟩
def args0 : Array Value := #[.int 4276545, .int 4276546, .int 6]
def aboutOver (below : List Frame) : State where
  vm := { classes := classes, interned := interned.toArray }
  heap := heap
  slotsUsed := slotsUsed
  threads := #[{ frames := .invoking theMethod args0 :: below }]
def below0 : List Frame := [.native { method := ⟨0, 0⟩, args := #[] }]
def about1 : State := aboutOver below0
def p0 : Program := .bare "" "" ""
def e0 : Env := launch0.env 0 0 0
theorem w_frames : about1.frames = Frame.invoking theMethod args0 :: below0 := rfl
set_option maxRecDepth 65536 in
theorem w_args : argsFit about1.vm theMethod args0 = true := by decide +kernel
set_option maxRecDepth 65536 in
theorem w_heap : heapFits about1 = true := by decide +kernel
set_option maxRecDepth 65536 in
theorem w_runnable : about1.curStatus? = some .runnable := by decide +kernel
set_option maxRecDepth 65536 in
theorem w_alone : about1.alone = true := by decide +kernel
set_option maxRecDepth 65536 in
theorem w_named : about1.methodNamed? x = some theMethod := by decide +kernel
set_option maxRecDepth 65536 in
theorem w_hears : about1.hears theMethod below0 = true := by decide +kernel
set_option maxRecDepth 65536 in
theorem w_ripe : about1.ripe theMethod args0 below0 = true := by decide +kernel
theorem w_running : about1.status = .running := rfl
set_option maxRecDepth 65536 in
theorem w_room : about1.hasRoom e0.platform room_1 = true :=
  launch0.hasRoom_least _ room_1 (by decide +kernel) (by decide +kernel) (by decide +kernel) (by decide +kernel) (by decide +kernel) (by decide +kernel)
theorem allAtoms_all (ts : List Jvm.Cond) (a : Array Jvm.Value) (st : Jvm.State) : (allAtoms ts).before a st = ts.all (fun c => c.before a st) := by
  induction ts with
  | nil => rfl
  | cons c t ih =>
    show (Jvm.Cond.and c (allAtoms t)).before a st = _
    rw [Jvm.Cond.before_and, ih, List.all_cons]
def words1 : List Jvm.Cond := Jvm.Cond.code x code maxLocals ret :: tables_1
/-- a 'code' word, met by the world's own term for the bytes: nothing is compared byte by byte -/
theorem code_word {y : MethodName} {bytes : ByteArray} {mx : Nat} {rt : Option FieldType} {a : Array Value} {s : State} {m : MethodId} {meth : Method} {c : Code} (h1 : s.methodNamed? y = some m) (h2 : s.vm.method? m = some meth) (h3 : meth.code = some c) (h4 : c.code = bytes)
    (h5 : (c.maxLocals == mx && c.exceptionTable.isEmpty && decide (c.maxStack ≤ mostOperands) && decide (meth.sig.returnType = rt) && !meth.locks && decide (parseMethodDescriptor y.desc = some meth.sig)) = true) : (Jvm.Cond.code y bytes mx rt).before a s = true := by
  simp only [Bool.and_eq_true, beq_iff_eq, Bool.not_eq_true', decide_eq_true_eq] at h5
  obtain ⟨⟨⟨⟨⟨g1, g2⟩, g3⟩, g4⟩, g5⟩, g6⟩ := h5
  simp [Cond.before, Cond.holds, Cond.value, h1, h2, h3, h4, g1, g2, g3, g4, g5, g6]
def isCode : Jvm.Cond → Bool
  | .code _ _ _ _ => true
  | _ => false
theorem all_split {L : List Jvm.Cond} {P : Jvm.Cond → Bool} (h1 : L.all (fun c => isCode c || P c) = true) (h2 : ∀ c ∈ L.filter isCode, P c = true) : L.all P = true := by
  refine List.all_eq_true.mpr fun c hc => ?_
  have h := List.all_eq_true.mp h1 c hc
  rcases Bool.eq_false_or_eq_true (isCode c) with hi | hi
  · exact h2 c (List.mem_filter.mpr ⟨hc, hi⟩)
  · simpa [hi] using h
set_option maxRecDepth 65536 in
theorem w_c0 : (Jvm.Cond.code x code maxLocals ret).before args0 about1 = true := code_word (m := ⟨1, 1⟩) (meth := k1m1) (c := k1c1) (by decide +kernel) rfl rfl rfl (by decide +kernel)
set_option maxRecDepth 65536 in
theorem w_c1 : (Jvm.Cond.code ({ cls := "com/example/istorie/istorie/EntityIdValuePinLaw", name := "ws", desc := "(C)Z" } : Jvm.MethodName) method_3_code (1 : Nat) (Option.some Jvm.ClassFile.FieldType.boolean)).before args0 about1 = true := code_word (m := ⟨1, 2⟩) (meth := k1m2) (c := k1c2) (by decide +kernel) rfl rfl rfl (by decide +kernel)
set_option maxRecDepth 65536 in
theorem w_c2 : (Jvm.Cond.code ({ cls := "java/lang/String", name := "<init>", desc := "([C)V" } : Jvm.MethodName) jdk_42_method_3_code (2 : Nat) (Option.none : Option Jvm.ClassFile.FieldType)).before args0 about1 = true := code_word (m := ⟨10, 1⟩) (meth := k10m1) (c := k10c1) (by decide +kernel) rfl rfl rfl (by decide +kernel)
set_option maxRecDepth 65536 in
theorem w_c3 : (Jvm.Cond.code ({ cls := "java/lang/String", name := "<init>", desc := "([CIILjava/lang/Void;)V" } : Jvm.MethodName) jdk_42_method_149_code (6 : Nat) (Option.none : Option Jvm.ClassFile.FieldType)).before args0 about1 = true := code_word (m := ⟨10, 9⟩) (meth := k10m9) (c := k10c9) (by decide +kernel) rfl rfl rfl (by decide +kernel)
set_option maxRecDepth 65536 in
theorem w_c4 : (Jvm.Cond.code ({ cls := "java/lang/Object", name := "<init>", desc := "()V" } : Jvm.MethodName) object_method_1_code (1 : Nat) (Option.none : Option Jvm.ClassFile.FieldType)).before args0 about1 = true := code_word (m := ⟨0, 0⟩) (meth := k0m0) (c := k0c0) (by decide +kernel) rfl rfl rfl (by decide +kernel)
set_option maxRecDepth 65536 in
theorem w_c5 : (Jvm.Cond.code ({ cls := "java/lang/StringUTF16", name := "compress", desc := "([CII)[B" } : Jvm.MethodName) jdk_52_method_16_code (6 : Nat) (Option.some (Jvm.ClassFile.FieldType.array Jvm.ClassFile.FieldType.byte))).before args0 about1 = true := code_word (m := ⟨11, 2⟩) (meth := k11m2) (c := k11c2) (by decide +kernel) rfl rfl rfl (by decide +kernel)
set_option maxRecDepth 65536 in
theorem w_c6 : (Jvm.Cond.code ({ cls := "java/lang/StringUTF16", name := "compress", desc := "([CI[BII)I" } : Jvm.MethodName) jdk_52_method_21_code (7 : Nat) (Option.some Jvm.ClassFile.FieldType.int)).before args0 about1 = true := code_word (m := ⟨11, 3⟩) (meth := k11m3) (c := k11c3) (by decide +kernel) rfl rfl rfl (by decide +kernel)
set_option maxRecDepth 65536 in
theorem w_c7 : (Jvm.Cond.code ({ cls := "java/lang/StringUTF16", name := "coderFromArrayLen", desc := "([BI)B" } : Jvm.MethodName) jdk_52_method_15_code (2 : Nat) (Option.some Jvm.ClassFile.FieldType.byte)).before args0 about1 = true := code_word (m := ⟨11, 1⟩) (meth := k11m1) (c := k11c1) (by decide +kernel) rfl rfl rfl (by decide +kernel)
set_option maxRecDepth 65536 in
theorem w_c8 : (Jvm.Cond.code ({ cls := "com/example/istorie/istorie/EntityId", name := "<init>", desc := "(Ljava/lang/String;Ljava/lang/String;)V" } : Jvm.MethodName) prog_10_method_1_code (3 : Nat) (Option.none : Option Jvm.ClassFile.FieldType)).before args0 about1 = true := code_word (m := ⟨4, 0⟩) (meth := k4m0) (c := k4c0) (by decide +kernel) rfl rfl rfl (by decide +kernel)
set_option maxRecDepth 65536 in
theorem w_c9 : (Jvm.Cond.code ({ cls := "java/lang/Record", name := "<init>", desc := "()V" } : Jvm.MethodName) jdk_30_method_1_code (1 : Nat) (Option.none : Option Jvm.ClassFile.FieldType)).before args0 about1 = true := code_word (m := ⟨2, 0⟩) (meth := k2m0) (c := k2c0) (by decide +kernel) rfl rfl rfl (by decide +kernel)
set_option maxRecDepth 65536 in
theorem w_c10 : (Jvm.Cond.code ({ cls := "java/util/Objects", name := "requireNonNull", desc := "(Ljava/lang/Object;Ljava/lang/String;)Ljava/lang/Object;" } : Jvm.MethodName) jdk_31_method_11_code (2 : Nat) (Option.some (Jvm.ClassFile.FieldType.object "java/lang/Object"))).before args0 about1 = true := code_word (m := ⟨12, 1⟩) (meth := k12m1) (c := k12c1) (by decide +kernel) rfl rfl rfl (by decide +kernel)
set_option maxRecDepth 65536 in
theorem w_c11 : (Jvm.Cond.code ({ cls := "java/lang/String", name := "isBlank", desc := "()Z" } : Jvm.MethodName) jdk_42_method_117_code (1 : Nat) (Option.some Jvm.ClassFile.FieldType.boolean)).before args0 about1 = true := code_word (m := ⟨10, 6⟩) (meth := k10m6) (c := k10c6) (by decide +kernel) rfl rfl rfl (by decide +kernel)
set_option maxRecDepth 65536 in
theorem w_c12 : (Jvm.Cond.code ({ cls := "java/lang/String", name := "indexOfNonWhitespace", desc := "()I" } : Jvm.MethodName) jdk_42_method_120_code (1 : Nat) (Option.some Jvm.ClassFile.FieldType.int)).before args0 about1 = true := code_word (m := ⟨10, 7⟩) (meth := k10m7) (c := k10c7) (by decide +kernel) rfl rfl rfl (by decide +kernel)
set_option maxRecDepth 65536 in
theorem w_c13 : (Jvm.Cond.code ({ cls := "java/lang/String", name := "isLatin1", desc := "()Z" } : Jvm.MethodName) jdk_42_method_154_code (1 : Nat) (Option.some Jvm.ClassFile.FieldType.boolean)).before args0 about1 = true := code_word (m := ⟨10, 12⟩) (meth := k10m12) (c := k10c12) (by decide +kernel) rfl rfl rfl (by decide +kernel)
set_option maxRecDepth 65536 in
theorem w_c14 : (Jvm.Cond.code ({ cls := "java/lang/StringLatin1", name := "indexOfNonWhitespace", desc := "([B)I" } : Jvm.MethodName) jdk_43_method_37_code (4 : Nat) (Option.some Jvm.ClassFile.FieldType.int)).before args0 about1 = true := code_word (m := ⟨13, 2⟩) (meth := k13m2) (c := k13c2) (by decide +kernel) rfl rfl rfl (by decide +kernel)
set_option maxRecDepth 65536 in
theorem w_c15 : (Jvm.Cond.code ({ cls := "java/lang/StringLatin1", name := "getChar", desc := "([BI)C" } : Jvm.MethodName) jdk_43_method_44_code (2 : Nat) (Option.some Jvm.ClassFile.FieldType.char)).before args0 about1 = true := code_word (m := ⟨13, 3⟩) (meth := k13m3) (c := k13c3) (by decide +kernel) rfl rfl rfl (by decide +kernel)
set_option maxRecDepth 65536 in
theorem w_c16 : (Jvm.Cond.code ({ cls := "java/lang/CharacterDataLatin1", name := "isWhitespace", desc := "(I)Z" } : Jvm.MethodName) jdk_116_method_26_code (3 : Nat) (Option.some Jvm.ClassFile.FieldType.boolean)).before args0 about1 = true := code_word (m := ⟨15, 1⟩) (meth := k15m1) (c := k15c1) (by decide +kernel) rfl rfl rfl (by decide +kernel)
set_option maxRecDepth 65536 in
theorem w_c17 : (Jvm.Cond.code ({ cls := "java/lang/CharacterDataLatin1", name := "getProperties", desc := "(I)I" } : Jvm.MethodName) jdk_116_method_1_code (4 : Nat) (Option.some Jvm.ClassFile.FieldType.int)).before args0 about1 = true := code_word (m := ⟨15, 0⟩) (meth := k15m0) (c := k15c0) (by decide +kernel) rfl rfl rfl (by decide +kernel)
set_option maxRecDepth 65536 in
theorem w_c18 : (Jvm.Cond.code ({ cls := "java/lang/String", name := "length", desc := "()I" } : Jvm.MethodName) jdk_42_method_54_code (1 : Nat) (Option.some Jvm.ClassFile.FieldType.int)).before args0 about1 = true := code_word (m := ⟨10, 3⟩) (meth := k10m3) (c := k10c3) (by decide +kernel) rfl rfl rfl (by decide +kernel)
set_option maxRecDepth 65536 in
theorem w_c19 : (Jvm.Cond.code ({ cls := "java/lang/String", name := "coder", desc := "()B" } : Jvm.MethodName) jdk_42_method_152_code (1 : Nat) (Option.some Jvm.ClassFile.FieldType.byte)).before args0 about1 = true := code_word (m := ⟨10, 11⟩) (meth := k10m11) (c := k10c11) (by decide +kernel) rfl rfl rfl (by decide +kernel)
set_option maxRecDepth 65536 in
theorem w_c20 : (Jvm.Cond.code ({ cls := "java/lang/String", name := "isEmpty", desc := "()Z" } : Jvm.MethodName) jdk_42_method_55_code (1 : Nat) (Option.some Jvm.ClassFile.FieldType.boolean)).before args0 about1 = true := code_word (m := ⟨10, 4⟩) (meth := k10m4) (c := k10c4) (by decide +kernel) rfl rfl rfl (by decide +kernel)
set_option maxRecDepth 65536 in
theorem w_c21 : (Jvm.Cond.code ({ cls := "com/example/istorie/istorie/EntityId", name := "value", desc := "()Ljava/lang/String;" } : Jvm.MethodName) prog_10_method_3_code (1 : Nat) (Option.some (Jvm.ClassFile.FieldType.object "java/lang/String"))).before args0 about1 = true := code_word (m := ⟨4, 1⟩) (meth := k4m1) (c := k4c1) (by decide +kernel) rfl rfl rfl (by decide +kernel)
set_option maxRecDepth 65536 in
theorem w_c22 : (Jvm.Cond.code ({ cls := "java/lang/StringBuilder", name := "<init>", desc := "()V" } : Jvm.MethodName) jdk_67_method_1_code (1 : Nat) (Option.none : Option Jvm.ClassFile.FieldType)).before args0 about1 = true := code_word (m := ⟨18, 0⟩) (meth := k18m0) (c := k18c0) (by decide +kernel) rfl rfl rfl (by decide +kernel)
set_option maxRecDepth 65536 in
theorem w_c23 : (Jvm.Cond.code ({ cls := "java/lang/AbstractStringBuilder", name := "<init>", desc := "(I)V" } : Jvm.MethodName) jdk_68_method_2_code (2 : Nat) (Option.none : Option Jvm.ClassFile.FieldType)).before args0 about1 = true := code_word (m := ⟨17, 1⟩) (meth := k17m1) (c := k17c1) (by decide +kernel) rfl rfl rfl (by decide +kernel)
set_option maxRecDepth 65536 in
theorem w_c24 : (Jvm.Cond.code ({ cls := "java/lang/StringBuilder", name := "append", desc := "(Ljava/lang/String;)Ljava/lang/StringBuilder;" } : Jvm.MethodName) jdk_67_method_7_code (2 : Nat) (Option.some (Jvm.ClassFile.FieldType.object "java/lang/StringBuilder"))).before args0 about1 = true := code_word (m := ⟨18, 1⟩) (meth := k18m1) (c := k18c1) (by decide +kernel) rfl rfl rfl (by decide +kernel)
set_option maxRecDepth 65536 in
theorem w_c25 : (Jvm.Cond.code ({ cls := "java/lang/AbstractStringBuilder", name := "append", desc := "(Ljava/lang/String;)Ljava/lang/AbstractStringBuilder;" } : Jvm.MethodName) jdk_68_method_22_code (3 : Nat) (Option.some (Jvm.ClassFile.FieldType.object "java/lang/AbstractStringBuilder"))).before args0 about1 = true := code_word (m := ⟨17, 4⟩) (meth := k17m4) (c := k17c4) (by decide +kernel) rfl rfl rfl (by decide +kernel)
set_option maxRecDepth 65536 in
theorem w_c26 : (Jvm.Cond.code ({ cls := "java/lang/AbstractStringBuilder", name := "ensureCapacityInternal", desc := "(I)V" } : Jvm.MethodName) jdk_68_method_9_code (3 : Nat) (Option.none : Option Jvm.ClassFile.FieldType)).before args0 about1 = true := code_word (m := ⟨17, 3⟩) (meth := k17m3) (c := k17c3) (by decide +kernel) rfl rfl rfl (by decide +kernel)
set_option maxRecDepth 65536 in
theorem w_c27 : (Jvm.Cond.code ({ cls := "java/lang/AbstractStringBuilder", name := "putStringAt", desc := "(ILjava/lang/String;)V" } : Jvm.MethodName) jdk_68_method_73_code (3 : Nat) (Option.none : Option Jvm.ClassFile.FieldType)).before args0 about1 = true := code_word (m := ⟨17, 8⟩) (meth := k17m8) (c := k17c8) (by decide +kernel) rfl rfl rfl (by decide +kernel)
set_option maxRecDepth 65536 in
theorem w_c28 : (Jvm.Cond.code ({ cls := "java/lang/AbstractStringBuilder", name := "inflateIfNeededFor", desc := "(Ljava/lang/String;)V" } : Jvm.MethodName) jdk_68_method_71_code (2 : Nat) (Option.none : Option Jvm.ClassFile.FieldType)).before args0 about1 = true := code_word (m := ⟨17, 7⟩) (meth := k17m7) (c := k17c7) (by decide +kernel) rfl rfl rfl (by decide +kernel)
set_option maxRecDepth 65536 in
theorem w_c29 : (Jvm.Cond.code ({ cls := "java/lang/String", name := "getBytes", desc := "([BIB)V" } : Jvm.MethodName) jdk_42_method_147_code (4 : Nat) (Option.none : Option Jvm.ClassFile.FieldType)).before args0 about1 = true := code_word (m := ⟨10, 8⟩) (meth := k10m8) (c := k10c8) (by decide +kernel) rfl rfl rfl (by decide +kernel)
set_option maxRecDepth 65536 in
theorem w_c30 : (Jvm.Cond.code ({ cls := "java/lang/StringBuilder", name := "toString", desc := "()Ljava/lang/String;" } : Jvm.MethodName) jdk_67_method_42_code (1 : Nat) (Option.some (Jvm.ClassFile.FieldType.object "java/lang/String"))).before args0 about1 = true := code_word (m := ⟨18, 2⟩) (meth := k18m2) (c := k18c2) (by decide +kernel) rfl rfl rfl (by decide +kernel)
set_option maxRecDepth 65536 in
theorem w_c31 : (Jvm.Cond.code ({ cls := "java/lang/String", name := "<init>", desc := "(Ljava/lang/StringBuilder;)V" } : Jvm.MethodName) jdk_42_method_53_code (2 : Nat) (Option.none : Option Jvm.ClassFile.FieldType)).before args0 about1 = true := code_word (m := ⟨10, 2⟩) (meth := k10m2) (c := k10c2) (by decide +kernel) rfl rfl rfl (by decide +kernel)
set_option maxRecDepth 65536 in
theorem w_c32 : (Jvm.Cond.code ({ cls := "java/lang/String", name := "<init>", desc := "(Ljava/lang/AbstractStringBuilder;Ljava/lang/Void;)V" } : Jvm.MethodName) jdk_42_method_150_code (5 : Nat) (Option.none : Option Jvm.ClassFile.FieldType)).before args0 about1 = true := code_word (m := ⟨10, 10⟩) (meth := k10m10) (c := k10c10) (by decide +kernel) rfl rfl rfl (by decide +kernel)
set_option maxRecDepth 65536 in
theorem w_c33 : (Jvm.Cond.code ({ cls := "java/lang/AbstractStringBuilder", name := "getValue", desc := "()[B" } : Jvm.MethodName) jdk_68_method_64_code (1 : Nat) (Option.some (Jvm.ClassFile.FieldType.array Jvm.ClassFile.FieldType.byte))).before args0 about1 = true := code_word (m := ⟨17, 5⟩) (meth := k17m5) (c := k17c5) (by decide +kernel) rfl rfl rfl (by decide +kernel)
set_option maxRecDepth 65536 in
theorem w_c34 : (Jvm.Cond.code ({ cls := "java/lang/StringBuilder", name := "length", desc := "()I" } : Jvm.MethodName) jdk_67_method_93_code (1 : Nat) (Option.some Jvm.ClassFile.FieldType.int)).before args0 about1 = true := code_word (m := ⟨18, 3⟩) (meth := k18m3) (c := k18c3) (by decide +kernel) rfl rfl rfl (by decide +kernel)
set_option maxRecDepth 65536 in
theorem w_c35 : (Jvm.Cond.code ({ cls := "java/lang/AbstractStringBuilder", name := "length", desc := "()I" } : Jvm.MethodName) jdk_68_method_6_code (1 : Nat) (Option.some Jvm.ClassFile.FieldType.int)).before args0 about1 = true := code_word (m := ⟨17, 2⟩) (meth := k17m2) (c := k17c2) (by decide +kernel) rfl rfl rfl (by decide +kernel)
set_option maxRecDepth 65536 in
theorem w_c36 : (Jvm.Cond.code ({ cls := "java/lang/AbstractStringBuilder", name := "isLatin1", desc := "()Z" } : Jvm.MethodName) jdk_68_method_68_code (1 : Nat) (Option.some Jvm.ClassFile.FieldType.boolean)).before args0 about1 = true := code_word (m := ⟨17, 6⟩) (meth := k17m6) (c := k17c6) (by decide +kernel) rfl rfl rfl (by decide +kernel)
set_option maxRecDepth 65536 in
theorem w_c37 : (Jvm.Cond.code ({ cls := "java/util/Arrays", name := "copyOfRange", desc := "([BII)[B" } : Jvm.MethodName) jdk_65_method_132_code (3 : Nat) (Option.some (Jvm.ClassFile.FieldType.array Jvm.ClassFile.FieldType.byte))).before args0 about1 = true := code_word (m := ⟨20, 2⟩) (meth := k20m2) (c := k20c2) (by decide +kernel) rfl rfl rfl (by decide +kernel)
set_option maxRecDepth 65536 in
theorem w_c38 : (Jvm.Cond.code ({ cls := "java/util/Arrays", name := "copyOfRangeByte", desc := "([BII)[B" } : Jvm.MethodName) jdk_65_method_133_code (5 : Nat) (Option.some (Jvm.ClassFile.FieldType.array Jvm.ClassFile.FieldType.byte))).before args0 about1 = true := code_word (m := ⟨20, 3⟩) (meth := k20m3) (c := k20c3) (by decide +kernel) rfl rfl rfl (by decide +kernel)
set_option maxRecDepth 65536 in
theorem w_c39 : (Jvm.Cond.code ({ cls := "java/util/Arrays", name := "checkLength", desc := "(II)V" } : Jvm.MethodName) jdk_65_method_131_code (2 : Nat) (Option.none : Option Jvm.ClassFile.FieldType)).before args0 about1 = true := code_word (m := ⟨20, 1⟩) (meth := k20m1) (c := k20c1) (by decide +kernel) rfl rfl rfl (by decide +kernel)
set_option maxRecDepth 65536 in
theorem w_c40 : (Jvm.Cond.code ({ cls := "java/lang/Math", name := "min", desc := "(II)I" } : Jvm.MethodName) jdk_29_method_69_code (2 : Nat) (Option.some Jvm.ClassFile.FieldType.int)).before args0 about1 = true := code_word (m := ⟨21, 1⟩) (meth := k21m1) (c := k21c1) (by decide +kernel) rfl rfl rfl (by decide +kernel)
set_option maxRecDepth 65536 in
theorem w_c41 : (Jvm.Cond.code ({ cls := "java/lang/String", name := "equals", desc := "(Ljava/lang/Object;)Z" } : Jvm.MethodName) jdk_42_method_66_code (3 : Nat) (Option.some Jvm.ClassFile.FieldType.boolean)).before args0 about1 = true := code_word (m := ⟨10, 5⟩) (meth := k10m5) (c := k10c5) (by decide +kernel) rfl rfl rfl (by decide +kernel)
set_option maxRecDepth 65536 in
theorem w_c42 : (Jvm.Cond.code ({ cls := "java/lang/StringLatin1", name := "equals", desc := "([B[B)Z" } : Jvm.MethodName) jdk_43_method_13_code (3 : Nat) (Option.some Jvm.ClassFile.FieldType.boolean)).before args0 about1 = true := code_word (m := ⟨13, 1⟩) (meth := k13m1) (c := k13c1) (by decide +kernel) rfl rfl rfl (by decide +kernel)
def codes1 : List Jvm.Cond := [Jvm.Cond.code x code maxLocals ret, Jvm.Cond.code ({ cls := "com/example/istorie/istorie/EntityIdValuePinLaw", name := "ws", desc := "(C)Z" } : Jvm.MethodName) method_3_code (1 : Nat) (Option.some Jvm.ClassFile.FieldType.boolean), Jvm.Cond.code ({ cls := "java/lang/String", name := "<init>", desc := "([C)V" } : Jvm.MethodName) jdk_42_method_3_code (2 : Nat) (Option.none : Option Jvm.ClassFile.FieldType), Jvm.Cond.code ({ cls := "java/lang/String", name := "<init>", desc := "([CIILjava/lang/Void;)V" } : Jvm.MethodName) jdk_42_method_149_code (6 : Nat) (Option.none : Option Jvm.ClassFile.FieldType), Jvm.Cond.code ({ cls := "java/lang/Object", name := "<init>", desc := "()V" } : Jvm.MethodName) object_method_1_code (1 : Nat) (Option.none : Option Jvm.ClassFile.FieldType), Jvm.Cond.code ({ cls := "java/lang/StringUTF16", name := "compress", desc := "([CII)[B" } : Jvm.MethodName) jdk_52_method_16_code (6 : Nat) (Option.some (Jvm.ClassFile.FieldType.array Jvm.ClassFile.FieldType.byte)), Jvm.Cond.code ({ cls := "java/lang/StringUTF16", name := "compress", desc := "([CI[BII)I" } : Jvm.MethodName) jdk_52_method_21_code (7 : Nat) (Option.some Jvm.ClassFile.FieldType.int), Jvm.Cond.code ({ cls := "java/lang/StringUTF16", name := "coderFromArrayLen", desc := "([BI)B" } : Jvm.MethodName) jdk_52_method_15_code (2 : Nat) (Option.some Jvm.ClassFile.FieldType.byte), Jvm.Cond.code ({ cls := "com/example/istorie/istorie/EntityId", name := "<init>", desc := "(Ljava/lang/String;Ljava/lang/String;)V" } : Jvm.MethodName) prog_10_method_1_code (3 : Nat) (Option.none : Option Jvm.ClassFile.FieldType), Jvm.Cond.code ({ cls := "java/lang/Record", name := "<init>", desc := "()V" } : Jvm.MethodName) jdk_30_method_1_code (1 : Nat) (Option.none : Option Jvm.ClassFile.FieldType), Jvm.Cond.code ({ cls := "java/util/Objects", name := "requireNonNull", desc := "(Ljava/lang/Object;Ljava/lang/String;)Ljava/lang/Object;" } : Jvm.MethodName) jdk_31_method_11_code (2 : Nat) (Option.some (Jvm.ClassFile.FieldType.object "java/lang/Object")), Jvm.Cond.code ({ cls := "java/lang/String", name := "isBlank", desc := "()Z" } : Jvm.MethodName) jdk_42_method_117_code (1 : Nat) (Option.some Jvm.ClassFile.FieldType.boolean), Jvm.Cond.code ({ cls := "java/lang/String", name := "indexOfNonWhitespace", desc := "()I" } : Jvm.MethodName) jdk_42_method_120_code (1 : Nat) (Option.some Jvm.ClassFile.FieldType.int), Jvm.Cond.code ({ cls := "java/lang/String", name := "isLatin1", desc := "()Z" } : Jvm.MethodName) jdk_42_method_154_code (1 : Nat) (Option.some Jvm.ClassFile.FieldType.boolean), Jvm.Cond.code ({ cls := "java/lang/StringLatin1", name := "indexOfNonWhitespace", desc := "([B)I" } : Jvm.MethodName) jdk_43_method_37_code (4 : Nat) (Option.some Jvm.ClassFile.FieldType.int), Jvm.Cond.code ({ cls := "java/lang/StringLatin1", name := "getChar", desc := "([BI)C" } : Jvm.MethodName) jdk_43_method_44_code (2 : Nat) (Option.some Jvm.ClassFile.FieldType.char), Jvm.Cond.code ({ cls := "java/lang/CharacterDataLatin1", name := "isWhitespace", desc := "(I)Z" } : Jvm.MethodName) jdk_116_method_26_code (3 : Nat) (Option.some Jvm.ClassFile.FieldType.boolean), Jvm.Cond.code ({ cls := "java/lang/CharacterDataLatin1", name := "getProperties", desc := "(I)I" } : Jvm.MethodName) jdk_116_method_1_code (4 : Nat) (Option.some Jvm.ClassFile.FieldType.int), Jvm.Cond.code ({ cls := "java/lang/String", name := "length", desc := "()I" } : Jvm.MethodName) jdk_42_method_54_code (1 : Nat) (Option.some Jvm.ClassFile.FieldType.int), Jvm.Cond.code ({ cls := "java/lang/String", name := "coder", desc := "()B" } : Jvm.MethodName) jdk_42_method_152_code (1 : Nat) (Option.some Jvm.ClassFile.FieldType.byte), Jvm.Cond.code ({ cls := "java/lang/String", name := "isEmpty", desc := "()Z" } : Jvm.MethodName) jdk_42_method_55_code (1 : Nat) (Option.some Jvm.ClassFile.FieldType.boolean), Jvm.Cond.code ({ cls := "com/example/istorie/istorie/EntityId", name := "value", desc := "()Ljava/lang/String;" } : Jvm.MethodName) prog_10_method_3_code (1 : Nat) (Option.some (Jvm.ClassFile.FieldType.object "java/lang/String")), Jvm.Cond.code ({ cls := "java/lang/StringBuilder", name := "<init>", desc := "()V" } : Jvm.MethodName) jdk_67_method_1_code (1 : Nat) (Option.none : Option Jvm.ClassFile.FieldType), Jvm.Cond.code ({ cls := "java/lang/AbstractStringBuilder", name := "<init>", desc := "(I)V" } : Jvm.MethodName) jdk_68_method_2_code (2 : Nat) (Option.none : Option Jvm.ClassFile.FieldType), Jvm.Cond.code ({ cls := "java/lang/StringBuilder", name := "append", desc := "(Ljava/lang/String;)Ljava/lang/StringBuilder;" } : Jvm.MethodName) jdk_67_method_7_code (2 : Nat) (Option.some (Jvm.ClassFile.FieldType.object "java/lang/StringBuilder")), Jvm.Cond.code ({ cls := "java/lang/AbstractStringBuilder", name := "append", desc := "(Ljava/lang/String;)Ljava/lang/AbstractStringBuilder;" } : Jvm.MethodName) jdk_68_method_22_code (3 : Nat) (Option.some (Jvm.ClassFile.FieldType.object "java/lang/AbstractStringBuilder")), Jvm.Cond.code ({ cls := "java/lang/AbstractStringBuilder", name := "ensureCapacityInternal", desc := "(I)V" } : Jvm.MethodName) jdk_68_method_9_code (3 : Nat) (Option.none : Option Jvm.ClassFile.FieldType), Jvm.Cond.code ({ cls := "java/lang/AbstractStringBuilder", name := "putStringAt", desc := "(ILjava/lang/String;)V" } : Jvm.MethodName) jdk_68_method_73_code (3 : Nat) (Option.none : Option Jvm.ClassFile.FieldType), Jvm.Cond.code ({ cls := "java/lang/AbstractStringBuilder", name := "inflateIfNeededFor", desc := "(Ljava/lang/String;)V" } : Jvm.MethodName) jdk_68_method_71_code (2 : Nat) (Option.none : Option Jvm.ClassFile.FieldType), Jvm.Cond.code ({ cls := "java/lang/String", name := "getBytes", desc := "([BIB)V" } : Jvm.MethodName) jdk_42_method_147_code (4 : Nat) (Option.none : Option Jvm.ClassFile.FieldType), Jvm.Cond.code ({ cls := "java/lang/StringBuilder", name := "toString", desc := "()Ljava/lang/String;" } : Jvm.MethodName) jdk_67_method_42_code (1 : Nat) (Option.some (Jvm.ClassFile.FieldType.object "java/lang/String")), Jvm.Cond.code ({ cls := "java/lang/String", name := "<init>", desc := "(Ljava/lang/StringBuilder;)V" } : Jvm.MethodName) jdk_42_method_53_code (2 : Nat) (Option.none : Option Jvm.ClassFile.FieldType), Jvm.Cond.code ({ cls := "java/lang/String", name := "<init>", desc := "(Ljava/lang/AbstractStringBuilder;Ljava/lang/Void;)V" } : Jvm.MethodName) jdk_42_method_150_code (5 : Nat) (Option.none : Option Jvm.ClassFile.FieldType), Jvm.Cond.code ({ cls := "java/lang/AbstractStringBuilder", name := "getValue", desc := "()[B" } : Jvm.MethodName) jdk_68_method_64_code (1 : Nat) (Option.some (Jvm.ClassFile.FieldType.array Jvm.ClassFile.FieldType.byte)), Jvm.Cond.code ({ cls := "java/lang/StringBuilder", name := "length", desc := "()I" } : Jvm.MethodName) jdk_67_method_93_code (1 : Nat) (Option.some Jvm.ClassFile.FieldType.int), Jvm.Cond.code ({ cls := "java/lang/AbstractStringBuilder", name := "length", desc := "()I" } : Jvm.MethodName) jdk_68_method_6_code (1 : Nat) (Option.some Jvm.ClassFile.FieldType.int), Jvm.Cond.code ({ cls := "java/lang/AbstractStringBuilder", name := "isLatin1", desc := "()Z" } : Jvm.MethodName) jdk_68_method_68_code (1 : Nat) (Option.some Jvm.ClassFile.FieldType.boolean), Jvm.Cond.code ({ cls := "java/util/Arrays", name := "copyOfRange", desc := "([BII)[B" } : Jvm.MethodName) jdk_65_method_132_code (3 : Nat) (Option.some (Jvm.ClassFile.FieldType.array Jvm.ClassFile.FieldType.byte)), Jvm.Cond.code ({ cls := "java/util/Arrays", name := "copyOfRangeByte", desc := "([BII)[B" } : Jvm.MethodName) jdk_65_method_133_code (5 : Nat) (Option.some (Jvm.ClassFile.FieldType.array Jvm.ClassFile.FieldType.byte)), Jvm.Cond.code ({ cls := "java/util/Arrays", name := "checkLength", desc := "(II)V" } : Jvm.MethodName) jdk_65_method_131_code (2 : Nat) (Option.none : Option Jvm.ClassFile.FieldType), Jvm.Cond.code ({ cls := "java/lang/Math", name := "min", desc := "(II)I" } : Jvm.MethodName) jdk_29_method_69_code (2 : Nat) (Option.some Jvm.ClassFile.FieldType.int), Jvm.Cond.code ({ cls := "java/lang/String", name := "equals", desc := "(Ljava/lang/Object;)Z" } : Jvm.MethodName) jdk_42_method_66_code (3 : Nat) (Option.some Jvm.ClassFile.FieldType.boolean), Jvm.Cond.code ({ cls := "java/lang/StringLatin1", name := "equals", desc := "([B[B)Z" } : Jvm.MethodName) jdk_43_method_13_code (3 : Nat) (Option.some Jvm.ClassFile.FieldType.boolean)]
set_option maxRecDepth 65536 in
theorem codes_eq : words1.filter isCode = codes1 := rfl
theorem w_codes : ∀ c ∈ words1.filter isCode, c.before args0 about1 = true := by
  rw [codes_eq]
  intro c hc
  simp only [codes1, List.mem_cons, List.not_mem_nil, or_false] at hc
  rcases hc with rfl | rfl | rfl | rfl | rfl | rfl | rfl | rfl | rfl | rfl | rfl | rfl | rfl | rfl | rfl | rfl | rfl | rfl | rfl | rfl | rfl | rfl | rfl | rfl | rfl | rfl | rfl | rfl | rfl | rfl | rfl | rfl | rfl | rfl | rfl | rfl | rfl | rfl | rfl | rfl | rfl | rfl | rfl
  · exact w_c0
  · exact w_c1
  · exact w_c2
  · exact w_c3
  · exact w_c4
  · exact w_c5
  · exact w_c6
  · exact w_c7
  · exact w_c8
  · exact w_c9
  · exact w_c10
  · exact w_c11
  · exact w_c12
  · exact w_c13
  · exact w_c14
  · exact w_c15
  · exact w_c16
  · exact w_c17
  · exact w_c18
  · exact w_c19
  · exact w_c20
  · exact w_c21
  · exact w_c22
  · exact w_c23
  · exact w_c24
  · exact w_c25
  · exact w_c26
  · exact w_c27
  · exact w_c28
  · exact w_c29
  · exact w_c30
  · exact w_c31
  · exact w_c32
  · exact w_c33
  · exact w_c34
  · exact w_c35
  · exact w_c36
  · exact w_c37
  · exact w_c38
  · exact w_c39
  · exact w_c40
  · exact w_c41
  · exact w_c42
set_option maxRecDepth 65536 in
theorem w_t1 : (words1.take 24).all (fun c => isCode c || c.before args0 about1) = true := by decide +kernel
set_option maxRecDepth 65536 in
theorem w_t2 : ((words1.drop 24).take 24).all (fun c => isCode c || c.before args0 about1) = true := by decide +kernel
set_option maxRecDepth 65536 in
theorem w_t3 : (((words1.drop 24).drop 24).take 24).all (fun c => isCode c || c.before args0 about1) = true := by decide +kernel
set_option maxRecDepth 65536 in
theorem w_t4 : ((((words1.drop 24).drop 24).drop 24).take 24).all (fun c => isCode c || c.before args0 about1) = true := by decide +kernel
set_option maxRecDepth 65536 in
theorem w_t5 : (((((words1.drop 24).drop 24).drop 24).drop 24).take 24).all (fun c => isCode c || c.before args0 about1) = true := by decide +kernel
set_option maxRecDepth 65536 in
theorem w_t6 : ((((((words1.drop 24).drop 24).drop 24).drop 24).drop 24).take 24).all (fun c => isCode c || c.before args0 about1) = true := by decide +kernel
set_option maxRecDepth 65536 in
theorem w_t7 : (((((((words1.drop 24).drop 24).drop 24).drop 24).drop 24).drop 24).take 24).all (fun c => isCode c || c.before args0 about1) = true := by decide +kernel
set_option maxRecDepth 65536 in
theorem w_t8 : ((((((((words1.drop 24).drop 24).drop 24).drop 24).drop 24).drop 24).drop 24).take 24).all (fun c => isCode c || c.before args0 about1) = true := by decide +kernel
set_option maxRecDepth 65536 in
theorem w_t9 : (((((((((words1.drop 24).drop 24).drop 24).drop 24).drop 24).drop 24).drop 24).drop 24).take 24).all (fun c => isCode c || c.before args0 about1) = true := by decide +kernel
set_option maxRecDepth 65536 in
theorem w_t10 : (((((((((words1.drop 24).drop 24).drop 24).drop 24).drop 24).drop 24).drop 24).drop 24).drop 24).all (fun c => isCode c || c.before args0 about1) = true := by decide +kernel
theorem w_tables : (allAtoms (Jvm.Cond.code x code maxLocals ret :: tables_1)).before args0 about1 = true := by
  rw [allAtoms_all]
  show words1.all (fun c => c.before args0 about1) = true
  refine all_split ?_ w_codes
  rw [← List.take_append_drop 24 words1, List.all_append, w_t1, ← List.take_append_drop 24 (words1.drop 24), List.all_append, w_t2, ← List.take_append_drop 24 ((words1.drop 24).drop 24), List.all_append, w_t3, ← List.take_append_drop 24 (((words1.drop 24).drop 24).drop 24), List.all_append, w_t4, ← List.take_append_drop 24 ((((words1.drop 24).drop 24).drop 24).drop 24), List.all_append, w_t5, ← List.take_append_drop 24 (((((words1.drop 24).drop 24).drop 24).drop 24).drop 24), List.all_append, w_t6, ← List.take_append_drop 24 ((((((words1.drop 24).drop 24).drop 24).drop 24).drop 24).drop 24), List.all_append, w_t7, ← List.take_append_drop 24 (((((((words1.drop 24).drop 24).drop 24).drop 24).drop 24).drop 24).drop 24), List.all_append, w_t8, ← List.take_append_drop 24 ((((((((words1.drop 24).drop 24).drop 24).drop 24).drop 24).drop 24).drop 24).drop 24), List.all_append, w_t9, w_t10]
  rfl
set_option maxRecDepth 65536 in
theorem w_rest : rest_1_c.before args0 about1 = true := by decide +kernel
set_option maxRecDepth 65536 in
theorem w_case : (Jvm.Cond.and given_1 narrow_1).before args0 about1 = true := by decide +kernel
set_option maxRecDepth 65536 in
theorem w_consts : constsHeld consts_1 about1 := Jvm.Lit.constsHeldB_iff.mp (by decide +kernel)
theorem w_applies : (headSpec (Jvm.Cond.code x code maxLocals ret :: tables_1) room_1).applies x e0.platform about1 = true :=
  (Spec.applies_iff w_frames).mpr ⟨w_running, w_runnable, w_alone, w_named, w_hears, w_ripe, w_room, w_tables⟩
theorem atStart : AtStart classFile x code maxLocals ret World_1 tables_1 room_1 Calls_1 rest_1 Pre_1 launch0 p0 e0 about1 theMethod args0 below0 :=
  ⟨lists_1, trivial, launch0.admits_env _ _ _, launch0.least_env, fairChoices_fair.cas, fairChoices_fair.clock, w_frames, w_args, w_heap, w_applies, ⟨w_consts, trivial⟩, w_rest, w_case⟩
end start1
theorem witness_1 : WitnessClaimed_1 := ⟨start1.p0, start1.e0, start1.about1, start1.theMethod, start1.args0, start1.below0, start1.atStart⟩
end Jvm.Pilot.@@N@@
