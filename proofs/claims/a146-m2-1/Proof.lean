import JvmDerived
import JvmDerived.Pilot.@@N@@Statement
import JvmDerived.Pilot.@@N@@Code
set_option linter.unusedVariables false
set_option linter.unusedSimpArgs false
namespace Jvm.RoadKit
open Sem ClassFile Op Lib Jvm.Stand Jvm.Free Jvm.LawKit
/-- the run from S ends, and ends as Q says -/
def Go (tb : Tables) (e : Env) (below : List Frame) (Q : Outcome → State → Prop) (S : State) : Prop := ∃ s₂ o, Steps tb e below S s₂ ∧ s₂.status = .running ∧ Ended s₂ below o ∧ Q o s₂
theorem Go.by {tb : Tables} {e : Env} {below : List Frame} {Q : Outcome → State → Prop} {S S' : State} (h : ∀ t, Steps tb e below S' t → Steps tb e below S t) (k : Go tb e below Q S') : Go tb e below Q S := by
  obtain ⟨s₂, o, h1, r⟩ := k
  exact ⟨s₂, o, h _ h1, r⟩
/-- what a contract says of the end -/
def Ret (s : State) (n0 : Nat) (Q : Option Value → Heap → Prop) (C S : Nat) : Outcome → State → Prop := fun o U => ∃ v L, o = .returned v ∧ (Q v U.heap ∧ Fr n0 L) ∧ FrameEnd s o U L C S
def Met (l : Launch) (Z : State) (n0 : Nat) (y : MethodName) (bytes : ByteArray) (maxL : Nat) (ret : Option FieldType) (ws : List Cond) (rm : Room) (as : Array Value) (h0 : Heap) (Q : Option Value → Heap → Prop) : Prop :=
  MetFree l y (head1 (Cond.code y bytes maxL ret :: ws) rm) (fun a U => a = as ∧ Z.Warmed39 U.vm ∧ U.heap = h0) (fun _ _ _ _ _ => True) (fun _ U o U' => ∃ v L, o = .returned v ∧ (Q v U'.heap ∧ Fr n0 L) ∧ FrameEnd U o U' L rm.cells rm.slots)
/-- where the walk stands: the heap is h, k cells of n slots were made, nothing below n0 was written -/
def Sd (n0 : Nat) (p : Program) (l : Launch) (e : Env) (R : Room) (s : State) (m : MethodId) (args : Array Value) (below : List Frame) (meth : Method) (c : Code) (T : State) (h : Heap) (k n : Nat) : Prop :=
  ∃ locs, Stand p l e R s m args below meth c T locs k n ∧ Fr n0 locs ∧ T.heap = h
section Sds
variable {n0 : Nat} {p : Program} {l : Launch} {e : Env} {R : Room} {s : State} {m : MethodId} {args : Array Value} {below : List Frame} {meth : Method} {c : Code} {T : State} {h : Heap} {k n : Nat} {Z : State} {a0 : Array Value}
theorem Sd.here (X : Sd n0 p l e R s m args below meth c T h k n) : At T m c below := by obtain ⟨_, X, -⟩ := X; exact X.here
theorem Sd.more (X : Sd n0 p l e R s m args below meth c T h k n) {k' n' : Nat} (hk : k ≤ k') (hn : n ≤ n') : Sd n0 p l e R s m args below meth c T h k' n' := by
  obtain ⟨L, X, N, q⟩ := X; exact ⟨L, X.more hk hn, N, q⟩
theorem enter {y : MethodName} {bytes : ByteArray} {maxL : Nat} {ret : Option FieldType} {ws : List Cond} {rm : Room} {as : Array Value} {h0 : Heap} {Q : Option Value → Heap → Prop} {Ls : Array Slot}
    (hpl : plainFor y = true) (hef : ∀ m, entryFrame m as maxL = mkF m 0 Ls [])
    (body : ∀ (p : Program) (e : Env) (s : State) (m : MethodId) (below : List Frame) (meth : Method) (c : Code) (T0 : State), p.tables.exec = Jvm.exec → c.code = bytes → c.maxLocals = maxL → s.vm.findClass y.cls = some m.cls → meth.name = y.name → meth.sig.returnType = ret → meth.locks = false → Z.Warmed39 s.vm →
      Sd n0 p l e rm s m as below meth c T0 h0 0 0 → Go p.tables e below (Ret s n0 Q rm.cells rm.slots) (T0.setTop (mkF m 0 Ls []))) : Met l Z n0 y bytes maxL ret ws rm as h0 Q := by
  refine MetFree.of_bodySF hpl hisR ?_
  intro p e s m args below meth c s₁ Bd hml0 hP hK
  obtain ⟨rfl, hZ, hh⟩ := hP
  have X0 : Stand p l e rm s m args below meth c s₁ [] 0 0 := Stand.of_body Bd
  have e0 : s₁.heap = h0 := by rw [← hh, Bd.state]; rfl
  have hlk : meth.locks = false := BodyLoose.notSynchronized Bd
  have k := body p e s m below meth c s₁ Bd.exec Bd.bytes hml0 (findClass_of_methodNamed Bd.named) (name_of_methodNamed Bd.named Bd.method).1 Bd.returns hlk hZ ⟨[], X0, Fr.nil n0, e0⟩
  obtain ⟨s₂, o, h1, h2, h3, h4⟩ := k
  exact ⟨s₂, o, castTop (hef m) h1, h2, h3, h4⟩
/-! returns -/
theorem Go.leave (X : Sd n0 p l e R s m args below meth c T h k n) {Q : Option Value → Heap → Prop} {C S : Nat} {v : Option Value} {g : JFrame} (hlk : meth.locks = false) (hv : meth.sig.returnType = none → v = none)
    (hst : ∀ fs, (∀ (f : JFrame) (acts : List Action), f.method = m → f.locked = none → f.entered = [] → (doReturn e (T.setTop f) acts v).1 = T.setFrames fs) → Steps p.tables e below (T.setTop g) (T.setFrames fs))
    (hk : k ≤ C) (hn : n ≤ S) (hQ : Q v h) : Go p.tables e below (Ret s n0 Q C S) (T.setTop g) := by
  obtain ⟨L, X, N, q⟩ := X
  obtain ⟨fs, hr, hrun, hended, hW, hsame⟩ := X.leave (v := v) hv hlk
  refine ⟨_, _, hst fs hr, hrun, hended, _, L, rfl, ⟨?_, N⟩, ⟨_, rfl⟩, hW, hsame.mono hk hn⟩
  show Q v T.heap
  rw [q]; exact hQ
theorem Go.retN (X : Sd n0 p l e R s m args below meth c T h k n) (hx : p.tables.exec = Jvm.exec) (hlk : meth.locks = false) {Q : Option Value → Heap → Prop} {C S : Nat} {t : FieldType} {pc : Nat} {Ls : Array Slot} {z z' : Int32} {rest : List Value} (hret : meth.sig.returnType = some t) (ht : t = .boolean ∨ t = .byte ∨ t = .char ∨ t = .short)
    (hd : decode c.code pc = .ok (.ireturn, 1)) (hz : nar t z = z') (hk : k ≤ C) (hn : n ≤ S) (hQ : Q (some (.int z')) h) : Go p.tables e below (Ret s n0 Q C S) (T.setTop (mkF m pc Ls (.int z :: rest))) := by
  subst hz
  refine Go.leave X hlk (fun q => by rw [hret] at q; cases q) (fun fs hr => ?_) hk hn hQ
  obtain ⟨L, X, -⟩ := X
  exact Jvm.RoadKit.retN X hx hret ht hd hr
theorem Go.retI (X : Sd n0 p l e R s m args below meth c T h k n) (hx : p.tables.exec = Jvm.exec) (hlk : meth.locks = false) {Q : Option Value → Heap → Prop} {C S : Nat} {pc : Nat} {Ls : Array Slot} {z : Int32} {rest : List Value} (hret : meth.sig.returnType = some .int)
    (hd : decode c.code pc = .ok (.ireturn, 1)) (hk : k ≤ C) (hn : n ≤ S) (hQ : Q (some (.int z)) h) : Go p.tables e below (Ret s n0 Q C S) (T.setTop (mkF m pc Ls (.int z :: rest))) := by
  refine Go.leave X hlk (fun q => by rw [hret] at q; cases q) (fun fs hr => ?_) hk hn hQ
  obtain ⟨L, X, -⟩ := X
  exact retOut X hx hret rfl (Or.inl ⟨rfl, Or.inl rfl, _, rfl⟩) hd hr
theorem Go.retL (X : Sd n0 p l e R s m args below meth c T h k n) (hx : p.tables.exec = Jvm.exec) (hlk : meth.locks = false) {Q : Option Value → Heap → Prop} {C S : Nat} {pc : Nat} {Ls : Array Slot} {z : Int64} {rest : List Value} (hret : meth.sig.returnType = some .long)
    (hd : decode c.code pc = .ok (.lreturn, 1)) (hk : k ≤ C) (hn : n ≤ S) (hQ : Q (some (.long z)) h) : Go p.tables e below (Ret s n0 Q C S) (T.setTop (mkF m pc Ls (.long z :: rest))) := by
  refine Go.leave X hlk (fun q => by rw [hret] at q; cases q) (fun fs hr => ?_) hk hn hQ
  obtain ⟨L, X, -⟩ := X
  exact retOut X hx hret rfl (Or.inr (Or.inl ⟨rfl, rfl, _, rfl⟩)) hd hr
theorem Go.retA (X : Sd n0 p l e R s m args below meth c T h k n) (hx : p.tables.exec = Jvm.exec) (hlk : meth.locks = false) {Q : Option Value → Heap → Prop} {C S : Nat} {t : FieldType} {pc : Nat} {Ls : Array Slot} {w : Value} {rest : List Value} (hret : meth.sig.returnType = some t) (ht : t.isReference = true) (hw : w.isRef = true)
    (hd : decode c.code pc = .ok (.areturn, 1)) (hk : k ≤ C) (hn : n ≤ S) (hQ : Q (some w) h) : Go p.tables e below (Ret s n0 Q C S) (T.setTop (mkF m pc Ls (w :: rest))) := by
  refine Go.leave X hlk (fun q => by rw [hret] at q; cases q) (fun fs hr => ?_) hk hn hQ
  obtain ⟨L, X, -⟩ := X
  have hnar : narrow t w = w := by cases t <;> first | (cases ht; done) | (cases w <;> first | rfl | (cases hw; done))
  exact retOut X hx hret hnar (Or.inr (Or.inr (Or.inr (Or.inr ⟨rfl, ht, hw⟩)))) hd hr
theorem Go.ret0 (X : Sd n0 p l e R s m args below meth c T h k n) (hx : p.tables.exec = Jvm.exec) (hlk : meth.locks = false) {Q : Option Value → Heap → Prop} {C S : Nat} {pc : Nat} {Ls : Array Slot} (hret : meth.sig.returnType = none)
    (hd : decode c.code pc = .ok (.return_, 1)) (hk : k ≤ C) (hn : n ≤ S) (hQ : Q none h) : Go p.tables e below (Ret s n0 Q C S) (T.setTop (mkF m pc Ls [])) := by
  refine Go.leave X hlk (fun _ => rfl) (fun fs hr => ?_) hk hn hQ
  obtain ⟨L, X, -⟩ := X
  exact X.returnOut hx hret hd hr
/-! fields, statics, casts -/
theorem Sd.getF (X : Sd n0 p l e R s m args below meth c T h k n) (hx : p.tables.exec = Jvm.exec) (hZ : Z.Warmed39 s.vm) {own R0 O nm d host : String} {index : Nat} (hown : s.vm.findClass own = some m.cls) (w : (Cond.fieldLink own index R0 nm d).before a0 Z = true ∨ (Cond.fieldLinkNest own index R0 nm d host).before a0 Z = true) (via : Via Z R0 O nm d)
    {a : Addr} {v : Value} (F : Fld Z h a O nm d v) {g : JFrame} (hg : g.method = m) {rest : List Value} (hs : g.stack = .ref a :: rest) (hd : decode c.code g.pc = .ok (.getfield index, 3)) :
    ∃ T', Sd n0 p l e R s m args below meth c T' h k n ∧ ∀ target, Steps p.tables e below (T'.setTop { g with pc := g.pc + 3, stack := v :: rest }) target → Steps p.tables e below (T.setTop g) target := by
  obtain ⟨L, X, N, q⟩ := X
  obtain ⟨T', X', e', st⟩ := Jvm.RoadKit.getF X hx hZ hown w via q F hg hs hd
  exact ⟨T', ⟨L, X', N, e'⟩, st⟩
theorem Sd.getS (X : Sd n0 p l e R s m args below meth c T h k n) (hx : p.tables.exec = Jvm.exec) (hZ : Z.Warmed39 s.vm) {own R0 O nm d host : String} {index : Nat} (hown : s.vm.findClass own = some m.cls) (w : (Cond.fieldLink own index R0 nm d).before a0 Z = true ∨ (Cond.fieldLinkNest own index R0 nm d host).before a0 Z = true) (via : Via Z R0 O nm d)
    {v : Value} (F : Sta Z h O nm d v) {g : JFrame} (hg : g.method = m) (hd : decode c.code g.pc = .ok (.getstatic index, 3)) :
    ∃ T', Sd n0 p l e R s m args below meth c T' h k n ∧ ∀ target, Steps p.tables e below (T'.setTop { g with pc := g.pc + 3, stack := v :: g.stack }) target → Steps p.tables e below (T.setTop g) target := by
  obtain ⟨L, X, N, q⟩ := X
  obtain ⟨T', X', e', st⟩ := getS2 X hx hZ hown w via q F hg hd
  exact ⟨T', ⟨L, X', N, e'⟩, st⟩
theorem Sd.putF (X : Sd n0 p l e R s m args below meth c T h k n) (hx : p.tables.exec = Jvm.exec) (hZ : Z.Warmed39 s.vm) {own R0 O nm d host C : String} {index kk : Nat} {ty : FieldType} (hown : s.vm.findClass own = some m.cls) (w : (Cond.fieldLink own index R0 nm d).before a0 Z = true ∨ (Cond.fieldLinkNest own index R0 nm d host).before a0 Z = true) (via : Via Z R0 O nm d)
    {a : Addr} {v old : Value} (F : Fld Z h a O nm d old) (E : Exa Z h a C) (ga : n0 ≤ a) (L : (Cond.lays C O nm d).before a0 Z = true ∨ ((Cond.laysFinal C O nm d).before a0 Z = true ∧ own = O ∧ meth.name = "<init>")) (wi : (Cond.instantiable C kk).before a0 Z = true)
    (hty : parseFieldDescriptor d = some ty) (hnr : narrow ty v = v) (hf : fits ty v = true) {g : JFrame} (hg : g.method = m) {rest : List Value} (hs : g.stack = v :: .ref a :: rest) (hd : decode c.code g.pc = .ok (.putfield index, 3)) :
    ∃ T' h', Sd n0 p l e R s m args below meth c T' h' k n ∧ Wr h h' a (slotOf Z O nm d) v ∧ ∀ target, Steps p.tables e below (T'.setTop { g with pc := g.pc + 3, stack := rest }) target → Steps p.tables e below (T.setTop g) target := by
  obtain ⟨Lc, X, N, q⟩ := X
  obtain ⟨T', h', X', e', W, st⟩ := Jvm.RoadKit.putF X hx hZ hown w via q F E L wi hty hnr hf hg hs hd
  exact ⟨T', h', ⟨_, X', Fr.snoc X' N ga, e'⟩, W, st⟩
theorem Sd.putFN (X : Sd n0 p l e R s m args below meth c T h k n) (hx : p.tables.exec = Jvm.exec) (hZ : Z.Warmed39 s.vm) {own R0 O nm d C : String} {index kk : Nat} {ty : FieldType} (hown : s.vm.findClass own = some m.cls) (w : (Cond.fieldLink own index R0 nm d).before a0 Z = true) (via : Via Z R0 O nm d)
    {a : Addr} {v v' old : Value} (F : Fld Z h a O nm d old) (E : Exa Z h a C) (ga : n0 ≤ a) (L : (Cond.lays C O nm d).before a0 Z = true ∨ ((Cond.laysFinal C O nm d).before a0 Z = true ∧ own = O ∧ meth.name = "<init>")) (wi : (Cond.instantiable C kk).before a0 Z = true)
    (hty : parseFieldDescriptor d = some ty) (hnr : narrow ty v = v') (hf : fits ty v' = true) {g : JFrame} (hg : g.method = m) {rest : List Value} (hs : g.stack = v :: .ref a :: rest) (hd : decode c.code g.pc = .ok (.putfield index, 3)) :
    ∃ T' h', Sd n0 p l e R s m args below meth c T' h' k n ∧ Wr h h' a (slotOf Z O nm d) v' ∧ ∀ target, Steps p.tables e below (T'.setTop { g with pc := g.pc + 3, stack := rest }) target → Steps p.tables e below (T.setTop g) target := by
  obtain ⟨Lc, X, N, q⟩ := X
  obtain ⟨T', h', X', e', W, st⟩ := Jvm.RoadKit.putFN X hx hZ hown w via q F E L wi hty hnr hf hg hs hd
  exact ⟨T', h', ⟨_, X', Fr.snoc X' N ga, e'⟩, W, st⟩
theorem Sd.castY (X : Sd n0 p l e R s m args below meth c T h k n) (hx : p.tables.exec = Jvm.exec) (hZ : Z.Warmed39 s.vm) {own K : String} {index : Nat} (hown : s.vm.findClass own = some m.cls) (w : (Cond.classLink own index K).before a0 Z = true) {a : Addr} (F : Ins Z h a K true)
    {g : JFrame} (hg : g.method = m) {rest : List Value} (hs : g.stack = .ref a :: rest) (hd : decode c.code g.pc = .ok (.checkcast index, 3)) :
    ∃ T', Sd n0 p l e R s m args below meth c T' h k n ∧ ∀ target, Steps p.tables e below (T'.setTop { g with pc := g.pc + 3 }) target → Steps p.tables e below (T.setTop g) target := by
  obtain ⟨L, X, N, q⟩ := X
  obtain ⟨T', X', e', st⟩ := Jvm.RoadKit.castY X hx hZ hown w q F hg hs hd
  exact ⟨T', ⟨L, X', N, e'⟩, st⟩
theorem Sd.instY (X : Sd n0 p l e R s m args below meth c T h k n) (hx : p.tables.exec = Jvm.exec) (hZ : Z.Warmed39 s.vm) {own K : String} {index : Nat} (hown : s.vm.findClass own = some m.cls) (w : (Cond.classLink own index K).before a0 Z = true) {a : Addr} (F : Ins Z h a K true)
    {g : JFrame} (hg : g.method = m) {rest : List Value} (hs : g.stack = .ref a :: rest) (hd : decode c.code g.pc = .ok (.instanceof index, 3)) :
    ∃ T', Sd n0 p l e R s m args below meth c T' h k n ∧ ∀ target, Steps p.tables e below (T'.setTop { g with pc := g.pc + 3, stack := .int 1 :: rest }) target → Steps p.tables e below (T.setTop g) target := by
  obtain ⟨L, X, N, q⟩ := X
  obtain ⟨T', X', e', st⟩ := Jvm.RoadKit.instY X hx hZ hown w q F hg hs hd
  exact ⟨T', ⟨L, X', N, e'⟩, st⟩
theorem Sd.instNull (X : Sd n0 p l e R s m args below meth c T h k n) (hx : p.tables.exec = Jvm.exec) {index : Nat} {g : JFrame} (hg : g.method = m) {rest : List Value} (hs : g.stack = .null :: rest) (hd : decode c.code g.pc = .ok (.instanceof index, 3)) :
    ∀ target, Steps p.tables e below (T.setTop { g with pc := g.pc + 3, stack := .int 0 :: rest }) target → Steps p.tables e below (T.setTop g) target := by
  obtain ⟨L, X, -⟩ := X; exact X.instanceofNull hx hg hs hd
theorem Sd.ldcInt (X : Sd n0 p l e R s m args below meth c T h k n) (hx : p.tables.exec = Jvm.exec) (hZ : Z.Warmed39 s.vm) {own : String} {index : Nat} {v : Int32} (hown : s.vm.findClass own = some m.cls) (w : (Cond.constant own index v).before a0 Z = true) {g : JFrame} (hg : g.method = m) (hd : decode c.code g.pc = .ok (.ldc index, 2)) :
    ∀ target, Steps p.tables e below (T.setTop { g with pc := g.pc + 2, stack := .int v :: g.stack }) target → Steps p.tables e below (T.setTop g) target := by
  obtain ⟨L, X, -⟩ := X; exact X.ldcInt hx hown (mvT hZ w) hg hd
theorem Sd.ldc2Long (X : Sd n0 p l e R s m args below meth c T h k n) (hx : p.tables.exec = Jvm.exec) (hZ : Z.Warmed39 s.vm) {own : String} {index : Nat} {v : Int64} (hown : s.vm.findClass own = some m.cls) (w : (Cond.constantLong own index v).before a0 Z = true) {g : JFrame} (hg : g.method = m) (hd : decode c.code g.pc = .ok (.ldc2_w index, 3)) :
    ∀ target, Steps p.tables e below (T.setTop { g with pc := g.pc + 3, stack := .long v :: g.stack }) target → Steps p.tables e below (T.setTop g) target := by
  obtain ⟨L, X, -⟩ := X; exact X.ldc2Long hx hown (mvT hZ w) hg hd
theorem Sd.acmp {g : JFrame} (X : Sd n0 p l e R s m args below meth c T h k n) (hx : p.tables.exec = Jvm.exec) (hg : g.method = m) {cd : ACond} {x y : Value} (h1 : x.isRef = true) (h2 : y.isRef = true) {rest : List Value} {o : Int} {pc0 pc' : Nat} {same : Bool} (hpc : g.pc = pc0)
    (hd : decode c.code g.pc = .ok (.if_acmp cd o, 3)) (hs : g.stack = y :: x :: rest) (hq : decide (x = y) = same) (ho : 0 ≤ (pc0 : Int) + o) (hp : pc' = if acV cd same = true then ((pc0 : Int) + o).toNat else pc0 + 3) :
    ∀ target, Steps p.tables e below (T.setTop { g with pc := pc', stack := rest }) target → Steps p.tables e below (T.setTop g) target := by
  obtain ⟨L, X, -⟩ := X; exact fun _ => Jvm.RoadKit.acmp X hx hg h1 h2 hpc hd hs hq ho hp
theorem Sd.getFR (X : Sd n0 p l e R s m args below meth c T h k n) (hx : p.tables.exec = Jvm.exec) (hZ : Z.Warmed39 s.vm) {own O nm d : String} {index : Nat} (hown : s.vm.findClass own = some m.cls) (w : (Cond.fieldRef own index O nm d).before a0 Z = true)
    {a : Addr} {v : Value} (F : Fld Z h a O nm d v) {g : JFrame} (hg : g.method = m) {rest : List Value} (hs : g.stack = .ref a :: rest) (hd : decode c.code g.pc = .ok (.getfield index, 3)) :
    ∀ target, Steps p.tables e below (T.setTop { g with pc := g.pc + 3, stack := v :: rest }) target → Steps p.tables e below (T.setTop g) target := by
  obtain ⟨L, X, N, q⟩ := X
  obtain ⟨cell, cf, kk, i, f, h1, h2, h3, h4, h5, h6, h7⟩ := F
  have hT : Z.Warmed39 T.vm := wtrans hZ X.warmed
  have w' := Cond.fieldRef_warmed39 hT w
  have hcur : (Z.setVm T.vm).vm.findClass own = some m.cls := by show T.vm.findClass own = _; rw [X.warmed.alike.findClass]; exact hown
  obtain ⟨c', k', i', f', e1, e2⟩ := Cond.fieldRef_spec hcur w'
  obtain ⟨k2, hi, -⟩ := State.fieldFound?_setVm (s := Z) hT.alike h2
  cases e1.symm.trans hi
  intro target hrest
  subst hg
  jvm_step X.here [hx, hd, getfield.wp_ready (e := e) (s := T) (f := g) X.here.top e2 h3 hs (by rw [q]; exact h1) h4 h7]
  exact hrest
/-! making -/
theorem Sd.newO (X : Sd n0 p l e R s m args below meth c T h k n) (hx : p.tables.exec = Jvm.exec) (hZ : Z.Warmed39 s.vm) {own C : String} {index sz k' n' : Nat} (hown : s.vm.findClass own = some m.cls) (w : (Cond.classLink own index C).before a0 Z = true) (wi : (Cond.instantiable C sz).before a0 Z = true) (wz : (Cond.initialized C).before a0 Z = true)
    {g : JFrame} (hg : g.method = m) (hd : decode c.code g.pc = .ok (.new index, 3)) (hk : k + 1 = k') (hn : n + sz = n') (hc : k' ≤ R.cells) (hl : n' ≤ R.slots) :
    ∃ T' h' a, Sd n0 p l e R s m args below meth c T' h' k' n' ∧ a = h.size ∧ Ext h h' ∧ Exa Z h' a C ∧ (∀ {O nm d : String} {ty : FieldType}, Laid Z a0 C O nm d → parseFieldDescriptor d = some ty → Fld Z h' a O nm d (defaultValue ty)) ∧
      ∀ target, Steps p.tables e below (T'.setTop { g with pc := g.pc + 3, stack := .ref a :: g.stack }) target → Steps p.tables e below (T.setTop g) target := by
  subst hk hn
  obtain ⟨L, X, N, q⟩ := X
  obtain ⟨T', h', X', e', E, A, D, -, st⟩ := Jvm.RoadKit.newO X hx hZ hown w wi wz q hg hd hc hl
  exact ⟨T', h', _, ⟨L, X', N, e'⟩, rfl, E, A, D, st⟩
theorem Sd.initO (X : Sd n0 p l e R s m args below meth c T h k n) (hx : p.tables.exec = Jvm.exec) (hZ : Z.Warmed39 s.vm) {own : String} {idx : Nat} (hown : s.vm.findClass own = some m.cls) (w1 : (Cond.methodLink own idx Lib.objectInit).before a0 Z = true) (w2 : (Cond.instanceMethod Lib.objectInit).before a0 Z = true)
    (w3 : (Cond.code Lib.objectInit ⟨#[0xb1]⟩ 1 none).before a0 Z = true) {g : JFrame} (hg : g.method = m) (hsize : g.locals.size = c.maxLocals) {a : Addr} {rest : List Value} (hs : g.stack = .ref a :: rest) (hd : decode c.code g.pc = .ok (.invokespecial idx, 3))
    (hf : 1 ≤ R.frames) (hl : 2 * g.monitorRoom + (rest.map fun v => v.category).sum + 12 ≤ R.locals) :
    ∃ T', Sd n0 p l e R s m args below meth c T' h k n ∧ ∀ target, Steps p.tables e below (T'.setTop { g with pc := g.pc + 3, stack := rest }) target → Steps p.tables e below (T.setTop g) target := by
  obtain ⟨L, X, N, q⟩ := X
  obtain ⟨T', X', e', st⟩ := Jvm.RoadKit.initO X hx hZ hown w1 w2 w3 q hg hsize hs hd hf (W := 2 * g.monitorRoom + (rest.map fun v => v.category).sum) (Nat.le_refl _) hl
  exact ⟨T', ⟨L, X', N, e'⟩, st⟩
/-- an array of n' places, place i holds f i -/
def Avf (Z : State) (h : Heap) (a : Addr) (kc : ClassId) (ty : FieldType) (sz : Nat) (f : Nat → Value) : Prop := ∃ cl : Cell, Arr Z h a cl ty ∧ cl.cls = kc ∧ cl.slots.size = sz ∧ sz < 2 ^ 31 ∧ ∀ i, i < sz → cl.slots[i]? = some (f i) ∧ fits ty (f i) = true
theorem Avf.lt {h : Heap} {a : Addr} {kc : ClassId} {ty : FieldType} {sz : Nat} {f : Nat → Value} (F : Avf Z h a kc ty sz f) : a < h.size := by obtain ⟨_, A, -⟩ := F; exact A.lt
theorem Avf.ext {h h' : Heap} {a : Addr} {kc : ClassId} {ty : FieldType} {sz : Nat} {f : Nat → Value} (F : Avf Z h a kc ty sz f) (E : Ext h h') : Avf Z h' a kc ty sz f := by obtain ⟨cl, A, r⟩ := F; exact ⟨cl, A.ext E, r⟩
theorem Avf.other {h h' : Heap} {a b : Addr} {kc : ClassId} {ty : FieldType} {sz sl : Nat} {f : Nat → Value} {v : Value} (F : Avf Z h b kc ty sz f) (W : Wr h h' a sl v) (q : b ≠ a) : Avf Z h' b kc ty sz f := by obtain ⟨cl, A, r⟩ := F; exact ⟨cl, A.other W q, r⟩
theorem Avf.keep {h h' : Heap} {a : Addr} {kc : ClassId} {ty : FieldType} {sz : Nat} {f : Nat → Value} {ws : List Addr} (F : Avf Z h a kc ty sz f) (K : Keep h h' ws) (q : a ∉ ws) : Avf Z h' a kc ty sz f := by obtain ⟨cl, A, r⟩ := F; exact ⟨cl, ⟨K.2.1 a cl A.1 q, A.2⟩, r⟩
theorem Avf.cong {h : Heap} {a : Addr} {kc : ClassId} {ty : FieldType} {sz : Nat} {f g : Nat → Value} (F : Avf Z h a kc ty sz f) (q : ∀ i, i < sz → f i = g i) : Avf Z h a kc ty sz g := by
  obtain ⟨cl, A, r1, r2, r3, r4⟩ := F; exact ⟨cl, A, r1, r2, r3, fun i hi => by rw [← q i hi]; exact r4 i hi⟩
theorem Avf.set {h h' : Heap} {a : Addr} {kc : ClassId} {ty : FieldType} {sz : Nat} {f : Nat → Value} {v : Value} {j : Nat} (F : Avf Z h a kc ty sz f) (W : Wr h h' a j v) (hv : fits ty v = true) : Avf Z h' a kc ty sz (fun i => if i = j then v else f i) := by
  obtain ⟨cl, A, r1, r2, r3, r4⟩ := F
  refine ⟨_, A.same W, r1, by rw [sz_set]; exact r2, r3, fun i hi => ?_⟩
  by_cases q : i = j
  · subst q; simp [Cell.setSlot, r2, hi, hv]
  · simp [Cell.setSlot, q, r4 i hi, Array.getElem?_setIfInBounds_ne (Ne.symm q)]
theorem Avf.of_arv {h : Heap} {a : Addr} {kc : ClassId} {ty : FieldType} {z : Int32} {vs : List Value} {dv : Value} (F : Arv Z h a kc ty z vs dv) : Avf Z h a kc ty z.toNatClampNeg (fun i => vs.getD i dv) := by
  obtain ⟨cl, A, r1, r2, r3, H, G⟩ := F
  exact ⟨cl, A, r1, r2, (back32 r3).2, fun i hi => ⟨H i (by rw [r2]; exact hi), G i (by rw [r2]; exact hi)⟩⟩
theorem Sd.newP (X : Sd n0 p l e R s m args below meth c T h k n) (hx : p.tables.exec = Jvm.exec) (hZ : Z.Warmed39 s.vm) {aty : ArrayType} (w : (Cond.arrayClass (newarray.typeOf aty)).before a0 Z = true) {g : JFrame} (hg : g.method = m) (hd : decode c.code g.pc = .ok (.newarray aty, 2)) {z : Int32} {rest : List Value} (hs : g.stack = .int z :: rest)
    (hz : ¬ z < 0) {sz cap k' n' : Nat} (hsz : z.toNatClampNeg = sz) (hcap : sz ≤ cap) (hb : cap * 8 ≤ 536870912) (hk : k + 1 = k') (hn : n + cap = n') (hc : k' ≤ R.cells) (hl : n' ≤ R.slots) {ad : String} (had : "[" ++ (newarray.typeOf aty).toString = ad) :
    ∃ T' h' kc a, Sd n0 p l e R s m args below meth c T' h' k' n' ∧ a = h.size ∧ Ext h h' ∧ Exa Z h' a ad ∧ Avf Z h' a kc (newarray.typeOf aty) sz (fun _ => defaultValue (newarray.typeOf aty)) ∧
      ∀ target, Steps p.tables e below (T'.setTop { g with pc := g.pc + 2, stack := .ref a :: rest }) target → Steps p.tables e below (T.setTop g) target := by
  subst hk hn hsz
  obtain ⟨L, X, N, q⟩ := X
  obtain ⟨T', h', kc, X', e', E, A, Ex, st⟩ := Jvm.RoadKit.newPE X hx hZ w q hg hd hs hz hcap hb hc hl had
  refine ⟨T', h', kc, _, ⟨L, X', N, e'⟩, rfl, E, Ex, ⟨_, A, rfl, sz_new _ _ _, (back32 hz).2, fun i hi => ⟨by simp [newA, hi], ?_⟩⟩, st⟩
  cases aty <;> rfl
theorem Sd.newR (X : Sd n0 p l e R s m args below meth c T h k n) (hx : p.tables.exec = Jvm.exec) (hZ : Z.Warmed39 s.vm) {own C : String} {index : Nat} (hown : s.vm.findClass own = some m.cls) (w1 : (Cond.classLink own index C).before a0 Z = true) (w2 : (Cond.arrayOver (.object C)).before a0 Z = true)
    {g : JFrame} (hg : g.method = m) (hd : decode c.code g.pc = .ok (.anewarray index, 3)) {z : Int32} {rest : List Value} (hs : g.stack = .int z :: rest)
    (hz : ¬ z < 0) {sz cap k' n' : Nat} (hsz : z.toNatClampNeg = sz) (hcap : sz ≤ cap) (hb : cap * 8 ≤ 536870912) (hk : k + 1 = k') (hn : n + cap = n') (hc : k' ≤ R.cells) (hl : n' ≤ R.slots) {ad : String} (had : "[" ++ (FieldType.object C).toString = ad) :
    ∃ T' h' kc a, Sd n0 p l e R s m args below meth c T' h' k' n' ∧ a = h.size ∧ Ext h h' ∧ Exa Z h' a ad ∧ Avf Z h' a kc (.object C) sz (fun _ => .null) ∧ Ovr Z kc C ∧
      ∀ target, Steps p.tables e below (T'.setTop { g with pc := g.pc + 3, stack := .ref a :: rest }) target → Steps p.tables e below (T.setTop g) target := by
  subst hk hn hsz
  obtain ⟨L, X, N, q⟩ := X
  obtain ⟨T', h', kc, X', e', E, A, Ex, O, st⟩ := Jvm.RoadKit.newRE X hx hZ hown w1 w2 q hg hd hs hz hcap hb hc hl had
  exact ⟨T', h', kc, _, ⟨L, X', N, e'⟩, rfl, E, Ex, ⟨_, A, rfl, sz_new _ _ _, (back32 hz).2, fun i hi => ⟨by simp [newA, hi, defaultValue], rfl⟩⟩, O, st⟩
theorem Sd.clone (X : Sd n0 p l e R s m args below meth c T h k n) (hx : p.tables.exec = Jvm.exec) (hZ : Z.Warmed39 s.vm) {own ad : String} {index : Nat} (hown : s.vm.findClass own = some m.cls)
    (w1 : (Cond.methodLink own index ⟨ad, "clone", "()Ljava/lang/Object;"⟩).before a0 Z = true) (w2 : (Cond.sameMethod ad "java/lang/Object" "clone" "()Ljava/lang/Object;").before a0 Z = true) (w3 : (Cond.native ⟨"java/lang/Object", "clone", "()Ljava/lang/Object;"⟩).before a0 Z = true)
    (w4 : (Cond.instanceMethod ⟨"java/lang/Object", "clone", "()Ljava/lang/Object;"⟩).before a0 Z = true) (w5 : (Cond.selects ad ⟨ad, "clone", "()Ljava/lang/Object;"⟩ ⟨"java/lang/Object", "clone", "()Ljava/lang/Object;"⟩).before a0 Z = true) (w6 : (Cond.castable ad "java/lang/Cloneable").before a0 Z = true)
    {a : Addr} {kc : ClassId} {ty : FieldType} {sz : Nat} {f : Nat → Value} (F : Avf Z h a kc ty sz f) (E : Exa Z h a ad) {g : JFrame} (hg : g.method = m) (hsize : g.locals.size = c.maxLocals) {rest : List Value} (hst : g.stack = .ref a :: rest) (hd : decode c.code g.pc = .ok (.invokevirtual index, 3))
    (hf : 1 ≤ R.frames) (hl : 2 * g.monitorRoom + (rest.map fun v => v.category).sum + 14 ≤ R.locals) {cap k' n' : Nat} (hcap : sz ≤ cap) (hk : k + 1 = k') (hn : n + cap = n') (hc : k' ≤ R.cells) (hs : n' ≤ R.slots) :
    ∃ T' h' b, Sd n0 p l e R s m args below meth c T' h' k' n' ∧ b = h.size ∧ Ext h h' ∧ Exa Z h' b ad ∧ Avf Z h' b kc ty sz f ∧ ∀ target, Steps p.tables e below (T'.setTop { g with pc := g.pc + 3, stack := .ref b :: rest }) target → Steps p.tables e below (T.setTop g) target := by
  subst hk hn
  obtain ⟨L, X, N, q⟩ := X
  obtain ⟨cl, A, r1, r2, r3, r4⟩ := F
  have FC : FitC Z cl := fitC_of A fun i hi v hv => by rw [(r4 i (r2 ▸ hi)).1] at hv; cases hv; exact (r4 i (r2 ▸ hi)).2
  obtain ⟨T', h', X', e', ex, A', E', st⟩ := cloneA X hx hZ hown w1 w2 w3 w4 w5 w6 q A E FC hg hsize hst hd hf (W := 2 * g.monitorRoom + (rest.map fun v => v.category).sum) (Nat.le_refl _) hl (by rw [r2]; exact hcap) hc hs
  exact ⟨T', h', _, ⟨L, X', N, e'⟩, rfl, ex, E', ⟨cloneOf cl, A', r1, r2, r3, r4⟩, st⟩
/-! arrays: length, load, store -/
theorem Sd.len (X : Sd n0 p l e R s m args below meth c T h k n) (hx : p.tables.exec = Jvm.exec) (hZ : Z.Warmed39 s.vm) {a : Addr} {kc : ClassId} {ty : FieldType} {sz : Nat} {f : Nat → Value} (F : Avf Z h a kc ty sz f) {z : Int32} (hz : sz.toInt32 = z)
    {g : JFrame} (hg : g.method = m) {rest : List Value} (hs : g.stack = .ref a :: rest) (hd : decode c.code g.pc = .ok (.arraylength, 1)) :
    ∀ target, Steps p.tables e below (T.setTop { g with pc := g.pc + 1, stack := .int z :: rest }) target → Steps p.tables e below (T.setTop g) target := by
  obtain ⟨L, X, -, q⟩ := X
  obtain ⟨cl, A, r1, r2, r3, r4⟩ := F
  intro t kt
  refine X.arraylength hx (by rw [q]; exact A.1) (State.isArrayOf_alike hZ.alike A.2.1) hg hs hd _ ?_
  rw [r2, hz]; exact kt
theorem inb {cl : Cell} {sz i : Nat} {j : Int32} (r2 : cl.slots.size = sz) (hj : ¬ j < 0) (hi : j.toNatClampNeg = i) (hlt : i < sz) : ¬ (j < 0 ∨ cl.slots.size ≤ j.toNatClampNeg) := fun q => q.elim hj fun q => by omega
theorem Sd.ldI (X : Sd n0 p l e R s m args below meth c T h k n) (hx : p.tables.exec = Jvm.exec) (hZ : Z.Warmed39 s.vm) {a : Addr} {kc : ClassId} {sz : Nat} {f : Nat → Value} (F : Avf Z h a kc .int sz f) {j : Int32} (hj : ¬ j < 0) {i : Nat} (hi : j.toNatClampNeg = i) (hlt : i < sz) {v : Value} (hv : f i = v)
    {g : JFrame} (hg : g.method = m) {rest : List Value} (hs : g.stack = .int j :: .ref a :: rest) (hd : decode c.code g.pc = .ok (.iaload, 1)) :
    ∀ target, Steps p.tables e below (T.setTop { g with pc := g.pc + 1, stack := v :: rest }) target → Steps p.tables e below (T.setTop g) target := by
  subst hv
  obtain ⟨L, X, -, q⟩ := X
  obtain ⟨cl, A, r1, r2, r3, r4⟩ := F
  exact X.iaload hx (by rw [q]; exact A.1) (State.isArrayOf_alike hZ.alike A.2.1) A.2.2 (inb r2 hj hi hlt) (by rw [hi]; exact (r4 i hlt).1) hg hs hd
theorem Sd.ldJ (X : Sd n0 p l e R s m args below meth c T h k n) (hx : p.tables.exec = Jvm.exec) (hZ : Z.Warmed39 s.vm) {a : Addr} {kc : ClassId} {sz : Nat} {f : Nat → Value} (F : Avf Z h a kc .long sz f) {j : Int32} (hj : ¬ j < 0) {i : Nat} (hi : j.toNatClampNeg = i) (hlt : i < sz) {v : Value} (hv : f i = v)
    {g : JFrame} (hg : g.method = m) {rest : List Value} (hs : g.stack = .int j :: .ref a :: rest) (hd : decode c.code g.pc = .ok (.laload, 1)) :
    ∀ target, Steps p.tables e below (T.setTop { g with pc := g.pc + 1, stack := v :: rest }) target → Steps p.tables e below (T.setTop g) target := by
  subst hv
  obtain ⟨L, X, -, q⟩ := X
  obtain ⟨cl, A, r1, r2, r3, r4⟩ := F
  exact X.laload hx (by rw [q]; exact A.1) (State.isArrayOf_alike hZ.alike A.2.1) A.2.2 (inb r2 hj hi hlt) (by rw [hi]; exact (r4 i hlt).1) hg hs hd
theorem Sd.ldC (X : Sd n0 p l e R s m args below meth c T h k n) (hx : p.tables.exec = Jvm.exec) (hZ : Z.Warmed39 s.vm) {a : Addr} {kc : ClassId} {sz : Nat} {f : Nat → Value} (F : Avf Z h a kc .char sz f) {j : Int32} (hj : ¬ j < 0) {i : Nat} (hi : j.toNatClampNeg = i) (hlt : i < sz) {v : Value} (hv : f i = v)
    {g : JFrame} (hg : g.method = m) {rest : List Value} (hs : g.stack = .int j :: .ref a :: rest) (hd : decode c.code g.pc = .ok (.caload, 1)) :
    ∀ target, Steps p.tables e below (T.setTop { g with pc := g.pc + 1, stack := v :: rest }) target → Steps p.tables e below (T.setTop g) target := by
  subst hv
  obtain ⟨L, X, -, q⟩ := X
  obtain ⟨cl, A, r1, r2, r3, r4⟩ := F
  exact X.caload hx (by rw [q]; exact A.1) (State.isArrayOf_alike hZ.alike A.2.1) A.2.2 (inb r2 hj hi hlt) (by rw [hi]; exact (r4 i hlt).1) hg hs hd
theorem Sd.ldB (X : Sd n0 p l e R s m args below meth c T h k n) (hx : p.tables.exec = Jvm.exec) (hZ : Z.Warmed39 s.vm) {a : Addr} {kc : ClassId} {sz : Nat} {f : Nat → Value} (F : Avf Z h a kc .byte sz f) {j : Int32} (hj : ¬ j < 0) {i : Nat} (hi : j.toNatClampNeg = i) (hlt : i < sz) {v : Value} (hv : f i = v)
    {g : JFrame} (hg : g.method = m) {rest : List Value} (hs : g.stack = .int j :: .ref a :: rest) (hd : decode c.code g.pc = .ok (.baload, 1)) :
    ∀ target, Steps p.tables e below (T.setTop { g with pc := g.pc + 1, stack := v :: rest }) target → Steps p.tables e below (T.setTop g) target := by
  subst hv
  obtain ⟨L, X, -, q⟩ := X
  obtain ⟨cl, A, r1, r2, r3, r4⟩ := F
  exact X.baloadBytes hx (by rw [q]; exact A.1) (State.isArrayOf_alike hZ.alike A.2.1) A.2.2 (inb r2 hj hi hlt) (by rw [hi]; exact (r4 i hlt).1) hg hs hd
theorem Sd.ldA (X : Sd n0 p l e R s m args below meth c T h k n) (hx : p.tables.exec = Jvm.exec) (hZ : Z.Warmed39 s.vm) {a : Addr} {kc : ClassId} {ty : FieldType} {sz : Nat} {f : Nat → Value} (F : Avf Z h a kc ty sz f) (hty : ty.isReference = true) {j : Int32} (hj : ¬ j < 0) {i : Nat} (hi : j.toNatClampNeg = i) (hlt : i < sz) {v : Value} (hv : f i = v)
    {g : JFrame} (hg : g.method = m) {rest : List Value} (hs : g.stack = .int j :: .ref a :: rest) (hd : decode c.code g.pc = .ok (.aaload, 1)) :
    ∀ target, Steps p.tables e below (T.setTop { g with pc := g.pc + 1, stack := v :: rest }) target → Steps p.tables e below (T.setTop g) target := by
  subst hv
  obtain ⟨L, X, -, q⟩ := X
  obtain ⟨cl, A, r1, r2, r3, r4⟩ := F
  exact X.aaload hx (by rw [q]; exact A.1) (State.isArrayOf_alike hZ.alike A.2.1) hty A.2.2 (inb r2 hj hi hlt) (by rw [hi]; exact (r4 i hlt).1) hg hs hd
theorem Sd.stI (X : Sd n0 p l e R s m args below meth c T h k n) (hx : p.tables.exec = Jvm.exec) (hZ : Z.Warmed39 s.vm) {a : Addr} {kc : ClassId} {sz : Nat} {f : Nat → Value} (F : Avf Z h a kc .int sz f) (ga : n0 ≤ a) {j x : Int32} (hj : ¬ j < 0) {i : Nat} (hi : j.toNatClampNeg = i) (hlt : i < sz)
    {g : JFrame} (hg : g.method = m) {rest : List Value} (hs : g.stack = .int x :: .int j :: .ref a :: rest) (hd : decode c.code g.pc = .ok (.iastore, 1)) :
    ∃ T' h', Sd n0 p l e R s m args below meth c T' h' k n ∧ Wr h h' a i (.int x) ∧ Avf Z h' a kc .int sz (fun t => if t = i then .int x else f t) ∧ ∀ target, Steps p.tables e below (T'.setTop { g with pc := g.pc + 1, stack := rest }) target → Steps p.tables e below (T.setTop g) target := by
  obtain ⟨L, X, N, q⟩ := X
  obtain ⟨cl, A, r1, r2, r3, r4⟩ := F
  obtain ⟨T', h', X', e', W, st⟩ := Jvm.RoadKit.stI X hx hZ q A (inb r2 hj hi hlt) hg hs hd
  subst hi
  exact ⟨T', h', ⟨_, X', Fr.snoc X' N ga, e'⟩, W, Avf.set ⟨cl, A, r1, r2, r3, r4⟩ W rfl, st⟩
theorem Sd.stJ (X : Sd n0 p l e R s m args below meth c T h k n) (hx : p.tables.exec = Jvm.exec) (hZ : Z.Warmed39 s.vm) {a : Addr} {kc : ClassId} {sz : Nat} {f : Nat → Value} (F : Avf Z h a kc .long sz f) (ga : n0 ≤ a) {j : Int32} {x : Int64} (hj : ¬ j < 0) {i : Nat} (hi : j.toNatClampNeg = i) (hlt : i < sz)
    {g : JFrame} (hg : g.method = m) {rest : List Value} (hs : g.stack = .long x :: .int j :: .ref a :: rest) (hd : decode c.code g.pc = .ok (.lastore, 1)) :
    ∃ T' h', Sd n0 p l e R s m args below meth c T' h' k n ∧ Wr h h' a i (.long x) ∧ Avf Z h' a kc .long sz (fun t => if t = i then .long x else f t) ∧ ∀ target, Steps p.tables e below (T'.setTop { g with pc := g.pc + 1, stack := rest }) target → Steps p.tables e below (T.setTop g) target := by
  obtain ⟨L, X, N, q⟩ := X
  obtain ⟨cl, A, r1, r2, r3, r4⟩ := F
  obtain ⟨T', h', X', e', W, st⟩ := Jvm.RoadKit.stJ X hx hZ q A (inb r2 hj hi hlt) hg hs hd
  subst hi
  exact ⟨T', h', ⟨_, X', Fr.snoc X' N ga, e'⟩, W, Avf.set ⟨cl, A, r1, r2, r3, r4⟩ W rfl, st⟩
theorem Sd.stB (X : Sd n0 p l e R s m args below meth c T h k n) (hx : p.tables.exec = Jvm.exec) (hZ : Z.Warmed39 s.vm) {a : Addr} {kc : ClassId} {sz : Nat} {f : Nat → Value} (F : Avf Z h a kc .byte sz f) (ga : n0 ≤ a) {j x : Int32} (hj : ¬ j < 0) {i : Nat} (hi : j.toNatClampNeg = i) (hlt : i < sz)
    {g : JFrame} (hg : g.method = m) {rest : List Value} (hs : g.stack = .int x :: .int j :: .ref a :: rest) (hd : decode c.code g.pc = .ok (.bastore, 1)) :
    ∃ T' h', Sd n0 p l e R s m args below meth c T' h' k n ∧ Wr h h' a i (.int x.toInt8.toInt32) ∧ Avf Z h' a kc .byte sz (fun t => if t = i then .int x.toInt8.toInt32 else f t) ∧ ∀ target, Steps p.tables e below (T'.setTop { g with pc := g.pc + 1, stack := rest }) target → Steps p.tables e below (T.setTop g) target := by
  obtain ⟨L, X, N, q⟩ := X
  obtain ⟨cl, A, r1, r2, r3, r4⟩ := F
  obtain ⟨T', h', X', e', W, st⟩ := Jvm.RoadKit.stB X hx hZ q A (inb r2 hj hi hlt) hg hs hd
  subst hi
  exact ⟨T', h', ⟨_, X', Fr.snoc X' N ga, e'⟩, W, Avf.set ⟨cl, A, r1, r2, r3, r4⟩ W (fits_nar_byte _), st⟩
theorem Sd.stC (X : Sd n0 p l e R s m args below meth c T h k n) (hx : p.tables.exec = Jvm.exec) (hZ : Z.Warmed39 s.vm) {a : Addr} {kc : ClassId} {sz : Nat} {f : Nat → Value} (F : Avf Z h a kc .char sz f) (ga : n0 ≤ a) {j x : Int32} (hj : ¬ j < 0) {i : Nat} (hi : j.toNatClampNeg = i) (hlt : i < sz)
    {g : JFrame} (hg : g.method = m) {rest : List Value} (hs : g.stack = .int x :: .int j :: .ref a :: rest) (hd : decode c.code g.pc = .ok (.castore, 1)) :
    ∃ T' h', Sd n0 p l e R s m args below meth c T' h' k n ∧ Wr h h' a i (.int (nar .char x)) ∧ Avf Z h' a kc .char sz (fun t => if t = i then .int (nar .char x) else f t) ∧ ∀ target, Steps p.tables e below (T'.setTop { g with pc := g.pc + 1, stack := rest }) target → Steps p.tables e below (T.setTop g) target := by
  obtain ⟨L, X, N, q⟩ := X
  obtain ⟨cl, A, r1, r2, r3, r4⟩ := F
  obtain ⟨T', h', X', e', W, st⟩ := Jvm.RoadKit.stC X hx hZ q A (inb r2 hj hi hlt) hg hs hd
  subst hi
  exact ⟨T', h', ⟨_, X', Fr.snoc X' N ga, e'⟩, W, Avf.set ⟨cl, A, r1, r2, r3, r4⟩ W (fits_nar_char _), st⟩
theorem Sd.newRA (X : Sd n0 p l e R s m args below meth c T h k n) (hx : p.tables.exec = Jvm.exec) (hZ : Z.Warmed39 s.vm) {own C : String} {ty : FieldType} {index : Nat} (hown : s.vm.findClass own = some m.cls) (hC : (FieldType.array ty).toString = C) (w1 : (Cond.classLink own index C).before a0 Z = true) (w2 : (Cond.arrayOver (.array ty)).before a0 Z = true)
    {g : JFrame} (hg : g.method = m) (hd : decode c.code g.pc = .ok (.anewarray index, 3)) {z : Int32} {rest : List Value} (hs : g.stack = .int z :: rest)
    (hz : ¬ z < 0) {sz cap k' n' : Nat} (hsz : z.toNatClampNeg = sz) (hcap : sz ≤ cap) (hb : cap * 8 ≤ 536870912) (hk : k + 1 = k') (hn : n + cap = n') (hc : k' ≤ R.cells) (hl : n' ≤ R.slots) {ad : String} (had : "[" ++ C = ad) :
    ∃ T' h' kc a, Sd n0 p l e R s m args below meth c T' h' k' n' ∧ a = h.size ∧ Ext h h' ∧ Exa Z h' a ad ∧ Avf Z h' a kc (.array ty) sz (fun _ => .null) ∧ OvrA Z kc ty C ∧
      ∀ target, Steps p.tables e below (T'.setTop { g with pc := g.pc + 3, stack := .ref a :: rest }) target → Steps p.tables e below (T.setTop g) target := by
  subst hk hn hsz
  obtain ⟨L, X, N, q⟩ := X
  obtain ⟨T', h', kc, X', e', E, A, Ex, O, st⟩ := Jvm.RoadKit.newRA X hx hZ hown hC w1 w2 q hg hd hs hz hcap hb hc hl had
  exact ⟨T', h', kc, _, ⟨L, X', N, e'⟩, rfl, E, Ex, ⟨_, A, rfl, sz_new _ _ _, (back32 hz).2, fun i hi => ⟨by simp [newA, hi, defaultValue], rfl⟩⟩, O, st⟩
theorem Sd.stR (X : Sd n0 p l e R s m args below meth c T h k n) (hx : p.tables.exec = Jvm.exec) (hZ : Z.Warmed39 s.vm) {a : Addr} {kc : ClassId} {ty : FieldType} {sz : Nat} {f : Nat → Value} (F : Avf Z h a kc ty sz f) (ga : n0 ≤ a) (hty : ty.isReference = true) {j : Int32} {v : Value} (hv : v.isRef = true) (St : Sto Z h a v) (hj : ¬ j < 0) {i : Nat} (hi : j.toNatClampNeg = i) (hlt : i < sz)
    {g : JFrame} (hg : g.method = m) {rest : List Value} (hs : g.stack = v :: .int j :: .ref a :: rest) (hd : decode c.code g.pc = .ok (.aastore, 1)) :
    ∃ T' h', Sd n0 p l e R s m args below meth c T' h' k n ∧ Wr h h' a i v ∧ Avf Z h' a kc ty sz (fun t => if t = i then v else f t) ∧ ∀ target, Steps p.tables e below (T'.setTop { g with pc := g.pc + 1, stack := rest }) target → Steps p.tables e below (T.setTop g) target := by
  obtain ⟨L, X, N, q⟩ := X
  obtain ⟨cl, A, r1, r2, r3, r4⟩ := F
  obtain ⟨T', h', X', e', W, st⟩ := Jvm.RoadKit.stR X hx hZ q A (inb r2 hj hi hlt) hty St hg hs hd
  subst hi
  have hf : fits ty v = true := by cases ty <;> first | (cases hty; done) | (cases v <;> first | rfl | (cases hv; done))
  exact ⟨T', h', ⟨_, X', Fr.snoc X' N ga, e'⟩, W, Avf.set ⟨cl, A, r1, r2, r3, r4⟩ W hf, st⟩
/-! calls -/
theorem Sd.callS (X : Sd n0 p l e R s m args below meth c T h k n) (hx : p.tables.exec = Jvm.exec) (hZ : Z.Warmed39 s.vm) {own : String} {index : Nat} {y : MethodName} {bytes : ByteArray} {maxL : Nat} {ret : Option FieldType} {rm : Room} {as' : Array Value} {Q : Option Value → Heap → Prop}
    (hown : s.vm.findClass own = some m.cls) (w1 : (Cond.methodLink own index y).before a0 Z = true) (w2 : (Cond.static y).before a0 Z = true) (w3 : (Cond.initialized y.cls).before a0 Z = true) (w4 : (Cond.code y bytes maxL ret).before a0 Z = true) (hy : y.cls ≠ "java/lang/invoke/MethodHandle" ∧ y.cls ≠ "java/lang/invoke/VarHandle")
    (hM : Met l Z n0 y bytes maxL ret [] rm as' h Q) {g : JFrame} (hg : g.method = m) (hsize : g.locals.size = c.maxLocals) {argsL rest : List Value} (hlen : ∀ sig, parseMethodDescriptor y.desc = some sig → argsL.length = sig.parameters.length)
    (hstack : g.stack = argsL.reverse ++ rest) (hd : decode c.code g.pc = .ok (.invokestatic index, 3)) (has : argsL.toArray = as') (hf : rm.frames + 1 ≤ R.frames) (hl : 2 * g.monitorRoom + (rest.map fun v => v.category).sum + (maxL + 11) + rm.locals ≤ R.locals)
    {k' n' : Nat} (hk : k + rm.cells = k') (hn : n + rm.slots = n') (hc : k' ≤ R.cells) (hs : n' ≤ R.slots) :
    ∃ v T' h', Sd n0 p l e R s m args below meth c T' h' k' n' ∧ Q v h' ∧ ∀ target, Steps p.tables e below (T'.setTop { g with pc := g.pc + 3, stack := v.toList ++ rest }) target → Steps p.tables e below (T.setTop g) target := by
  subst hk hn
  obtain ⟨L, X, N, q⟩ := X
  obtain ⟨v, _, ⟨T', L', k1, n1⟩, -, X', ⟨Lc, hQ, q1, q2, q3⟩, st⟩ := Jvm.LawKit.callS X hx (y := y) hown (mvT hZ w1) (mvT hZ w2) (mvT hZ w3) (mvT hZ w4) hy (backOf (Q := fun v h L => Q v h ∧ Fr n0 L) hM hZ w4 w3 hf hl) hg hsize hlen hstack (Nat.le_refl _) hd (fun _ _ => ⟨has, q, hc, hs⟩)
  dsimp only [Pt.U, Pt.locs, Pt.cells, Pt.slots] at X' q1 q2 q3 st hQ
  subst q1 q2 q3
  exact ⟨v, T', _, ⟨_, X', Fr.app N hQ.2, rfl⟩, hQ.1, st⟩
theorem Sd.callI (X : Sd n0 p l e R s m args below meth c T h k n) (hx : p.tables.exec = Jvm.exec) (hZ : Z.Warmed39 s.vm) {own : String} {index : Nat} {y : MethodName} {bytes : ByteArray} {maxL : Nat} {rm : Room} {as' : Array Value} {Q : Option Value → Heap → Prop} (hy1 : y.name = "<init>")
    (hown : s.vm.findClass own = some m.cls) (w1 : (Cond.methodLink own index y).before a0 Z = true) (w2 : (Cond.instanceMethod y).before a0 Z = true) (w3 : (Cond.initialized y.cls).before a0 Z = true) (w4 : (Cond.code y bytes maxL none).before a0 Z = true) (hy : y.cls ≠ "java/lang/invoke/MethodHandle" ∧ y.cls ≠ "java/lang/invoke/VarHandle")
    (hM : Met l Z n0 y bytes maxL none [] rm as' h Q) {g : JFrame} (hg : g.method = m) (hsize : g.locals.size = c.maxLocals) {a : Addr} {argsL rest : List Value} (hlen : ∀ sig, parseMethodDescriptor y.desc = some sig → argsL.length = sig.parameters.length)
    (hstack : g.stack = argsL.reverse ++ .ref a :: rest) (hd : decode c.code g.pc = .ok (.invokespecial index, 3)) (has : (.ref a :: argsL).toArray = as') (hf : rm.frames + 1 ≤ R.frames) (hl : 2 * g.monitorRoom + (rest.map fun v => v.category).sum + (maxL + 11) + rm.locals ≤ R.locals)
    {k' n' : Nat} (hk : k + rm.cells = k') (hn : n + rm.slots = n') (hc : k' ≤ R.cells) (hs : n' ≤ R.slots) :
    ∃ v T' h', Sd n0 p l e R s m args below meth c T' h' k' n' ∧ Q v h' ∧ ∀ target, Steps p.tables e below (T'.setTop { g with pc := g.pc + 3, stack := v.toList ++ rest }) target → Steps p.tables e below (T.setTop g) target := by
  subst hk hn
  obtain ⟨L, X, N, q⟩ := X
  obtain ⟨v, _, ⟨T', L', k1, n1⟩, -, X', ⟨Lc, hQ, q1, q2, q3⟩, st⟩ := X.specialBack hx (y := y) hy1 hown (mvT hZ w1) (mvT hZ w2) (mvT hZ w4) hy (backOf (Q := fun v h L => Q v h ∧ Fr n0 L) hM hZ w4 w3 hf hl) hg hsize (Steps.refl _) hlen hstack (Nat.le_refl _) hd (fun _ _ => ⟨has, q, hc, hs⟩)
  dsimp only [Pt.U, Pt.locs, Pt.cells, Pt.slots] at X' q1 q2 q3 st hQ
  subst q1 q2 q3
  exact ⟨v, T', _, ⟨_, X', Fr.app N hQ.2, rfl⟩, hQ.1, fun _ kt => st.trans kt⟩
theorem Sd.callV (X : Sd n0 p l e R s m args below meth c T h k n) (hx : p.tables.exec = Jvm.exec) (hZ : Z.Warmed39 s.vm) {own C : String} {index : Nat} {y z : MethodName} {bytes : ByteArray} {maxL : Nat} {ret : Option FieldType} {rm : Room} {as' : Array Value} {Q : Option Value → Heap → Prop}
    (hown : s.vm.findClass own = some m.cls) (w1 : (Cond.methodLink own index y).before a0 Z = true) (w2 : (Cond.declares y).before a0 Z = true) (hnf : NotFace s y) (w5 : (Cond.selects C y z).before a0 Z = true) (w6 : (Cond.instanceMethod z).before a0 Z = true) (w3 : (Cond.initialized z.cls).before a0 Z = true) (w4 : (Cond.code z bytes maxL ret).before a0 Z = true) (hy : y.cls ≠ "java/lang/invoke/MethodHandle" ∧ y.cls ≠ "java/lang/invoke/VarHandle")
    (hM : Met l Z n0 z bytes maxL ret [] rm as' h Q) {a : Addr} (E : Exa Z h a C) {g : JFrame} (hg : g.method = m) (hsize : g.locals.size = c.maxLocals) {argsL rest : List Value} (hlen : ∀ sig, parseMethodDescriptor y.desc = some sig → argsL.length = sig.parameters.length)
    (hstack : g.stack = argsL.reverse ++ .ref a :: rest) (hd : decode c.code g.pc = .ok (.invokevirtual index, 3)) (has : (.ref a :: argsL).toArray = as') (hf : rm.frames + 1 ≤ R.frames) (hl : 2 * g.monitorRoom + (rest.map fun v => v.category).sum + (maxL + 11) + rm.locals ≤ R.locals)
    {k' n' : Nat} (hk : k + rm.cells = k') (hn : n + rm.slots = n') (hc : k' ≤ R.cells) (hs : n' ≤ R.slots) :
    ∃ v T' h', Sd n0 p l e R s m args below meth c T' h' k' n' ∧ Q v h' ∧ ∀ target, Steps p.tables e below (T'.setTop { g with pc := g.pc + 3, stack := v.toList ++ rest }) target → Steps p.tables e below (T.setTop g) target := by
  subst hk hn
  obtain ⟨L, X, N, q⟩ := X
  obtain ⟨cB, kB, b1, b2, b3⟩ := isOf (T := T) hZ q E
  obtain ⟨v, _, ⟨T', L', k1, n1⟩, -, X', ⟨Lc, hQ, q1, q2, q3⟩, st⟩ := X.virtualBack hx (y := y) (z := z) hown (mvT hZ w1) (mvT hZ w2) hnf (mvT hZ w5) (mvT hZ w6) hy (backOf (Q := fun v h L => Q v h ∧ Fr n0 L) hM hZ w4 w3 hf hl) b1 b3 hg hsize (Steps.refl _) hlen hstack (Nat.le_refl _) hd (fun _ _ => ⟨has, q, hc, hs⟩)
  dsimp only [Pt.U, Pt.locs, Pt.cells, Pt.slots] at X' q1 q2 q3 st hQ
  subst q1 q2 q3
  exact ⟨v, T', _, ⟨_, X', Fr.app N hQ.2, rfl⟩, hQ.1, fun _ kt => st.trans kt⟩
theorem Sd.callP (X : Sd n0 p l e R s m args below meth c T h k n) (hx : p.tables.exec = Jvm.exec) (hZ : Z.Warmed39 s.vm) {own C : String} {index : Nat} {y : MethodName} {bytes : ByteArray} {maxL : Nat} {ret : Option FieldType} {rm : Room} {as' : Array Value} {Q : Option Value → Heap → Prop}
    (hown : s.vm.findClass own = some m.cls) (w1 : (Cond.methodLink own index y).before a0 Z = true) (w6 : (Cond.instanceMethod y).before a0 Z = true) (w5 : (Cond.selects y.cls y y).before a0 Z = true) (w7 : (Cond.privateMethod y).before a0 Z = true) (w3 : (Cond.initialized y.cls).before a0 Z = true) (w4 : (Cond.code y bytes maxL ret).before a0 Z = true) (hy : y.cls ≠ "java/lang/invoke/MethodHandle" ∧ y.cls ≠ "java/lang/invoke/VarHandle")
    (hM : Met l Z n0 y bytes maxL ret [] rm as' h Q) {a : Addr} (E : Exa Z h a C) {g : JFrame} (hg : g.method = m) (hsize : g.locals.size = c.maxLocals) {argsL rest : List Value} (hlen : ∀ sig, parseMethodDescriptor y.desc = some sig → argsL.length = sig.parameters.length)
    (hstack : g.stack = argsL.reverse ++ .ref a :: rest) (hd : decode c.code g.pc = .ok (.invokevirtual index, 3)) (has : (.ref a :: argsL).toArray = as') (hf : rm.frames + 1 ≤ R.frames) (hl : 2 * g.monitorRoom + (rest.map fun v => v.category).sum + (maxL + 11) + rm.locals ≤ R.locals)
    {k' n' : Nat} (hk : k + rm.cells = k') (hn : n + rm.slots = n') (hc : k' ≤ R.cells) (hs : n' ≤ R.slots) :
    ∃ v T' h', Sd n0 p l e R s m args below meth c T' h' k' n' ∧ Q v h' ∧ ∀ target, Steps p.tables e below (T'.setTop { g with pc := g.pc + 3, stack := v.toList ++ rest }) target → Steps p.tables e below (T.setTop g) target := by
  subst hk hn
  obtain ⟨L, X, N, q⟩ := X
  obtain ⟨cl, b1, b2⟩ := E.cell
  obtain ⟨v, _, ⟨T', L', k1, n1⟩, -, X', ⟨Lc, hQ, q1, q2, q3⟩, st⟩ := X.privateBack hx (y := y) hown (mvT hZ w1) (mvT hZ w6) (mvT hZ w5) (Cond.privateMethod_at (mvP hZ w7 (args := #[]))) (mvT hZ w4) hy (backOf (Q := fun v h L => Q v h ∧ Fr n0 L) hM hZ w4 w3 hf hl) hg hsize (Steps.refl _) (a := a) (by rw [q]; exact b1) b2 hlen hstack (Nat.le_refl _) hd (fun _ _ => ⟨has, q, hc, hs⟩)
  dsimp only [Pt.U, Pt.locs, Pt.cells, Pt.slots] at X' q1 q2 q3 st hQ
  subst q1 q2 q3
  exact ⟨v, T', _, ⟨_, X', Fr.app N hQ.2, rfl⟩, hQ.1, fun _ kt => st.trans kt⟩
theorem Sd.callU (X : Sd n0 p l e R s m args below meth c T h k n) (hx : p.tables.exec = Jvm.exec) (hZ : Z.Warmed39 s.vm) {own C owner : String} {index : Nat} {y z : MethodName} {bytes : ByteArray} {maxL : Nat} {ret : Option FieldType} {rm : Room} {as' : Array Value} {Q : Option Value → Heap → Prop}
    (hown : s.vm.findClass own = some m.cls) (w1 : (Cond.methodLink own index y).before a0 Z = true) (w2 : (Cond.sameMethod y.cls owner y.name y.desc).before a0 Z = true) (w7 : (Cond.declares ⟨owner, y.name, y.desc⟩).before a0 Z = true) (ho : owner ≠ "java/lang/invoke/MethodHandle" ∧ owner ≠ "java/lang/invoke/VarHandle") (w5 : (Cond.selects C y z).before a0 Z = true) (w6 : (Cond.instanceMethod z).before a0 Z = true) (w3 : (Cond.initialized z.cls).before a0 Z = true) (w4 : (Cond.code z bytes maxL ret).before a0 Z = true)
    (hM : Met l Z n0 z bytes maxL ret [] rm as' h Q) {a : Addr} (E : Exa Z h a C) {g : JFrame} (hg : g.method = m) (hsize : g.locals.size = c.maxLocals) {argsL rest : List Value} (hlen : ∀ sig, parseMethodDescriptor y.desc = some sig → argsL.length = sig.parameters.length)
    (hstack : g.stack = argsL.reverse ++ .ref a :: rest) (hd : decode c.code g.pc = .ok (.invokevirtual index, 3)) (has : (.ref a :: argsL).toArray = as') (hf : rm.frames + 1 ≤ R.frames) (hl : 2 * g.monitorRoom + (rest.map fun v => v.category).sum + (maxL + 11) + rm.locals ≤ R.locals)
    {k' n' : Nat} (hk : k + rm.cells = k') (hn : n + rm.slots = n') (hc : k' ≤ R.cells) (hs : n' ≤ R.slots) :
    ∃ v T' h', Sd n0 p l e R s m args below meth c T' h' k' n' ∧ Q v h' ∧ ∀ target, Steps p.tables e below (T'.setTop { g with pc := g.pc + 3, stack := v.toList ++ rest }) target → Steps p.tables e below (T.setTop g) target := by
  subst hk hn
  obtain ⟨L, X, N, q⟩ := X
  obtain ⟨cB, kB, b1, b2, b3⟩ := isOf (T := T) hZ q E
  obtain ⟨v, _, ⟨T', L', k1, n1⟩, -, X', ⟨Lc, hQ, q1, q2, q3⟩, st⟩ := X.virtualBackUp hx (x := y) (y := z) hown (mvT hZ w1) (mvT hZ w2) (mvT hZ w7) ho (mvT hZ w5) (mvT hZ w6) (backOf (Q := fun v h L => Q v h ∧ Fr n0 L) hM hZ w4 w3 hf hl) b1 b3 hg hsize (Steps.refl _) hlen hstack (Nat.le_refl _) hd (fun _ _ => ⟨has, q, hc, hs⟩)
  dsimp only [Pt.U, Pt.locs, Pt.cells, Pt.slots] at X' q1 q2 q3 st hQ
  subst q1 q2 q3
  exact ⟨v, T', _, ⟨_, X', Fr.app N hQ.2, rfl⟩, hQ.1, fun _ kt => st.trans kt⟩
theorem Sd.instNo (X : Sd n0 p l e R s m args below meth c T h k n) (hx : p.tables.exec = Jvm.exec) (hZ : Z.Warmed39 s.vm) {own K C : String} {index : Nat} (hown : s.vm.findClass own = some m.cls) (w : (Cond.classLink own index K).before a0 Z = true) {a : Addr} (E : Exa Z h a C) (F : ∃ c t, Z.vm.findClass C = some c ∧ Z.vm.findClass K = some t ∧ Z.vm.assignable c t = false)
    {g : JFrame} (hg : g.method = m) {rest : List Value} (hs : g.stack = .ref a :: rest) (hd : decode c.code g.pc = .ok (.instanceof index, 3)) :
    ∃ T', Sd n0 p l e R s m args below meth c T' h k n ∧ ∀ target, Steps p.tables e below (T'.setTop { g with pc := g.pc + 3, stack := .int 0 :: rest }) target → Steps p.tables e below (T.setTop g) target := by
  obtain ⟨L, X, N, q⟩ := X
  obtain ⟨T', X', e', st⟩ := Jvm.RoadKit.instNo X hx hZ hown w q E F hg hs hd
  exact ⟨T', ⟨L, X', N, e'⟩, st⟩
theorem ns_root {O K : String} {kk : Nat} (w : (Cond.noSuperclass O).before a0 Z = true) (wk : (Cond.instantiable K kk).before a0 Z = true) (hn : O ≠ K) : NS Z O K := by
  obtain ⟨c, k, h1, h2, h3, -, -⟩ := Cond.noSuperclass_spec w
  obtain ⟨t, k2, g1, -⟩ := Cond.instantiable_spec wk
  have ne := ids_ne h1 g1 hn
  refine ⟨c, t, h1, g1, fun fuel => ?_⟩
  cases fuel with
  | zero => rfl
  | succ f => simp [Vm.isSubclassAux, ne, h2, h3]
theorem ns_no {C K : String} {k1 k2 : Nat} (w : (Cond.instantiable C k1).before a0 Z = true) (wk : (Cond.instantiable K k2).before a0 Z = true) (n : NS Z C K) (hn : C ≠ K) : ∃ c t, Z.vm.findClass C = some c ∧ Z.vm.findClass K = some t ∧ Z.vm.assignable c t = false := by
  obtain ⟨c, t, h0, g0, n3⟩ := n
  obtain ⟨c', kc, h1, h2, h3, h4, -⟩ := Cond.instantiable_spec w
  obtain ⟨t', kt, g1, g2, g3, g4, -⟩ := Cond.instantiable_spec wk
  cases h0.symm.trans h1
  cases g0.symm.trans g1
  have ne := ids_ne h0 g0 hn
  refine ⟨c, t, h0, g0, ?_⟩
  have g5 : kt.isInterface = false := by simp at g4; exact g4.1
  show Z.vm.assignableAux (255 + 1) c t = false
  simp [Vm.assignableAux, ne, h2, g2, h3, g3, g5, Vm.isSubclass, n3]
theorem keep_ext {h h' : Heap} (K : Keep h h' []) : Ext h h' := ⟨K.1, fun x c q => K.2.1 x c q nin0⟩
theorem Exa.plain {h : Heap} {a : Addr} {C : String} (F : Exa Z h a C) : ∀ cell : Cell, h[a]? = some cell → cell.vm.isStatics = false := fun cell hc => by
  obtain ⟨c, k, h1, -, -, h4, -⟩ := F
  cases h1.symm.trans hc; exact h4
theorem Avf.plain {h : Heap} {a : Addr} {kc : ClassId} {ty : FieldType} {sz : Nat} {f : Nat → Value} (F : Avf Z h a kc ty sz f) : ∀ cell : Cell, h[a]? = some cell → cell.vm.isStatics = false := fun cell hc => by
  obtain ⟨cl, A, -⟩ := F
  cases A.1.symm.trans hc; exact Arr.plain A
theorem Sta.keepN {h h' : Heap} {C f d : String} {v : Value} {ws : List Addr} (F : Sta Z h C f d v) (K : Keep h h' ws) (q : ∀ x ∈ ws, ∀ cell : Cell, h[x]? = some cell → cell.vm.isStatics = false) : Sta Z h' C f d v := by
  obtain ⟨cf, i, k, fl, st, cell, h1, h2, h3, h4, h5, h6, h7⟩ := F
  exact ⟨cf, i, k, fl, st, cell, h1, h2, h3, h4, K.2.1 st cell h5 (fun z => by rw [q st z cell h5] at h6; cases h6), h6, h7⟩
/-! at the start -/
theorem sta_exa {args : Array Value} {C f d K : String} (hx : (Cond.exactly (.static C f d) K).value args Z none Z [] = some true) (wi : (Cond.initialized C).before args Z = true) (wl : (Cond.laysStatic C f d).before args Z = true) : ∃ a, (Term.static C f d).eval args Z none [] Z = some (.ref a) ∧ Sta Z Z.heap C f d (.ref a) ∧ Exa Z Z.heap a K := by
  obtain ⟨a, ev⟩ := exa_v hx
  exact ⟨a, ev, Sta.start ev (Or.inr ⟨wi, wl⟩), Exa.start ev hx⟩
theorem sta_arr {args : Array Value} {C f d : String} {ty : FieldType} (hx : (Cond.arrayOf (.static C f d) ty).value args Z none Z [] = some true) (wi : (Cond.initialized C).before args Z = true) (wl : (Cond.laysStatic C f d).before args Z = true) : ∃ a cl, (Term.static C f d).eval args Z none [] Z = some (.ref a) ∧ Sta Z Z.heap C f d (.ref a) ∧ Arr Z Z.heap a cl ty := by
  obtain ⟨a, ev⟩ := arr_v hx
  obtain ⟨cl, A⟩ := Arr.start ev hx
  exact ⟨a, cl, ev, Sta.start ev (Or.inr ⟨wi, wl⟩), A⟩
theorem int_of_eq {args : Array Value} {t : Term} {kk : Int32} (h : (Cond.eq t (.int kk)).value args Z none Z [] = some true) : t.eval args Z none [] Z = some (.int kk) := by
  obtain ⟨x, y, h1, h2, k1, k2⟩ := cmp_v (Or.inl h)
  cases (Option.some.inj h2 : Value.int kk = y)
  obtain ⟨z, rfl⟩ : ∃ z, x = .int z := k2
  have q : z = kk := by simpa [Cond.value, h1, Term.eval] using h
  rw [h1, q]
theorem fld_eq {args : Array Value} {t : Term} {C f d : String} {a : Addr} {kk : Int32} (ht : t.eval args Z none [] Z = some (.ref a)) (h : (Cond.eq (.field t C f d) (.int kk)).value args Z none Z [] = some true) : Fld Z Z.heap a C f d (.int kk) :=
  Fld.start ((fld_at ht).symm.trans (int_of_eq h))
theorem ref_of_eq {args : Array Value} {t u : Term} {a : Addr} (hu : u.eval args Z none [] Z = some (.ref a)) (h : (Cond.eq t u).value args Z none Z [] = some true) : t.eval args Z none [] Z = some (.ref a) := by
  obtain ⟨x, y, h1, h2, k1, k2⟩ := cmp_v (Or.inl h)
  cases (Option.some.inj (hu.symm.trans h2) : Value.ref a = y)
  have kx : x.isRef = true := k2.2
  rw [h1, gotT (eq_R h1 hu kx rfl) h]
theorem avf_len {args : Array Value} {t : Term} {a : Addr} {cl : Cell} {ty : FieldType} {z : Int32} {sz : Nat} (A : Arr Z Z.heap a cl ty) (ev : t.eval args Z none [] Z = some (.ref a)) (h : (Term.length t).eval args Z none [] Z = some (.int z)) (hz : z.toNatClampNeg = sz) : cl.slots.size = sz := by
  have ha : Z.arrayAt? a = some cl := A.fin (Vm.Alike.refl _)
  simp only [Term.eval, ev, ha, Option.bind_eq_bind, Option.bind_some] at h
  split at h
  · rename_i hl
    have e : cl.slots.size.toInt32 = z := by simpa using h
    rw [← hz, ← e]
    have q := len_toInt hl
    simp only [Int32.toNatClampNeg, q]; omega
  · cases h
theorem iremS {g : JFrame} {target : State} (X : Sd n0 p l e R s m args below meth c T h k n) (hx : p.tables.exec = Jvm.exec) (hg : g.method = m) {x y : Int32} {rest : List Value} (hd : decode c.code g.pc = .ok (.irem, 1)) (hs : g.stack = .int y :: .int x :: rest) (hy : y ≠ 0)
    (hr : Steps p.tables e below (T.setTop { g with pc := g.pc + 1, stack := .int (x % y) :: rest }) target) : Steps p.tables e below (T.setTop g) target := by
  obtain ⟨L, X, -⟩ := X; exact iremM X hx hg hd hs hy hr
end Sds
end Jvm.RoadKit
namespace Jvm.Pilot.@@N@@
open Jvm Jvm.ClassFile Sem Op Lib Jvm.Free Jvm.Stand Jvm.LawKit Jvm.RoadKit Bundle Jvm.Pilot.@@N@@.Jvm.D
theorem tw {a0 : Array Value} {Z : State} (hw : ∀ d ∈ tables_1, d.before a0 Z = true) (i : Nat) {d : Jvm.Cond} (h : tables_1[i]? = some d) : d.before a0 Z = true := hw _ (List.mem_of_getElem? h)
theorem d1_0 : decode method_2_code 0 = .ok (.iload_n 0, 1) := by decide +kernel
theorem d1_1 : decode method_2_code 1 = .ok (.ifCond .ne 7, 3) := by decide +kernel
theorem d1_4 : decode method_2_code 4 = .ok (.getstatic 7, 3) := by decide +kernel
theorem d1_7 : decode method_2_code 7 = .ok (.areturn, 1) := by decide +kernel
theorem d1_8 : decode method_2_code 8 = .ok (.iload_n 0, 1) := by decide +kernel
theorem d1_9 : decode method_2_code 9 = .ok (.iconst 1, 1) := by decide +kernel
theorem d1_10 : decode method_2_code 10 = .ok (.if_icmp .ne 7, 3) := by decide +kernel
theorem d1_13 : decode method_2_code 13 = .ok (.getstatic 13, 3) := by decide +kernel
theorem d1_16 : decode method_2_code 16 = .ok (.areturn, 1) := by decide +kernel
theorem d1_17 : decode method_2_code 17 = .ok (.iload_n 0, 1) := by decide +kernel
theorem d1_18 : decode method_2_code 18 = .ok (.iconst 2, 1) := by decide +kernel
theorem d1_19 : decode method_2_code 19 = .ok (.if_icmp .ne 7, 3) := by decide +kernel
theorem d1_22 : decode method_2_code 22 = .ok (.getstatic 16, 3) := by decide +kernel
theorem d1_25 : decode method_2_code 25 = .ok (.areturn, 1) := by decide +kernel
theorem d1_26 : decode method_2_code 26 = .ok (.getstatic 19, 3) := by decide +kernel
theorem d1_29 : decode method_2_code 29 = .ok (.areturn, 1) := by decide +kernel
abbrev Rm1 : Room := { frames := 0, cells := 0, slots := 0, locals := 0 }
theorem pn0 : plainName "com/example/preference_store/preferencestore/bench/OutcomeAnsweredPinLaw" = true := by first | (simp [plainName, overriddenIn]; done) | decide +kernel
set_option maxRecDepth 65536 in
set_option maxHeartbeats 40000000 in
theorem rm1 (l : Launch) (Z : State) (a0 : Array Value) (hw : ∀ d ∈ tables_1, d.before a0 Z = true) (ws : List Jvm.Cond) (p1 : Int32) (a_OK : Addr) (a_ERROR_STATUS : Addr) (a_BROKEN : Addr) (a_REFUSED : Addr) (h0 : Heap) (n0 : Nat) (Z0 : n0 ≤ h0.size) (S_OK : Sta Z h0 "com/example/preference_store/preferencestore/bench/Outcome" "OK" "Lcom/example/preference_store/preferencestore/bench/Outcome;" (.ref a_OK)) (E_OK : Exa Z h0 a_OK "com/example/preference_store/preferencestore/bench/Outcome") (S_ERROR_STATUS : Sta Z h0 "com/example/preference_store/preferencestore/bench/Outcome" "ERROR_STATUS" "Lcom/example/preference_store/preferencestore/bench/Outcome;" (.ref a_ERROR_STATUS)) (E_ERROR_STATUS : Exa Z h0 a_ERROR_STATUS "com/example/preference_store/preferencestore/bench/Outcome") (S_BROKEN : Sta Z h0 "com/example/preference_store/preferencestore/bench/Outcome" "BROKEN" "Lcom/example/preference_store/preferencestore/bench/Outcome;" (.ref a_BROKEN)) (E_BROKEN : Exa Z h0 a_BROKEN "com/example/preference_store/preferencestore/bench/Outcome") (S_REFUSED : Sta Z h0 "com/example/preference_store/preferencestore/bench/Outcome" "REFUSED" "Lcom/example/preference_store/preferencestore/bench/Outcome;" (.ref a_REFUSED)) (E_REFUSED : Exa Z h0 a_REFUSED "com/example/preference_store/preferencestore/bench/Outcome") (F_ERROR_STATUS_ordinal : Fld Z h0 a_ERROR_STATUS "java/lang/Enum" "ordinal" "I" (.int (1 : Int32))) (F_OK_ordinal : Fld Z h0 a_OK "java/lang/Enum" "ordinal" "I" (.int (0 : Int32))) (F_BROKEN_ordinal : Fld Z h0 a_BROKEN "java/lang/Enum" "ordinal" "I" (.int (2 : Int32))) (F_REFUSED_ordinal : Fld Z h0 a_REFUSED "java/lang/Enum" "ordinal" "I" (.int (3 : Int32))) :
    Met l Z n0 (⟨"com/example/preference_store/preferencestore/bench/OutcomeAnsweredPinLaw", "pick", "(I)Lcom/example/preference_store/preferencestore/bench/Outcome;"⟩ : MethodName) method_2_code 1 (some (.object "com/example/preference_store/preferencestore/bench/Outcome")) ws Rm1 #[(.int p1)] h0 (fun v h => ((p1 = 0 ∧ v = some (.ref a_OK)) ∨ (¬ p1 = 0 ∧ p1 = 1 ∧ v = some (.ref a_ERROR_STATUS)) ∨ (¬ p1 = 0 ∧ ¬ p1 = 1 ∧ p1 = 2 ∧ v = some (.ref a_BROKEN)) ∨ (¬ p1 = 0 ∧ ¬ p1 = 1 ∧ ¬ p1 = 2 ∧ v = some (.ref a_REFUSED))) ∧ h0 = h) := by
  refine enter (Ls := #[.val (.int p1)]) (plainFor_of_name pn0) (fun m => by first | rfl | (simp [entryFrame, mkF, argsToLocals, Value.category]; done)) ?_
  intro p e s m below meth c T0 hx hby hml hown hnm hret hlk hZ X0
  show Go p.tables e below _ (T0.setTop (mkF m 0 #[.val (.int p1)] []))
  refine Go.by (fun _ => XS.iloadN X0.here hx rfl (hb hby d1_0) rfl) ?_
  show Go p.tables e below _ (T0.setTop (mkF m 1 #[.val (.int p1)] [(.int p1)]))
  by_cases hc1_1 : p1 = (0 : Int32)
  · skip
    refine Go.by (fun _ => XS.ifNo X0.here hx rfl (hb hby d1_1) rfl ((if0 _ _).trans (teq hc1_1).2)) ?_
    show Go p.tables e below _ (T0.setTop (mkF m 4 #[.val (.int p1)] []))
    obtain ⟨T2, X2, st2⟩ := X0.getS hx hZ hown (host := "") (Or.inl (tw hw 4 rfl)) Via.refl S_OK (g := (mkF m 4 #[.val (.int p1)] [])) rfl (hb hby d1_4)
    refine Go.by st2 ?_
    show Go p.tables e below _ (T2.setTop (mkF m 7 #[.val (.int p1)] [(.ref a_OK)]))
    exact Go.retA X2 hx hlk hret rfl rfl (hb hby d1_7) (by decide) (by decide) ⟨Or.inl ⟨hc1_1, rfl⟩, rfl⟩
  · skip
    refine Go.by (fun _ => XS.ifYes X0.here hx rfl (pc0 := 1) (pc' := 8) rfl (hb hby d1_1) rfl ((if0 _ _).trans (feq hc1_1).2) (by decide) (by decide)) ?_
    show Go p.tables e below _ (T0.setTop (mkF m 8 #[.val (.int p1)] []))
    refine Go.by (fun _ => XS.iloadN X0.here hx rfl (hb hby d1_8) rfl) ?_
    show Go p.tables e below _ (T0.setTop (mkF m 9 #[.val (.int p1)] [(.int p1)]))
    refine Go.by (fun _ => XS.iconst X0.here hx rfl (hb hby d1_9)) ?_
    show Go p.tables e below _ (T0.setTop (mkF m 10 #[.val (.int p1)] [(.int (1 : Int32)), (.int p1)]))
    by_cases hc10_3 : p1 = (1 : Int32)
    · skip
      refine Go.by (fun _ => XS.icmpNo X0.here hx rfl (hb hby d1_10) rfl (teq hc10_3).2) ?_
      show Go p.tables e below _ (T0.setTop (mkF m 13 #[.val (.int p1)] []))
      obtain ⟨T4, X4, st4⟩ := X0.getS hx hZ hown (host := "") (Or.inl (tw hw 20 rfl)) Via.refl S_ERROR_STATUS (g := (mkF m 13 #[.val (.int p1)] [])) rfl (hb hby d1_13)
      refine Go.by st4 ?_
      show Go p.tables e below _ (T4.setTop (mkF m 16 #[.val (.int p1)] [(.ref a_ERROR_STATUS)]))
      exact Go.retA X4 hx hlk hret rfl rfl (hb hby d1_16) (by decide) (by decide) ⟨Or.inr (Or.inl ⟨hc1_1, hc10_3, rfl⟩), rfl⟩
    · skip
      refine Go.by (fun _ => XS.icmpYes X0.here hx rfl (pc0 := 10) (pc' := 17) rfl (hb hby d1_10) rfl (feq hc10_3).2 (by decide) (by decide)) ?_
      show Go p.tables e below _ (T0.setTop (mkF m 17 #[.val (.int p1)] []))
      refine Go.by (fun _ => XS.iloadN X0.here hx rfl (hb hby d1_17) rfl) ?_
      show Go p.tables e below _ (T0.setTop (mkF m 18 #[.val (.int p1)] [(.int p1)]))
      refine Go.by (fun _ => XS.iconst X0.here hx rfl (hb hby d1_18)) ?_
      show Go p.tables e below _ (T0.setTop (mkF m 19 #[.val (.int p1)] [(.int (2 : Int32)), (.int p1)]))
      by_cases hc19_5 : p1 = (2 : Int32)
      · skip
        refine Go.by (fun _ => XS.icmpNo X0.here hx rfl (hb hby d1_19) rfl (teq hc19_5).2) ?_
        show Go p.tables e below _ (T0.setTop (mkF m 22 #[.val (.int p1)] []))
        obtain ⟨T6, X6, st6⟩ := X0.getS hx hZ hown (host := "") (Or.inl (tw hw 18 rfl)) Via.refl S_BROKEN (g := (mkF m 22 #[.val (.int p1)] [])) rfl (hb hby d1_22)
        refine Go.by st6 ?_
        show Go p.tables e below _ (T6.setTop (mkF m 25 #[.val (.int p1)] [(.ref a_BROKEN)]))
        exact Go.retA X6 hx hlk hret rfl rfl (hb hby d1_25) (by decide) (by decide) ⟨Or.inr (Or.inr (Or.inl ⟨hc1_1, hc10_3, hc19_5, rfl⟩)), rfl⟩
      · skip
        refine Go.by (fun _ => XS.icmpYes X0.here hx rfl (pc0 := 19) (pc' := 26) rfl (hb hby d1_19) rfl (feq hc19_5).2 (by decide) (by decide)) ?_
        show Go p.tables e below _ (T0.setTop (mkF m 26 #[.val (.int p1)] []))
        obtain ⟨T7, X7, st7⟩ := X0.getS hx hZ hown (host := "") (Or.inl (tw hw 21 rfl)) Via.refl S_REFUSED (g := (mkF m 26 #[.val (.int p1)] [])) rfl (hb hby d1_26)
        refine Go.by st7 ?_
        show Go p.tables e below _ (T7.setTop (mkF m 29 #[.val (.int p1)] [(.ref a_REFUSED)]))
        exact Go.retA X7 hx hlk hret rfl rfl (hb hby d1_29) (by decide) (by decide) ⟨Or.inr (Or.inr (Or.inr ⟨hc1_1, hc10_3, hc19_5, rfl⟩)), rfl⟩
theorem d2_0 : decode prog_2_method_5_code 0 = .ok (.aload_n 0, 1) := by decide +kernel
theorem d2_1 : decode prog_2_method_5_code 1 = .ok (.getstatic 3, 3) := by decide +kernel
theorem d2_4 : decode prog_2_method_5_code 4 = .ok (.if_acmp .eq 10, 3) := by decide +kernel
theorem d2_14 : decode prog_2_method_5_code 14 = .ok (.iconst 1, 1) := by decide +kernel
theorem d2_15 : decode prog_2_method_5_code 15 = .ok (.goto 4, 3) := by decide +kernel
theorem d2_19 : decode prog_2_method_5_code 19 = .ok (.ireturn, 1) := by decide +kernel
theorem d2_7 : decode prog_2_method_5_code 7 = .ok (.aload_n 0, 1) := by decide +kernel
theorem d2_8 : decode prog_2_method_5_code 8 = .ok (.getstatic 7, 3) := by decide +kernel
theorem d2_11 : decode prog_2_method_5_code 11 = .ok (.if_acmp .ne 7, 3) := by decide +kernel
theorem d2_18 : decode prog_2_method_5_code 18 = .ok (.iconst 0, 1) := by decide +kernel
abbrev Rm2 : Room := { frames := 0, cells := 0, slots := 0, locals := 0 }
theorem pn1 : plainName "com/example/preference_store/preferencestore/bench/Outcome" = true := by first | (simp [plainName, overriddenIn]; done) | decide +kernel
set_option maxRecDepth 65536 in
set_option maxHeartbeats 40000000 in
theorem rm2 (l : Launch) (Z : State) (a0 : Array Value) (hw : ∀ d ∈ tables_1, d.before a0 Z = true) (ws : List Jvm.Cond) (a1 : Addr) (a_OK : Addr) (a_ERROR_STATUS : Addr) (a_BROKEN : Addr) (a_REFUSED : Addr) (h0 : Heap) (n0 : Nat) (Z0 : n0 ≤ h0.size) (S_OK : Sta Z h0 "com/example/preference_store/preferencestore/bench/Outcome" "OK" "Lcom/example/preference_store/preferencestore/bench/Outcome;" (.ref a_OK)) (E_OK : Exa Z h0 a_OK "com/example/preference_store/preferencestore/bench/Outcome") (S_ERROR_STATUS : Sta Z h0 "com/example/preference_store/preferencestore/bench/Outcome" "ERROR_STATUS" "Lcom/example/preference_store/preferencestore/bench/Outcome;" (.ref a_ERROR_STATUS)) (E_ERROR_STATUS : Exa Z h0 a_ERROR_STATUS "com/example/preference_store/preferencestore/bench/Outcome") (S_BROKEN : Sta Z h0 "com/example/preference_store/preferencestore/bench/Outcome" "BROKEN" "Lcom/example/preference_store/preferencestore/bench/Outcome;" (.ref a_BROKEN)) (E_BROKEN : Exa Z h0 a_BROKEN "com/example/preference_store/preferencestore/bench/Outcome") (S_REFUSED : Sta Z h0 "com/example/preference_store/preferencestore/bench/Outcome" "REFUSED" "Lcom/example/preference_store/preferencestore/bench/Outcome;" (.ref a_REFUSED)) (E_REFUSED : Exa Z h0 a_REFUSED "com/example/preference_store/preferencestore/bench/Outcome") (F_ERROR_STATUS_ordinal : Fld Z h0 a_ERROR_STATUS "java/lang/Enum" "ordinal" "I" (.int (1 : Int32))) (F_OK_ordinal : Fld Z h0 a_OK "java/lang/Enum" "ordinal" "I" (.int (0 : Int32))) (F_BROKEN_ordinal : Fld Z h0 a_BROKEN "java/lang/Enum" "ordinal" "I" (.int (2 : Int32))) (F_REFUSED_ordinal : Fld Z h0 a_REFUSED "java/lang/Enum" "ordinal" "I" (.int (3 : Int32))) :
    Met l Z n0 (⟨"com/example/preference_store/preferencestore/bench/Outcome", "answered", "()Z"⟩ : MethodName) prog_2_method_5_code 1 (some .boolean) ws Rm2 #[(.ref a1)] h0 (fun v h => (((a1 = a_OK ∨ a1 = a_ERROR_STATUS) ∧ v = some (.int 1)) ∨ (¬ (a1 = a_OK ∨ a1 = a_ERROR_STATUS) ∧ v = some (.int 0))) ∧ h0 = h) := by
  refine enter (Ls := #[.val (.ref a1)]) (plainFor_of_name pn1) (fun m => by first | rfl | (simp [entryFrame, mkF, argsToLocals, Value.category]; done)) ?_
  intro p e s m below meth c T0 hx hby hml hown hnm hret hlk hZ X0
  show Go p.tables e below _ (T0.setTop (mkF m 0 #[.val (.ref a1)] []))
  refine Go.by (fun _ => XS.aloadN X0.here hx rfl (hb hby d2_0) rfl rfl) ?_
  show Go p.tables e below _ (T0.setTop (mkF m 1 #[.val (.ref a1)] [(.ref a1)]))
  obtain ⟨T1, X1, st1⟩ := X0.getS hx hZ hown (host := "") (Or.inl (tw hw 12 rfl)) Via.refl S_OK (g := (mkF m 1 #[.val (.ref a1)] [(.ref a1)])) rfl (hb hby d2_1)
  refine Go.by st1 ?_
  show Go p.tables e below _ (T1.setTop (mkF m 4 #[.val (.ref a1)] [(.ref a_OK), (.ref a1)]))
  by_cases ha4_2 : a1 = a_OK
  · skip
    refine Go.by (X1.acmp (g := (mkF m 4 #[.val (.ref a1)] [(.ref a_OK), (.ref a1)])) hx rfl rfl rfl (pc0 := 4) (pc' := 14) (same := true) rfl (hb hby d2_4) rfl (decide_eq_true (congrArg Value.ref ha4_2)) (by decide) (by decide)) ?_
    show Go p.tables e below _ (T1.setTop (mkF m 14 #[.val (.ref a1)] []))
    refine Go.by (fun _ => XS.iconst X1.here hx rfl (hb hby d2_14)) ?_
    show Go p.tables e below _ (T1.setTop (mkF m 15 #[.val (.ref a1)] [(.int (1 : Int32))]))
    refine Go.by (fun _ => XS.goto X1.here hx rfl (pc0 := 15) (pc' := 19) rfl (hb hby d2_15) (by decide) (by decide)) ?_
    show Go p.tables e below _ (T1.setTop (mkF m 19 #[.val (.ref a1)] [(.int (1 : Int32))]))
    exact Go.retN X1 hx hlk (z' := (1 : Int32)) hret (by simp) (hb hby d2_19) rfl (by decide) (by decide) ⟨Or.inl ⟨by simp [*], rfl⟩, rfl⟩
  · skip
    refine Go.by (X1.acmp (g := (mkF m 4 #[.val (.ref a1)] [(.ref a_OK), (.ref a1)])) hx rfl rfl rfl (pc0 := 4) (pc' := 7) (same := false) rfl (hb hby d2_4) rfl (decide_eq_false fun q => ha4_2 (Value.ref.inj q)) (by decide) (by decide)) ?_
    show Go p.tables e below _ (T1.setTop (mkF m 7 #[.val (.ref a1)] []))
    refine Go.by (fun _ => XS.aloadN X1.here hx rfl (hb hby d2_7) rfl rfl) ?_
    show Go p.tables e below _ (T1.setTop (mkF m 8 #[.val (.ref a1)] [(.ref a1)]))
    obtain ⟨T3, X3, st3⟩ := X1.getS hx hZ hown (host := "") (Or.inl (tw hw 16 rfl)) Via.refl S_ERROR_STATUS (g := (mkF m 8 #[.val (.ref a1)] [(.ref a1)])) rfl (hb hby d2_8)
    refine Go.by st3 ?_
    show Go p.tables e below _ (T3.setTop (mkF m 11 #[.val (.ref a1)] [(.ref a_ERROR_STATUS), (.ref a1)]))
    by_cases ha11_4 : a1 = a_ERROR_STATUS
    · skip
      refine Go.by (X3.acmp (g := (mkF m 11 #[.val (.ref a1)] [(.ref a_ERROR_STATUS), (.ref a1)])) hx rfl rfl rfl (pc0 := 11) (pc' := 14) (same := true) rfl (hb hby d2_11) rfl (decide_eq_true (congrArg Value.ref ha11_4)) (by decide) (by decide)) ?_
      show Go p.tables e below _ (T3.setTop (mkF m 14 #[.val (.ref a1)] []))
      refine Go.by (fun _ => XS.iconst X3.here hx rfl (hb hby d2_14)) ?_
      show Go p.tables e below _ (T3.setTop (mkF m 15 #[.val (.ref a1)] [(.int (1 : Int32))]))
      refine Go.by (fun _ => XS.goto X3.here hx rfl (pc0 := 15) (pc' := 19) rfl (hb hby d2_15) (by decide) (by decide)) ?_
      show Go p.tables e below _ (T3.setTop (mkF m 19 #[.val (.ref a1)] [(.int (1 : Int32))]))
      exact Go.retN X3 hx hlk (z' := (1 : Int32)) hret (by simp) (hb hby d2_19) rfl (by decide) (by decide) ⟨Or.inl ⟨by simp [*], rfl⟩, rfl⟩
    · skip
      refine Go.by (X3.acmp (g := (mkF m 11 #[.val (.ref a1)] [(.ref a_ERROR_STATUS), (.ref a1)])) hx rfl rfl rfl (pc0 := 11) (pc' := 18) (same := false) rfl (hb hby d2_11) rfl (decide_eq_false fun q => ha11_4 (Value.ref.inj q)) (by decide) (by decide)) ?_
      show Go p.tables e below _ (T3.setTop (mkF m 18 #[.val (.ref a1)] []))
      refine Go.by (fun _ => XS.iconst X3.here hx rfl (hb hby d2_18)) ?_
      show Go p.tables e below _ (T3.setTop (mkF m 19 #[.val (.ref a1)] [(.int (0 : Int32))]))
      exact Go.retN X3 hx hlk (z' := (0 : Int32)) hret (by simp) (hb hby d2_19) rfl (by decide) (by decide) ⟨Or.inr ⟨by simp [*], rfl⟩, rfl⟩
theorem d3_0 : decode prog_2_method_4_code 0 = .ok (.iload_n 0, 1) := by decide +kernel
theorem d3_1 : decode prog_2_method_4_code 1 = .ok (.bipush 100, 2) := by decide +kernel
theorem d3_3 : decode prog_2_method_4_code 3 = .ok (.idiv, 1) := by decide +kernel
theorem d3_4 : decode prog_2_method_4_code 4 = .ok (.iconst 2, 1) := by decide +kernel
theorem d3_5 : decode prog_2_method_4_code 5 = .ok (.if_icmp .eq 10, 3) := by decide +kernel
theorem d3_15 : decode prog_2_method_4_code 15 = .ok (.getstatic 3, 3) := by decide +kernel
theorem d3_18 : decode prog_2_method_4_code 18 = .ok (.goto 6, 3) := by decide +kernel
theorem d3_24 : decode prog_2_method_4_code 24 = .ok (.areturn, 1) := by decide +kernel
theorem d3_8 : decode prog_2_method_4_code 8 = .ok (.iload_n 0, 1) := by decide +kernel
theorem d3_9 : decode prog_2_method_4_code 9 = .ok (.sipush 304, 3) := by decide +kernel
theorem d3_12 : decode prog_2_method_4_code 12 = .ok (.if_icmp .ne 9, 3) := by decide +kernel
theorem d3_21 : decode prog_2_method_4_code 21 = .ok (.getstatic 7, 3) := by decide +kernel
abbrev Rm3 : Room := { frames := 0, cells := 0, slots := 0, locals := 0 }
set_option maxRecDepth 65536 in
set_option maxHeartbeats 40000000 in
theorem rm3 (l : Launch) (Z : State) (a0 : Array Value) (hw : ∀ d ∈ tables_1, d.before a0 Z = true) (ws : List Jvm.Cond) (p1 : Int32) (a_OK : Addr) (a_ERROR_STATUS : Addr) (a_BROKEN : Addr) (a_REFUSED : Addr) (h0 : Heap) (n0 : Nat) (Z0 : n0 ≤ h0.size) (S_OK : Sta Z h0 "com/example/preference_store/preferencestore/bench/Outcome" "OK" "Lcom/example/preference_store/preferencestore/bench/Outcome;" (.ref a_OK)) (E_OK : Exa Z h0 a_OK "com/example/preference_store/preferencestore/bench/Outcome") (S_ERROR_STATUS : Sta Z h0 "com/example/preference_store/preferencestore/bench/Outcome" "ERROR_STATUS" "Lcom/example/preference_store/preferencestore/bench/Outcome;" (.ref a_ERROR_STATUS)) (E_ERROR_STATUS : Exa Z h0 a_ERROR_STATUS "com/example/preference_store/preferencestore/bench/Outcome") (S_BROKEN : Sta Z h0 "com/example/preference_store/preferencestore/bench/Outcome" "BROKEN" "Lcom/example/preference_store/preferencestore/bench/Outcome;" (.ref a_BROKEN)) (E_BROKEN : Exa Z h0 a_BROKEN "com/example/preference_store/preferencestore/bench/Outcome") (S_REFUSED : Sta Z h0 "com/example/preference_store/preferencestore/bench/Outcome" "REFUSED" "Lcom/example/preference_store/preferencestore/bench/Outcome;" (.ref a_REFUSED)) (E_REFUSED : Exa Z h0 a_REFUSED "com/example/preference_store/preferencestore/bench/Outcome") (F_ERROR_STATUS_ordinal : Fld Z h0 a_ERROR_STATUS "java/lang/Enum" "ordinal" "I" (.int (1 : Int32))) (F_OK_ordinal : Fld Z h0 a_OK "java/lang/Enum" "ordinal" "I" (.int (0 : Int32))) (F_BROKEN_ordinal : Fld Z h0 a_BROKEN "java/lang/Enum" "ordinal" "I" (.int (2 : Int32))) (F_REFUSED_ordinal : Fld Z h0 a_REFUSED "java/lang/Enum" "ordinal" "I" (.int (3 : Int32))) :
    Met l Z n0 (⟨"com/example/preference_store/preferencestore/bench/Outcome", "ofStatus", "(I)Lcom/example/preference_store/preferencestore/bench/Outcome;"⟩ : MethodName) prog_2_method_4_code 1 (some (.object "com/example/preference_store/preferencestore/bench/Outcome")) ws Rm3 #[(.int p1)] h0 (fun v h => (v = some (.ref a_OK) ∨ v = some (.ref a_ERROR_STATUS)) ∧ h0 = h) := by
  refine enter (Ls := #[.val (.int p1)]) (plainFor_of_name pn1) (fun m => by first | rfl | (simp [entryFrame, mkF, argsToLocals, Value.category]; done)) ?_
  intro p e s m below meth c T0 hx hby hml hown hnm hret hlk hZ X0
  show Go p.tables e below _ (T0.setTop (mkF m 0 #[.val (.int p1)] []))
  refine Go.by (fun _ => XS.iloadN X0.here hx rfl (hb hby d3_0) rfl) ?_
  show Go p.tables e below _ (T0.setTop (mkF m 1 #[.val (.int p1)] [(.int p1)]))
  refine Go.by (fun _ => XS.bipush X0.here hx rfl (hb hby d3_1)) ?_
  show Go p.tables e below _ (T0.setTop (mkF m 3 #[.val (.int p1)] [(.int (100 : Int32)), (.int p1)]))
  refine Go.by (fun _ => XS.idiv X0.here hx rfl (hb hby d3_3) rfl (by decide)) ?_
  show Go p.tables e below _ (T0.setTop (mkF m 4 #[.val (.int p1)] [(.int (p1 / (100 : Int32)))]))
  refine Go.by (fun _ => XS.iconst X0.here hx rfl (hb hby d3_4)) ?_
  show Go p.tables e below _ (T0.setTop (mkF m 5 #[.val (.int p1)] [(.int (2 : Int32)), (.int (p1 / (100 : Int32)))]))
  by_cases hc5_1 : (p1 / (100 : Int32)) = (2 : Int32)
  · skip
    refine Go.by (fun _ => XS.icmpYes X0.here hx rfl (pc0 := 5) (pc' := 15) rfl (hb hby d3_5) rfl (teq hc5_1).1 (by decide) (by decide)) ?_
    show Go p.tables e below _ (T0.setTop (mkF m 15 #[.val (.int p1)] []))
    obtain ⟨T2, X2, st2⟩ := X0.getS hx hZ hown (host := "") (Or.inl (tw hw 12 rfl)) Via.refl S_OK (g := (mkF m 15 #[.val (.int p1)] [])) rfl (hb hby d3_15)
    refine Go.by st2 ?_
    show Go p.tables e below _ (T2.setTop (mkF m 18 #[.val (.int p1)] [(.ref a_OK)]))
    refine Go.by (fun _ => XS.goto X2.here hx rfl (pc0 := 18) (pc' := 24) rfl (hb hby d3_18) (by decide) (by decide)) ?_
    show Go p.tables e below _ (T2.setTop (mkF m 24 #[.val (.int p1)] [(.ref a_OK)]))
    exact Go.retA X2 hx hlk hret rfl rfl (hb hby d3_24) (by decide) (by decide) ⟨Or.inl rfl, rfl⟩
  · skip
    refine Go.by (fun _ => XS.icmpNo X0.here hx rfl (hb hby d3_5) rfl (feq hc5_1).1) ?_
    show Go p.tables e below _ (T0.setTop (mkF m 8 #[.val (.int p1)] []))
    refine Go.by (fun _ => XS.iloadN X0.here hx rfl (hb hby d3_8) rfl) ?_
    show Go p.tables e below _ (T0.setTop (mkF m 9 #[.val (.int p1)] [(.int p1)]))
    refine Go.by (fun _ => XS.sipush X0.here hx rfl (hb hby d3_9)) ?_
    show Go p.tables e below _ (T0.setTop (mkF m 12 #[.val (.int p1)] [(.int (304 : Int32)), (.int p1)]))
    by_cases hc12_3 : p1 = (304 : Int32)
    · skip
      refine Go.by (fun _ => XS.icmpNo X0.here hx rfl (hb hby d3_12) rfl (teq hc12_3).2) ?_
      show Go p.tables e below _ (T0.setTop (mkF m 15 #[.val (.int p1)] []))
      obtain ⟨T4, X4, st4⟩ := X0.getS hx hZ hown (host := "") (Or.inl (tw hw 12 rfl)) Via.refl S_OK (g := (mkF m 15 #[.val (.int p1)] [])) rfl (hb hby d3_15)
      refine Go.by st4 ?_
      show Go p.tables e below _ (T4.setTop (mkF m 18 #[.val (.int p1)] [(.ref a_OK)]))
      refine Go.by (fun _ => XS.goto X4.here hx rfl (pc0 := 18) (pc' := 24) rfl (hb hby d3_18) (by decide) (by decide)) ?_
      show Go p.tables e below _ (T4.setTop (mkF m 24 #[.val (.int p1)] [(.ref a_OK)]))
      exact Go.retA X4 hx hlk hret rfl rfl (hb hby d3_24) (by decide) (by decide) ⟨Or.inl rfl, rfl⟩
    · skip
      refine Go.by (fun _ => XS.icmpYes X0.here hx rfl (pc0 := 12) (pc' := 21) rfl (hb hby d3_12) rfl (feq hc12_3).2 (by decide) (by decide)) ?_
      show Go p.tables e below _ (T0.setTop (mkF m 21 #[.val (.int p1)] []))
      obtain ⟨T5, X5, st5⟩ := X0.getS hx hZ hown (host := "") (Or.inl (tw hw 16 rfl)) Via.refl S_ERROR_STATUS (g := (mkF m 21 #[.val (.int p1)] [])) rfl (hb hby d3_21)
      refine Go.by st5 ?_
      show Go p.tables e below _ (T5.setTop (mkF m 24 #[.val (.int p1)] [(.ref a_ERROR_STATUS)]))
      exact Go.retA X5 hx hlk hret rfl rfl (hb hby d3_24) (by decide) (by decide) ⟨Or.inr rfl, rfl⟩
theorem pd0 : parseMethodDescriptor "(I)Lcom/example/preference_store/preferencestore/bench/Outcome;" = some ⟨[.int], some (.object "com/example/preference_store/preferencestore/bench/Outcome")⟩ := by decide +kernel
theorem pd1 : parseMethodDescriptor "()Z" = some ⟨[], some .boolean⟩ := by decide +kernel
set_option maxRecDepth 65536 in
set_option maxHeartbeats 40000000 in
theorem rm0 (l : Launch) (Z : State) (a0 : Array Value) (hw : ∀ d ∈ tables_1, d.before a0 Z = true) (ws : List Jvm.Cond) (p0 : Int32) (p1 : Int32) (a_OK : Addr) (a_ERROR_STATUS : Addr) (a_BROKEN : Addr) (a_REFUSED : Addr) (h0 : Heap) (n0 : Nat) (Z0 : n0 ≤ h0.size) (S_OK : Sta Z h0 "com/example/preference_store/preferencestore/bench/Outcome" "OK" "Lcom/example/preference_store/preferencestore/bench/Outcome;" (.ref a_OK)) (E_OK : Exa Z h0 a_OK "com/example/preference_store/preferencestore/bench/Outcome") (S_ERROR_STATUS : Sta Z h0 "com/example/preference_store/preferencestore/bench/Outcome" "ERROR_STATUS" "Lcom/example/preference_store/preferencestore/bench/Outcome;" (.ref a_ERROR_STATUS)) (E_ERROR_STATUS : Exa Z h0 a_ERROR_STATUS "com/example/preference_store/preferencestore/bench/Outcome") (S_BROKEN : Sta Z h0 "com/example/preference_store/preferencestore/bench/Outcome" "BROKEN" "Lcom/example/preference_store/preferencestore/bench/Outcome;" (.ref a_BROKEN)) (E_BROKEN : Exa Z h0 a_BROKEN "com/example/preference_store/preferencestore/bench/Outcome") (S_REFUSED : Sta Z h0 "com/example/preference_store/preferencestore/bench/Outcome" "REFUSED" "Lcom/example/preference_store/preferencestore/bench/Outcome;" (.ref a_REFUSED)) (E_REFUSED : Exa Z h0 a_REFUSED "com/example/preference_store/preferencestore/bench/Outcome") (F_ERROR_STATUS_ordinal : Fld Z h0 a_ERROR_STATUS "java/lang/Enum" "ordinal" "I" (.int (1 : Int32))) (F_OK_ordinal : Fld Z h0 a_OK "java/lang/Enum" "ordinal" "I" (.int (0 : Int32))) (F_BROKEN_ordinal : Fld Z h0 a_BROKEN "java/lang/Enum" "ordinal" "I" (.int (2 : Int32))) (F_REFUSED_ordinal : Fld Z h0 a_REFUSED "java/lang/Enum" "ordinal" "I" (.int (3 : Int32))) :
    Met l Z n0 x code maxLocals ret ws room_1 #[(.int p0), (.int p1)] h0 (fun v h => v = some (.int 1)) := by
  refine enter (Ls := #[.val (.int p0), .val (.int p1), .unset, .unset, .unset, .unset, .unset]) (plainFor_of_name pn0) (fun m => by first | rfl | (simp [entryFrame, mkF, argsToLocals, Value.category, maxLocals]; done)) ?_
  intro p e s m below meth c T0 hx hby hml hown hnm hret hlk hZ X0
  have nOE : a_OK ≠ a_ERROR_STATUS := F_OK_ordinal.ne F_ERROR_STATUS_ordinal (by decide)
  have nOB : a_OK ≠ a_BROKEN := F_OK_ordinal.ne F_BROKEN_ordinal (by decide)
  have nOR : a_OK ≠ a_REFUSED := F_OK_ordinal.ne F_REFUSED_ordinal (by decide)
  have nEB : a_ERROR_STATUS ≠ a_BROKEN := F_ERROR_STATUS_ordinal.ne F_BROKEN_ordinal (by decide)
  have nER : a_ERROR_STATUS ≠ a_REFUSED := F_ERROR_STATUS_ordinal.ne F_REFUSED_ordinal (by decide)
  show Go p.tables e below _ (T0.setTop (mkF m 0 #[.val (.int p0), .val (.int p1), .unset, .unset, .unset, .unset, .unset] []))
  refine Go.by (fun _ => XS.iloadN X0.here hx rfl (hb hby at_0) rfl) ?_
  show Go p.tables e below _ (T0.setTop (mkF m 1 #[.val (.int p0), .val (.int p1), .unset, .unset, .unset, .unset, .unset] [(.int p0)]))
  refine Go.by (fun _ => XS.iconst X0.here hx rfl (hb hby at_1)) ?_
  show Go p.tables e below _ (T0.setTop (mkF m 2 #[.val (.int p0), .val (.int p1), .unset, .unset, .unset, .unset, .unset] [(.int (3 : Int32)), (.int p0)]))
  refine Go.by (fun _ => XS.iand X0.here hx rfl (hb hby at_2) rfl) ?_
  show Go p.tables e below _ (T0.setTop (mkF m 3 #[.val (.int p0), .val (.int p1), .unset, .unset, .unset, .unset, .unset] [(.int (p0 &&& (3 : Int32)))]))
  refine Go.by (fun _ => XS.istoreN X0.here hx rfl (hb hby at_3) rfl (l' := #[.val (.int p0), .val (.int p1), .val (.int (p0 &&& (3 : Int32))), .unset, .unset, .unset, .unset]) rfl) ?_
  show Go p.tables e below _ (T0.setTop (mkF m 4 #[.val (.int p0), .val (.int p1), .val (.int (p0 &&& (3 : Int32))), .unset, .unset, .unset, .unset] []))
  generalize (p0 &&& (3 : Int32)) = ii
  show Go p.tables e below _ (T0.setTop (mkF m 4 #[.val (.int p0), .val (.int p1), .val (.int ii), .unset, .unset, .unset, .unset] []))
  refine Go.by (fun _ => XS.iloadN X0.here hx rfl (hb hby at_4) rfl) ?_
  show Go p.tables e below _ (T0.setTop (mkF m 5 #[.val (.int p0), .val (.int p1), .val (.int ii), .unset, .unset, .unset, .unset] [(.int ii)]))
  obtain ⟨v1, T1, h1, X1, q1, st1⟩ := X0.callS hx hZ (y := (⟨"com/example/preference_store/preferencestore/bench/OutcomeAnsweredPinLaw", "pick", "(I)Lcom/example/preference_store/preferencestore/bench/Outcome;"⟩ : MethodName)) hown (tw hw 0 rfl) (tw hw 1 rfl) (tw hw 2 rfl) (tw hw 3 rfl) (by decide) (rm1 l Z a0 hw [] ii a_OK a_ERROR_STATUS a_BROKEN a_REFUSED h0 n0 Z0 S_OK E_OK S_ERROR_STATUS E_ERROR_STATUS S_BROKEN E_BROKEN S_REFUSED E_REFUSED F_ERROR_STATUS_ordinal F_OK_ordinal F_BROKEN_ordinal F_REFUSED_ordinal) (g := (mkF m 5 #[.val (.int p0), .val (.int p1), .val (.int ii), .unset, .unset, .unset, .unset] [(.int ii)])) rfl (by rw [hml]; rfl) (argsL := [(.int ii)]) (rest := []) (lenOf pd0 rfl) rfl (hb hby at_5) rfl (by decide) (Nat.le_of_ble_eq_true rfl) (k' := 0) (n' := 0) rfl rfl (by decide) (by decide)
  refine Go.by st1 ?_
  rcases q1 with ⟨⟨h1, rfl⟩ | ⟨h1, h2, rfl⟩ | ⟨h1, h2, h3, rfl⟩ | ⟨h1, h2, h3, rfl⟩, rfl⟩
  · skip
    show Go p.tables e below _ (T1.setTop (mkF m 8 #[.val (.int p0), .val (.int p1), .val (.int ii), .unset, .unset, .unset, .unset] [(.ref a_OK)]))
    refine Go.by (fun _ => XS.astoreN X1.here hx rfl (hb hby at_8) rfl rfl (l' := #[.val (.int p0), .val (.int p1), .val (.int ii), .val (.ref a_OK), .unset, .unset, .unset]) rfl) ?_
    show Go p.tables e below _ (T1.setTop (mkF m 9 #[.val (.int p0), .val (.int p1), .val (.int ii), .val (.ref a_OK), .unset, .unset, .unset] []))
    refine Go.by (fun _ => XS.iloadN X1.here hx rfl (hb hby at_9) rfl) ?_
    show Go p.tables e below _ (T1.setTop (mkF m 10 #[.val (.int p0), .val (.int p1), .val (.int ii), .val (.ref a_OK), .unset, .unset, .unset] [(.int ii)]))
    by_cases hc10_2 : ii = (0 : Int32)
    · skip
      refine Go.by (fun _ => XS.ifYes X1.here hx rfl (pc0 := 10) (pc' := 18) rfl (hb hby at_10) rfl ((if0 _ _).trans (teq hc10_2).1) (by decide) (by decide)) ?_
      show Go p.tables e below _ (T1.setTop (mkF m 18 #[.val (.int p0), .val (.int p1), .val (.int ii), .val (.ref a_OK), .unset, .unset, .unset] []))
      refine Go.by (fun _ => XS.iconst X1.here hx rfl (hb hby at_18)) ?_
      show Go p.tables e below _ (T1.setTop (mkF m 19 #[.val (.int p0), .val (.int p1), .val (.int ii), .val (.ref a_OK), .unset, .unset, .unset] [(.int (1 : Int32))]))
      refine Go.by (fun _ => XS.goto X1.here hx rfl (pc0 := 19) (pc' := 23) rfl (hb hby at_19) (by decide) (by decide)) ?_
      show Go p.tables e below _ (T1.setTop (mkF m 23 #[.val (.int p0), .val (.int p1), .val (.int ii), .val (.ref a_OK), .unset, .unset, .unset] [(.int (1 : Int32))]))
      refine Go.by (fun _ => XS.istore X1.here hx rfl (hb hby at_23) rfl (l' := #[.val (.int p0), .val (.int p1), .val (.int ii), .val (.ref a_OK), .val (.int (1 : Int32)), .unset, .unset]) rfl) ?_
      show Go p.tables e below _ (T1.setTop (mkF m 25 #[.val (.int p0), .val (.int p1), .val (.int ii), .val (.ref a_OK), .val (.int (1 : Int32)), .unset, .unset] []))
      refine Go.by (fun _ => XS.aloadN X1.here hx rfl (hb hby at_25) rfl rfl) ?_
      show Go p.tables e below _ (T1.setTop (mkF m 26 #[.val (.int p0), .val (.int p1), .val (.int ii), .val (.ref a_OK), .val (.int (1 : Int32)), .unset, .unset] [(.ref a_OK)]))
      obtain ⟨v3, T3, h3, X3, q3, st3⟩ := X1.callV hx hZ (y := (⟨"com/example/preference_store/preferencestore/bench/Outcome", "answered", "()Z"⟩ : MethodName)) (z := (⟨"com/example/preference_store/preferencestore/bench/Outcome", "answered", "()Z"⟩ : MethodName)) hown (tw hw 7 rfl) (tw hw 8 rfl) (notFace_of_selects (args := #[]) (mvT hZ (tw hw 10 rfl))) (tw hw 10 rfl) (tw hw 9 rfl) (tw hw 5 rfl) (tw hw 11 rfl) (by decide) (rm2 l Z a0 hw [] a_OK a_OK a_ERROR_STATUS a_BROKEN a_REFUSED h0 n0 Z0 S_OK E_OK S_ERROR_STATUS E_ERROR_STATUS S_BROKEN E_BROKEN S_REFUSED E_REFUSED F_ERROR_STATUS_ordinal F_OK_ordinal F_BROKEN_ordinal F_REFUSED_ordinal) E_OK (g := (mkF m 26 #[.val (.int p0), .val (.int p1), .val (.int ii), .val (.ref a_OK), .val (.int (1 : Int32)), .unset, .unset] [(.ref a_OK)])) rfl (by rw [hml]; rfl) (argsL := []) (rest := []) (lenOf pd1 rfl) rfl (hb hby at_26) rfl (by decide) (Nat.le_of_ble_eq_true rfl) (k' := 0) (n' := 0) rfl rfl (by decide) (by decide)
      refine Go.by st3 ?_
      rcases q3 with ⟨⟨hP, rfl⟩ | ⟨hP, rfl⟩, rfl⟩
      · skip
        show Go p.tables e below _ (T3.setTop (mkF m 29 #[.val (.int p0), .val (.int p1), .val (.int ii), .val (.ref a_OK), .val (.int (1 : Int32)), .unset, .unset] [(.int (1 : Int32))]))
        refine Go.by (fun _ => XS.iload X3.here hx rfl (hb hby at_29) rfl) ?_
        show Go p.tables e below _ (T3.setTop (mkF m 31 #[.val (.int p0), .val (.int p1), .val (.int ii), .val (.ref a_OK), .val (.int (1 : Int32)), .unset, .unset] [(.int (1 : Int32)), (.int (1 : Int32))]))
        refine Go.by (fun _ => XS.icmpNo X3.here hx rfl (hb hby at_31) rfl (teq (by decide)).2) ?_
        show Go p.tables e below _ (T3.setTop (mkF m 34 #[.val (.int p0), .val (.int p1), .val (.int ii), .val (.ref a_OK), .val (.int (1 : Int32)), .unset, .unset] []))
        refine Go.by (fun _ => XS.iconst X3.here hx rfl (hb hby at_34)) ?_
        show Go p.tables e below _ (T3.setTop (mkF m 35 #[.val (.int p0), .val (.int p1), .val (.int ii), .val (.ref a_OK), .val (.int (1 : Int32)), .unset, .unset] [(.int (1 : Int32))]))
        refine Go.by (fun _ => XS.goto X3.here hx rfl (pc0 := 35) (pc' := 39) rfl (hb hby at_35) (by decide) (by decide)) ?_
        show Go p.tables e below _ (T3.setTop (mkF m 39 #[.val (.int p0), .val (.int p1), .val (.int ii), .val (.ref a_OK), .val (.int (1 : Int32)), .unset, .unset] [(.int (1 : Int32))]))
        refine Go.by (fun _ => XS.istore X3.here hx rfl (hb hby at_39) rfl (l' := #[.val (.int p0), .val (.int p1), .val (.int ii), .val (.ref a_OK), .val (.int (1 : Int32)), .val (.int (1 : Int32)), .unset]) rfl) ?_
        show Go p.tables e below _ (T3.setTop (mkF m 41 #[.val (.int p0), .val (.int p1), .val (.int ii), .val (.ref a_OK), .val (.int (1 : Int32)), .val (.int (1 : Int32)), .unset] []))
        refine Go.by (fun _ => XS.iloadN X3.here hx rfl (hb hby at_41) rfl) ?_
        show Go p.tables e below _ (T3.setTop (mkF m 42 #[.val (.int p0), .val (.int p1), .val (.int ii), .val (.ref a_OK), .val (.int (1 : Int32)), .val (.int (1 : Int32)), .unset] [(.int p1)]))
        obtain ⟨v4, T4, h4, X4, q4, st4⟩ := X3.callS hx hZ (y := (⟨"com/example/preference_store/preferencestore/bench/Outcome", "ofStatus", "(I)Lcom/example/preference_store/preferencestore/bench/Outcome;"⟩ : MethodName)) hown (tw hw 13 rfl) (tw hw 14 rfl) (tw hw 5 rfl) (tw hw 15 rfl) (by decide) (rm3 l Z a0 hw [] p1 a_OK a_ERROR_STATUS a_BROKEN a_REFUSED h0 n0 Z0 S_OK E_OK S_ERROR_STATUS E_ERROR_STATUS S_BROKEN E_BROKEN S_REFUSED E_REFUSED F_ERROR_STATUS_ordinal F_OK_ordinal F_BROKEN_ordinal F_REFUSED_ordinal) (g := (mkF m 42 #[.val (.int p0), .val (.int p1), .val (.int ii), .val (.ref a_OK), .val (.int (1 : Int32)), .val (.int (1 : Int32)), .unset] [(.int p1)])) rfl (by rw [hml]; rfl) (argsL := [(.int p1)]) (rest := []) (lenOf pd0 rfl) rfl (hb hby at_42) rfl (by decide) (Nat.le_of_ble_eq_true rfl) (k' := 0) (n' := 0) rfl rfl (by decide) (by decide)
        refine Go.by st4 ?_
        rcases q4 with ⟨rfl | rfl, rfl⟩
        · skip
          show Go p.tables e below _ (T4.setTop (mkF m 45 #[.val (.int p0), .val (.int p1), .val (.int ii), .val (.ref a_OK), .val (.int (1 : Int32)), .val (.int (1 : Int32)), .unset] [(.ref a_OK)]))
          obtain ⟨v5, T5, h5, X5, q5, st5⟩ := X4.callV hx hZ (y := (⟨"com/example/preference_store/preferencestore/bench/Outcome", "answered", "()Z"⟩ : MethodName)) (z := (⟨"com/example/preference_store/preferencestore/bench/Outcome", "answered", "()Z"⟩ : MethodName)) hown (tw hw 7 rfl) (tw hw 8 rfl) (notFace_of_selects (args := #[]) (mvT hZ (tw hw 10 rfl))) (tw hw 10 rfl) (tw hw 9 rfl) (tw hw 5 rfl) (tw hw 11 rfl) (by decide) (rm2 l Z a0 hw [] a_OK a_OK a_ERROR_STATUS a_BROKEN a_REFUSED h0 n0 Z0 S_OK E_OK S_ERROR_STATUS E_ERROR_STATUS S_BROKEN E_BROKEN S_REFUSED E_REFUSED F_ERROR_STATUS_ordinal F_OK_ordinal F_BROKEN_ordinal F_REFUSED_ordinal) E_OK (g := (mkF m 45 #[.val (.int p0), .val (.int p1), .val (.int ii), .val (.ref a_OK), .val (.int (1 : Int32)), .val (.int (1 : Int32)), .unset] [(.ref a_OK)])) rfl (by rw [hml]; rfl) (argsL := []) (rest := []) (lenOf pd1 rfl) rfl (hb hby at_45) rfl (by decide) (Nat.le_of_ble_eq_true rfl) (k' := 0) (n' := 0) rfl rfl (by decide) (by decide)
          refine Go.by st5 ?_
          rcases q5 with ⟨⟨hP, rfl⟩ | ⟨hP, rfl⟩, rfl⟩
          · skip
            show Go p.tables e below _ (T5.setTop (mkF m 48 #[.val (.int p0), .val (.int p1), .val (.int ii), .val (.ref a_OK), .val (.int (1 : Int32)), .val (.int (1 : Int32)), .unset] [(.int (1 : Int32))]))
            refine Go.by (fun _ => XS.istore X5.here hx rfl (hb hby at_48) rfl (l' := #[.val (.int p0), .val (.int p1), .val (.int ii), .val (.ref a_OK), .val (.int (1 : Int32)), .val (.int (1 : Int32)), .val (.int (1 : Int32))]) rfl) ?_
            show Go p.tables e below _ (T5.setTop (mkF m 50 #[.val (.int p0), .val (.int p1), .val (.int ii), .val (.ref a_OK), .val (.int (1 : Int32)), .val (.int (1 : Int32)), .val (.int (1 : Int32))] []))
            refine Go.by (fun _ => XS.iload X5.here hx rfl (hb hby at_50) rfl) ?_
            show Go p.tables e below _ (T5.setTop (mkF m 52 #[.val (.int p0), .val (.int p1), .val (.int ii), .val (.ref a_OK), .val (.int (1 : Int32)), .val (.int (1 : Int32)), .val (.int (1 : Int32))] [(.int (1 : Int32))]))
            refine Go.by (fun _ => XS.ifNo X5.here hx rfl (hb hby at_52) rfl ((if0 _ _).trans (feq (by decide)).1)) ?_
            show Go p.tables e below _ (T5.setTop (mkF m 55 #[.val (.int p0), .val (.int p1), .val (.int ii), .val (.ref a_OK), .val (.int (1 : Int32)), .val (.int (1 : Int32)), .val (.int (1 : Int32))] []))
            refine Go.by (fun _ => XS.iload X5.here hx rfl (hb hby at_55) rfl) ?_
            show Go p.tables e below _ (T5.setTop (mkF m 57 #[.val (.int p0), .val (.int p1), .val (.int ii), .val (.ref a_OK), .val (.int (1 : Int32)), .val (.int (1 : Int32)), .val (.int (1 : Int32))] [(.int (1 : Int32))]))
            refine Go.by (fun _ => XS.ifNo X5.here hx rfl (hb hby at_57) rfl ((if0 _ _).trans (feq (by decide)).1)) ?_
            show Go p.tables e below _ (T5.setTop (mkF m 60 #[.val (.int p0), .val (.int p1), .val (.int ii), .val (.ref a_OK), .val (.int (1 : Int32)), .val (.int (1 : Int32)), .val (.int (1 : Int32))] []))
            refine Go.by (fun _ => XS.iconst X5.here hx rfl (hb hby at_60)) ?_
            show Go p.tables e below _ (T5.setTop (mkF m 61 #[.val (.int p0), .val (.int p1), .val (.int ii), .val (.ref a_OK), .val (.int (1 : Int32)), .val (.int (1 : Int32)), .val (.int (1 : Int32))] [(.int (1 : Int32))]))
            refine Go.by (fun _ => XS.goto X5.here hx rfl (pc0 := 61) (pc' := 65) rfl (hb hby at_61) (by decide) (by decide)) ?_
            show Go p.tables e below _ (T5.setTop (mkF m 65 #[.val (.int p0), .val (.int p1), .val (.int ii), .val (.ref a_OK), .val (.int (1 : Int32)), .val (.int (1 : Int32)), .val (.int (1 : Int32))] [(.int (1 : Int32))]))
            exact Go.retN X5 hx hlk (z' := (1 : Int32)) hret (by simp) (hb hby at_65) rfl (by decide) (by decide) rfl
          · skip
            show Go p.tables e below _ (T5.setTop (mkF m 48 #[.val (.int p0), .val (.int p1), .val (.int ii), .val (.ref a_OK), .val (.int (1 : Int32)), .val (.int (1 : Int32)), .unset] [(.int (0 : Int32))]))
            exfalso
            simp [nOE, nOB, nOR, nEB, nER, Ne.symm nOB, Ne.symm nOR, Ne.symm nEB, Ne.symm nER] at hP
        · skip
          show Go p.tables e below _ (T4.setTop (mkF m 45 #[.val (.int p0), .val (.int p1), .val (.int ii), .val (.ref a_OK), .val (.int (1 : Int32)), .val (.int (1 : Int32)), .unset] [(.ref a_ERROR_STATUS)]))
          obtain ⟨v6, T6, h6, X6, q6, st6⟩ := X4.callV hx hZ (y := (⟨"com/example/preference_store/preferencestore/bench/Outcome", "answered", "()Z"⟩ : MethodName)) (z := (⟨"com/example/preference_store/preferencestore/bench/Outcome", "answered", "()Z"⟩ : MethodName)) hown (tw hw 7 rfl) (tw hw 8 rfl) (notFace_of_selects (args := #[]) (mvT hZ (tw hw 10 rfl))) (tw hw 10 rfl) (tw hw 9 rfl) (tw hw 5 rfl) (tw hw 11 rfl) (by decide) (rm2 l Z a0 hw [] a_ERROR_STATUS a_OK a_ERROR_STATUS a_BROKEN a_REFUSED h0 n0 Z0 S_OK E_OK S_ERROR_STATUS E_ERROR_STATUS S_BROKEN E_BROKEN S_REFUSED E_REFUSED F_ERROR_STATUS_ordinal F_OK_ordinal F_BROKEN_ordinal F_REFUSED_ordinal) E_ERROR_STATUS (g := (mkF m 45 #[.val (.int p0), .val (.int p1), .val (.int ii), .val (.ref a_OK), .val (.int (1 : Int32)), .val (.int (1 : Int32)), .unset] [(.ref a_ERROR_STATUS)])) rfl (by rw [hml]; rfl) (argsL := []) (rest := []) (lenOf pd1 rfl) rfl (hb hby at_45) rfl (by decide) (Nat.le_of_ble_eq_true rfl) (k' := 0) (n' := 0) rfl rfl (by decide) (by decide)
          refine Go.by st6 ?_
          rcases q6 with ⟨⟨hP, rfl⟩ | ⟨hP, rfl⟩, rfl⟩
          · skip
            show Go p.tables e below _ (T6.setTop (mkF m 48 #[.val (.int p0), .val (.int p1), .val (.int ii), .val (.ref a_OK), .val (.int (1 : Int32)), .val (.int (1 : Int32)), .unset] [(.int (1 : Int32))]))
            refine Go.by (fun _ => XS.istore X6.here hx rfl (hb hby at_48) rfl (l' := #[.val (.int p0), .val (.int p1), .val (.int ii), .val (.ref a_OK), .val (.int (1 : Int32)), .val (.int (1 : Int32)), .val (.int (1 : Int32))]) rfl) ?_
            show Go p.tables e below _ (T6.setTop (mkF m 50 #[.val (.int p0), .val (.int p1), .val (.int ii), .val (.ref a_OK), .val (.int (1 : Int32)), .val (.int (1 : Int32)), .val (.int (1 : Int32))] []))
            refine Go.by (fun _ => XS.iload X6.here hx rfl (hb hby at_50) rfl) ?_
            show Go p.tables e below _ (T6.setTop (mkF m 52 #[.val (.int p0), .val (.int p1), .val (.int ii), .val (.ref a_OK), .val (.int (1 : Int32)), .val (.int (1 : Int32)), .val (.int (1 : Int32))] [(.int (1 : Int32))]))
            refine Go.by (fun _ => XS.ifNo X6.here hx rfl (hb hby at_52) rfl ((if0 _ _).trans (feq (by decide)).1)) ?_
            show Go p.tables e below _ (T6.setTop (mkF m 55 #[.val (.int p0), .val (.int p1), .val (.int ii), .val (.ref a_OK), .val (.int (1 : Int32)), .val (.int (1 : Int32)), .val (.int (1 : Int32))] []))
            refine Go.by (fun _ => XS.iload X6.here hx rfl (hb hby at_55) rfl) ?_
            show Go p.tables e below _ (T6.setTop (mkF m 57 #[.val (.int p0), .val (.int p1), .val (.int ii), .val (.ref a_OK), .val (.int (1 : Int32)), .val (.int (1 : Int32)), .val (.int (1 : Int32))] [(.int (1 : Int32))]))
            refine Go.by (fun _ => XS.ifNo X6.here hx rfl (hb hby at_57) rfl ((if0 _ _).trans (feq (by decide)).1)) ?_
            show Go p.tables e below _ (T6.setTop (mkF m 60 #[.val (.int p0), .val (.int p1), .val (.int ii), .val (.ref a_OK), .val (.int (1 : Int32)), .val (.int (1 : Int32)), .val (.int (1 : Int32))] []))
            refine Go.by (fun _ => XS.iconst X6.here hx rfl (hb hby at_60)) ?_
            show Go p.tables e below _ (T6.setTop (mkF m 61 #[.val (.int p0), .val (.int p1), .val (.int ii), .val (.ref a_OK), .val (.int (1 : Int32)), .val (.int (1 : Int32)), .val (.int (1 : Int32))] [(.int (1 : Int32))]))
            refine Go.by (fun _ => XS.goto X6.here hx rfl (pc0 := 61) (pc' := 65) rfl (hb hby at_61) (by decide) (by decide)) ?_
            show Go p.tables e below _ (T6.setTop (mkF m 65 #[.val (.int p0), .val (.int p1), .val (.int ii), .val (.ref a_OK), .val (.int (1 : Int32)), .val (.int (1 : Int32)), .val (.int (1 : Int32))] [(.int (1 : Int32))]))
            exact Go.retN X6 hx hlk (z' := (1 : Int32)) hret (by simp) (hb hby at_65) rfl (by decide) (by decide) rfl
          · skip
            show Go p.tables e below _ (T6.setTop (mkF m 48 #[.val (.int p0), .val (.int p1), .val (.int ii), .val (.ref a_OK), .val (.int (1 : Int32)), .val (.int (1 : Int32)), .unset] [(.int (0 : Int32))]))
            exfalso
            simp [nOE, nOB, nOR, nEB, nER, Ne.symm nOB, Ne.symm nOR, Ne.symm nEB, Ne.symm nER] at hP
      · skip
        show Go p.tables e below _ (T3.setTop (mkF m 29 #[.val (.int p0), .val (.int p1), .val (.int ii), .val (.ref a_OK), .val (.int (1 : Int32)), .unset, .unset] [(.int (0 : Int32))]))
        exfalso
        simp [nOE, nOB, nOR, nEB, nER, Ne.symm nOB, Ne.symm nOR, Ne.symm nEB, Ne.symm nER] at hP
    · skip
      refine Go.by (fun _ => XS.ifNo X1.here hx rfl (hb hby at_10) rfl ((if0 _ _).trans (feq hc10_2).1)) ?_
      show Go p.tables e below _ (T1.setTop (mkF m 13 #[.val (.int p0), .val (.int p1), .val (.int ii), .val (.ref a_OK), .unset, .unset, .unset] []))
      refine Go.by (fun _ => XS.iloadN X1.here hx rfl (hb hby at_13) rfl) ?_
      show Go p.tables e below _ (T1.setTop (mkF m 14 #[.val (.int p0), .val (.int p1), .val (.int ii), .val (.ref a_OK), .unset, .unset, .unset] [(.int ii)]))
      refine Go.by (fun _ => XS.iconst X1.here hx rfl (hb hby at_14)) ?_
      show Go p.tables e below _ (T1.setTop (mkF m 15 #[.val (.int p0), .val (.int p1), .val (.int ii), .val (.ref a_OK), .unset, .unset, .unset] [(.int (1 : Int32)), (.int ii)]))
      by_cases hc15_7 : ii = (1 : Int32)
      · skip
        refine Go.by (fun _ => XS.icmpNo X1.here hx rfl (hb hby at_15) rfl (teq hc15_7).2) ?_
        show Go p.tables e below _ (T1.setTop (mkF m 18 #[.val (.int p0), .val (.int p1), .val (.int ii), .val (.ref a_OK), .unset, .unset, .unset] []))
        refine Go.by (fun _ => XS.iconst X1.here hx rfl (hb hby at_18)) ?_
        show Go p.tables e below _ (T1.setTop (mkF m 19 #[.val (.int p0), .val (.int p1), .val (.int ii), .val (.ref a_OK), .unset, .unset, .unset] [(.int (1 : Int32))]))
        refine Go.by (fun _ => XS.goto X1.here hx rfl (pc0 := 19) (pc' := 23) rfl (hb hby at_19) (by decide) (by decide)) ?_
        show Go p.tables e below _ (T1.setTop (mkF m 23 #[.val (.int p0), .val (.int p1), .val (.int ii), .val (.ref a_OK), .unset, .unset, .unset] [(.int (1 : Int32))]))
        refine Go.by (fun _ => XS.istore X1.here hx rfl (hb hby at_23) rfl (l' := #[.val (.int p0), .val (.int p1), .val (.int ii), .val (.ref a_OK), .val (.int (1 : Int32)), .unset, .unset]) rfl) ?_
        show Go p.tables e below _ (T1.setTop (mkF m 25 #[.val (.int p0), .val (.int p1), .val (.int ii), .val (.ref a_OK), .val (.int (1 : Int32)), .unset, .unset] []))
        refine Go.by (fun _ => XS.aloadN X1.here hx rfl (hb hby at_25) rfl rfl) ?_
        show Go p.tables e below _ (T1.setTop (mkF m 26 #[.val (.int p0), .val (.int p1), .val (.int ii), .val (.ref a_OK), .val (.int (1 : Int32)), .unset, .unset] [(.ref a_OK)]))
        obtain ⟨v8, T8, h8, X8, q8, st8⟩ := X1.callV hx hZ (y := (⟨"com/example/preference_store/preferencestore/bench/Outcome", "answered", "()Z"⟩ : MethodName)) (z := (⟨"com/example/preference_store/preferencestore/bench/Outcome", "answered", "()Z"⟩ : MethodName)) hown (tw hw 7 rfl) (tw hw 8 rfl) (notFace_of_selects (args := #[]) (mvT hZ (tw hw 10 rfl))) (tw hw 10 rfl) (tw hw 9 rfl) (tw hw 5 rfl) (tw hw 11 rfl) (by decide) (rm2 l Z a0 hw [] a_OK a_OK a_ERROR_STATUS a_BROKEN a_REFUSED h0 n0 Z0 S_OK E_OK S_ERROR_STATUS E_ERROR_STATUS S_BROKEN E_BROKEN S_REFUSED E_REFUSED F_ERROR_STATUS_ordinal F_OK_ordinal F_BROKEN_ordinal F_REFUSED_ordinal) E_OK (g := (mkF m 26 #[.val (.int p0), .val (.int p1), .val (.int ii), .val (.ref a_OK), .val (.int (1 : Int32)), .unset, .unset] [(.ref a_OK)])) rfl (by rw [hml]; rfl) (argsL := []) (rest := []) (lenOf pd1 rfl) rfl (hb hby at_26) rfl (by decide) (Nat.le_of_ble_eq_true rfl) (k' := 0) (n' := 0) rfl rfl (by decide) (by decide)
        refine Go.by st8 ?_
        rcases q8 with ⟨⟨hP, rfl⟩ | ⟨hP, rfl⟩, rfl⟩
        · skip
          show Go p.tables e below _ (T8.setTop (mkF m 29 #[.val (.int p0), .val (.int p1), .val (.int ii), .val (.ref a_OK), .val (.int (1 : Int32)), .unset, .unset] [(.int (1 : Int32))]))
          refine Go.by (fun _ => XS.iload X8.here hx rfl (hb hby at_29) rfl) ?_
          show Go p.tables e below _ (T8.setTop (mkF m 31 #[.val (.int p0), .val (.int p1), .val (.int ii), .val (.ref a_OK), .val (.int (1 : Int32)), .unset, .unset] [(.int (1 : Int32)), (.int (1 : Int32))]))
          refine Go.by (fun _ => XS.icmpNo X8.here hx rfl (hb hby at_31) rfl (teq (by decide)).2) ?_
          show Go p.tables e below _ (T8.setTop (mkF m 34 #[.val (.int p0), .val (.int p1), .val (.int ii), .val (.ref a_OK), .val (.int (1 : Int32)), .unset, .unset] []))
          refine Go.by (fun _ => XS.iconst X8.here hx rfl (hb hby at_34)) ?_
          show Go p.tables e below _ (T8.setTop (mkF m 35 #[.val (.int p0), .val (.int p1), .val (.int ii), .val (.ref a_OK), .val (.int (1 : Int32)), .unset, .unset] [(.int (1 : Int32))]))
          refine Go.by (fun _ => XS.goto X8.here hx rfl (pc0 := 35) (pc' := 39) rfl (hb hby at_35) (by decide) (by decide)) ?_
          show Go p.tables e below _ (T8.setTop (mkF m 39 #[.val (.int p0), .val (.int p1), .val (.int ii), .val (.ref a_OK), .val (.int (1 : Int32)), .unset, .unset] [(.int (1 : Int32))]))
          refine Go.by (fun _ => XS.istore X8.here hx rfl (hb hby at_39) rfl (l' := #[.val (.int p0), .val (.int p1), .val (.int ii), .val (.ref a_OK), .val (.int (1 : Int32)), .val (.int (1 : Int32)), .unset]) rfl) ?_
          show Go p.tables e below _ (T8.setTop (mkF m 41 #[.val (.int p0), .val (.int p1), .val (.int ii), .val (.ref a_OK), .val (.int (1 : Int32)), .val (.int (1 : Int32)), .unset] []))
          refine Go.by (fun _ => XS.iloadN X8.here hx rfl (hb hby at_41) rfl) ?_
          show Go p.tables e below _ (T8.setTop (mkF m 42 #[.val (.int p0), .val (.int p1), .val (.int ii), .val (.ref a_OK), .val (.int (1 : Int32)), .val (.int (1 : Int32)), .unset] [(.int p1)]))
          obtain ⟨v9, T9, h9, X9, q9, st9⟩ := X8.callS hx hZ (y := (⟨"com/example/preference_store/preferencestore/bench/Outcome", "ofStatus", "(I)Lcom/example/preference_store/preferencestore/bench/Outcome;"⟩ : MethodName)) hown (tw hw 13 rfl) (tw hw 14 rfl) (tw hw 5 rfl) (tw hw 15 rfl) (by decide) (rm3 l Z a0 hw [] p1 a_OK a_ERROR_STATUS a_BROKEN a_REFUSED h0 n0 Z0 S_OK E_OK S_ERROR_STATUS E_ERROR_STATUS S_BROKEN E_BROKEN S_REFUSED E_REFUSED F_ERROR_STATUS_ordinal F_OK_ordinal F_BROKEN_ordinal F_REFUSED_ordinal) (g := (mkF m 42 #[.val (.int p0), .val (.int p1), .val (.int ii), .val (.ref a_OK), .val (.int (1 : Int32)), .val (.int (1 : Int32)), .unset] [(.int p1)])) rfl (by rw [hml]; rfl) (argsL := [(.int p1)]) (rest := []) (lenOf pd0 rfl) rfl (hb hby at_42) rfl (by decide) (Nat.le_of_ble_eq_true rfl) (k' := 0) (n' := 0) rfl rfl (by decide) (by decide)
          refine Go.by st9 ?_
          rcases q9 with ⟨rfl | rfl, rfl⟩
          · skip
            show Go p.tables e below _ (T9.setTop (mkF m 45 #[.val (.int p0), .val (.int p1), .val (.int ii), .val (.ref a_OK), .val (.int (1 : Int32)), .val (.int (1 : Int32)), .unset] [(.ref a_OK)]))
            obtain ⟨v10, T10, h10, X10, q10, st10⟩ := X9.callV hx hZ (y := (⟨"com/example/preference_store/preferencestore/bench/Outcome", "answered", "()Z"⟩ : MethodName)) (z := (⟨"com/example/preference_store/preferencestore/bench/Outcome", "answered", "()Z"⟩ : MethodName)) hown (tw hw 7 rfl) (tw hw 8 rfl) (notFace_of_selects (args := #[]) (mvT hZ (tw hw 10 rfl))) (tw hw 10 rfl) (tw hw 9 rfl) (tw hw 5 rfl) (tw hw 11 rfl) (by decide) (rm2 l Z a0 hw [] a_OK a_OK a_ERROR_STATUS a_BROKEN a_REFUSED h0 n0 Z0 S_OK E_OK S_ERROR_STATUS E_ERROR_STATUS S_BROKEN E_BROKEN S_REFUSED E_REFUSED F_ERROR_STATUS_ordinal F_OK_ordinal F_BROKEN_ordinal F_REFUSED_ordinal) E_OK (g := (mkF m 45 #[.val (.int p0), .val (.int p1), .val (.int ii), .val (.ref a_OK), .val (.int (1 : Int32)), .val (.int (1 : Int32)), .unset] [(.ref a_OK)])) rfl (by rw [hml]; rfl) (argsL := []) (rest := []) (lenOf pd1 rfl) rfl (hb hby at_45) rfl (by decide) (Nat.le_of_ble_eq_true rfl) (k' := 0) (n' := 0) rfl rfl (by decide) (by decide)
            refine Go.by st10 ?_
            rcases q10 with ⟨⟨hP, rfl⟩ | ⟨hP, rfl⟩, rfl⟩
            · skip
              show Go p.tables e below _ (T10.setTop (mkF m 48 #[.val (.int p0), .val (.int p1), .val (.int ii), .val (.ref a_OK), .val (.int (1 : Int32)), .val (.int (1 : Int32)), .unset] [(.int (1 : Int32))]))
              refine Go.by (fun _ => XS.istore X10.here hx rfl (hb hby at_48) rfl (l' := #[.val (.int p0), .val (.int p1), .val (.int ii), .val (.ref a_OK), .val (.int (1 : Int32)), .val (.int (1 : Int32)), .val (.int (1 : Int32))]) rfl) ?_
              show Go p.tables e below _ (T10.setTop (mkF m 50 #[.val (.int p0), .val (.int p1), .val (.int ii), .val (.ref a_OK), .val (.int (1 : Int32)), .val (.int (1 : Int32)), .val (.int (1 : Int32))] []))
              refine Go.by (fun _ => XS.iload X10.here hx rfl (hb hby at_50) rfl) ?_
              show Go p.tables e below _ (T10.setTop (mkF m 52 #[.val (.int p0), .val (.int p1), .val (.int ii), .val (.ref a_OK), .val (.int (1 : Int32)), .val (.int (1 : Int32)), .val (.int (1 : Int32))] [(.int (1 : Int32))]))
              refine Go.by (fun _ => XS.ifNo X10.here hx rfl (hb hby at_52) rfl ((if0 _ _).trans (feq (by decide)).1)) ?_
              show Go p.tables e below _ (T10.setTop (mkF m 55 #[.val (.int p0), .val (.int p1), .val (.int ii), .val (.ref a_OK), .val (.int (1 : Int32)), .val (.int (1 : Int32)), .val (.int (1 : Int32))] []))
              refine Go.by (fun _ => XS.iload X10.here hx rfl (hb hby at_55) rfl) ?_
              show Go p.tables e below _ (T10.setTop (mkF m 57 #[.val (.int p0), .val (.int p1), .val (.int ii), .val (.ref a_OK), .val (.int (1 : Int32)), .val (.int (1 : Int32)), .val (.int (1 : Int32))] [(.int (1 : Int32))]))
              refine Go.by (fun _ => XS.ifNo X10.here hx rfl (hb hby at_57) rfl ((if0 _ _).trans (feq (by decide)).1)) ?_
              show Go p.tables e below _ (T10.setTop (mkF m 60 #[.val (.int p0), .val (.int p1), .val (.int ii), .val (.ref a_OK), .val (.int (1 : Int32)), .val (.int (1 : Int32)), .val (.int (1 : Int32))] []))
              refine Go.by (fun _ => XS.iconst X10.here hx rfl (hb hby at_60)) ?_
              show Go p.tables e below _ (T10.setTop (mkF m 61 #[.val (.int p0), .val (.int p1), .val (.int ii), .val (.ref a_OK), .val (.int (1 : Int32)), .val (.int (1 : Int32)), .val (.int (1 : Int32))] [(.int (1 : Int32))]))
              refine Go.by (fun _ => XS.goto X10.here hx rfl (pc0 := 61) (pc' := 65) rfl (hb hby at_61) (by decide) (by decide)) ?_
              show Go p.tables e below _ (T10.setTop (mkF m 65 #[.val (.int p0), .val (.int p1), .val (.int ii), .val (.ref a_OK), .val (.int (1 : Int32)), .val (.int (1 : Int32)), .val (.int (1 : Int32))] [(.int (1 : Int32))]))
              exact Go.retN X10 hx hlk (z' := (1 : Int32)) hret (by simp) (hb hby at_65) rfl (by decide) (by decide) rfl
            · skip
              show Go p.tables e below _ (T10.setTop (mkF m 48 #[.val (.int p0), .val (.int p1), .val (.int ii), .val (.ref a_OK), .val (.int (1 : Int32)), .val (.int (1 : Int32)), .unset] [(.int (0 : Int32))]))
              exfalso
              simp [nOE, nOB, nOR, nEB, nER, Ne.symm nOB, Ne.symm nOR, Ne.symm nEB, Ne.symm nER] at hP
          · skip
            show Go p.tables e below _ (T9.setTop (mkF m 45 #[.val (.int p0), .val (.int p1), .val (.int ii), .val (.ref a_OK), .val (.int (1 : Int32)), .val (.int (1 : Int32)), .unset] [(.ref a_ERROR_STATUS)]))
            obtain ⟨v11, T11, h11, X11, q11, st11⟩ := X9.callV hx hZ (y := (⟨"com/example/preference_store/preferencestore/bench/Outcome", "answered", "()Z"⟩ : MethodName)) (z := (⟨"com/example/preference_store/preferencestore/bench/Outcome", "answered", "()Z"⟩ : MethodName)) hown (tw hw 7 rfl) (tw hw 8 rfl) (notFace_of_selects (args := #[]) (mvT hZ (tw hw 10 rfl))) (tw hw 10 rfl) (tw hw 9 rfl) (tw hw 5 rfl) (tw hw 11 rfl) (by decide) (rm2 l Z a0 hw [] a_ERROR_STATUS a_OK a_ERROR_STATUS a_BROKEN a_REFUSED h0 n0 Z0 S_OK E_OK S_ERROR_STATUS E_ERROR_STATUS S_BROKEN E_BROKEN S_REFUSED E_REFUSED F_ERROR_STATUS_ordinal F_OK_ordinal F_BROKEN_ordinal F_REFUSED_ordinal) E_ERROR_STATUS (g := (mkF m 45 #[.val (.int p0), .val (.int p1), .val (.int ii), .val (.ref a_OK), .val (.int (1 : Int32)), .val (.int (1 : Int32)), .unset] [(.ref a_ERROR_STATUS)])) rfl (by rw [hml]; rfl) (argsL := []) (rest := []) (lenOf pd1 rfl) rfl (hb hby at_45) rfl (by decide) (Nat.le_of_ble_eq_true rfl) (k' := 0) (n' := 0) rfl rfl (by decide) (by decide)
            refine Go.by st11 ?_
            rcases q11 with ⟨⟨hP, rfl⟩ | ⟨hP, rfl⟩, rfl⟩
            · skip
              show Go p.tables e below _ (T11.setTop (mkF m 48 #[.val (.int p0), .val (.int p1), .val (.int ii), .val (.ref a_OK), .val (.int (1 : Int32)), .val (.int (1 : Int32)), .unset] [(.int (1 : Int32))]))
              refine Go.by (fun _ => XS.istore X11.here hx rfl (hb hby at_48) rfl (l' := #[.val (.int p0), .val (.int p1), .val (.int ii), .val (.ref a_OK), .val (.int (1 : Int32)), .val (.int (1 : Int32)), .val (.int (1 : Int32))]) rfl) ?_
              show Go p.tables e below _ (T11.setTop (mkF m 50 #[.val (.int p0), .val (.int p1), .val (.int ii), .val (.ref a_OK), .val (.int (1 : Int32)), .val (.int (1 : Int32)), .val (.int (1 : Int32))] []))
              refine Go.by (fun _ => XS.iload X11.here hx rfl (hb hby at_50) rfl) ?_
              show Go p.tables e below _ (T11.setTop (mkF m 52 #[.val (.int p0), .val (.int p1), .val (.int ii), .val (.ref a_OK), .val (.int (1 : Int32)), .val (.int (1 : Int32)), .val (.int (1 : Int32))] [(.int (1 : Int32))]))
              refine Go.by (fun _ => XS.ifNo X11.here hx rfl (hb hby at_52) rfl ((if0 _ _).trans (feq (by decide)).1)) ?_
              show Go p.tables e below _ (T11.setTop (mkF m 55 #[.val (.int p0), .val (.int p1), .val (.int ii), .val (.ref a_OK), .val (.int (1 : Int32)), .val (.int (1 : Int32)), .val (.int (1 : Int32))] []))
              refine Go.by (fun _ => XS.iload X11.here hx rfl (hb hby at_55) rfl) ?_
              show Go p.tables e below _ (T11.setTop (mkF m 57 #[.val (.int p0), .val (.int p1), .val (.int ii), .val (.ref a_OK), .val (.int (1 : Int32)), .val (.int (1 : Int32)), .val (.int (1 : Int32))] [(.int (1 : Int32))]))
              refine Go.by (fun _ => XS.ifNo X11.here hx rfl (hb hby at_57) rfl ((if0 _ _).trans (feq (by decide)).1)) ?_
              show Go p.tables e below _ (T11.setTop (mkF m 60 #[.val (.int p0), .val (.int p1), .val (.int ii), .val (.ref a_OK), .val (.int (1 : Int32)), .val (.int (1 : Int32)), .val (.int (1 : Int32))] []))
              refine Go.by (fun _ => XS.iconst X11.here hx rfl (hb hby at_60)) ?_
              show Go p.tables e below _ (T11.setTop (mkF m 61 #[.val (.int p0), .val (.int p1), .val (.int ii), .val (.ref a_OK), .val (.int (1 : Int32)), .val (.int (1 : Int32)), .val (.int (1 : Int32))] [(.int (1 : Int32))]))
              refine Go.by (fun _ => XS.goto X11.here hx rfl (pc0 := 61) (pc' := 65) rfl (hb hby at_61) (by decide) (by decide)) ?_
              show Go p.tables e below _ (T11.setTop (mkF m 65 #[.val (.int p0), .val (.int p1), .val (.int ii), .val (.ref a_OK), .val (.int (1 : Int32)), .val (.int (1 : Int32)), .val (.int (1 : Int32))] [(.int (1 : Int32))]))
              exact Go.retN X11 hx hlk (z' := (1 : Int32)) hret (by simp) (hb hby at_65) rfl (by decide) (by decide) rfl
            · skip
              show Go p.tables e below _ (T11.setTop (mkF m 48 #[.val (.int p0), .val (.int p1), .val (.int ii), .val (.ref a_OK), .val (.int (1 : Int32)), .val (.int (1 : Int32)), .unset] [(.int (0 : Int32))]))
              exfalso
              simp [nOE, nOB, nOR, nEB, nER, Ne.symm nOB, Ne.symm nOR, Ne.symm nEB, Ne.symm nER] at hP
        · skip
          show Go p.tables e below _ (T8.setTop (mkF m 29 #[.val (.int p0), .val (.int p1), .val (.int ii), .val (.ref a_OK), .val (.int (1 : Int32)), .unset, .unset] [(.int (0 : Int32))]))
          exfalso
          simp [nOE, nOB, nOR, nEB, nER, Ne.symm nOB, Ne.symm nOR, Ne.symm nEB, Ne.symm nER] at hP
      · skip
        refine Go.by (fun _ => XS.icmpYes X1.here hx rfl (pc0 := 15) (pc' := 22) rfl (hb hby at_15) rfl (feq hc15_7).2 (by decide) (by decide)) ?_
        show Go p.tables e below _ (T1.setTop (mkF m 22 #[.val (.int p0), .val (.int p1), .val (.int ii), .val (.ref a_OK), .unset, .unset, .unset] []))
        refine Go.by (fun _ => XS.iconst X1.here hx rfl (hb hby at_22)) ?_
        show Go p.tables e below _ (T1.setTop (mkF m 23 #[.val (.int p0), .val (.int p1), .val (.int ii), .val (.ref a_OK), .unset, .unset, .unset] [(.int (0 : Int32))]))
        refine Go.by (fun _ => XS.istore X1.here hx rfl (hb hby at_23) rfl (l' := #[.val (.int p0), .val (.int p1), .val (.int ii), .val (.ref a_OK), .val (.int (0 : Int32)), .unset, .unset]) rfl) ?_
        show Go p.tables e below _ (T1.setTop (mkF m 25 #[.val (.int p0), .val (.int p1), .val (.int ii), .val (.ref a_OK), .val (.int (0 : Int32)), .unset, .unset] []))
        refine Go.by (fun _ => XS.aloadN X1.here hx rfl (hb hby at_25) rfl rfl) ?_
        show Go p.tables e below _ (T1.setTop (mkF m 26 #[.val (.int p0), .val (.int p1), .val (.int ii), .val (.ref a_OK), .val (.int (0 : Int32)), .unset, .unset] [(.ref a_OK)]))
        obtain ⟨v12, T12, h12, X12, q12, st12⟩ := X1.callV hx hZ (y := (⟨"com/example/preference_store/preferencestore/bench/Outcome", "answered", "()Z"⟩ : MethodName)) (z := (⟨"com/example/preference_store/preferencestore/bench/Outcome", "answered", "()Z"⟩ : MethodName)) hown (tw hw 7 rfl) (tw hw 8 rfl) (notFace_of_selects (args := #[]) (mvT hZ (tw hw 10 rfl))) (tw hw 10 rfl) (tw hw 9 rfl) (tw hw 5 rfl) (tw hw 11 rfl) (by decide) (rm2 l Z a0 hw [] a_OK a_OK a_ERROR_STATUS a_BROKEN a_REFUSED h0 n0 Z0 S_OK E_OK S_ERROR_STATUS E_ERROR_STATUS S_BROKEN E_BROKEN S_REFUSED E_REFUSED F_ERROR_STATUS_ordinal F_OK_ordinal F_BROKEN_ordinal F_REFUSED_ordinal) E_OK (g := (mkF m 26 #[.val (.int p0), .val (.int p1), .val (.int ii), .val (.ref a_OK), .val (.int (0 : Int32)), .unset, .unset] [(.ref a_OK)])) rfl (by rw [hml]; rfl) (argsL := []) (rest := []) (lenOf pd1 rfl) rfl (hb hby at_26) rfl (by decide) (Nat.le_of_ble_eq_true rfl) (k' := 0) (n' := 0) rfl rfl (by decide) (by decide)
        refine Go.by st12 ?_
        rcases q12 with ⟨⟨hP, rfl⟩ | ⟨hP, rfl⟩, rfl⟩
        · skip
          show Go p.tables e below _ (T12.setTop (mkF m 29 #[.val (.int p0), .val (.int p1), .val (.int ii), .val (.ref a_OK), .val (.int (0 : Int32)), .unset, .unset] [(.int (1 : Int32))]))
          refine Go.by (fun _ => XS.iload X12.here hx rfl (hb hby at_29) rfl) ?_
          show Go p.tables e below _ (T12.setTop (mkF m 31 #[.val (.int p0), .val (.int p1), .val (.int ii), .val (.ref a_OK), .val (.int (0 : Int32)), .unset, .unset] [(.int (0 : Int32)), (.int (1 : Int32))]))
          refine Go.by (fun _ => XS.icmpYes X12.here hx rfl (pc0 := 31) (pc' := 38) rfl (hb hby at_31) rfl (feq (by decide)).2 (by decide) (by decide)) ?_
          show Go p.tables e below _ (T12.setTop (mkF m 38 #[.val (.int p0), .val (.int p1), .val (.int ii), .val (.ref a_OK), .val (.int (0 : Int32)), .unset, .unset] []))
          refine Go.by (fun _ => XS.iconst X12.here hx rfl (hb hby at_38)) ?_
          show Go p.tables e below _ (T12.setTop (mkF m 39 #[.val (.int p0), .val (.int p1), .val (.int ii), .val (.ref a_OK), .val (.int (0 : Int32)), .unset, .unset] [(.int (0 : Int32))]))
          refine Go.by (fun _ => XS.istore X12.here hx rfl (hb hby at_39) rfl (l' := #[.val (.int p0), .val (.int p1), .val (.int ii), .val (.ref a_OK), .val (.int (0 : Int32)), .val (.int (0 : Int32)), .unset]) rfl) ?_
          show Go p.tables e below _ (T12.setTop (mkF m 41 #[.val (.int p0), .val (.int p1), .val (.int ii), .val (.ref a_OK), .val (.int (0 : Int32)), .val (.int (0 : Int32)), .unset] []))
          refine Go.by (fun _ => XS.iloadN X12.here hx rfl (hb hby at_41) rfl) ?_
          show Go p.tables e below _ (T12.setTop (mkF m 42 #[.val (.int p0), .val (.int p1), .val (.int ii), .val (.ref a_OK), .val (.int (0 : Int32)), .val (.int (0 : Int32)), .unset] [(.int p1)]))
          obtain ⟨v13, T13, h13, X13, q13, st13⟩ := X12.callS hx hZ (y := (⟨"com/example/preference_store/preferencestore/bench/Outcome", "ofStatus", "(I)Lcom/example/preference_store/preferencestore/bench/Outcome;"⟩ : MethodName)) hown (tw hw 13 rfl) (tw hw 14 rfl) (tw hw 5 rfl) (tw hw 15 rfl) (by decide) (rm3 l Z a0 hw [] p1 a_OK a_ERROR_STATUS a_BROKEN a_REFUSED h0 n0 Z0 S_OK E_OK S_ERROR_STATUS E_ERROR_STATUS S_BROKEN E_BROKEN S_REFUSED E_REFUSED F_ERROR_STATUS_ordinal F_OK_ordinal F_BROKEN_ordinal F_REFUSED_ordinal) (g := (mkF m 42 #[.val (.int p0), .val (.int p1), .val (.int ii), .val (.ref a_OK), .val (.int (0 : Int32)), .val (.int (0 : Int32)), .unset] [(.int p1)])) rfl (by rw [hml]; rfl) (argsL := [(.int p1)]) (rest := []) (lenOf pd0 rfl) rfl (hb hby at_42) rfl (by decide) (Nat.le_of_ble_eq_true rfl) (k' := 0) (n' := 0) rfl rfl (by decide) (by decide)
          refine Go.by st13 ?_
          rcases q13 with ⟨rfl | rfl, rfl⟩
          · skip
            show Go p.tables e below _ (T13.setTop (mkF m 45 #[.val (.int p0), .val (.int p1), .val (.int ii), .val (.ref a_OK), .val (.int (0 : Int32)), .val (.int (0 : Int32)), .unset] [(.ref a_OK)]))
            obtain ⟨v14, T14, h14, X14, q14, st14⟩ := X13.callV hx hZ (y := (⟨"com/example/preference_store/preferencestore/bench/Outcome", "answered", "()Z"⟩ : MethodName)) (z := (⟨"com/example/preference_store/preferencestore/bench/Outcome", "answered", "()Z"⟩ : MethodName)) hown (tw hw 7 rfl) (tw hw 8 rfl) (notFace_of_selects (args := #[]) (mvT hZ (tw hw 10 rfl))) (tw hw 10 rfl) (tw hw 9 rfl) (tw hw 5 rfl) (tw hw 11 rfl) (by decide) (rm2 l Z a0 hw [] a_OK a_OK a_ERROR_STATUS a_BROKEN a_REFUSED h0 n0 Z0 S_OK E_OK S_ERROR_STATUS E_ERROR_STATUS S_BROKEN E_BROKEN S_REFUSED E_REFUSED F_ERROR_STATUS_ordinal F_OK_ordinal F_BROKEN_ordinal F_REFUSED_ordinal) E_OK (g := (mkF m 45 #[.val (.int p0), .val (.int p1), .val (.int ii), .val (.ref a_OK), .val (.int (0 : Int32)), .val (.int (0 : Int32)), .unset] [(.ref a_OK)])) rfl (by rw [hml]; rfl) (argsL := []) (rest := []) (lenOf pd1 rfl) rfl (hb hby at_45) rfl (by decide) (Nat.le_of_ble_eq_true rfl) (k' := 0) (n' := 0) rfl rfl (by decide) (by decide)
            refine Go.by st14 ?_
            rcases q14 with ⟨⟨hP, rfl⟩ | ⟨hP, rfl⟩, rfl⟩
            · skip
              show Go p.tables e below _ (T14.setTop (mkF m 48 #[.val (.int p0), .val (.int p1), .val (.int ii), .val (.ref a_OK), .val (.int (0 : Int32)), .val (.int (0 : Int32)), .unset] [(.int (1 : Int32))]))
              refine Go.by (fun _ => XS.istore X14.here hx rfl (hb hby at_48) rfl (l' := #[.val (.int p0), .val (.int p1), .val (.int ii), .val (.ref a_OK), .val (.int (0 : Int32)), .val (.int (0 : Int32)), .val (.int (1 : Int32))]) rfl) ?_
              show Go p.tables e below _ (T14.setTop (mkF m 50 #[.val (.int p0), .val (.int p1), .val (.int ii), .val (.ref a_OK), .val (.int (0 : Int32)), .val (.int (0 : Int32)), .val (.int (1 : Int32))] []))
              refine Go.by (fun _ => XS.iload X14.here hx rfl (hb hby at_50) rfl) ?_
              show Go p.tables e below _ (T14.setTop (mkF m 52 #[.val (.int p0), .val (.int p1), .val (.int ii), .val (.ref a_OK), .val (.int (0 : Int32)), .val (.int (0 : Int32)), .val (.int (1 : Int32))] [(.int (0 : Int32))]))
              refine Go.by (fun _ => XS.ifYes X14.here hx rfl (pc0 := 52) (pc' := 64) rfl (hb hby at_52) rfl ((if0 _ _).trans (teq (by decide)).1) (by decide) (by decide)) ?_
              show Go p.tables e below _ (T14.setTop (mkF m 64 #[.val (.int p0), .val (.int p1), .val (.int ii), .val (.ref a_OK), .val (.int (0 : Int32)), .val (.int (0 : Int32)), .val (.int (1 : Int32))] []))
              refine Go.by (fun _ => XS.iconst X14.here hx rfl (hb hby at_64)) ?_
              show Go p.tables e below _ (T14.setTop (mkF m 65 #[.val (.int p0), .val (.int p1), .val (.int ii), .val (.ref a_OK), .val (.int (0 : Int32)), .val (.int (0 : Int32)), .val (.int (1 : Int32))] [(.int (0 : Int32))]))
              refine Go.retN X14 hx hlk (z' := (0 : Int32)) hret (by simp) (hb hby at_65) rfl (by decide) (by decide) ?_
              exfalso
              simp only [Int32.lt_iff_toInt_lt, ← Int32.toInt_inj, Int32.reduceToInt] at h1 hc10_2 hc15_7
              omega
            · skip
              show Go p.tables e below _ (T14.setTop (mkF m 48 #[.val (.int p0), .val (.int p1), .val (.int ii), .val (.ref a_OK), .val (.int (0 : Int32)), .val (.int (0 : Int32)), .unset] [(.int (0 : Int32))]))
              exfalso
              simp [nOE, nOB, nOR, nEB, nER, Ne.symm nOB, Ne.symm nOR, Ne.symm nEB, Ne.symm nER] at hP
          · skip
            show Go p.tables e below _ (T13.setTop (mkF m 45 #[.val (.int p0), .val (.int p1), .val (.int ii), .val (.ref a_OK), .val (.int (0 : Int32)), .val (.int (0 : Int32)), .unset] [(.ref a_ERROR_STATUS)]))
            obtain ⟨v15, T15, h15, X15, q15, st15⟩ := X13.callV hx hZ (y := (⟨"com/example/preference_store/preferencestore/bench/Outcome", "answered", "()Z"⟩ : MethodName)) (z := (⟨"com/example/preference_store/preferencestore/bench/Outcome", "answered", "()Z"⟩ : MethodName)) hown (tw hw 7 rfl) (tw hw 8 rfl) (notFace_of_selects (args := #[]) (mvT hZ (tw hw 10 rfl))) (tw hw 10 rfl) (tw hw 9 rfl) (tw hw 5 rfl) (tw hw 11 rfl) (by decide) (rm2 l Z a0 hw [] a_ERROR_STATUS a_OK a_ERROR_STATUS a_BROKEN a_REFUSED h0 n0 Z0 S_OK E_OK S_ERROR_STATUS E_ERROR_STATUS S_BROKEN E_BROKEN S_REFUSED E_REFUSED F_ERROR_STATUS_ordinal F_OK_ordinal F_BROKEN_ordinal F_REFUSED_ordinal) E_ERROR_STATUS (g := (mkF m 45 #[.val (.int p0), .val (.int p1), .val (.int ii), .val (.ref a_OK), .val (.int (0 : Int32)), .val (.int (0 : Int32)), .unset] [(.ref a_ERROR_STATUS)])) rfl (by rw [hml]; rfl) (argsL := []) (rest := []) (lenOf pd1 rfl) rfl (hb hby at_45) rfl (by decide) (Nat.le_of_ble_eq_true rfl) (k' := 0) (n' := 0) rfl rfl (by decide) (by decide)
            refine Go.by st15 ?_
            rcases q15 with ⟨⟨hP, rfl⟩ | ⟨hP, rfl⟩, rfl⟩
            · skip
              show Go p.tables e below _ (T15.setTop (mkF m 48 #[.val (.int p0), .val (.int p1), .val (.int ii), .val (.ref a_OK), .val (.int (0 : Int32)), .val (.int (0 : Int32)), .unset] [(.int (1 : Int32))]))
              refine Go.by (fun _ => XS.istore X15.here hx rfl (hb hby at_48) rfl (l' := #[.val (.int p0), .val (.int p1), .val (.int ii), .val (.ref a_OK), .val (.int (0 : Int32)), .val (.int (0 : Int32)), .val (.int (1 : Int32))]) rfl) ?_
              show Go p.tables e below _ (T15.setTop (mkF m 50 #[.val (.int p0), .val (.int p1), .val (.int ii), .val (.ref a_OK), .val (.int (0 : Int32)), .val (.int (0 : Int32)), .val (.int (1 : Int32))] []))
              refine Go.by (fun _ => XS.iload X15.here hx rfl (hb hby at_50) rfl) ?_
              show Go p.tables e below _ (T15.setTop (mkF m 52 #[.val (.int p0), .val (.int p1), .val (.int ii), .val (.ref a_OK), .val (.int (0 : Int32)), .val (.int (0 : Int32)), .val (.int (1 : Int32))] [(.int (0 : Int32))]))
              refine Go.by (fun _ => XS.ifYes X15.here hx rfl (pc0 := 52) (pc' := 64) rfl (hb hby at_52) rfl ((if0 _ _).trans (teq (by decide)).1) (by decide) (by decide)) ?_
              show Go p.tables e below _ (T15.setTop (mkF m 64 #[.val (.int p0), .val (.int p1), .val (.int ii), .val (.ref a_OK), .val (.int (0 : Int32)), .val (.int (0 : Int32)), .val (.int (1 : Int32))] []))
              refine Go.by (fun _ => XS.iconst X15.here hx rfl (hb hby at_64)) ?_
              show Go p.tables e below _ (T15.setTop (mkF m 65 #[.val (.int p0), .val (.int p1), .val (.int ii), .val (.ref a_OK), .val (.int (0 : Int32)), .val (.int (0 : Int32)), .val (.int (1 : Int32))] [(.int (0 : Int32))]))
              refine Go.retN X15 hx hlk (z' := (0 : Int32)) hret (by simp) (hb hby at_65) rfl (by decide) (by decide) ?_
              exfalso
              simp only [Int32.lt_iff_toInt_lt, ← Int32.toInt_inj, Int32.reduceToInt] at h1 hc10_2 hc15_7
              omega
            · skip
              show Go p.tables e below _ (T15.setTop (mkF m 48 #[.val (.int p0), .val (.int p1), .val (.int ii), .val (.ref a_OK), .val (.int (0 : Int32)), .val (.int (0 : Int32)), .unset] [(.int (0 : Int32))]))
              exfalso
              simp [nOE, nOB, nOR, nEB, nER, Ne.symm nOB, Ne.symm nOR, Ne.symm nEB, Ne.symm nER] at hP
        · skip
          show Go p.tables e below _ (T12.setTop (mkF m 29 #[.val (.int p0), .val (.int p1), .val (.int ii), .val (.ref a_OK), .val (.int (0 : Int32)), .unset, .unset] [(.int (0 : Int32))]))
          exfalso
          simp [nOE, nOB, nOR, nEB, nER, Ne.symm nOB, Ne.symm nOR, Ne.symm nEB, Ne.symm nER] at hP
  · skip
    show Go p.tables e below _ (T1.setTop (mkF m 8 #[.val (.int p0), .val (.int p1), .val (.int ii), .unset, .unset, .unset, .unset] [(.ref a_ERROR_STATUS)]))
    refine Go.by (fun _ => XS.astoreN X1.here hx rfl (hb hby at_8) rfl rfl (l' := #[.val (.int p0), .val (.int p1), .val (.int ii), .val (.ref a_ERROR_STATUS), .unset, .unset, .unset]) rfl) ?_
    show Go p.tables e below _ (T1.setTop (mkF m 9 #[.val (.int p0), .val (.int p1), .val (.int ii), .val (.ref a_ERROR_STATUS), .unset, .unset, .unset] []))
    refine Go.by (fun _ => XS.iloadN X1.here hx rfl (hb hby at_9) rfl) ?_
    show Go p.tables e below _ (T1.setTop (mkF m 10 #[.val (.int p0), .val (.int p1), .val (.int ii), .val (.ref a_ERROR_STATUS), .unset, .unset, .unset] [(.int ii)]))
    by_cases hc10_16 : ii = (0 : Int32)
    · skip
      refine Go.by (fun _ => XS.ifYes X1.here hx rfl (pc0 := 10) (pc' := 18) rfl (hb hby at_10) rfl ((if0 _ _).trans (teq hc10_16).1) (by decide) (by decide)) ?_
      show Go p.tables e below _ (T1.setTop (mkF m 18 #[.val (.int p0), .val (.int p1), .val (.int ii), .val (.ref a_ERROR_STATUS), .unset, .unset, .unset] []))
      refine Go.by (fun _ => XS.iconst X1.here hx rfl (hb hby at_18)) ?_
      show Go p.tables e below _ (T1.setTop (mkF m 19 #[.val (.int p0), .val (.int p1), .val (.int ii), .val (.ref a_ERROR_STATUS), .unset, .unset, .unset] [(.int (1 : Int32))]))
      refine Go.by (fun _ => XS.goto X1.here hx rfl (pc0 := 19) (pc' := 23) rfl (hb hby at_19) (by decide) (by decide)) ?_
      show Go p.tables e below _ (T1.setTop (mkF m 23 #[.val (.int p0), .val (.int p1), .val (.int ii), .val (.ref a_ERROR_STATUS), .unset, .unset, .unset] [(.int (1 : Int32))]))
      refine Go.by (fun _ => XS.istore X1.here hx rfl (hb hby at_23) rfl (l' := #[.val (.int p0), .val (.int p1), .val (.int ii), .val (.ref a_ERROR_STATUS), .val (.int (1 : Int32)), .unset, .unset]) rfl) ?_
      show Go p.tables e below _ (T1.setTop (mkF m 25 #[.val (.int p0), .val (.int p1), .val (.int ii), .val (.ref a_ERROR_STATUS), .val (.int (1 : Int32)), .unset, .unset] []))
      refine Go.by (fun _ => XS.aloadN X1.here hx rfl (hb hby at_25) rfl rfl) ?_
      show Go p.tables e below _ (T1.setTop (mkF m 26 #[.val (.int p0), .val (.int p1), .val (.int ii), .val (.ref a_ERROR_STATUS), .val (.int (1 : Int32)), .unset, .unset] [(.ref a_ERROR_STATUS)]))
      obtain ⟨v17, T17, h17, X17, q17, st17⟩ := X1.callV hx hZ (y := (⟨"com/example/preference_store/preferencestore/bench/Outcome", "answered", "()Z"⟩ : MethodName)) (z := (⟨"com/example/preference_store/preferencestore/bench/Outcome", "answered", "()Z"⟩ : MethodName)) hown (tw hw 7 rfl) (tw hw 8 rfl) (notFace_of_selects (args := #[]) (mvT hZ (tw hw 10 rfl))) (tw hw 10 rfl) (tw hw 9 rfl) (tw hw 5 rfl) (tw hw 11 rfl) (by decide) (rm2 l Z a0 hw [] a_ERROR_STATUS a_OK a_ERROR_STATUS a_BROKEN a_REFUSED h0 n0 Z0 S_OK E_OK S_ERROR_STATUS E_ERROR_STATUS S_BROKEN E_BROKEN S_REFUSED E_REFUSED F_ERROR_STATUS_ordinal F_OK_ordinal F_BROKEN_ordinal F_REFUSED_ordinal) E_ERROR_STATUS (g := (mkF m 26 #[.val (.int p0), .val (.int p1), .val (.int ii), .val (.ref a_ERROR_STATUS), .val (.int (1 : Int32)), .unset, .unset] [(.ref a_ERROR_STATUS)])) rfl (by rw [hml]; rfl) (argsL := []) (rest := []) (lenOf pd1 rfl) rfl (hb hby at_26) rfl (by decide) (Nat.le_of_ble_eq_true rfl) (k' := 0) (n' := 0) rfl rfl (by decide) (by decide)
      refine Go.by st17 ?_
      rcases q17 with ⟨⟨hP, rfl⟩ | ⟨hP, rfl⟩, rfl⟩
      · skip
        show Go p.tables e below _ (T17.setTop (mkF m 29 #[.val (.int p0), .val (.int p1), .val (.int ii), .val (.ref a_ERROR_STATUS), .val (.int (1 : Int32)), .unset, .unset] [(.int (1 : Int32))]))
        refine Go.by (fun _ => XS.iload X17.here hx rfl (hb hby at_29) rfl) ?_
        show Go p.tables e below _ (T17.setTop (mkF m 31 #[.val (.int p0), .val (.int p1), .val (.int ii), .val (.ref a_ERROR_STATUS), .val (.int (1 : Int32)), .unset, .unset] [(.int (1 : Int32)), (.int (1 : Int32))]))
        refine Go.by (fun _ => XS.icmpNo X17.here hx rfl (hb hby at_31) rfl (teq (by decide)).2) ?_
        show Go p.tables e below _ (T17.setTop (mkF m 34 #[.val (.int p0), .val (.int p1), .val (.int ii), .val (.ref a_ERROR_STATUS), .val (.int (1 : Int32)), .unset, .unset] []))
        refine Go.by (fun _ => XS.iconst X17.here hx rfl (hb hby at_34)) ?_
        show Go p.tables e below _ (T17.setTop (mkF m 35 #[.val (.int p0), .val (.int p1), .val (.int ii), .val (.ref a_ERROR_STATUS), .val (.int (1 : Int32)), .unset, .unset] [(.int (1 : Int32))]))
        refine Go.by (fun _ => XS.goto X17.here hx rfl (pc0 := 35) (pc' := 39) rfl (hb hby at_35) (by decide) (by decide)) ?_
        show Go p.tables e below _ (T17.setTop (mkF m 39 #[.val (.int p0), .val (.int p1), .val (.int ii), .val (.ref a_ERROR_STATUS), .val (.int (1 : Int32)), .unset, .unset] [(.int (1 : Int32))]))
        refine Go.by (fun _ => XS.istore X17.here hx rfl (hb hby at_39) rfl (l' := #[.val (.int p0), .val (.int p1), .val (.int ii), .val (.ref a_ERROR_STATUS), .val (.int (1 : Int32)), .val (.int (1 : Int32)), .unset]) rfl) ?_
        show Go p.tables e below _ (T17.setTop (mkF m 41 #[.val (.int p0), .val (.int p1), .val (.int ii), .val (.ref a_ERROR_STATUS), .val (.int (1 : Int32)), .val (.int (1 : Int32)), .unset] []))
        refine Go.by (fun _ => XS.iloadN X17.here hx rfl (hb hby at_41) rfl) ?_
        show Go p.tables e below _ (T17.setTop (mkF m 42 #[.val (.int p0), .val (.int p1), .val (.int ii), .val (.ref a_ERROR_STATUS), .val (.int (1 : Int32)), .val (.int (1 : Int32)), .unset] [(.int p1)]))
        obtain ⟨v18, T18, h18, X18, q18, st18⟩ := X17.callS hx hZ (y := (⟨"com/example/preference_store/preferencestore/bench/Outcome", "ofStatus", "(I)Lcom/example/preference_store/preferencestore/bench/Outcome;"⟩ : MethodName)) hown (tw hw 13 rfl) (tw hw 14 rfl) (tw hw 5 rfl) (tw hw 15 rfl) (by decide) (rm3 l Z a0 hw [] p1 a_OK a_ERROR_STATUS a_BROKEN a_REFUSED h0 n0 Z0 S_OK E_OK S_ERROR_STATUS E_ERROR_STATUS S_BROKEN E_BROKEN S_REFUSED E_REFUSED F_ERROR_STATUS_ordinal F_OK_ordinal F_BROKEN_ordinal F_REFUSED_ordinal) (g := (mkF m 42 #[.val (.int p0), .val (.int p1), .val (.int ii), .val (.ref a_ERROR_STATUS), .val (.int (1 : Int32)), .val (.int (1 : Int32)), .unset] [(.int p1)])) rfl (by rw [hml]; rfl) (argsL := [(.int p1)]) (rest := []) (lenOf pd0 rfl) rfl (hb hby at_42) rfl (by decide) (Nat.le_of_ble_eq_true rfl) (k' := 0) (n' := 0) rfl rfl (by decide) (by decide)
        refine Go.by st18 ?_
        rcases q18 with ⟨rfl | rfl, rfl⟩
        · skip
          show Go p.tables e below _ (T18.setTop (mkF m 45 #[.val (.int p0), .val (.int p1), .val (.int ii), .val (.ref a_ERROR_STATUS), .val (.int (1 : Int32)), .val (.int (1 : Int32)), .unset] [(.ref a_OK)]))
          obtain ⟨v19, T19, h19, X19, q19, st19⟩ := X18.callV hx hZ (y := (⟨"com/example/preference_store/preferencestore/bench/Outcome", "answered", "()Z"⟩ : MethodName)) (z := (⟨"com/example/preference_store/preferencestore/bench/Outcome", "answered", "()Z"⟩ : MethodName)) hown (tw hw 7 rfl) (tw hw 8 rfl) (notFace_of_selects (args := #[]) (mvT hZ (tw hw 10 rfl))) (tw hw 10 rfl) (tw hw 9 rfl) (tw hw 5 rfl) (tw hw 11 rfl) (by decide) (rm2 l Z a0 hw [] a_OK a_OK a_ERROR_STATUS a_BROKEN a_REFUSED h0 n0 Z0 S_OK E_OK S_ERROR_STATUS E_ERROR_STATUS S_BROKEN E_BROKEN S_REFUSED E_REFUSED F_ERROR_STATUS_ordinal F_OK_ordinal F_BROKEN_ordinal F_REFUSED_ordinal) E_OK (g := (mkF m 45 #[.val (.int p0), .val (.int p1), .val (.int ii), .val (.ref a_ERROR_STATUS), .val (.int (1 : Int32)), .val (.int (1 : Int32)), .unset] [(.ref a_OK)])) rfl (by rw [hml]; rfl) (argsL := []) (rest := []) (lenOf pd1 rfl) rfl (hb hby at_45) rfl (by decide) (Nat.le_of_ble_eq_true rfl) (k' := 0) (n' := 0) rfl rfl (by decide) (by decide)
          refine Go.by st19 ?_
          rcases q19 with ⟨⟨hP, rfl⟩ | ⟨hP, rfl⟩, rfl⟩
          · skip
            show Go p.tables e below _ (T19.setTop (mkF m 48 #[.val (.int p0), .val (.int p1), .val (.int ii), .val (.ref a_ERROR_STATUS), .val (.int (1 : Int32)), .val (.int (1 : Int32)), .unset] [(.int (1 : Int32))]))
            refine Go.by (fun _ => XS.istore X19.here hx rfl (hb hby at_48) rfl (l' := #[.val (.int p0), .val (.int p1), .val (.int ii), .val (.ref a_ERROR_STATUS), .val (.int (1 : Int32)), .val (.int (1 : Int32)), .val (.int (1 : Int32))]) rfl) ?_
            show Go p.tables e below _ (T19.setTop (mkF m 50 #[.val (.int p0), .val (.int p1), .val (.int ii), .val (.ref a_ERROR_STATUS), .val (.int (1 : Int32)), .val (.int (1 : Int32)), .val (.int (1 : Int32))] []))
            refine Go.by (fun _ => XS.iload X19.here hx rfl (hb hby at_50) rfl) ?_
            show Go p.tables e below _ (T19.setTop (mkF m 52 #[.val (.int p0), .val (.int p1), .val (.int ii), .val (.ref a_ERROR_STATUS), .val (.int (1 : Int32)), .val (.int (1 : Int32)), .val (.int (1 : Int32))] [(.int (1 : Int32))]))
            refine Go.by (fun _ => XS.ifNo X19.here hx rfl (hb hby at_52) rfl ((if0 _ _).trans (feq (by decide)).1)) ?_
            show Go p.tables e below _ (T19.setTop (mkF m 55 #[.val (.int p0), .val (.int p1), .val (.int ii), .val (.ref a_ERROR_STATUS), .val (.int (1 : Int32)), .val (.int (1 : Int32)), .val (.int (1 : Int32))] []))
            refine Go.by (fun _ => XS.iload X19.here hx rfl (hb hby at_55) rfl) ?_
            show Go p.tables e below _ (T19.setTop (mkF m 57 #[.val (.int p0), .val (.int p1), .val (.int ii), .val (.ref a_ERROR_STATUS), .val (.int (1 : Int32)), .val (.int (1 : Int32)), .val (.int (1 : Int32))] [(.int (1 : Int32))]))
            refine Go.by (fun _ => XS.ifNo X19.here hx rfl (hb hby at_57) rfl ((if0 _ _).trans (feq (by decide)).1)) ?_
            show Go p.tables e below _ (T19.setTop (mkF m 60 #[.val (.int p0), .val (.int p1), .val (.int ii), .val (.ref a_ERROR_STATUS), .val (.int (1 : Int32)), .val (.int (1 : Int32)), .val (.int (1 : Int32))] []))
            refine Go.by (fun _ => XS.iconst X19.here hx rfl (hb hby at_60)) ?_
            show Go p.tables e below _ (T19.setTop (mkF m 61 #[.val (.int p0), .val (.int p1), .val (.int ii), .val (.ref a_ERROR_STATUS), .val (.int (1 : Int32)), .val (.int (1 : Int32)), .val (.int (1 : Int32))] [(.int (1 : Int32))]))
            refine Go.by (fun _ => XS.goto X19.here hx rfl (pc0 := 61) (pc' := 65) rfl (hb hby at_61) (by decide) (by decide)) ?_
            show Go p.tables e below _ (T19.setTop (mkF m 65 #[.val (.int p0), .val (.int p1), .val (.int ii), .val (.ref a_ERROR_STATUS), .val (.int (1 : Int32)), .val (.int (1 : Int32)), .val (.int (1 : Int32))] [(.int (1 : Int32))]))
            exact Go.retN X19 hx hlk (z' := (1 : Int32)) hret (by simp) (hb hby at_65) rfl (by decide) (by decide) rfl
          · skip
            show Go p.tables e below _ (T19.setTop (mkF m 48 #[.val (.int p0), .val (.int p1), .val (.int ii), .val (.ref a_ERROR_STATUS), .val (.int (1 : Int32)), .val (.int (1 : Int32)), .unset] [(.int (0 : Int32))]))
            exfalso
            simp [nOE, nOB, nOR, nEB, nER, Ne.symm nOB, Ne.symm nOR, Ne.symm nEB, Ne.symm nER] at hP
        · skip
          show Go p.tables e below _ (T18.setTop (mkF m 45 #[.val (.int p0), .val (.int p1), .val (.int ii), .val (.ref a_ERROR_STATUS), .val (.int (1 : Int32)), .val (.int (1 : Int32)), .unset] [(.ref a_ERROR_STATUS)]))
          obtain ⟨v20, T20, h20, X20, q20, st20⟩ := X18.callV hx hZ (y := (⟨"com/example/preference_store/preferencestore/bench/Outcome", "answered", "()Z"⟩ : MethodName)) (z := (⟨"com/example/preference_store/preferencestore/bench/Outcome", "answered", "()Z"⟩ : MethodName)) hown (tw hw 7 rfl) (tw hw 8 rfl) (notFace_of_selects (args := #[]) (mvT hZ (tw hw 10 rfl))) (tw hw 10 rfl) (tw hw 9 rfl) (tw hw 5 rfl) (tw hw 11 rfl) (by decide) (rm2 l Z a0 hw [] a_ERROR_STATUS a_OK a_ERROR_STATUS a_BROKEN a_REFUSED h0 n0 Z0 S_OK E_OK S_ERROR_STATUS E_ERROR_STATUS S_BROKEN E_BROKEN S_REFUSED E_REFUSED F_ERROR_STATUS_ordinal F_OK_ordinal F_BROKEN_ordinal F_REFUSED_ordinal) E_ERROR_STATUS (g := (mkF m 45 #[.val (.int p0), .val (.int p1), .val (.int ii), .val (.ref a_ERROR_STATUS), .val (.int (1 : Int32)), .val (.int (1 : Int32)), .unset] [(.ref a_ERROR_STATUS)])) rfl (by rw [hml]; rfl) (argsL := []) (rest := []) (lenOf pd1 rfl) rfl (hb hby at_45) rfl (by decide) (Nat.le_of_ble_eq_true rfl) (k' := 0) (n' := 0) rfl rfl (by decide) (by decide)
          refine Go.by st20 ?_
          rcases q20 with ⟨⟨hP, rfl⟩ | ⟨hP, rfl⟩, rfl⟩
          · skip
            show Go p.tables e below _ (T20.setTop (mkF m 48 #[.val (.int p0), .val (.int p1), .val (.int ii), .val (.ref a_ERROR_STATUS), .val (.int (1 : Int32)), .val (.int (1 : Int32)), .unset] [(.int (1 : Int32))]))
            refine Go.by (fun _ => XS.istore X20.here hx rfl (hb hby at_48) rfl (l' := #[.val (.int p0), .val (.int p1), .val (.int ii), .val (.ref a_ERROR_STATUS), .val (.int (1 : Int32)), .val (.int (1 : Int32)), .val (.int (1 : Int32))]) rfl) ?_
            show Go p.tables e below _ (T20.setTop (mkF m 50 #[.val (.int p0), .val (.int p1), .val (.int ii), .val (.ref a_ERROR_STATUS), .val (.int (1 : Int32)), .val (.int (1 : Int32)), .val (.int (1 : Int32))] []))
            refine Go.by (fun _ => XS.iload X20.here hx rfl (hb hby at_50) rfl) ?_
            show Go p.tables e below _ (T20.setTop (mkF m 52 #[.val (.int p0), .val (.int p1), .val (.int ii), .val (.ref a_ERROR_STATUS), .val (.int (1 : Int32)), .val (.int (1 : Int32)), .val (.int (1 : Int32))] [(.int (1 : Int32))]))
            refine Go.by (fun _ => XS.ifNo X20.here hx rfl (hb hby at_52) rfl ((if0 _ _).trans (feq (by decide)).1)) ?_
            show Go p.tables e below _ (T20.setTop (mkF m 55 #[.val (.int p0), .val (.int p1), .val (.int ii), .val (.ref a_ERROR_STATUS), .val (.int (1 : Int32)), .val (.int (1 : Int32)), .val (.int (1 : Int32))] []))
            refine Go.by (fun _ => XS.iload X20.here hx rfl (hb hby at_55) rfl) ?_
            show Go p.tables e below _ (T20.setTop (mkF m 57 #[.val (.int p0), .val (.int p1), .val (.int ii), .val (.ref a_ERROR_STATUS), .val (.int (1 : Int32)), .val (.int (1 : Int32)), .val (.int (1 : Int32))] [(.int (1 : Int32))]))
            refine Go.by (fun _ => XS.ifNo X20.here hx rfl (hb hby at_57) rfl ((if0 _ _).trans (feq (by decide)).1)) ?_
            show Go p.tables e below _ (T20.setTop (mkF m 60 #[.val (.int p0), .val (.int p1), .val (.int ii), .val (.ref a_ERROR_STATUS), .val (.int (1 : Int32)), .val (.int (1 : Int32)), .val (.int (1 : Int32))] []))
            refine Go.by (fun _ => XS.iconst X20.here hx rfl (hb hby at_60)) ?_
            show Go p.tables e below _ (T20.setTop (mkF m 61 #[.val (.int p0), .val (.int p1), .val (.int ii), .val (.ref a_ERROR_STATUS), .val (.int (1 : Int32)), .val (.int (1 : Int32)), .val (.int (1 : Int32))] [(.int (1 : Int32))]))
            refine Go.by (fun _ => XS.goto X20.here hx rfl (pc0 := 61) (pc' := 65) rfl (hb hby at_61) (by decide) (by decide)) ?_
            show Go p.tables e below _ (T20.setTop (mkF m 65 #[.val (.int p0), .val (.int p1), .val (.int ii), .val (.ref a_ERROR_STATUS), .val (.int (1 : Int32)), .val (.int (1 : Int32)), .val (.int (1 : Int32))] [(.int (1 : Int32))]))
            exact Go.retN X20 hx hlk (z' := (1 : Int32)) hret (by simp) (hb hby at_65) rfl (by decide) (by decide) rfl
          · skip
            show Go p.tables e below _ (T20.setTop (mkF m 48 #[.val (.int p0), .val (.int p1), .val (.int ii), .val (.ref a_ERROR_STATUS), .val (.int (1 : Int32)), .val (.int (1 : Int32)), .unset] [(.int (0 : Int32))]))
            exfalso
            simp [nOE, nOB, nOR, nEB, nER, Ne.symm nOB, Ne.symm nOR, Ne.symm nEB, Ne.symm nER] at hP
      · skip
        show Go p.tables e below _ (T17.setTop (mkF m 29 #[.val (.int p0), .val (.int p1), .val (.int ii), .val (.ref a_ERROR_STATUS), .val (.int (1 : Int32)), .unset, .unset] [(.int (0 : Int32))]))
        exfalso
        simp [nOE, nOB, nOR, nEB, nER, Ne.symm nOB, Ne.symm nOR, Ne.symm nEB, Ne.symm nER] at hP
    · skip
      refine Go.by (fun _ => XS.ifNo X1.here hx rfl (hb hby at_10) rfl ((if0 _ _).trans (feq hc10_16).1)) ?_
      show Go p.tables e below _ (T1.setTop (mkF m 13 #[.val (.int p0), .val (.int p1), .val (.int ii), .val (.ref a_ERROR_STATUS), .unset, .unset, .unset] []))
      refine Go.by (fun _ => XS.iloadN X1.here hx rfl (hb hby at_13) rfl) ?_
      show Go p.tables e below _ (T1.setTop (mkF m 14 #[.val (.int p0), .val (.int p1), .val (.int ii), .val (.ref a_ERROR_STATUS), .unset, .unset, .unset] [(.int ii)]))
      refine Go.by (fun _ => XS.iconst X1.here hx rfl (hb hby at_14)) ?_
      show Go p.tables e below _ (T1.setTop (mkF m 15 #[.val (.int p0), .val (.int p1), .val (.int ii), .val (.ref a_ERROR_STATUS), .unset, .unset, .unset] [(.int (1 : Int32)), (.int ii)]))
      by_cases hc15_21 : ii = (1 : Int32)
      · skip
        refine Go.by (fun _ => XS.icmpNo X1.here hx rfl (hb hby at_15) rfl (teq hc15_21).2) ?_
        show Go p.tables e below _ (T1.setTop (mkF m 18 #[.val (.int p0), .val (.int p1), .val (.int ii), .val (.ref a_ERROR_STATUS), .unset, .unset, .unset] []))
        refine Go.by (fun _ => XS.iconst X1.here hx rfl (hb hby at_18)) ?_
        show Go p.tables e below _ (T1.setTop (mkF m 19 #[.val (.int p0), .val (.int p1), .val (.int ii), .val (.ref a_ERROR_STATUS), .unset, .unset, .unset] [(.int (1 : Int32))]))
        refine Go.by (fun _ => XS.goto X1.here hx rfl (pc0 := 19) (pc' := 23) rfl (hb hby at_19) (by decide) (by decide)) ?_
        show Go p.tables e below _ (T1.setTop (mkF m 23 #[.val (.int p0), .val (.int p1), .val (.int ii), .val (.ref a_ERROR_STATUS), .unset, .unset, .unset] [(.int (1 : Int32))]))
        refine Go.by (fun _ => XS.istore X1.here hx rfl (hb hby at_23) rfl (l' := #[.val (.int p0), .val (.int p1), .val (.int ii), .val (.ref a_ERROR_STATUS), .val (.int (1 : Int32)), .unset, .unset]) rfl) ?_
        show Go p.tables e below _ (T1.setTop (mkF m 25 #[.val (.int p0), .val (.int p1), .val (.int ii), .val (.ref a_ERROR_STATUS), .val (.int (1 : Int32)), .unset, .unset] []))
        refine Go.by (fun _ => XS.aloadN X1.here hx rfl (hb hby at_25) rfl rfl) ?_
        show Go p.tables e below _ (T1.setTop (mkF m 26 #[.val (.int p0), .val (.int p1), .val (.int ii), .val (.ref a_ERROR_STATUS), .val (.int (1 : Int32)), .unset, .unset] [(.ref a_ERROR_STATUS)]))
        obtain ⟨v22, T22, h22, X22, q22, st22⟩ := X1.callV hx hZ (y := (⟨"com/example/preference_store/preferencestore/bench/Outcome", "answered", "()Z"⟩ : MethodName)) (z := (⟨"com/example/preference_store/preferencestore/bench/Outcome", "answered", "()Z"⟩ : MethodName)) hown (tw hw 7 rfl) (tw hw 8 rfl) (notFace_of_selects (args := #[]) (mvT hZ (tw hw 10 rfl))) (tw hw 10 rfl) (tw hw 9 rfl) (tw hw 5 rfl) (tw hw 11 rfl) (by decide) (rm2 l Z a0 hw [] a_ERROR_STATUS a_OK a_ERROR_STATUS a_BROKEN a_REFUSED h0 n0 Z0 S_OK E_OK S_ERROR_STATUS E_ERROR_STATUS S_BROKEN E_BROKEN S_REFUSED E_REFUSED F_ERROR_STATUS_ordinal F_OK_ordinal F_BROKEN_ordinal F_REFUSED_ordinal) E_ERROR_STATUS (g := (mkF m 26 #[.val (.int p0), .val (.int p1), .val (.int ii), .val (.ref a_ERROR_STATUS), .val (.int (1 : Int32)), .unset, .unset] [(.ref a_ERROR_STATUS)])) rfl (by rw [hml]; rfl) (argsL := []) (rest := []) (lenOf pd1 rfl) rfl (hb hby at_26) rfl (by decide) (Nat.le_of_ble_eq_true rfl) (k' := 0) (n' := 0) rfl rfl (by decide) (by decide)
        refine Go.by st22 ?_
        rcases q22 with ⟨⟨hP, rfl⟩ | ⟨hP, rfl⟩, rfl⟩
        · skip
          show Go p.tables e below _ (T22.setTop (mkF m 29 #[.val (.int p0), .val (.int p1), .val (.int ii), .val (.ref a_ERROR_STATUS), .val (.int (1 : Int32)), .unset, .unset] [(.int (1 : Int32))]))
          refine Go.by (fun _ => XS.iload X22.here hx rfl (hb hby at_29) rfl) ?_
          show Go p.tables e below _ (T22.setTop (mkF m 31 #[.val (.int p0), .val (.int p1), .val (.int ii), .val (.ref a_ERROR_STATUS), .val (.int (1 : Int32)), .unset, .unset] [(.int (1 : Int32)), (.int (1 : Int32))]))
          refine Go.by (fun _ => XS.icmpNo X22.here hx rfl (hb hby at_31) rfl (teq (by decide)).2) ?_
          show Go p.tables e below _ (T22.setTop (mkF m 34 #[.val (.int p0), .val (.int p1), .val (.int ii), .val (.ref a_ERROR_STATUS), .val (.int (1 : Int32)), .unset, .unset] []))
          refine Go.by (fun _ => XS.iconst X22.here hx rfl (hb hby at_34)) ?_
          show Go p.tables e below _ (T22.setTop (mkF m 35 #[.val (.int p0), .val (.int p1), .val (.int ii), .val (.ref a_ERROR_STATUS), .val (.int (1 : Int32)), .unset, .unset] [(.int (1 : Int32))]))
          refine Go.by (fun _ => XS.goto X22.here hx rfl (pc0 := 35) (pc' := 39) rfl (hb hby at_35) (by decide) (by decide)) ?_
          show Go p.tables e below _ (T22.setTop (mkF m 39 #[.val (.int p0), .val (.int p1), .val (.int ii), .val (.ref a_ERROR_STATUS), .val (.int (1 : Int32)), .unset, .unset] [(.int (1 : Int32))]))
          refine Go.by (fun _ => XS.istore X22.here hx rfl (hb hby at_39) rfl (l' := #[.val (.int p0), .val (.int p1), .val (.int ii), .val (.ref a_ERROR_STATUS), .val (.int (1 : Int32)), .val (.int (1 : Int32)), .unset]) rfl) ?_
          show Go p.tables e below _ (T22.setTop (mkF m 41 #[.val (.int p0), .val (.int p1), .val (.int ii), .val (.ref a_ERROR_STATUS), .val (.int (1 : Int32)), .val (.int (1 : Int32)), .unset] []))
          refine Go.by (fun _ => XS.iloadN X22.here hx rfl (hb hby at_41) rfl) ?_
          show Go p.tables e below _ (T22.setTop (mkF m 42 #[.val (.int p0), .val (.int p1), .val (.int ii), .val (.ref a_ERROR_STATUS), .val (.int (1 : Int32)), .val (.int (1 : Int32)), .unset] [(.int p1)]))
          obtain ⟨v23, T23, h23, X23, q23, st23⟩ := X22.callS hx hZ (y := (⟨"com/example/preference_store/preferencestore/bench/Outcome", "ofStatus", "(I)Lcom/example/preference_store/preferencestore/bench/Outcome;"⟩ : MethodName)) hown (tw hw 13 rfl) (tw hw 14 rfl) (tw hw 5 rfl) (tw hw 15 rfl) (by decide) (rm3 l Z a0 hw [] p1 a_OK a_ERROR_STATUS a_BROKEN a_REFUSED h0 n0 Z0 S_OK E_OK S_ERROR_STATUS E_ERROR_STATUS S_BROKEN E_BROKEN S_REFUSED E_REFUSED F_ERROR_STATUS_ordinal F_OK_ordinal F_BROKEN_ordinal F_REFUSED_ordinal) (g := (mkF m 42 #[.val (.int p0), .val (.int p1), .val (.int ii), .val (.ref a_ERROR_STATUS), .val (.int (1 : Int32)), .val (.int (1 : Int32)), .unset] [(.int p1)])) rfl (by rw [hml]; rfl) (argsL := [(.int p1)]) (rest := []) (lenOf pd0 rfl) rfl (hb hby at_42) rfl (by decide) (Nat.le_of_ble_eq_true rfl) (k' := 0) (n' := 0) rfl rfl (by decide) (by decide)
          refine Go.by st23 ?_
          rcases q23 with ⟨rfl | rfl, rfl⟩
          · skip
            show Go p.tables e below _ (T23.setTop (mkF m 45 #[.val (.int p0), .val (.int p1), .val (.int ii), .val (.ref a_ERROR_STATUS), .val (.int (1 : Int32)), .val (.int (1 : Int32)), .unset] [(.ref a_OK)]))
            obtain ⟨v24, T24, h24, X24, q24, st24⟩ := X23.callV hx hZ (y := (⟨"com/example/preference_store/preferencestore/bench/Outcome", "answered", "()Z"⟩ : MethodName)) (z := (⟨"com/example/preference_store/preferencestore/bench/Outcome", "answered", "()Z"⟩ : MethodName)) hown (tw hw 7 rfl) (tw hw 8 rfl) (notFace_of_selects (args := #[]) (mvT hZ (tw hw 10 rfl))) (tw hw 10 rfl) (tw hw 9 rfl) (tw hw 5 rfl) (tw hw 11 rfl) (by decide) (rm2 l Z a0 hw [] a_OK a_OK a_ERROR_STATUS a_BROKEN a_REFUSED h0 n0 Z0 S_OK E_OK S_ERROR_STATUS E_ERROR_STATUS S_BROKEN E_BROKEN S_REFUSED E_REFUSED F_ERROR_STATUS_ordinal F_OK_ordinal F_BROKEN_ordinal F_REFUSED_ordinal) E_OK (g := (mkF m 45 #[.val (.int p0), .val (.int p1), .val (.int ii), .val (.ref a_ERROR_STATUS), .val (.int (1 : Int32)), .val (.int (1 : Int32)), .unset] [(.ref a_OK)])) rfl (by rw [hml]; rfl) (argsL := []) (rest := []) (lenOf pd1 rfl) rfl (hb hby at_45) rfl (by decide) (Nat.le_of_ble_eq_true rfl) (k' := 0) (n' := 0) rfl rfl (by decide) (by decide)
            refine Go.by st24 ?_
            rcases q24 with ⟨⟨hP, rfl⟩ | ⟨hP, rfl⟩, rfl⟩
            · skip
              show Go p.tables e below _ (T24.setTop (mkF m 48 #[.val (.int p0), .val (.int p1), .val (.int ii), .val (.ref a_ERROR_STATUS), .val (.int (1 : Int32)), .val (.int (1 : Int32)), .unset] [(.int (1 : Int32))]))
              refine Go.by (fun _ => XS.istore X24.here hx rfl (hb hby at_48) rfl (l' := #[.val (.int p0), .val (.int p1), .val (.int ii), .val (.ref a_ERROR_STATUS), .val (.int (1 : Int32)), .val (.int (1 : Int32)), .val (.int (1 : Int32))]) rfl) ?_
              show Go p.tables e below _ (T24.setTop (mkF m 50 #[.val (.int p0), .val (.int p1), .val (.int ii), .val (.ref a_ERROR_STATUS), .val (.int (1 : Int32)), .val (.int (1 : Int32)), .val (.int (1 : Int32))] []))
              refine Go.by (fun _ => XS.iload X24.here hx rfl (hb hby at_50) rfl) ?_
              show Go p.tables e below _ (T24.setTop (mkF m 52 #[.val (.int p0), .val (.int p1), .val (.int ii), .val (.ref a_ERROR_STATUS), .val (.int (1 : Int32)), .val (.int (1 : Int32)), .val (.int (1 : Int32))] [(.int (1 : Int32))]))
              refine Go.by (fun _ => XS.ifNo X24.here hx rfl (hb hby at_52) rfl ((if0 _ _).trans (feq (by decide)).1)) ?_
              show Go p.tables e below _ (T24.setTop (mkF m 55 #[.val (.int p0), .val (.int p1), .val (.int ii), .val (.ref a_ERROR_STATUS), .val (.int (1 : Int32)), .val (.int (1 : Int32)), .val (.int (1 : Int32))] []))
              refine Go.by (fun _ => XS.iload X24.here hx rfl (hb hby at_55) rfl) ?_
              show Go p.tables e below _ (T24.setTop (mkF m 57 #[.val (.int p0), .val (.int p1), .val (.int ii), .val (.ref a_ERROR_STATUS), .val (.int (1 : Int32)), .val (.int (1 : Int32)), .val (.int (1 : Int32))] [(.int (1 : Int32))]))
              refine Go.by (fun _ => XS.ifNo X24.here hx rfl (hb hby at_57) rfl ((if0 _ _).trans (feq (by decide)).1)) ?_
              show Go p.tables e below _ (T24.setTop (mkF m 60 #[.val (.int p0), .val (.int p1), .val (.int ii), .val (.ref a_ERROR_STATUS), .val (.int (1 : Int32)), .val (.int (1 : Int32)), .val (.int (1 : Int32))] []))
              refine Go.by (fun _ => XS.iconst X24.here hx rfl (hb hby at_60)) ?_
              show Go p.tables e below _ (T24.setTop (mkF m 61 #[.val (.int p0), .val (.int p1), .val (.int ii), .val (.ref a_ERROR_STATUS), .val (.int (1 : Int32)), .val (.int (1 : Int32)), .val (.int (1 : Int32))] [(.int (1 : Int32))]))
              refine Go.by (fun _ => XS.goto X24.here hx rfl (pc0 := 61) (pc' := 65) rfl (hb hby at_61) (by decide) (by decide)) ?_
              show Go p.tables e below _ (T24.setTop (mkF m 65 #[.val (.int p0), .val (.int p1), .val (.int ii), .val (.ref a_ERROR_STATUS), .val (.int (1 : Int32)), .val (.int (1 : Int32)), .val (.int (1 : Int32))] [(.int (1 : Int32))]))
              exact Go.retN X24 hx hlk (z' := (1 : Int32)) hret (by simp) (hb hby at_65) rfl (by decide) (by decide) rfl
            · skip
              show Go p.tables e below _ (T24.setTop (mkF m 48 #[.val (.int p0), .val (.int p1), .val (.int ii), .val (.ref a_ERROR_STATUS), .val (.int (1 : Int32)), .val (.int (1 : Int32)), .unset] [(.int (0 : Int32))]))
              exfalso
              simp [nOE, nOB, nOR, nEB, nER, Ne.symm nOB, Ne.symm nOR, Ne.symm nEB, Ne.symm nER] at hP
          · skip
            show Go p.tables e below _ (T23.setTop (mkF m 45 #[.val (.int p0), .val (.int p1), .val (.int ii), .val (.ref a_ERROR_STATUS), .val (.int (1 : Int32)), .val (.int (1 : Int32)), .unset] [(.ref a_ERROR_STATUS)]))
            obtain ⟨v25, T25, h25, X25, q25, st25⟩ := X23.callV hx hZ (y := (⟨"com/example/preference_store/preferencestore/bench/Outcome", "answered", "()Z"⟩ : MethodName)) (z := (⟨"com/example/preference_store/preferencestore/bench/Outcome", "answered", "()Z"⟩ : MethodName)) hown (tw hw 7 rfl) (tw hw 8 rfl) (notFace_of_selects (args := #[]) (mvT hZ (tw hw 10 rfl))) (tw hw 10 rfl) (tw hw 9 rfl) (tw hw 5 rfl) (tw hw 11 rfl) (by decide) (rm2 l Z a0 hw [] a_ERROR_STATUS a_OK a_ERROR_STATUS a_BROKEN a_REFUSED h0 n0 Z0 S_OK E_OK S_ERROR_STATUS E_ERROR_STATUS S_BROKEN E_BROKEN S_REFUSED E_REFUSED F_ERROR_STATUS_ordinal F_OK_ordinal F_BROKEN_ordinal F_REFUSED_ordinal) E_ERROR_STATUS (g := (mkF m 45 #[.val (.int p0), .val (.int p1), .val (.int ii), .val (.ref a_ERROR_STATUS), .val (.int (1 : Int32)), .val (.int (1 : Int32)), .unset] [(.ref a_ERROR_STATUS)])) rfl (by rw [hml]; rfl) (argsL := []) (rest := []) (lenOf pd1 rfl) rfl (hb hby at_45) rfl (by decide) (Nat.le_of_ble_eq_true rfl) (k' := 0) (n' := 0) rfl rfl (by decide) (by decide)
            refine Go.by st25 ?_
            rcases q25 with ⟨⟨hP, rfl⟩ | ⟨hP, rfl⟩, rfl⟩
            · skip
              show Go p.tables e below _ (T25.setTop (mkF m 48 #[.val (.int p0), .val (.int p1), .val (.int ii), .val (.ref a_ERROR_STATUS), .val (.int (1 : Int32)), .val (.int (1 : Int32)), .unset] [(.int (1 : Int32))]))
              refine Go.by (fun _ => XS.istore X25.here hx rfl (hb hby at_48) rfl (l' := #[.val (.int p0), .val (.int p1), .val (.int ii), .val (.ref a_ERROR_STATUS), .val (.int (1 : Int32)), .val (.int (1 : Int32)), .val (.int (1 : Int32))]) rfl) ?_
              show Go p.tables e below _ (T25.setTop (mkF m 50 #[.val (.int p0), .val (.int p1), .val (.int ii), .val (.ref a_ERROR_STATUS), .val (.int (1 : Int32)), .val (.int (1 : Int32)), .val (.int (1 : Int32))] []))
              refine Go.by (fun _ => XS.iload X25.here hx rfl (hb hby at_50) rfl) ?_
              show Go p.tables e below _ (T25.setTop (mkF m 52 #[.val (.int p0), .val (.int p1), .val (.int ii), .val (.ref a_ERROR_STATUS), .val (.int (1 : Int32)), .val (.int (1 : Int32)), .val (.int (1 : Int32))] [(.int (1 : Int32))]))
              refine Go.by (fun _ => XS.ifNo X25.here hx rfl (hb hby at_52) rfl ((if0 _ _).trans (feq (by decide)).1)) ?_
              show Go p.tables e below _ (T25.setTop (mkF m 55 #[.val (.int p0), .val (.int p1), .val (.int ii), .val (.ref a_ERROR_STATUS), .val (.int (1 : Int32)), .val (.int (1 : Int32)), .val (.int (1 : Int32))] []))
              refine Go.by (fun _ => XS.iload X25.here hx rfl (hb hby at_55) rfl) ?_
              show Go p.tables e below _ (T25.setTop (mkF m 57 #[.val (.int p0), .val (.int p1), .val (.int ii), .val (.ref a_ERROR_STATUS), .val (.int (1 : Int32)), .val (.int (1 : Int32)), .val (.int (1 : Int32))] [(.int (1 : Int32))]))
              refine Go.by (fun _ => XS.ifNo X25.here hx rfl (hb hby at_57) rfl ((if0 _ _).trans (feq (by decide)).1)) ?_
              show Go p.tables e below _ (T25.setTop (mkF m 60 #[.val (.int p0), .val (.int p1), .val (.int ii), .val (.ref a_ERROR_STATUS), .val (.int (1 : Int32)), .val (.int (1 : Int32)), .val (.int (1 : Int32))] []))
              refine Go.by (fun _ => XS.iconst X25.here hx rfl (hb hby at_60)) ?_
              show Go p.tables e below _ (T25.setTop (mkF m 61 #[.val (.int p0), .val (.int p1), .val (.int ii), .val (.ref a_ERROR_STATUS), .val (.int (1 : Int32)), .val (.int (1 : Int32)), .val (.int (1 : Int32))] [(.int (1 : Int32))]))
              refine Go.by (fun _ => XS.goto X25.here hx rfl (pc0 := 61) (pc' := 65) rfl (hb hby at_61) (by decide) (by decide)) ?_
              show Go p.tables e below _ (T25.setTop (mkF m 65 #[.val (.int p0), .val (.int p1), .val (.int ii), .val (.ref a_ERROR_STATUS), .val (.int (1 : Int32)), .val (.int (1 : Int32)), .val (.int (1 : Int32))] [(.int (1 : Int32))]))
              exact Go.retN X25 hx hlk (z' := (1 : Int32)) hret (by simp) (hb hby at_65) rfl (by decide) (by decide) rfl
            · skip
              show Go p.tables e below _ (T25.setTop (mkF m 48 #[.val (.int p0), .val (.int p1), .val (.int ii), .val (.ref a_ERROR_STATUS), .val (.int (1 : Int32)), .val (.int (1 : Int32)), .unset] [(.int (0 : Int32))]))
              exfalso
              simp [nOE, nOB, nOR, nEB, nER, Ne.symm nOB, Ne.symm nOR, Ne.symm nEB, Ne.symm nER] at hP
        · skip
          show Go p.tables e below _ (T22.setTop (mkF m 29 #[.val (.int p0), .val (.int p1), .val (.int ii), .val (.ref a_ERROR_STATUS), .val (.int (1 : Int32)), .unset, .unset] [(.int (0 : Int32))]))
          exfalso
          simp [nOE, nOB, nOR, nEB, nER, Ne.symm nOB, Ne.symm nOR, Ne.symm nEB, Ne.symm nER] at hP
      · skip
        refine Go.by (fun _ => XS.icmpYes X1.here hx rfl (pc0 := 15) (pc' := 22) rfl (hb hby at_15) rfl (feq hc15_21).2 (by decide) (by decide)) ?_
        show Go p.tables e below _ (T1.setTop (mkF m 22 #[.val (.int p0), .val (.int p1), .val (.int ii), .val (.ref a_ERROR_STATUS), .unset, .unset, .unset] []))
        refine Go.by (fun _ => XS.iconst X1.here hx rfl (hb hby at_22)) ?_
        show Go p.tables e below _ (T1.setTop (mkF m 23 #[.val (.int p0), .val (.int p1), .val (.int ii), .val (.ref a_ERROR_STATUS), .unset, .unset, .unset] [(.int (0 : Int32))]))
        refine Go.by (fun _ => XS.istore X1.here hx rfl (hb hby at_23) rfl (l' := #[.val (.int p0), .val (.int p1), .val (.int ii), .val (.ref a_ERROR_STATUS), .val (.int (0 : Int32)), .unset, .unset]) rfl) ?_
        show Go p.tables e below _ (T1.setTop (mkF m 25 #[.val (.int p0), .val (.int p1), .val (.int ii), .val (.ref a_ERROR_STATUS), .val (.int (0 : Int32)), .unset, .unset] []))
        refine Go.by (fun _ => XS.aloadN X1.here hx rfl (hb hby at_25) rfl rfl) ?_
        show Go p.tables e below _ (T1.setTop (mkF m 26 #[.val (.int p0), .val (.int p1), .val (.int ii), .val (.ref a_ERROR_STATUS), .val (.int (0 : Int32)), .unset, .unset] [(.ref a_ERROR_STATUS)]))
        obtain ⟨v26, T26, h26, X26, q26, st26⟩ := X1.callV hx hZ (y := (⟨"com/example/preference_store/preferencestore/bench/Outcome", "answered", "()Z"⟩ : MethodName)) (z := (⟨"com/example/preference_store/preferencestore/bench/Outcome", "answered", "()Z"⟩ : MethodName)) hown (tw hw 7 rfl) (tw hw 8 rfl) (notFace_of_selects (args := #[]) (mvT hZ (tw hw 10 rfl))) (tw hw 10 rfl) (tw hw 9 rfl) (tw hw 5 rfl) (tw hw 11 rfl) (by decide) (rm2 l Z a0 hw [] a_ERROR_STATUS a_OK a_ERROR_STATUS a_BROKEN a_REFUSED h0 n0 Z0 S_OK E_OK S_ERROR_STATUS E_ERROR_STATUS S_BROKEN E_BROKEN S_REFUSED E_REFUSED F_ERROR_STATUS_ordinal F_OK_ordinal F_BROKEN_ordinal F_REFUSED_ordinal) E_ERROR_STATUS (g := (mkF m 26 #[.val (.int p0), .val (.int p1), .val (.int ii), .val (.ref a_ERROR_STATUS), .val (.int (0 : Int32)), .unset, .unset] [(.ref a_ERROR_STATUS)])) rfl (by rw [hml]; rfl) (argsL := []) (rest := []) (lenOf pd1 rfl) rfl (hb hby at_26) rfl (by decide) (Nat.le_of_ble_eq_true rfl) (k' := 0) (n' := 0) rfl rfl (by decide) (by decide)
        refine Go.by st26 ?_
        rcases q26 with ⟨⟨hP, rfl⟩ | ⟨hP, rfl⟩, rfl⟩
        · skip
          show Go p.tables e below _ (T26.setTop (mkF m 29 #[.val (.int p0), .val (.int p1), .val (.int ii), .val (.ref a_ERROR_STATUS), .val (.int (0 : Int32)), .unset, .unset] [(.int (1 : Int32))]))
          refine Go.by (fun _ => XS.iload X26.here hx rfl (hb hby at_29) rfl) ?_
          show Go p.tables e below _ (T26.setTop (mkF m 31 #[.val (.int p0), .val (.int p1), .val (.int ii), .val (.ref a_ERROR_STATUS), .val (.int (0 : Int32)), .unset, .unset] [(.int (0 : Int32)), (.int (1 : Int32))]))
          refine Go.by (fun _ => XS.icmpYes X26.here hx rfl (pc0 := 31) (pc' := 38) rfl (hb hby at_31) rfl (feq (by decide)).2 (by decide) (by decide)) ?_
          show Go p.tables e below _ (T26.setTop (mkF m 38 #[.val (.int p0), .val (.int p1), .val (.int ii), .val (.ref a_ERROR_STATUS), .val (.int (0 : Int32)), .unset, .unset] []))
          refine Go.by (fun _ => XS.iconst X26.here hx rfl (hb hby at_38)) ?_
          show Go p.tables e below _ (T26.setTop (mkF m 39 #[.val (.int p0), .val (.int p1), .val (.int ii), .val (.ref a_ERROR_STATUS), .val (.int (0 : Int32)), .unset, .unset] [(.int (0 : Int32))]))
          refine Go.by (fun _ => XS.istore X26.here hx rfl (hb hby at_39) rfl (l' := #[.val (.int p0), .val (.int p1), .val (.int ii), .val (.ref a_ERROR_STATUS), .val (.int (0 : Int32)), .val (.int (0 : Int32)), .unset]) rfl) ?_
          show Go p.tables e below _ (T26.setTop (mkF m 41 #[.val (.int p0), .val (.int p1), .val (.int ii), .val (.ref a_ERROR_STATUS), .val (.int (0 : Int32)), .val (.int (0 : Int32)), .unset] []))
          refine Go.by (fun _ => XS.iloadN X26.here hx rfl (hb hby at_41) rfl) ?_
          show Go p.tables e below _ (T26.setTop (mkF m 42 #[.val (.int p0), .val (.int p1), .val (.int ii), .val (.ref a_ERROR_STATUS), .val (.int (0 : Int32)), .val (.int (0 : Int32)), .unset] [(.int p1)]))
          obtain ⟨v27, T27, h27, X27, q27, st27⟩ := X26.callS hx hZ (y := (⟨"com/example/preference_store/preferencestore/bench/Outcome", "ofStatus", "(I)Lcom/example/preference_store/preferencestore/bench/Outcome;"⟩ : MethodName)) hown (tw hw 13 rfl) (tw hw 14 rfl) (tw hw 5 rfl) (tw hw 15 rfl) (by decide) (rm3 l Z a0 hw [] p1 a_OK a_ERROR_STATUS a_BROKEN a_REFUSED h0 n0 Z0 S_OK E_OK S_ERROR_STATUS E_ERROR_STATUS S_BROKEN E_BROKEN S_REFUSED E_REFUSED F_ERROR_STATUS_ordinal F_OK_ordinal F_BROKEN_ordinal F_REFUSED_ordinal) (g := (mkF m 42 #[.val (.int p0), .val (.int p1), .val (.int ii), .val (.ref a_ERROR_STATUS), .val (.int (0 : Int32)), .val (.int (0 : Int32)), .unset] [(.int p1)])) rfl (by rw [hml]; rfl) (argsL := [(.int p1)]) (rest := []) (lenOf pd0 rfl) rfl (hb hby at_42) rfl (by decide) (Nat.le_of_ble_eq_true rfl) (k' := 0) (n' := 0) rfl rfl (by decide) (by decide)
          refine Go.by st27 ?_
          rcases q27 with ⟨rfl | rfl, rfl⟩
          · skip
            show Go p.tables e below _ (T27.setTop (mkF m 45 #[.val (.int p0), .val (.int p1), .val (.int ii), .val (.ref a_ERROR_STATUS), .val (.int (0 : Int32)), .val (.int (0 : Int32)), .unset] [(.ref a_OK)]))
            obtain ⟨v28, T28, h28, X28, q28, st28⟩ := X27.callV hx hZ (y := (⟨"com/example/preference_store/preferencestore/bench/Outcome", "answered", "()Z"⟩ : MethodName)) (z := (⟨"com/example/preference_store/preferencestore/bench/Outcome", "answered", "()Z"⟩ : MethodName)) hown (tw hw 7 rfl) (tw hw 8 rfl) (notFace_of_selects (args := #[]) (mvT hZ (tw hw 10 rfl))) (tw hw 10 rfl) (tw hw 9 rfl) (tw hw 5 rfl) (tw hw 11 rfl) (by decide) (rm2 l Z a0 hw [] a_OK a_OK a_ERROR_STATUS a_BROKEN a_REFUSED h0 n0 Z0 S_OK E_OK S_ERROR_STATUS E_ERROR_STATUS S_BROKEN E_BROKEN S_REFUSED E_REFUSED F_ERROR_STATUS_ordinal F_OK_ordinal F_BROKEN_ordinal F_REFUSED_ordinal) E_OK (g := (mkF m 45 #[.val (.int p0), .val (.int p1), .val (.int ii), .val (.ref a_ERROR_STATUS), .val (.int (0 : Int32)), .val (.int (0 : Int32)), .unset] [(.ref a_OK)])) rfl (by rw [hml]; rfl) (argsL := []) (rest := []) (lenOf pd1 rfl) rfl (hb hby at_45) rfl (by decide) (Nat.le_of_ble_eq_true rfl) (k' := 0) (n' := 0) rfl rfl (by decide) (by decide)
            refine Go.by st28 ?_
            rcases q28 with ⟨⟨hP, rfl⟩ | ⟨hP, rfl⟩, rfl⟩
            · skip
              show Go p.tables e below _ (T28.setTop (mkF m 48 #[.val (.int p0), .val (.int p1), .val (.int ii), .val (.ref a_ERROR_STATUS), .val (.int (0 : Int32)), .val (.int (0 : Int32)), .unset] [(.int (1 : Int32))]))
              refine Go.by (fun _ => XS.istore X28.here hx rfl (hb hby at_48) rfl (l' := #[.val (.int p0), .val (.int p1), .val (.int ii), .val (.ref a_ERROR_STATUS), .val (.int (0 : Int32)), .val (.int (0 : Int32)), .val (.int (1 : Int32))]) rfl) ?_
              show Go p.tables e below _ (T28.setTop (mkF m 50 #[.val (.int p0), .val (.int p1), .val (.int ii), .val (.ref a_ERROR_STATUS), .val (.int (0 : Int32)), .val (.int (0 : Int32)), .val (.int (1 : Int32))] []))
              refine Go.by (fun _ => XS.iload X28.here hx rfl (hb hby at_50) rfl) ?_
              show Go p.tables e below _ (T28.setTop (mkF m 52 #[.val (.int p0), .val (.int p1), .val (.int ii), .val (.ref a_ERROR_STATUS), .val (.int (0 : Int32)), .val (.int (0 : Int32)), .val (.int (1 : Int32))] [(.int (0 : Int32))]))
              refine Go.by (fun _ => XS.ifYes X28.here hx rfl (pc0 := 52) (pc' := 64) rfl (hb hby at_52) rfl ((if0 _ _).trans (teq (by decide)).1) (by decide) (by decide)) ?_
              show Go p.tables e below _ (T28.setTop (mkF m 64 #[.val (.int p0), .val (.int p1), .val (.int ii), .val (.ref a_ERROR_STATUS), .val (.int (0 : Int32)), .val (.int (0 : Int32)), .val (.int (1 : Int32))] []))
              refine Go.by (fun _ => XS.iconst X28.here hx rfl (hb hby at_64)) ?_
              show Go p.tables e below _ (T28.setTop (mkF m 65 #[.val (.int p0), .val (.int p1), .val (.int ii), .val (.ref a_ERROR_STATUS), .val (.int (0 : Int32)), .val (.int (0 : Int32)), .val (.int (1 : Int32))] [(.int (0 : Int32))]))
              refine Go.retN X28 hx hlk (z' := (0 : Int32)) hret (by simp) (hb hby at_65) rfl (by decide) (by decide) ?_
              exfalso
              simp only [Int32.lt_iff_toInt_lt, ← Int32.toInt_inj, Int32.reduceToInt] at h1 h2 hc10_16 hc15_21
              omega
            · skip
              show Go p.tables e below _ (T28.setTop (mkF m 48 #[.val (.int p0), .val (.int p1), .val (.int ii), .val (.ref a_ERROR_STATUS), .val (.int (0 : Int32)), .val (.int (0 : Int32)), .unset] [(.int (0 : Int32))]))
              exfalso
              simp [nOE, nOB, nOR, nEB, nER, Ne.symm nOB, Ne.symm nOR, Ne.symm nEB, Ne.symm nER] at hP
          · skip
            show Go p.tables e below _ (T27.setTop (mkF m 45 #[.val (.int p0), .val (.int p1), .val (.int ii), .val (.ref a_ERROR_STATUS), .val (.int (0 : Int32)), .val (.int (0 : Int32)), .unset] [(.ref a_ERROR_STATUS)]))
            obtain ⟨v29, T29, h29, X29, q29, st29⟩ := X27.callV hx hZ (y := (⟨"com/example/preference_store/preferencestore/bench/Outcome", "answered", "()Z"⟩ : MethodName)) (z := (⟨"com/example/preference_store/preferencestore/bench/Outcome", "answered", "()Z"⟩ : MethodName)) hown (tw hw 7 rfl) (tw hw 8 rfl) (notFace_of_selects (args := #[]) (mvT hZ (tw hw 10 rfl))) (tw hw 10 rfl) (tw hw 9 rfl) (tw hw 5 rfl) (tw hw 11 rfl) (by decide) (rm2 l Z a0 hw [] a_ERROR_STATUS a_OK a_ERROR_STATUS a_BROKEN a_REFUSED h0 n0 Z0 S_OK E_OK S_ERROR_STATUS E_ERROR_STATUS S_BROKEN E_BROKEN S_REFUSED E_REFUSED F_ERROR_STATUS_ordinal F_OK_ordinal F_BROKEN_ordinal F_REFUSED_ordinal) E_ERROR_STATUS (g := (mkF m 45 #[.val (.int p0), .val (.int p1), .val (.int ii), .val (.ref a_ERROR_STATUS), .val (.int (0 : Int32)), .val (.int (0 : Int32)), .unset] [(.ref a_ERROR_STATUS)])) rfl (by rw [hml]; rfl) (argsL := []) (rest := []) (lenOf pd1 rfl) rfl (hb hby at_45) rfl (by decide) (Nat.le_of_ble_eq_true rfl) (k' := 0) (n' := 0) rfl rfl (by decide) (by decide)
            refine Go.by st29 ?_
            rcases q29 with ⟨⟨hP, rfl⟩ | ⟨hP, rfl⟩, rfl⟩
            · skip
              show Go p.tables e below _ (T29.setTop (mkF m 48 #[.val (.int p0), .val (.int p1), .val (.int ii), .val (.ref a_ERROR_STATUS), .val (.int (0 : Int32)), .val (.int (0 : Int32)), .unset] [(.int (1 : Int32))]))
              refine Go.by (fun _ => XS.istore X29.here hx rfl (hb hby at_48) rfl (l' := #[.val (.int p0), .val (.int p1), .val (.int ii), .val (.ref a_ERROR_STATUS), .val (.int (0 : Int32)), .val (.int (0 : Int32)), .val (.int (1 : Int32))]) rfl) ?_
              show Go p.tables e below _ (T29.setTop (mkF m 50 #[.val (.int p0), .val (.int p1), .val (.int ii), .val (.ref a_ERROR_STATUS), .val (.int (0 : Int32)), .val (.int (0 : Int32)), .val (.int (1 : Int32))] []))
              refine Go.by (fun _ => XS.iload X29.here hx rfl (hb hby at_50) rfl) ?_
              show Go p.tables e below _ (T29.setTop (mkF m 52 #[.val (.int p0), .val (.int p1), .val (.int ii), .val (.ref a_ERROR_STATUS), .val (.int (0 : Int32)), .val (.int (0 : Int32)), .val (.int (1 : Int32))] [(.int (0 : Int32))]))
              refine Go.by (fun _ => XS.ifYes X29.here hx rfl (pc0 := 52) (pc' := 64) rfl (hb hby at_52) rfl ((if0 _ _).trans (teq (by decide)).1) (by decide) (by decide)) ?_
              show Go p.tables e below _ (T29.setTop (mkF m 64 #[.val (.int p0), .val (.int p1), .val (.int ii), .val (.ref a_ERROR_STATUS), .val (.int (0 : Int32)), .val (.int (0 : Int32)), .val (.int (1 : Int32))] []))
              refine Go.by (fun _ => XS.iconst X29.here hx rfl (hb hby at_64)) ?_
              show Go p.tables e below _ (T29.setTop (mkF m 65 #[.val (.int p0), .val (.int p1), .val (.int ii), .val (.ref a_ERROR_STATUS), .val (.int (0 : Int32)), .val (.int (0 : Int32)), .val (.int (1 : Int32))] [(.int (0 : Int32))]))
              refine Go.retN X29 hx hlk (z' := (0 : Int32)) hret (by simp) (hb hby at_65) rfl (by decide) (by decide) ?_
              exfalso
              simp only [Int32.lt_iff_toInt_lt, ← Int32.toInt_inj, Int32.reduceToInt] at h1 h2 hc10_16 hc15_21
              omega
            · skip
              show Go p.tables e below _ (T29.setTop (mkF m 48 #[.val (.int p0), .val (.int p1), .val (.int ii), .val (.ref a_ERROR_STATUS), .val (.int (0 : Int32)), .val (.int (0 : Int32)), .unset] [(.int (0 : Int32))]))
              exfalso
              simp [nOE, nOB, nOR, nEB, nER, Ne.symm nOB, Ne.symm nOR, Ne.symm nEB, Ne.symm nER] at hP
        · skip
          show Go p.tables e below _ (T26.setTop (mkF m 29 #[.val (.int p0), .val (.int p1), .val (.int ii), .val (.ref a_ERROR_STATUS), .val (.int (0 : Int32)), .unset, .unset] [(.int (0 : Int32))]))
          exfalso
          simp [nOE, nOB, nOR, nEB, nER, Ne.symm nOB, Ne.symm nOR, Ne.symm nEB, Ne.symm nER] at hP
  · skip
    show Go p.tables e below _ (T1.setTop (mkF m 8 #[.val (.int p0), .val (.int p1), .val (.int ii), .unset, .unset, .unset, .unset] [(.ref a_BROKEN)]))
    refine Go.by (fun _ => XS.astoreN X1.here hx rfl (hb hby at_8) rfl rfl (l' := #[.val (.int p0), .val (.int p1), .val (.int ii), .val (.ref a_BROKEN), .unset, .unset, .unset]) rfl) ?_
    show Go p.tables e below _ (T1.setTop (mkF m 9 #[.val (.int p0), .val (.int p1), .val (.int ii), .val (.ref a_BROKEN), .unset, .unset, .unset] []))
    refine Go.by (fun _ => XS.iloadN X1.here hx rfl (hb hby at_9) rfl) ?_
    show Go p.tables e below _ (T1.setTop (mkF m 10 #[.val (.int p0), .val (.int p1), .val (.int ii), .val (.ref a_BROKEN), .unset, .unset, .unset] [(.int ii)]))
    by_cases hc10_30 : ii = (0 : Int32)
    · skip
      refine Go.by (fun _ => XS.ifYes X1.here hx rfl (pc0 := 10) (pc' := 18) rfl (hb hby at_10) rfl ((if0 _ _).trans (teq hc10_30).1) (by decide) (by decide)) ?_
      show Go p.tables e below _ (T1.setTop (mkF m 18 #[.val (.int p0), .val (.int p1), .val (.int ii), .val (.ref a_BROKEN), .unset, .unset, .unset] []))
      refine Go.by (fun _ => XS.iconst X1.here hx rfl (hb hby at_18)) ?_
      show Go p.tables e below _ (T1.setTop (mkF m 19 #[.val (.int p0), .val (.int p1), .val (.int ii), .val (.ref a_BROKEN), .unset, .unset, .unset] [(.int (1 : Int32))]))
      refine Go.by (fun _ => XS.goto X1.here hx rfl (pc0 := 19) (pc' := 23) rfl (hb hby at_19) (by decide) (by decide)) ?_
      show Go p.tables e below _ (T1.setTop (mkF m 23 #[.val (.int p0), .val (.int p1), .val (.int ii), .val (.ref a_BROKEN), .unset, .unset, .unset] [(.int (1 : Int32))]))
      refine Go.by (fun _ => XS.istore X1.here hx rfl (hb hby at_23) rfl (l' := #[.val (.int p0), .val (.int p1), .val (.int ii), .val (.ref a_BROKEN), .val (.int (1 : Int32)), .unset, .unset]) rfl) ?_
      show Go p.tables e below _ (T1.setTop (mkF m 25 #[.val (.int p0), .val (.int p1), .val (.int ii), .val (.ref a_BROKEN), .val (.int (1 : Int32)), .unset, .unset] []))
      refine Go.by (fun _ => XS.aloadN X1.here hx rfl (hb hby at_25) rfl rfl) ?_
      show Go p.tables e below _ (T1.setTop (mkF m 26 #[.val (.int p0), .val (.int p1), .val (.int ii), .val (.ref a_BROKEN), .val (.int (1 : Int32)), .unset, .unset] [(.ref a_BROKEN)]))
      obtain ⟨v31, T31, h31, X31, q31, st31⟩ := X1.callV hx hZ (y := (⟨"com/example/preference_store/preferencestore/bench/Outcome", "answered", "()Z"⟩ : MethodName)) (z := (⟨"com/example/preference_store/preferencestore/bench/Outcome", "answered", "()Z"⟩ : MethodName)) hown (tw hw 7 rfl) (tw hw 8 rfl) (notFace_of_selects (args := #[]) (mvT hZ (tw hw 10 rfl))) (tw hw 10 rfl) (tw hw 9 rfl) (tw hw 5 rfl) (tw hw 11 rfl) (by decide) (rm2 l Z a0 hw [] a_BROKEN a_OK a_ERROR_STATUS a_BROKEN a_REFUSED h0 n0 Z0 S_OK E_OK S_ERROR_STATUS E_ERROR_STATUS S_BROKEN E_BROKEN S_REFUSED E_REFUSED F_ERROR_STATUS_ordinal F_OK_ordinal F_BROKEN_ordinal F_REFUSED_ordinal) E_BROKEN (g := (mkF m 26 #[.val (.int p0), .val (.int p1), .val (.int ii), .val (.ref a_BROKEN), .val (.int (1 : Int32)), .unset, .unset] [(.ref a_BROKEN)])) rfl (by rw [hml]; rfl) (argsL := []) (rest := []) (lenOf pd1 rfl) rfl (hb hby at_26) rfl (by decide) (Nat.le_of_ble_eq_true rfl) (k' := 0) (n' := 0) rfl rfl (by decide) (by decide)
      refine Go.by st31 ?_
      rcases q31 with ⟨⟨hP, rfl⟩ | ⟨hP, rfl⟩, rfl⟩
      · skip
        show Go p.tables e below _ (T31.setTop (mkF m 29 #[.val (.int p0), .val (.int p1), .val (.int ii), .val (.ref a_BROKEN), .val (.int (1 : Int32)), .unset, .unset] [(.int (1 : Int32))]))
        exfalso
        simp [nOE, nOB, nOR, nEB, nER, Ne.symm nOB, Ne.symm nOR, Ne.symm nEB, Ne.symm nER] at hP
      · skip
        show Go p.tables e below _ (T31.setTop (mkF m 29 #[.val (.int p0), .val (.int p1), .val (.int ii), .val (.ref a_BROKEN), .val (.int (1 : Int32)), .unset, .unset] [(.int (0 : Int32))]))
        refine Go.by (fun _ => XS.iload X31.here hx rfl (hb hby at_29) rfl) ?_
        show Go p.tables e below _ (T31.setTop (mkF m 31 #[.val (.int p0), .val (.int p1), .val (.int ii), .val (.ref a_BROKEN), .val (.int (1 : Int32)), .unset, .unset] [(.int (1 : Int32)), (.int (0 : Int32))]))
        refine Go.by (fun _ => XS.icmpYes X31.here hx rfl (pc0 := 31) (pc' := 38) rfl (hb hby at_31) rfl (feq (by decide)).2 (by decide) (by decide)) ?_
        show Go p.tables e below _ (T31.setTop (mkF m 38 #[.val (.int p0), .val (.int p1), .val (.int ii), .val (.ref a_BROKEN), .val (.int (1 : Int32)), .unset, .unset] []))
        refine Go.by (fun _ => XS.iconst X31.here hx rfl (hb hby at_38)) ?_
        show Go p.tables e below _ (T31.setTop (mkF m 39 #[.val (.int p0), .val (.int p1), .val (.int ii), .val (.ref a_BROKEN), .val (.int (1 : Int32)), .unset, .unset] [(.int (0 : Int32))]))
        refine Go.by (fun _ => XS.istore X31.here hx rfl (hb hby at_39) rfl (l' := #[.val (.int p0), .val (.int p1), .val (.int ii), .val (.ref a_BROKEN), .val (.int (1 : Int32)), .val (.int (0 : Int32)), .unset]) rfl) ?_
        show Go p.tables e below _ (T31.setTop (mkF m 41 #[.val (.int p0), .val (.int p1), .val (.int ii), .val (.ref a_BROKEN), .val (.int (1 : Int32)), .val (.int (0 : Int32)), .unset] []))
        refine Go.by (fun _ => XS.iloadN X31.here hx rfl (hb hby at_41) rfl) ?_
        show Go p.tables e below _ (T31.setTop (mkF m 42 #[.val (.int p0), .val (.int p1), .val (.int ii), .val (.ref a_BROKEN), .val (.int (1 : Int32)), .val (.int (0 : Int32)), .unset] [(.int p1)]))
        obtain ⟨v32, T32, h32, X32, q32, st32⟩ := X31.callS hx hZ (y := (⟨"com/example/preference_store/preferencestore/bench/Outcome", "ofStatus", "(I)Lcom/example/preference_store/preferencestore/bench/Outcome;"⟩ : MethodName)) hown (tw hw 13 rfl) (tw hw 14 rfl) (tw hw 5 rfl) (tw hw 15 rfl) (by decide) (rm3 l Z a0 hw [] p1 a_OK a_ERROR_STATUS a_BROKEN a_REFUSED h0 n0 Z0 S_OK E_OK S_ERROR_STATUS E_ERROR_STATUS S_BROKEN E_BROKEN S_REFUSED E_REFUSED F_ERROR_STATUS_ordinal F_OK_ordinal F_BROKEN_ordinal F_REFUSED_ordinal) (g := (mkF m 42 #[.val (.int p0), .val (.int p1), .val (.int ii), .val (.ref a_BROKEN), .val (.int (1 : Int32)), .val (.int (0 : Int32)), .unset] [(.int p1)])) rfl (by rw [hml]; rfl) (argsL := [(.int p1)]) (rest := []) (lenOf pd0 rfl) rfl (hb hby at_42) rfl (by decide) (Nat.le_of_ble_eq_true rfl) (k' := 0) (n' := 0) rfl rfl (by decide) (by decide)
        refine Go.by st32 ?_
        rcases q32 with ⟨rfl | rfl, rfl⟩
        · skip
          show Go p.tables e below _ (T32.setTop (mkF m 45 #[.val (.int p0), .val (.int p1), .val (.int ii), .val (.ref a_BROKEN), .val (.int (1 : Int32)), .val (.int (0 : Int32)), .unset] [(.ref a_OK)]))
          obtain ⟨v33, T33, h33, X33, q33, st33⟩ := X32.callV hx hZ (y := (⟨"com/example/preference_store/preferencestore/bench/Outcome", "answered", "()Z"⟩ : MethodName)) (z := (⟨"com/example/preference_store/preferencestore/bench/Outcome", "answered", "()Z"⟩ : MethodName)) hown (tw hw 7 rfl) (tw hw 8 rfl) (notFace_of_selects (args := #[]) (mvT hZ (tw hw 10 rfl))) (tw hw 10 rfl) (tw hw 9 rfl) (tw hw 5 rfl) (tw hw 11 rfl) (by decide) (rm2 l Z a0 hw [] a_OK a_OK a_ERROR_STATUS a_BROKEN a_REFUSED h0 n0 Z0 S_OK E_OK S_ERROR_STATUS E_ERROR_STATUS S_BROKEN E_BROKEN S_REFUSED E_REFUSED F_ERROR_STATUS_ordinal F_OK_ordinal F_BROKEN_ordinal F_REFUSED_ordinal) E_OK (g := (mkF m 45 #[.val (.int p0), .val (.int p1), .val (.int ii), .val (.ref a_BROKEN), .val (.int (1 : Int32)), .val (.int (0 : Int32)), .unset] [(.ref a_OK)])) rfl (by rw [hml]; rfl) (argsL := []) (rest := []) (lenOf pd1 rfl) rfl (hb hby at_45) rfl (by decide) (Nat.le_of_ble_eq_true rfl) (k' := 0) (n' := 0) rfl rfl (by decide) (by decide)
          refine Go.by st33 ?_
          rcases q33 with ⟨⟨hP, rfl⟩ | ⟨hP, rfl⟩, rfl⟩
          · skip
            show Go p.tables e below _ (T33.setTop (mkF m 48 #[.val (.int p0), .val (.int p1), .val (.int ii), .val (.ref a_BROKEN), .val (.int (1 : Int32)), .val (.int (0 : Int32)), .unset] [(.int (1 : Int32))]))
            refine Go.by (fun _ => XS.istore X33.here hx rfl (hb hby at_48) rfl (l' := #[.val (.int p0), .val (.int p1), .val (.int ii), .val (.ref a_BROKEN), .val (.int (1 : Int32)), .val (.int (0 : Int32)), .val (.int (1 : Int32))]) rfl) ?_
            show Go p.tables e below _ (T33.setTop (mkF m 50 #[.val (.int p0), .val (.int p1), .val (.int ii), .val (.ref a_BROKEN), .val (.int (1 : Int32)), .val (.int (0 : Int32)), .val (.int (1 : Int32))] []))
            refine Go.by (fun _ => XS.iload X33.here hx rfl (hb hby at_50) rfl) ?_
            show Go p.tables e below _ (T33.setTop (mkF m 52 #[.val (.int p0), .val (.int p1), .val (.int ii), .val (.ref a_BROKEN), .val (.int (1 : Int32)), .val (.int (0 : Int32)), .val (.int (1 : Int32))] [(.int (0 : Int32))]))
            refine Go.by (fun _ => XS.ifYes X33.here hx rfl (pc0 := 52) (pc' := 64) rfl (hb hby at_52) rfl ((if0 _ _).trans (teq (by decide)).1) (by decide) (by decide)) ?_
            show Go p.tables e below _ (T33.setTop (mkF m 64 #[.val (.int p0), .val (.int p1), .val (.int ii), .val (.ref a_BROKEN), .val (.int (1 : Int32)), .val (.int (0 : Int32)), .val (.int (1 : Int32))] []))
            refine Go.by (fun _ => XS.iconst X33.here hx rfl (hb hby at_64)) ?_
            show Go p.tables e below _ (T33.setTop (mkF m 65 #[.val (.int p0), .val (.int p1), .val (.int ii), .val (.ref a_BROKEN), .val (.int (1 : Int32)), .val (.int (0 : Int32)), .val (.int (1 : Int32))] [(.int (0 : Int32))]))
            refine Go.retN X33 hx hlk (z' := (0 : Int32)) hret (by simp) (hb hby at_65) rfl (by decide) (by decide) ?_
            exfalso
            simp only [Int32.lt_iff_toInt_lt, ← Int32.toInt_inj, Int32.reduceToInt] at h1 h2 h3 hc10_30
            omega
          · skip
            show Go p.tables e below _ (T33.setTop (mkF m 48 #[.val (.int p0), .val (.int p1), .val (.int ii), .val (.ref a_BROKEN), .val (.int (1 : Int32)), .val (.int (0 : Int32)), .unset] [(.int (0 : Int32))]))
            exfalso
            simp [nOE, nOB, nOR, nEB, nER, Ne.symm nOB, Ne.symm nOR, Ne.symm nEB, Ne.symm nER] at hP
        · skip
          show Go p.tables e below _ (T32.setTop (mkF m 45 #[.val (.int p0), .val (.int p1), .val (.int ii), .val (.ref a_BROKEN), .val (.int (1 : Int32)), .val (.int (0 : Int32)), .unset] [(.ref a_ERROR_STATUS)]))
          obtain ⟨v34, T34, h34, X34, q34, st34⟩ := X32.callV hx hZ (y := (⟨"com/example/preference_store/preferencestore/bench/Outcome", "answered", "()Z"⟩ : MethodName)) (z := (⟨"com/example/preference_store/preferencestore/bench/Outcome", "answered", "()Z"⟩ : MethodName)) hown (tw hw 7 rfl) (tw hw 8 rfl) (notFace_of_selects (args := #[]) (mvT hZ (tw hw 10 rfl))) (tw hw 10 rfl) (tw hw 9 rfl) (tw hw 5 rfl) (tw hw 11 rfl) (by decide) (rm2 l Z a0 hw [] a_ERROR_STATUS a_OK a_ERROR_STATUS a_BROKEN a_REFUSED h0 n0 Z0 S_OK E_OK S_ERROR_STATUS E_ERROR_STATUS S_BROKEN E_BROKEN S_REFUSED E_REFUSED F_ERROR_STATUS_ordinal F_OK_ordinal F_BROKEN_ordinal F_REFUSED_ordinal) E_ERROR_STATUS (g := (mkF m 45 #[.val (.int p0), .val (.int p1), .val (.int ii), .val (.ref a_BROKEN), .val (.int (1 : Int32)), .val (.int (0 : Int32)), .unset] [(.ref a_ERROR_STATUS)])) rfl (by rw [hml]; rfl) (argsL := []) (rest := []) (lenOf pd1 rfl) rfl (hb hby at_45) rfl (by decide) (Nat.le_of_ble_eq_true rfl) (k' := 0) (n' := 0) rfl rfl (by decide) (by decide)
          refine Go.by st34 ?_
          rcases q34 with ⟨⟨hP, rfl⟩ | ⟨hP, rfl⟩, rfl⟩
          · skip
            show Go p.tables e below _ (T34.setTop (mkF m 48 #[.val (.int p0), .val (.int p1), .val (.int ii), .val (.ref a_BROKEN), .val (.int (1 : Int32)), .val (.int (0 : Int32)), .unset] [(.int (1 : Int32))]))
            refine Go.by (fun _ => XS.istore X34.here hx rfl (hb hby at_48) rfl (l' := #[.val (.int p0), .val (.int p1), .val (.int ii), .val (.ref a_BROKEN), .val (.int (1 : Int32)), .val (.int (0 : Int32)), .val (.int (1 : Int32))]) rfl) ?_
            show Go p.tables e below _ (T34.setTop (mkF m 50 #[.val (.int p0), .val (.int p1), .val (.int ii), .val (.ref a_BROKEN), .val (.int (1 : Int32)), .val (.int (0 : Int32)), .val (.int (1 : Int32))] []))
            refine Go.by (fun _ => XS.iload X34.here hx rfl (hb hby at_50) rfl) ?_
            show Go p.tables e below _ (T34.setTop (mkF m 52 #[.val (.int p0), .val (.int p1), .val (.int ii), .val (.ref a_BROKEN), .val (.int (1 : Int32)), .val (.int (0 : Int32)), .val (.int (1 : Int32))] [(.int (0 : Int32))]))
            refine Go.by (fun _ => XS.ifYes X34.here hx rfl (pc0 := 52) (pc' := 64) rfl (hb hby at_52) rfl ((if0 _ _).trans (teq (by decide)).1) (by decide) (by decide)) ?_
            show Go p.tables e below _ (T34.setTop (mkF m 64 #[.val (.int p0), .val (.int p1), .val (.int ii), .val (.ref a_BROKEN), .val (.int (1 : Int32)), .val (.int (0 : Int32)), .val (.int (1 : Int32))] []))
            refine Go.by (fun _ => XS.iconst X34.here hx rfl (hb hby at_64)) ?_
            show Go p.tables e below _ (T34.setTop (mkF m 65 #[.val (.int p0), .val (.int p1), .val (.int ii), .val (.ref a_BROKEN), .val (.int (1 : Int32)), .val (.int (0 : Int32)), .val (.int (1 : Int32))] [(.int (0 : Int32))]))
            refine Go.retN X34 hx hlk (z' := (0 : Int32)) hret (by simp) (hb hby at_65) rfl (by decide) (by decide) ?_
            exfalso
            simp only [Int32.lt_iff_toInt_lt, ← Int32.toInt_inj, Int32.reduceToInt] at h1 h2 h3 hc10_30
            omega
          · skip
            show Go p.tables e below _ (T34.setTop (mkF m 48 #[.val (.int p0), .val (.int p1), .val (.int ii), .val (.ref a_BROKEN), .val (.int (1 : Int32)), .val (.int (0 : Int32)), .unset] [(.int (0 : Int32))]))
            exfalso
            simp [nOE, nOB, nOR, nEB, nER, Ne.symm nOB, Ne.symm nOR, Ne.symm nEB, Ne.symm nER] at hP
    · skip
      refine Go.by (fun _ => XS.ifNo X1.here hx rfl (hb hby at_10) rfl ((if0 _ _).trans (feq hc10_30).1)) ?_
      show Go p.tables e below _ (T1.setTop (mkF m 13 #[.val (.int p0), .val (.int p1), .val (.int ii), .val (.ref a_BROKEN), .unset, .unset, .unset] []))
      refine Go.by (fun _ => XS.iloadN X1.here hx rfl (hb hby at_13) rfl) ?_
      show Go p.tables e below _ (T1.setTop (mkF m 14 #[.val (.int p0), .val (.int p1), .val (.int ii), .val (.ref a_BROKEN), .unset, .unset, .unset] [(.int ii)]))
      refine Go.by (fun _ => XS.iconst X1.here hx rfl (hb hby at_14)) ?_
      show Go p.tables e below _ (T1.setTop (mkF m 15 #[.val (.int p0), .val (.int p1), .val (.int ii), .val (.ref a_BROKEN), .unset, .unset, .unset] [(.int (1 : Int32)), (.int ii)]))
      by_cases hc15_35 : ii = (1 : Int32)
      · skip
        refine Go.by (fun _ => XS.icmpNo X1.here hx rfl (hb hby at_15) rfl (teq hc15_35).2) ?_
        show Go p.tables e below _ (T1.setTop (mkF m 18 #[.val (.int p0), .val (.int p1), .val (.int ii), .val (.ref a_BROKEN), .unset, .unset, .unset] []))
        refine Go.by (fun _ => XS.iconst X1.here hx rfl (hb hby at_18)) ?_
        show Go p.tables e below _ (T1.setTop (mkF m 19 #[.val (.int p0), .val (.int p1), .val (.int ii), .val (.ref a_BROKEN), .unset, .unset, .unset] [(.int (1 : Int32))]))
        refine Go.by (fun _ => XS.goto X1.here hx rfl (pc0 := 19) (pc' := 23) rfl (hb hby at_19) (by decide) (by decide)) ?_
        show Go p.tables e below _ (T1.setTop (mkF m 23 #[.val (.int p0), .val (.int p1), .val (.int ii), .val (.ref a_BROKEN), .unset, .unset, .unset] [(.int (1 : Int32))]))
        refine Go.by (fun _ => XS.istore X1.here hx rfl (hb hby at_23) rfl (l' := #[.val (.int p0), .val (.int p1), .val (.int ii), .val (.ref a_BROKEN), .val (.int (1 : Int32)), .unset, .unset]) rfl) ?_
        show Go p.tables e below _ (T1.setTop (mkF m 25 #[.val (.int p0), .val (.int p1), .val (.int ii), .val (.ref a_BROKEN), .val (.int (1 : Int32)), .unset, .unset] []))
        refine Go.by (fun _ => XS.aloadN X1.here hx rfl (hb hby at_25) rfl rfl) ?_
        show Go p.tables e below _ (T1.setTop (mkF m 26 #[.val (.int p0), .val (.int p1), .val (.int ii), .val (.ref a_BROKEN), .val (.int (1 : Int32)), .unset, .unset] [(.ref a_BROKEN)]))
        obtain ⟨v36, T36, h36, X36, q36, st36⟩ := X1.callV hx hZ (y := (⟨"com/example/preference_store/preferencestore/bench/Outcome", "answered", "()Z"⟩ : MethodName)) (z := (⟨"com/example/preference_store/preferencestore/bench/Outcome", "answered", "()Z"⟩ : MethodName)) hown (tw hw 7 rfl) (tw hw 8 rfl) (notFace_of_selects (args := #[]) (mvT hZ (tw hw 10 rfl))) (tw hw 10 rfl) (tw hw 9 rfl) (tw hw 5 rfl) (tw hw 11 rfl) (by decide) (rm2 l Z a0 hw [] a_BROKEN a_OK a_ERROR_STATUS a_BROKEN a_REFUSED h0 n0 Z0 S_OK E_OK S_ERROR_STATUS E_ERROR_STATUS S_BROKEN E_BROKEN S_REFUSED E_REFUSED F_ERROR_STATUS_ordinal F_OK_ordinal F_BROKEN_ordinal F_REFUSED_ordinal) E_BROKEN (g := (mkF m 26 #[.val (.int p0), .val (.int p1), .val (.int ii), .val (.ref a_BROKEN), .val (.int (1 : Int32)), .unset, .unset] [(.ref a_BROKEN)])) rfl (by rw [hml]; rfl) (argsL := []) (rest := []) (lenOf pd1 rfl) rfl (hb hby at_26) rfl (by decide) (Nat.le_of_ble_eq_true rfl) (k' := 0) (n' := 0) rfl rfl (by decide) (by decide)
        refine Go.by st36 ?_
        rcases q36 with ⟨⟨hP, rfl⟩ | ⟨hP, rfl⟩, rfl⟩
        · skip
          show Go p.tables e below _ (T36.setTop (mkF m 29 #[.val (.int p0), .val (.int p1), .val (.int ii), .val (.ref a_BROKEN), .val (.int (1 : Int32)), .unset, .unset] [(.int (1 : Int32))]))
          exfalso
          simp [nOE, nOB, nOR, nEB, nER, Ne.symm nOB, Ne.symm nOR, Ne.symm nEB, Ne.symm nER] at hP
        · skip
          show Go p.tables e below _ (T36.setTop (mkF m 29 #[.val (.int p0), .val (.int p1), .val (.int ii), .val (.ref a_BROKEN), .val (.int (1 : Int32)), .unset, .unset] [(.int (0 : Int32))]))
          refine Go.by (fun _ => XS.iload X36.here hx rfl (hb hby at_29) rfl) ?_
          show Go p.tables e below _ (T36.setTop (mkF m 31 #[.val (.int p0), .val (.int p1), .val (.int ii), .val (.ref a_BROKEN), .val (.int (1 : Int32)), .unset, .unset] [(.int (1 : Int32)), (.int (0 : Int32))]))
          refine Go.by (fun _ => XS.icmpYes X36.here hx rfl (pc0 := 31) (pc' := 38) rfl (hb hby at_31) rfl (feq (by decide)).2 (by decide) (by decide)) ?_
          show Go p.tables e below _ (T36.setTop (mkF m 38 #[.val (.int p0), .val (.int p1), .val (.int ii), .val (.ref a_BROKEN), .val (.int (1 : Int32)), .unset, .unset] []))
          refine Go.by (fun _ => XS.iconst X36.here hx rfl (hb hby at_38)) ?_
          show Go p.tables e below _ (T36.setTop (mkF m 39 #[.val (.int p0), .val (.int p1), .val (.int ii), .val (.ref a_BROKEN), .val (.int (1 : Int32)), .unset, .unset] [(.int (0 : Int32))]))
          refine Go.by (fun _ => XS.istore X36.here hx rfl (hb hby at_39) rfl (l' := #[.val (.int p0), .val (.int p1), .val (.int ii), .val (.ref a_BROKEN), .val (.int (1 : Int32)), .val (.int (0 : Int32)), .unset]) rfl) ?_
          show Go p.tables e below _ (T36.setTop (mkF m 41 #[.val (.int p0), .val (.int p1), .val (.int ii), .val (.ref a_BROKEN), .val (.int (1 : Int32)), .val (.int (0 : Int32)), .unset] []))
          refine Go.by (fun _ => XS.iloadN X36.here hx rfl (hb hby at_41) rfl) ?_
          show Go p.tables e below _ (T36.setTop (mkF m 42 #[.val (.int p0), .val (.int p1), .val (.int ii), .val (.ref a_BROKEN), .val (.int (1 : Int32)), .val (.int (0 : Int32)), .unset] [(.int p1)]))
          obtain ⟨v37, T37, h37, X37, q37, st37⟩ := X36.callS hx hZ (y := (⟨"com/example/preference_store/preferencestore/bench/Outcome", "ofStatus", "(I)Lcom/example/preference_store/preferencestore/bench/Outcome;"⟩ : MethodName)) hown (tw hw 13 rfl) (tw hw 14 rfl) (tw hw 5 rfl) (tw hw 15 rfl) (by decide) (rm3 l Z a0 hw [] p1 a_OK a_ERROR_STATUS a_BROKEN a_REFUSED h0 n0 Z0 S_OK E_OK S_ERROR_STATUS E_ERROR_STATUS S_BROKEN E_BROKEN S_REFUSED E_REFUSED F_ERROR_STATUS_ordinal F_OK_ordinal F_BROKEN_ordinal F_REFUSED_ordinal) (g := (mkF m 42 #[.val (.int p0), .val (.int p1), .val (.int ii), .val (.ref a_BROKEN), .val (.int (1 : Int32)), .val (.int (0 : Int32)), .unset] [(.int p1)])) rfl (by rw [hml]; rfl) (argsL := [(.int p1)]) (rest := []) (lenOf pd0 rfl) rfl (hb hby at_42) rfl (by decide) (Nat.le_of_ble_eq_true rfl) (k' := 0) (n' := 0) rfl rfl (by decide) (by decide)
          refine Go.by st37 ?_
          rcases q37 with ⟨rfl | rfl, rfl⟩
          · skip
            show Go p.tables e below _ (T37.setTop (mkF m 45 #[.val (.int p0), .val (.int p1), .val (.int ii), .val (.ref a_BROKEN), .val (.int (1 : Int32)), .val (.int (0 : Int32)), .unset] [(.ref a_OK)]))
            obtain ⟨v38, T38, h38, X38, q38, st38⟩ := X37.callV hx hZ (y := (⟨"com/example/preference_store/preferencestore/bench/Outcome", "answered", "()Z"⟩ : MethodName)) (z := (⟨"com/example/preference_store/preferencestore/bench/Outcome", "answered", "()Z"⟩ : MethodName)) hown (tw hw 7 rfl) (tw hw 8 rfl) (notFace_of_selects (args := #[]) (mvT hZ (tw hw 10 rfl))) (tw hw 10 rfl) (tw hw 9 rfl) (tw hw 5 rfl) (tw hw 11 rfl) (by decide) (rm2 l Z a0 hw [] a_OK a_OK a_ERROR_STATUS a_BROKEN a_REFUSED h0 n0 Z0 S_OK E_OK S_ERROR_STATUS E_ERROR_STATUS S_BROKEN E_BROKEN S_REFUSED E_REFUSED F_ERROR_STATUS_ordinal F_OK_ordinal F_BROKEN_ordinal F_REFUSED_ordinal) E_OK (g := (mkF m 45 #[.val (.int p0), .val (.int p1), .val (.int ii), .val (.ref a_BROKEN), .val (.int (1 : Int32)), .val (.int (0 : Int32)), .unset] [(.ref a_OK)])) rfl (by rw [hml]; rfl) (argsL := []) (rest := []) (lenOf pd1 rfl) rfl (hb hby at_45) rfl (by decide) (Nat.le_of_ble_eq_true rfl) (k' := 0) (n' := 0) rfl rfl (by decide) (by decide)
            refine Go.by st38 ?_
            rcases q38 with ⟨⟨hP, rfl⟩ | ⟨hP, rfl⟩, rfl⟩
            · skip
              show Go p.tables e below _ (T38.setTop (mkF m 48 #[.val (.int p0), .val (.int p1), .val (.int ii), .val (.ref a_BROKEN), .val (.int (1 : Int32)), .val (.int (0 : Int32)), .unset] [(.int (1 : Int32))]))
              refine Go.by (fun _ => XS.istore X38.here hx rfl (hb hby at_48) rfl (l' := #[.val (.int p0), .val (.int p1), .val (.int ii), .val (.ref a_BROKEN), .val (.int (1 : Int32)), .val (.int (0 : Int32)), .val (.int (1 : Int32))]) rfl) ?_
              show Go p.tables e below _ (T38.setTop (mkF m 50 #[.val (.int p0), .val (.int p1), .val (.int ii), .val (.ref a_BROKEN), .val (.int (1 : Int32)), .val (.int (0 : Int32)), .val (.int (1 : Int32))] []))
              refine Go.by (fun _ => XS.iload X38.here hx rfl (hb hby at_50) rfl) ?_
              show Go p.tables e below _ (T38.setTop (mkF m 52 #[.val (.int p0), .val (.int p1), .val (.int ii), .val (.ref a_BROKEN), .val (.int (1 : Int32)), .val (.int (0 : Int32)), .val (.int (1 : Int32))] [(.int (0 : Int32))]))
              refine Go.by (fun _ => XS.ifYes X38.here hx rfl (pc0 := 52) (pc' := 64) rfl (hb hby at_52) rfl ((if0 _ _).trans (teq (by decide)).1) (by decide) (by decide)) ?_
              show Go p.tables e below _ (T38.setTop (mkF m 64 #[.val (.int p0), .val (.int p1), .val (.int ii), .val (.ref a_BROKEN), .val (.int (1 : Int32)), .val (.int (0 : Int32)), .val (.int (1 : Int32))] []))
              refine Go.by (fun _ => XS.iconst X38.here hx rfl (hb hby at_64)) ?_
              show Go p.tables e below _ (T38.setTop (mkF m 65 #[.val (.int p0), .val (.int p1), .val (.int ii), .val (.ref a_BROKEN), .val (.int (1 : Int32)), .val (.int (0 : Int32)), .val (.int (1 : Int32))] [(.int (0 : Int32))]))
              refine Go.retN X38 hx hlk (z' := (0 : Int32)) hret (by simp) (hb hby at_65) rfl (by decide) (by decide) ?_
              exfalso
              simp only [Int32.lt_iff_toInt_lt, ← Int32.toInt_inj, Int32.reduceToInt] at h1 h2 h3 hc10_30 hc15_35
              omega
            · skip
              show Go p.tables e below _ (T38.setTop (mkF m 48 #[.val (.int p0), .val (.int p1), .val (.int ii), .val (.ref a_BROKEN), .val (.int (1 : Int32)), .val (.int (0 : Int32)), .unset] [(.int (0 : Int32))]))
              exfalso
              simp [nOE, nOB, nOR, nEB, nER, Ne.symm nOB, Ne.symm nOR, Ne.symm nEB, Ne.symm nER] at hP
          · skip
            show Go p.tables e below _ (T37.setTop (mkF m 45 #[.val (.int p0), .val (.int p1), .val (.int ii), .val (.ref a_BROKEN), .val (.int (1 : Int32)), .val (.int (0 : Int32)), .unset] [(.ref a_ERROR_STATUS)]))
            obtain ⟨v39, T39, h39, X39, q39, st39⟩ := X37.callV hx hZ (y := (⟨"com/example/preference_store/preferencestore/bench/Outcome", "answered", "()Z"⟩ : MethodName)) (z := (⟨"com/example/preference_store/preferencestore/bench/Outcome", "answered", "()Z"⟩ : MethodName)) hown (tw hw 7 rfl) (tw hw 8 rfl) (notFace_of_selects (args := #[]) (mvT hZ (tw hw 10 rfl))) (tw hw 10 rfl) (tw hw 9 rfl) (tw hw 5 rfl) (tw hw 11 rfl) (by decide) (rm2 l Z a0 hw [] a_ERROR_STATUS a_OK a_ERROR_STATUS a_BROKEN a_REFUSED h0 n0 Z0 S_OK E_OK S_ERROR_STATUS E_ERROR_STATUS S_BROKEN E_BROKEN S_REFUSED E_REFUSED F_ERROR_STATUS_ordinal F_OK_ordinal F_BROKEN_ordinal F_REFUSED_ordinal) E_ERROR_STATUS (g := (mkF m 45 #[.val (.int p0), .val (.int p1), .val (.int ii), .val (.ref a_BROKEN), .val (.int (1 : Int32)), .val (.int (0 : Int32)), .unset] [(.ref a_ERROR_STATUS)])) rfl (by rw [hml]; rfl) (argsL := []) (rest := []) (lenOf pd1 rfl) rfl (hb hby at_45) rfl (by decide) (Nat.le_of_ble_eq_true rfl) (k' := 0) (n' := 0) rfl rfl (by decide) (by decide)
            refine Go.by st39 ?_
            rcases q39 with ⟨⟨hP, rfl⟩ | ⟨hP, rfl⟩, rfl⟩
            · skip
              show Go p.tables e below _ (T39.setTop (mkF m 48 #[.val (.int p0), .val (.int p1), .val (.int ii), .val (.ref a_BROKEN), .val (.int (1 : Int32)), .val (.int (0 : Int32)), .unset] [(.int (1 : Int32))]))
              refine Go.by (fun _ => XS.istore X39.here hx rfl (hb hby at_48) rfl (l' := #[.val (.int p0), .val (.int p1), .val (.int ii), .val (.ref a_BROKEN), .val (.int (1 : Int32)), .val (.int (0 : Int32)), .val (.int (1 : Int32))]) rfl) ?_
              show Go p.tables e below _ (T39.setTop (mkF m 50 #[.val (.int p0), .val (.int p1), .val (.int ii), .val (.ref a_BROKEN), .val (.int (1 : Int32)), .val (.int (0 : Int32)), .val (.int (1 : Int32))] []))
              refine Go.by (fun _ => XS.iload X39.here hx rfl (hb hby at_50) rfl) ?_
              show Go p.tables e below _ (T39.setTop (mkF m 52 #[.val (.int p0), .val (.int p1), .val (.int ii), .val (.ref a_BROKEN), .val (.int (1 : Int32)), .val (.int (0 : Int32)), .val (.int (1 : Int32))] [(.int (0 : Int32))]))
              refine Go.by (fun _ => XS.ifYes X39.here hx rfl (pc0 := 52) (pc' := 64) rfl (hb hby at_52) rfl ((if0 _ _).trans (teq (by decide)).1) (by decide) (by decide)) ?_
              show Go p.tables e below _ (T39.setTop (mkF m 64 #[.val (.int p0), .val (.int p1), .val (.int ii), .val (.ref a_BROKEN), .val (.int (1 : Int32)), .val (.int (0 : Int32)), .val (.int (1 : Int32))] []))
              refine Go.by (fun _ => XS.iconst X39.here hx rfl (hb hby at_64)) ?_
              show Go p.tables e below _ (T39.setTop (mkF m 65 #[.val (.int p0), .val (.int p1), .val (.int ii), .val (.ref a_BROKEN), .val (.int (1 : Int32)), .val (.int (0 : Int32)), .val (.int (1 : Int32))] [(.int (0 : Int32))]))
              refine Go.retN X39 hx hlk (z' := (0 : Int32)) hret (by simp) (hb hby at_65) rfl (by decide) (by decide) ?_
              exfalso
              simp only [Int32.lt_iff_toInt_lt, ← Int32.toInt_inj, Int32.reduceToInt] at h1 h2 h3 hc10_30 hc15_35
              omega
            · skip
              show Go p.tables e below _ (T39.setTop (mkF m 48 #[.val (.int p0), .val (.int p1), .val (.int ii), .val (.ref a_BROKEN), .val (.int (1 : Int32)), .val (.int (0 : Int32)), .unset] [(.int (0 : Int32))]))
              exfalso
              simp [nOE, nOB, nOR, nEB, nER, Ne.symm nOB, Ne.symm nOR, Ne.symm nEB, Ne.symm nER] at hP
      · skip
        refine Go.by (fun _ => XS.icmpYes X1.here hx rfl (pc0 := 15) (pc' := 22) rfl (hb hby at_15) rfl (feq hc15_35).2 (by decide) (by decide)) ?_
        show Go p.tables e below _ (T1.setTop (mkF m 22 #[.val (.int p0), .val (.int p1), .val (.int ii), .val (.ref a_BROKEN), .unset, .unset, .unset] []))
        refine Go.by (fun _ => XS.iconst X1.here hx rfl (hb hby at_22)) ?_
        show Go p.tables e below _ (T1.setTop (mkF m 23 #[.val (.int p0), .val (.int p1), .val (.int ii), .val (.ref a_BROKEN), .unset, .unset, .unset] [(.int (0 : Int32))]))
        refine Go.by (fun _ => XS.istore X1.here hx rfl (hb hby at_23) rfl (l' := #[.val (.int p0), .val (.int p1), .val (.int ii), .val (.ref a_BROKEN), .val (.int (0 : Int32)), .unset, .unset]) rfl) ?_
        show Go p.tables e below _ (T1.setTop (mkF m 25 #[.val (.int p0), .val (.int p1), .val (.int ii), .val (.ref a_BROKEN), .val (.int (0 : Int32)), .unset, .unset] []))
        refine Go.by (fun _ => XS.aloadN X1.here hx rfl (hb hby at_25) rfl rfl) ?_
        show Go p.tables e below _ (T1.setTop (mkF m 26 #[.val (.int p0), .val (.int p1), .val (.int ii), .val (.ref a_BROKEN), .val (.int (0 : Int32)), .unset, .unset] [(.ref a_BROKEN)]))
        obtain ⟨v40, T40, h40, X40, q40, st40⟩ := X1.callV hx hZ (y := (⟨"com/example/preference_store/preferencestore/bench/Outcome", "answered", "()Z"⟩ : MethodName)) (z := (⟨"com/example/preference_store/preferencestore/bench/Outcome", "answered", "()Z"⟩ : MethodName)) hown (tw hw 7 rfl) (tw hw 8 rfl) (notFace_of_selects (args := #[]) (mvT hZ (tw hw 10 rfl))) (tw hw 10 rfl) (tw hw 9 rfl) (tw hw 5 rfl) (tw hw 11 rfl) (by decide) (rm2 l Z a0 hw [] a_BROKEN a_OK a_ERROR_STATUS a_BROKEN a_REFUSED h0 n0 Z0 S_OK E_OK S_ERROR_STATUS E_ERROR_STATUS S_BROKEN E_BROKEN S_REFUSED E_REFUSED F_ERROR_STATUS_ordinal F_OK_ordinal F_BROKEN_ordinal F_REFUSED_ordinal) E_BROKEN (g := (mkF m 26 #[.val (.int p0), .val (.int p1), .val (.int ii), .val (.ref a_BROKEN), .val (.int (0 : Int32)), .unset, .unset] [(.ref a_BROKEN)])) rfl (by rw [hml]; rfl) (argsL := []) (rest := []) (lenOf pd1 rfl) rfl (hb hby at_26) rfl (by decide) (Nat.le_of_ble_eq_true rfl) (k' := 0) (n' := 0) rfl rfl (by decide) (by decide)
        refine Go.by st40 ?_
        rcases q40 with ⟨⟨hP, rfl⟩ | ⟨hP, rfl⟩, rfl⟩
        · skip
          show Go p.tables e below _ (T40.setTop (mkF m 29 #[.val (.int p0), .val (.int p1), .val (.int ii), .val (.ref a_BROKEN), .val (.int (0 : Int32)), .unset, .unset] [(.int (1 : Int32))]))
          exfalso
          simp [nOE, nOB, nOR, nEB, nER, Ne.symm nOB, Ne.symm nOR, Ne.symm nEB, Ne.symm nER] at hP
        · skip
          show Go p.tables e below _ (T40.setTop (mkF m 29 #[.val (.int p0), .val (.int p1), .val (.int ii), .val (.ref a_BROKEN), .val (.int (0 : Int32)), .unset, .unset] [(.int (0 : Int32))]))
          refine Go.by (fun _ => XS.iload X40.here hx rfl (hb hby at_29) rfl) ?_
          show Go p.tables e below _ (T40.setTop (mkF m 31 #[.val (.int p0), .val (.int p1), .val (.int ii), .val (.ref a_BROKEN), .val (.int (0 : Int32)), .unset, .unset] [(.int (0 : Int32)), (.int (0 : Int32))]))
          refine Go.by (fun _ => XS.icmpNo X40.here hx rfl (hb hby at_31) rfl (teq (by decide)).2) ?_
          show Go p.tables e below _ (T40.setTop (mkF m 34 #[.val (.int p0), .val (.int p1), .val (.int ii), .val (.ref a_BROKEN), .val (.int (0 : Int32)), .unset, .unset] []))
          refine Go.by (fun _ => XS.iconst X40.here hx rfl (hb hby at_34)) ?_
          show Go p.tables e below _ (T40.setTop (mkF m 35 #[.val (.int p0), .val (.int p1), .val (.int ii), .val (.ref a_BROKEN), .val (.int (0 : Int32)), .unset, .unset] [(.int (1 : Int32))]))
          refine Go.by (fun _ => XS.goto X40.here hx rfl (pc0 := 35) (pc' := 39) rfl (hb hby at_35) (by decide) (by decide)) ?_
          show Go p.tables e below _ (T40.setTop (mkF m 39 #[.val (.int p0), .val (.int p1), .val (.int ii), .val (.ref a_BROKEN), .val (.int (0 : Int32)), .unset, .unset] [(.int (1 : Int32))]))
          refine Go.by (fun _ => XS.istore X40.here hx rfl (hb hby at_39) rfl (l' := #[.val (.int p0), .val (.int p1), .val (.int ii), .val (.ref a_BROKEN), .val (.int (0 : Int32)), .val (.int (1 : Int32)), .unset]) rfl) ?_
          show Go p.tables e below _ (T40.setTop (mkF m 41 #[.val (.int p0), .val (.int p1), .val (.int ii), .val (.ref a_BROKEN), .val (.int (0 : Int32)), .val (.int (1 : Int32)), .unset] []))
          refine Go.by (fun _ => XS.iloadN X40.here hx rfl (hb hby at_41) rfl) ?_
          show Go p.tables e below _ (T40.setTop (mkF m 42 #[.val (.int p0), .val (.int p1), .val (.int ii), .val (.ref a_BROKEN), .val (.int (0 : Int32)), .val (.int (1 : Int32)), .unset] [(.int p1)]))
          obtain ⟨v41, T41, h41, X41, q41, st41⟩ := X40.callS hx hZ (y := (⟨"com/example/preference_store/preferencestore/bench/Outcome", "ofStatus", "(I)Lcom/example/preference_store/preferencestore/bench/Outcome;"⟩ : MethodName)) hown (tw hw 13 rfl) (tw hw 14 rfl) (tw hw 5 rfl) (tw hw 15 rfl) (by decide) (rm3 l Z a0 hw [] p1 a_OK a_ERROR_STATUS a_BROKEN a_REFUSED h0 n0 Z0 S_OK E_OK S_ERROR_STATUS E_ERROR_STATUS S_BROKEN E_BROKEN S_REFUSED E_REFUSED F_ERROR_STATUS_ordinal F_OK_ordinal F_BROKEN_ordinal F_REFUSED_ordinal) (g := (mkF m 42 #[.val (.int p0), .val (.int p1), .val (.int ii), .val (.ref a_BROKEN), .val (.int (0 : Int32)), .val (.int (1 : Int32)), .unset] [(.int p1)])) rfl (by rw [hml]; rfl) (argsL := [(.int p1)]) (rest := []) (lenOf pd0 rfl) rfl (hb hby at_42) rfl (by decide) (Nat.le_of_ble_eq_true rfl) (k' := 0) (n' := 0) rfl rfl (by decide) (by decide)
          refine Go.by st41 ?_
          rcases q41 with ⟨rfl | rfl, rfl⟩
          · skip
            show Go p.tables e below _ (T41.setTop (mkF m 45 #[.val (.int p0), .val (.int p1), .val (.int ii), .val (.ref a_BROKEN), .val (.int (0 : Int32)), .val (.int (1 : Int32)), .unset] [(.ref a_OK)]))
            obtain ⟨v42, T42, h42, X42, q42, st42⟩ := X41.callV hx hZ (y := (⟨"com/example/preference_store/preferencestore/bench/Outcome", "answered", "()Z"⟩ : MethodName)) (z := (⟨"com/example/preference_store/preferencestore/bench/Outcome", "answered", "()Z"⟩ : MethodName)) hown (tw hw 7 rfl) (tw hw 8 rfl) (notFace_of_selects (args := #[]) (mvT hZ (tw hw 10 rfl))) (tw hw 10 rfl) (tw hw 9 rfl) (tw hw 5 rfl) (tw hw 11 rfl) (by decide) (rm2 l Z a0 hw [] a_OK a_OK a_ERROR_STATUS a_BROKEN a_REFUSED h0 n0 Z0 S_OK E_OK S_ERROR_STATUS E_ERROR_STATUS S_BROKEN E_BROKEN S_REFUSED E_REFUSED F_ERROR_STATUS_ordinal F_OK_ordinal F_BROKEN_ordinal F_REFUSED_ordinal) E_OK (g := (mkF m 45 #[.val (.int p0), .val (.int p1), .val (.int ii), .val (.ref a_BROKEN), .val (.int (0 : Int32)), .val (.int (1 : Int32)), .unset] [(.ref a_OK)])) rfl (by rw [hml]; rfl) (argsL := []) (rest := []) (lenOf pd1 rfl) rfl (hb hby at_45) rfl (by decide) (Nat.le_of_ble_eq_true rfl) (k' := 0) (n' := 0) rfl rfl (by decide) (by decide)
            refine Go.by st42 ?_
            rcases q42 with ⟨⟨hP, rfl⟩ | ⟨hP, rfl⟩, rfl⟩
            · skip
              show Go p.tables e below _ (T42.setTop (mkF m 48 #[.val (.int p0), .val (.int p1), .val (.int ii), .val (.ref a_BROKEN), .val (.int (0 : Int32)), .val (.int (1 : Int32)), .unset] [(.int (1 : Int32))]))
              refine Go.by (fun _ => XS.istore X42.here hx rfl (hb hby at_48) rfl (l' := #[.val (.int p0), .val (.int p1), .val (.int ii), .val (.ref a_BROKEN), .val (.int (0 : Int32)), .val (.int (1 : Int32)), .val (.int (1 : Int32))]) rfl) ?_
              show Go p.tables e below _ (T42.setTop (mkF m 50 #[.val (.int p0), .val (.int p1), .val (.int ii), .val (.ref a_BROKEN), .val (.int (0 : Int32)), .val (.int (1 : Int32)), .val (.int (1 : Int32))] []))
              refine Go.by (fun _ => XS.iload X42.here hx rfl (hb hby at_50) rfl) ?_
              show Go p.tables e below _ (T42.setTop (mkF m 52 #[.val (.int p0), .val (.int p1), .val (.int ii), .val (.ref a_BROKEN), .val (.int (0 : Int32)), .val (.int (1 : Int32)), .val (.int (1 : Int32))] [(.int (1 : Int32))]))
              refine Go.by (fun _ => XS.ifNo X42.here hx rfl (hb hby at_52) rfl ((if0 _ _).trans (feq (by decide)).1)) ?_
              show Go p.tables e below _ (T42.setTop (mkF m 55 #[.val (.int p0), .val (.int p1), .val (.int ii), .val (.ref a_BROKEN), .val (.int (0 : Int32)), .val (.int (1 : Int32)), .val (.int (1 : Int32))] []))
              refine Go.by (fun _ => XS.iload X42.here hx rfl (hb hby at_55) rfl) ?_
              show Go p.tables e below _ (T42.setTop (mkF m 57 #[.val (.int p0), .val (.int p1), .val (.int ii), .val (.ref a_BROKEN), .val (.int (0 : Int32)), .val (.int (1 : Int32)), .val (.int (1 : Int32))] [(.int (1 : Int32))]))
              refine Go.by (fun _ => XS.ifNo X42.here hx rfl (hb hby at_57) rfl ((if0 _ _).trans (feq (by decide)).1)) ?_
              show Go p.tables e below _ (T42.setTop (mkF m 60 #[.val (.int p0), .val (.int p1), .val (.int ii), .val (.ref a_BROKEN), .val (.int (0 : Int32)), .val (.int (1 : Int32)), .val (.int (1 : Int32))] []))
              refine Go.by (fun _ => XS.iconst X42.here hx rfl (hb hby at_60)) ?_
              show Go p.tables e below _ (T42.setTop (mkF m 61 #[.val (.int p0), .val (.int p1), .val (.int ii), .val (.ref a_BROKEN), .val (.int (0 : Int32)), .val (.int (1 : Int32)), .val (.int (1 : Int32))] [(.int (1 : Int32))]))
              refine Go.by (fun _ => XS.goto X42.here hx rfl (pc0 := 61) (pc' := 65) rfl (hb hby at_61) (by decide) (by decide)) ?_
              show Go p.tables e below _ (T42.setTop (mkF m 65 #[.val (.int p0), .val (.int p1), .val (.int ii), .val (.ref a_BROKEN), .val (.int (0 : Int32)), .val (.int (1 : Int32)), .val (.int (1 : Int32))] [(.int (1 : Int32))]))
              exact Go.retN X42 hx hlk (z' := (1 : Int32)) hret (by simp) (hb hby at_65) rfl (by decide) (by decide) rfl
            · skip
              show Go p.tables e below _ (T42.setTop (mkF m 48 #[.val (.int p0), .val (.int p1), .val (.int ii), .val (.ref a_BROKEN), .val (.int (0 : Int32)), .val (.int (1 : Int32)), .unset] [(.int (0 : Int32))]))
              exfalso
              simp [nOE, nOB, nOR, nEB, nER, Ne.symm nOB, Ne.symm nOR, Ne.symm nEB, Ne.symm nER] at hP
          · skip
            show Go p.tables e below _ (T41.setTop (mkF m 45 #[.val (.int p0), .val (.int p1), .val (.int ii), .val (.ref a_BROKEN), .val (.int (0 : Int32)), .val (.int (1 : Int32)), .unset] [(.ref a_ERROR_STATUS)]))
            obtain ⟨v43, T43, h43, X43, q43, st43⟩ := X41.callV hx hZ (y := (⟨"com/example/preference_store/preferencestore/bench/Outcome", "answered", "()Z"⟩ : MethodName)) (z := (⟨"com/example/preference_store/preferencestore/bench/Outcome", "answered", "()Z"⟩ : MethodName)) hown (tw hw 7 rfl) (tw hw 8 rfl) (notFace_of_selects (args := #[]) (mvT hZ (tw hw 10 rfl))) (tw hw 10 rfl) (tw hw 9 rfl) (tw hw 5 rfl) (tw hw 11 rfl) (by decide) (rm2 l Z a0 hw [] a_ERROR_STATUS a_OK a_ERROR_STATUS a_BROKEN a_REFUSED h0 n0 Z0 S_OK E_OK S_ERROR_STATUS E_ERROR_STATUS S_BROKEN E_BROKEN S_REFUSED E_REFUSED F_ERROR_STATUS_ordinal F_OK_ordinal F_BROKEN_ordinal F_REFUSED_ordinal) E_ERROR_STATUS (g := (mkF m 45 #[.val (.int p0), .val (.int p1), .val (.int ii), .val (.ref a_BROKEN), .val (.int (0 : Int32)), .val (.int (1 : Int32)), .unset] [(.ref a_ERROR_STATUS)])) rfl (by rw [hml]; rfl) (argsL := []) (rest := []) (lenOf pd1 rfl) rfl (hb hby at_45) rfl (by decide) (Nat.le_of_ble_eq_true rfl) (k' := 0) (n' := 0) rfl rfl (by decide) (by decide)
            refine Go.by st43 ?_
            rcases q43 with ⟨⟨hP, rfl⟩ | ⟨hP, rfl⟩, rfl⟩
            · skip
              show Go p.tables e below _ (T43.setTop (mkF m 48 #[.val (.int p0), .val (.int p1), .val (.int ii), .val (.ref a_BROKEN), .val (.int (0 : Int32)), .val (.int (1 : Int32)), .unset] [(.int (1 : Int32))]))
              refine Go.by (fun _ => XS.istore X43.here hx rfl (hb hby at_48) rfl (l' := #[.val (.int p0), .val (.int p1), .val (.int ii), .val (.ref a_BROKEN), .val (.int (0 : Int32)), .val (.int (1 : Int32)), .val (.int (1 : Int32))]) rfl) ?_
              show Go p.tables e below _ (T43.setTop (mkF m 50 #[.val (.int p0), .val (.int p1), .val (.int ii), .val (.ref a_BROKEN), .val (.int (0 : Int32)), .val (.int (1 : Int32)), .val (.int (1 : Int32))] []))
              refine Go.by (fun _ => XS.iload X43.here hx rfl (hb hby at_50) rfl) ?_
              show Go p.tables e below _ (T43.setTop (mkF m 52 #[.val (.int p0), .val (.int p1), .val (.int ii), .val (.ref a_BROKEN), .val (.int (0 : Int32)), .val (.int (1 : Int32)), .val (.int (1 : Int32))] [(.int (1 : Int32))]))
              refine Go.by (fun _ => XS.ifNo X43.here hx rfl (hb hby at_52) rfl ((if0 _ _).trans (feq (by decide)).1)) ?_
              show Go p.tables e below _ (T43.setTop (mkF m 55 #[.val (.int p0), .val (.int p1), .val (.int ii), .val (.ref a_BROKEN), .val (.int (0 : Int32)), .val (.int (1 : Int32)), .val (.int (1 : Int32))] []))
              refine Go.by (fun _ => XS.iload X43.here hx rfl (hb hby at_55) rfl) ?_
              show Go p.tables e below _ (T43.setTop (mkF m 57 #[.val (.int p0), .val (.int p1), .val (.int ii), .val (.ref a_BROKEN), .val (.int (0 : Int32)), .val (.int (1 : Int32)), .val (.int (1 : Int32))] [(.int (1 : Int32))]))
              refine Go.by (fun _ => XS.ifNo X43.here hx rfl (hb hby at_57) rfl ((if0 _ _).trans (feq (by decide)).1)) ?_
              show Go p.tables e below _ (T43.setTop (mkF m 60 #[.val (.int p0), .val (.int p1), .val (.int ii), .val (.ref a_BROKEN), .val (.int (0 : Int32)), .val (.int (1 : Int32)), .val (.int (1 : Int32))] []))
              refine Go.by (fun _ => XS.iconst X43.here hx rfl (hb hby at_60)) ?_
              show Go p.tables e below _ (T43.setTop (mkF m 61 #[.val (.int p0), .val (.int p1), .val (.int ii), .val (.ref a_BROKEN), .val (.int (0 : Int32)), .val (.int (1 : Int32)), .val (.int (1 : Int32))] [(.int (1 : Int32))]))
              refine Go.by (fun _ => XS.goto X43.here hx rfl (pc0 := 61) (pc' := 65) rfl (hb hby at_61) (by decide) (by decide)) ?_
              show Go p.tables e below _ (T43.setTop (mkF m 65 #[.val (.int p0), .val (.int p1), .val (.int ii), .val (.ref a_BROKEN), .val (.int (0 : Int32)), .val (.int (1 : Int32)), .val (.int (1 : Int32))] [(.int (1 : Int32))]))
              exact Go.retN X43 hx hlk (z' := (1 : Int32)) hret (by simp) (hb hby at_65) rfl (by decide) (by decide) rfl
            · skip
              show Go p.tables e below _ (T43.setTop (mkF m 48 #[.val (.int p0), .val (.int p1), .val (.int ii), .val (.ref a_BROKEN), .val (.int (0 : Int32)), .val (.int (1 : Int32)), .unset] [(.int (0 : Int32))]))
              exfalso
              simp [nOE, nOB, nOR, nEB, nER, Ne.symm nOB, Ne.symm nOR, Ne.symm nEB, Ne.symm nER] at hP
  · skip
    show Go p.tables e below _ (T1.setTop (mkF m 8 #[.val (.int p0), .val (.int p1), .val (.int ii), .unset, .unset, .unset, .unset] [(.ref a_REFUSED)]))
    refine Go.by (fun _ => XS.astoreN X1.here hx rfl (hb hby at_8) rfl rfl (l' := #[.val (.int p0), .val (.int p1), .val (.int ii), .val (.ref a_REFUSED), .unset, .unset, .unset]) rfl) ?_
    show Go p.tables e below _ (T1.setTop (mkF m 9 #[.val (.int p0), .val (.int p1), .val (.int ii), .val (.ref a_REFUSED), .unset, .unset, .unset] []))
    refine Go.by (fun _ => XS.iloadN X1.here hx rfl (hb hby at_9) rfl) ?_
    show Go p.tables e below _ (T1.setTop (mkF m 10 #[.val (.int p0), .val (.int p1), .val (.int ii), .val (.ref a_REFUSED), .unset, .unset, .unset] [(.int ii)]))
    by_cases hc10_44 : ii = (0 : Int32)
    · skip
      refine Go.by (fun _ => XS.ifYes X1.here hx rfl (pc0 := 10) (pc' := 18) rfl (hb hby at_10) rfl ((if0 _ _).trans (teq hc10_44).1) (by decide) (by decide)) ?_
      show Go p.tables e below _ (T1.setTop (mkF m 18 #[.val (.int p0), .val (.int p1), .val (.int ii), .val (.ref a_REFUSED), .unset, .unset, .unset] []))
      refine Go.by (fun _ => XS.iconst X1.here hx rfl (hb hby at_18)) ?_
      show Go p.tables e below _ (T1.setTop (mkF m 19 #[.val (.int p0), .val (.int p1), .val (.int ii), .val (.ref a_REFUSED), .unset, .unset, .unset] [(.int (1 : Int32))]))
      refine Go.by (fun _ => XS.goto X1.here hx rfl (pc0 := 19) (pc' := 23) rfl (hb hby at_19) (by decide) (by decide)) ?_
      show Go p.tables e below _ (T1.setTop (mkF m 23 #[.val (.int p0), .val (.int p1), .val (.int ii), .val (.ref a_REFUSED), .unset, .unset, .unset] [(.int (1 : Int32))]))
      refine Go.by (fun _ => XS.istore X1.here hx rfl (hb hby at_23) rfl (l' := #[.val (.int p0), .val (.int p1), .val (.int ii), .val (.ref a_REFUSED), .val (.int (1 : Int32)), .unset, .unset]) rfl) ?_
      show Go p.tables e below _ (T1.setTop (mkF m 25 #[.val (.int p0), .val (.int p1), .val (.int ii), .val (.ref a_REFUSED), .val (.int (1 : Int32)), .unset, .unset] []))
      refine Go.by (fun _ => XS.aloadN X1.here hx rfl (hb hby at_25) rfl rfl) ?_
      show Go p.tables e below _ (T1.setTop (mkF m 26 #[.val (.int p0), .val (.int p1), .val (.int ii), .val (.ref a_REFUSED), .val (.int (1 : Int32)), .unset, .unset] [(.ref a_REFUSED)]))
      obtain ⟨v45, T45, h45, X45, q45, st45⟩ := X1.callV hx hZ (y := (⟨"com/example/preference_store/preferencestore/bench/Outcome", "answered", "()Z"⟩ : MethodName)) (z := (⟨"com/example/preference_store/preferencestore/bench/Outcome", "answered", "()Z"⟩ : MethodName)) hown (tw hw 7 rfl) (tw hw 8 rfl) (notFace_of_selects (args := #[]) (mvT hZ (tw hw 10 rfl))) (tw hw 10 rfl) (tw hw 9 rfl) (tw hw 5 rfl) (tw hw 11 rfl) (by decide) (rm2 l Z a0 hw [] a_REFUSED a_OK a_ERROR_STATUS a_BROKEN a_REFUSED h0 n0 Z0 S_OK E_OK S_ERROR_STATUS E_ERROR_STATUS S_BROKEN E_BROKEN S_REFUSED E_REFUSED F_ERROR_STATUS_ordinal F_OK_ordinal F_BROKEN_ordinal F_REFUSED_ordinal) E_REFUSED (g := (mkF m 26 #[.val (.int p0), .val (.int p1), .val (.int ii), .val (.ref a_REFUSED), .val (.int (1 : Int32)), .unset, .unset] [(.ref a_REFUSED)])) rfl (by rw [hml]; rfl) (argsL := []) (rest := []) (lenOf pd1 rfl) rfl (hb hby at_26) rfl (by decide) (Nat.le_of_ble_eq_true rfl) (k' := 0) (n' := 0) rfl rfl (by decide) (by decide)
      refine Go.by st45 ?_
      rcases q45 with ⟨⟨hP, rfl⟩ | ⟨hP, rfl⟩, rfl⟩
      · skip
        show Go p.tables e below _ (T45.setTop (mkF m 29 #[.val (.int p0), .val (.int p1), .val (.int ii), .val (.ref a_REFUSED), .val (.int (1 : Int32)), .unset, .unset] [(.int (1 : Int32))]))
        exfalso
        simp [nOE, nOB, nOR, nEB, nER, Ne.symm nOB, Ne.symm nOR, Ne.symm nEB, Ne.symm nER] at hP
      · skip
        show Go p.tables e below _ (T45.setTop (mkF m 29 #[.val (.int p0), .val (.int p1), .val (.int ii), .val (.ref a_REFUSED), .val (.int (1 : Int32)), .unset, .unset] [(.int (0 : Int32))]))
        refine Go.by (fun _ => XS.iload X45.here hx rfl (hb hby at_29) rfl) ?_
        show Go p.tables e below _ (T45.setTop (mkF m 31 #[.val (.int p0), .val (.int p1), .val (.int ii), .val (.ref a_REFUSED), .val (.int (1 : Int32)), .unset, .unset] [(.int (1 : Int32)), (.int (0 : Int32))]))
        refine Go.by (fun _ => XS.icmpYes X45.here hx rfl (pc0 := 31) (pc' := 38) rfl (hb hby at_31) rfl (feq (by decide)).2 (by decide) (by decide)) ?_
        show Go p.tables e below _ (T45.setTop (mkF m 38 #[.val (.int p0), .val (.int p1), .val (.int ii), .val (.ref a_REFUSED), .val (.int (1 : Int32)), .unset, .unset] []))
        refine Go.by (fun _ => XS.iconst X45.here hx rfl (hb hby at_38)) ?_
        show Go p.tables e below _ (T45.setTop (mkF m 39 #[.val (.int p0), .val (.int p1), .val (.int ii), .val (.ref a_REFUSED), .val (.int (1 : Int32)), .unset, .unset] [(.int (0 : Int32))]))
        refine Go.by (fun _ => XS.istore X45.here hx rfl (hb hby at_39) rfl (l' := #[.val (.int p0), .val (.int p1), .val (.int ii), .val (.ref a_REFUSED), .val (.int (1 : Int32)), .val (.int (0 : Int32)), .unset]) rfl) ?_
        show Go p.tables e below _ (T45.setTop (mkF m 41 #[.val (.int p0), .val (.int p1), .val (.int ii), .val (.ref a_REFUSED), .val (.int (1 : Int32)), .val (.int (0 : Int32)), .unset] []))
        refine Go.by (fun _ => XS.iloadN X45.here hx rfl (hb hby at_41) rfl) ?_
        show Go p.tables e below _ (T45.setTop (mkF m 42 #[.val (.int p0), .val (.int p1), .val (.int ii), .val (.ref a_REFUSED), .val (.int (1 : Int32)), .val (.int (0 : Int32)), .unset] [(.int p1)]))
        obtain ⟨v46, T46, h46, X46, q46, st46⟩ := X45.callS hx hZ (y := (⟨"com/example/preference_store/preferencestore/bench/Outcome", "ofStatus", "(I)Lcom/example/preference_store/preferencestore/bench/Outcome;"⟩ : MethodName)) hown (tw hw 13 rfl) (tw hw 14 rfl) (tw hw 5 rfl) (tw hw 15 rfl) (by decide) (rm3 l Z a0 hw [] p1 a_OK a_ERROR_STATUS a_BROKEN a_REFUSED h0 n0 Z0 S_OK E_OK S_ERROR_STATUS E_ERROR_STATUS S_BROKEN E_BROKEN S_REFUSED E_REFUSED F_ERROR_STATUS_ordinal F_OK_ordinal F_BROKEN_ordinal F_REFUSED_ordinal) (g := (mkF m 42 #[.val (.int p0), .val (.int p1), .val (.int ii), .val (.ref a_REFUSED), .val (.int (1 : Int32)), .val (.int (0 : Int32)), .unset] [(.int p1)])) rfl (by rw [hml]; rfl) (argsL := [(.int p1)]) (rest := []) (lenOf pd0 rfl) rfl (hb hby at_42) rfl (by decide) (Nat.le_of_ble_eq_true rfl) (k' := 0) (n' := 0) rfl rfl (by decide) (by decide)
        refine Go.by st46 ?_
        rcases q46 with ⟨rfl | rfl, rfl⟩
        · skip
          show Go p.tables e below _ (T46.setTop (mkF m 45 #[.val (.int p0), .val (.int p1), .val (.int ii), .val (.ref a_REFUSED), .val (.int (1 : Int32)), .val (.int (0 : Int32)), .unset] [(.ref a_OK)]))
          obtain ⟨v47, T47, h47, X47, q47, st47⟩ := X46.callV hx hZ (y := (⟨"com/example/preference_store/preferencestore/bench/Outcome", "answered", "()Z"⟩ : MethodName)) (z := (⟨"com/example/preference_store/preferencestore/bench/Outcome", "answered", "()Z"⟩ : MethodName)) hown (tw hw 7 rfl) (tw hw 8 rfl) (notFace_of_selects (args := #[]) (mvT hZ (tw hw 10 rfl))) (tw hw 10 rfl) (tw hw 9 rfl) (tw hw 5 rfl) (tw hw 11 rfl) (by decide) (rm2 l Z a0 hw [] a_OK a_OK a_ERROR_STATUS a_BROKEN a_REFUSED h0 n0 Z0 S_OK E_OK S_ERROR_STATUS E_ERROR_STATUS S_BROKEN E_BROKEN S_REFUSED E_REFUSED F_ERROR_STATUS_ordinal F_OK_ordinal F_BROKEN_ordinal F_REFUSED_ordinal) E_OK (g := (mkF m 45 #[.val (.int p0), .val (.int p1), .val (.int ii), .val (.ref a_REFUSED), .val (.int (1 : Int32)), .val (.int (0 : Int32)), .unset] [(.ref a_OK)])) rfl (by rw [hml]; rfl) (argsL := []) (rest := []) (lenOf pd1 rfl) rfl (hb hby at_45) rfl (by decide) (Nat.le_of_ble_eq_true rfl) (k' := 0) (n' := 0) rfl rfl (by decide) (by decide)
          refine Go.by st47 ?_
          rcases q47 with ⟨⟨hP, rfl⟩ | ⟨hP, rfl⟩, rfl⟩
          · skip
            show Go p.tables e below _ (T47.setTop (mkF m 48 #[.val (.int p0), .val (.int p1), .val (.int ii), .val (.ref a_REFUSED), .val (.int (1 : Int32)), .val (.int (0 : Int32)), .unset] [(.int (1 : Int32))]))
            refine Go.by (fun _ => XS.istore X47.here hx rfl (hb hby at_48) rfl (l' := #[.val (.int p0), .val (.int p1), .val (.int ii), .val (.ref a_REFUSED), .val (.int (1 : Int32)), .val (.int (0 : Int32)), .val (.int (1 : Int32))]) rfl) ?_
            show Go p.tables e below _ (T47.setTop (mkF m 50 #[.val (.int p0), .val (.int p1), .val (.int ii), .val (.ref a_REFUSED), .val (.int (1 : Int32)), .val (.int (0 : Int32)), .val (.int (1 : Int32))] []))
            refine Go.by (fun _ => XS.iload X47.here hx rfl (hb hby at_50) rfl) ?_
            show Go p.tables e below _ (T47.setTop (mkF m 52 #[.val (.int p0), .val (.int p1), .val (.int ii), .val (.ref a_REFUSED), .val (.int (1 : Int32)), .val (.int (0 : Int32)), .val (.int (1 : Int32))] [(.int (0 : Int32))]))
            refine Go.by (fun _ => XS.ifYes X47.here hx rfl (pc0 := 52) (pc' := 64) rfl (hb hby at_52) rfl ((if0 _ _).trans (teq (by decide)).1) (by decide) (by decide)) ?_
            show Go p.tables e below _ (T47.setTop (mkF m 64 #[.val (.int p0), .val (.int p1), .val (.int ii), .val (.ref a_REFUSED), .val (.int (1 : Int32)), .val (.int (0 : Int32)), .val (.int (1 : Int32))] []))
            refine Go.by (fun _ => XS.iconst X47.here hx rfl (hb hby at_64)) ?_
            show Go p.tables e below _ (T47.setTop (mkF m 65 #[.val (.int p0), .val (.int p1), .val (.int ii), .val (.ref a_REFUSED), .val (.int (1 : Int32)), .val (.int (0 : Int32)), .val (.int (1 : Int32))] [(.int (0 : Int32))]))
            refine Go.retN X47 hx hlk (z' := (0 : Int32)) hret (by simp) (hb hby at_65) rfl (by decide) (by decide) ?_
            exfalso
            simp only [Int32.lt_iff_toInt_lt, ← Int32.toInt_inj, Int32.reduceToInt] at h1 h2 h3 hc10_44
            omega
          · skip
            show Go p.tables e below _ (T47.setTop (mkF m 48 #[.val (.int p0), .val (.int p1), .val (.int ii), .val (.ref a_REFUSED), .val (.int (1 : Int32)), .val (.int (0 : Int32)), .unset] [(.int (0 : Int32))]))
            exfalso
            simp [nOE, nOB, nOR, nEB, nER, Ne.symm nOB, Ne.symm nOR, Ne.symm nEB, Ne.symm nER] at hP
        · skip
          show Go p.tables e below _ (T46.setTop (mkF m 45 #[.val (.int p0), .val (.int p1), .val (.int ii), .val (.ref a_REFUSED), .val (.int (1 : Int32)), .val (.int (0 : Int32)), .unset] [(.ref a_ERROR_STATUS)]))
          obtain ⟨v48, T48, h48, X48, q48, st48⟩ := X46.callV hx hZ (y := (⟨"com/example/preference_store/preferencestore/bench/Outcome", "answered", "()Z"⟩ : MethodName)) (z := (⟨"com/example/preference_store/preferencestore/bench/Outcome", "answered", "()Z"⟩ : MethodName)) hown (tw hw 7 rfl) (tw hw 8 rfl) (notFace_of_selects (args := #[]) (mvT hZ (tw hw 10 rfl))) (tw hw 10 rfl) (tw hw 9 rfl) (tw hw 5 rfl) (tw hw 11 rfl) (by decide) (rm2 l Z a0 hw [] a_ERROR_STATUS a_OK a_ERROR_STATUS a_BROKEN a_REFUSED h0 n0 Z0 S_OK E_OK S_ERROR_STATUS E_ERROR_STATUS S_BROKEN E_BROKEN S_REFUSED E_REFUSED F_ERROR_STATUS_ordinal F_OK_ordinal F_BROKEN_ordinal F_REFUSED_ordinal) E_ERROR_STATUS (g := (mkF m 45 #[.val (.int p0), .val (.int p1), .val (.int ii), .val (.ref a_REFUSED), .val (.int (1 : Int32)), .val (.int (0 : Int32)), .unset] [(.ref a_ERROR_STATUS)])) rfl (by rw [hml]; rfl) (argsL := []) (rest := []) (lenOf pd1 rfl) rfl (hb hby at_45) rfl (by decide) (Nat.le_of_ble_eq_true rfl) (k' := 0) (n' := 0) rfl rfl (by decide) (by decide)
          refine Go.by st48 ?_
          rcases q48 with ⟨⟨hP, rfl⟩ | ⟨hP, rfl⟩, rfl⟩
          · skip
            show Go p.tables e below _ (T48.setTop (mkF m 48 #[.val (.int p0), .val (.int p1), .val (.int ii), .val (.ref a_REFUSED), .val (.int (1 : Int32)), .val (.int (0 : Int32)), .unset] [(.int (1 : Int32))]))
            refine Go.by (fun _ => XS.istore X48.here hx rfl (hb hby at_48) rfl (l' := #[.val (.int p0), .val (.int p1), .val (.int ii), .val (.ref a_REFUSED), .val (.int (1 : Int32)), .val (.int (0 : Int32)), .val (.int (1 : Int32))]) rfl) ?_
            show Go p.tables e below _ (T48.setTop (mkF m 50 #[.val (.int p0), .val (.int p1), .val (.int ii), .val (.ref a_REFUSED), .val (.int (1 : Int32)), .val (.int (0 : Int32)), .val (.int (1 : Int32))] []))
            refine Go.by (fun _ => XS.iload X48.here hx rfl (hb hby at_50) rfl) ?_
            show Go p.tables e below _ (T48.setTop (mkF m 52 #[.val (.int p0), .val (.int p1), .val (.int ii), .val (.ref a_REFUSED), .val (.int (1 : Int32)), .val (.int (0 : Int32)), .val (.int (1 : Int32))] [(.int (0 : Int32))]))
            refine Go.by (fun _ => XS.ifYes X48.here hx rfl (pc0 := 52) (pc' := 64) rfl (hb hby at_52) rfl ((if0 _ _).trans (teq (by decide)).1) (by decide) (by decide)) ?_
            show Go p.tables e below _ (T48.setTop (mkF m 64 #[.val (.int p0), .val (.int p1), .val (.int ii), .val (.ref a_REFUSED), .val (.int (1 : Int32)), .val (.int (0 : Int32)), .val (.int (1 : Int32))] []))
            refine Go.by (fun _ => XS.iconst X48.here hx rfl (hb hby at_64)) ?_
            show Go p.tables e below _ (T48.setTop (mkF m 65 #[.val (.int p0), .val (.int p1), .val (.int ii), .val (.ref a_REFUSED), .val (.int (1 : Int32)), .val (.int (0 : Int32)), .val (.int (1 : Int32))] [(.int (0 : Int32))]))
            refine Go.retN X48 hx hlk (z' := (0 : Int32)) hret (by simp) (hb hby at_65) rfl (by decide) (by decide) ?_
            exfalso
            simp only [Int32.lt_iff_toInt_lt, ← Int32.toInt_inj, Int32.reduceToInt] at h1 h2 h3 hc10_44
            omega
          · skip
            show Go p.tables e below _ (T48.setTop (mkF m 48 #[.val (.int p0), .val (.int p1), .val (.int ii), .val (.ref a_REFUSED), .val (.int (1 : Int32)), .val (.int (0 : Int32)), .unset] [(.int (0 : Int32))]))
            exfalso
            simp [nOE, nOB, nOR, nEB, nER, Ne.symm nOB, Ne.symm nOR, Ne.symm nEB, Ne.symm nER] at hP
    · skip
      refine Go.by (fun _ => XS.ifNo X1.here hx rfl (hb hby at_10) rfl ((if0 _ _).trans (feq hc10_44).1)) ?_
      show Go p.tables e below _ (T1.setTop (mkF m 13 #[.val (.int p0), .val (.int p1), .val (.int ii), .val (.ref a_REFUSED), .unset, .unset, .unset] []))
      refine Go.by (fun _ => XS.iloadN X1.here hx rfl (hb hby at_13) rfl) ?_
      show Go p.tables e below _ (T1.setTop (mkF m 14 #[.val (.int p0), .val (.int p1), .val (.int ii), .val (.ref a_REFUSED), .unset, .unset, .unset] [(.int ii)]))
      refine Go.by (fun _ => XS.iconst X1.here hx rfl (hb hby at_14)) ?_
      show Go p.tables e below _ (T1.setTop (mkF m 15 #[.val (.int p0), .val (.int p1), .val (.int ii), .val (.ref a_REFUSED), .unset, .unset, .unset] [(.int (1 : Int32)), (.int ii)]))
      by_cases hc15_49 : ii = (1 : Int32)
      · skip
        refine Go.by (fun _ => XS.icmpNo X1.here hx rfl (hb hby at_15) rfl (teq hc15_49).2) ?_
        show Go p.tables e below _ (T1.setTop (mkF m 18 #[.val (.int p0), .val (.int p1), .val (.int ii), .val (.ref a_REFUSED), .unset, .unset, .unset] []))
        refine Go.by (fun _ => XS.iconst X1.here hx rfl (hb hby at_18)) ?_
        show Go p.tables e below _ (T1.setTop (mkF m 19 #[.val (.int p0), .val (.int p1), .val (.int ii), .val (.ref a_REFUSED), .unset, .unset, .unset] [(.int (1 : Int32))]))
        refine Go.by (fun _ => XS.goto X1.here hx rfl (pc0 := 19) (pc' := 23) rfl (hb hby at_19) (by decide) (by decide)) ?_
        show Go p.tables e below _ (T1.setTop (mkF m 23 #[.val (.int p0), .val (.int p1), .val (.int ii), .val (.ref a_REFUSED), .unset, .unset, .unset] [(.int (1 : Int32))]))
        refine Go.by (fun _ => XS.istore X1.here hx rfl (hb hby at_23) rfl (l' := #[.val (.int p0), .val (.int p1), .val (.int ii), .val (.ref a_REFUSED), .val (.int (1 : Int32)), .unset, .unset]) rfl) ?_
        show Go p.tables e below _ (T1.setTop (mkF m 25 #[.val (.int p0), .val (.int p1), .val (.int ii), .val (.ref a_REFUSED), .val (.int (1 : Int32)), .unset, .unset] []))
        refine Go.by (fun _ => XS.aloadN X1.here hx rfl (hb hby at_25) rfl rfl) ?_
        show Go p.tables e below _ (T1.setTop (mkF m 26 #[.val (.int p0), .val (.int p1), .val (.int ii), .val (.ref a_REFUSED), .val (.int (1 : Int32)), .unset, .unset] [(.ref a_REFUSED)]))
        obtain ⟨v50, T50, h50, X50, q50, st50⟩ := X1.callV hx hZ (y := (⟨"com/example/preference_store/preferencestore/bench/Outcome", "answered", "()Z"⟩ : MethodName)) (z := (⟨"com/example/preference_store/preferencestore/bench/Outcome", "answered", "()Z"⟩ : MethodName)) hown (tw hw 7 rfl) (tw hw 8 rfl) (notFace_of_selects (args := #[]) (mvT hZ (tw hw 10 rfl))) (tw hw 10 rfl) (tw hw 9 rfl) (tw hw 5 rfl) (tw hw 11 rfl) (by decide) (rm2 l Z a0 hw [] a_REFUSED a_OK a_ERROR_STATUS a_BROKEN a_REFUSED h0 n0 Z0 S_OK E_OK S_ERROR_STATUS E_ERROR_STATUS S_BROKEN E_BROKEN S_REFUSED E_REFUSED F_ERROR_STATUS_ordinal F_OK_ordinal F_BROKEN_ordinal F_REFUSED_ordinal) E_REFUSED (g := (mkF m 26 #[.val (.int p0), .val (.int p1), .val (.int ii), .val (.ref a_REFUSED), .val (.int (1 : Int32)), .unset, .unset] [(.ref a_REFUSED)])) rfl (by rw [hml]; rfl) (argsL := []) (rest := []) (lenOf pd1 rfl) rfl (hb hby at_26) rfl (by decide) (Nat.le_of_ble_eq_true rfl) (k' := 0) (n' := 0) rfl rfl (by decide) (by decide)
        refine Go.by st50 ?_
        rcases q50 with ⟨⟨hP, rfl⟩ | ⟨hP, rfl⟩, rfl⟩
        · skip
          show Go p.tables e below _ (T50.setTop (mkF m 29 #[.val (.int p0), .val (.int p1), .val (.int ii), .val (.ref a_REFUSED), .val (.int (1 : Int32)), .unset, .unset] [(.int (1 : Int32))]))
          exfalso
          simp [nOE, nOB, nOR, nEB, nER, Ne.symm nOB, Ne.symm nOR, Ne.symm nEB, Ne.symm nER] at hP
        · skip
          show Go p.tables e below _ (T50.setTop (mkF m 29 #[.val (.int p0), .val (.int p1), .val (.int ii), .val (.ref a_REFUSED), .val (.int (1 : Int32)), .unset, .unset] [(.int (0 : Int32))]))
          refine Go.by (fun _ => XS.iload X50.here hx rfl (hb hby at_29) rfl) ?_
          show Go p.tables e below _ (T50.setTop (mkF m 31 #[.val (.int p0), .val (.int p1), .val (.int ii), .val (.ref a_REFUSED), .val (.int (1 : Int32)), .unset, .unset] [(.int (1 : Int32)), (.int (0 : Int32))]))
          refine Go.by (fun _ => XS.icmpYes X50.here hx rfl (pc0 := 31) (pc' := 38) rfl (hb hby at_31) rfl (feq (by decide)).2 (by decide) (by decide)) ?_
          show Go p.tables e below _ (T50.setTop (mkF m 38 #[.val (.int p0), .val (.int p1), .val (.int ii), .val (.ref a_REFUSED), .val (.int (1 : Int32)), .unset, .unset] []))
          refine Go.by (fun _ => XS.iconst X50.here hx rfl (hb hby at_38)) ?_
          show Go p.tables e below _ (T50.setTop (mkF m 39 #[.val (.int p0), .val (.int p1), .val (.int ii), .val (.ref a_REFUSED), .val (.int (1 : Int32)), .unset, .unset] [(.int (0 : Int32))]))
          refine Go.by (fun _ => XS.istore X50.here hx rfl (hb hby at_39) rfl (l' := #[.val (.int p0), .val (.int p1), .val (.int ii), .val (.ref a_REFUSED), .val (.int (1 : Int32)), .val (.int (0 : Int32)), .unset]) rfl) ?_
          show Go p.tables e below _ (T50.setTop (mkF m 41 #[.val (.int p0), .val (.int p1), .val (.int ii), .val (.ref a_REFUSED), .val (.int (1 : Int32)), .val (.int (0 : Int32)), .unset] []))
          refine Go.by (fun _ => XS.iloadN X50.here hx rfl (hb hby at_41) rfl) ?_
          show Go p.tables e below _ (T50.setTop (mkF m 42 #[.val (.int p0), .val (.int p1), .val (.int ii), .val (.ref a_REFUSED), .val (.int (1 : Int32)), .val (.int (0 : Int32)), .unset] [(.int p1)]))
          obtain ⟨v51, T51, h51, X51, q51, st51⟩ := X50.callS hx hZ (y := (⟨"com/example/preference_store/preferencestore/bench/Outcome", "ofStatus", "(I)Lcom/example/preference_store/preferencestore/bench/Outcome;"⟩ : MethodName)) hown (tw hw 13 rfl) (tw hw 14 rfl) (tw hw 5 rfl) (tw hw 15 rfl) (by decide) (rm3 l Z a0 hw [] p1 a_OK a_ERROR_STATUS a_BROKEN a_REFUSED h0 n0 Z0 S_OK E_OK S_ERROR_STATUS E_ERROR_STATUS S_BROKEN E_BROKEN S_REFUSED E_REFUSED F_ERROR_STATUS_ordinal F_OK_ordinal F_BROKEN_ordinal F_REFUSED_ordinal) (g := (mkF m 42 #[.val (.int p0), .val (.int p1), .val (.int ii), .val (.ref a_REFUSED), .val (.int (1 : Int32)), .val (.int (0 : Int32)), .unset] [(.int p1)])) rfl (by rw [hml]; rfl) (argsL := [(.int p1)]) (rest := []) (lenOf pd0 rfl) rfl (hb hby at_42) rfl (by decide) (Nat.le_of_ble_eq_true rfl) (k' := 0) (n' := 0) rfl rfl (by decide) (by decide)
          refine Go.by st51 ?_
          rcases q51 with ⟨rfl | rfl, rfl⟩
          · skip
            show Go p.tables e below _ (T51.setTop (mkF m 45 #[.val (.int p0), .val (.int p1), .val (.int ii), .val (.ref a_REFUSED), .val (.int (1 : Int32)), .val (.int (0 : Int32)), .unset] [(.ref a_OK)]))
            obtain ⟨v52, T52, h52, X52, q52, st52⟩ := X51.callV hx hZ (y := (⟨"com/example/preference_store/preferencestore/bench/Outcome", "answered", "()Z"⟩ : MethodName)) (z := (⟨"com/example/preference_store/preferencestore/bench/Outcome", "answered", "()Z"⟩ : MethodName)) hown (tw hw 7 rfl) (tw hw 8 rfl) (notFace_of_selects (args := #[]) (mvT hZ (tw hw 10 rfl))) (tw hw 10 rfl) (tw hw 9 rfl) (tw hw 5 rfl) (tw hw 11 rfl) (by decide) (rm2 l Z a0 hw [] a_OK a_OK a_ERROR_STATUS a_BROKEN a_REFUSED h0 n0 Z0 S_OK E_OK S_ERROR_STATUS E_ERROR_STATUS S_BROKEN E_BROKEN S_REFUSED E_REFUSED F_ERROR_STATUS_ordinal F_OK_ordinal F_BROKEN_ordinal F_REFUSED_ordinal) E_OK (g := (mkF m 45 #[.val (.int p0), .val (.int p1), .val (.int ii), .val (.ref a_REFUSED), .val (.int (1 : Int32)), .val (.int (0 : Int32)), .unset] [(.ref a_OK)])) rfl (by rw [hml]; rfl) (argsL := []) (rest := []) (lenOf pd1 rfl) rfl (hb hby at_45) rfl (by decide) (Nat.le_of_ble_eq_true rfl) (k' := 0) (n' := 0) rfl rfl (by decide) (by decide)
            refine Go.by st52 ?_
            rcases q52 with ⟨⟨hP, rfl⟩ | ⟨hP, rfl⟩, rfl⟩
            · skip
              show Go p.tables e below _ (T52.setTop (mkF m 48 #[.val (.int p0), .val (.int p1), .val (.int ii), .val (.ref a_REFUSED), .val (.int (1 : Int32)), .val (.int (0 : Int32)), .unset] [(.int (1 : Int32))]))
              refine Go.by (fun _ => XS.istore X52.here hx rfl (hb hby at_48) rfl (l' := #[.val (.int p0), .val (.int p1), .val (.int ii), .val (.ref a_REFUSED), .val (.int (1 : Int32)), .val (.int (0 : Int32)), .val (.int (1 : Int32))]) rfl) ?_
              show Go p.tables e below _ (T52.setTop (mkF m 50 #[.val (.int p0), .val (.int p1), .val (.int ii), .val (.ref a_REFUSED), .val (.int (1 : Int32)), .val (.int (0 : Int32)), .val (.int (1 : Int32))] []))
              refine Go.by (fun _ => XS.iload X52.here hx rfl (hb hby at_50) rfl) ?_
              show Go p.tables e below _ (T52.setTop (mkF m 52 #[.val (.int p0), .val (.int p1), .val (.int ii), .val (.ref a_REFUSED), .val (.int (1 : Int32)), .val (.int (0 : Int32)), .val (.int (1 : Int32))] [(.int (0 : Int32))]))
              refine Go.by (fun _ => XS.ifYes X52.here hx rfl (pc0 := 52) (pc' := 64) rfl (hb hby at_52) rfl ((if0 _ _).trans (teq (by decide)).1) (by decide) (by decide)) ?_
              show Go p.tables e below _ (T52.setTop (mkF m 64 #[.val (.int p0), .val (.int p1), .val (.int ii), .val (.ref a_REFUSED), .val (.int (1 : Int32)), .val (.int (0 : Int32)), .val (.int (1 : Int32))] []))
              refine Go.by (fun _ => XS.iconst X52.here hx rfl (hb hby at_64)) ?_
              show Go p.tables e below _ (T52.setTop (mkF m 65 #[.val (.int p0), .val (.int p1), .val (.int ii), .val (.ref a_REFUSED), .val (.int (1 : Int32)), .val (.int (0 : Int32)), .val (.int (1 : Int32))] [(.int (0 : Int32))]))
              refine Go.retN X52 hx hlk (z' := (0 : Int32)) hret (by simp) (hb hby at_65) rfl (by decide) (by decide) ?_
              exfalso
              simp only [Int32.lt_iff_toInt_lt, ← Int32.toInt_inj, Int32.reduceToInt] at h1 h2 h3 hc10_44 hc15_49
              omega
            · skip
              show Go p.tables e below _ (T52.setTop (mkF m 48 #[.val (.int p0), .val (.int p1), .val (.int ii), .val (.ref a_REFUSED), .val (.int (1 : Int32)), .val (.int (0 : Int32)), .unset] [(.int (0 : Int32))]))
              exfalso
              simp [nOE, nOB, nOR, nEB, nER, Ne.symm nOB, Ne.symm nOR, Ne.symm nEB, Ne.symm nER] at hP
          · skip
            show Go p.tables e below _ (T51.setTop (mkF m 45 #[.val (.int p0), .val (.int p1), .val (.int ii), .val (.ref a_REFUSED), .val (.int (1 : Int32)), .val (.int (0 : Int32)), .unset] [(.ref a_ERROR_STATUS)]))
            obtain ⟨v53, T53, h53, X53, q53, st53⟩ := X51.callV hx hZ (y := (⟨"com/example/preference_store/preferencestore/bench/Outcome", "answered", "()Z"⟩ : MethodName)) (z := (⟨"com/example/preference_store/preferencestore/bench/Outcome", "answered", "()Z"⟩ : MethodName)) hown (tw hw 7 rfl) (tw hw 8 rfl) (notFace_of_selects (args := #[]) (mvT hZ (tw hw 10 rfl))) (tw hw 10 rfl) (tw hw 9 rfl) (tw hw 5 rfl) (tw hw 11 rfl) (by decide) (rm2 l Z a0 hw [] a_ERROR_STATUS a_OK a_ERROR_STATUS a_BROKEN a_REFUSED h0 n0 Z0 S_OK E_OK S_ERROR_STATUS E_ERROR_STATUS S_BROKEN E_BROKEN S_REFUSED E_REFUSED F_ERROR_STATUS_ordinal F_OK_ordinal F_BROKEN_ordinal F_REFUSED_ordinal) E_ERROR_STATUS (g := (mkF m 45 #[.val (.int p0), .val (.int p1), .val (.int ii), .val (.ref a_REFUSED), .val (.int (1 : Int32)), .val (.int (0 : Int32)), .unset] [(.ref a_ERROR_STATUS)])) rfl (by rw [hml]; rfl) (argsL := []) (rest := []) (lenOf pd1 rfl) rfl (hb hby at_45) rfl (by decide) (Nat.le_of_ble_eq_true rfl) (k' := 0) (n' := 0) rfl rfl (by decide) (by decide)
            refine Go.by st53 ?_
            rcases q53 with ⟨⟨hP, rfl⟩ | ⟨hP, rfl⟩, rfl⟩
            · skip
              show Go p.tables e below _ (T53.setTop (mkF m 48 #[.val (.int p0), .val (.int p1), .val (.int ii), .val (.ref a_REFUSED), .val (.int (1 : Int32)), .val (.int (0 : Int32)), .unset] [(.int (1 : Int32))]))
              refine Go.by (fun _ => XS.istore X53.here hx rfl (hb hby at_48) rfl (l' := #[.val (.int p0), .val (.int p1), .val (.int ii), .val (.ref a_REFUSED), .val (.int (1 : Int32)), .val (.int (0 : Int32)), .val (.int (1 : Int32))]) rfl) ?_
              show Go p.tables e below _ (T53.setTop (mkF m 50 #[.val (.int p0), .val (.int p1), .val (.int ii), .val (.ref a_REFUSED), .val (.int (1 : Int32)), .val (.int (0 : Int32)), .val (.int (1 : Int32))] []))
              refine Go.by (fun _ => XS.iload X53.here hx rfl (hb hby at_50) rfl) ?_
              show Go p.tables e below _ (T53.setTop (mkF m 52 #[.val (.int p0), .val (.int p1), .val (.int ii), .val (.ref a_REFUSED), .val (.int (1 : Int32)), .val (.int (0 : Int32)), .val (.int (1 : Int32))] [(.int (0 : Int32))]))
              refine Go.by (fun _ => XS.ifYes X53.here hx rfl (pc0 := 52) (pc' := 64) rfl (hb hby at_52) rfl ((if0 _ _).trans (teq (by decide)).1) (by decide) (by decide)) ?_
              show Go p.tables e below _ (T53.setTop (mkF m 64 #[.val (.int p0), .val (.int p1), .val (.int ii), .val (.ref a_REFUSED), .val (.int (1 : Int32)), .val (.int (0 : Int32)), .val (.int (1 : Int32))] []))
              refine Go.by (fun _ => XS.iconst X53.here hx rfl (hb hby at_64)) ?_
              show Go p.tables e below _ (T53.setTop (mkF m 65 #[.val (.int p0), .val (.int p1), .val (.int ii), .val (.ref a_REFUSED), .val (.int (1 : Int32)), .val (.int (0 : Int32)), .val (.int (1 : Int32))] [(.int (0 : Int32))]))
              refine Go.retN X53 hx hlk (z' := (0 : Int32)) hret (by simp) (hb hby at_65) rfl (by decide) (by decide) ?_
              exfalso
              simp only [Int32.lt_iff_toInt_lt, ← Int32.toInt_inj, Int32.reduceToInt] at h1 h2 h3 hc10_44 hc15_49
              omega
            · skip
              show Go p.tables e below _ (T53.setTop (mkF m 48 #[.val (.int p0), .val (.int p1), .val (.int ii), .val (.ref a_REFUSED), .val (.int (1 : Int32)), .val (.int (0 : Int32)), .unset] [(.int (0 : Int32))]))
              exfalso
              simp [nOE, nOB, nOR, nEB, nER, Ne.symm nOB, Ne.symm nOR, Ne.symm nEB, Ne.symm nER] at hP
      · skip
        refine Go.by (fun _ => XS.icmpYes X1.here hx rfl (pc0 := 15) (pc' := 22) rfl (hb hby at_15) rfl (feq hc15_49).2 (by decide) (by decide)) ?_
        show Go p.tables e below _ (T1.setTop (mkF m 22 #[.val (.int p0), .val (.int p1), .val (.int ii), .val (.ref a_REFUSED), .unset, .unset, .unset] []))
        refine Go.by (fun _ => XS.iconst X1.here hx rfl (hb hby at_22)) ?_
        show Go p.tables e below _ (T1.setTop (mkF m 23 #[.val (.int p0), .val (.int p1), .val (.int ii), .val (.ref a_REFUSED), .unset, .unset, .unset] [(.int (0 : Int32))]))
        refine Go.by (fun _ => XS.istore X1.here hx rfl (hb hby at_23) rfl (l' := #[.val (.int p0), .val (.int p1), .val (.int ii), .val (.ref a_REFUSED), .val (.int (0 : Int32)), .unset, .unset]) rfl) ?_
        show Go p.tables e below _ (T1.setTop (mkF m 25 #[.val (.int p0), .val (.int p1), .val (.int ii), .val (.ref a_REFUSED), .val (.int (0 : Int32)), .unset, .unset] []))
        refine Go.by (fun _ => XS.aloadN X1.here hx rfl (hb hby at_25) rfl rfl) ?_
        show Go p.tables e below _ (T1.setTop (mkF m 26 #[.val (.int p0), .val (.int p1), .val (.int ii), .val (.ref a_REFUSED), .val (.int (0 : Int32)), .unset, .unset] [(.ref a_REFUSED)]))
        obtain ⟨v54, T54, h54, X54, q54, st54⟩ := X1.callV hx hZ (y := (⟨"com/example/preference_store/preferencestore/bench/Outcome", "answered", "()Z"⟩ : MethodName)) (z := (⟨"com/example/preference_store/preferencestore/bench/Outcome", "answered", "()Z"⟩ : MethodName)) hown (tw hw 7 rfl) (tw hw 8 rfl) (notFace_of_selects (args := #[]) (mvT hZ (tw hw 10 rfl))) (tw hw 10 rfl) (tw hw 9 rfl) (tw hw 5 rfl) (tw hw 11 rfl) (by decide) (rm2 l Z a0 hw [] a_REFUSED a_OK a_ERROR_STATUS a_BROKEN a_REFUSED h0 n0 Z0 S_OK E_OK S_ERROR_STATUS E_ERROR_STATUS S_BROKEN E_BROKEN S_REFUSED E_REFUSED F_ERROR_STATUS_ordinal F_OK_ordinal F_BROKEN_ordinal F_REFUSED_ordinal) E_REFUSED (g := (mkF m 26 #[.val (.int p0), .val (.int p1), .val (.int ii), .val (.ref a_REFUSED), .val (.int (0 : Int32)), .unset, .unset] [(.ref a_REFUSED)])) rfl (by rw [hml]; rfl) (argsL := []) (rest := []) (lenOf pd1 rfl) rfl (hb hby at_26) rfl (by decide) (Nat.le_of_ble_eq_true rfl) (k' := 0) (n' := 0) rfl rfl (by decide) (by decide)
        refine Go.by st54 ?_
        rcases q54 with ⟨⟨hP, rfl⟩ | ⟨hP, rfl⟩, rfl⟩
        · skip
          show Go p.tables e below _ (T54.setTop (mkF m 29 #[.val (.int p0), .val (.int p1), .val (.int ii), .val (.ref a_REFUSED), .val (.int (0 : Int32)), .unset, .unset] [(.int (1 : Int32))]))
          exfalso
          simp [nOE, nOB, nOR, nEB, nER, Ne.symm nOB, Ne.symm nOR, Ne.symm nEB, Ne.symm nER] at hP
        · skip
          show Go p.tables e below _ (T54.setTop (mkF m 29 #[.val (.int p0), .val (.int p1), .val (.int ii), .val (.ref a_REFUSED), .val (.int (0 : Int32)), .unset, .unset] [(.int (0 : Int32))]))
          refine Go.by (fun _ => XS.iload X54.here hx rfl (hb hby at_29) rfl) ?_
          show Go p.tables e below _ (T54.setTop (mkF m 31 #[.val (.int p0), .val (.int p1), .val (.int ii), .val (.ref a_REFUSED), .val (.int (0 : Int32)), .unset, .unset] [(.int (0 : Int32)), (.int (0 : Int32))]))
          refine Go.by (fun _ => XS.icmpNo X54.here hx rfl (hb hby at_31) rfl (teq (by decide)).2) ?_
          show Go p.tables e below _ (T54.setTop (mkF m 34 #[.val (.int p0), .val (.int p1), .val (.int ii), .val (.ref a_REFUSED), .val (.int (0 : Int32)), .unset, .unset] []))
          refine Go.by (fun _ => XS.iconst X54.here hx rfl (hb hby at_34)) ?_
          show Go p.tables e below _ (T54.setTop (mkF m 35 #[.val (.int p0), .val (.int p1), .val (.int ii), .val (.ref a_REFUSED), .val (.int (0 : Int32)), .unset, .unset] [(.int (1 : Int32))]))
          refine Go.by (fun _ => XS.goto X54.here hx rfl (pc0 := 35) (pc' := 39) rfl (hb hby at_35) (by decide) (by decide)) ?_
          show Go p.tables e below _ (T54.setTop (mkF m 39 #[.val (.int p0), .val (.int p1), .val (.int ii), .val (.ref a_REFUSED), .val (.int (0 : Int32)), .unset, .unset] [(.int (1 : Int32))]))
          refine Go.by (fun _ => XS.istore X54.here hx rfl (hb hby at_39) rfl (l' := #[.val (.int p0), .val (.int p1), .val (.int ii), .val (.ref a_REFUSED), .val (.int (0 : Int32)), .val (.int (1 : Int32)), .unset]) rfl) ?_
          show Go p.tables e below _ (T54.setTop (mkF m 41 #[.val (.int p0), .val (.int p1), .val (.int ii), .val (.ref a_REFUSED), .val (.int (0 : Int32)), .val (.int (1 : Int32)), .unset] []))
          refine Go.by (fun _ => XS.iloadN X54.here hx rfl (hb hby at_41) rfl) ?_
          show Go p.tables e below _ (T54.setTop (mkF m 42 #[.val (.int p0), .val (.int p1), .val (.int ii), .val (.ref a_REFUSED), .val (.int (0 : Int32)), .val (.int (1 : Int32)), .unset] [(.int p1)]))
          obtain ⟨v55, T55, h55, X55, q55, st55⟩ := X54.callS hx hZ (y := (⟨"com/example/preference_store/preferencestore/bench/Outcome", "ofStatus", "(I)Lcom/example/preference_store/preferencestore/bench/Outcome;"⟩ : MethodName)) hown (tw hw 13 rfl) (tw hw 14 rfl) (tw hw 5 rfl) (tw hw 15 rfl) (by decide) (rm3 l Z a0 hw [] p1 a_OK a_ERROR_STATUS a_BROKEN a_REFUSED h0 n0 Z0 S_OK E_OK S_ERROR_STATUS E_ERROR_STATUS S_BROKEN E_BROKEN S_REFUSED E_REFUSED F_ERROR_STATUS_ordinal F_OK_ordinal F_BROKEN_ordinal F_REFUSED_ordinal) (g := (mkF m 42 #[.val (.int p0), .val (.int p1), .val (.int ii), .val (.ref a_REFUSED), .val (.int (0 : Int32)), .val (.int (1 : Int32)), .unset] [(.int p1)])) rfl (by rw [hml]; rfl) (argsL := [(.int p1)]) (rest := []) (lenOf pd0 rfl) rfl (hb hby at_42) rfl (by decide) (Nat.le_of_ble_eq_true rfl) (k' := 0) (n' := 0) rfl rfl (by decide) (by decide)
          refine Go.by st55 ?_
          rcases q55 with ⟨rfl | rfl, rfl⟩
          · skip
            show Go p.tables e below _ (T55.setTop (mkF m 45 #[.val (.int p0), .val (.int p1), .val (.int ii), .val (.ref a_REFUSED), .val (.int (0 : Int32)), .val (.int (1 : Int32)), .unset] [(.ref a_OK)]))
            obtain ⟨v56, T56, h56, X56, q56, st56⟩ := X55.callV hx hZ (y := (⟨"com/example/preference_store/preferencestore/bench/Outcome", "answered", "()Z"⟩ : MethodName)) (z := (⟨"com/example/preference_store/preferencestore/bench/Outcome", "answered", "()Z"⟩ : MethodName)) hown (tw hw 7 rfl) (tw hw 8 rfl) (notFace_of_selects (args := #[]) (mvT hZ (tw hw 10 rfl))) (tw hw 10 rfl) (tw hw 9 rfl) (tw hw 5 rfl) (tw hw 11 rfl) (by decide) (rm2 l Z a0 hw [] a_OK a_OK a_ERROR_STATUS a_BROKEN a_REFUSED h0 n0 Z0 S_OK E_OK S_ERROR_STATUS E_ERROR_STATUS S_BROKEN E_BROKEN S_REFUSED E_REFUSED F_ERROR_STATUS_ordinal F_OK_ordinal F_BROKEN_ordinal F_REFUSED_ordinal) E_OK (g := (mkF m 45 #[.val (.int p0), .val (.int p1), .val (.int ii), .val (.ref a_REFUSED), .val (.int (0 : Int32)), .val (.int (1 : Int32)), .unset] [(.ref a_OK)])) rfl (by rw [hml]; rfl) (argsL := []) (rest := []) (lenOf pd1 rfl) rfl (hb hby at_45) rfl (by decide) (Nat.le_of_ble_eq_true rfl) (k' := 0) (n' := 0) rfl rfl (by decide) (by decide)
            refine Go.by st56 ?_
            rcases q56 with ⟨⟨hP, rfl⟩ | ⟨hP, rfl⟩, rfl⟩
            · skip
              show Go p.tables e below _ (T56.setTop (mkF m 48 #[.val (.int p0), .val (.int p1), .val (.int ii), .val (.ref a_REFUSED), .val (.int (0 : Int32)), .val (.int (1 : Int32)), .unset] [(.int (1 : Int32))]))
              refine Go.by (fun _ => XS.istore X56.here hx rfl (hb hby at_48) rfl (l' := #[.val (.int p0), .val (.int p1), .val (.int ii), .val (.ref a_REFUSED), .val (.int (0 : Int32)), .val (.int (1 : Int32)), .val (.int (1 : Int32))]) rfl) ?_
              show Go p.tables e below _ (T56.setTop (mkF m 50 #[.val (.int p0), .val (.int p1), .val (.int ii), .val (.ref a_REFUSED), .val (.int (0 : Int32)), .val (.int (1 : Int32)), .val (.int (1 : Int32))] []))
              refine Go.by (fun _ => XS.iload X56.here hx rfl (hb hby at_50) rfl) ?_
              show Go p.tables e below _ (T56.setTop (mkF m 52 #[.val (.int p0), .val (.int p1), .val (.int ii), .val (.ref a_REFUSED), .val (.int (0 : Int32)), .val (.int (1 : Int32)), .val (.int (1 : Int32))] [(.int (1 : Int32))]))
              refine Go.by (fun _ => XS.ifNo X56.here hx rfl (hb hby at_52) rfl ((if0 _ _).trans (feq (by decide)).1)) ?_
              show Go p.tables e below _ (T56.setTop (mkF m 55 #[.val (.int p0), .val (.int p1), .val (.int ii), .val (.ref a_REFUSED), .val (.int (0 : Int32)), .val (.int (1 : Int32)), .val (.int (1 : Int32))] []))
              refine Go.by (fun _ => XS.iload X56.here hx rfl (hb hby at_55) rfl) ?_
              show Go p.tables e below _ (T56.setTop (mkF m 57 #[.val (.int p0), .val (.int p1), .val (.int ii), .val (.ref a_REFUSED), .val (.int (0 : Int32)), .val (.int (1 : Int32)), .val (.int (1 : Int32))] [(.int (1 : Int32))]))
              refine Go.by (fun _ => XS.ifNo X56.here hx rfl (hb hby at_57) rfl ((if0 _ _).trans (feq (by decide)).1)) ?_
              show Go p.tables e below _ (T56.setTop (mkF m 60 #[.val (.int p0), .val (.int p1), .val (.int ii), .val (.ref a_REFUSED), .val (.int (0 : Int32)), .val (.int (1 : Int32)), .val (.int (1 : Int32))] []))
              refine Go.by (fun _ => XS.iconst X56.here hx rfl (hb hby at_60)) ?_
              show Go p.tables e below _ (T56.setTop (mkF m 61 #[.val (.int p0), .val (.int p1), .val (.int ii), .val (.ref a_REFUSED), .val (.int (0 : Int32)), .val (.int (1 : Int32)), .val (.int (1 : Int32))] [(.int (1 : Int32))]))
              refine Go.by (fun _ => XS.goto X56.here hx rfl (pc0 := 61) (pc' := 65) rfl (hb hby at_61) (by decide) (by decide)) ?_
              show Go p.tables e below _ (T56.setTop (mkF m 65 #[.val (.int p0), .val (.int p1), .val (.int ii), .val (.ref a_REFUSED), .val (.int (0 : Int32)), .val (.int (1 : Int32)), .val (.int (1 : Int32))] [(.int (1 : Int32))]))
              exact Go.retN X56 hx hlk (z' := (1 : Int32)) hret (by simp) (hb hby at_65) rfl (by decide) (by decide) rfl
            · skip
              show Go p.tables e below _ (T56.setTop (mkF m 48 #[.val (.int p0), .val (.int p1), .val (.int ii), .val (.ref a_REFUSED), .val (.int (0 : Int32)), .val (.int (1 : Int32)), .unset] [(.int (0 : Int32))]))
              exfalso
              simp [nOE, nOB, nOR, nEB, nER, Ne.symm nOB, Ne.symm nOR, Ne.symm nEB, Ne.symm nER] at hP
          · skip
            show Go p.tables e below _ (T55.setTop (mkF m 45 #[.val (.int p0), .val (.int p1), .val (.int ii), .val (.ref a_REFUSED), .val (.int (0 : Int32)), .val (.int (1 : Int32)), .unset] [(.ref a_ERROR_STATUS)]))
            obtain ⟨v57, T57, h57, X57, q57, st57⟩ := X55.callV hx hZ (y := (⟨"com/example/preference_store/preferencestore/bench/Outcome", "answered", "()Z"⟩ : MethodName)) (z := (⟨"com/example/preference_store/preferencestore/bench/Outcome", "answered", "()Z"⟩ : MethodName)) hown (tw hw 7 rfl) (tw hw 8 rfl) (notFace_of_selects (args := #[]) (mvT hZ (tw hw 10 rfl))) (tw hw 10 rfl) (tw hw 9 rfl) (tw hw 5 rfl) (tw hw 11 rfl) (by decide) (rm2 l Z a0 hw [] a_ERROR_STATUS a_OK a_ERROR_STATUS a_BROKEN a_REFUSED h0 n0 Z0 S_OK E_OK S_ERROR_STATUS E_ERROR_STATUS S_BROKEN E_BROKEN S_REFUSED E_REFUSED F_ERROR_STATUS_ordinal F_OK_ordinal F_BROKEN_ordinal F_REFUSED_ordinal) E_ERROR_STATUS (g := (mkF m 45 #[.val (.int p0), .val (.int p1), .val (.int ii), .val (.ref a_REFUSED), .val (.int (0 : Int32)), .val (.int (1 : Int32)), .unset] [(.ref a_ERROR_STATUS)])) rfl (by rw [hml]; rfl) (argsL := []) (rest := []) (lenOf pd1 rfl) rfl (hb hby at_45) rfl (by decide) (Nat.le_of_ble_eq_true rfl) (k' := 0) (n' := 0) rfl rfl (by decide) (by decide)
            refine Go.by st57 ?_
            rcases q57 with ⟨⟨hP, rfl⟩ | ⟨hP, rfl⟩, rfl⟩
            · skip
              show Go p.tables e below _ (T57.setTop (mkF m 48 #[.val (.int p0), .val (.int p1), .val (.int ii), .val (.ref a_REFUSED), .val (.int (0 : Int32)), .val (.int (1 : Int32)), .unset] [(.int (1 : Int32))]))
              refine Go.by (fun _ => XS.istore X57.here hx rfl (hb hby at_48) rfl (l' := #[.val (.int p0), .val (.int p1), .val (.int ii), .val (.ref a_REFUSED), .val (.int (0 : Int32)), .val (.int (1 : Int32)), .val (.int (1 : Int32))]) rfl) ?_
              show Go p.tables e below _ (T57.setTop (mkF m 50 #[.val (.int p0), .val (.int p1), .val (.int ii), .val (.ref a_REFUSED), .val (.int (0 : Int32)), .val (.int (1 : Int32)), .val (.int (1 : Int32))] []))
              refine Go.by (fun _ => XS.iload X57.here hx rfl (hb hby at_50) rfl) ?_
              show Go p.tables e below _ (T57.setTop (mkF m 52 #[.val (.int p0), .val (.int p1), .val (.int ii), .val (.ref a_REFUSED), .val (.int (0 : Int32)), .val (.int (1 : Int32)), .val (.int (1 : Int32))] [(.int (1 : Int32))]))
              refine Go.by (fun _ => XS.ifNo X57.here hx rfl (hb hby at_52) rfl ((if0 _ _).trans (feq (by decide)).1)) ?_
              show Go p.tables e below _ (T57.setTop (mkF m 55 #[.val (.int p0), .val (.int p1), .val (.int ii), .val (.ref a_REFUSED), .val (.int (0 : Int32)), .val (.int (1 : Int32)), .val (.int (1 : Int32))] []))
              refine Go.by (fun _ => XS.iload X57.here hx rfl (hb hby at_55) rfl) ?_
              show Go p.tables e below _ (T57.setTop (mkF m 57 #[.val (.int p0), .val (.int p1), .val (.int ii), .val (.ref a_REFUSED), .val (.int (0 : Int32)), .val (.int (1 : Int32)), .val (.int (1 : Int32))] [(.int (1 : Int32))]))
              refine Go.by (fun _ => XS.ifNo X57.here hx rfl (hb hby at_57) rfl ((if0 _ _).trans (feq (by decide)).1)) ?_
              show Go p.tables e below _ (T57.setTop (mkF m 60 #[.val (.int p0), .val (.int p1), .val (.int ii), .val (.ref a_REFUSED), .val (.int (0 : Int32)), .val (.int (1 : Int32)), .val (.int (1 : Int32))] []))
              refine Go.by (fun _ => XS.iconst X57.here hx rfl (hb hby at_60)) ?_
              show Go p.tables e below _ (T57.setTop (mkF m 61 #[.val (.int p0), .val (.int p1), .val (.int ii), .val (.ref a_REFUSED), .val (.int (0 : Int32)), .val (.int (1 : Int32)), .val (.int (1 : Int32))] [(.int (1 : Int32))]))
              refine Go.by (fun _ => XS.goto X57.here hx rfl (pc0 := 61) (pc' := 65) rfl (hb hby at_61) (by decide) (by decide)) ?_
              show Go p.tables e below _ (T57.setTop (mkF m 65 #[.val (.int p0), .val (.int p1), .val (.int ii), .val (.ref a_REFUSED), .val (.int (0 : Int32)), .val (.int (1 : Int32)), .val (.int (1 : Int32))] [(.int (1 : Int32))]))
              exact Go.retN X57 hx hlk (z' := (1 : Int32)) hret (by simp) (hb hby at_65) rfl (by decide) (by decide) rfl
            · skip
              show Go p.tables e below _ (T57.setTop (mkF m 48 #[.val (.int p0), .val (.int p1), .val (.int ii), .val (.ref a_REFUSED), .val (.int (0 : Int32)), .val (.int (1 : Int32)), .unset] [(.int (0 : Int32))]))
              exfalso
              simp [nOE, nOB, nOR, nEB, nER, Ne.symm nOB, Ne.symm nOR, Ne.symm nEB, Ne.symm nER] at hP
set_option maxRecDepth 65536 in
set_option maxHeartbeats 40000000 in
theorem comes_1 {Post : Tables → Env → Array Value → State → Outcome → State → Prop} (hpost : ∀ tb e args s v u, (limb_1_1.after args s (.returned v) u = true ∧ limb_1_2.after args s (.returned v) u = true ∧ True) → FrameEnd s (.returned v) u (Jvm.fieldLocs frame_1_writes args s ++ Jvm.arrayLocs frame_1_arrays args s ++ Jvm.staticLocs frame_1_statics s) 0 0 → Post tb e args s (.returned v) u) :
    ArmFor flags0 classFile x code maxLocals ret World_1 tables_1 room_1 Calls_1 rest_1 Pre_1 Post := by
  intro l hfl _ _ p e ha hc hk s m args below hf hA hF happ hP
  obtain ⟨hcalls, hrest, hpre⟩ := hP
  obtain ⟨-, -, -, hnamed, -, -, -, hat⟩ := (Spec.applies_iff hf).mp happ
  obtain ⟨hg, hn⟩ := and_e (Cond.before_iff.mp (show (Jvm.Cond.and given_1 narrow_1).before args s = true from hpre))
  obtain ⟨gc, gr0⟩ := and_e hg
  obtain ⟨ga0, ga1⟩ := and_e gr0
  obtain ⟨w0, w1, rfl⟩ : ∃ w0 w1 : Value, args = #[w0, w1] := by
    have hs : args.size = 2 := by simpa [Cond.value, given_1] using gc
    obtain ⟨L⟩ := args
    match L, hs with
    | [w0, w1], _ => exact ⟨w0, w1, rfl⟩
  have hw := fun d (hd : d ∈ tables_1) => atoms_spec (ws := Jvm.Cond.code x code maxLocals ret :: tables_1) hat d (List.mem_cons_of_mem _ hd)
  have hfit : Fit s := fun {y c} hc i hi => by
    obtain ⟨ha, rfl⟩ := Array.getElem?_eq_some_iff.mp hc
    have q := List.all_eq_true.mp ((Array.all_eq_true_iff_forall_mem.mp hF) _ (Array.getElem_mem ha)) i (List.mem_range.mpr hi)
    simpa [Array.getElem?_eq_getElem hi] using q
  obtain ⟨i0, ei0⟩ := is_v ga0
  obtain rfl : w0 = (.int i0) := Option.some.inj ei0
  obtain ⟨i1, ei1⟩ := is_v ga1
  obtain rfl : w1 = (.int i1) := Option.some.inj ei1
  obtain ⟨nw0, nwr0⟩ := and_e hn
  obtain ⟨nw1, nwr1⟩ := and_e nwr0
  obtain ⟨nw2, nwr2⟩ := and_e nwr1
  obtain ⟨nw3, nwr3⟩ := and_e nwr2
  obtain ⟨nw4, nwr4⟩ := and_e nwr3
  obtain ⟨nw5, nwr5⟩ := and_e nwr4
  obtain ⟨nw6, nw7⟩ := and_e nwr5
  obtain ⟨a_OK, ev_OK, S_OK, E_OK⟩ := sta_exa nw0 (tw hw 5 rfl) (tw hw 6 rfl)
  obtain ⟨a_ERROR_STATUS, ev_ERROR_STATUS, S_ERROR_STATUS, E_ERROR_STATUS⟩ := sta_exa nw1 (tw hw 5 rfl) (tw hw 17 rfl)
  obtain ⟨a_BROKEN, ev_BROKEN, S_BROKEN, E_BROKEN⟩ := sta_exa nw4 (tw hw 5 rfl) (tw hw 19 rfl)
  obtain ⟨a_REFUSED, ev_REFUSED, S_REFUSED, E_REFUSED⟩ := sta_exa nw6 (tw hw 5 rfl) (tw hw 22 rfl)
  have F_ERROR_STATUS_ordinal := fld_eq ev_ERROR_STATUS nw2
  have F_OK_ordinal := fld_eq ev_OK nw3
  have F_BROKEN_ordinal := fld_eq ev_BROKEN nw5
  have F_REFUSED_ordinal := fld_eq ev_REFUSED nw7
  obtain ⟨n, o, h1, h2, h3, _, L, rfl, ⟨rfl, N⟩, hq⟩ := rm0 l s _ hw tables_1 i0 i1 a_OK a_ERROR_STATUS a_BROKEN a_REFUSED s.heap s.heap.size (Nat.le_refl _) S_OK E_OK S_ERROR_STATUS E_ERROR_STATUS S_BROKEN E_BROKEN S_REFUSED E_REFUSED F_ERROR_STATUS_ordinal F_OK_ordinal F_BROKEN_ordinal F_REFUSED_ordinal p e ha hc hk s m _ below hf ((Spec.applies_iff_loose hf).mp happ).1 ⟨rfl, State.Warmed39.refl s, rfl⟩ trivial
  refine ⟨n, _, h1, h2, h3, hpost _ _ _ _ _ _ ⟨Cond.after_iff.mpr rfl, Cond.after_iff.mpr (eq_i res_at (Term.int_eval (1)) rfl), trivial⟩ ⟨hq.1, hq.2.1, (hq.2.2.sift fun y hy => Or.inr (N y hy)).mono (by decide) (by decide)⟩⟩
theorem main_1_1 : Claimed_1_1 := comes_1 fun _ _ _ _ _ _ h hF => ⟨h.1, hF⟩
theorem main_1_2 : Claimed_1_2 := comes_1 fun _ _ _ _ _ _ h hF => ⟨h.2.1, hF⟩
end Jvm.Pilot.@@N@@
namespace Jvm.Pilot.@@N@@
open Jvm Jvm.ClassFile Sem Op Lib Jvm.Free Jvm.Stand Jvm.Pilot.@@N@@.Jvm.D
/-! MADE BY PROGRAM (witnessworld.py) out of the Statement's table words and the real class files: 12 classes; the members and pool entries that the words name. The judged class is class 1, her method 2. -/
namespace start1
open Jvm.ClassFile
def u (s : String) : CpInfo := .utf8 (stringToUtf16 s)
/-- a pool by its gaps: so many unusable entries, then the entry; so many at the end -/
def gap : Nat → List CpInfo → List CpInfo
  | 0, r => r
  | n + 1, r => .unusable :: gap n r
def poolList (es : List (Nat × CpInfo)) (last : Nat) : List CpInfo := es.foldr (fun e r => gap e.1 (e.2 :: r)) (gap last [])
def pool (es : List (Nat × CpInfo)) (last : Nat) : Array CpInfo := ⟨poolList es last⟩
def fileOf (pool : Array CpInfo) (this : Nat) (attrs : Array Attribute := #[]) (ms : Array MethodInfo := #[]) (fl : Nat := 33) (sup : Nat := 0) (ifs : Array Nat := #[]) (fds : Array FieldInfo := #[]) : ClassFile where
  minorVersion := 0
  majorVersion := 65
  constantPool := pool
  accessFlags := fl
  thisClass := this
  superClass := sup
  interfaces := ifs
  fields := fds
  methods := ms
  attributes := attrs
def plain (name : String) (sup : Option ClassId) : Class where
  name := name
  kind := .ordinary
  loader := none
  accessFlags := 33
  super := sup
  interfaces := #[]
  cf := none
  fields := #[]
  methods := #[]
  instanceTypes := #[]
  staticTypes := #[]
  resolved := #[]
  callSites := []
  init := .initialized
  statics := none
  mirror := none

def pool0 : Array CpInfo := pool [(5, u "<init>"), (0, u "()V"), (1, .class_ 10), (1, u "java/lang/Object")] 113

def k0m0 : Method := { name := "<init>", desc := "()V", sig := { parameters := [], returnType := none }, accessFlags := 1, code := none }
/-- java/lang/Object -/
def k0 : Class := { plain "java/lang/Object" none with
  accessFlags := 33
  interfaces := #[]
  cf := some (fileOf pool0 8 #[] #[{ accessFlags := 1, nameIndex := 5, descriptorIndex := 6, attributes := #[] }] 33 0 #[] #[])
  fields := #[]
  methods := #[k0m0]
  instanceTypes := #[]
  staticTypes := #[]
  resolved := Array.replicate 124 none
  statics := none }

def pool1 : Array CpInfo := pool [(2, .class_ 4), (1, u "java/lang/Object"), (0, u "<init>"), (0, u "()V"), (0, .fieldref 8 9), (0, .class_ 10), (0, .nameAndType 11 12), (0, u "com/example/preference_store/preferencestore/bench/Outcome"), (0, u "OK"), (0, u "Lcom/example/preference_store/preferencestore/bench/Outcome;"), (0, .fieldref 8 14), (0, .nameAndType 15 12), (0, u "ERROR_STATUS"), (0, .fieldref 8 17), (0, .nameAndType 18 12), (0, u "BROKEN"), (0, .fieldref 8 20), (0, .nameAndType 21 12), (0, u "REFUSED"), (0, .methodref 23 24), (0, .class_ 25), (0, .nameAndType 26 27), (0, u "com/example/preference_store/preferencestore/bench/OutcomeAnsweredPinLaw"), (0, u "pick"), (0, u "(I)Lcom/example/preference_store/preferencestore/bench/Outcome;"), (0, .methodref 8 29), (0, .nameAndType 30 31), (0, u "answered"), (0, u "()Z"), (0, .methodref 8 33), (0, .nameAndType 34 27), (0, u "ofStatus"), (3, u "law"), (0, u "(II)Z")] 2

def k1m0 : Method := { name := "<init>", desc := "()V", sig := { parameters := [], returnType := none }, accessFlags := 1, code := none }
def k1c1 : Code := { maxStack := 2, maxLocals := 1, code := method_2_code, exceptionTable := #[], attributes := #[] }
def k1m1 : Method := { name := "pick", desc := "(I)Lcom/example/preference_store/preferencestore/bench/Outcome;", sig := { parameters := [.int], returnType := some (.object "com/example/preference_store/preferencestore/bench/Outcome") }, accessFlags := 10, code := some k1c1 }
def k1c2 : Code := { maxStack := 2, maxLocals := 7, code := code, exceptionTable := #[], attributes := #[] }
def k1m2 : Method := { name := "law", desc := "(II)Z", sig := { parameters := [.int, .int], returnType := some .boolean }, accessFlags := 9, code := some k1c2 }
/-- com/example/preference_store/preferencestore/bench/OutcomeAnsweredPinLaw -/
def k1 : Class := { plain "com/example/preference_store/preferencestore/bench/OutcomeAnsweredPinLaw" (some 0) with
  accessFlags := 49
  interfaces := #[]
  cf := some (fileOf pool1 23 #[] #[{ accessFlags := 1, nameIndex := 5, descriptorIndex := 6, attributes := #[] }, { accessFlags := 10, nameIndex := 26, descriptorIndex := 27, attributes := #[] }, { accessFlags := 9, nameIndex := 38, descriptorIndex := 39, attributes := #[] }] 49 2 #[] #[])
  fields := #[]
  methods := #[k1m0, k1m1, k1m2]
  instanceTypes := #[]
  staticTypes := #[]
  resolved := Array.replicate 42 none
  statics := none }

def pool2 : Array CpInfo := pool [(1, .class_ 2), (0, u "java/lang/constant/Constable"), (0, .class_ 4), (0, u "java/lang/Object")] 6

/-- java/lang/constant/Constable -/
def k2 : Class := { plain "java/lang/constant/Constable" (some 0) with
  accessFlags := 1537
  interfaces := #[]
  cf := some (fileOf pool2 1 #[] #[] 1537 3 #[] #[])
  fields := #[]
  methods := #[]
  instanceTypes := #[]
  staticTypes := #[]
  resolved := Array.replicate 11 none
  statics := none }

def pool3 : Array CpInfo := pool [(1, .class_ 2), (0, u "java/lang/Comparable"), (0, .class_ 4), (0, u "java/lang/Object")] 7

/-- java/lang/Comparable -/
def k3 : Class := { plain "java/lang/Comparable" (some 0) with
  accessFlags := 1537
  interfaces := #[]
  cf := some (fileOf pool3 1 #[] #[] 1537 3 #[] #[])
  fields := #[]
  methods := #[]
  instanceTypes := #[]
  staticTypes := #[]
  resolved := Array.replicate 12 none
  statics := none }

def pool4 : Array CpInfo := pool [(1, .class_ 2), (0, u "java/io/Serializable"), (0, .class_ 4), (0, u "java/lang/Object")] 2

/-- java/io/Serializable -/
def k4 : Class := { plain "java/io/Serializable" (some 0) with
  accessFlags := 1537
  interfaces := #[]
  cf := some (fileOf pool4 1 #[] #[] 1537 3 #[] #[])
  fields := #[]
  methods := #[]
  instanceTypes := #[]
  staticTypes := #[]
  resolved := Array.replicate 7 none
  statics := none }

def pool5 : Array CpInfo := pool [(2, .class_ 4), (1, u "java/lang/Enum"), (0, u "name"), (0, u "Ljava/lang/String;"), (2, u "ordinal"), (0, u "I"), (1, .class_ 14), (1, u "java/lang/Object"), (4, u "hash"), (86, .class_ 108), (1, u "java/lang/Enum$EnumDesc"), (2, .class_ 112), (0, u "java/lang/constant/Constable"), (0, .class_ 114), (0, u "java/lang/Comparable"), (0, .class_ 116), (0, u "java/io/Serializable")] 87

/-- java/lang/Enum -/
def k5 : Class := { plain "java/lang/Enum" (some 0) with
  accessFlags := 1057
  interfaces := #[2, 3, 4]
  cf := some (fileOf pool5 2 #[.nestMembers #[106]] #[] 1057 12 #[111, 113, 115] #[{ accessFlags := 18, nameIndex := 5, descriptorIndex := 6, attributes := #[] }, { accessFlags := 18, nameIndex := 9, descriptorIndex := 10, attributes := #[] }, { accessFlags := 2, nameIndex := 19, descriptorIndex := 10, attributes := #[] }])
  fields := #[{ name := "name", type := (.object "java/lang/String"), accessFlags := 18, slot := 0, constantValue := 0 }, { name := "ordinal", type := .int, accessFlags := 18, slot := 1, constantValue := 0 }, { name := "hash", type := .int, accessFlags := 2, slot := 2, constantValue := 0 }]
  methods := #[]
  instanceTypes := #[(.object "java/lang/String"), .int, .int]
  staticTypes := #[]
  resolved := Array.replicate 204 none
  statics := none }

def pool6 : Array CpInfo := pool [(1, .class_ 2), (0, u "com/example/preference_store/preferencestore/bench/Outcome"), (0, .fieldref 1 4), (0, .nameAndType 5 6), (0, u "OK"), (0, u "Lcom/example/preference_store/preferencestore/bench/Outcome;"), (0, .fieldref 1 8), (0, .nameAndType 9 6), (0, u "ERROR_STATUS"), (2, u "BROKEN"), (2, u "REFUSED"), (2, u "$VALUES"), (0, u "[Lcom/example/preference_store/preferencestore/bench/Outcome;"), (6, .class_ 28), (1, u "java/lang/Enum"), (22, u "ofStatus"), (0, u "(I)Lcom/example/preference_store/preferencestore/bench/Outcome;"), (1, u "answered"), (0, u "()Z")] 4

def k6c0 : Code := { maxStack := 2, maxLocals := 1, code := prog_2_method_4_code, exceptionTable := #[], attributes := #[] }
def k6m0 : Method := { name := "ofStatus", desc := "(I)Lcom/example/preference_store/preferencestore/bench/Outcome;", sig := { parameters := [.int], returnType := some (.object "com/example/preference_store/preferencestore/bench/Outcome") }, accessFlags := 8, code := some k6c0 }
def k6c1 : Code := { maxStack := 2, maxLocals := 1, code := prog_2_method_5_code, exceptionTable := #[], attributes := #[] }
def k6m1 : Method := { name := "answered", desc := "()Z", sig := { parameters := [], returnType := some .boolean }, accessFlags := 0, code := some k6c1 }
/-- com/example/preference_store/preferencestore/bench/Outcome -/
def k6 : Class := { plain "com/example/preference_store/preferencestore/bench/Outcome" (some 5) with
  accessFlags := 16432
  interfaces := #[]
  cf := some (fileOf pool6 1 #[] #[{ accessFlags := 8, nameIndex := 51, descriptorIndex := 52, attributes := #[] }, { accessFlags := 0, nameIndex := 54, descriptorIndex := 55, attributes := #[] }] 16432 26 #[] #[{ accessFlags := 16409, nameIndex := 5, descriptorIndex := 6, attributes := #[] }, { accessFlags := 16409, nameIndex := 9, descriptorIndex := 6, attributes := #[] }, { accessFlags := 16409, nameIndex := 12, descriptorIndex := 6, attributes := #[] }, { accessFlags := 16409, nameIndex := 15, descriptorIndex := 6, attributes := #[] }, { accessFlags := 4122, nameIndex := 18, descriptorIndex := 19, attributes := #[] }])
  fields := #[{ name := "OK", type := (.object "com/example/preference_store/preferencestore/bench/Outcome"), accessFlags := 16409, slot := 0, constantValue := 0 }, { name := "ERROR_STATUS", type := (.object "com/example/preference_store/preferencestore/bench/Outcome"), accessFlags := 16409, slot := 1, constantValue := 0 }, { name := "BROKEN", type := (.object "com/example/preference_store/preferencestore/bench/Outcome"), accessFlags := 16409, slot := 2, constantValue := 0 }, { name := "REFUSED", type := (.object "com/example/preference_store/preferencestore/bench/Outcome"), accessFlags := 16409, slot := 3, constantValue := 0 }, { name := "$VALUES", type := (.array (.object "com/example/preference_store/preferencestore/bench/Outcome")), accessFlags := 4122, slot := 4, constantValue := 0 }]
  methods := #[k6m0, k6m1]
  instanceTypes := #[(.object "java/lang/String"), .int, .int]
  staticTypes := #[(.object "com/example/preference_store/preferencestore/bench/Outcome"), (.object "com/example/preference_store/preferencestore/bench/Outcome"), (.object "com/example/preference_store/preferencestore/bench/Outcome"), (.object "com/example/preference_store/preferencestore/bench/Outcome"), (.array (.object "com/example/preference_store/preferencestore/bench/Outcome"))]
  resolved := Array.replicate 60 none
  statics := some 0 }

def pool7 : Array CpInfo := pool [(1, u "java/lang/Cloneable"), (0, .class_ 1), (0, u "java/lang/Object"), (0, .class_ 3)] 3

/-- java/lang/Cloneable -/
def k7 : Class := { plain "java/lang/Cloneable" (some 0) with
  accessFlags := 1537
  interfaces := #[]
  cf := some (fileOf pool7 2 #[] #[] 1537 4 #[] #[])
  fields := #[]
  methods := #[]
  instanceTypes := #[]
  staticTypes := #[]
  resolved := Array.replicate 8 none
  statics := none }

/-- the primitive byte -/
def k8 : Class := { plain "byte" none with kind := .primitive 'B', accessFlags := 0x411 }
/-- [B -/
def k9 : Class := { plain "[B" (some 0) with kind := .array 8 .byte, interfaces := #[7, 4], accessFlags := 1041 }

/-- the primitive int -/
def k10 : Class := { plain "int" none with kind := .primitive 'I', accessFlags := 0x411 }
/-- [I -/
def k11 : Class := { plain "[I" (some 0) with kind := .array 10 .int, interfaces := #[7, 4], accessFlags := 1041 }

def heap : Heap := #[{ cls := 6, slots := #[.ref 1, .ref 2, .ref 3, .ref 4, .null], vm := .statics 6 },
  { cls := 6, slots := #[.null, .int 0, .int 0], vm := .none },
  { cls := 6, slots := #[.null, .int 1, .int 0], vm := .none },
  { cls := 6, slots := #[.null, .int 2, .int 0], vm := .none },
  { cls := 6, slots := #[.null, .int 3, .int 0], vm := .none }]
def classes : Array Class := #[k0, k1, k2, k3, k4, k5, k6, k7, k8, k9, k10, k11]
def interned : List (Array UInt16 × Addr) := []
def slotsUsed : Nat := 17
def theMethod : MethodId := ⟨1, 2⟩
def args0 : Array Value := #[.int 5, .int 7]
def aboutOver (below : List Frame) : State where
  vm := { classes := classes, interned := interned.toArray }
  heap := heap
  slotsUsed := slotsUsed
  threads := #[{ frames := .invoking theMethod args0 :: below }]
def below0 : List Frame := [.native { method := ⟨0, 0⟩, args := #[] }]
def about1 : State := aboutOver below0
def p0 : Program := .bare "" "" ""
def e0 : Env := launch0.env 0 0 0
theorem w_frames : about1.frames = Frame.invoking theMethod args0 :: below0 := rfl
set_option maxRecDepth 65536 in
theorem w_args : argsFit about1.vm theMethod args0 = true := by decide +kernel
set_option maxRecDepth 65536 in
theorem w_heap : heapFits about1 = true := by decide +kernel
set_option maxRecDepth 65536 in
theorem w_runnable : about1.curStatus? = some .runnable := by decide +kernel
set_option maxRecDepth 65536 in
theorem w_alone : about1.alone = true := by decide +kernel
set_option maxRecDepth 65536 in
theorem w_named : about1.methodNamed? x = some theMethod := by decide +kernel
set_option maxRecDepth 65536 in
theorem w_hears : about1.hears theMethod below0 = true := by decide +kernel
set_option maxRecDepth 65536 in
theorem w_ripe : about1.ripe theMethod args0 below0 = true := by decide +kernel
theorem w_running : about1.status = .running := rfl
set_option maxRecDepth 65536 in
theorem w_room : about1.hasRoom e0.platform room_1 = true :=
  launch0.hasRoom_least _ room_1 (by decide +kernel) (by decide +kernel) (by decide +kernel) (by decide +kernel) (by decide +kernel) (by decide +kernel)
theorem allAtoms_all (ts : List Jvm.Cond) (a : Array Jvm.Value) (st : Jvm.State) : (allAtoms ts).before a st = ts.all (fun c => c.before a st) := by
  induction ts with
  | nil => rfl
  | cons c t ih =>
    show (Jvm.Cond.and c (allAtoms t)).before a st = _
    rw [Jvm.Cond.before_and, ih, List.all_cons]
def words1 : List Jvm.Cond := Jvm.Cond.code x code maxLocals ret :: tables_1
/-- a 'code' word, met by the world's own term for the bytes: nothing is compared byte by byte -/
theorem code_word {y : MethodName} {bytes : ByteArray} {mx : Nat} {rt : Option FieldType} {a : Array Value} {s : State} {m : MethodId} {meth : Method} {c : Code} (h1 : s.methodNamed? y = some m) (h2 : s.vm.method? m = some meth) (h3 : meth.code = some c) (h4 : c.code = bytes)
    (h5 : (c.maxLocals == mx && c.exceptionTable.isEmpty && decide (c.maxStack ≤ mostOperands) && decide (meth.sig.returnType = rt) && !meth.locks && decide (parseMethodDescriptor y.desc = some meth.sig)) = true) : (Jvm.Cond.code y bytes mx rt).before a s = true := by
  simp only [Bool.and_eq_true, beq_iff_eq, Bool.not_eq_true', decide_eq_true_eq] at h5
  obtain ⟨⟨⟨⟨⟨g1, g2⟩, g3⟩, g4⟩, g5⟩, g6⟩ := h5
  simp [Cond.before, Cond.holds, Cond.value, h1, h2, h3, h4, g1, g2, g3, g4, g5, g6]
def isCode : Jvm.Cond → Bool
  | .code _ _ _ _ => true
  | _ => false
theorem all_split {L : List Jvm.Cond} {P : Jvm.Cond → Bool} (h1 : L.all (fun c => isCode c || P c) = true) (h2 : ∀ c ∈ L.filter isCode, P c = true) : L.all P = true := by
  refine List.all_eq_true.mpr fun c hc => ?_
  have h := List.all_eq_true.mp h1 c hc
  rcases Bool.eq_false_or_eq_true (isCode c) with hi | hi
  · exact h2 c (List.mem_filter.mpr ⟨hc, hi⟩)
  · simpa [hi] using h
set_option maxRecDepth 65536 in
theorem w_c0 : (Jvm.Cond.code x code maxLocals ret).before args0 about1 = true := code_word (m := ⟨1, 2⟩) (meth := k1m2) (c := k1c2) (by decide +kernel) rfl rfl rfl (by decide +kernel)
set_option maxRecDepth 65536 in
theorem w_c1 : (Jvm.Cond.code ({ cls := "com/example/preference_store/preferencestore/bench/OutcomeAnsweredPinLaw", name := "pick", desc := "(I)Lcom/example/preference_store/preferencestore/bench/Outcome;" } : Jvm.MethodName) method_2_code (1 : Nat) (Option.some (Jvm.ClassFile.FieldType.object "com/example/preference_store/preferencestore/bench/Outcome"))).before args0 about1 = true := code_word (m := ⟨1, 1⟩) (meth := k1m1) (c := k1c1) (by decide +kernel) rfl rfl rfl (by decide +kernel)
set_option maxRecDepth 65536 in
theorem w_c2 : (Jvm.Cond.code ({ cls := "com/example/preference_store/preferencestore/bench/Outcome", name := "answered", desc := "()Z" } : Jvm.MethodName) prog_2_method_5_code (1 : Nat) (Option.some Jvm.ClassFile.FieldType.boolean)).before args0 about1 = true := code_word (m := ⟨6, 1⟩) (meth := k6m1) (c := k6c1) (by decide +kernel) rfl rfl rfl (by decide +kernel)
set_option maxRecDepth 65536 in
theorem w_c3 : (Jvm.Cond.code ({ cls := "com/example/preference_store/preferencestore/bench/Outcome", name := "ofStatus", desc := "(I)Lcom/example/preference_store/preferencestore/bench/Outcome;" } : Jvm.MethodName) prog_2_method_4_code (1 : Nat) (Option.some (Jvm.ClassFile.FieldType.object "com/example/preference_store/preferencestore/bench/Outcome"))).before args0 about1 = true := code_word (m := ⟨6, 0⟩) (meth := k6m0) (c := k6c0) (by decide +kernel) rfl rfl rfl (by decide +kernel)
def codes1 : List Jvm.Cond := [Jvm.Cond.code x code maxLocals ret, Jvm.Cond.code ({ cls := "com/example/preference_store/preferencestore/bench/OutcomeAnsweredPinLaw", name := "pick", desc := "(I)Lcom/example/preference_store/preferencestore/bench/Outcome;" } : Jvm.MethodName) method_2_code (1 : Nat) (Option.some (Jvm.ClassFile.FieldType.object "com/example/preference_store/preferencestore/bench/Outcome")), Jvm.Cond.code ({ cls := "com/example/preference_store/preferencestore/bench/Outcome", name := "answered", desc := "()Z" } : Jvm.MethodName) prog_2_method_5_code (1 : Nat) (Option.some Jvm.ClassFile.FieldType.boolean), Jvm.Cond.code ({ cls := "com/example/preference_store/preferencestore/bench/Outcome", name := "ofStatus", desc := "(I)Lcom/example/preference_store/preferencestore/bench/Outcome;" } : Jvm.MethodName) prog_2_method_4_code (1 : Nat) (Option.some (Jvm.ClassFile.FieldType.object "com/example/preference_store/preferencestore/bench/Outcome"))]
set_option maxRecDepth 65536 in
theorem codes_eq : words1.filter isCode = codes1 := rfl
theorem w_codes : ∀ c ∈ words1.filter isCode, c.before args0 about1 = true := by
  rw [codes_eq]
  intro c hc
  simp only [codes1, List.mem_cons, List.not_mem_nil, or_false] at hc
  rcases hc with rfl | rfl | rfl | rfl
  · exact w_c0
  · exact w_c1
  · exact w_c2
  · exact w_c3
set_option maxRecDepth 65536 in
theorem w_t1 : words1.all (fun c => isCode c || c.before args0 about1) = true := by decide +kernel
theorem w_tables : (allAtoms (Jvm.Cond.code x code maxLocals ret :: tables_1)).before args0 about1 = true := by
  rw [allAtoms_all]
  show words1.all (fun c => c.before args0 about1) = true
  refine all_split ?_ w_codes
  rw [w_t1]
set_option maxRecDepth 65536 in
theorem w_case : (Jvm.Cond.and given_1 narrow_1).before args0 about1 = true := by decide +kernel
theorem w_applies : (headSpec (Jvm.Cond.code x code maxLocals ret :: tables_1) room_1).applies x e0.platform about1 = true :=
  (Spec.applies_iff w_frames).mpr ⟨w_running, w_runnable, w_alone, w_named, w_hears, w_ripe, w_room, w_tables⟩
theorem atStart : AtStart classFile x code maxLocals ret World_1 tables_1 room_1 Calls_1 rest_1 Pre_1 launch0 p0 e0 about1 theMethod args0 below0 :=
  ⟨lists_1, trivial, launch0.admits_env _ _ _, launch0.least_env, fairChoices_fair.cas, fairChoices_fair.clock, w_frames, w_args, w_heap, w_applies, trivial, trivial, w_case⟩
end start1
theorem witness_1 : WitnessClaimed_1 := ⟨start1.p0, start1.e0, start1.about1, start1.theMethod, start1.args0, start1.below0, start1.atStart⟩
end Jvm.Pilot.@@N@@
