import JvmDerived
import JvmDerived.Pilot.@@N@@Statement
import JvmDerived.Pilot.@@N@@Code
set_option linter.unusedVariables false
set_option linter.unusedSimpArgs false
namespace Jvm.RoadKit
open Sem ClassFile Op Lib Jvm.Stand Jvm.Free Jvm.LawKit
/-- the run from S ends, and ends as Q says -/
def Go (tb : Tables) (e : Env) (below : List Frame) (Q : Outcome → State → Prop) (S : State) : Prop := ∃ s₂ o, Steps tb e below S s₂ ∧ s₂.status = .running ∧ Ended s₂ below o ∧ Q o s₂
theorem Go.by {tb : Tables} {e : Env} {below : List Frame} {Q : Outcome → State → Prop} {S S' : State} (h : ∀ t, Steps tb e below S' t → Steps tb e below S t) (k : Go tb e below Q S') : Go tb e below Q S := by
  obtain ⟨s₂, o, h1, r⟩ := k
  exact ⟨s₂, o, h _ h1, r⟩
/-- what a contract says of the end -/
def Ret (s : State) (n0 : Nat) (Q : Option Value → Heap → Prop) (C S : Nat) : Outcome → State → Prop := fun o U => ∃ v L, o = .returned v ∧ (Q v U.heap ∧ Fr n0 L) ∧ FrameEnd s o U L C S
def Met (l : Launch) (Z : State) (n0 : Nat) (y : MethodName) (bytes : ByteArray) (maxL : Nat) (ret : Option FieldType) (ws : List Cond) (rm : Room) (as : Array Value) (h0 : Heap) (Q : Option Value → Heap → Prop) : Prop :=
  MetFree l y (head1 (Cond.code y bytes maxL ret :: ws) rm) (fun a U => a = as ∧ Z.Warmed39 U.vm ∧ U.heap = h0) (fun _ _ _ _ _ => True) (fun _ U o U' => ∃ v L, o = .returned v ∧ (Q v U'.heap ∧ Fr n0 L) ∧ FrameEnd U o U' L rm.cells rm.slots)
/-- where the walk stands: the heap is h, k cells of n slots were made, nothing below n0 was written -/
def Sd (n0 : Nat) (p : Program) (l : Launch) (e : Env) (R : Room) (s : State) (m : MethodId) (args : Array Value) (below : List Frame) (meth : Method) (c : Code) (T : State) (h : Heap) (k n : Nat) : Prop :=
  ∃ locs, Stand p l e R s m args below meth c T locs k n ∧ Fr n0 locs ∧ T.heap = h
section Sds
variable {n0 : Nat} {p : Program} {l : Launch} {e : Env} {R : Room} {s : State} {m : MethodId} {args : Array Value} {below : List Frame} {meth : Method} {c : Code} {T : State} {h : Heap} {k n : Nat} {Z : State} {a0 : Array Value}
theorem Sd.here (X : Sd n0 p l e R s m args below meth c T h k n) : At T m c below := by obtain ⟨_, X, -⟩ := X; exact X.here
theorem Sd.more (X : Sd n0 p l e R s m args below meth c T h k n) {k' n' : Nat} (hk : k ≤ k') (hn : n ≤ n') : Sd n0 p l e R s m args below meth c T h k' n' := by
  obtain ⟨L, X, N, q⟩ := X; exact ⟨L, X.more hk hn, N, q⟩
theorem enter {y : MethodName} {bytes : ByteArray} {maxL : Nat} {ret : Option FieldType} {ws : List Cond} {rm : Room} {as : Array Value} {h0 : Heap} {Q : Option Value → Heap → Prop} {Ls : Array Slot}
    (hpl : plainFor y = true) (hef : ∀ m, entryFrame m as maxL = mkF m 0 Ls [])
    (body : ∀ (p : Program) (e : Env) (s : State) (m : MethodId) (below : List Frame) (meth : Method) (c : Code) (T0 : State), p.tables.exec = Jvm.exec → c.code = bytes → c.maxLocals = maxL → s.vm.findClass y.cls = some m.cls → meth.name = y.name → meth.sig.returnType = ret → meth.locks = false → Z.Warmed39 s.vm →
      Sd n0 p l e rm s m as below meth c T0 h0 0 0 → Go p.tables e below (Ret s n0 Q rm.cells rm.slots) (T0.setTop (mkF m 0 Ls []))) : Met l Z n0 y bytes maxL ret ws rm as h0 Q := by
  refine MetFree.of_bodySF hpl hisR ?_
  intro p e s m args below meth c s₁ Bd hml0 hP hK
  obtain ⟨rfl, hZ, hh⟩ := hP
  have X0 : Stand p l e rm s m args below meth c s₁ [] 0 0 := Stand.of_body Bd
  have e0 : s₁.heap = h0 := by rw [← hh, Bd.state]; rfl
  have hlk : meth.locks = false := BodyLoose.notSynchronized Bd
  have k := body p e s m below meth c s₁ Bd.exec Bd.bytes hml0 (findClass_of_methodNamed Bd.named) (name_of_methodNamed Bd.named Bd.method).1 Bd.returns hlk hZ ⟨[], X0, Fr.nil n0, e0⟩
  obtain ⟨s₂, o, h1, h2, h3, h4⟩ := k
  exact ⟨s₂, o, castTop (hef m) h1, h2, h3, h4⟩
/-! returns -/
theorem Go.leave (X : Sd n0 p l e R s m args below meth c T h k n) {Q : Option Value → Heap → Prop} {C S : Nat} {v : Option Value} {g : JFrame} (hlk : meth.locks = false) (hv : meth.sig.returnType = none → v = none)
    (hst : ∀ fs, (∀ (f : JFrame) (acts : List Action), f.method = m → f.locked = none → f.entered = [] → (doReturn e (T.setTop f) acts v).1 = T.setFrames fs) → Steps p.tables e below (T.setTop g) (T.setFrames fs))
    (hk : k ≤ C) (hn : n ≤ S) (hQ : Q v h) : Go p.tables e below (Ret s n0 Q C S) (T.setTop g) := by
  obtain ⟨L, X, N, q⟩ := X
  obtain ⟨fs, hr, hrun, hended, hW, hsame⟩ := X.leave (v := v) hv hlk
  refine ⟨_, _, hst fs hr, hrun, hended, _, L, rfl, ⟨?_, N⟩, ⟨_, rfl⟩, hW, hsame.mono hk hn⟩
  show Q v T.heap
  rw [q]; exact hQ
theorem Go.retN (X : Sd n0 p l e R s m args below meth c T h k n) (hx : p.tables.exec = Jvm.exec) (hlk : meth.locks = false) {Q : Option Value → Heap → Prop} {C S : Nat} {t : FieldType} {pc : Nat} {Ls : Array Slot} {z z' : Int32} {rest : List Value} (hret : meth.sig.returnType = some t) (ht : t = .boolean ∨ t = .byte ∨ t = .char ∨ t = .short)
    (hd : decode c.code pc = .ok (.ireturn, 1)) (hz : nar t z = z') (hk : k ≤ C) (hn : n ≤ S) (hQ : Q (some (.int z')) h) : Go p.tables e below (Ret s n0 Q C S) (T.setTop (mkF m pc Ls (.int z :: rest))) := by
  subst hz
  refine Go.leave X hlk (fun q => by rw [hret] at q; cases q) (fun fs hr => ?_) hk hn hQ
  obtain ⟨L, X, -⟩ := X
  exact Jvm.RoadKit.retN X hx hret ht hd hr
theorem Go.retI (X : Sd n0 p l e R s m args below meth c T h k n) (hx : p.tables.exec = Jvm.exec) (hlk : meth.locks = false) {Q : Option Value → Heap → Prop} {C S : Nat} {pc : Nat} {Ls : Array Slot} {z : Int32} {rest : List Value} (hret : meth.sig.returnType = some .int)
    (hd : decode c.code pc = .ok (.ireturn, 1)) (hk : k ≤ C) (hn : n ≤ S) (hQ : Q (some (.int z)) h) : Go p.tables e below (Ret s n0 Q C S) (T.setTop (mkF m pc Ls (.int z :: rest))) := by
  refine Go.leave X hlk (fun q => by rw [hret] at q; cases q) (fun fs hr => ?_) hk hn hQ
  obtain ⟨L, X, -⟩ := X
  exact retOut X hx hret rfl (Or.inl ⟨rfl, Or.inl rfl, _, rfl⟩) hd hr
theorem Go.retL (X : Sd n0 p l e R s m args below meth c T h k n) (hx : p.tables.exec = Jvm.exec) (hlk : meth.locks = false) {Q : Option Value → Heap → Prop} {C S : Nat} {pc : Nat} {Ls : Array Slot} {z : Int64} {rest : List Value} (hret : meth.sig.returnType = some .long)
    (hd : decode c.code pc = .ok (.lreturn, 1)) (hk : k ≤ C) (hn : n ≤ S) (hQ : Q (some (.long z)) h) : Go p.tables e below (Ret s n0 Q C S) (T.setTop (mkF m pc Ls (.long z :: rest))) := by
  refine Go.leave X hlk (fun q => by rw [hret] at q; cases q) (fun fs hr => ?_) hk hn hQ
  obtain ⟨L, X, -⟩ := X
  exact retOut X hx hret rfl (Or.inr (Or.inl ⟨rfl, rfl, _, rfl⟩)) hd hr
theorem Go.retA (X : Sd n0 p l e R s m args below meth c T h k n) (hx : p.tables.exec = Jvm.exec) (hlk : meth.locks = false) {Q : Option Value → Heap → Prop} {C S : Nat} {t : FieldType} {pc : Nat} {Ls : Array Slot} {w : Value} {rest : List Value} (hret : meth.sig.returnType = some t) (ht : t.isReference = true) (hw : w.isRef = true)
    (hd : decode c.code pc = .ok (.areturn, 1)) (hk : k ≤ C) (hn : n ≤ S) (hQ : Q (some w) h) : Go p.tables e below (Ret s n0 Q C S) (T.setTop (mkF m pc Ls (w :: rest))) := by
  refine Go.leave X hlk (fun q => by rw [hret] at q; cases q) (fun fs hr => ?_) hk hn hQ
  obtain ⟨L, X, -⟩ := X
  have hnar : narrow t w = w := by cases t <;> first | (cases ht; done) | (cases w <;> first | rfl | (cases hw; done))
  exact retOut X hx hret hnar (Or.inr (Or.inr (Or.inr (Or.inr ⟨rfl, ht, hw⟩)))) hd hr
theorem Go.ret0 (X : Sd n0 p l e R s m args below meth c T h k n) (hx : p.tables.exec = Jvm.exec) (hlk : meth.locks = false) {Q : Option Value → Heap → Prop} {C S : Nat} {pc : Nat} {Ls : Array Slot} (hret : meth.sig.returnType = none)
    (hd : decode c.code pc = .ok (.return_, 1)) (hk : k ≤ C) (hn : n ≤ S) (hQ : Q none h) : Go p.tables e below (Ret s n0 Q C S) (T.setTop (mkF m pc Ls [])) := by
  refine Go.leave X hlk (fun _ => rfl) (fun fs hr => ?_) hk hn hQ
  obtain ⟨L, X, -⟩ := X
  exact X.returnOut hx hret hd hr
/-! fields, statics, casts -/
theorem Sd.getF (X : Sd n0 p l e R s m args below meth c T h k n) (hx : p.tables.exec = Jvm.exec) (hZ : Z.Warmed39 s.vm) {own R0 O nm d host : String} {index : Nat} (hown : s.vm.findClass own = some m.cls) (w : (Cond.fieldLink own index R0 nm d).before a0 Z = true ∨ (Cond.fieldLinkNest own index R0 nm d host).before a0 Z = true) (via : Via Z R0 O nm d)
    {a : Addr} {v : Value} (F : Fld Z h a O nm d v) {g : JFrame} (hg : g.method = m) {rest : List Value} (hs : g.stack = .ref a :: rest) (hd : decode c.code g.pc = .ok (.getfield index, 3)) :
    ∃ T', Sd n0 p l e R s m args below meth c T' h k n ∧ ∀ target, Steps p.tables e below (T'.setTop { g with pc := g.pc + 3, stack := v :: rest }) target → Steps p.tables e below (T.setTop g) target := by
  obtain ⟨L, X, N, q⟩ := X
  obtain ⟨T', X', e', st⟩ := Jvm.RoadKit.getF X hx hZ hown w via q F hg hs hd
  exact ⟨T', ⟨L, X', N, e'⟩, st⟩
theorem Sd.getS (X : Sd n0 p l e R s m args below meth c T h k n) (hx : p.tables.exec = Jvm.exec) (hZ : Z.Warmed39 s.vm) {own R0 O nm d host : String} {index : Nat} (hown : s.vm.findClass own = some m.cls) (w : (Cond.fieldLink own index R0 nm d).before a0 Z = true ∨ (Cond.fieldLinkNest own index R0 nm d host).before a0 Z = true) (via : Via Z R0 O nm d)
    {v : Value} (F : Sta Z h O nm d v) {g : JFrame} (hg : g.method = m) (hd : decode c.code g.pc = .ok (.getstatic index, 3)) :
    ∃ T', Sd n0 p l e R s m args below meth c T' h k n ∧ ∀ target, Steps p.tables e below (T'.setTop { g with pc := g.pc + 3, stack := v :: g.stack }) target → Steps p.tables e below (T.setTop g) target := by
  obtain ⟨L, X, N, q⟩ := X
  obtain ⟨T', X', e', st⟩ := getS2 X hx hZ hown w via q F hg hd
  exact ⟨T', ⟨L, X', N, e'⟩, st⟩
theorem Sd.putF (X : Sd n0 p l e R s m args below meth c T h k n) (hx : p.tables.exec = Jvm.exec) (hZ : Z.Warmed39 s.vm) {own R0 O nm d host C : String} {index kk : Nat} {ty : FieldType} (hown : s.vm.findClass own = some m.cls) (w : (Cond.fieldLink own index R0 nm d).before a0 Z = true ∨ (Cond.fieldLinkNest own index R0 nm d host).before a0 Z = true) (via : Via Z R0 O nm d)
    {a : Addr} {v old : Value} (F : Fld Z h a O nm d old) (E : Exa Z h a C) (ga : n0 ≤ a) (L : (Cond.lays C O nm d).before a0 Z = true ∨ ((Cond.laysFinal C O nm d).before a0 Z = true ∧ own = O ∧ meth.name = "<init>")) (wi : (Cond.instantiable C kk).before a0 Z = true)
    (hty : parseFieldDescriptor d = some ty) (hnr : narrow ty v = v) (hf : fits ty v = true) {g : JFrame} (hg : g.method = m) {rest : List Value} (hs : g.stack = v :: .ref a :: rest) (hd : decode c.code g.pc = .ok (.putfield index, 3)) :
    ∃ T' h', Sd n0 p l e R s m args below meth c T' h' k n ∧ Wr h h' a (slotOf Z O nm d) v ∧ ∀ target, Steps p.tables e below (T'.setTop { g with pc := g.pc + 3, stack := rest }) target → Steps p.tables e below (T.setTop g) target := by
  obtain ⟨Lc, X, N, q⟩ := X
  obtain ⟨T', h', X', e', W, st⟩ := Jvm.RoadKit.putF X hx hZ hown w via q F E L wi hty hnr hf hg hs hd
  exact ⟨T', h', ⟨_, X', Fr.snoc X' N ga, e'⟩, W, st⟩
theorem Sd.putFN (X : Sd n0 p l e R s m args below meth c T h k n) (hx : p.tables.exec = Jvm.exec) (hZ : Z.Warmed39 s.vm) {own R0 O nm d C : String} {index kk : Nat} {ty : FieldType} (hown : s.vm.findClass own = some m.cls) (w : (Cond.fieldLink own index R0 nm d).before a0 Z = true) (via : Via Z R0 O nm d)
    {a : Addr} {v v' old : Value} (F : Fld Z h a O nm d old) (E : Exa Z h a C) (ga : n0 ≤ a) (L : (Cond.lays C O nm d).before a0 Z = true ∨ ((Cond.laysFinal C O nm d).before a0 Z = true ∧ own = O ∧ meth.name = "<init>")) (wi : (Cond.instantiable C kk).before a0 Z = true)
    (hty : parseFieldDescriptor d = some ty) (hnr : narrow ty v = v') (hf : fits ty v' = true) {g : JFrame} (hg : g.method = m) {rest : List Value} (hs : g.stack = v :: .ref a :: rest) (hd : decode c.code g.pc = .ok (.putfield index, 3)) :
    ∃ T' h', Sd n0 p l e R s m args below meth c T' h' k n ∧ Wr h h' a (slotOf Z O nm d) v' ∧ ∀ target, Steps p.tables e below (T'.setTop { g with pc := g.pc + 3, stack := rest }) target → Steps p.tables e below (T.setTop g) target := by
  obtain ⟨Lc, X, N, q⟩ := X
  obtain ⟨T', h', X', e', W, st⟩ := Jvm.RoadKit.putFN X hx hZ hown w via q F E L wi hty hnr hf hg hs hd
  exact ⟨T', h', ⟨_, X', Fr.snoc X' N ga, e'⟩, W, st⟩
theorem Sd.castY (X : Sd n0 p l e R s m args below meth c T h k n) (hx : p.tables.exec = Jvm.exec) (hZ : Z.Warmed39 s.vm) {own K : String} {index : Nat} (hown : s.vm.findClass own = some m.cls) (w : (Cond.classLink own index K).before a0 Z = true) {a : Addr} (F : Ins Z h a K true)
    {g : JFrame} (hg : g.method = m) {rest : List Value} (hs : g.stack = .ref a :: rest) (hd : decode c.code g.pc = .ok (.checkcast index, 3)) :
    ∃ T', Sd n0 p l e R s m args below meth c T' h k n ∧ ∀ target, Steps p.tables e below (T'.setTop { g with pc := g.pc + 3 }) target → Steps p.tables e below (T.setTop g) target := by
  obtain ⟨L, X, N, q⟩ := X
  obtain ⟨T', X', e', st⟩ := Jvm.RoadKit.castY X hx hZ hown w q F hg hs hd
  exact ⟨T', ⟨L, X', N, e'⟩, st⟩
theorem Sd.instY (X : Sd n0 p l e R s m args below meth c T h k n) (hx : p.tables.exec = Jvm.exec) (hZ : Z.Warmed39 s.vm) {own K : String} {index : Nat} (hown : s.vm.findClass own = some m.cls) (w : (Cond.classLink own index K).before a0 Z = true) {a : Addr} (F : Ins Z h a K true)
    {g : JFrame} (hg : g.method = m) {rest : List Value} (hs : g.stack = .ref a :: rest) (hd : decode c.code g.pc = .ok (.instanceof index, 3)) :
    ∃ T', Sd n0 p l e R s m args below meth c T' h k n ∧ ∀ target, Steps p.tables e below (T'.setTop { g with pc := g.pc + 3, stack := .int 1 :: rest }) target → Steps p.tables e below (T.setTop g) target := by
  obtain ⟨L, X, N, q⟩ := X
  obtain ⟨T', X', e', st⟩ := Jvm.RoadKit.instY X hx hZ hown w q F hg hs hd
  exact ⟨T', ⟨L, X', N, e'⟩, st⟩
theorem Sd.instNull (X : Sd n0 p l e R s m args below meth c T h k n) (hx : p.tables.exec = Jvm.exec) {index : Nat} {g : JFrame} (hg : g.method = m) {rest : List Value} (hs : g.stack = .null :: rest) (hd : decode c.code g.pc = .ok (.instanceof index, 3)) :
    ∀ target, Steps p.tables e below (T.setTop { g with pc := g.pc + 3, stack := .int 0 :: rest }) target → Steps p.tables e below (T.setTop g) target := by
  obtain ⟨L, X, -⟩ := X; exact X.instanceofNull hx hg hs hd
theorem Sd.ldcInt (X : Sd n0 p l e R s m args below meth c T h k n) (hx : p.tables.exec = Jvm.exec) (hZ : Z.Warmed39 s.vm) {own : String} {index : Nat} {v : Int32} (hown : s.vm.findClass own = some m.cls) (w : (Cond.constant own index v).before a0 Z = true) {g : JFrame} (hg : g.method = m) (hd : decode c.code g.pc = .ok (.ldc index, 2)) :
    ∀ target, Steps p.tables e below (T.setTop { g with pc := g.pc + 2, stack := .int v :: g.stack }) target → Steps p.tables e below (T.setTop g) target := by
  obtain ⟨L, X, -⟩ := X; exact X.ldcInt hx hown (mvT hZ w) hg hd
theorem Sd.ldc2Long (X : Sd n0 p l e R s m args below meth c T h k n) (hx : p.tables.exec = Jvm.exec) (hZ : Z.Warmed39 s.vm) {own : String} {index : Nat} {v : Int64} (hown : s.vm.findClass own = some m.cls) (w : (Cond.constantLong own index v).before a0 Z = true) {g : JFrame} (hg : g.method = m) (hd : decode c.code g.pc = .ok (.ldc2_w index, 3)) :
    ∀ target, Steps p.tables e below (T.setTop { g with pc := g.pc + 3, stack := .long v :: g.stack }) target → Steps p.tables e below (T.setTop g) target := by
  obtain ⟨L, X, -⟩ := X; exact X.ldc2Long hx hown (mvT hZ w) hg hd
theorem Sd.acmp {g : JFrame} (X : Sd n0 p l e R s m args below meth c T h k n) (hx : p.tables.exec = Jvm.exec) (hg : g.method = m) {cd : ACond} {x y : Value} (h1 : x.isRef = true) (h2 : y.isRef = true) {rest : List Value} {o : Int} {pc0 pc' : Nat} {same : Bool} (hpc : g.pc = pc0)
    (hd : decode c.code g.pc = .ok (.if_acmp cd o, 3)) (hs : g.stack = y :: x :: rest) (hq : decide (x = y) = same) (ho : 0 ≤ (pc0 : Int) + o) (hp : pc' = if acV cd same = true then ((pc0 : Int) + o).toNat else pc0 + 3) :
    ∀ target, Steps p.tables e below (T.setTop { g with pc := pc', stack := rest }) target → Steps p.tables e below (T.setTop g) target := by
  obtain ⟨L, X, -⟩ := X; exact fun _ => Jvm.RoadKit.acmp X hx hg h1 h2 hpc hd hs hq ho hp
theorem Sd.getFR (X : Sd n0 p l e R s m args below meth c T h k n) (hx : p.tables.exec = Jvm.exec) (hZ : Z.Warmed39 s.vm) {own O nm d : String} {index : Nat} (hown : s.vm.findClass own = some m.cls) (w : (Cond.fieldRef own index O nm d).before a0 Z = true)
    {a : Addr} {v : Value} (F : Fld Z h a O nm d v) {g : JFrame} (hg : g.method = m) {rest : List Value} (hs : g.stack = .ref a :: rest) (hd : decode c.code g.pc = .ok (.getfield index, 3)) :
    ∀ target, Steps p.tables e below (T.setTop { g with pc := g.pc + 3, stack := v :: rest }) target → Steps p.tables e below (T.setTop g) target := by
  obtain ⟨L, X, N, q⟩ := X
  obtain ⟨cell, cf, kk, i, f, h1, h2, h3, h4, h5, h6, h7⟩ := F
  have hT : Z.Warmed39 T.vm := wtrans hZ X.warmed
  have w' := Cond.fieldRef_warmed39 hT w
  have hcur : (Z.setVm T.vm).vm.findClass own = some m.cls := by show T.vm.findClass own = _; rw [X.warmed.alike.findClass]; exact hown
  obtain ⟨c', k', i', f', e1, e2⟩ := Cond.fieldRef_spec hcur w'
  obtain ⟨k2, hi, -⟩ := State.fieldFound?_setVm (s := Z) hT.alike h2
  cases e1.symm.trans hi
  intro target hrest
  subst hg
  jvm_step X.here [hx, hd, getfield.wp_ready (e := e) (s := T) (f := g) X.here.top e2 h3 hs (by rw [q]; exact h1) h4 h7]
  exact hrest
/-! making -/
theorem Sd.newO (X : Sd n0 p l e R s m args below meth c T h k n) (hx : p.tables.exec = Jvm.exec) (hZ : Z.Warmed39 s.vm) {own C : String} {index sz k' n' : Nat} (hown : s.vm.findClass own = some m.cls) (w : (Cond.classLink own index C).before a0 Z = true) (wi : (Cond.instantiable C sz).before a0 Z = true) (wz : (Cond.initialized C).before a0 Z = true)
    {g : JFrame} (hg : g.method = m) (hd : decode c.code g.pc = .ok (.new index, 3)) (hk : k + 1 = k') (hn : n + sz = n') (hc : k' ≤ R.cells) (hl : n' ≤ R.slots) :
    ∃ T' h' a, Sd n0 p l e R s m args below meth c T' h' k' n' ∧ a = h.size ∧ Ext h h' ∧ Exa Z h' a C ∧ (∀ {O nm d : String} {ty : FieldType}, Laid Z a0 C O nm d → parseFieldDescriptor d = some ty → Fld Z h' a O nm d (defaultValue ty)) ∧
      ∀ target, Steps p.tables e below (T'.setTop { g with pc := g.pc + 3, stack := .ref a :: g.stack }) target → Steps p.tables e below (T.setTop g) target := by
  subst hk hn
  obtain ⟨L, X, N, q⟩ := X
  obtain ⟨T', h', X', e', E, A, D, -, st⟩ := Jvm.RoadKit.newO X hx hZ hown w wi wz q hg hd hc hl
  exact ⟨T', h', _, ⟨L, X', N, e'⟩, rfl, E, A, D, st⟩
theorem Sd.initO (X : Sd n0 p l e R s m args below meth c T h k n) (hx : p.tables.exec = Jvm.exec) (hZ : Z.Warmed39 s.vm) {own : String} {idx : Nat} (hown : s.vm.findClass own = some m.cls) (w1 : (Cond.methodLink own idx Lib.objectInit).before a0 Z = true) (w2 : (Cond.instanceMethod Lib.objectInit).before a0 Z = true)
    (w3 : (Cond.code Lib.objectInit ⟨#[0xb1]⟩ 1 none).before a0 Z = true) {g : JFrame} (hg : g.method = m) (hsize : g.locals.size = c.maxLocals) {a : Addr} {rest : List Value} (hs : g.stack = .ref a :: rest) (hd : decode c.code g.pc = .ok (.invokespecial idx, 3))
    (hf : 1 ≤ R.frames) (hl : 2 * g.monitorRoom + (rest.map fun v => v.category).sum + 12 ≤ R.locals) :
    ∃ T', Sd n0 p l e R s m args below meth c T' h k n ∧ ∀ target, Steps p.tables e below (T'.setTop { g with pc := g.pc + 3, stack := rest }) target → Steps p.tables e below (T.setTop g) target := by
  obtain ⟨L, X, N, q⟩ := X
  obtain ⟨T', X', e', st⟩ := Jvm.RoadKit.initO X hx hZ hown w1 w2 w3 q hg hsize hs hd hf (W := 2 * g.monitorRoom + (rest.map fun v => v.category).sum) (Nat.le_refl _) hl
  exact ⟨T', ⟨L, X', N, e'⟩, st⟩
/-- an array of n' places, place i holds f i -/
def Avf (Z : State) (h : Heap) (a : Addr) (kc : ClassId) (ty : FieldType) (sz : Nat) (f : Nat → Value) : Prop := ∃ cl : Cell, Arr Z h a cl ty ∧ cl.cls = kc ∧ cl.slots.size = sz ∧ sz < 2 ^ 31 ∧ ∀ i, i < sz → cl.slots[i]? = some (f i) ∧ fits ty (f i) = true
theorem Avf.lt {h : Heap} {a : Addr} {kc : ClassId} {ty : FieldType} {sz : Nat} {f : Nat → Value} (F : Avf Z h a kc ty sz f) : a < h.size := by obtain ⟨_, A, -⟩ := F; exact A.lt
theorem Avf.ext {h h' : Heap} {a : Addr} {kc : ClassId} {ty : FieldType} {sz : Nat} {f : Nat → Value} (F : Avf Z h a kc ty sz f) (E : Ext h h') : Avf Z h' a kc ty sz f := by obtain ⟨cl, A, r⟩ := F; exact ⟨cl, A.ext E, r⟩
theorem Avf.other {h h' : Heap} {a b : Addr} {kc : ClassId} {ty : FieldType} {sz sl : Nat} {f : Nat → Value} {v : Value} (F : Avf Z h b kc ty sz f) (W : Wr h h' a sl v) (q : b ≠ a) : Avf Z h' b kc ty sz f := by obtain ⟨cl, A, r⟩ := F; exact ⟨cl, A.other W q, r⟩
theorem Avf.keep {h h' : Heap} {a : Addr} {kc : ClassId} {ty : FieldType} {sz : Nat} {f : Nat → Value} {ws : List Addr} (F : Avf Z h a kc ty sz f) (K : Keep h h' ws) (q : a ∉ ws) : Avf Z h' a kc ty sz f := by obtain ⟨cl, A, r⟩ := F; exact ⟨cl, ⟨K.2.1 a cl A.1 q, A.2⟩, r⟩
theorem Avf.cong {h : Heap} {a : Addr} {kc : ClassId} {ty : FieldType} {sz : Nat} {f g : Nat → Value} (F : Avf Z h a kc ty sz f) (q : ∀ i, i < sz → f i = g i) : Avf Z h a kc ty sz g := by
  obtain ⟨cl, A, r1, r2, r3, r4⟩ := F; exact ⟨cl, A, r1, r2, r3, fun i hi => by rw [← q i hi]; exact r4 i hi⟩
theorem Avf.set {h h' : Heap} {a : Addr} {kc : ClassId} {ty : FieldType} {sz : Nat} {f : Nat → Value} {v : Value} {j : Nat} (F : Avf Z h a kc ty sz f) (W : Wr h h' a j v) (hv : fits ty v = true) : Avf Z h' a kc ty sz (fun i => if i = j then v else f i) := by
  obtain ⟨cl, A, r1, r2, r3, r4⟩ := F
  refine ⟨_, A.same W, r1, by rw [sz_set]; exact r2, r3, fun i hi => ?_⟩
  by_cases q : i = j
  · subst q; simp [Cell.setSlot, r2, hi, hv]
  · simp [Cell.setSlot, q, r4 i hi, Array.getElem?_setIfInBounds_ne (Ne.symm q)]
theorem Avf.of_arv {h : Heap} {a : Addr} {kc : ClassId} {ty : FieldType} {z : Int32} {vs : List Value} {dv : Value} (F : Arv Z h a kc ty z vs dv) : Avf Z h a kc ty z.toNatClampNeg (fun i => vs.getD i dv) := by
  obtain ⟨cl, A, r1, r2, r3, H, G⟩ := F
  exact ⟨cl, A, r1, r2, (back32 r3).2, fun i hi => ⟨H i (by rw [r2]; exact hi), G i (by rw [r2]; exact hi)⟩⟩
theorem Sd.newP (X : Sd n0 p l e R s m args below meth c T h k n) (hx : p.tables.exec = Jvm.exec) (hZ : Z.Warmed39 s.vm) {aty : ArrayType} (w : (Cond.arrayClass (newarray.typeOf aty)).before a0 Z = true) {g : JFrame} (hg : g.method = m) (hd : decode c.code g.pc = .ok (.newarray aty, 2)) {z : Int32} {rest : List Value} (hs : g.stack = .int z :: rest)
    (hz : ¬ z < 0) {sz cap k' n' : Nat} (hsz : z.toNatClampNeg = sz) (hcap : sz ≤ cap) (hb : cap * 8 ≤ 536870912) (hk : k + 1 = k') (hn : n + cap = n') (hc : k' ≤ R.cells) (hl : n' ≤ R.slots) {ad : String} (had : "[" ++ (newarray.typeOf aty).toString = ad) :
    ∃ T' h' kc a, Sd n0 p l e R s m args below meth c T' h' k' n' ∧ a = h.size ∧ Ext h h' ∧ Exa Z h' a ad ∧ Avf Z h' a kc (newarray.typeOf aty) sz (fun _ => defaultValue (newarray.typeOf aty)) ∧
      ∀ target, Steps p.tables e below (T'.setTop { g with pc := g.pc + 2, stack := .ref a :: rest }) target → Steps p.tables e below (T.setTop g) target := by
  subst hk hn hsz
  obtain ⟨L, X, N, q⟩ := X
  obtain ⟨T', h', kc, X', e', E, A, Ex, st⟩ := Jvm.RoadKit.newPE X hx hZ w q hg hd hs hz hcap hb hc hl had
  refine ⟨T', h', kc, _, ⟨L, X', N, e'⟩, rfl, E, Ex, ⟨_, A, rfl, sz_new _ _ _, (back32 hz).2, fun i hi => ⟨by simp [newA, hi], ?_⟩⟩, st⟩
  cases aty <;> rfl
theorem Sd.newR (X : Sd n0 p l e R s m args below meth c T h k n) (hx : p.tables.exec = Jvm.exec) (hZ : Z.Warmed39 s.vm) {own C : String} {index : Nat} (hown : s.vm.findClass own = some m.cls) (w1 : (Cond.classLink own index C).before a0 Z = true) (w2 : (Cond.arrayOver (.object C)).before a0 Z = true)
    {g : JFrame} (hg : g.method = m) (hd : decode c.code g.pc = .ok (.anewarray index, 3)) {z : Int32} {rest : List Value} (hs : g.stack = .int z :: rest)
    (hz : ¬ z < 0) {sz cap k' n' : Nat} (hsz : z.toNatClampNeg = sz) (hcap : sz ≤ cap) (hb : cap * 8 ≤ 536870912) (hk : k + 1 = k') (hn : n + cap = n') (hc : k' ≤ R.cells) (hl : n' ≤ R.slots) {ad : String} (had : "[" ++ (FieldType.object C).toString = ad) :
    ∃ T' h' kc a, Sd n0 p l e R s m args below meth c T' h' k' n' ∧ a = h.size ∧ Ext h h' ∧ Exa Z h' a ad ∧ Avf Z h' a kc (.object C) sz (fun _ => .null) ∧ Ovr Z kc C ∧
      ∀ target, Steps p.tables e below (T'.setTop { g with pc := g.pc + 3, stack := .ref a :: rest }) target → Steps p.tables e below (T.setTop g) target := by
  subst hk hn hsz
  obtain ⟨L, X, N, q⟩ := X
  obtain ⟨T', h', kc, X', e', E, A, Ex, O, st⟩ := Jvm.RoadKit.newRE X hx hZ hown w1 w2 q hg hd hs hz hcap hb hc hl had
  exact ⟨T', h', kc, _, ⟨L, X', N, e'⟩, rfl, E, Ex, ⟨_, A, rfl, sz_new _ _ _, (back32 hz).2, fun i hi => ⟨by simp [newA, hi, defaultValue], rfl⟩⟩, O, st⟩
theorem Sd.clone (X : Sd n0 p l e R s m args below meth c T h k n) (hx : p.tables.exec = Jvm.exec) (hZ : Z.Warmed39 s.vm) {own ad : String} {index : Nat} (hown : s.vm.findClass own = some m.cls)
    (w1 : (Cond.methodLink own index ⟨ad, "clone", "()Ljava/lang/Object;"⟩).before a0 Z = true) (w2 : (Cond.sameMethod ad "java/lang/Object" "clone" "()Ljava/lang/Object;").before a0 Z = true) (w3 : (Cond.native ⟨"java/lang/Object", "clone", "()Ljava/lang/Object;"⟩).before a0 Z = true)
    (w4 : (Cond.instanceMethod ⟨"java/lang/Object", "clone", "()Ljava/lang/Object;"⟩).before a0 Z = true) (w5 : (Cond.selects ad ⟨ad, "clone", "()Ljava/lang/Object;"⟩ ⟨"java/lang/Object", "clone", "()Ljava/lang/Object;"⟩).before a0 Z = true) (w6 : (Cond.castable ad "java/lang/Cloneable").before a0 Z = true)
    {a : Addr} {kc : ClassId} {ty : FieldType} {sz : Nat} {f : Nat → Value} (F : Avf Z h a kc ty sz f) (E : Exa Z h a ad) {g : JFrame} (hg : g.method = m) (hsize : g.locals.size = c.maxLocals) {rest : List Value} (hst : g.stack = .ref a :: rest) (hd : decode c.code g.pc = .ok (.invokevirtual index, 3))
    (hf : 1 ≤ R.frames) (hl : 2 * g.monitorRoom + (rest.map fun v => v.category).sum + 14 ≤ R.locals) {cap k' n' : Nat} (hcap : sz ≤ cap) (hk : k + 1 = k') (hn : n + cap = n') (hc : k' ≤ R.cells) (hs : n' ≤ R.slots) :
    ∃ T' h' b, Sd n0 p l e R s m args below meth c T' h' k' n' ∧ b = h.size ∧ Ext h h' ∧ Exa Z h' b ad ∧ Avf Z h' b kc ty sz f ∧ ∀ target, Steps p.tables e below (T'.setTop { g with pc := g.pc + 3, stack := .ref b :: rest }) target → Steps p.tables e below (T.setTop g) target := by
  subst hk hn
  obtain ⟨L, X, N, q⟩ := X
  obtain ⟨cl, A, r1, r2, r3, r4⟩ := F
  have FC : FitC Z cl := fitC_of A fun i hi v hv => by rw [(r4 i (r2 ▸ hi)).1] at hv; cases hv; exact (r4 i (r2 ▸ hi)).2
  obtain ⟨T', h', X', e', ex, A', E', st⟩ := cloneA X hx hZ hown w1 w2 w3 w4 w5 w6 q A E FC hg hsize hst hd hf (W := 2 * g.monitorRoom + (rest.map fun v => v.category).sum) (Nat.le_refl _) hl (by rw [r2]; exact hcap) hc hs
  exact ⟨T', h', _, ⟨L, X', N, e'⟩, rfl, ex, E', ⟨cloneOf cl, A', r1, r2, r3, r4⟩, st⟩
/-! arrays: length, load, store -/
theorem Sd.len (X : Sd n0 p l e R s m args below meth c T h k n) (hx : p.tables.exec = Jvm.exec) (hZ : Z.Warmed39 s.vm) {a : Addr} {kc : ClassId} {ty : FieldType} {sz : Nat} {f : Nat → Value} (F : Avf Z h a kc ty sz f) {z : Int32} (hz : sz.toInt32 = z)
    {g : JFrame} (hg : g.method = m) {rest : List Value} (hs : g.stack = .ref a :: rest) (hd : decode c.code g.pc = .ok (.arraylength, 1)) :
    ∀ target, Steps p.tables e below (T.setTop { g with pc := g.pc + 1, stack := .int z :: rest }) target → Steps p.tables e below (T.setTop g) target := by
  obtain ⟨L, X, -, q⟩ := X
  obtain ⟨cl, A, r1, r2, r3, r4⟩ := F
  intro t kt
  refine X.arraylength hx (by rw [q]; exact A.1) (State.isArrayOf_alike hZ.alike A.2.1) hg hs hd _ ?_
  rw [r2, hz]; exact kt
theorem inb {cl : Cell} {sz i : Nat} {j : Int32} (r2 : cl.slots.size = sz) (hj : ¬ j < 0) (hi : j.toNatClampNeg = i) (hlt : i < sz) : ¬ (j < 0 ∨ cl.slots.size ≤ j.toNatClampNeg) := fun q => q.elim hj fun q => by omega
theorem Sd.ldI (X : Sd n0 p l e R s m args below meth c T h k n) (hx : p.tables.exec = Jvm.exec) (hZ : Z.Warmed39 s.vm) {a : Addr} {kc : ClassId} {sz : Nat} {f : Nat → Value} (F : Avf Z h a kc .int sz f) {j : Int32} (hj : ¬ j < 0) {i : Nat} (hi : j.toNatClampNeg = i) (hlt : i < sz) {v : Value} (hv : f i = v)
    {g : JFrame} (hg : g.method = m) {rest : List Value} (hs : g.stack = .int j :: .ref a :: rest) (hd : decode c.code g.pc = .ok (.iaload, 1)) :
    ∀ target, Steps p.tables e below (T.setTop { g with pc := g.pc + 1, stack := v :: rest }) target → Steps p.tables e below (T.setTop g) target := by
  subst hv
  obtain ⟨L, X, -, q⟩ := X
  obtain ⟨cl, A, r1, r2, r3, r4⟩ := F
  exact X.iaload hx (by rw [q]; exact A.1) (State.isArrayOf_alike hZ.alike A.2.1) A.2.2 (inb r2 hj hi hlt) (by rw [hi]; exact (r4 i hlt).1) hg hs hd
theorem Sd.ldJ (X : Sd n0 p l e R s m args below meth c T h k n) (hx : p.tables.exec = Jvm.exec) (hZ : Z.Warmed39 s.vm) {a : Addr} {kc : ClassId} {sz : Nat} {f : Nat → Value} (F : Avf Z h a kc .long sz f) {j : Int32} (hj : ¬ j < 0) {i : Nat} (hi : j.toNatClampNeg = i) (hlt : i < sz) {v : Value} (hv : f i = v)
    {g : JFrame} (hg : g.method = m) {rest : List Value} (hs : g.stack = .int j :: .ref a :: rest) (hd : decode c.code g.pc = .ok (.laload, 1)) :
    ∀ target, Steps p.tables e below (T.setTop { g with pc := g.pc + 1, stack := v :: rest }) target → Steps p.tables e below (T.setTop g) target := by
  subst hv
  obtain ⟨L, X, -, q⟩ := X
  obtain ⟨cl, A, r1, r2, r3, r4⟩ := F
  exact X.laload hx (by rw [q]; exact A.1) (State.isArrayOf_alike hZ.alike A.2.1) A.2.2 (inb r2 hj hi hlt) (by rw [hi]; exact (r4 i hlt).1) hg hs hd
theorem Sd.ldC (X : Sd n0 p l e R s m args below meth c T h k n) (hx : p.tables.exec = Jvm.exec) (hZ : Z.Warmed39 s.vm) {a : Addr} {kc : ClassId} {sz : Nat} {f : Nat → Value} (F : Avf Z h a kc .char sz f) {j : Int32} (hj : ¬ j < 0) {i : Nat} (hi : j.toNatClampNeg = i) (hlt : i < sz) {v : Value} (hv : f i = v)
    {g : JFrame} (hg : g.method = m) {rest : List Value} (hs : g.stack = .int j :: .ref a :: rest) (hd : decode c.code g.pc = .ok (.caload, 1)) :
    ∀ target, Steps p.tables e below (T.setTop { g with pc := g.pc + 1, stack := v :: rest }) target → Steps p.tables e below (T.setTop g) target := by
  subst hv
  obtain ⟨L, X, -, q⟩ := X
  obtain ⟨cl, A, r1, r2, r3, r4⟩ := F
  exact X.caload hx (by rw [q]; exact A.1) (State.isArrayOf_alike hZ.alike A.2.1) A.2.2 (inb r2 hj hi hlt) (by rw [hi]; exact (r4 i hlt).1) hg hs hd
theorem Sd.ldB (X : Sd n0 p l e R s m args below meth c T h k n) (hx : p.tables.exec = Jvm.exec) (hZ : Z.Warmed39 s.vm) {a : Addr} {kc : ClassId} {sz : Nat} {f : Nat → Value} (F : Avf Z h a kc .byte sz f) {j : Int32} (hj : ¬ j < 0) {i : Nat} (hi : j.toNatClampNeg = i) (hlt : i < sz) {v : Value} (hv : f i = v)
    {g : JFrame} (hg : g.method = m) {rest : List Value} (hs : g.stack = .int j :: .ref a :: rest) (hd : decode c.code g.pc = .ok (.baload, 1)) :
    ∀ target, Steps p.tables e below (T.setTop { g with pc := g.pc + 1, stack := v :: rest }) target → Steps p.tables e below (T.setTop g) target := by
  subst hv
  obtain ⟨L, X, -, q⟩ := X
  obtain ⟨cl, A, r1, r2, r3, r4⟩ := F
  exact X.baloadBytes hx (by rw [q]; exact A.1) (State.isArrayOf_alike hZ.alike A.2.1) A.2.2 (inb r2 hj hi hlt) (by rw [hi]; exact (r4 i hlt).1) hg hs hd
theorem Sd.ldA (X : Sd n0 p l e R s m args below meth c T h k n) (hx : p.tables.exec = Jvm.exec) (hZ : Z.Warmed39 s.vm) {a : Addr} {kc : ClassId} {ty : FieldType} {sz : Nat} {f : Nat → Value} (F : Avf Z h a kc ty sz f) (hty : ty.isReference = true) {j : Int32} (hj : ¬ j < 0) {i : Nat} (hi : j.toNatClampNeg = i) (hlt : i < sz) {v : Value} (hv : f i = v)
    {g : JFrame} (hg : g.method = m) {rest : List Value} (hs : g.stack = .int j :: .ref a :: rest) (hd : decode c.code g.pc = .ok (.aaload, 1)) :
    ∀ target, Steps p.tables e below (T.setTop { g with pc := g.pc + 1, stack := v :: rest }) target → Steps p.tables e below (T.setTop g) target := by
  subst hv
  obtain ⟨L, X, -, q⟩ := X
  obtain ⟨cl, A, r1, r2, r3, r4⟩ := F
  exact X.aaload hx (by rw [q]; exact A.1) (State.isArrayOf_alike hZ.alike A.2.1) hty A.2.2 (inb r2 hj hi hlt) (by rw [hi]; exact (r4 i hlt).1) hg hs hd
theorem Sd.stI (X : Sd n0 p l e R s m args below meth c T h k n) (hx : p.tables.exec = Jvm.exec) (hZ : Z.Warmed39 s.vm) {a : Addr} {kc : ClassId} {sz : Nat} {f : Nat → Value} (F : Avf Z h a kc .int sz f) (ga : n0 ≤ a) {j x : Int32} (hj : ¬ j < 0) {i : Nat} (hi : j.toNatClampNeg = i) (hlt : i < sz)
    {g : JFrame} (hg : g.method = m) {rest : List Value} (hs : g.stack = .int x :: .int j :: .ref a :: rest) (hd : decode c.code g.pc = .ok (.iastore, 1)) :
    ∃ T' h', Sd n0 p l e R s m args below meth c T' h' k n ∧ Wr h h' a i (.int x) ∧ Avf Z h' a kc .int sz (fun t => if t = i then .int x else f t) ∧ ∀ target, Steps p.tables e below (T'.setTop { g with pc := g.pc + 1, stack := rest }) target → Steps p.tables e below (T.setTop g) target := by
  obtain ⟨L, X, N, q⟩ := X
  obtain ⟨cl, A, r1, r2, r3, r4⟩ := F
  obtain ⟨T', h', X', e', W, st⟩ := Jvm.RoadKit.stI X hx hZ q A (inb r2 hj hi hlt) hg hs hd
  subst hi
  exact ⟨T', h', ⟨_, X', Fr.snoc X' N ga, e'⟩, W, Avf.set ⟨cl, A, r1, r2, r3, r4⟩ W rfl, st⟩
theorem Sd.stJ (X : Sd n0 p l e R s m args below meth c T h k n) (hx : p.tables.exec = Jvm.exec) (hZ : Z.Warmed39 s.vm) {a : Addr} {kc : ClassId} {sz : Nat} {f : Nat → Value} (F : Avf Z h a kc .long sz f) (ga : n0 ≤ a) {j : Int32} {x : Int64} (hj : ¬ j < 0) {i : Nat} (hi : j.toNatClampNeg = i) (hlt : i < sz)
    {g : JFrame} (hg : g.method = m) {rest : List Value} (hs : g.stack = .long x :: .int j :: .ref a :: rest) (hd : decode c.code g.pc = .ok (.lastore, 1)) :
    ∃ T' h', Sd n0 p l e R s m args below meth c T' h' k n ∧ Wr h h' a i (.long x) ∧ Avf Z h' a kc .long sz (fun t => if t = i then .long x else f t) ∧ ∀ target, Steps p.tables e below (T'.setTop { g with pc := g.pc + 1, stack := rest }) target → Steps p.tables e below (T.setTop g) target := by
  obtain ⟨L, X, N, q⟩ := X
  obtain ⟨cl, A, r1, r2, r3, r4⟩ := F
  obtain ⟨T', h', X', e', W, st⟩ := Jvm.RoadKit.stJ X hx hZ q A (inb r2 hj hi hlt) hg hs hd
  subst hi
  exact ⟨T', h', ⟨_, X', Fr.snoc X' N ga, e'⟩, W, Avf.set ⟨cl, A, r1, r2, r3, r4⟩ W rfl, st⟩
theorem Sd.stB (X : Sd n0 p l e R s m args below meth c T h k n) (hx : p.tables.exec = Jvm.exec) (hZ : Z.Warmed39 s.vm) {a : Addr} {kc : ClassId} {sz : Nat} {f : Nat → Value} (F : Avf Z h a kc .byte sz f) (ga : n0 ≤ a) {j x : Int32} (hj : ¬ j < 0) {i : Nat} (hi : j.toNatClampNeg = i) (hlt : i < sz)
    {g : JFrame} (hg : g.method = m) {rest : List Value} (hs : g.stack = .int x :: .int j :: .ref a :: rest) (hd : decode c.code g.pc = .ok (.bastore, 1)) :
    ∃ T' h', Sd n0 p l e R s m args below meth c T' h' k n ∧ Wr h h' a i (.int x.toInt8.toInt32) ∧ Avf Z h' a kc .byte sz (fun t => if t = i then .int x.toInt8.toInt32 else f t) ∧ ∀ target, Steps p.tables e below (T'.setTop { g with pc := g.pc + 1, stack := rest }) target → Steps p.tables e below (T.setTop g) target := by
  obtain ⟨L, X, N, q⟩ := X
  obtain ⟨cl, A, r1, r2, r3, r4⟩ := F
  obtain ⟨T', h', X', e', W, st⟩ := Jvm.RoadKit.stB X hx hZ q A (inb r2 hj hi hlt) hg hs hd
  subst hi
  exact ⟨T', h', ⟨_, X', Fr.snoc X' N ga, e'⟩, W, Avf.set ⟨cl, A, r1, r2, r3, r4⟩ W (fits_nar_byte _), st⟩
theorem Sd.stC (X : Sd n0 p l e R s m args below meth c T h k n) (hx : p.tables.exec = Jvm.exec) (hZ : Z.Warmed39 s.vm) {a : Addr} {kc : ClassId} {sz : Nat} {f : Nat → Value} (F : Avf Z h a kc .char sz f) (ga : n0 ≤ a) {j x : Int32} (hj : ¬ j < 0) {i : Nat} (hi : j.toNatClampNeg = i) (hlt : i < sz)
    {g : JFrame} (hg : g.method = m) {rest : List Value} (hs : g.stack = .int x :: .int j :: .ref a :: rest) (hd : decode c.code g.pc = .ok (.castore, 1)) :
    ∃ T' h', Sd n0 p l e R s m args below meth c T' h' k n ∧ Wr h h' a i (.int (nar .char x)) ∧ Avf Z h' a kc .char sz (fun t => if t = i then .int (nar .char x) else f t) ∧ ∀ target, Steps p.tables e below (T'.setTop { g with pc := g.pc + 1, stack := rest }) target → Steps p.tables e below (T.setTop g) target := by
  obtain ⟨L, X, N, q⟩ := X
  obtain ⟨cl, A, r1, r2, r3, r4⟩ := F
  obtain ⟨T', h', X', e', W, st⟩ := Jvm.RoadKit.stC X hx hZ q A (inb r2 hj hi hlt) hg hs hd
  subst hi
  exact ⟨T', h', ⟨_, X', Fr.snoc X' N ga, e'⟩, W, Avf.set ⟨cl, A, r1, r2, r3, r4⟩ W (fits_nar_char _), st⟩
theorem Sd.newRA (X : Sd n0 p l e R s m args below meth c T h k n) (hx : p.tables.exec = Jvm.exec) (hZ : Z.Warmed39 s.vm) {own C : String} {ty : FieldType} {index : Nat} (hown : s.vm.findClass own = some m.cls) (hC : (FieldType.array ty).toString = C) (w1 : (Cond.classLink own index C).before a0 Z = true) (w2 : (Cond.arrayOver (.array ty)).before a0 Z = true)
    {g : JFrame} (hg : g.method = m) (hd : decode c.code g.pc = .ok (.anewarray index, 3)) {z : Int32} {rest : List Value} (hs : g.stack = .int z :: rest)
    (hz : ¬ z < 0) {sz cap k' n' : Nat} (hsz : z.toNatClampNeg = sz) (hcap : sz ≤ cap) (hb : cap * 8 ≤ 536870912) (hk : k + 1 = k') (hn : n + cap = n') (hc : k' ≤ R.cells) (hl : n' ≤ R.slots) {ad : String} (had : "[" ++ C = ad) :
    ∃ T' h' kc a, Sd n0 p l e R s m args below meth c T' h' k' n' ∧ a = h.size ∧ Ext h h' ∧ Exa Z h' a ad ∧ Avf Z h' a kc (.array ty) sz (fun _ => .null) ∧ OvrA Z kc ty C ∧
      ∀ target, Steps p.tables e below (T'.setTop { g with pc := g.pc + 3, stack := .ref a :: rest }) target → Steps p.tables e below (T.setTop g) target := by
  subst hk hn hsz
  obtain ⟨L, X, N, q⟩ := X
  obtain ⟨T', h', kc, X', e', E, A, Ex, O, st⟩ := Jvm.RoadKit.newRA X hx hZ hown hC w1 w2 q hg hd hs hz hcap hb hc hl had
  exact ⟨T', h', kc, _, ⟨L, X', N, e'⟩, rfl, E, Ex, ⟨_, A, rfl, sz_new _ _ _, (back32 hz).2, fun i hi => ⟨by simp [newA, hi, defaultValue], rfl⟩⟩, O, st⟩
theorem Sd.stR (X : Sd n0 p l e R s m args below meth c T h k n) (hx : p.tables.exec = Jvm.exec) (hZ : Z.Warmed39 s.vm) {a : Addr} {kc : ClassId} {ty : FieldType} {sz : Nat} {f : Nat → Value} (F : Avf Z h a kc ty sz f) (ga : n0 ≤ a) (hty : ty.isReference = true) {j : Int32} {v : Value} (hv : v.isRef = true) (St : Sto Z h a v) (hj : ¬ j < 0) {i : Nat} (hi : j.toNatClampNeg = i) (hlt : i < sz)
    {g : JFrame} (hg : g.method = m) {rest : List Value} (hs : g.stack = v :: .int j :: .ref a :: rest) (hd : decode c.code g.pc = .ok (.aastore, 1)) :
    ∃ T' h', Sd n0 p l e R s m args below meth c T' h' k n ∧ Wr h h' a i v ∧ Avf Z h' a kc ty sz (fun t => if t = i then v else f t) ∧ ∀ target, Steps p.tables e below (T'.setTop { g with pc := g.pc + 1, stack := rest }) target → Steps p.tables e below (T.setTop g) target := by
  obtain ⟨L, X, N, q⟩ := X
  obtain ⟨cl, A, r1, r2, r3, r4⟩ := F
  obtain ⟨T', h', X', e', W, st⟩ := Jvm.RoadKit.stR X hx hZ q A (inb r2 hj hi hlt) hty St hg hs hd
  subst hi
  have hf : fits ty v = true := by cases ty <;> first | (cases hty; done) | (cases v <;> first | rfl | (cases hv; done))
  exact ⟨T', h', ⟨_, X', Fr.snoc X' N ga, e'⟩, W, Avf.set ⟨cl, A, r1, r2, r3, r4⟩ W hf, st⟩
/-! calls -/
theorem Sd.callS (X : Sd n0 p l e R s m args below meth c T h k n) (hx : p.tables.exec = Jvm.exec) (hZ : Z.Warmed39 s.vm) {own : String} {index : Nat} {y : MethodName} {bytes : ByteArray} {maxL : Nat} {ret : Option FieldType} {rm : Room} {as' : Array Value} {Q : Option Value → Heap → Prop}
    (hown : s.vm.findClass own = some m.cls) (w1 : (Cond.methodLink own index y).before a0 Z = true) (w2 : (Cond.static y).before a0 Z = true) (w3 : (Cond.initialized y.cls).before a0 Z = true) (w4 : (Cond.code y bytes maxL ret).before a0 Z = true) (hy : y.cls ≠ "java/lang/invoke/MethodHandle" ∧ y.cls ≠ "java/lang/invoke/VarHandle")
    (hM : Met l Z n0 y bytes maxL ret [] rm as' h Q) {g : JFrame} (hg : g.method = m) (hsize : g.locals.size = c.maxLocals) {argsL rest : List Value} (hlen : ∀ sig, parseMethodDescriptor y.desc = some sig → argsL.length = sig.parameters.length)
    (hstack : g.stack = argsL.reverse ++ rest) (hd : decode c.code g.pc = .ok (.invokestatic index, 3)) (has : argsL.toArray = as') (hf : rm.frames + 1 ≤ R.frames) (hl : 2 * g.monitorRoom + (rest.map fun v => v.category).sum + (maxL + 11) + rm.locals ≤ R.locals)
    {k' n' : Nat} (hk : k + rm.cells = k') (hn : n + rm.slots = n') (hc : k' ≤ R.cells) (hs : n' ≤ R.slots) :
    ∃ v T' h', Sd n0 p l e R s m args below meth c T' h' k' n' ∧ Q v h' ∧ ∀ target, Steps p.tables e below (T'.setTop { g with pc := g.pc + 3, stack := v.toList ++ rest }) target → Steps p.tables e below (T.setTop g) target := by
  subst hk hn
  obtain ⟨L, X, N, q⟩ := X
  obtain ⟨v, _, ⟨T', L', k1, n1⟩, -, X', ⟨Lc, hQ, q1, q2, q3⟩, st⟩ := Jvm.LawKit.callS X hx (y := y) hown (mvT hZ w1) (mvT hZ w2) (mvT hZ w3) (mvT hZ w4) hy (backOf (Q := fun v h L => Q v h ∧ Fr n0 L) hM hZ w4 w3 hf hl) hg hsize hlen hstack (Nat.le_refl _) hd (fun _ _ => ⟨has, q, hc, hs⟩)
  dsimp only [Pt.U, Pt.locs, Pt.cells, Pt.slots] at X' q1 q2 q3 st hQ
  subst q1 q2 q3
  exact ⟨v, T', _, ⟨_, X', Fr.app N hQ.2, rfl⟩, hQ.1, st⟩
theorem Sd.callI (X : Sd n0 p l e R s m args below meth c T h k n) (hx : p.tables.exec = Jvm.exec) (hZ : Z.Warmed39 s.vm) {own : String} {index : Nat} {y : MethodName} {bytes : ByteArray} {maxL : Nat} {rm : Room} {as' : Array Value} {Q : Option Value → Heap → Prop} (hy1 : y.name = "<init>")
    (hown : s.vm.findClass own = some m.cls) (w1 : (Cond.methodLink own index y).before a0 Z = true) (w2 : (Cond.instanceMethod y).before a0 Z = true) (w3 : (Cond.initialized y.cls).before a0 Z = true) (w4 : (Cond.code y bytes maxL none).before a0 Z = true) (hy : y.cls ≠ "java/lang/invoke/MethodHandle" ∧ y.cls ≠ "java/lang/invoke/VarHandle")
    (hM : Met l Z n0 y bytes maxL none [] rm as' h Q) {g : JFrame} (hg : g.method = m) (hsize : g.locals.size = c.maxLocals) {a : Addr} {argsL rest : List Value} (hlen : ∀ sig, parseMethodDescriptor y.desc = some sig → argsL.length = sig.parameters.length)
    (hstack : g.stack = argsL.reverse ++ .ref a :: rest) (hd : decode c.code g.pc = .ok (.invokespecial index, 3)) (has : (.ref a :: argsL).toArray = as') (hf : rm.frames + 1 ≤ R.frames) (hl : 2 * g.monitorRoom + (rest.map fun v => v.category).sum + (maxL + 11) + rm.locals ≤ R.locals)
    {k' n' : Nat} (hk : k + rm.cells = k') (hn : n + rm.slots = n') (hc : k' ≤ R.cells) (hs : n' ≤ R.slots) :
    ∃ v T' h', Sd n0 p l e R s m args below meth c T' h' k' n' ∧ Q v h' ∧ ∀ target, Steps p.tables e below (T'.setTop { g with pc := g.pc + 3, stack := v.toList ++ rest }) target → Steps p.tables e below (T.setTop g) target := by
  subst hk hn
  obtain ⟨L, X, N, q⟩ := X
  obtain ⟨v, _, ⟨T', L', k1, n1⟩, -, X', ⟨Lc, hQ, q1, q2, q3⟩, st⟩ := X.specialBack hx (y := y) hy1 hown (mvT hZ w1) (mvT hZ w2) (mvT hZ w4) hy (backOf (Q := fun v h L => Q v h ∧ Fr n0 L) hM hZ w4 w3 hf hl) hg hsize (Steps.refl _) hlen hstack (Nat.le_refl _) hd (fun _ _ => ⟨has, q, hc, hs⟩)
  dsimp only [Pt.U, Pt.locs, Pt.cells, Pt.slots] at X' q1 q2 q3 st hQ
  subst q1 q2 q3
  exact ⟨v, T', _, ⟨_, X', Fr.app N hQ.2, rfl⟩, hQ.1, fun _ kt => st.trans kt⟩
theorem Sd.callV (X : Sd n0 p l e R s m args below meth c T h k n) (hx : p.tables.exec = Jvm.exec) (hZ : Z.Warmed39 s.vm) {own C : String} {index : Nat} {y z : MethodName} {bytes : ByteArray} {maxL : Nat} {ret : Option FieldType} {rm : Room} {as' : Array Value} {Q : Option Value → Heap → Prop}
    (hown : s.vm.findClass own = some m.cls) (w1 : (Cond.methodLink own index y).before a0 Z = true) (w2 : (Cond.declares y).before a0 Z = true) (hnf : NotFace s y) (w5 : (Cond.selects C y z).before a0 Z = true) (w6 : (Cond.instanceMethod z).before a0 Z = true) (w3 : (Cond.initialized z.cls).before a0 Z = true) (w4 : (Cond.code z bytes maxL ret).before a0 Z = true) (hy : y.cls ≠ "java/lang/invoke/MethodHandle" ∧ y.cls ≠ "java/lang/invoke/VarHandle")
    (hM : Met l Z n0 z bytes maxL ret [] rm as' h Q) {a : Addr} (E : Exa Z h a C) {g : JFrame} (hg : g.method = m) (hsize : g.locals.size = c.maxLocals) {argsL rest : List Value} (hlen : ∀ sig, parseMethodDescriptor y.desc = some sig → argsL.length = sig.parameters.length)
    (hstack : g.stack = argsL.reverse ++ .ref a :: rest) (hd : decode c.code g.pc = .ok (.invokevirtual index, 3)) (has : (.ref a :: argsL).toArray = as') (hf : rm.frames + 1 ≤ R.frames) (hl : 2 * g.monitorRoom + (rest.map fun v => v.category).sum + (maxL + 11) + rm.locals ≤ R.locals)
    {k' n' : Nat} (hk : k + rm.cells = k') (hn : n + rm.slots = n') (hc : k' ≤ R.cells) (hs : n' ≤ R.slots) :
    ∃ v T' h', Sd n0 p l e R s m args below meth c T' h' k' n' ∧ Q v h' ∧ ∀ target, Steps p.tables e below (T'.setTop { g with pc := g.pc + 3, stack := v.toList ++ rest }) target → Steps p.tables e below (T.setTop g) target := by
  subst hk hn
  obtain ⟨L, X, N, q⟩ := X
  obtain ⟨cB, kB, b1, b2, b3⟩ := isOf (T := T) hZ q E
  obtain ⟨v, _, ⟨T', L', k1, n1⟩, -, X', ⟨Lc, hQ, q1, q2, q3⟩, st⟩ := X.virtualBack hx (y := y) (z := z) hown (mvT hZ w1) (mvT hZ w2) hnf (mvT hZ w5) (mvT hZ w6) hy (backOf (Q := fun v h L => Q v h ∧ Fr n0 L) hM hZ w4 w3 hf hl) b1 b3 hg hsize (Steps.refl _) hlen hstack (Nat.le_refl _) hd (fun _ _ => ⟨has, q, hc, hs⟩)
  dsimp only [Pt.U, Pt.locs, Pt.cells, Pt.slots] at X' q1 q2 q3 st hQ
  subst q1 q2 q3
  exact ⟨v, T', _, ⟨_, X', Fr.app N hQ.2, rfl⟩, hQ.1, fun _ kt => st.trans kt⟩
theorem Sd.callP (X : Sd n0 p l e R s m args below meth c T h k n) (hx : p.tables.exec = Jvm.exec) (hZ : Z.Warmed39 s.vm) {own C : String} {index : Nat} {y : MethodName} {bytes : ByteArray} {maxL : Nat} {ret : Option FieldType} {rm : Room} {as' : Array Value} {Q : Option Value → Heap → Prop}
    (hown : s.vm.findClass own = some m.cls) (w1 : (Cond.methodLink own index y).before a0 Z = true) (w6 : (Cond.instanceMethod y).before a0 Z = true) (w5 : (Cond.selects y.cls y y).before a0 Z = true) (w7 : (Cond.privateMethod y).before a0 Z = true) (w3 : (Cond.initialized y.cls).before a0 Z = true) (w4 : (Cond.code y bytes maxL ret).before a0 Z = true) (hy : y.cls ≠ "java/lang/invoke/MethodHandle" ∧ y.cls ≠ "java/lang/invoke/VarHandle")
    (hM : Met l Z n0 y bytes maxL ret [] rm as' h Q) {a : Addr} (E : Exa Z h a C) {g : JFrame} (hg : g.method = m) (hsize : g.locals.size = c.maxLocals) {argsL rest : List Value} (hlen : ∀ sig, parseMethodDescriptor y.desc = some sig → argsL.length = sig.parameters.length)
    (hstack : g.stack = argsL.reverse ++ .ref a :: rest) (hd : decode c.code g.pc = .ok (.invokevirtual index, 3)) (has : (.ref a :: argsL).toArray = as') (hf : rm.frames + 1 ≤ R.frames) (hl : 2 * g.monitorRoom + (rest.map fun v => v.category).sum + (maxL + 11) + rm.locals ≤ R.locals)
    {k' n' : Nat} (hk : k + rm.cells = k') (hn : n + rm.slots = n') (hc : k' ≤ R.cells) (hs : n' ≤ R.slots) :
    ∃ v T' h', Sd n0 p l e R s m args below meth c T' h' k' n' ∧ Q v h' ∧ ∀ target, Steps p.tables e below (T'.setTop { g with pc := g.pc + 3, stack := v.toList ++ rest }) target → Steps p.tables e below (T.setTop g) target := by
  subst hk hn
  obtain ⟨L, X, N, q⟩ := X
  obtain ⟨cl, b1, b2⟩ := E.cell
  obtain ⟨v, _, ⟨T', L', k1, n1⟩, -, X', ⟨Lc, hQ, q1, q2, q3⟩, st⟩ := X.privateBack hx (y := y) hown (mvT hZ w1) (mvT hZ w6) (mvT hZ w5) (Cond.privateMethod_at (mvP hZ w7 (args := #[]))) (mvT hZ w4) hy (backOf (Q := fun v h L => Q v h ∧ Fr n0 L) hM hZ w4 w3 hf hl) hg hsize (Steps.refl _) (a := a) (by rw [q]; exact b1) b2 hlen hstack (Nat.le_refl _) hd (fun _ _ => ⟨has, q, hc, hs⟩)
  dsimp only [Pt.U, Pt.locs, Pt.cells, Pt.slots] at X' q1 q2 q3 st hQ
  subst q1 q2 q3
  exact ⟨v, T', _, ⟨_, X', Fr.app N hQ.2, rfl⟩, hQ.1, fun _ kt => st.trans kt⟩
theorem Sd.callU (X : Sd n0 p l e R s m args below meth c T h k n) (hx : p.tables.exec = Jvm.exec) (hZ : Z.Warmed39 s.vm) {own C owner : String} {index : Nat} {y z : MethodName} {bytes : ByteArray} {maxL : Nat} {ret : Option FieldType} {rm : Room} {as' : Array Value} {Q : Option Value → Heap → Prop}
    (hown : s.vm.findClass own = some m.cls) (w1 : (Cond.methodLink own index y).before a0 Z = true) (w2 : (Cond.sameMethod y.cls owner y.name y.desc).before a0 Z = true) (w7 : (Cond.declares ⟨owner, y.name, y.desc⟩).before a0 Z = true) (ho : owner ≠ "java/lang/invoke/MethodHandle" ∧ owner ≠ "java/lang/invoke/VarHandle") (w5 : (Cond.selects C y z).before a0 Z = true) (w6 : (Cond.instanceMethod z).before a0 Z = true) (w3 : (Cond.initialized z.cls).before a0 Z = true) (w4 : (Cond.code z bytes maxL ret).before a0 Z = true)
    (hM : Met l Z n0 z bytes maxL ret [] rm as' h Q) {a : Addr} (E : Exa Z h a C) {g : JFrame} (hg : g.method = m) (hsize : g.locals.size = c.maxLocals) {argsL rest : List Value} (hlen : ∀ sig, parseMethodDescriptor y.desc = some sig → argsL.length = sig.parameters.length)
    (hstack : g.stack = argsL.reverse ++ .ref a :: rest) (hd : decode c.code g.pc = .ok (.invokevirtual index, 3)) (has : (.ref a :: argsL).toArray = as') (hf : rm.frames + 1 ≤ R.frames) (hl : 2 * g.monitorRoom + (rest.map fun v => v.category).sum + (maxL + 11) + rm.locals ≤ R.locals)
    {k' n' : Nat} (hk : k + rm.cells = k') (hn : n + rm.slots = n') (hc : k' ≤ R.cells) (hs : n' ≤ R.slots) :
    ∃ v T' h', Sd n0 p l e R s m args below meth c T' h' k' n' ∧ Q v h' ∧ ∀ target, Steps p.tables e below (T'.setTop { g with pc := g.pc + 3, stack := v.toList ++ rest }) target → Steps p.tables e below (T.setTop g) target := by
  subst hk hn
  obtain ⟨L, X, N, q⟩ := X
  obtain ⟨cB, kB, b1, b2, b3⟩ := isOf (T := T) hZ q E
  obtain ⟨v, _, ⟨T', L', k1, n1⟩, -, X', ⟨Lc, hQ, q1, q2, q3⟩, st⟩ := X.virtualBackUp hx (x := y) (y := z) hown (mvT hZ w1) (mvT hZ w2) (mvT hZ w7) ho (mvT hZ w5) (mvT hZ w6) (backOf (Q := fun v h L => Q v h ∧ Fr n0 L) hM hZ w4 w3 hf hl) b1 b3 hg hsize (Steps.refl _) hlen hstack (Nat.le_refl _) hd (fun _ _ => ⟨has, q, hc, hs⟩)
  dsimp only [Pt.U, Pt.locs, Pt.cells, Pt.slots] at X' q1 q2 q3 st hQ
  subst q1 q2 q3
  exact ⟨v, T', _, ⟨_, X', Fr.app N hQ.2, rfl⟩, hQ.1, fun _ kt => st.trans kt⟩
theorem Sd.instNo (X : Sd n0 p l e R s m args below meth c T h k n) (hx : p.tables.exec = Jvm.exec) (hZ : Z.Warmed39 s.vm) {own K C : String} {index : Nat} (hown : s.vm.findClass own = some m.cls) (w : (Cond.classLink own index K).before a0 Z = true) {a : Addr} (E : Exa Z h a C) (F : ∃ c t, Z.vm.findClass C = some c ∧ Z.vm.findClass K = some t ∧ Z.vm.assignable c t = false)
    {g : JFrame} (hg : g.method = m) {rest : List Value} (hs : g.stack = .ref a :: rest) (hd : decode c.code g.pc = .ok (.instanceof index, 3)) :
    ∃ T', Sd n0 p l e R s m args below meth c T' h k n ∧ ∀ target, Steps p.tables e below (T'.setTop { g with pc := g.pc + 3, stack := .int 0 :: rest }) target → Steps p.tables e below (T.setTop g) target := by
  obtain ⟨L, X, N, q⟩ := X
  obtain ⟨T', X', e', st⟩ := Jvm.RoadKit.instNo X hx hZ hown w q E F hg hs hd
  exact ⟨T', ⟨L, X', N, e'⟩, st⟩
theorem ns_root {O K : String} {kk : Nat} (w : (Cond.noSuperclass O).before a0 Z = true) (wk : (Cond.instantiable K kk).before a0 Z = true) (hn : O ≠ K) : NS Z O K := by
  obtain ⟨c, k, h1, h2, h3, -, -⟩ := Cond.noSuperclass_spec w
  obtain ⟨t, k2, g1, -⟩ := Cond.instantiable_spec wk
  have ne := ids_ne h1 g1 hn
  refine ⟨c, t, h1, g1, fun fuel => ?_⟩
  cases fuel with
  | zero => rfl
  | succ f => simp [Vm.isSubclassAux, ne, h2, h3]
theorem ns_no {C K : String} {k1 k2 : Nat} (w : (Cond.instantiable C k1).before a0 Z = true) (wk : (Cond.instantiable K k2).before a0 Z = true) (n : NS Z C K) (hn : C ≠ K) : ∃ c t, Z.vm.findClass C = some c ∧ Z.vm.findClass K = some t ∧ Z.vm.assignable c t = false := by
  obtain ⟨c, t, h0, g0, n3⟩ := n
  obtain ⟨c', kc, h1, h2, h3, h4, -⟩ := Cond.instantiable_spec w
  obtain ⟨t', kt, g1, g2, g3, g4, -⟩ := Cond.instantiable_spec wk
  cases h0.symm.trans h1
  cases g0.symm.trans g1
  have ne := ids_ne h0 g0 hn
  refine ⟨c, t, h0, g0, ?_⟩
  have g5 : kt.isInterface = false := by simp at g4; exact g4.1
  show Z.vm.assignableAux (255 + 1) c t = false
  simp [Vm.assignableAux, ne, h2, g2, h3, g3, g5, Vm.isSubclass, n3]
theorem keep_ext {h h' : Heap} (K : Keep h h' []) : Ext h h' := ⟨K.1, fun x c q => K.2.1 x c q nin0⟩
theorem Exa.plain {h : Heap} {a : Addr} {C : String} (F : Exa Z h a C) : ∀ cell : Cell, h[a]? = some cell → cell.vm.isStatics = false := fun cell hc => by
  obtain ⟨c, k, h1, -, -, h4, -⟩ := F
  cases h1.symm.trans hc; exact h4
theorem Avf.plain {h : Heap} {a : Addr} {kc : ClassId} {ty : FieldType} {sz : Nat} {f : Nat → Value} (F : Avf Z h a kc ty sz f) : ∀ cell : Cell, h[a]? = some cell → cell.vm.isStatics = false := fun cell hc => by
  obtain ⟨cl, A, -⟩ := F
  cases A.1.symm.trans hc; exact Arr.plain A
theorem Sta.keepN {h h' : Heap} {C f d : String} {v : Value} {ws : List Addr} (F : Sta Z h C f d v) (K : Keep h h' ws) (q : ∀ x ∈ ws, ∀ cell : Cell, h[x]? = some cell → cell.vm.isStatics = false) : Sta Z h' C f d v := by
  obtain ⟨cf, i, k, fl, st, cell, h1, h2, h3, h4, h5, h6, h7⟩ := F
  exact ⟨cf, i, k, fl, st, cell, h1, h2, h3, h4, K.2.1 st cell h5 (fun z => by rw [q st z cell h5] at h6; cases h6), h6, h7⟩
/-! at the start -/
theorem sta_exa {args : Array Value} {C f d K : String} (hx : (Cond.exactly (.static C f d) K).value args Z none Z [] = some true) (wi : (Cond.initialized C).before args Z = true) (wl : (Cond.laysStatic C f d).before args Z = true) : ∃ a, (Term.static C f d).eval args Z none [] Z = some (.ref a) ∧ Sta Z Z.heap C f d (.ref a) ∧ Exa Z Z.heap a K := by
  obtain ⟨a, ev⟩ := exa_v hx
  exact ⟨a, ev, Sta.start ev (Or.inr ⟨wi, wl⟩), Exa.start ev hx⟩
theorem sta_arr {args : Array Value} {C f d : String} {ty : FieldType} (hx : (Cond.arrayOf (.static C f d) ty).value args Z none Z [] = some true) (wi : (Cond.initialized C).before args Z = true) (wl : (Cond.laysStatic C f d).before args Z = true) : ∃ a cl, (Term.static C f d).eval args Z none [] Z = some (.ref a) ∧ Sta Z Z.heap C f d (.ref a) ∧ Arr Z Z.heap a cl ty := by
  obtain ⟨a, ev⟩ := arr_v hx
  obtain ⟨cl, A⟩ := Arr.start ev hx
  exact ⟨a, cl, ev, Sta.start ev (Or.inr ⟨wi, wl⟩), A⟩
theorem int_of_eq {args : Array Value} {t : Term} {kk : Int32} (h : (Cond.eq t (.int kk)).value args Z none Z [] = some true) : t.eval args Z none [] Z = some (.int kk) := by
  obtain ⟨x, y, h1, h2, k1, k2⟩ := cmp_v (Or.inl h)
  cases (Option.some.inj h2 : Value.int kk = y)
  obtain ⟨z, rfl⟩ : ∃ z, x = .int z := k2
  have q : z = kk := by simpa [Cond.value, h1, Term.eval] using h
  rw [h1, q]
theorem fld_eq {args : Array Value} {t : Term} {C f d : String} {a : Addr} {kk : Int32} (ht : t.eval args Z none [] Z = some (.ref a)) (h : (Cond.eq (.field t C f d) (.int kk)).value args Z none Z [] = some true) : Fld Z Z.heap a C f d (.int kk) :=
  Fld.start ((fld_at ht).symm.trans (int_of_eq h))
theorem ref_of_eq {args : Array Value} {t u : Term} {a : Addr} (hu : u.eval args Z none [] Z = some (.ref a)) (h : (Cond.eq t u).value args Z none Z [] = some true) : t.eval args Z none [] Z = some (.ref a) := by
  obtain ⟨x, y, h1, h2, k1, k2⟩ := cmp_v (Or.inl h)
  cases (Option.some.inj (hu.symm.trans h2) : Value.ref a = y)
  have kx : x.isRef = true := k2.2
  rw [h1, gotT (eq_R h1 hu kx rfl) h]
theorem avf_len {args : Array Value} {t : Term} {a : Addr} {cl : Cell} {ty : FieldType} {z : Int32} {sz : Nat} (A : Arr Z Z.heap a cl ty) (ev : t.eval args Z none [] Z = some (.ref a)) (h : (Term.length t).eval args Z none [] Z = some (.int z)) (hz : z.toNatClampNeg = sz) : cl.slots.size = sz := by
  have ha : Z.arrayAt? a = some cl := A.fin (Vm.Alike.refl _)
  simp only [Term.eval, ev, ha, Option.bind_eq_bind, Option.bind_some] at h
  split at h
  · rename_i hl
    have e : cl.slots.size.toInt32 = z := by simpa using h
    rw [← hz, ← e]
    have q := len_toInt hl
    simp only [Int32.toNatClampNeg, q]; omega
  · cases h
theorem iremS {g : JFrame} {target : State} (X : Sd n0 p l e R s m args below meth c T h k n) (hx : p.tables.exec = Jvm.exec) (hg : g.method = m) {x y : Int32} {rest : List Value} (hd : decode c.code g.pc = .ok (.irem, 1)) (hs : g.stack = .int y :: .int x :: rest) (hy : y ≠ 0)
    (hr : Steps p.tables e below (T.setTop { g with pc := g.pc + 1, stack := .int (x % y) :: rest }) target) : Steps p.tables e below (T.setTop g) target := by
  obtain ⟨L, X, -⟩ := X; exact iremM X hx hg hd hs hy hr
end Sds
end Jvm.RoadKit
namespace Jvm.Pilot.@@N@@
open Jvm Jvm.ClassFile Sem Op Lib Jvm.Free Jvm.Stand Jvm.LawKit Jvm.RoadKit Bundle Jvm.Pilot.@@N@@.Jvm.D
theorem tw {a0 : Array Value} {Z : State} (hw : ∀ d ∈ tables_1, d.before a0 Z = true) (i : Nat) {d : Jvm.Cond} (h : tables_1[i]? = some d) : d.before a0 Z = true := hw _ (List.mem_of_getElem? h)
theorem own_b8 (x : Int32) : x.toInt8.toInt32.toInt8.toInt32 = x.toInt8.toInt32 := by simp
theorem own_m4 (x : Int32) : (x &&& (3 : Int32)) = 0 ∨ (x &&& (3 : Int32)) = 1 ∨ (x &&& (3 : Int32)) = 2 ∨ (x &&& (3 : Int32)) = 3 := by
  have q := c_mask x 3 2 (by decide) (by decide)
  have e0 : (0 : Int32).toInt = 0 := rfl
  have e1 : (1 : Int32).toInt = 1 := rfl
  have e2 : (2 : Int32).toInt = 2 := rfl
  have e3 : (3 : Int32).toInt = 3 := rfl
  simp only [← Int32.toInt_inj, e0, e1, e2, e3]
  omega
theorem d1_0 : decode method_2_code 0 = .ok (.iload_n 0, 1) := by decide +kernel
theorem d1_1 : decode method_2_code 1 = .ok (.ifCond .ne 7, 3) := by decide +kernel
theorem d1_4 : decode method_2_code 4 = .ok (.iconst 0, 1) := by decide +kernel
theorem d1_5 : decode method_2_code 5 = .ok (.newarray .byte, 2) := by decide +kernel
theorem d1_7 : decode method_2_code 7 = .ok (.areturn, 1) := by decide +kernel
abbrev Rm1_0 : Room := { frames := 0, cells := 1, slots := 0, locals := 0 }
theorem pn0 : plainName "com/example/istorie/istorie/BytesCopyOfPinLaw" = true := by first | (simp [plainName, overriddenIn]; done) | decide +kernel
set_option maxRecDepth 65536 in
set_option maxHeartbeats 40000000 in
theorem rm1_0 (l : Launch) (Z : State) (a0 : Array Value) (hw : ∀ d ∈ tables_1, d.before a0 Z = true) (ws : List Jvm.Cond) (p1 : Int32) (p2 : Int32) (p3 : Int32) (h0 : Heap) (n0 : Nat) (Z0 : n0 ≤ h0.size) (hb1 : p1.toInt8.toInt32 = p1) (hb2 : p2.toInt8.toInt32 = p2) (hb3 : p3.toInt8.toInt32 = p3) :
    Met l Z n0 (⟨"com/example/istorie/istorie/BytesCopyOfPinLaw", "make", "(IBBB)[B"⟩ : MethodName) method_2_code 4 (some (.array .byte)) ws Rm1_0 #[(.int (0 : Int32)), (.int p1), (.int p2), (.int p3)] h0 (fun v h => ∃ r kc, v = some (.ref r) ∧ h0.size ≤ r ∧ Keep h0 h [] ∧ Exa Z h r "[B" ∧ Avf Z h r kc .byte 0 (fun i => if i = 0 then (.int p1) else if i = 1 then (.int p2) else (.int p3))) := by
  refine enter (Ls := #[.val (.int (0 : Int32)), .val (.int p1), .val (.int p2), .val (.int p3)]) (plainFor_of_name pn0) (fun m => by first | rfl | (simp [entryFrame, mkF, argsToLocals, Value.category]; done)) ?_
  intro p e s m below meth c T0 hx hby hml hown hnm hret hlk hZ X0
  have K0 := Keep.refl h0 []
  show Go p.tables e below _ (T0.setTop (mkF m 0 #[.val (.int (0 : Int32)), .val (.int p1), .val (.int p2), .val (.int p3)] []))
  refine Go.by (fun _ => XS.iloadN X0.here hx rfl (hb hby d1_0) rfl) ?_
  show Go p.tables e below _ (T0.setTop (mkF m 1 #[.val (.int (0 : Int32)), .val (.int p1), .val (.int p2), .val (.int p3)] [(.int (0 : Int32))]))
  refine Go.by (fun _ => XS.ifNo X0.here hx rfl (hb hby d1_1) rfl ((if0 _ _).trans (teq (by decide)).2)) ?_
  show Go p.tables e below _ (T0.setTop (mkF m 4 #[.val (.int (0 : Int32)), .val (.int p1), .val (.int p2), .val (.int p3)] []))
  refine Go.by (fun _ => XS.iconst X0.here hx rfl (hb hby d1_4)) ?_
  show Go p.tables e below _ (T0.setTop (mkF m 5 #[.val (.int (0 : Int32)), .val (.int p1), .val (.int p2), .val (.int p3)] [(.int (0 : Int32))]))
  obtain ⟨T1, h1, kc1, b1, X1, g1, E1, A1, V1, st1⟩ := X0.newP hx hZ (tw hw 4 rfl) (g := (mkF m 5 #[.val (.int (0 : Int32)), .val (.int p1), .val (.int p2), .val (.int p3)] [(.int (0 : Int32))])) rfl (hb hby d1_5) rfl (by decide) (sz := 0) (cap := 0) (k' := 1) (n' := 0) rfl (Nat.le_refl _) (by decide) rfl rfl (by decide) (by decide) (ad := "[B") (by decide)
  have g_b1 : n0 ≤ b1 := by rw [g1]; exact Z0
  have sz_b1 : h0.size ≤ b1 := by rw [g1]; exact K0.1
  have f2_11 := K0.ext E1
  have Zs2 : n0 ≤ h1.size := Nat.le_trans Z0 E1.1
  refine Go.by st1 ?_
  show Go p.tables e below _ (T1.setTop (mkF m 7 #[.val (.int (0 : Int32)), .val (.int p1), .val (.int p2), .val (.int p3)] [(.ref b1)]))
  refine Go.retA X1 hx hlk hret rfl rfl (hb hby d1_7) (by decide) (by decide) ?_
  refine ⟨b1, kc1, rfl, sz_b1, f2_11, A1, Avf.cong V1 (fun i hi => ?_)⟩
  exact absurd hi (by omega)
theorem d1_8 : decode method_2_code 8 = .ok (.iload_n 0, 1) := by decide +kernel
theorem d1_9 : decode method_2_code 9 = .ok (.iconst 1, 1) := by decide +kernel
theorem d1_10 : decode method_2_code 10 = .ok (.if_icmp .ne 11, 3) := by decide +kernel
theorem d1_13 : decode method_2_code 13 = .ok (.iconst 1, 1) := by decide +kernel
theorem d1_14 : decode method_2_code 14 = .ok (.newarray .byte, 2) := by decide +kernel
theorem d1_16 : decode method_2_code 16 = .ok (.dup, 1) := by decide +kernel
theorem d1_17 : decode method_2_code 17 = .ok (.iconst 0, 1) := by decide +kernel
theorem d1_18 : decode method_2_code 18 = .ok (.iload_n 1, 1) := by decide +kernel
theorem d1_19 : decode method_2_code 19 = .ok (.bastore, 1) := by decide +kernel
theorem d1_20 : decode method_2_code 20 = .ok (.areturn, 1) := by decide +kernel
abbrev Rm1_1 : Room := { frames := 0, cells := 1, slots := 1, locals := 0 }
set_option maxRecDepth 65536 in
set_option maxHeartbeats 40000000 in
theorem rm1_1 (l : Launch) (Z : State) (a0 : Array Value) (hw : ∀ d ∈ tables_1, d.before a0 Z = true) (ws : List Jvm.Cond) (p1 : Int32) (p2 : Int32) (p3 : Int32) (h0 : Heap) (n0 : Nat) (Z0 : n0 ≤ h0.size) (hb1 : p1.toInt8.toInt32 = p1) (hb2 : p2.toInt8.toInt32 = p2) (hb3 : p3.toInt8.toInt32 = p3) :
    Met l Z n0 (⟨"com/example/istorie/istorie/BytesCopyOfPinLaw", "make", "(IBBB)[B"⟩ : MethodName) method_2_code 4 (some (.array .byte)) ws Rm1_1 #[(.int (1 : Int32)), (.int p1), (.int p2), (.int p3)] h0 (fun v h => ∃ r kc, v = some (.ref r) ∧ h0.size ≤ r ∧ Keep h0 h [] ∧ Exa Z h r "[B" ∧ Avf Z h r kc .byte 1 (fun i => if i = 0 then (.int p1) else if i = 1 then (.int p2) else (.int p3))) := by
  refine enter (Ls := #[.val (.int (1 : Int32)), .val (.int p1), .val (.int p2), .val (.int p3)]) (plainFor_of_name pn0) (fun m => by first | rfl | (simp [entryFrame, mkF, argsToLocals, Value.category]; done)) ?_
  intro p e s m below meth c T0 hx hby hml hown hnm hret hlk hZ X0
  have K0 := Keep.refl h0 []
  show Go p.tables e below _ (T0.setTop (mkF m 0 #[.val (.int (1 : Int32)), .val (.int p1), .val (.int p2), .val (.int p3)] []))
  refine Go.by (fun _ => XS.iloadN X0.here hx rfl (hb hby d1_0) rfl) ?_
  show Go p.tables e below _ (T0.setTop (mkF m 1 #[.val (.int (1 : Int32)), .val (.int p1), .val (.int p2), .val (.int p3)] [(.int (1 : Int32))]))
  refine Go.by (fun _ => XS.ifYes X0.here hx rfl (pc0 := 1) (pc' := 8) rfl (hb hby d1_1) rfl ((if0 _ _).trans (feq (by decide)).2) (by decide) (by decide)) ?_
  show Go p.tables e below _ (T0.setTop (mkF m 8 #[.val (.int (1 : Int32)), .val (.int p1), .val (.int p2), .val (.int p3)] []))
  refine Go.by (fun _ => XS.iloadN X0.here hx rfl (hb hby d1_8) rfl) ?_
  show Go p.tables e below _ (T0.setTop (mkF m 9 #[.val (.int (1 : Int32)), .val (.int p1), .val (.int p2), .val (.int p3)] [(.int (1 : Int32))]))
  refine Go.by (fun _ => XS.iconst X0.here hx rfl (hb hby d1_9)) ?_
  show Go p.tables e below _ (T0.setTop (mkF m 10 #[.val (.int (1 : Int32)), .val (.int p1), .val (.int p2), .val (.int p3)] [(.int (1 : Int32)), (.int (1 : Int32))]))
  refine Go.by (fun _ => XS.icmpNo X0.here hx rfl (hb hby d1_10) rfl (teq (by decide)).2) ?_
  show Go p.tables e below _ (T0.setTop (mkF m 13 #[.val (.int (1 : Int32)), .val (.int p1), .val (.int p2), .val (.int p3)] []))
  refine Go.by (fun _ => XS.iconst X0.here hx rfl (hb hby d1_13)) ?_
  show Go p.tables e below _ (T0.setTop (mkF m 14 #[.val (.int (1 : Int32)), .val (.int p1), .val (.int p2), .val (.int p3)] [(.int (1 : Int32))]))
  obtain ⟨T1, h1, kc1, b1, X1, g1, E1, A1, V1, st1⟩ := X0.newP hx hZ (tw hw 4 rfl) (g := (mkF m 14 #[.val (.int (1 : Int32)), .val (.int p1), .val (.int p2), .val (.int p3)] [(.int (1 : Int32))])) rfl (hb hby d1_14) rfl (by decide) (sz := 1) (cap := 1) (k' := 1) (n' := 1) rfl (Nat.le_refl _) (by decide) rfl rfl (by decide) (by decide) (ad := "[B") (by decide)
  have g_b1 : n0 ≤ b1 := by rw [g1]; exact Z0
  have sz_b1 : h0.size ≤ b1 := by rw [g1]; exact K0.1
  have f2_17 := K0.ext E1
  have Zs2 : n0 ≤ h1.size := Nat.le_trans Z0 E1.1
  refine Go.by st1 ?_
  show Go p.tables e below _ (T1.setTop (mkF m 16 #[.val (.int (1 : Int32)), .val (.int p1), .val (.int p2), .val (.int p3)] [(.ref b1)]))
  refine Go.by (fun _ => XS.dup X1.here hx rfl (hb hby d1_16) rfl rfl) ?_
  show Go p.tables e below _ (T1.setTop (mkF m 17 #[.val (.int (1 : Int32)), .val (.int p1), .val (.int p2), .val (.int p3)] [(.ref b1), (.ref b1)]))
  refine Go.by (fun _ => XS.iconst X1.here hx rfl (hb hby d1_17)) ?_
  show Go p.tables e below _ (T1.setTop (mkF m 18 #[.val (.int (1 : Int32)), .val (.int p1), .val (.int p2), .val (.int p3)] [(.int (0 : Int32)), (.ref b1), (.ref b1)]))
  refine Go.by (fun _ => XS.iloadN X1.here hx rfl (hb hby d1_18) rfl) ?_
  show Go p.tables e below _ (T1.setTop (mkF m 19 #[.val (.int (1 : Int32)), .val (.int p1), .val (.int p2), .val (.int p3)] [(.int p1), (.int (0 : Int32)), (.ref b1), (.ref b1)]))
  obtain ⟨T3, h3, X3, W3, V3, st3⟩ := X1.stB hx hZ V1 g_b1 (by decide) (i := 0) rfl (by decide) (g := (mkF m 19 #[.val (.int (1 : Int32)), .val (.int p1), .val (.int p2), .val (.int p3)] [(.int p1), (.int (0 : Int32)), (.ref b1), (.ref b1)])) rfl rfl (hb hby d1_19)
  have f4_28 := f2_17.wr W3 (Or.inr sz_b1)
  have f4_29 := A1.wr W3
  have Zs4 : n0 ≤ h3.size := by rw [W3.size]; exact Zs2
  refine Go.by st3 ?_
  show Go p.tables e below _ (T3.setTop (mkF m 20 #[.val (.int (1 : Int32)), .val (.int p1), .val (.int p2), .val (.int p3)] [(.ref b1)]))
  refine Go.retA X3 hx hlk hret rfl rfl (hb hby d1_20) (by decide) (by decide) ?_
  refine ⟨b1, kc1, rfl, sz_b1, f4_28, f4_29, Avf.cong V3 (fun i hi => ?_)⟩
  match i, hi with
  | 0, _ => exact congrArg Value.int hb1
theorem d1_21 : decode method_2_code 21 = .ok (.iload_n 0, 1) := by decide +kernel
theorem d1_22 : decode method_2_code 22 = .ok (.iconst 2, 1) := by decide +kernel
theorem d1_23 : decode method_2_code 23 = .ok (.if_icmp .ne 15, 3) := by decide +kernel
theorem d1_26 : decode method_2_code 26 = .ok (.iconst 2, 1) := by decide +kernel
theorem d1_27 : decode method_2_code 27 = .ok (.newarray .byte, 2) := by decide +kernel
theorem d1_29 : decode method_2_code 29 = .ok (.dup, 1) := by decide +kernel
theorem d1_30 : decode method_2_code 30 = .ok (.iconst 0, 1) := by decide +kernel
theorem d1_31 : decode method_2_code 31 = .ok (.iload_n 1, 1) := by decide +kernel
theorem d1_32 : decode method_2_code 32 = .ok (.bastore, 1) := by decide +kernel
theorem d1_33 : decode method_2_code 33 = .ok (.dup, 1) := by decide +kernel
theorem d1_34 : decode method_2_code 34 = .ok (.iconst 1, 1) := by decide +kernel
theorem d1_35 : decode method_2_code 35 = .ok (.iload_n 2, 1) := by decide +kernel
theorem d1_36 : decode method_2_code 36 = .ok (.bastore, 1) := by decide +kernel
theorem d1_37 : decode method_2_code 37 = .ok (.areturn, 1) := by decide +kernel
abbrev Rm1_2 : Room := { frames := 0, cells := 1, slots := 2, locals := 0 }
set_option maxRecDepth 65536 in
set_option maxHeartbeats 40000000 in
theorem rm1_2 (l : Launch) (Z : State) (a0 : Array Value) (hw : ∀ d ∈ tables_1, d.before a0 Z = true) (ws : List Jvm.Cond) (p1 : Int32) (p2 : Int32) (p3 : Int32) (h0 : Heap) (n0 : Nat) (Z0 : n0 ≤ h0.size) (hb1 : p1.toInt8.toInt32 = p1) (hb2 : p2.toInt8.toInt32 = p2) (hb3 : p3.toInt8.toInt32 = p3) :
    Met l Z n0 (⟨"com/example/istorie/istorie/BytesCopyOfPinLaw", "make", "(IBBB)[B"⟩ : MethodName) method_2_code 4 (some (.array .byte)) ws Rm1_2 #[(.int (2 : Int32)), (.int p1), (.int p2), (.int p3)] h0 (fun v h => ∃ r kc, v = some (.ref r) ∧ h0.size ≤ r ∧ Keep h0 h [] ∧ Exa Z h r "[B" ∧ Avf Z h r kc .byte 2 (fun i => if i = 0 then (.int p1) else if i = 1 then (.int p2) else (.int p3))) := by
  refine enter (Ls := #[.val (.int (2 : Int32)), .val (.int p1), .val (.int p2), .val (.int p3)]) (plainFor_of_name pn0) (fun m => by first | rfl | (simp [entryFrame, mkF, argsToLocals, Value.category]; done)) ?_
  intro p e s m below meth c T0 hx hby hml hown hnm hret hlk hZ X0
  have K0 := Keep.refl h0 []
  show Go p.tables e below _ (T0.setTop (mkF m 0 #[.val (.int (2 : Int32)), .val (.int p1), .val (.int p2), .val (.int p3)] []))
  refine Go.by (fun _ => XS.iloadN X0.here hx rfl (hb hby d1_0) rfl) ?_
  show Go p.tables e below _ (T0.setTop (mkF m 1 #[.val (.int (2 : Int32)), .val (.int p1), .val (.int p2), .val (.int p3)] [(.int (2 : Int32))]))
  refine Go.by (fun _ => XS.ifYes X0.here hx rfl (pc0 := 1) (pc' := 8) rfl (hb hby d1_1) rfl ((if0 _ _).trans (feq (by decide)).2) (by decide) (by decide)) ?_
  show Go p.tables e below _ (T0.setTop (mkF m 8 #[.val (.int (2 : Int32)), .val (.int p1), .val (.int p2), .val (.int p3)] []))
  refine Go.by (fun _ => XS.iloadN X0.here hx rfl (hb hby d1_8) rfl) ?_
  show Go p.tables e below _ (T0.setTop (mkF m 9 #[.val (.int (2 : Int32)), .val (.int p1), .val (.int p2), .val (.int p3)] [(.int (2 : Int32))]))
  refine Go.by (fun _ => XS.iconst X0.here hx rfl (hb hby d1_9)) ?_
  show Go p.tables e below _ (T0.setTop (mkF m 10 #[.val (.int (2 : Int32)), .val (.int p1), .val (.int p2), .val (.int p3)] [(.int (1 : Int32)), (.int (2 : Int32))]))
  refine Go.by (fun _ => XS.icmpYes X0.here hx rfl (pc0 := 10) (pc' := 21) rfl (hb hby d1_10) rfl (feq (by decide)).2 (by decide) (by decide)) ?_
  show Go p.tables e below _ (T0.setTop (mkF m 21 #[.val (.int (2 : Int32)), .val (.int p1), .val (.int p2), .val (.int p3)] []))
  refine Go.by (fun _ => XS.iloadN X0.here hx rfl (hb hby d1_21) rfl) ?_
  show Go p.tables e below _ (T0.setTop (mkF m 22 #[.val (.int (2 : Int32)), .val (.int p1), .val (.int p2), .val (.int p3)] [(.int (2 : Int32))]))
  refine Go.by (fun _ => XS.iconst X0.here hx rfl (hb hby d1_22)) ?_
  show Go p.tables e below _ (T0.setTop (mkF m 23 #[.val (.int (2 : Int32)), .val (.int p1), .val (.int p2), .val (.int p3)] [(.int (2 : Int32)), (.int (2 : Int32))]))
  refine Go.by (fun _ => XS.icmpNo X0.here hx rfl (hb hby d1_23) rfl (teq (by decide)).2) ?_
  show Go p.tables e below _ (T0.setTop (mkF m 26 #[.val (.int (2 : Int32)), .val (.int p1), .val (.int p2), .val (.int p3)] []))
  refine Go.by (fun _ => XS.iconst X0.here hx rfl (hb hby d1_26)) ?_
  show Go p.tables e below _ (T0.setTop (mkF m 27 #[.val (.int (2 : Int32)), .val (.int p1), .val (.int p2), .val (.int p3)] [(.int (2 : Int32))]))
  obtain ⟨T1, h1, kc1, b1, X1, g1, E1, A1, V1, st1⟩ := X0.newP hx hZ (tw hw 4 rfl) (g := (mkF m 27 #[.val (.int (2 : Int32)), .val (.int p1), .val (.int p2), .val (.int p3)] [(.int (2 : Int32))])) rfl (hb hby d1_27) rfl (by decide) (sz := 2) (cap := 2) (k' := 1) (n' := 2) rfl (Nat.le_refl _) (by decide) rfl rfl (by decide) (by decide) (ad := "[B") (by decide)
  have g_b1 : n0 ≤ b1 := by rw [g1]; exact Z0
  have sz_b1 : h0.size ≤ b1 := by rw [g1]; exact K0.1
  have f2_23 := K0.ext E1
  have Zs2 : n0 ≤ h1.size := Nat.le_trans Z0 E1.1
  refine Go.by st1 ?_
  show Go p.tables e below _ (T1.setTop (mkF m 29 #[.val (.int (2 : Int32)), .val (.int p1), .val (.int p2), .val (.int p3)] [(.ref b1)]))
  refine Go.by (fun _ => XS.dup X1.here hx rfl (hb hby d1_29) rfl rfl) ?_
  show Go p.tables e below _ (T1.setTop (mkF m 30 #[.val (.int (2 : Int32)), .val (.int p1), .val (.int p2), .val (.int p3)] [(.ref b1), (.ref b1)]))
  refine Go.by (fun _ => XS.iconst X1.here hx rfl (hb hby d1_30)) ?_
  show Go p.tables e below _ (T1.setTop (mkF m 31 #[.val (.int (2 : Int32)), .val (.int p1), .val (.int p2), .val (.int p3)] [(.int (0 : Int32)), (.ref b1), (.ref b1)]))
  refine Go.by (fun _ => XS.iloadN X1.here hx rfl (hb hby d1_31) rfl) ?_
  show Go p.tables e below _ (T1.setTop (mkF m 32 #[.val (.int (2 : Int32)), .val (.int p1), .val (.int p2), .val (.int p3)] [(.int p1), (.int (0 : Int32)), (.ref b1), (.ref b1)]))
  obtain ⟨T3, h3, X3, W3, V3, st3⟩ := X1.stB hx hZ V1 g_b1 (by decide) (i := 0) rfl (by decide) (g := (mkF m 32 #[.val (.int (2 : Int32)), .val (.int p1), .val (.int p2), .val (.int p3)] [(.int p1), (.int (0 : Int32)), (.ref b1), (.ref b1)])) rfl rfl (hb hby d1_32)
  have f4_34 := f2_23.wr W3 (Or.inr sz_b1)
  have f4_35 := A1.wr W3
  have Zs4 : n0 ≤ h3.size := by rw [W3.size]; exact Zs2
  refine Go.by st3 ?_
  show Go p.tables e below _ (T3.setTop (mkF m 33 #[.val (.int (2 : Int32)), .val (.int p1), .val (.int p2), .val (.int p3)] [(.ref b1)]))
  refine Go.by (fun _ => XS.dup X3.here hx rfl (hb hby d1_33) rfl rfl) ?_
  show Go p.tables e below _ (T3.setTop (mkF m 34 #[.val (.int (2 : Int32)), .val (.int p1), .val (.int p2), .val (.int p3)] [(.ref b1), (.ref b1)]))
  refine Go.by (fun _ => XS.iconst X3.here hx rfl (hb hby d1_34)) ?_
  show Go p.tables e below _ (T3.setTop (mkF m 35 #[.val (.int (2 : Int32)), .val (.int p1), .val (.int p2), .val (.int p3)] [(.int (1 : Int32)), (.ref b1), (.ref b1)]))
  refine Go.by (fun _ => XS.iloadN X3.here hx rfl (hb hby d1_35) rfl) ?_
  show Go p.tables e below _ (T3.setTop (mkF m 36 #[.val (.int (2 : Int32)), .val (.int p1), .val (.int p2), .val (.int p3)] [(.int p2), (.int (1 : Int32)), (.ref b1), (.ref b1)]))
  obtain ⟨T5, h5, X5, W5, V5, st5⟩ := X3.stB hx hZ V3 g_b1 (by decide) (i := 1) rfl (by decide) (g := (mkF m 36 #[.val (.int (2 : Int32)), .val (.int p1), .val (.int p2), .val (.int p3)] [(.int p2), (.int (1 : Int32)), (.ref b1), (.ref b1)])) rfl rfl (hb hby d1_36)
  have f6_46 := f4_34.wr W5 (Or.inr sz_b1)
  have f6_47 := f4_35.wr W5
  have Zs6 : n0 ≤ h5.size := by rw [W5.size]; exact Zs4
  refine Go.by st5 ?_
  show Go p.tables e below _ (T5.setTop (mkF m 37 #[.val (.int (2 : Int32)), .val (.int p1), .val (.int p2), .val (.int p3)] [(.ref b1)]))
  refine Go.retA X5 hx hlk hret rfl rfl (hb hby d1_37) (by decide) (by decide) ?_
  refine ⟨b1, kc1, rfl, sz_b1, f6_46, f6_47, Avf.cong V5 (fun i hi => ?_)⟩
  match i, hi with
  | 0, _ => exact congrArg Value.int hb1
  | 1, _ => exact congrArg Value.int hb2
theorem d1_38 : decode method_2_code 38 = .ok (.iconst 3, 1) := by decide +kernel
theorem d1_39 : decode method_2_code 39 = .ok (.newarray .byte, 2) := by decide +kernel
theorem d1_41 : decode method_2_code 41 = .ok (.dup, 1) := by decide +kernel
theorem d1_42 : decode method_2_code 42 = .ok (.iconst 0, 1) := by decide +kernel
theorem d1_43 : decode method_2_code 43 = .ok (.iload_n 1, 1) := by decide +kernel
theorem d1_44 : decode method_2_code 44 = .ok (.bastore, 1) := by decide +kernel
theorem d1_45 : decode method_2_code 45 = .ok (.dup, 1) := by decide +kernel
theorem d1_46 : decode method_2_code 46 = .ok (.iconst 1, 1) := by decide +kernel
theorem d1_47 : decode method_2_code 47 = .ok (.iload_n 2, 1) := by decide +kernel
theorem d1_48 : decode method_2_code 48 = .ok (.bastore, 1) := by decide +kernel
theorem d1_49 : decode method_2_code 49 = .ok (.dup, 1) := by decide +kernel
theorem d1_50 : decode method_2_code 50 = .ok (.iconst 2, 1) := by decide +kernel
theorem d1_51 : decode method_2_code 51 = .ok (.iload_n 3, 1) := by decide +kernel
theorem d1_52 : decode method_2_code 52 = .ok (.bastore, 1) := by decide +kernel
theorem d1_53 : decode method_2_code 53 = .ok (.areturn, 1) := by decide +kernel
abbrev Rm1_3 : Room := { frames := 0, cells := 1, slots := 3, locals := 0 }
set_option maxRecDepth 65536 in
set_option maxHeartbeats 40000000 in
theorem rm1_3 (l : Launch) (Z : State) (a0 : Array Value) (hw : ∀ d ∈ tables_1, d.before a0 Z = true) (ws : List Jvm.Cond) (p1 : Int32) (p2 : Int32) (p3 : Int32) (h0 : Heap) (n0 : Nat) (Z0 : n0 ≤ h0.size) (hb1 : p1.toInt8.toInt32 = p1) (hb2 : p2.toInt8.toInt32 = p2) (hb3 : p3.toInt8.toInt32 = p3) :
    Met l Z n0 (⟨"com/example/istorie/istorie/BytesCopyOfPinLaw", "make", "(IBBB)[B"⟩ : MethodName) method_2_code 4 (some (.array .byte)) ws Rm1_3 #[(.int (3 : Int32)), (.int p1), (.int p2), (.int p3)] h0 (fun v h => ∃ r kc, v = some (.ref r) ∧ h0.size ≤ r ∧ Keep h0 h [] ∧ Exa Z h r "[B" ∧ Avf Z h r kc .byte 3 (fun i => if i = 0 then (.int p1) else if i = 1 then (.int p2) else (.int p3))) := by
  refine enter (Ls := #[.val (.int (3 : Int32)), .val (.int p1), .val (.int p2), .val (.int p3)]) (plainFor_of_name pn0) (fun m => by first | rfl | (simp [entryFrame, mkF, argsToLocals, Value.category]; done)) ?_
  intro p e s m below meth c T0 hx hby hml hown hnm hret hlk hZ X0
  have K0 := Keep.refl h0 []
  show Go p.tables e below _ (T0.setTop (mkF m 0 #[.val (.int (3 : Int32)), .val (.int p1), .val (.int p2), .val (.int p3)] []))
  refine Go.by (fun _ => XS.iloadN X0.here hx rfl (hb hby d1_0) rfl) ?_
  show Go p.tables e below _ (T0.setTop (mkF m 1 #[.val (.int (3 : Int32)), .val (.int p1), .val (.int p2), .val (.int p3)] [(.int (3 : Int32))]))
  refine Go.by (fun _ => XS.ifYes X0.here hx rfl (pc0 := 1) (pc' := 8) rfl (hb hby d1_1) rfl ((if0 _ _).trans (feq (by decide)).2) (by decide) (by decide)) ?_
  show Go p.tables e below _ (T0.setTop (mkF m 8 #[.val (.int (3 : Int32)), .val (.int p1), .val (.int p2), .val (.int p3)] []))
  refine Go.by (fun _ => XS.iloadN X0.here hx rfl (hb hby d1_8) rfl) ?_
  show Go p.tables e below _ (T0.setTop (mkF m 9 #[.val (.int (3 : Int32)), .val (.int p1), .val (.int p2), .val (.int p3)] [(.int (3 : Int32))]))
  refine Go.by (fun _ => XS.iconst X0.here hx rfl (hb hby d1_9)) ?_
  show Go p.tables e below _ (T0.setTop (mkF m 10 #[.val (.int (3 : Int32)), .val (.int p1), .val (.int p2), .val (.int p3)] [(.int (1 : Int32)), (.int (3 : Int32))]))
  refine Go.by (fun _ => XS.icmpYes X0.here hx rfl (pc0 := 10) (pc' := 21) rfl (hb hby d1_10) rfl (feq (by decide)).2 (by decide) (by decide)) ?_
  show Go p.tables e below _ (T0.setTop (mkF m 21 #[.val (.int (3 : Int32)), .val (.int p1), .val (.int p2), .val (.int p3)] []))
  refine Go.by (fun _ => XS.iloadN X0.here hx rfl (hb hby d1_21) rfl) ?_
  show Go p.tables e below _ (T0.setTop (mkF m 22 #[.val (.int (3 : Int32)), .val (.int p1), .val (.int p2), .val (.int p3)] [(.int (3 : Int32))]))
  refine Go.by (fun _ => XS.iconst X0.here hx rfl (hb hby d1_22)) ?_
  show Go p.tables e below _ (T0.setTop (mkF m 23 #[.val (.int (3 : Int32)), .val (.int p1), .val (.int p2), .val (.int p3)] [(.int (2 : Int32)), (.int (3 : Int32))]))
  refine Go.by (fun _ => XS.icmpYes X0.here hx rfl (pc0 := 23) (pc' := 38) rfl (hb hby d1_23) rfl (feq (by decide)).2 (by decide) (by decide)) ?_
  show Go p.tables e below _ (T0.setTop (mkF m 38 #[.val (.int (3 : Int32)), .val (.int p1), .val (.int p2), .val (.int p3)] []))
  refine Go.by (fun _ => XS.iconst X0.here hx rfl (hb hby d1_38)) ?_
  show Go p.tables e below _ (T0.setTop (mkF m 39 #[.val (.int (3 : Int32)), .val (.int p1), .val (.int p2), .val (.int p3)] [(.int (3 : Int32))]))
  obtain ⟨T1, h1, kc1, b1, X1, g1, E1, A1, V1, st1⟩ := X0.newP hx hZ (tw hw 4 rfl) (g := (mkF m 39 #[.val (.int (3 : Int32)), .val (.int p1), .val (.int p2), .val (.int p3)] [(.int (3 : Int32))])) rfl (hb hby d1_39) rfl (by decide) (sz := 3) (cap := 3) (k' := 1) (n' := 3) rfl (Nat.le_refl _) (by decide) rfl rfl (by decide) (by decide) (ad := "[B") (by decide)
  have g_b1 : n0 ≤ b1 := by rw [g1]; exact Z0
  have sz_b1 : h0.size ≤ b1 := by rw [g1]; exact K0.1
  have f2_23 := K0.ext E1
  have Zs2 : n0 ≤ h1.size := Nat.le_trans Z0 E1.1
  refine Go.by st1 ?_
  show Go p.tables e below _ (T1.setTop (mkF m 41 #[.val (.int (3 : Int32)), .val (.int p1), .val (.int p2), .val (.int p3)] [(.ref b1)]))
  refine Go.by (fun _ => XS.dup X1.here hx rfl (hb hby d1_41) rfl rfl) ?_
  show Go p.tables e below _ (T1.setTop (mkF m 42 #[.val (.int (3 : Int32)), .val (.int p1), .val (.int p2), .val (.int p3)] [(.ref b1), (.ref b1)]))
  refine Go.by (fun _ => XS.iconst X1.here hx rfl (hb hby d1_42)) ?_
  show Go p.tables e below _ (T1.setTop (mkF m 43 #[.val (.int (3 : Int32)), .val (.int p1), .val (.int p2), .val (.int p3)] [(.int (0 : Int32)), (.ref b1), (.ref b1)]))
  refine Go.by (fun _ => XS.iloadN X1.here hx rfl (hb hby d1_43) rfl) ?_
  show Go p.tables e below _ (T1.setTop (mkF m 44 #[.val (.int (3 : Int32)), .val (.int p1), .val (.int p2), .val (.int p3)] [(.int p1), (.int (0 : Int32)), (.ref b1), (.ref b1)]))
  obtain ⟨T3, h3, X3, W3, V3, st3⟩ := X1.stB hx hZ V1 g_b1 (by decide) (i := 0) rfl (by decide) (g := (mkF m 44 #[.val (.int (3 : Int32)), .val (.int p1), .val (.int p2), .val (.int p3)] [(.int p1), (.int (0 : Int32)), (.ref b1), (.ref b1)])) rfl rfl (hb hby d1_44)
  have f4_34 := f2_23.wr W3 (Or.inr sz_b1)
  have f4_35 := A1.wr W3
  have Zs4 : n0 ≤ h3.size := by rw [W3.size]; exact Zs2
  refine Go.by st3 ?_
  show Go p.tables e below _ (T3.setTop (mkF m 45 #[.val (.int (3 : Int32)), .val (.int p1), .val (.int p2), .val (.int p3)] [(.ref b1)]))
  refine Go.by (fun _ => XS.dup X3.here hx rfl (hb hby d1_45) rfl rfl) ?_
  show Go p.tables e below _ (T3.setTop (mkF m 46 #[.val (.int (3 : Int32)), .val (.int p1), .val (.int p2), .val (.int p3)] [(.ref b1), (.ref b1)]))
  refine Go.by (fun _ => XS.iconst X3.here hx rfl (hb hby d1_46)) ?_
  show Go p.tables e below _ (T3.setTop (mkF m 47 #[.val (.int (3 : Int32)), .val (.int p1), .val (.int p2), .val (.int p3)] [(.int (1 : Int32)), (.ref b1), (.ref b1)]))
  refine Go.by (fun _ => XS.iloadN X3.here hx rfl (hb hby d1_47) rfl) ?_
  show Go p.tables e below _ (T3.setTop (mkF m 48 #[.val (.int (3 : Int32)), .val (.int p1), .val (.int p2), .val (.int p3)] [(.int p2), (.int (1 : Int32)), (.ref b1), (.ref b1)]))
  obtain ⟨T5, h5, X5, W5, V5, st5⟩ := X3.stB hx hZ V3 g_b1 (by decide) (i := 1) rfl (by decide) (g := (mkF m 48 #[.val (.int (3 : Int32)), .val (.int p1), .val (.int p2), .val (.int p3)] [(.int p2), (.int (1 : Int32)), (.ref b1), (.ref b1)])) rfl rfl (hb hby d1_48)
  have f6_46 := f4_34.wr W5 (Or.inr sz_b1)
  have f6_47 := f4_35.wr W5
  have Zs6 : n0 ≤ h5.size := by rw [W5.size]; exact Zs4
  refine Go.by st5 ?_
  show Go p.tables e below _ (T5.setTop (mkF m 49 #[.val (.int (3 : Int32)), .val (.int p1), .val (.int p2), .val (.int p3)] [(.ref b1)]))
  refine Go.by (fun _ => XS.dup X5.here hx rfl (hb hby d1_49) rfl rfl) ?_
  show Go p.tables e below _ (T5.setTop (mkF m 50 #[.val (.int (3 : Int32)), .val (.int p1), .val (.int p2), .val (.int p3)] [(.ref b1), (.ref b1)]))
  refine Go.by (fun _ => XS.iconst X5.here hx rfl (hb hby d1_50)) ?_
  show Go p.tables e below _ (T5.setTop (mkF m 51 #[.val (.int (3 : Int32)), .val (.int p1), .val (.int p2), .val (.int p3)] [(.int (2 : Int32)), (.ref b1), (.ref b1)]))
  refine Go.by (fun _ => XS.iloadN X5.here hx rfl (hb hby d1_51) rfl) ?_
  show Go p.tables e below _ (T5.setTop (mkF m 52 #[.val (.int (3 : Int32)), .val (.int p1), .val (.int p2), .val (.int p3)] [(.int p3), (.int (2 : Int32)), (.ref b1), (.ref b1)]))
  obtain ⟨T7, h7, X7, W7, V7, st7⟩ := X5.stB hx hZ V5 g_b1 (by decide) (i := 2) rfl (by decide) (g := (mkF m 52 #[.val (.int (3 : Int32)), .val (.int p1), .val (.int p2), .val (.int p3)] [(.int p3), (.int (2 : Int32)), (.ref b1), (.ref b1)])) rfl rfl (hb hby d1_52)
  have f8_58 := f6_46.wr W7 (Or.inr sz_b1)
  have f8_59 := f6_47.wr W7
  have Zs8 : n0 ≤ h7.size := by rw [W7.size]; exact Zs6
  refine Go.by st7 ?_
  show Go p.tables e below _ (T7.setTop (mkF m 53 #[.val (.int (3 : Int32)), .val (.int p1), .val (.int p2), .val (.int p3)] [(.ref b1)]))
  refine Go.retA X7 hx hlk hret rfl rfl (hb hby d1_53) (by decide) (by decide) ?_
  refine ⟨b1, kc1, rfl, sz_b1, f8_58, f8_59, Avf.cong V7 (fun i hi => ?_)⟩
  match i, hi with
  | 0, _ => exact congrArg Value.int hb1
  | 1, _ => exact congrArg Value.int hb2
  | 2, _ => exact congrArg Value.int hb3
theorem d3_0 : decode prog_2_method_1_code 0 = .ok (.aload_n 0, 1) := by decide +kernel
theorem d3_1 : decode prog_2_method_1_code 1 = .ok (.invokespecial 1, 3) := by decide +kernel
theorem d3_4 : decode prog_2_method_1_code 4 = .ok (.aload_n 0, 1) := by decide +kernel
theorem d3_5 : decode prog_2_method_1_code 5 = .ok (.aload_n 1, 1) := by decide +kernel
theorem d3_6 : decode prog_2_method_1_code 6 = .ok (.putfield 7, 3) := by decide +kernel
theorem d3_9 : decode prog_2_method_1_code 9 = .ok (.return_, 1) := by decide +kernel
abbrev Rm3 : Room := { frames := 1, cells := 0, slots := 0, locals := 12 }
theorem pn1 : plainName "com/example/istorie/istorie/Bytes" = true := by first | (simp [plainName, overriddenIn]; done) | decide +kernel
set_option maxRecDepth 65536 in
set_option maxHeartbeats 40000000 in
theorem rm3 (l : Launch) (Z : State) (a0 : Array Value) (hw : ∀ d ∈ tables_1, d.before a0 Z = true) (ws : List Jvm.Cond) (a1 : Addr) (a2 : Addr) (h0 : Heap) (n0 : Nat) (Z0 : n0 ≤ h0.size) (E_a1 : Exa Z h0 a1 "com/example/istorie/istorie/Bytes") (g_a1 : n0 ≤ a1) (F_c : Fld Z h0 a1 "com/example/istorie/istorie/Bytes" "content" "[B" .null) :
    Met l Z n0 (⟨"com/example/istorie/istorie/Bytes", "<init>", "([B)V"⟩ : MethodName) prog_2_method_1_code 2 none ws Rm3 #[(.ref a1), (.ref a2)] h0 (fun v h => v = none ∧ Keep h0 h [a1] ∧ Exa Z h a1 "com/example/istorie/istorie/Bytes" ∧ Fld Z h a1 "com/example/istorie/istorie/Bytes" "content" "[B" (.ref a2)) := by
  refine enter (Ls := #[.val (.ref a1), .val (.ref a2)]) (plainFor_of_name pn1) (fun m => by first | rfl | (simp [entryFrame, mkF, argsToLocals, Value.category]; done)) ?_
  intro p e s m below meth c T0 hx hby hml hown hnm hret hlk hZ X0
  have K0 := Keep.refl h0 [a1]
  show Go p.tables e below _ (T0.setTop (mkF m 0 #[.val (.ref a1), .val (.ref a2)] []))
  refine Go.by (fun _ => XS.aloadN X0.here hx rfl (hb hby d3_0) rfl rfl) ?_
  show Go p.tables e below _ (T0.setTop (mkF m 1 #[.val (.ref a1), .val (.ref a2)] [(.ref a1)]))
  obtain ⟨T1, X1, st1⟩ := X0.initO hx hZ hown (tw hw 23 rfl) (tw hw 24 rfl) (tw hw 25 rfl) (g := (mkF m 1 #[.val (.ref a1), .val (.ref a2)] [(.ref a1)])) rfl (by rw [hml]; rfl) rfl (hb hby d3_1) (by decide) (Nat.le_of_ble_eq_true rfl)
  refine Go.by st1 ?_
  show Go p.tables e below _ (T1.setTop (mkF m 4 #[.val (.ref a1), .val (.ref a2)] []))
  refine Go.by (fun _ => XS.aloadN X1.here hx rfl (hb hby d3_4) rfl rfl) ?_
  show Go p.tables e below _ (T1.setTop (mkF m 5 #[.val (.ref a1), .val (.ref a2)] [(.ref a1)]))
  refine Go.by (fun _ => XS.aloadN X1.here hx rfl (hb hby d3_5) rfl rfl) ?_
  show Go p.tables e below _ (T1.setTop (mkF m 6 #[.val (.ref a1), .val (.ref a2)] [(.ref a2), (.ref a1)]))
  obtain ⟨T2, h2, X2, W2, st2⟩ := X1.putF hx hZ hown (host := "") (Or.inl (tw hw 26 rfl)) Via.refl F_c E_a1 g_a1 (Or.inr ⟨(tw hw 27 rfl), rfl, hnm⟩) (tw hw 10 rfl) (ty := (.array .byte)) (by decide) rfl rfl (g := (mkF m 6 #[.val (.ref a1), .val (.ref a2)] [(.ref a2), (.ref a1)])) rfl rfl (hb hby d3_6)
  have Fw2 := F_c.same W2
  have f3_13 := E_a1.wr W2
  have f3_14 := K0.wr W2 (Or.inl (List.mem_of_getElem? (i := 0) rfl))
  have Zs3 : n0 ≤ h2.size := by rw [W2.size]; exact Z0
  refine Go.by st2 ?_
  show Go p.tables e below _ (T2.setTop (mkF m 9 #[.val (.ref a1), .val (.ref a2)] []))
  exact Go.ret0 X2 hx hlk hret (hb hby d3_9) (by decide) (by decide) ⟨rfl, f3_14, f3_13, Fw2⟩
theorem d2_0 : decode prog_2_method_2_code 0 = .ok (.new 8, 3) := by decide +kernel
theorem d2_3 : decode prog_2_method_2_code 3 = .ok (.dup, 1) := by decide +kernel
theorem d2_4 : decode prog_2_method_2_code 4 = .ok (.aload_n 0, 1) := by decide +kernel
theorem d2_5 : decode prog_2_method_2_code 5 = .ok (.invokevirtual 13, 3) := by decide +kernel
theorem d2_8 : decode prog_2_method_2_code 8 = .ok (.checkcast 14, 3) := by decide +kernel
theorem d2_11 : decode prog_2_method_2_code 11 = .ok (.invokespecial 18, 3) := by decide +kernel
theorem pd0 : parseMethodDescriptor "([B)V" = some ⟨[(.array .byte)], none⟩ := by decide +kernel
theorem d2_14 : decode prog_2_method_2_code 14 = .ok (.areturn, 1) := by decide +kernel
abbrev Rm2 : Room := { frames := 2, cells := 2, slots := 4, locals := 26 }
set_option maxRecDepth 65536 in
set_option maxHeartbeats 40000000 in
theorem rm2 (l : Launch) (Z : State) (a0 : Array Value) (hw : ∀ d ∈ tables_1, d.before a0 Z = true) (ws : List Jvm.Cond) (a1 : Addr) (kc : ClassId) (sz : Nat) (f : Nat → Value) (h0 : Heap) (n0 : Nat) (Z0 : n0 ≤ h0.size) (E_1 : Exa Z h0 a1 "[B") (V_1 : Avf Z h0 a1 kc .byte sz f) (hsz : sz ≤ 3) :
    Met l Z n0 (⟨"com/example/istorie/istorie/Bytes", "copyOf", "([B)Lcom/example/istorie/istorie/Bytes;"⟩ : MethodName) prog_2_method_2_code 1 (some (.object "com/example/istorie/istorie/Bytes")) ws Rm2 #[(.ref a1)] h0 (fun v h => ∃ r b, v = some (.ref r) ∧ h0.size ≤ r ∧ h0.size ≤ b ∧ Keep h0 h [] ∧ Exa Z h r "com/example/istorie/istorie/Bytes" ∧ Fld Z h r "com/example/istorie/istorie/Bytes" "content" "[B" (.ref b) ∧ Exa Z h b "[B" ∧ Avf Z h b kc .byte sz f) := by
  refine enter (Ls := #[.val (.ref a1)]) (plainFor_of_name pn1) (fun m => by first | rfl | (simp [entryFrame, mkF, argsToLocals, Value.category]; done)) ?_
  intro p e s m below meth c T0 hx hby hml hown hnm hret hlk hZ X0
  have K0 := Keep.refl h0 []
  show Go p.tables e below _ (T0.setTop (mkF m 0 #[.val (.ref a1)] []))
  obtain ⟨T1, h1, b1, X1, g1, E1, A1, D1, st1⟩ := X0.newO hx hZ hown (tw hw 9 rfl) (tw hw 10 rfl) (tw hw 7 rfl) (g := (mkF m 0 #[.val (.ref a1)] [])) rfl (hb hby d2_0) (k' := 1) (n' := 1) rfl rfl (by decide) (by decide)
  have g_b1 : n0 ≤ b1 := by rw [g1]; exact Z0
  have sz_b1 : h0.size ≤ b1 := by rw [g1]; exact K0.1
  have ne_a1_b1 : a1 ≠ b1 := Nat.ne_of_lt (by rw [g1]; exact E_1.lt)
  have f2_6 := E_1.ext E1
  have f2_7 := Avf.ext V_1 E1
  have f2_8 := K0.ext E1
  have Zs2 : n0 ≤ h1.size := Nat.le_trans Z0 E1.1
  have F1_content : Fld Z h1 b1 "com/example/istorie/istorie/Bytes" "content" "[B" .null := D1 (Or.inr (tw hw 27 rfl)) (ty := (.array .byte)) (by decide)
  refine Go.by st1 ?_
  show Go p.tables e below _ (T1.setTop (mkF m 3 #[.val (.ref a1)] [(.ref b1)]))
  refine Go.by (fun _ => XS.dup X1.here hx rfl (hb hby d2_3) rfl rfl) ?_
  show Go p.tables e below _ (T1.setTop (mkF m 4 #[.val (.ref a1)] [(.ref b1), (.ref b1)]))
  refine Go.by (fun _ => XS.aloadN X1.here hx rfl (hb hby d2_4) rfl rfl) ?_
  show Go p.tables e below _ (T1.setTop (mkF m 5 #[.val (.ref a1)] [(.ref a1), (.ref b1), (.ref b1)]))
  obtain ⟨T3, h3, b3, X3, g3, E3, A3, V3, st3⟩ := X1.clone hx hZ hown (tw hw 11 rfl) (tw hw 12 rfl) (tw hw 16 rfl) (tw hw 14 rfl) (tw hw 15 rfl) (tw hw 17 rfl) f2_7 f2_6 (g := (mkF m 5 #[.val (.ref a1)] [(.ref a1), (.ref b1), (.ref b1)])) rfl (by rw [hml]; rfl) rfl (hb hby d2_5) (by decide) (Nat.le_of_ble_eq_true rfl) (cap := 3) (k' := 2) (n' := 4) hsz rfl rfl (by decide) (by decide)
  have g_b3 : n0 ≤ b3 := by rw [g3]; exact Zs2
  have sz_b3 : h0.size ≤ b3 := by rw [g3]; exact f2_8.1
  have ne_a1_b3 : a1 ≠ b3 := Nat.ne_of_lt (by rw [g3]; exact f2_6.lt)
  have ne_b1_b3 : b1 ≠ b3 := Nat.ne_of_lt (by rw [g3]; exact A1.lt)
  have f4_22 := f2_6.ext E3
  have f4_23 := Avf.ext f2_7 E3
  have f4_24 := f2_8.ext E3
  have f4_25 := A1.ext E3
  have f4_26 := F1_content.ext E3
  have Zs4 : n0 ≤ h3.size := Nat.le_trans Zs2 E3.1
  refine Go.by st3 ?_
  show Go p.tables e below _ (T3.setTop (mkF m 8 #[.val (.ref a1)] [(.ref b3), (.ref b1), (.ref b1)]))
  obtain ⟨T5, X5, st5⟩ := X3.castY hx hZ hown (tw hw 18 rfl) (Ins.self A3) (g := (mkF m 8 #[.val (.ref a1)] [(.ref b3), (.ref b1), (.ref b1)])) rfl rfl (hb hby d2_8)
  refine Go.by st5 ?_
  show Go p.tables e below _ (T5.setTop (mkF m 11 #[.val (.ref a1)] [(.ref b3), (.ref b1), (.ref b1)]))
  obtain ⟨v6, T6, h6, X6, q6, st6⟩ := X5.callI hx hZ (y := (⟨"com/example/istorie/istorie/Bytes", "<init>", "([B)V"⟩ : MethodName)) rfl hown (tw hw 20 rfl) (tw hw 21 rfl) (tw hw 7 rfl) (tw hw 22 rfl) (by decide) (rm3 l Z a0 hw [] b1 b3 h3 n0 Zs4 f4_25 g_b1 f4_26) (g := (mkF m 11 #[.val (.ref a1)] [(.ref b3), (.ref b1), (.ref b1)])) rfl (by rw [hml]; rfl) (argsL := [(.ref b3)]) (rest := [(.ref b1)]) (lenOf pd0 rfl) rfl (hb hby d2_11) rfl (by decide) (Nat.le_of_ble_eq_true rfl) (k' := 2) (n' := 4) rfl rfl (by decide) (by decide)
  refine Go.by st6 ?_
  obtain ⟨rfl, K6, Ex6, Fc6⟩ := q6
  have f7_36 := f4_22.keep K6
  have f7_37 := Avf.keep f4_23 K6 (ninS ne_a1_b1 nin0)
  have f7_38 := f4_24.trans K6 (allS (Or.inr sz_b1) all0)
  have f7_39 := f4_25.keep K6
  have f7_40 := A3.keep K6
  have f7_41 := Avf.keep V3 K6 (ninS (Ne.symm ne_b1_b3) nin0)
  have Zs7 : n0 ≤ h6.size := Nat.le_trans Zs4 K6.1
  show Go p.tables e below _ (T6.setTop (mkF m 14 #[.val (.ref a1)] [(.ref b1)]))
  exact Go.retA X6 hx hlk hret rfl rfl (hb hby d2_14) (by decide) (by decide) ⟨b1, b3, rfl, sz_b1, sz_b3, f7_38, Ex6, Fc6, f7_40, f7_41⟩
theorem d5_0 : decode prog_2_method_4_code 0 = .ok (.aload_n 0, 1) := by decide +kernel
theorem d5_1 : decode prog_2_method_4_code 1 = .ok (.getfield 7, 3) := by decide +kernel
theorem d5_4 : decode prog_2_method_4_code 4 = .ok (.arraylength, 1) := by decide +kernel
theorem d5_5 : decode prog_2_method_4_code 5 = .ok (.ireturn, 1) := by decide +kernel
abbrev Rm5 : Room := { frames := 0, cells := 0, slots := 0, locals := 0 }
set_option maxRecDepth 65536 in
set_option maxHeartbeats 40000000 in
theorem rm5 (l : Launch) (Z : State) (a0 : Array Value) (hw : ∀ d ∈ tables_1, d.before a0 Z = true) (ws : List Jvm.Cond) (a1 : Addr) (d1 : Addr) (kc : ClassId) (sz : Nat) (f : Nat → Value) (h0 : Heap) (n0 : Nat) (Z0 : n0 ≤ h0.size) (F_c : Fld Z h0 a1 "com/example/istorie/istorie/Bytes" "content" "[B" (.ref d1)) (V_1 : Avf Z h0 d1 kc .byte sz f) :
    Met l Z n0 (⟨"com/example/istorie/istorie/Bytes", "length", "()I"⟩ : MethodName) prog_2_method_4_code 1 (some .int) ws Rm5 #[(.ref a1)] h0 (fun v h => v = some (.int sz.toInt32) ∧ h0 = h) := by
  refine enter (Ls := #[.val (.ref a1)]) (plainFor_of_name pn1) (fun m => by first | rfl | (simp [entryFrame, mkF, argsToLocals, Value.category]; done)) ?_
  intro p e s m below meth c T0 hx hby hml hown hnm hret hlk hZ X0
  show Go p.tables e below _ (T0.setTop (mkF m 0 #[.val (.ref a1)] []))
  refine Go.by (fun _ => XS.aloadN X0.here hx rfl (hb hby d5_0) rfl rfl) ?_
  show Go p.tables e below _ (T0.setTop (mkF m 1 #[.val (.ref a1)] [(.ref a1)]))
  obtain ⟨T1, X1, st1⟩ := X0.getF hx hZ hown (host := "") (Or.inl (tw hw 26 rfl)) Via.refl F_c (g := (mkF m 1 #[.val (.ref a1)] [(.ref a1)])) rfl rfl (hb hby d5_1)
  refine Go.by st1 ?_
  show Go p.tables e below _ (T1.setTop (mkF m 4 #[.val (.ref a1)] [(.ref d1)]))
  refine Go.by (X1.len hx hZ V_1 (z := (sz.toInt32)) rfl (g := (mkF m 4 #[.val (.ref a1)] [(.ref d1)])) rfl rfl (hb hby d5_4)) ?_
  show Go p.tables e below _ (T1.setTop (mkF m 5 #[.val (.ref a1)] [(.int (sz.toInt32))]))
  exact Go.retI X1 hx hlk hret (hb hby d5_5) (by decide) (by decide) ⟨rfl, rfl⟩
theorem d6_0 : decode prog_2_method_5_code 0 = .ok (.aload_n 0, 1) := by decide +kernel
theorem d6_1 : decode prog_2_method_5_code 1 = .ok (.getfield 7, 3) := by decide +kernel
theorem d6_4 : decode prog_2_method_5_code 4 = .ok (.invokevirtual 13, 3) := by decide +kernel
theorem d6_7 : decode prog_2_method_5_code 7 = .ok (.checkcast 14, 3) := by decide +kernel
theorem d6_10 : decode prog_2_method_5_code 10 = .ok (.areturn, 1) := by decide +kernel
abbrev Rm6 : Room := { frames := 1, cells := 1, slots := 3, locals := 14 }
set_option maxRecDepth 65536 in
set_option maxHeartbeats 40000000 in
theorem rm6 (l : Launch) (Z : State) (a0 : Array Value) (hw : ∀ d ∈ tables_1, d.before a0 Z = true) (ws : List Jvm.Cond) (a1 : Addr) (d1 : Addr) (kc : ClassId) (sz : Nat) (f : Nat → Value) (h0 : Heap) (n0 : Nat) (Z0 : n0 ≤ h0.size) (F_c : Fld Z h0 a1 "com/example/istorie/istorie/Bytes" "content" "[B" (.ref d1)) (V_1 : Avf Z h0 d1 kc .byte sz f) (E_1 : Exa Z h0 d1 "[B") (hsz : sz ≤ 3) :
    Met l Z n0 (⟨"com/example/istorie/istorie/Bytes", "toByteArray", "()[B"⟩ : MethodName) prog_2_method_5_code 1 (some (.array .byte)) ws Rm6 #[(.ref a1)] h0 (fun v h => ∃ b, v = some (.ref b) ∧ h0.size ≤ b ∧ Keep h0 h [] ∧ Avf Z h b kc .byte sz f) := by
  refine enter (Ls := #[.val (.ref a1)]) (plainFor_of_name pn1) (fun m => by first | rfl | (simp [entryFrame, mkF, argsToLocals, Value.category]; done)) ?_
  intro p e s m below meth c T0 hx hby hml hown hnm hret hlk hZ X0
  have K0 := Keep.refl h0 []
  show Go p.tables e below _ (T0.setTop (mkF m 0 #[.val (.ref a1)] []))
  refine Go.by (fun _ => XS.aloadN X0.here hx rfl (hb hby d6_0) rfl rfl) ?_
  show Go p.tables e below _ (T0.setTop (mkF m 1 #[.val (.ref a1)] [(.ref a1)]))
  obtain ⟨T1, X1, st1⟩ := X0.getF hx hZ hown (host := "") (Or.inl (tw hw 26 rfl)) Via.refl F_c (g := (mkF m 1 #[.val (.ref a1)] [(.ref a1)])) rfl rfl (hb hby d6_1)
  refine Go.by st1 ?_
  show Go p.tables e below _ (T1.setTop (mkF m 4 #[.val (.ref a1)] [(.ref d1)]))
  obtain ⟨T2, h2, b2, X2, g2, E2, A2, V2, st2⟩ := X1.clone hx hZ hown (tw hw 11 rfl) (tw hw 12 rfl) (tw hw 16 rfl) (tw hw 14 rfl) (tw hw 15 rfl) (tw hw 17 rfl) V_1 E_1 (g := (mkF m 4 #[.val (.ref a1)] [(.ref d1)])) rfl (by rw [hml]; rfl) rfl (hb hby d6_4) (by decide) (Nat.le_of_ble_eq_true rfl) (cap := 3) (k' := 1) (n' := 3) hsz rfl rfl (by decide) (by decide)
  have g_b2 : n0 ≤ b2 := by rw [g2]; exact Z0
  have sz_b2 : h0.size ≤ b2 := by rw [g2]; exact K0.1
  have ne_a1_b2 : a1 ≠ b2 := Nat.ne_of_lt (by rw [g2]; exact F_c.lt)
  have ne_d1_b2 : d1 ≠ b2 := Nat.ne_of_lt (by rw [g2]; exact V_1.lt)
  have f3_12 := F_c.ext E2
  have f3_13 := Avf.ext V_1 E2
  have f3_14 := E_1.ext E2
  have f3_15 := K0.ext E2
  have Zs3 : n0 ≤ h2.size := Nat.le_trans Z0 E2.1
  refine Go.by st2 ?_
  show Go p.tables e below _ (T2.setTop (mkF m 7 #[.val (.ref a1)] [(.ref b2)]))
  obtain ⟨T4, X4, st4⟩ := X2.castY hx hZ hown (tw hw 18 rfl) (Ins.self A2) (g := (mkF m 7 #[.val (.ref a1)] [(.ref b2)])) rfl rfl (hb hby d6_7)
  refine Go.by st4 ?_
  show Go p.tables e below _ (T4.setTop (mkF m 10 #[.val (.ref a1)] [(.ref b2)]))
  exact Go.retA X4 hx hlk hret rfl rfl (hb hby d6_10) (by decide) (by decide) ⟨b2, rfl, sz_b2, f3_15, V2⟩
theorem pd1 : parseMethodDescriptor "(IBBB)[B" = some ⟨[.int, .byte, .byte, .byte], some (.array .byte)⟩ := by decide +kernel
theorem pd2 : parseMethodDescriptor "([B)Lcom/example/istorie/istorie/Bytes;" = some ⟨[(.array .byte)], some (.object "com/example/istorie/istorie/Bytes")⟩ := by decide +kernel
theorem pd3 : parseMethodDescriptor "()I" = some ⟨[], some .int⟩ := by decide +kernel
theorem pd4 : parseMethodDescriptor "()[B" = some ⟨[], some (.array .byte)⟩ := by decide +kernel
set_option maxRecDepth 65536 in
set_option maxHeartbeats 40000000 in
theorem rm0 (l : Launch) (Z : State) (a0 : Array Value) (hw : ∀ d ∈ tables_1, d.before a0 Z = true) (ws : List Jvm.Cond) (p0 : Int32) (p1 : Int32) (p2 : Int32) (p3 : Int32) (h0 : Heap) (n0 : Nat) (Z0 : n0 ≤ h0.size) :
    Met l Z n0 x code maxLocals ret ws room_1 #[(.int p0), (.int p1), (.int p2), (.int p3)] h0 (fun v h => v = some (.int 1)) := by
  refine enter (Ls := #[.val (.int p0), .val (.int p1), .val (.int p2), .val (.int p3), .unset, .unset, .unset, .unset, .unset, .unset, .unset]) (plainFor_of_name pn0) (fun m => by first | rfl | (simp [entryFrame, mkF, argsToLocals, Value.category, maxLocals]; done)) ?_
  intro p e s m below meth c T0 hx hby hml hown hnm hret hlk hZ X0
  show Go p.tables e below _ (T0.setTop (mkF m 0 #[.val (.int p0), .val (.int p1), .val (.int p2), .val (.int p3), .unset, .unset, .unset, .unset, .unset, .unset, .unset] []))
  refine Go.by (fun _ => XS.iloadN X0.here hx rfl (hb hby at_0) rfl) ?_
  show Go p.tables e below _ (T0.setTop (mkF m 1 #[.val (.int p0), .val (.int p1), .val (.int p2), .val (.int p3), .unset, .unset, .unset, .unset, .unset, .unset, .unset] [(.int p0)]))
  refine Go.by (fun _ => XS.iconst X0.here hx rfl (hb hby at_1)) ?_
  show Go p.tables e below _ (T0.setTop (mkF m 2 #[.val (.int p0), .val (.int p1), .val (.int p2), .val (.int p3), .unset, .unset, .unset, .unset, .unset, .unset, .unset] [(.int (3 : Int32)), (.int p0)]))
  refine Go.by (fun _ => XS.iand X0.here hx rfl (hb hby at_2) rfl) ?_
  show Go p.tables e below _ (T0.setTop (mkF m 3 #[.val (.int p0), .val (.int p1), .val (.int p2), .val (.int p3), .unset, .unset, .unset, .unset, .unset, .unset, .unset] [(.int (p0 &&& (3 : Int32)))]))
  refine Go.by (fun _ => XS.istore X0.here hx rfl (hb hby at_3) rfl (l' := #[.val (.int p0), .val (.int p1), .val (.int p2), .val (.int p3), .val (.int (p0 &&& (3 : Int32))), .unset, .unset, .unset, .unset, .unset, .unset]) rfl) ?_
  show Go p.tables e below _ (T0.setTop (mkF m 5 #[.val (.int p0), .val (.int p1), .val (.int p2), .val (.int p3), .val (.int (p0 &&& (3 : Int32))), .unset, .unset, .unset, .unset, .unset, .unset] []))
  refine Go.by (fun _ => XS.iloadN X0.here hx rfl (hb hby at_5) rfl) ?_
  show Go p.tables e below _ (T0.setTop (mkF m 6 #[.val (.int p0), .val (.int p1), .val (.int p2), .val (.int p3), .val (.int (p0 &&& (3 : Int32))), .unset, .unset, .unset, .unset, .unset, .unset] [(.int p1)]))
  refine Go.by (fun _ => XS.i2b X0.here hx rfl (hb hby at_6) rfl) ?_
  show Go p.tables e below _ (T0.setTop (mkF m 7 #[.val (.int p0), .val (.int p1), .val (.int p2), .val (.int p3), .val (.int (p0 &&& (3 : Int32))), .unset, .unset, .unset, .unset, .unset, .unset] [(.int (p1.toInt8.toInt32))]))
  refine Go.by (fun _ => XS.istore X0.here hx rfl (hb hby at_7) rfl (l' := #[.val (.int p0), .val (.int p1), .val (.int p2), .val (.int p3), .val (.int (p0 &&& (3 : Int32))), .val (.int (p1.toInt8.toInt32)), .unset, .unset, .unset, .unset, .unset]) rfl) ?_
  show Go p.tables e below _ (T0.setTop (mkF m 9 #[.val (.int p0), .val (.int p1), .val (.int p2), .val (.int p3), .val (.int (p0 &&& (3 : Int32))), .val (.int (p1.toInt8.toInt32)), .unset, .unset, .unset, .unset, .unset] []))
  refine Go.by (fun _ => XS.iloadN X0.here hx rfl (hb hby at_9) rfl) ?_
  show Go p.tables e below _ (T0.setTop (mkF m 10 #[.val (.int p0), .val (.int p1), .val (.int p2), .val (.int p3), .val (.int (p0 &&& (3 : Int32))), .val (.int (p1.toInt8.toInt32)), .unset, .unset, .unset, .unset, .unset] [(.int p2)]))
  refine Go.by (fun _ => XS.i2b X0.here hx rfl (hb hby at_10) rfl) ?_
  show Go p.tables e below _ (T0.setTop (mkF m 11 #[.val (.int p0), .val (.int p1), .val (.int p2), .val (.int p3), .val (.int (p0 &&& (3 : Int32))), .val (.int (p1.toInt8.toInt32)), .unset, .unset, .unset, .unset, .unset] [(.int (p2.toInt8.toInt32))]))
  refine Go.by (fun _ => XS.istore X0.here hx rfl (hb hby at_11) rfl (l' := #[.val (.int p0), .val (.int p1), .val (.int p2), .val (.int p3), .val (.int (p0 &&& (3 : Int32))), .val (.int (p1.toInt8.toInt32)), .val (.int (p2.toInt8.toInt32)), .unset, .unset, .unset, .unset]) rfl) ?_
  show Go p.tables e below _ (T0.setTop (mkF m 13 #[.val (.int p0), .val (.int p1), .val (.int p2), .val (.int p3), .val (.int (p0 &&& (3 : Int32))), .val (.int (p1.toInt8.toInt32)), .val (.int (p2.toInt8.toInt32)), .unset, .unset, .unset, .unset] []))
  refine Go.by (fun _ => XS.iloadN X0.here hx rfl (hb hby at_13) rfl) ?_
  show Go p.tables e below _ (T0.setTop (mkF m 14 #[.val (.int p0), .val (.int p1), .val (.int p2), .val (.int p3), .val (.int (p0 &&& (3 : Int32))), .val (.int (p1.toInt8.toInt32)), .val (.int (p2.toInt8.toInt32)), .unset, .unset, .unset, .unset] [(.int p3)]))
  refine Go.by (fun _ => XS.i2b X0.here hx rfl (hb hby at_14) rfl) ?_
  show Go p.tables e below _ (T0.setTop (mkF m 15 #[.val (.int p0), .val (.int p1), .val (.int p2), .val (.int p3), .val (.int (p0 &&& (3 : Int32))), .val (.int (p1.toInt8.toInt32)), .val (.int (p2.toInt8.toInt32)), .unset, .unset, .unset, .unset] [(.int (p3.toInt8.toInt32))]))
  refine Go.by (fun _ => XS.istore X0.here hx rfl (hb hby at_15) rfl (l' := #[.val (.int p0), .val (.int p1), .val (.int p2), .val (.int p3), .val (.int (p0 &&& (3 : Int32))), .val (.int (p1.toInt8.toInt32)), .val (.int (p2.toInt8.toInt32)), .val (.int (p3.toInt8.toInt32)), .unset, .unset, .unset]) rfl) ?_
  show Go p.tables e below _ (T0.setTop (mkF m 17 #[.val (.int p0), .val (.int p1), .val (.int p2), .val (.int p3), .val (.int (p0 &&& (3 : Int32))), .val (.int (p1.toInt8.toInt32)), .val (.int (p2.toInt8.toInt32)), .val (.int (p3.toInt8.toInt32)), .unset, .unset, .unset] []))
  have hb1 := own_b8 p1
  generalize (p1.toInt8.toInt32) = x0 at *
  have hb2 := own_b8 p2
  generalize (p2.toInt8.toInt32) = x1 at *
  have hb3 := own_b8 p3
  generalize (p3.toInt8.toInt32) = x2 at *
  rcases own_m4 p0 with en | en | en | en
  · rw [en]
    show Go p.tables e below _ (T0.setTop (mkF m 17 #[.val (.int p0), .val (.int p1), .val (.int p2), .val (.int p3), .val (.int (0 : Int32)), .val (.int x0), .val (.int x1), .val (.int x2), .unset, .unset, .unset] []))
    refine Go.by (fun _ => XS.iload X0.here hx rfl (hb hby at_17) rfl) ?_
    show Go p.tables e below _ (T0.setTop (mkF m 19 #[.val (.int p0), .val (.int p1), .val (.int p2), .val (.int p3), .val (.int (0 : Int32)), .val (.int x0), .val (.int x1), .val (.int x2), .unset, .unset, .unset] [(.int (0 : Int32))]))
    refine Go.by (fun _ => XS.iload X0.here hx rfl (hb hby at_19) rfl) ?_
    show Go p.tables e below _ (T0.setTop (mkF m 21 #[.val (.int p0), .val (.int p1), .val (.int p2), .val (.int p3), .val (.int (0 : Int32)), .val (.int x0), .val (.int x1), .val (.int x2), .unset, .unset, .unset] [(.int x0), (.int (0 : Int32))]))
    refine Go.by (fun _ => XS.iload X0.here hx rfl (hb hby at_21) rfl) ?_
    show Go p.tables e below _ (T0.setTop (mkF m 23 #[.val (.int p0), .val (.int p1), .val (.int p2), .val (.int p3), .val (.int (0 : Int32)), .val (.int x0), .val (.int x1), .val (.int x2), .unset, .unset, .unset] [(.int x1), (.int x0), (.int (0 : Int32))]))
    refine Go.by (fun _ => XS.iload X0.here hx rfl (hb hby at_23) rfl) ?_
    show Go p.tables e below _ (T0.setTop (mkF m 25 #[.val (.int p0), .val (.int p1), .val (.int p2), .val (.int p3), .val (.int (0 : Int32)), .val (.int x0), .val (.int x1), .val (.int x2), .unset, .unset, .unset] [(.int x2), (.int x1), (.int x0), (.int (0 : Int32))]))
    obtain ⟨v1, T1, h1, X1, q1, st1⟩ := X0.callS hx hZ (y := (⟨"com/example/istorie/istorie/BytesCopyOfPinLaw", "make", "(IBBB)[B"⟩ : MethodName)) hown (tw hw 0 rfl) (tw hw 1 rfl) (tw hw 2 rfl) (tw hw 3 rfl) (by decide) (rm1_0 l Z a0 hw [] x0 x1 x2 h0 n0 Z0 hb1 hb2 hb3) (g := (mkF m 25 #[.val (.int p0), .val (.int p1), .val (.int p2), .val (.int p3), .val (.int (0 : Int32)), .val (.int x0), .val (.int x1), .val (.int x2), .unset, .unset, .unset] [(.int x2), (.int x1), (.int x0), (.int (0 : Int32))])) rfl (by rw [hml]; rfl) (argsL := [(.int (0 : Int32)), (.int x0), (.int x1), (.int x2)]) (rest := []) (lenOf pd1 rfl) rfl (hb hby at_25) rfl (by decide) (Nat.le_of_ble_eq_true rfl) (k' := 1) (n' := 0) rfl rfl (by decide) (by decide)
    refine Go.by st1 ?_
    obtain ⟨r1, kc1, rfl, sr1, K1, Ex1, V1⟩ := q1
    have g_r1 : n0 ≤ r1 := Nat.le_trans Z0 sr1
    have Zs2 : n0 ≤ h1.size := Nat.le_trans Z0 (keep_ext K1).1
    show Go p.tables e below _ (T1.setTop (mkF m 28 #[.val (.int p0), .val (.int p1), .val (.int p2), .val (.int p3), .val (.int (0 : Int32)), .val (.int x0), .val (.int x1), .val (.int x2), .unset, .unset, .unset] [(.ref r1)]))
    refine Go.by (fun _ => XS.astore X1.here hx rfl (hb hby at_28) rfl rfl (l' := #[.val (.int p0), .val (.int p1), .val (.int p2), .val (.int p3), .val (.int (0 : Int32)), .val (.int x0), .val (.int x1), .val (.int x2), .val (.ref r1), .unset, .unset]) rfl) ?_
    show Go p.tables e below _ (T1.setTop (mkF m 30 #[.val (.int p0), .val (.int p1), .val (.int p2), .val (.int p3), .val (.int (0 : Int32)), .val (.int x0), .val (.int x1), .val (.int x2), .val (.ref r1), .unset, .unset] []))
    refine Go.by (fun _ => XS.aload X1.here hx rfl (hb hby at_30) rfl rfl) ?_
    show Go p.tables e below _ (T1.setTop (mkF m 32 #[.val (.int p0), .val (.int p1), .val (.int p2), .val (.int p3), .val (.int (0 : Int32)), .val (.int x0), .val (.int x1), .val (.int x2), .val (.ref r1), .unset, .unset] [(.ref r1)]))
    obtain ⟨v3, T3, h3, X3, q3, st3⟩ := X1.callS hx hZ (y := (⟨"com/example/istorie/istorie/Bytes", "copyOf", "([B)Lcom/example/istorie/istorie/Bytes;"⟩ : MethodName)) hown (tw hw 5 rfl) (tw hw 6 rfl) (tw hw 7 rfl) (tw hw 8 rfl) (by decide) (rm2 l Z a0 hw [] r1 kc1 0 (fun i => if i = 0 then (.int x0) else if i = 1 then (.int x1) else (.int x2)) h1 n0 Zs2 Ex1 V1 (by decide)) (g := (mkF m 32 #[.val (.int p0), .val (.int p1), .val (.int p2), .val (.int p3), .val (.int (0 : Int32)), .val (.int x0), .val (.int x1), .val (.int x2), .val (.ref r1), .unset, .unset] [(.ref r1)])) rfl (by rw [hml]; rfl) (argsL := [(.ref r1)]) (rest := []) (lenOf pd2 rfl) rfl (hb hby at_32) rfl (by decide) (Nat.le_of_ble_eq_true rfl) (k' := 3) (n' := 4) rfl rfl (by decide) (by decide)
    refine Go.by st3 ?_
    obtain ⟨r3, d3, rfl, sr3, sd3, K3, Ex3, Fc3, Ed3, V3⟩ := q3
    have g_r3 : n0 ≤ r3 := Nat.le_trans Zs2 sr3
    have ne_r1_r3 : r1 ≠ r3 := Nat.ne_of_lt (Nat.lt_of_lt_of_le Ex1.lt sr3)
    have g_d3 : n0 ≤ d3 := Nat.le_trans Zs2 sd3
    have ne_r1_d3 : r1 ≠ d3 := Nat.ne_of_lt (Nat.lt_of_lt_of_le Ex1.lt sd3)
    have f4_61 := Ex1.ext (keep_ext K3)
    have f4_62 := Avf.ext V1 (keep_ext K3)
    have Zs4 : n0 ≤ h3.size := Nat.le_trans Zs2 (keep_ext K3).1
    show Go p.tables e below _ (T3.setTop (mkF m 35 #[.val (.int p0), .val (.int p1), .val (.int p2), .val (.int p3), .val (.int (0 : Int32)), .val (.int x0), .val (.int x1), .val (.int x2), .val (.ref r1), .unset, .unset] [(.ref r3)]))
    refine Go.by (fun _ => XS.astore X3.here hx rfl (hb hby at_35) rfl rfl (l' := #[.val (.int p0), .val (.int p1), .val (.int p2), .val (.int p3), .val (.int (0 : Int32)), .val (.int x0), .val (.int x1), .val (.int x2), .val (.ref r1), .val (.ref r3), .unset]) rfl) ?_
    show Go p.tables e below _ (T3.setTop (mkF m 37 #[.val (.int p0), .val (.int p1), .val (.int p2), .val (.int p3), .val (.int (0 : Int32)), .val (.int x0), .val (.int x1), .val (.int x2), .val (.ref r1), .val (.ref r3), .unset] []))
    refine Go.by (fun _ => XS.iload X3.here hx rfl (hb hby at_37) rfl) ?_
    show Go p.tables e below _ (T3.setTop (mkF m 39 #[.val (.int p0), .val (.int p1), .val (.int p2), .val (.int p3), .val (.int (0 : Int32)), .val (.int x0), .val (.int x1), .val (.int x2), .val (.ref r1), .val (.ref r3), .unset] [(.int (0 : Int32))]))
    refine Go.by (fun _ => XS.ifYes X3.here hx rfl (pc0 := 39) (pc' := 51) rfl (hb hby at_39) rfl ((if0 _ _).trans (flt (by decide)).2.2.2) (by decide) (by decide)) ?_
    show Go p.tables e below _ (T3.setTop (mkF m 51 #[.val (.int p0), .val (.int p1), .val (.int p2), .val (.int p3), .val (.int (0 : Int32)), .val (.int x0), .val (.int x1), .val (.int x2), .val (.ref r1), .val (.ref r3), .unset] []))
    refine Go.by (fun _ => XS.iload X3.here hx rfl (hb hby at_51) rfl) ?_
    show Go p.tables e below _ (T3.setTop (mkF m 53 #[.val (.int p0), .val (.int p1), .val (.int p2), .val (.int p3), .val (.int (0 : Int32)), .val (.int x0), .val (.int x1), .val (.int x2), .val (.ref r1), .val (.ref r3), .unset] [(.int (0 : Int32))]))
    refine Go.by (fun _ => XS.iconst X3.here hx rfl (hb hby at_53)) ?_
    show Go p.tables e below _ (T3.setTop (mkF m 54 #[.val (.int p0), .val (.int p1), .val (.int p2), .val (.int p3), .val (.int (0 : Int32)), .val (.int x0), .val (.int x1), .val (.int x2), .val (.ref r1), .val (.ref r3), .unset] [(.int (1 : Int32)), (.int (0 : Int32))]))
    refine Go.by (fun _ => XS.icmpYes X3.here hx rfl (pc0 := 54) (pc' := 66) rfl (hb hby at_54) rfl (flt (by decide)).2.2.2 (by decide) (by decide)) ?_
    show Go p.tables e below _ (T3.setTop (mkF m 66 #[.val (.int p0), .val (.int p1), .val (.int p2), .val (.int p3), .val (.int (0 : Int32)), .val (.int x0), .val (.int x1), .val (.int x2), .val (.ref r1), .val (.ref r3), .unset] []))
    refine Go.by (fun _ => XS.iload X3.here hx rfl (hb hby at_66) rfl) ?_
    show Go p.tables e below _ (T3.setTop (mkF m 68 #[.val (.int p0), .val (.int p1), .val (.int p2), .val (.int p3), .val (.int (0 : Int32)), .val (.int x0), .val (.int x1), .val (.int x2), .val (.ref r1), .val (.ref r3), .unset] [(.int (0 : Int32))]))
    refine Go.by (fun _ => XS.iconst X3.here hx rfl (hb hby at_68)) ?_
    show Go p.tables e below _ (T3.setTop (mkF m 69 #[.val (.int p0), .val (.int p1), .val (.int p2), .val (.int p3), .val (.int (0 : Int32)), .val (.int x0), .val (.int x1), .val (.int x2), .val (.ref r1), .val (.ref r3), .unset] [(.int (2 : Int32)), (.int (0 : Int32))]))
    refine Go.by (fun _ => XS.icmpYes X3.here hx rfl (pc0 := 69) (pc' := 81) rfl (hb hby at_69) rfl (flt (by decide)).2.2.2 (by decide) (by decide)) ?_
    show Go p.tables e below _ (T3.setTop (mkF m 81 #[.val (.int p0), .val (.int p1), .val (.int p2), .val (.int p3), .val (.int (0 : Int32)), .val (.int x0), .val (.int x1), .val (.int x2), .val (.ref r1), .val (.ref r3), .unset] []))
    refine Go.by (fun _ => XS.aload X3.here hx rfl (hb hby at_81) rfl rfl) ?_
    show Go p.tables e below _ (T3.setTop (mkF m 83 #[.val (.int p0), .val (.int p1), .val (.int p2), .val (.int p3), .val (.int (0 : Int32)), .val (.int x0), .val (.int x1), .val (.int x2), .val (.ref r1), .val (.ref r3), .unset] [(.ref r3)]))
    obtain ⟨v5, T5, h5, X5, q5, st5⟩ := X3.callV hx hZ (y := (⟨"com/example/istorie/istorie/Bytes", "length", "()I"⟩ : MethodName)) (z := (⟨"com/example/istorie/istorie/Bytes", "length", "()I"⟩ : MethodName)) hown (tw hw 28 rfl) (tw hw 29 rfl) (notFace_of_selects (args := #[]) (mvT hZ (tw hw 31 rfl))) (tw hw 31 rfl) (tw hw 30 rfl) (tw hw 7 rfl) (tw hw 32 rfl) (by decide) (rm5 l Z a0 hw [] r3 d3 kc1 0 (fun i => if i = 0 then (.int x0) else if i = 1 then (.int x1) else (.int x2)) h3 n0 Zs4 Fc3 V3) Ex3 (g := (mkF m 83 #[.val (.int p0), .val (.int p1), .val (.int p2), .val (.int p3), .val (.int (0 : Int32)), .val (.int x0), .val (.int x1), .val (.int x2), .val (.ref r1), .val (.ref r3), .unset] [(.ref r3)])) rfl (by rw [hml]; rfl) (argsL := []) (rest := []) (lenOf pd3 rfl) rfl (hb hby at_83) rfl (by decide) (Nat.le_of_ble_eq_true rfl) (k' := 3) (n' := 4) rfl rfl (by decide) (by decide)
    refine Go.by st5 ?_
    obtain ⟨rfl, rfl⟩ := q5
    show Go p.tables e below _ (T5.setTop (mkF m 86 #[.val (.int p0), .val (.int p1), .val (.int p2), .val (.int p3), .val (.int (0 : Int32)), .val (.int x0), .val (.int x1), .val (.int x2), .val (.ref r1), .val (.ref r3), .unset] [(.int (0 : Int32))]))
    refine Go.by (fun _ => XS.iload X5.here hx rfl (hb hby at_86) rfl) ?_
    show Go p.tables e below _ (T5.setTop (mkF m 88 #[.val (.int p0), .val (.int p1), .val (.int p2), .val (.int p3), .val (.int (0 : Int32)), .val (.int x0), .val (.int x1), .val (.int x2), .val (.ref r1), .val (.ref r3), .unset] [(.int (0 : Int32)), (.int (0 : Int32))]))
    refine Go.by (fun _ => XS.icmpYes X5.here hx rfl (pc0 := 88) (pc' := 93) rfl (hb hby at_88) rfl (teq (by decide)).1 (by decide) (by decide)) ?_
    show Go p.tables e below _ (T5.setTop (mkF m 93 #[.val (.int p0), .val (.int p1), .val (.int p2), .val (.int p3), .val (.int (0 : Int32)), .val (.int x0), .val (.int x1), .val (.int x2), .val (.ref r1), .val (.ref r3), .unset] []))
    refine Go.by (fun _ => XS.aload X5.here hx rfl (hb hby at_93) rfl rfl) ?_
    show Go p.tables e below _ (T5.setTop (mkF m 95 #[.val (.int p0), .val (.int p1), .val (.int p2), .val (.int p3), .val (.int (0 : Int32)), .val (.int x0), .val (.int x1), .val (.int x2), .val (.ref r1), .val (.ref r3), .unset] [(.ref r3)]))
    obtain ⟨v6, T6, h6, X6, q6, st6⟩ := X5.callV hx hZ (y := (⟨"com/example/istorie/istorie/Bytes", "toByteArray", "()[B"⟩ : MethodName)) (z := (⟨"com/example/istorie/istorie/Bytes", "toByteArray", "()[B"⟩ : MethodName)) hown (tw hw 33 rfl) (tw hw 34 rfl) (notFace_of_selects (args := #[]) (mvT hZ (tw hw 36 rfl))) (tw hw 36 rfl) (tw hw 35 rfl) (tw hw 7 rfl) (tw hw 37 rfl) (by decide) (rm6 l Z a0 hw [] r3 d3 kc1 0 (fun i => if i = 0 then (.int x0) else if i = 1 then (.int x1) else (.int x2)) h3 n0 Zs4 Fc3 V3 Ed3 (by decide)) Ex3 (g := (mkF m 95 #[.val (.int p0), .val (.int p1), .val (.int p2), .val (.int p3), .val (.int (0 : Int32)), .val (.int x0), .val (.int x1), .val (.int x2), .val (.ref r1), .val (.ref r3), .unset] [(.ref r3)])) rfl (by rw [hml]; rfl) (argsL := []) (rest := []) (lenOf pd4 rfl) rfl (hb hby at_95) rfl (by decide) (Nat.le_of_ble_eq_true rfl) (k' := 4) (n' := 7) rfl rfl (by decide) (by decide)
    refine Go.by st6 ?_
    obtain ⟨r6, rfl, sr6, K6, V6⟩ := q6
    have g_r6 : n0 ≤ r6 := Nat.le_trans Zs4 sr6
    have ne_r1_r6 : r1 ≠ r6 := Nat.ne_of_lt (Nat.lt_of_lt_of_le f4_61.lt sr6)
    have ne_r3_r6 : r3 ≠ r6 := Nat.ne_of_lt (Nat.lt_of_lt_of_le Ex3.lt sr6)
    have ne_d3_r6 : d3 ≠ r6 := Nat.ne_of_lt (Nat.lt_of_lt_of_le Ed3.lt sr6)
    have f7_102 := f4_61.ext (keep_ext K6)
    have f7_103 := Avf.ext f4_62 (keep_ext K6)
    have f7_104 := Ex3.ext (keep_ext K6)
    have f7_105 := Fc3.ext (keep_ext K6)
    have f7_106 := Ed3.ext (keep_ext K6)
    have f7_107 := Avf.ext V3 (keep_ext K6)
    have Zs7 : n0 ≤ h6.size := Nat.le_trans Zs4 (keep_ext K6).1
    show Go p.tables e below _ (T6.setTop (mkF m 98 #[.val (.int p0), .val (.int p1), .val (.int p2), .val (.int p3), .val (.int (0 : Int32)), .val (.int x0), .val (.int x1), .val (.int x2), .val (.ref r1), .val (.ref r3), .unset] [(.ref r6)]))
    refine Go.by (fun _ => XS.astore X6.here hx rfl (hb hby at_98) rfl rfl (l' := #[.val (.int p0), .val (.int p1), .val (.int p2), .val (.int p3), .val (.int (0 : Int32)), .val (.int x0), .val (.int x1), .val (.int x2), .val (.ref r1), .val (.ref r3), .val (.ref r6)]) rfl) ?_
    show Go p.tables e below _ (T6.setTop (mkF m 100 #[.val (.int p0), .val (.int p1), .val (.int p2), .val (.int p3), .val (.int (0 : Int32)), .val (.int x0), .val (.int x1), .val (.int x2), .val (.ref r1), .val (.ref r3), .val (.ref r6)] []))
    refine Go.by (fun _ => XS.aload X6.here hx rfl (hb hby at_100) rfl rfl) ?_
    show Go p.tables e below _ (T6.setTop (mkF m 102 #[.val (.int p0), .val (.int p1), .val (.int p2), .val (.int p3), .val (.int (0 : Int32)), .val (.int x0), .val (.int x1), .val (.int x2), .val (.ref r1), .val (.ref r3), .val (.ref r6)] [(.ref r6)]))
    refine Go.by (X6.len hx hZ V6 (z := (0 : Int32)) rfl (g := (mkF m 102 #[.val (.int p0), .val (.int p1), .val (.int p2), .val (.int p3), .val (.int (0 : Int32)), .val (.int x0), .val (.int x1), .val (.int x2), .val (.ref r1), .val (.ref r3), .val (.ref r6)] [(.ref r6)])) rfl rfl (hb hby at_102)) ?_
    show Go p.tables e below _ (T6.setTop (mkF m 103 #[.val (.int p0), .val (.int p1), .val (.int p2), .val (.int p3), .val (.int (0 : Int32)), .val (.int x0), .val (.int x1), .val (.int x2), .val (.ref r1), .val (.ref r3), .val (.ref r6)] [(.int (0 : Int32))]))
    refine Go.by (fun _ => XS.iload X6.here hx rfl (hb hby at_103) rfl) ?_
    show Go p.tables e below _ (T6.setTop (mkF m 105 #[.val (.int p0), .val (.int p1), .val (.int p2), .val (.int p3), .val (.int (0 : Int32)), .val (.int x0), .val (.int x1), .val (.int x2), .val (.ref r1), .val (.ref r3), .val (.ref r6)] [(.int (0 : Int32)), (.int (0 : Int32))]))
    refine Go.by (fun _ => XS.icmpYes X6.here hx rfl (pc0 := 105) (pc' := 110) rfl (hb hby at_105) rfl (teq (by decide)).1 (by decide) (by decide)) ?_
    show Go p.tables e below _ (T6.setTop (mkF m 110 #[.val (.int p0), .val (.int p1), .val (.int p2), .val (.int p3), .val (.int (0 : Int32)), .val (.int x0), .val (.int x1), .val (.int x2), .val (.ref r1), .val (.ref r3), .val (.ref r6)] []))
    refine Go.by (fun _ => XS.iload X6.here hx rfl (hb hby at_110) rfl) ?_
    show Go p.tables e below _ (T6.setTop (mkF m 112 #[.val (.int p0), .val (.int p1), .val (.int p2), .val (.int p3), .val (.int (0 : Int32)), .val (.int x0), .val (.int x1), .val (.int x2), .val (.ref r1), .val (.ref r3), .val (.ref r6)] [(.int (0 : Int32))]))
    refine Go.by (fun _ => XS.ifYes X6.here hx rfl (pc0 := 112) (pc' := 126) rfl (hb hby at_112) rfl ((if0 _ _).trans (flt (by decide)).2.2.2) (by decide) (by decide)) ?_
    show Go p.tables e below _ (T6.setTop (mkF m 126 #[.val (.int p0), .val (.int p1), .val (.int p2), .val (.int p3), .val (.int (0 : Int32)), .val (.int x0), .val (.int x1), .val (.int x2), .val (.ref r1), .val (.ref r3), .val (.ref r6)] []))
    refine Go.by (fun _ => XS.iload X6.here hx rfl (hb hby at_126) rfl) ?_
    show Go p.tables e below _ (T6.setTop (mkF m 128 #[.val (.int p0), .val (.int p1), .val (.int p2), .val (.int p3), .val (.int (0 : Int32)), .val (.int x0), .val (.int x1), .val (.int x2), .val (.ref r1), .val (.ref r3), .val (.ref r6)] [(.int (0 : Int32))]))
    refine Go.by (fun _ => XS.iconst X6.here hx rfl (hb hby at_128)) ?_
    show Go p.tables e below _ (T6.setTop (mkF m 129 #[.val (.int p0), .val (.int p1), .val (.int p2), .val (.int p3), .val (.int (0 : Int32)), .val (.int x0), .val (.int x1), .val (.int x2), .val (.ref r1), .val (.ref r3), .val (.ref r6)] [(.int (1 : Int32)), (.int (0 : Int32))]))
    refine Go.by (fun _ => XS.icmpYes X6.here hx rfl (pc0 := 129) (pc' := 143) rfl (hb hby at_129) rfl (flt (by decide)).2.2.2 (by decide) (by decide)) ?_
    show Go p.tables e below _ (T6.setTop (mkF m 143 #[.val (.int p0), .val (.int p1), .val (.int p2), .val (.int p3), .val (.int (0 : Int32)), .val (.int x0), .val (.int x1), .val (.int x2), .val (.ref r1), .val (.ref r3), .val (.ref r6)] []))
    refine Go.by (fun _ => XS.iload X6.here hx rfl (hb hby at_143) rfl) ?_
    show Go p.tables e below _ (T6.setTop (mkF m 145 #[.val (.int p0), .val (.int p1), .val (.int p2), .val (.int p3), .val (.int (0 : Int32)), .val (.int x0), .val (.int x1), .val (.int x2), .val (.ref r1), .val (.ref r3), .val (.ref r6)] [(.int (0 : Int32))]))
    refine Go.by (fun _ => XS.iconst X6.here hx rfl (hb hby at_145)) ?_
    show Go p.tables e below _ (T6.setTop (mkF m 146 #[.val (.int p0), .val (.int p1), .val (.int p2), .val (.int p3), .val (.int (0 : Int32)), .val (.int x0), .val (.int x1), .val (.int x2), .val (.ref r1), .val (.ref r3), .val (.ref r6)] [(.int (2 : Int32)), (.int (0 : Int32))]))
    refine Go.by (fun _ => XS.icmpYes X6.here hx rfl (pc0 := 146) (pc' := 160) rfl (hb hby at_146) rfl (flt (by decide)).2.2.2 (by decide) (by decide)) ?_
    show Go p.tables e below _ (T6.setTop (mkF m 160 #[.val (.int p0), .val (.int p1), .val (.int p2), .val (.int p3), .val (.int (0 : Int32)), .val (.int x0), .val (.int x1), .val (.int x2), .val (.ref r1), .val (.ref r3), .val (.ref r6)] []))
    refine Go.by (fun _ => XS.iconst X6.here hx rfl (hb hby at_160)) ?_
    show Go p.tables e below _ (T6.setTop (mkF m 161 #[.val (.int p0), .val (.int p1), .val (.int p2), .val (.int p3), .val (.int (0 : Int32)), .val (.int x0), .val (.int x1), .val (.int x2), .val (.ref r1), .val (.ref r3), .val (.ref r6)] [(.int (1 : Int32))]))
    exact Go.retN X6 hx hlk (z' := (1 : Int32)) hret (by simp) (hb hby at_161) rfl (by decide) (by decide) rfl
  · rw [en]
    show Go p.tables e below _ (T0.setTop (mkF m 17 #[.val (.int p0), .val (.int p1), .val (.int p2), .val (.int p3), .val (.int (1 : Int32)), .val (.int x0), .val (.int x1), .val (.int x2), .unset, .unset, .unset] []))
    refine Go.by (fun _ => XS.iload X0.here hx rfl (hb hby at_17) rfl) ?_
    show Go p.tables e below _ (T0.setTop (mkF m 19 #[.val (.int p0), .val (.int p1), .val (.int p2), .val (.int p3), .val (.int (1 : Int32)), .val (.int x0), .val (.int x1), .val (.int x2), .unset, .unset, .unset] [(.int (1 : Int32))]))
    refine Go.by (fun _ => XS.iload X0.here hx rfl (hb hby at_19) rfl) ?_
    show Go p.tables e below _ (T0.setTop (mkF m 21 #[.val (.int p0), .val (.int p1), .val (.int p2), .val (.int p3), .val (.int (1 : Int32)), .val (.int x0), .val (.int x1), .val (.int x2), .unset, .unset, .unset] [(.int x0), (.int (1 : Int32))]))
    refine Go.by (fun _ => XS.iload X0.here hx rfl (hb hby at_21) rfl) ?_
    show Go p.tables e below _ (T0.setTop (mkF m 23 #[.val (.int p0), .val (.int p1), .val (.int p2), .val (.int p3), .val (.int (1 : Int32)), .val (.int x0), .val (.int x1), .val (.int x2), .unset, .unset, .unset] [(.int x1), (.int x0), (.int (1 : Int32))]))
    refine Go.by (fun _ => XS.iload X0.here hx rfl (hb hby at_23) rfl) ?_
    show Go p.tables e below _ (T0.setTop (mkF m 25 #[.val (.int p0), .val (.int p1), .val (.int p2), .val (.int p3), .val (.int (1 : Int32)), .val (.int x0), .val (.int x1), .val (.int x2), .unset, .unset, .unset] [(.int x2), (.int x1), (.int x0), (.int (1 : Int32))]))
    obtain ⟨v8, T8, h8, X8, q8, st8⟩ := X0.callS hx hZ (y := (⟨"com/example/istorie/istorie/BytesCopyOfPinLaw", "make", "(IBBB)[B"⟩ : MethodName)) hown (tw hw 0 rfl) (tw hw 1 rfl) (tw hw 2 rfl) (tw hw 3 rfl) (by decide) (rm1_1 l Z a0 hw [] x0 x1 x2 h0 n0 Z0 hb1 hb2 hb3) (g := (mkF m 25 #[.val (.int p0), .val (.int p1), .val (.int p2), .val (.int p3), .val (.int (1 : Int32)), .val (.int x0), .val (.int x1), .val (.int x2), .unset, .unset, .unset] [(.int x2), (.int x1), (.int x0), (.int (1 : Int32))])) rfl (by rw [hml]; rfl) (argsL := [(.int (1 : Int32)), (.int x0), (.int x1), (.int x2)]) (rest := []) (lenOf pd1 rfl) rfl (hb hby at_25) rfl (by decide) (Nat.le_of_ble_eq_true rfl) (k' := 1) (n' := 1) rfl rfl (by decide) (by decide)
    refine Go.by st8 ?_
    obtain ⟨r8, kc8, rfl, sr8, K8, Ex8, V8⟩ := q8
    have g_r8 : n0 ≤ r8 := Nat.le_trans Z0 sr8
    have Zs9 : n0 ≤ h8.size := Nat.le_trans Z0 (keep_ext K8).1
    show Go p.tables e below _ (T8.setTop (mkF m 28 #[.val (.int p0), .val (.int p1), .val (.int p2), .val (.int p3), .val (.int (1 : Int32)), .val (.int x0), .val (.int x1), .val (.int x2), .unset, .unset, .unset] [(.ref r8)]))
    refine Go.by (fun _ => XS.astore X8.here hx rfl (hb hby at_28) rfl rfl (l' := #[.val (.int p0), .val (.int p1), .val (.int p2), .val (.int p3), .val (.int (1 : Int32)), .val (.int x0), .val (.int x1), .val (.int x2), .val (.ref r8), .unset, .unset]) rfl) ?_
    show Go p.tables e below _ (T8.setTop (mkF m 30 #[.val (.int p0), .val (.int p1), .val (.int p2), .val (.int p3), .val (.int (1 : Int32)), .val (.int x0), .val (.int x1), .val (.int x2), .val (.ref r8), .unset, .unset] []))
    refine Go.by (fun _ => XS.aload X8.here hx rfl (hb hby at_30) rfl rfl) ?_
    show Go p.tables e below _ (T8.setTop (mkF m 32 #[.val (.int p0), .val (.int p1), .val (.int p2), .val (.int p3), .val (.int (1 : Int32)), .val (.int x0), .val (.int x1), .val (.int x2), .val (.ref r8), .unset, .unset] [(.ref r8)]))
    obtain ⟨v10, T10, h10, X10, q10, st10⟩ := X8.callS hx hZ (y := (⟨"com/example/istorie/istorie/Bytes", "copyOf", "([B)Lcom/example/istorie/istorie/Bytes;"⟩ : MethodName)) hown (tw hw 5 rfl) (tw hw 6 rfl) (tw hw 7 rfl) (tw hw 8 rfl) (by decide) (rm2 l Z a0 hw [] r8 kc8 1 (fun i => if i = 0 then (.int x0) else if i = 1 then (.int x1) else (.int x2)) h8 n0 Zs9 Ex8 V8 (by decide)) (g := (mkF m 32 #[.val (.int p0), .val (.int p1), .val (.int p2), .val (.int p3), .val (.int (1 : Int32)), .val (.int x0), .val (.int x1), .val (.int x2), .val (.ref r8), .unset, .unset] [(.ref r8)])) rfl (by rw [hml]; rfl) (argsL := [(.ref r8)]) (rest := []) (lenOf pd2 rfl) rfl (hb hby at_32) rfl (by decide) (Nat.le_of_ble_eq_true rfl) (k' := 3) (n' := 5) rfl rfl (by decide) (by decide)
    refine Go.by st10 ?_
    obtain ⟨r10, d10, rfl, sr10, sd10, K10, Ex10, Fc10, Ed10, V10⟩ := q10
    have g_r10 : n0 ≤ r10 := Nat.le_trans Zs9 sr10
    have ne_r8_r10 : r8 ≠ r10 := Nat.ne_of_lt (Nat.lt_of_lt_of_le Ex8.lt sr10)
    have g_d10 : n0 ≤ d10 := Nat.le_trans Zs9 sd10
    have ne_r8_d10 : r8 ≠ d10 := Nat.ne_of_lt (Nat.lt_of_lt_of_le Ex8.lt sd10)
    have f11_166 := Ex8.ext (keep_ext K10)
    have f11_167 := Avf.ext V8 (keep_ext K10)
    have Zs11 : n0 ≤ h10.size := Nat.le_trans Zs9 (keep_ext K10).1
    show Go p.tables e below _ (T10.setTop (mkF m 35 #[.val (.int p0), .val (.int p1), .val (.int p2), .val (.int p3), .val (.int (1 : Int32)), .val (.int x0), .val (.int x1), .val (.int x2), .val (.ref r8), .unset, .unset] [(.ref r10)]))
    refine Go.by (fun _ => XS.astore X10.here hx rfl (hb hby at_35) rfl rfl (l' := #[.val (.int p0), .val (.int p1), .val (.int p2), .val (.int p3), .val (.int (1 : Int32)), .val (.int x0), .val (.int x1), .val (.int x2), .val (.ref r8), .val (.ref r10), .unset]) rfl) ?_
    show Go p.tables e below _ (T10.setTop (mkF m 37 #[.val (.int p0), .val (.int p1), .val (.int p2), .val (.int p3), .val (.int (1 : Int32)), .val (.int x0), .val (.int x1), .val (.int x2), .val (.ref r8), .val (.ref r10), .unset] []))
    refine Go.by (fun _ => XS.iload X10.here hx rfl (hb hby at_37) rfl) ?_
    show Go p.tables e below _ (T10.setTop (mkF m 39 #[.val (.int p0), .val (.int p1), .val (.int p2), .val (.int p3), .val (.int (1 : Int32)), .val (.int x0), .val (.int x1), .val (.int x2), .val (.ref r8), .val (.ref r10), .unset] [(.int (1 : Int32))]))
    refine Go.by (fun _ => XS.ifNo X10.here hx rfl (hb hby at_39) rfl ((if0 _ _).trans (tlt (by decide)).2.2.2)) ?_
    show Go p.tables e below _ (T10.setTop (mkF m 42 #[.val (.int p0), .val (.int p1), .val (.int p2), .val (.int p3), .val (.int (1 : Int32)), .val (.int x0), .val (.int x1), .val (.int x2), .val (.ref r8), .val (.ref r10), .unset] []))
    refine Go.by (fun _ => XS.aload X10.here hx rfl (hb hby at_42) rfl rfl) ?_
    show Go p.tables e below _ (T10.setTop (mkF m 44 #[.val (.int p0), .val (.int p1), .val (.int p2), .val (.int p3), .val (.int (1 : Int32)), .val (.int x0), .val (.int x1), .val (.int x2), .val (.ref r8), .val (.ref r10), .unset] [(.ref r8)]))
    refine Go.by (fun _ => XS.iconst X10.here hx rfl (hb hby at_44)) ?_
    show Go p.tables e below _ (T10.setTop (mkF m 45 #[.val (.int p0), .val (.int p1), .val (.int p2), .val (.int p3), .val (.int (1 : Int32)), .val (.int x0), .val (.int x1), .val (.int x2), .val (.ref r8), .val (.ref r10), .unset] [(.int (0 : Int32)), (.ref r8)]))
    refine Go.by (fun _ => XS.iload X10.here hx rfl (hb hby at_45) rfl) ?_
    show Go p.tables e below _ (T10.setTop (mkF m 47 #[.val (.int p0), .val (.int p1), .val (.int p2), .val (.int p3), .val (.int (1 : Int32)), .val (.int x0), .val (.int x1), .val (.int x2), .val (.ref r8), .val (.ref r10), .unset] [(.int x0), (.int (0 : Int32)), (.ref r8)]))
    refine Go.by (fun _ => XS.iconst X10.here hx rfl (hb hby at_47)) ?_
    show Go p.tables e below _ (T10.setTop (mkF m 48 #[.val (.int p0), .val (.int p1), .val (.int p2), .val (.int p3), .val (.int (1 : Int32)), .val (.int x0), .val (.int x1), .val (.int x2), .val (.ref r8), .val (.ref r10), .unset] [(.int (-1 : Int32)), (.int x0), (.int (0 : Int32)), (.ref r8)]))
    refine Go.by (fun _ => XS.ixor X10.here hx rfl (hb hby at_48) rfl) ?_
    show Go p.tables e below _ (T10.setTop (mkF m 49 #[.val (.int p0), .val (.int p1), .val (.int p2), .val (.int p3), .val (.int (1 : Int32)), .val (.int x0), .val (.int x1), .val (.int x2), .val (.ref r8), .val (.ref r10), .unset] [(.int (x0 ^^^ (-1 : Int32))), (.int (0 : Int32)), (.ref r8)]))
    refine Go.by (fun _ => XS.i2b X10.here hx rfl (hb hby at_49) rfl) ?_
    show Go p.tables e below _ (T10.setTop (mkF m 50 #[.val (.int p0), .val (.int p1), .val (.int p2), .val (.int p3), .val (.int (1 : Int32)), .val (.int x0), .val (.int x1), .val (.int x2), .val (.ref r8), .val (.ref r10), .unset] [(.int ((x0 ^^^ (-1 : Int32)).toInt8.toInt32)), (.int (0 : Int32)), (.ref r8)]))
    obtain ⟨T12, h12, X12, W12, V12, st12⟩ := X10.stB hx hZ f11_167 g_r8 (by decide) (i := 0) rfl (by decide) (g := (mkF m 50 #[.val (.int p0), .val (.int p1), .val (.int p2), .val (.int p3), .val (.int (1 : Int32)), .val (.int x0), .val (.int x1), .val (.int x2), .val (.ref r8), .val (.ref r10), .unset] [(.int ((x0 ^^^ (-1 : Int32)).toInt8.toInt32)), (.int (0 : Int32)), (.ref r8)])) rfl rfl (hb hby at_50)
    have f13_189 := f11_166.wr W12
    have f13_190 := Ex10.wr W12
    have f13_191 := Fc10.other W12 (Or.inl (Ne.symm ne_r8_r10))
    have f13_192 := Ed10.wr W12
    have f13_193 := Avf.other V10 W12 (Ne.symm ne_r8_d10)
    have Zs13 : n0 ≤ h12.size := by rw [W12.size]; exact Zs11
    refine Go.by st12 ?_
    show Go p.tables e below _ (T12.setTop (mkF m 51 #[.val (.int p0), .val (.int p1), .val (.int p2), .val (.int p3), .val (.int (1 : Int32)), .val (.int x0), .val (.int x1), .val (.int x2), .val (.ref r8), .val (.ref r10), .unset] []))
    refine Go.by (fun _ => XS.iload X12.here hx rfl (hb hby at_51) rfl) ?_
    show Go p.tables e below _ (T12.setTop (mkF m 53 #[.val (.int p0), .val (.int p1), .val (.int p2), .val (.int p3), .val (.int (1 : Int32)), .val (.int x0), .val (.int x1), .val (.int x2), .val (.ref r8), .val (.ref r10), .unset] [(.int (1 : Int32))]))
    refine Go.by (fun _ => XS.iconst X12.here hx rfl (hb hby at_53)) ?_
    show Go p.tables e below _ (T12.setTop (mkF m 54 #[.val (.int p0), .val (.int p1), .val (.int p2), .val (.int p3), .val (.int (1 : Int32)), .val (.int x0), .val (.int x1), .val (.int x2), .val (.ref r8), .val (.ref r10), .unset] [(.int (1 : Int32)), (.int (1 : Int32))]))
    refine Go.by (fun _ => XS.icmpYes X12.here hx rfl (pc0 := 54) (pc' := 66) rfl (hb hby at_54) rfl (flt (by decide)).2.2.2 (by decide) (by decide)) ?_
    show Go p.tables e below _ (T12.setTop (mkF m 66 #[.val (.int p0), .val (.int p1), .val (.int p2), .val (.int p3), .val (.int (1 : Int32)), .val (.int x0), .val (.int x1), .val (.int x2), .val (.ref r8), .val (.ref r10), .unset] []))
    refine Go.by (fun _ => XS.iload X12.here hx rfl (hb hby at_66) rfl) ?_
    show Go p.tables e below _ (T12.setTop (mkF m 68 #[.val (.int p0), .val (.int p1), .val (.int p2), .val (.int p3), .val (.int (1 : Int32)), .val (.int x0), .val (.int x1), .val (.int x2), .val (.ref r8), .val (.ref r10), .unset] [(.int (1 : Int32))]))
    refine Go.by (fun _ => XS.iconst X12.here hx rfl (hb hby at_68)) ?_
    show Go p.tables e below _ (T12.setTop (mkF m 69 #[.val (.int p0), .val (.int p1), .val (.int p2), .val (.int p3), .val (.int (1 : Int32)), .val (.int x0), .val (.int x1), .val (.int x2), .val (.ref r8), .val (.ref r10), .unset] [(.int (2 : Int32)), (.int (1 : Int32))]))
    refine Go.by (fun _ => XS.icmpYes X12.here hx rfl (pc0 := 69) (pc' := 81) rfl (hb hby at_69) rfl (flt (by decide)).2.2.2 (by decide) (by decide)) ?_
    show Go p.tables e below _ (T12.setTop (mkF m 81 #[.val (.int p0), .val (.int p1), .val (.int p2), .val (.int p3), .val (.int (1 : Int32)), .val (.int x0), .val (.int x1), .val (.int x2), .val (.ref r8), .val (.ref r10), .unset] []))
    refine Go.by (fun _ => XS.aload X12.here hx rfl (hb hby at_81) rfl rfl) ?_
    show Go p.tables e below _ (T12.setTop (mkF m 83 #[.val (.int p0), .val (.int p1), .val (.int p2), .val (.int p3), .val (.int (1 : Int32)), .val (.int x0), .val (.int x1), .val (.int x2), .val (.ref r8), .val (.ref r10), .unset] [(.ref r10)]))
    obtain ⟨v14, T14, h14, X14, q14, st14⟩ := X12.callV hx hZ (y := (⟨"com/example/istorie/istorie/Bytes", "length", "()I"⟩ : MethodName)) (z := (⟨"com/example/istorie/istorie/Bytes", "length", "()I"⟩ : MethodName)) hown (tw hw 28 rfl) (tw hw 29 rfl) (notFace_of_selects (args := #[]) (mvT hZ (tw hw 31 rfl))) (tw hw 31 rfl) (tw hw 30 rfl) (tw hw 7 rfl) (tw hw 32 rfl) (by decide) (rm5 l Z a0 hw [] r10 d10 kc8 1 (fun i => if i = 0 then (.int x0) else if i = 1 then (.int x1) else (.int x2)) h12 n0 Zs13 f13_191 f13_193) f13_190 (g := (mkF m 83 #[.val (.int p0), .val (.int p1), .val (.int p2), .val (.int p3), .val (.int (1 : Int32)), .val (.int x0), .val (.int x1), .val (.int x2), .val (.ref r8), .val (.ref r10), .unset] [(.ref r10)])) rfl (by rw [hml]; rfl) (argsL := []) (rest := []) (lenOf pd3 rfl) rfl (hb hby at_83) rfl (by decide) (Nat.le_of_ble_eq_true rfl) (k' := 3) (n' := 5) rfl rfl (by decide) (by decide)
    refine Go.by st14 ?_
    obtain ⟨rfl, rfl⟩ := q14
    show Go p.tables e below _ (T14.setTop (mkF m 86 #[.val (.int p0), .val (.int p1), .val (.int p2), .val (.int p3), .val (.int (1 : Int32)), .val (.int x0), .val (.int x1), .val (.int x2), .val (.ref r8), .val (.ref r10), .unset] [(.int (1 : Int32))]))
    refine Go.by (fun _ => XS.iload X14.here hx rfl (hb hby at_86) rfl) ?_
    show Go p.tables e below _ (T14.setTop (mkF m 88 #[.val (.int p0), .val (.int p1), .val (.int p2), .val (.int p3), .val (.int (1 : Int32)), .val (.int x0), .val (.int x1), .val (.int x2), .val (.ref r8), .val (.ref r10), .unset] [(.int (1 : Int32)), (.int (1 : Int32))]))
    refine Go.by (fun _ => XS.icmpYes X14.here hx rfl (pc0 := 88) (pc' := 93) rfl (hb hby at_88) rfl (teq (by decide)).1 (by decide) (by decide)) ?_
    show Go p.tables e below _ (T14.setTop (mkF m 93 #[.val (.int p0), .val (.int p1), .val (.int p2), .val (.int p3), .val (.int (1 : Int32)), .val (.int x0), .val (.int x1), .val (.int x2), .val (.ref r8), .val (.ref r10), .unset] []))
    refine Go.by (fun _ => XS.aload X14.here hx rfl (hb hby at_93) rfl rfl) ?_
    show Go p.tables e below _ (T14.setTop (mkF m 95 #[.val (.int p0), .val (.int p1), .val (.int p2), .val (.int p3), .val (.int (1 : Int32)), .val (.int x0), .val (.int x1), .val (.int x2), .val (.ref r8), .val (.ref r10), .unset] [(.ref r10)]))
    obtain ⟨v15, T15, h15, X15, q15, st15⟩ := X14.callV hx hZ (y := (⟨"com/example/istorie/istorie/Bytes", "toByteArray", "()[B"⟩ : MethodName)) (z := (⟨"com/example/istorie/istorie/Bytes", "toByteArray", "()[B"⟩ : MethodName)) hown (tw hw 33 rfl) (tw hw 34 rfl) (notFace_of_selects (args := #[]) (mvT hZ (tw hw 36 rfl))) (tw hw 36 rfl) (tw hw 35 rfl) (tw hw 7 rfl) (tw hw 37 rfl) (by decide) (rm6 l Z a0 hw [] r10 d10 kc8 1 (fun i => if i = 0 then (.int x0) else if i = 1 then (.int x1) else (.int x2)) h12 n0 Zs13 f13_191 f13_193 f13_192 (by decide)) f13_190 (g := (mkF m 95 #[.val (.int p0), .val (.int p1), .val (.int p2), .val (.int p3), .val (.int (1 : Int32)), .val (.int x0), .val (.int x1), .val (.int x2), .val (.ref r8), .val (.ref r10), .unset] [(.ref r10)])) rfl (by rw [hml]; rfl) (argsL := []) (rest := []) (lenOf pd4 rfl) rfl (hb hby at_95) rfl (by decide) (Nat.le_of_ble_eq_true rfl) (k' := 4) (n' := 8) rfl rfl (by decide) (by decide)
    refine Go.by st15 ?_
    obtain ⟨r15, rfl, sr15, K15, V15⟩ := q15
    have g_r15 : n0 ≤ r15 := Nat.le_trans Zs13 sr15
    have ne_r8_r15 : r8 ≠ r15 := Nat.ne_of_lt (Nat.lt_of_lt_of_le f13_189.lt sr15)
    have ne_r10_r15 : r10 ≠ r15 := Nat.ne_of_lt (Nat.lt_of_lt_of_le f13_190.lt sr15)
    have ne_d10_r15 : d10 ≠ r15 := Nat.ne_of_lt (Nat.lt_of_lt_of_le f13_192.lt sr15)
    have f16_228 := f13_189.ext (keep_ext K15)
    have f16_229 := Avf.ext V12 (keep_ext K15)
    have f16_230 := f13_190.ext (keep_ext K15)
    have f16_231 := f13_191.ext (keep_ext K15)
    have f16_232 := f13_192.ext (keep_ext K15)
    have f16_233 := Avf.ext f13_193 (keep_ext K15)
    have Zs16 : n0 ≤ h15.size := Nat.le_trans Zs13 (keep_ext K15).1
    show Go p.tables e below _ (T15.setTop (mkF m 98 #[.val (.int p0), .val (.int p1), .val (.int p2), .val (.int p3), .val (.int (1 : Int32)), .val (.int x0), .val (.int x1), .val (.int x2), .val (.ref r8), .val (.ref r10), .unset] [(.ref r15)]))
    refine Go.by (fun _ => XS.astore X15.here hx rfl (hb hby at_98) rfl rfl (l' := #[.val (.int p0), .val (.int p1), .val (.int p2), .val (.int p3), .val (.int (1 : Int32)), .val (.int x0), .val (.int x1), .val (.int x2), .val (.ref r8), .val (.ref r10), .val (.ref r15)]) rfl) ?_
    show Go p.tables e below _ (T15.setTop (mkF m 100 #[.val (.int p0), .val (.int p1), .val (.int p2), .val (.int p3), .val (.int (1 : Int32)), .val (.int x0), .val (.int x1), .val (.int x2), .val (.ref r8), .val (.ref r10), .val (.ref r15)] []))
    refine Go.by (fun _ => XS.aload X15.here hx rfl (hb hby at_100) rfl rfl) ?_
    show Go p.tables e below _ (T15.setTop (mkF m 102 #[.val (.int p0), .val (.int p1), .val (.int p2), .val (.int p3), .val (.int (1 : Int32)), .val (.int x0), .val (.int x1), .val (.int x2), .val (.ref r8), .val (.ref r10), .val (.ref r15)] [(.ref r15)]))
    refine Go.by (X15.len hx hZ V15 (z := (1 : Int32)) rfl (g := (mkF m 102 #[.val (.int p0), .val (.int p1), .val (.int p2), .val (.int p3), .val (.int (1 : Int32)), .val (.int x0), .val (.int x1), .val (.int x2), .val (.ref r8), .val (.ref r10), .val (.ref r15)] [(.ref r15)])) rfl rfl (hb hby at_102)) ?_
    show Go p.tables e below _ (T15.setTop (mkF m 103 #[.val (.int p0), .val (.int p1), .val (.int p2), .val (.int p3), .val (.int (1 : Int32)), .val (.int x0), .val (.int x1), .val (.int x2), .val (.ref r8), .val (.ref r10), .val (.ref r15)] [(.int (1 : Int32))]))
    refine Go.by (fun _ => XS.iload X15.here hx rfl (hb hby at_103) rfl) ?_
    show Go p.tables e below _ (T15.setTop (mkF m 105 #[.val (.int p0), .val (.int p1), .val (.int p2), .val (.int p3), .val (.int (1 : Int32)), .val (.int x0), .val (.int x1), .val (.int x2), .val (.ref r8), .val (.ref r10), .val (.ref r15)] [(.int (1 : Int32)), (.int (1 : Int32))]))
    refine Go.by (fun _ => XS.icmpYes X15.here hx rfl (pc0 := 105) (pc' := 110) rfl (hb hby at_105) rfl (teq (by decide)).1 (by decide) (by decide)) ?_
    show Go p.tables e below _ (T15.setTop (mkF m 110 #[.val (.int p0), .val (.int p1), .val (.int p2), .val (.int p3), .val (.int (1 : Int32)), .val (.int x0), .val (.int x1), .val (.int x2), .val (.ref r8), .val (.ref r10), .val (.ref r15)] []))
    refine Go.by (fun _ => XS.iload X15.here hx rfl (hb hby at_110) rfl) ?_
    show Go p.tables e below _ (T15.setTop (mkF m 112 #[.val (.int p0), .val (.int p1), .val (.int p2), .val (.int p3), .val (.int (1 : Int32)), .val (.int x0), .val (.int x1), .val (.int x2), .val (.ref r8), .val (.ref r10), .val (.ref r15)] [(.int (1 : Int32))]))
    refine Go.by (fun _ => XS.ifNo X15.here hx rfl (hb hby at_112) rfl ((if0 _ _).trans (tlt (by decide)).2.2.2)) ?_
    show Go p.tables e below _ (T15.setTop (mkF m 115 #[.val (.int p0), .val (.int p1), .val (.int p2), .val (.int p3), .val (.int (1 : Int32)), .val (.int x0), .val (.int x1), .val (.int x2), .val (.ref r8), .val (.ref r10), .val (.ref r15)] []))
    refine Go.by (fun _ => XS.aload X15.here hx rfl (hb hby at_115) rfl rfl) ?_
    show Go p.tables e below _ (T15.setTop (mkF m 117 #[.val (.int p0), .val (.int p1), .val (.int p2), .val (.int p3), .val (.int (1 : Int32)), .val (.int x0), .val (.int x1), .val (.int x2), .val (.ref r8), .val (.ref r10), .val (.ref r15)] [(.ref r15)]))
    refine Go.by (fun _ => XS.iconst X15.here hx rfl (hb hby at_117)) ?_
    show Go p.tables e below _ (T15.setTop (mkF m 118 #[.val (.int p0), .val (.int p1), .val (.int p2), .val (.int p3), .val (.int (1 : Int32)), .val (.int x0), .val (.int x1), .val (.int x2), .val (.ref r8), .val (.ref r10), .val (.ref r15)] [(.int (0 : Int32)), (.ref r15)]))
    refine Go.by (X15.ldB hx hZ V15 (by decide) (i := 0) rfl (by decide) (v := (.int x0)) rfl (g := (mkF m 118 #[.val (.int p0), .val (.int p1), .val (.int p2), .val (.int p3), .val (.int (1 : Int32)), .val (.int x0), .val (.int x1), .val (.int x2), .val (.ref r8), .val (.ref r10), .val (.ref r15)] [(.int (0 : Int32)), (.ref r15)])) rfl rfl (hb hby at_118)) ?_
    show Go p.tables e below _ (T15.setTop (mkF m 119 #[.val (.int p0), .val (.int p1), .val (.int p2), .val (.int p3), .val (.int (1 : Int32)), .val (.int x0), .val (.int x1), .val (.int x2), .val (.ref r8), .val (.ref r10), .val (.ref r15)] [(.int x0)]))
    refine Go.by (fun _ => XS.iload X15.here hx rfl (hb hby at_119) rfl) ?_
    show Go p.tables e below _ (T15.setTop (mkF m 121 #[.val (.int p0), .val (.int p1), .val (.int p2), .val (.int p3), .val (.int (1 : Int32)), .val (.int x0), .val (.int x1), .val (.int x2), .val (.ref r8), .val (.ref r10), .val (.ref r15)] [(.int x0), (.int x0)]))
    refine Go.by (fun _ => XS.icmpYes X15.here hx rfl (pc0 := 121) (pc' := 126) rfl (hb hby at_121) rfl (teq rfl).1 (by decide) (by decide)) ?_
    show Go p.tables e below _ (T15.setTop (mkF m 126 #[.val (.int p0), .val (.int p1), .val (.int p2), .val (.int p3), .val (.int (1 : Int32)), .val (.int x0), .val (.int x1), .val (.int x2), .val (.ref r8), .val (.ref r10), .val (.ref r15)] []))
    refine Go.by (fun _ => XS.iload X15.here hx rfl (hb hby at_126) rfl) ?_
    show Go p.tables e below _ (T15.setTop (mkF m 128 #[.val (.int p0), .val (.int p1), .val (.int p2), .val (.int p3), .val (.int (1 : Int32)), .val (.int x0), .val (.int x1), .val (.int x2), .val (.ref r8), .val (.ref r10), .val (.ref r15)] [(.int (1 : Int32))]))
    refine Go.by (fun _ => XS.iconst X15.here hx rfl (hb hby at_128)) ?_
    show Go p.tables e below _ (T15.setTop (mkF m 129 #[.val (.int p0), .val (.int p1), .val (.int p2), .val (.int p3), .val (.int (1 : Int32)), .val (.int x0), .val (.int x1), .val (.int x2), .val (.ref r8), .val (.ref r10), .val (.ref r15)] [(.int (1 : Int32)), (.int (1 : Int32))]))
    refine Go.by (fun _ => XS.icmpYes X15.here hx rfl (pc0 := 129) (pc' := 143) rfl (hb hby at_129) rfl (flt (by decide)).2.2.2 (by decide) (by decide)) ?_
    show Go p.tables e below _ (T15.setTop (mkF m 143 #[.val (.int p0), .val (.int p1), .val (.int p2), .val (.int p3), .val (.int (1 : Int32)), .val (.int x0), .val (.int x1), .val (.int x2), .val (.ref r8), .val (.ref r10), .val (.ref r15)] []))
    refine Go.by (fun _ => XS.iload X15.here hx rfl (hb hby at_143) rfl) ?_
    show Go p.tables e below _ (T15.setTop (mkF m 145 #[.val (.int p0), .val (.int p1), .val (.int p2), .val (.int p3), .val (.int (1 : Int32)), .val (.int x0), .val (.int x1), .val (.int x2), .val (.ref r8), .val (.ref r10), .val (.ref r15)] [(.int (1 : Int32))]))
    refine Go.by (fun _ => XS.iconst X15.here hx rfl (hb hby at_145)) ?_
    show Go p.tables e below _ (T15.setTop (mkF m 146 #[.val (.int p0), .val (.int p1), .val (.int p2), .val (.int p3), .val (.int (1 : Int32)), .val (.int x0), .val (.int x1), .val (.int x2), .val (.ref r8), .val (.ref r10), .val (.ref r15)] [(.int (2 : Int32)), (.int (1 : Int32))]))
    refine Go.by (fun _ => XS.icmpYes X15.here hx rfl (pc0 := 146) (pc' := 160) rfl (hb hby at_146) rfl (flt (by decide)).2.2.2 (by decide) (by decide)) ?_
    show Go p.tables e below _ (T15.setTop (mkF m 160 #[.val (.int p0), .val (.int p1), .val (.int p2), .val (.int p3), .val (.int (1 : Int32)), .val (.int x0), .val (.int x1), .val (.int x2), .val (.ref r8), .val (.ref r10), .val (.ref r15)] []))
    refine Go.by (fun _ => XS.iconst X15.here hx rfl (hb hby at_160)) ?_
    show Go p.tables e below _ (T15.setTop (mkF m 161 #[.val (.int p0), .val (.int p1), .val (.int p2), .val (.int p3), .val (.int (1 : Int32)), .val (.int x0), .val (.int x1), .val (.int x2), .val (.ref r8), .val (.ref r10), .val (.ref r15)] [(.int (1 : Int32))]))
    exact Go.retN X15 hx hlk (z' := (1 : Int32)) hret (by simp) (hb hby at_161) rfl (by decide) (by decide) rfl
  · rw [en]
    show Go p.tables e below _ (T0.setTop (mkF m 17 #[.val (.int p0), .val (.int p1), .val (.int p2), .val (.int p3), .val (.int (2 : Int32)), .val (.int x0), .val (.int x1), .val (.int x2), .unset, .unset, .unset] []))
    refine Go.by (fun _ => XS.iload X0.here hx rfl (hb hby at_17) rfl) ?_
    show Go p.tables e below _ (T0.setTop (mkF m 19 #[.val (.int p0), .val (.int p1), .val (.int p2), .val (.int p3), .val (.int (2 : Int32)), .val (.int x0), .val (.int x1), .val (.int x2), .unset, .unset, .unset] [(.int (2 : Int32))]))
    refine Go.by (fun _ => XS.iload X0.here hx rfl (hb hby at_19) rfl) ?_
    show Go p.tables e below _ (T0.setTop (mkF m 21 #[.val (.int p0), .val (.int p1), .val (.int p2), .val (.int p3), .val (.int (2 : Int32)), .val (.int x0), .val (.int x1), .val (.int x2), .unset, .unset, .unset] [(.int x0), (.int (2 : Int32))]))
    refine Go.by (fun _ => XS.iload X0.here hx rfl (hb hby at_21) rfl) ?_
    show Go p.tables e below _ (T0.setTop (mkF m 23 #[.val (.int p0), .val (.int p1), .val (.int p2), .val (.int p3), .val (.int (2 : Int32)), .val (.int x0), .val (.int x1), .val (.int x2), .unset, .unset, .unset] [(.int x1), (.int x0), (.int (2 : Int32))]))
    refine Go.by (fun _ => XS.iload X0.here hx rfl (hb hby at_23) rfl) ?_
    show Go p.tables e below _ (T0.setTop (mkF m 25 #[.val (.int p0), .val (.int p1), .val (.int p2), .val (.int p3), .val (.int (2 : Int32)), .val (.int x0), .val (.int x1), .val (.int x2), .unset, .unset, .unset] [(.int x2), (.int x1), (.int x0), (.int (2 : Int32))]))
    obtain ⟨v17, T17, h17, X17, q17, st17⟩ := X0.callS hx hZ (y := (⟨"com/example/istorie/istorie/BytesCopyOfPinLaw", "make", "(IBBB)[B"⟩ : MethodName)) hown (tw hw 0 rfl) (tw hw 1 rfl) (tw hw 2 rfl) (tw hw 3 rfl) (by decide) (rm1_2 l Z a0 hw [] x0 x1 x2 h0 n0 Z0 hb1 hb2 hb3) (g := (mkF m 25 #[.val (.int p0), .val (.int p1), .val (.int p2), .val (.int p3), .val (.int (2 : Int32)), .val (.int x0), .val (.int x1), .val (.int x2), .unset, .unset, .unset] [(.int x2), (.int x1), (.int x0), (.int (2 : Int32))])) rfl (by rw [hml]; rfl) (argsL := [(.int (2 : Int32)), (.int x0), (.int x1), (.int x2)]) (rest := []) (lenOf pd1 rfl) rfl (hb hby at_25) rfl (by decide) (Nat.le_of_ble_eq_true rfl) (k' := 1) (n' := 2) rfl rfl (by decide) (by decide)
    refine Go.by st17 ?_
    obtain ⟨r17, kc17, rfl, sr17, K17, Ex17, V17⟩ := q17
    have g_r17 : n0 ≤ r17 := Nat.le_trans Z0 sr17
    have Zs18 : n0 ≤ h17.size := Nat.le_trans Z0 (keep_ext K17).1
    show Go p.tables e below _ (T17.setTop (mkF m 28 #[.val (.int p0), .val (.int p1), .val (.int p2), .val (.int p3), .val (.int (2 : Int32)), .val (.int x0), .val (.int x1), .val (.int x2), .unset, .unset, .unset] [(.ref r17)]))
    refine Go.by (fun _ => XS.astore X17.here hx rfl (hb hby at_28) rfl rfl (l' := #[.val (.int p0), .val (.int p1), .val (.int p2), .val (.int p3), .val (.int (2 : Int32)), .val (.int x0), .val (.int x1), .val (.int x2), .val (.ref r17), .unset, .unset]) rfl) ?_
    show Go p.tables e below _ (T17.setTop (mkF m 30 #[.val (.int p0), .val (.int p1), .val (.int p2), .val (.int p3), .val (.int (2 : Int32)), .val (.int x0), .val (.int x1), .val (.int x2), .val (.ref r17), .unset, .unset] []))
    refine Go.by (fun _ => XS.aload X17.here hx rfl (hb hby at_30) rfl rfl) ?_
    show Go p.tables e below _ (T17.setTop (mkF m 32 #[.val (.int p0), .val (.int p1), .val (.int p2), .val (.int p3), .val (.int (2 : Int32)), .val (.int x0), .val (.int x1), .val (.int x2), .val (.ref r17), .unset, .unset] [(.ref r17)]))
    obtain ⟨v19, T19, h19, X19, q19, st19⟩ := X17.callS hx hZ (y := (⟨"com/example/istorie/istorie/Bytes", "copyOf", "([B)Lcom/example/istorie/istorie/Bytes;"⟩ : MethodName)) hown (tw hw 5 rfl) (tw hw 6 rfl) (tw hw 7 rfl) (tw hw 8 rfl) (by decide) (rm2 l Z a0 hw [] r17 kc17 2 (fun i => if i = 0 then (.int x0) else if i = 1 then (.int x1) else (.int x2)) h17 n0 Zs18 Ex17 V17 (by decide)) (g := (mkF m 32 #[.val (.int p0), .val (.int p1), .val (.int p2), .val (.int p3), .val (.int (2 : Int32)), .val (.int x0), .val (.int x1), .val (.int x2), .val (.ref r17), .unset, .unset] [(.ref r17)])) rfl (by rw [hml]; rfl) (argsL := [(.ref r17)]) (rest := []) (lenOf pd2 rfl) rfl (hb hby at_32) rfl (by decide) (Nat.le_of_ble_eq_true rfl) (k' := 3) (n' := 6) rfl rfl (by decide) (by decide)
    refine Go.by st19 ?_
    obtain ⟨r19, d19, rfl, sr19, sd19, K19, Ex19, Fc19, Ed19, V19⟩ := q19
    have g_r19 : n0 ≤ r19 := Nat.le_trans Zs18 sr19
    have ne_r17_r19 : r17 ≠ r19 := Nat.ne_of_lt (Nat.lt_of_lt_of_le Ex17.lt sr19)
    have g_d19 : n0 ≤ d19 := Nat.le_trans Zs18 sd19
    have ne_r17_d19 : r17 ≠ d19 := Nat.ne_of_lt (Nat.lt_of_lt_of_le Ex17.lt sd19)
    have f20_302 := Ex17.ext (keep_ext K19)
    have f20_303 := Avf.ext V17 (keep_ext K19)
    have Zs20 : n0 ≤ h19.size := Nat.le_trans Zs18 (keep_ext K19).1
    show Go p.tables e below _ (T19.setTop (mkF m 35 #[.val (.int p0), .val (.int p1), .val (.int p2), .val (.int p3), .val (.int (2 : Int32)), .val (.int x0), .val (.int x1), .val (.int x2), .val (.ref r17), .unset, .unset] [(.ref r19)]))
    refine Go.by (fun _ => XS.astore X19.here hx rfl (hb hby at_35) rfl rfl (l' := #[.val (.int p0), .val (.int p1), .val (.int p2), .val (.int p3), .val (.int (2 : Int32)), .val (.int x0), .val (.int x1), .val (.int x2), .val (.ref r17), .val (.ref r19), .unset]) rfl) ?_
    show Go p.tables e below _ (T19.setTop (mkF m 37 #[.val (.int p0), .val (.int p1), .val (.int p2), .val (.int p3), .val (.int (2 : Int32)), .val (.int x0), .val (.int x1), .val (.int x2), .val (.ref r17), .val (.ref r19), .unset] []))
    refine Go.by (fun _ => XS.iload X19.here hx rfl (hb hby at_37) rfl) ?_
    show Go p.tables e below _ (T19.setTop (mkF m 39 #[.val (.int p0), .val (.int p1), .val (.int p2), .val (.int p3), .val (.int (2 : Int32)), .val (.int x0), .val (.int x1), .val (.int x2), .val (.ref r17), .val (.ref r19), .unset] [(.int (2 : Int32))]))
    refine Go.by (fun _ => XS.ifNo X19.here hx rfl (hb hby at_39) rfl ((if0 _ _).trans (tlt (by decide)).2.2.2)) ?_
    show Go p.tables e below _ (T19.setTop (mkF m 42 #[.val (.int p0), .val (.int p1), .val (.int p2), .val (.int p3), .val (.int (2 : Int32)), .val (.int x0), .val (.int x1), .val (.int x2), .val (.ref r17), .val (.ref r19), .unset] []))
    refine Go.by (fun _ => XS.aload X19.here hx rfl (hb hby at_42) rfl rfl) ?_
    show Go p.tables e below _ (T19.setTop (mkF m 44 #[.val (.int p0), .val (.int p1), .val (.int p2), .val (.int p3), .val (.int (2 : Int32)), .val (.int x0), .val (.int x1), .val (.int x2), .val (.ref r17), .val (.ref r19), .unset] [(.ref r17)]))
    refine Go.by (fun _ => XS.iconst X19.here hx rfl (hb hby at_44)) ?_
    show Go p.tables e below _ (T19.setTop (mkF m 45 #[.val (.int p0), .val (.int p1), .val (.int p2), .val (.int p3), .val (.int (2 : Int32)), .val (.int x0), .val (.int x1), .val (.int x2), .val (.ref r17), .val (.ref r19), .unset] [(.int (0 : Int32)), (.ref r17)]))
    refine Go.by (fun _ => XS.iload X19.here hx rfl (hb hby at_45) rfl) ?_
    show Go p.tables e below _ (T19.setTop (mkF m 47 #[.val (.int p0), .val (.int p1), .val (.int p2), .val (.int p3), .val (.int (2 : Int32)), .val (.int x0), .val (.int x1), .val (.int x2), .val (.ref r17), .val (.ref r19), .unset] [(.int x0), (.int (0 : Int32)), (.ref r17)]))
    refine Go.by (fun _ => XS.iconst X19.here hx rfl (hb hby at_47)) ?_
    show Go p.tables e below _ (T19.setTop (mkF m 48 #[.val (.int p0), .val (.int p1), .val (.int p2), .val (.int p3), .val (.int (2 : Int32)), .val (.int x0), .val (.int x1), .val (.int x2), .val (.ref r17), .val (.ref r19), .unset] [(.int (-1 : Int32)), (.int x0), (.int (0 : Int32)), (.ref r17)]))
    refine Go.by (fun _ => XS.ixor X19.here hx rfl (hb hby at_48) rfl) ?_
    show Go p.tables e below _ (T19.setTop (mkF m 49 #[.val (.int p0), .val (.int p1), .val (.int p2), .val (.int p3), .val (.int (2 : Int32)), .val (.int x0), .val (.int x1), .val (.int x2), .val (.ref r17), .val (.ref r19), .unset] [(.int (x0 ^^^ (-1 : Int32))), (.int (0 : Int32)), (.ref r17)]))
    refine Go.by (fun _ => XS.i2b X19.here hx rfl (hb hby at_49) rfl) ?_
    show Go p.tables e below _ (T19.setTop (mkF m 50 #[.val (.int p0), .val (.int p1), .val (.int p2), .val (.int p3), .val (.int (2 : Int32)), .val (.int x0), .val (.int x1), .val (.int x2), .val (.ref r17), .val (.ref r19), .unset] [(.int ((x0 ^^^ (-1 : Int32)).toInt8.toInt32)), (.int (0 : Int32)), (.ref r17)]))
    obtain ⟨T21, h21, X21, W21, V21, st21⟩ := X19.stB hx hZ f20_303 g_r17 (by decide) (i := 0) rfl (by decide) (g := (mkF m 50 #[.val (.int p0), .val (.int p1), .val (.int p2), .val (.int p3), .val (.int (2 : Int32)), .val (.int x0), .val (.int x1), .val (.int x2), .val (.ref r17), .val (.ref r19), .unset] [(.int ((x0 ^^^ (-1 : Int32)).toInt8.toInt32)), (.int (0 : Int32)), (.ref r17)])) rfl rfl (hb hby at_50)
    have f22_325 := f20_302.wr W21
    have f22_326 := Ex19.wr W21
    have f22_327 := Fc19.other W21 (Or.inl (Ne.symm ne_r17_r19))
    have f22_328 := Ed19.wr W21
    have f22_329 := Avf.other V19 W21 (Ne.symm ne_r17_d19)
    have Zs22 : n0 ≤ h21.size := by rw [W21.size]; exact Zs20
    refine Go.by st21 ?_
    show Go p.tables e below _ (T21.setTop (mkF m 51 #[.val (.int p0), .val (.int p1), .val (.int p2), .val (.int p3), .val (.int (2 : Int32)), .val (.int x0), .val (.int x1), .val (.int x2), .val (.ref r17), .val (.ref r19), .unset] []))
    refine Go.by (fun _ => XS.iload X21.here hx rfl (hb hby at_51) rfl) ?_
    show Go p.tables e below _ (T21.setTop (mkF m 53 #[.val (.int p0), .val (.int p1), .val (.int p2), .val (.int p3), .val (.int (2 : Int32)), .val (.int x0), .val (.int x1), .val (.int x2), .val (.ref r17), .val (.ref r19), .unset] [(.int (2 : Int32))]))
    refine Go.by (fun _ => XS.iconst X21.here hx rfl (hb hby at_53)) ?_
    show Go p.tables e below _ (T21.setTop (mkF m 54 #[.val (.int p0), .val (.int p1), .val (.int p2), .val (.int p3), .val (.int (2 : Int32)), .val (.int x0), .val (.int x1), .val (.int x2), .val (.ref r17), .val (.ref r19), .unset] [(.int (1 : Int32)), (.int (2 : Int32))]))
    refine Go.by (fun _ => XS.icmpNo X21.here hx rfl (hb hby at_54) rfl (tlt (by decide)).2.2.2) ?_
    show Go p.tables e below _ (T21.setTop (mkF m 57 #[.val (.int p0), .val (.int p1), .val (.int p2), .val (.int p3), .val (.int (2 : Int32)), .val (.int x0), .val (.int x1), .val (.int x2), .val (.ref r17), .val (.ref r19), .unset] []))
    refine Go.by (fun _ => XS.aload X21.here hx rfl (hb hby at_57) rfl rfl) ?_
    show Go p.tables e below _ (T21.setTop (mkF m 59 #[.val (.int p0), .val (.int p1), .val (.int p2), .val (.int p3), .val (.int (2 : Int32)), .val (.int x0), .val (.int x1), .val (.int x2), .val (.ref r17), .val (.ref r19), .unset] [(.ref r17)]))
    refine Go.by (fun _ => XS.iconst X21.here hx rfl (hb hby at_59)) ?_
    show Go p.tables e below _ (T21.setTop (mkF m 60 #[.val (.int p0), .val (.int p1), .val (.int p2), .val (.int p3), .val (.int (2 : Int32)), .val (.int x0), .val (.int x1), .val (.int x2), .val (.ref r17), .val (.ref r19), .unset] [(.int (1 : Int32)), (.ref r17)]))
    refine Go.by (fun _ => XS.iload X21.here hx rfl (hb hby at_60) rfl) ?_
    show Go p.tables e below _ (T21.setTop (mkF m 62 #[.val (.int p0), .val (.int p1), .val (.int p2), .val (.int p3), .val (.int (2 : Int32)), .val (.int x0), .val (.int x1), .val (.int x2), .val (.ref r17), .val (.ref r19), .unset] [(.int x1), (.int (1 : Int32)), (.ref r17)]))
    refine Go.by (fun _ => XS.iconst X21.here hx rfl (hb hby at_62)) ?_
    show Go p.tables e below _ (T21.setTop (mkF m 63 #[.val (.int p0), .val (.int p1), .val (.int p2), .val (.int p3), .val (.int (2 : Int32)), .val (.int x0), .val (.int x1), .val (.int x2), .val (.ref r17), .val (.ref r19), .unset] [(.int (-1 : Int32)), (.int x1), (.int (1 : Int32)), (.ref r17)]))
    refine Go.by (fun _ => XS.ixor X21.here hx rfl (hb hby at_63) rfl) ?_
    show Go p.tables e below _ (T21.setTop (mkF m 64 #[.val (.int p0), .val (.int p1), .val (.int p2), .val (.int p3), .val (.int (2 : Int32)), .val (.int x0), .val (.int x1), .val (.int x2), .val (.ref r17), .val (.ref r19), .unset] [(.int (x1 ^^^ (-1 : Int32))), (.int (1 : Int32)), (.ref r17)]))
    refine Go.by (fun _ => XS.i2b X21.here hx rfl (hb hby at_64) rfl) ?_
    show Go p.tables e below _ (T21.setTop (mkF m 65 #[.val (.int p0), .val (.int p1), .val (.int p2), .val (.int p3), .val (.int (2 : Int32)), .val (.int x0), .val (.int x1), .val (.int x2), .val (.ref r17), .val (.ref r19), .unset] [(.int ((x1 ^^^ (-1 : Int32)).toInt8.toInt32)), (.int (1 : Int32)), (.ref r17)]))
    obtain ⟨T23, h23, X23, W23, V23, st23⟩ := X21.stB hx hZ V21 g_r17 (by decide) (i := 1) rfl (by decide) (g := (mkF m 65 #[.val (.int p0), .val (.int p1), .val (.int p2), .val (.int p3), .val (.int (2 : Int32)), .val (.int x0), .val (.int x1), .val (.int x2), .val (.ref r17), .val (.ref r19), .unset] [(.int ((x1 ^^^ (-1 : Int32)).toInt8.toInt32)), (.int (1 : Int32)), (.ref r17)])) rfl rfl (hb hby at_65)
    have f24_352 := f22_325.wr W23
    have f24_353 := f22_326.wr W23
    have f24_354 := f22_327.other W23 (Or.inl (Ne.symm ne_r17_r19))
    have f24_355 := f22_328.wr W23
    have f24_356 := Avf.other f22_329 W23 (Ne.symm ne_r17_d19)
    have Zs24 : n0 ≤ h23.size := by rw [W23.size]; exact Zs22
    refine Go.by st23 ?_
    show Go p.tables e below _ (T23.setTop (mkF m 66 #[.val (.int p0), .val (.int p1), .val (.int p2), .val (.int p3), .val (.int (2 : Int32)), .val (.int x0), .val (.int x1), .val (.int x2), .val (.ref r17), .val (.ref r19), .unset] []))
    refine Go.by (fun _ => XS.iload X23.here hx rfl (hb hby at_66) rfl) ?_
    show Go p.tables e below _ (T23.setTop (mkF m 68 #[.val (.int p0), .val (.int p1), .val (.int p2), .val (.int p3), .val (.int (2 : Int32)), .val (.int x0), .val (.int x1), .val (.int x2), .val (.ref r17), .val (.ref r19), .unset] [(.int (2 : Int32))]))
    refine Go.by (fun _ => XS.iconst X23.here hx rfl (hb hby at_68)) ?_
    show Go p.tables e below _ (T23.setTop (mkF m 69 #[.val (.int p0), .val (.int p1), .val (.int p2), .val (.int p3), .val (.int (2 : Int32)), .val (.int x0), .val (.int x1), .val (.int x2), .val (.ref r17), .val (.ref r19), .unset] [(.int (2 : Int32)), (.int (2 : Int32))]))
    refine Go.by (fun _ => XS.icmpYes X23.here hx rfl (pc0 := 69) (pc' := 81) rfl (hb hby at_69) rfl (flt (by decide)).2.2.2 (by decide) (by decide)) ?_
    show Go p.tables e below _ (T23.setTop (mkF m 81 #[.val (.int p0), .val (.int p1), .val (.int p2), .val (.int p3), .val (.int (2 : Int32)), .val (.int x0), .val (.int x1), .val (.int x2), .val (.ref r17), .val (.ref r19), .unset] []))
    refine Go.by (fun _ => XS.aload X23.here hx rfl (hb hby at_81) rfl rfl) ?_
    show Go p.tables e below _ (T23.setTop (mkF m 83 #[.val (.int p0), .val (.int p1), .val (.int p2), .val (.int p3), .val (.int (2 : Int32)), .val (.int x0), .val (.int x1), .val (.int x2), .val (.ref r17), .val (.ref r19), .unset] [(.ref r19)]))
    obtain ⟨v25, T25, h25, X25, q25, st25⟩ := X23.callV hx hZ (y := (⟨"com/example/istorie/istorie/Bytes", "length", "()I"⟩ : MethodName)) (z := (⟨"com/example/istorie/istorie/Bytes", "length", "()I"⟩ : MethodName)) hown (tw hw 28 rfl) (tw hw 29 rfl) (notFace_of_selects (args := #[]) (mvT hZ (tw hw 31 rfl))) (tw hw 31 rfl) (tw hw 30 rfl) (tw hw 7 rfl) (tw hw 32 rfl) (by decide) (rm5 l Z a0 hw [] r19 d19 kc17 2 (fun i => if i = 0 then (.int x0) else if i = 1 then (.int x1) else (.int x2)) h23 n0 Zs24 f24_354 f24_356) f24_353 (g := (mkF m 83 #[.val (.int p0), .val (.int p1), .val (.int p2), .val (.int p3), .val (.int (2 : Int32)), .val (.int x0), .val (.int x1), .val (.int x2), .val (.ref r17), .val (.ref r19), .unset] [(.ref r19)])) rfl (by rw [hml]; rfl) (argsL := []) (rest := []) (lenOf pd3 rfl) rfl (hb hby at_83) rfl (by decide) (Nat.le_of_ble_eq_true rfl) (k' := 3) (n' := 6) rfl rfl (by decide) (by decide)
    refine Go.by st25 ?_
    obtain ⟨rfl, rfl⟩ := q25
    show Go p.tables e below _ (T25.setTop (mkF m 86 #[.val (.int p0), .val (.int p1), .val (.int p2), .val (.int p3), .val (.int (2 : Int32)), .val (.int x0), .val (.int x1), .val (.int x2), .val (.ref r17), .val (.ref r19), .unset] [(.int (2 : Int32))]))
    refine Go.by (fun _ => XS.iload X25.here hx rfl (hb hby at_86) rfl) ?_
    show Go p.tables e below _ (T25.setTop (mkF m 88 #[.val (.int p0), .val (.int p1), .val (.int p2), .val (.int p3), .val (.int (2 : Int32)), .val (.int x0), .val (.int x1), .val (.int x2), .val (.ref r17), .val (.ref r19), .unset] [(.int (2 : Int32)), (.int (2 : Int32))]))
    refine Go.by (fun _ => XS.icmpYes X25.here hx rfl (pc0 := 88) (pc' := 93) rfl (hb hby at_88) rfl (teq (by decide)).1 (by decide) (by decide)) ?_
    show Go p.tables e below _ (T25.setTop (mkF m 93 #[.val (.int p0), .val (.int p1), .val (.int p2), .val (.int p3), .val (.int (2 : Int32)), .val (.int x0), .val (.int x1), .val (.int x2), .val (.ref r17), .val (.ref r19), .unset] []))
    refine Go.by (fun _ => XS.aload X25.here hx rfl (hb hby at_93) rfl rfl) ?_
    show Go p.tables e below _ (T25.setTop (mkF m 95 #[.val (.int p0), .val (.int p1), .val (.int p2), .val (.int p3), .val (.int (2 : Int32)), .val (.int x0), .val (.int x1), .val (.int x2), .val (.ref r17), .val (.ref r19), .unset] [(.ref r19)]))
    obtain ⟨v26, T26, h26, X26, q26, st26⟩ := X25.callV hx hZ (y := (⟨"com/example/istorie/istorie/Bytes", "toByteArray", "()[B"⟩ : MethodName)) (z := (⟨"com/example/istorie/istorie/Bytes", "toByteArray", "()[B"⟩ : MethodName)) hown (tw hw 33 rfl) (tw hw 34 rfl) (notFace_of_selects (args := #[]) (mvT hZ (tw hw 36 rfl))) (tw hw 36 rfl) (tw hw 35 rfl) (tw hw 7 rfl) (tw hw 37 rfl) (by decide) (rm6 l Z a0 hw [] r19 d19 kc17 2 (fun i => if i = 0 then (.int x0) else if i = 1 then (.int x1) else (.int x2)) h23 n0 Zs24 f24_354 f24_356 f24_355 (by decide)) f24_353 (g := (mkF m 95 #[.val (.int p0), .val (.int p1), .val (.int p2), .val (.int p3), .val (.int (2 : Int32)), .val (.int x0), .val (.int x1), .val (.int x2), .val (.ref r17), .val (.ref r19), .unset] [(.ref r19)])) rfl (by rw [hml]; rfl) (argsL := []) (rest := []) (lenOf pd4 rfl) rfl (hb hby at_95) rfl (by decide) (Nat.le_of_ble_eq_true rfl) (k' := 4) (n' := 9) rfl rfl (by decide) (by decide)
    refine Go.by st26 ?_
    obtain ⟨r26, rfl, sr26, K26, V26⟩ := q26
    have g_r26 : n0 ≤ r26 := Nat.le_trans Zs24 sr26
    have ne_r17_r26 : r17 ≠ r26 := Nat.ne_of_lt (Nat.lt_of_lt_of_le f24_352.lt sr26)
    have ne_r19_r26 : r19 ≠ r26 := Nat.ne_of_lt (Nat.lt_of_lt_of_le f24_353.lt sr26)
    have ne_d19_r26 : d19 ≠ r26 := Nat.ne_of_lt (Nat.lt_of_lt_of_le f24_355.lt sr26)
    have f27_385 := f24_352.ext (keep_ext K26)
    have f27_386 := Avf.ext V23 (keep_ext K26)
    have f27_387 := f24_353.ext (keep_ext K26)
    have f27_388 := f24_354.ext (keep_ext K26)
    have f27_389 := f24_355.ext (keep_ext K26)
    have f27_390 := Avf.ext f24_356 (keep_ext K26)
    have Zs27 : n0 ≤ h26.size := Nat.le_trans Zs24 (keep_ext K26).1
    show Go p.tables e below _ (T26.setTop (mkF m 98 #[.val (.int p0), .val (.int p1), .val (.int p2), .val (.int p3), .val (.int (2 : Int32)), .val (.int x0), .val (.int x1), .val (.int x2), .val (.ref r17), .val (.ref r19), .unset] [(.ref r26)]))
    refine Go.by (fun _ => XS.astore X26.here hx rfl (hb hby at_98) rfl rfl (l' := #[.val (.int p0), .val (.int p1), .val (.int p2), .val (.int p3), .val (.int (2 : Int32)), .val (.int x0), .val (.int x1), .val (.int x2), .val (.ref r17), .val (.ref r19), .val (.ref r26)]) rfl) ?_
    show Go p.tables e below _ (T26.setTop (mkF m 100 #[.val (.int p0), .val (.int p1), .val (.int p2), .val (.int p3), .val (.int (2 : Int32)), .val (.int x0), .val (.int x1), .val (.int x2), .val (.ref r17), .val (.ref r19), .val (.ref r26)] []))
    refine Go.by (fun _ => XS.aload X26.here hx rfl (hb hby at_100) rfl rfl) ?_
    show Go p.tables e below _ (T26.setTop (mkF m 102 #[.val (.int p0), .val (.int p1), .val (.int p2), .val (.int p3), .val (.int (2 : Int32)), .val (.int x0), .val (.int x1), .val (.int x2), .val (.ref r17), .val (.ref r19), .val (.ref r26)] [(.ref r26)]))
    refine Go.by (X26.len hx hZ V26 (z := (2 : Int32)) rfl (g := (mkF m 102 #[.val (.int p0), .val (.int p1), .val (.int p2), .val (.int p3), .val (.int (2 : Int32)), .val (.int x0), .val (.int x1), .val (.int x2), .val (.ref r17), .val (.ref r19), .val (.ref r26)] [(.ref r26)])) rfl rfl (hb hby at_102)) ?_
    show Go p.tables e below _ (T26.setTop (mkF m 103 #[.val (.int p0), .val (.int p1), .val (.int p2), .val (.int p3), .val (.int (2 : Int32)), .val (.int x0), .val (.int x1), .val (.int x2), .val (.ref r17), .val (.ref r19), .val (.ref r26)] [(.int (2 : Int32))]))
    refine Go.by (fun _ => XS.iload X26.here hx rfl (hb hby at_103) rfl) ?_
    show Go p.tables e below _ (T26.setTop (mkF m 105 #[.val (.int p0), .val (.int p1), .val (.int p2), .val (.int p3), .val (.int (2 : Int32)), .val (.int x0), .val (.int x1), .val (.int x2), .val (.ref r17), .val (.ref r19), .val (.ref r26)] [(.int (2 : Int32)), (.int (2 : Int32))]))
    refine Go.by (fun _ => XS.icmpYes X26.here hx rfl (pc0 := 105) (pc' := 110) rfl (hb hby at_105) rfl (teq (by decide)).1 (by decide) (by decide)) ?_
    show Go p.tables e below _ (T26.setTop (mkF m 110 #[.val (.int p0), .val (.int p1), .val (.int p2), .val (.int p3), .val (.int (2 : Int32)), .val (.int x0), .val (.int x1), .val (.int x2), .val (.ref r17), .val (.ref r19), .val (.ref r26)] []))
    refine Go.by (fun _ => XS.iload X26.here hx rfl (hb hby at_110) rfl) ?_
    show Go p.tables e below _ (T26.setTop (mkF m 112 #[.val (.int p0), .val (.int p1), .val (.int p2), .val (.int p3), .val (.int (2 : Int32)), .val (.int x0), .val (.int x1), .val (.int x2), .val (.ref r17), .val (.ref r19), .val (.ref r26)] [(.int (2 : Int32))]))
    refine Go.by (fun _ => XS.ifNo X26.here hx rfl (hb hby at_112) rfl ((if0 _ _).trans (tlt (by decide)).2.2.2)) ?_
    show Go p.tables e below _ (T26.setTop (mkF m 115 #[.val (.int p0), .val (.int p1), .val (.int p2), .val (.int p3), .val (.int (2 : Int32)), .val (.int x0), .val (.int x1), .val (.int x2), .val (.ref r17), .val (.ref r19), .val (.ref r26)] []))
    refine Go.by (fun _ => XS.aload X26.here hx rfl (hb hby at_115) rfl rfl) ?_
    show Go p.tables e below _ (T26.setTop (mkF m 117 #[.val (.int p0), .val (.int p1), .val (.int p2), .val (.int p3), .val (.int (2 : Int32)), .val (.int x0), .val (.int x1), .val (.int x2), .val (.ref r17), .val (.ref r19), .val (.ref r26)] [(.ref r26)]))
    refine Go.by (fun _ => XS.iconst X26.here hx rfl (hb hby at_117)) ?_
    show Go p.tables e below _ (T26.setTop (mkF m 118 #[.val (.int p0), .val (.int p1), .val (.int p2), .val (.int p3), .val (.int (2 : Int32)), .val (.int x0), .val (.int x1), .val (.int x2), .val (.ref r17), .val (.ref r19), .val (.ref r26)] [(.int (0 : Int32)), (.ref r26)]))
    refine Go.by (X26.ldB hx hZ V26 (by decide) (i := 0) rfl (by decide) (v := (.int x0)) rfl (g := (mkF m 118 #[.val (.int p0), .val (.int p1), .val (.int p2), .val (.int p3), .val (.int (2 : Int32)), .val (.int x0), .val (.int x1), .val (.int x2), .val (.ref r17), .val (.ref r19), .val (.ref r26)] [(.int (0 : Int32)), (.ref r26)])) rfl rfl (hb hby at_118)) ?_
    show Go p.tables e below _ (T26.setTop (mkF m 119 #[.val (.int p0), .val (.int p1), .val (.int p2), .val (.int p3), .val (.int (2 : Int32)), .val (.int x0), .val (.int x1), .val (.int x2), .val (.ref r17), .val (.ref r19), .val (.ref r26)] [(.int x0)]))
    refine Go.by (fun _ => XS.iload X26.here hx rfl (hb hby at_119) rfl) ?_
    show Go p.tables e below _ (T26.setTop (mkF m 121 #[.val (.int p0), .val (.int p1), .val (.int p2), .val (.int p3), .val (.int (2 : Int32)), .val (.int x0), .val (.int x1), .val (.int x2), .val (.ref r17), .val (.ref r19), .val (.ref r26)] [(.int x0), (.int x0)]))
    refine Go.by (fun _ => XS.icmpYes X26.here hx rfl (pc0 := 121) (pc' := 126) rfl (hb hby at_121) rfl (teq rfl).1 (by decide) (by decide)) ?_
    show Go p.tables e below _ (T26.setTop (mkF m 126 #[.val (.int p0), .val (.int p1), .val (.int p2), .val (.int p3), .val (.int (2 : Int32)), .val (.int x0), .val (.int x1), .val (.int x2), .val (.ref r17), .val (.ref r19), .val (.ref r26)] []))
    refine Go.by (fun _ => XS.iload X26.here hx rfl (hb hby at_126) rfl) ?_
    show Go p.tables e below _ (T26.setTop (mkF m 128 #[.val (.int p0), .val (.int p1), .val (.int p2), .val (.int p3), .val (.int (2 : Int32)), .val (.int x0), .val (.int x1), .val (.int x2), .val (.ref r17), .val (.ref r19), .val (.ref r26)] [(.int (2 : Int32))]))
    refine Go.by (fun _ => XS.iconst X26.here hx rfl (hb hby at_128)) ?_
    show Go p.tables e below _ (T26.setTop (mkF m 129 #[.val (.int p0), .val (.int p1), .val (.int p2), .val (.int p3), .val (.int (2 : Int32)), .val (.int x0), .val (.int x1), .val (.int x2), .val (.ref r17), .val (.ref r19), .val (.ref r26)] [(.int (1 : Int32)), (.int (2 : Int32))]))
    refine Go.by (fun _ => XS.icmpNo X26.here hx rfl (hb hby at_129) rfl (tlt (by decide)).2.2.2) ?_
    show Go p.tables e below _ (T26.setTop (mkF m 132 #[.val (.int p0), .val (.int p1), .val (.int p2), .val (.int p3), .val (.int (2 : Int32)), .val (.int x0), .val (.int x1), .val (.int x2), .val (.ref r17), .val (.ref r19), .val (.ref r26)] []))
    refine Go.by (fun _ => XS.aload X26.here hx rfl (hb hby at_132) rfl rfl) ?_
    show Go p.tables e below _ (T26.setTop (mkF m 134 #[.val (.int p0), .val (.int p1), .val (.int p2), .val (.int p3), .val (.int (2 : Int32)), .val (.int x0), .val (.int x1), .val (.int x2), .val (.ref r17), .val (.ref r19), .val (.ref r26)] [(.ref r26)]))
    refine Go.by (fun _ => XS.iconst X26.here hx rfl (hb hby at_134)) ?_
    show Go p.tables e below _ (T26.setTop (mkF m 135 #[.val (.int p0), .val (.int p1), .val (.int p2), .val (.int p3), .val (.int (2 : Int32)), .val (.int x0), .val (.int x1), .val (.int x2), .val (.ref r17), .val (.ref r19), .val (.ref r26)] [(.int (1 : Int32)), (.ref r26)]))
    refine Go.by (X26.ldB hx hZ V26 (by decide) (i := 1) rfl (by decide) (v := (.int x1)) rfl (g := (mkF m 135 #[.val (.int p0), .val (.int p1), .val (.int p2), .val (.int p3), .val (.int (2 : Int32)), .val (.int x0), .val (.int x1), .val (.int x2), .val (.ref r17), .val (.ref r19), .val (.ref r26)] [(.int (1 : Int32)), (.ref r26)])) rfl rfl (hb hby at_135)) ?_
    show Go p.tables e below _ (T26.setTop (mkF m 136 #[.val (.int p0), .val (.int p1), .val (.int p2), .val (.int p3), .val (.int (2 : Int32)), .val (.int x0), .val (.int x1), .val (.int x2), .val (.ref r17), .val (.ref r19), .val (.ref r26)] [(.int x1)]))
    refine Go.by (fun _ => XS.iload X26.here hx rfl (hb hby at_136) rfl) ?_
    show Go p.tables e below _ (T26.setTop (mkF m 138 #[.val (.int p0), .val (.int p1), .val (.int p2), .val (.int p3), .val (.int (2 : Int32)), .val (.int x0), .val (.int x1), .val (.int x2), .val (.ref r17), .val (.ref r19), .val (.ref r26)] [(.int x1), (.int x1)]))
    refine Go.by (fun _ => XS.icmpYes X26.here hx rfl (pc0 := 138) (pc' := 143) rfl (hb hby at_138) rfl (teq rfl).1 (by decide) (by decide)) ?_
    show Go p.tables e below _ (T26.setTop (mkF m 143 #[.val (.int p0), .val (.int p1), .val (.int p2), .val (.int p3), .val (.int (2 : Int32)), .val (.int x0), .val (.int x1), .val (.int x2), .val (.ref r17), .val (.ref r19), .val (.ref r26)] []))
    refine Go.by (fun _ => XS.iload X26.here hx rfl (hb hby at_143) rfl) ?_
    show Go p.tables e below _ (T26.setTop (mkF m 145 #[.val (.int p0), .val (.int p1), .val (.int p2), .val (.int p3), .val (.int (2 : Int32)), .val (.int x0), .val (.int x1), .val (.int x2), .val (.ref r17), .val (.ref r19), .val (.ref r26)] [(.int (2 : Int32))]))
    refine Go.by (fun _ => XS.iconst X26.here hx rfl (hb hby at_145)) ?_
    show Go p.tables e below _ (T26.setTop (mkF m 146 #[.val (.int p0), .val (.int p1), .val (.int p2), .val (.int p3), .val (.int (2 : Int32)), .val (.int x0), .val (.int x1), .val (.int x2), .val (.ref r17), .val (.ref r19), .val (.ref r26)] [(.int (2 : Int32)), (.int (2 : Int32))]))
    refine Go.by (fun _ => XS.icmpYes X26.here hx rfl (pc0 := 146) (pc' := 160) rfl (hb hby at_146) rfl (flt (by decide)).2.2.2 (by decide) (by decide)) ?_
    show Go p.tables e below _ (T26.setTop (mkF m 160 #[.val (.int p0), .val (.int p1), .val (.int p2), .val (.int p3), .val (.int (2 : Int32)), .val (.int x0), .val (.int x1), .val (.int x2), .val (.ref r17), .val (.ref r19), .val (.ref r26)] []))
    refine Go.by (fun _ => XS.iconst X26.here hx rfl (hb hby at_160)) ?_
    show Go p.tables e below _ (T26.setTop (mkF m 161 #[.val (.int p0), .val (.int p1), .val (.int p2), .val (.int p3), .val (.int (2 : Int32)), .val (.int x0), .val (.int x1), .val (.int x2), .val (.ref r17), .val (.ref r19), .val (.ref r26)] [(.int (1 : Int32))]))
    exact Go.retN X26 hx hlk (z' := (1 : Int32)) hret (by simp) (hb hby at_161) rfl (by decide) (by decide) rfl
  · rw [en]
    show Go p.tables e below _ (T0.setTop (mkF m 17 #[.val (.int p0), .val (.int p1), .val (.int p2), .val (.int p3), .val (.int (3 : Int32)), .val (.int x0), .val (.int x1), .val (.int x2), .unset, .unset, .unset] []))
    refine Go.by (fun _ => XS.iload X0.here hx rfl (hb hby at_17) rfl) ?_
    show Go p.tables e below _ (T0.setTop (mkF m 19 #[.val (.int p0), .val (.int p1), .val (.int p2), .val (.int p3), .val (.int (3 : Int32)), .val (.int x0), .val (.int x1), .val (.int x2), .unset, .unset, .unset] [(.int (3 : Int32))]))
    refine Go.by (fun _ => XS.iload X0.here hx rfl (hb hby at_19) rfl) ?_
    show Go p.tables e below _ (T0.setTop (mkF m 21 #[.val (.int p0), .val (.int p1), .val (.int p2), .val (.int p3), .val (.int (3 : Int32)), .val (.int x0), .val (.int x1), .val (.int x2), .unset, .unset, .unset] [(.int x0), (.int (3 : Int32))]))
    refine Go.by (fun _ => XS.iload X0.here hx rfl (hb hby at_21) rfl) ?_
    show Go p.tables e below _ (T0.setTop (mkF m 23 #[.val (.int p0), .val (.int p1), .val (.int p2), .val (.int p3), .val (.int (3 : Int32)), .val (.int x0), .val (.int x1), .val (.int x2), .unset, .unset, .unset] [(.int x1), (.int x0), (.int (3 : Int32))]))
    refine Go.by (fun _ => XS.iload X0.here hx rfl (hb hby at_23) rfl) ?_
    show Go p.tables e below _ (T0.setTop (mkF m 25 #[.val (.int p0), .val (.int p1), .val (.int p2), .val (.int p3), .val (.int (3 : Int32)), .val (.int x0), .val (.int x1), .val (.int x2), .unset, .unset, .unset] [(.int x2), (.int x1), (.int x0), (.int (3 : Int32))]))
    obtain ⟨v28, T28, h28, X28, q28, st28⟩ := X0.callS hx hZ (y := (⟨"com/example/istorie/istorie/BytesCopyOfPinLaw", "make", "(IBBB)[B"⟩ : MethodName)) hown (tw hw 0 rfl) (tw hw 1 rfl) (tw hw 2 rfl) (tw hw 3 rfl) (by decide) (rm1_3 l Z a0 hw [] x0 x1 x2 h0 n0 Z0 hb1 hb2 hb3) (g := (mkF m 25 #[.val (.int p0), .val (.int p1), .val (.int p2), .val (.int p3), .val (.int (3 : Int32)), .val (.int x0), .val (.int x1), .val (.int x2), .unset, .unset, .unset] [(.int x2), (.int x1), (.int x0), (.int (3 : Int32))])) rfl (by rw [hml]; rfl) (argsL := [(.int (3 : Int32)), (.int x0), (.int x1), (.int x2)]) (rest := []) (lenOf pd1 rfl) rfl (hb hby at_25) rfl (by decide) (Nat.le_of_ble_eq_true rfl) (k' := 1) (n' := 3) rfl rfl (by decide) (by decide)
    refine Go.by st28 ?_
    obtain ⟨r28, kc28, rfl, sr28, K28, Ex28, V28⟩ := q28
    have g_r28 : n0 ≤ r28 := Nat.le_trans Z0 sr28
    have Zs29 : n0 ≤ h28.size := Nat.le_trans Z0 (keep_ext K28).1
    show Go p.tables e below _ (T28.setTop (mkF m 28 #[.val (.int p0), .val (.int p1), .val (.int p2), .val (.int p3), .val (.int (3 : Int32)), .val (.int x0), .val (.int x1), .val (.int x2), .unset, .unset, .unset] [(.ref r28)]))
    refine Go.by (fun _ => XS.astore X28.here hx rfl (hb hby at_28) rfl rfl (l' := #[.val (.int p0), .val (.int p1), .val (.int p2), .val (.int p3), .val (.int (3 : Int32)), .val (.int x0), .val (.int x1), .val (.int x2), .val (.ref r28), .unset, .unset]) rfl) ?_
    show Go p.tables e below _ (T28.setTop (mkF m 30 #[.val (.int p0), .val (.int p1), .val (.int p2), .val (.int p3), .val (.int (3 : Int32)), .val (.int x0), .val (.int x1), .val (.int x2), .val (.ref r28), .unset, .unset] []))
    refine Go.by (fun _ => XS.aload X28.here hx rfl (hb hby at_30) rfl rfl) ?_
    show Go p.tables e below _ (T28.setTop (mkF m 32 #[.val (.int p0), .val (.int p1), .val (.int p2), .val (.int p3), .val (.int (3 : Int32)), .val (.int x0), .val (.int x1), .val (.int x2), .val (.ref r28), .unset, .unset] [(.ref r28)]))
    obtain ⟨v30, T30, h30, X30, q30, st30⟩ := X28.callS hx hZ (y := (⟨"com/example/istorie/istorie/Bytes", "copyOf", "([B)Lcom/example/istorie/istorie/Bytes;"⟩ : MethodName)) hown (tw hw 5 rfl) (tw hw 6 rfl) (tw hw 7 rfl) (tw hw 8 rfl) (by decide) (rm2 l Z a0 hw [] r28 kc28 3 (fun i => if i = 0 then (.int x0) else if i = 1 then (.int x1) else (.int x2)) h28 n0 Zs29 Ex28 V28 (by decide)) (g := (mkF m 32 #[.val (.int p0), .val (.int p1), .val (.int p2), .val (.int p3), .val (.int (3 : Int32)), .val (.int x0), .val (.int x1), .val (.int x2), .val (.ref r28), .unset, .unset] [(.ref r28)])) rfl (by rw [hml]; rfl) (argsL := [(.ref r28)]) (rest := []) (lenOf pd2 rfl) rfl (hb hby at_32) rfl (by decide) (Nat.le_of_ble_eq_true rfl) (k' := 3) (n' := 7) rfl rfl (by decide) (by decide)
    refine Go.by st30 ?_
    obtain ⟨r30, d30, rfl, sr30, sd30, K30, Ex30, Fc30, Ed30, V30⟩ := q30
    have g_r30 : n0 ≤ r30 := Nat.le_trans Zs29 sr30
    have ne_r28_r30 : r28 ≠ r30 := Nat.ne_of_lt (Nat.lt_of_lt_of_le Ex28.lt sr30)
    have g_d30 : n0 ≤ d30 := Nat.le_trans Zs29 sd30
    have ne_r28_d30 : r28 ≠ d30 := Nat.ne_of_lt (Nat.lt_of_lt_of_le Ex28.lt sd30)
    have f31_469 := Ex28.ext (keep_ext K30)
    have f31_470 := Avf.ext V28 (keep_ext K30)
    have Zs31 : n0 ≤ h30.size := Nat.le_trans Zs29 (keep_ext K30).1
    show Go p.tables e below _ (T30.setTop (mkF m 35 #[.val (.int p0), .val (.int p1), .val (.int p2), .val (.int p3), .val (.int (3 : Int32)), .val (.int x0), .val (.int x1), .val (.int x2), .val (.ref r28), .unset, .unset] [(.ref r30)]))
    refine Go.by (fun _ => XS.astore X30.here hx rfl (hb hby at_35) rfl rfl (l' := #[.val (.int p0), .val (.int p1), .val (.int p2), .val (.int p3), .val (.int (3 : Int32)), .val (.int x0), .val (.int x1), .val (.int x2), .val (.ref r28), .val (.ref r30), .unset]) rfl) ?_
    show Go p.tables e below _ (T30.setTop (mkF m 37 #[.val (.int p0), .val (.int p1), .val (.int p2), .val (.int p3), .val (.int (3 : Int32)), .val (.int x0), .val (.int x1), .val (.int x2), .val (.ref r28), .val (.ref r30), .unset] []))
    refine Go.by (fun _ => XS.iload X30.here hx rfl (hb hby at_37) rfl) ?_
    show Go p.tables e below _ (T30.setTop (mkF m 39 #[.val (.int p0), .val (.int p1), .val (.int p2), .val (.int p3), .val (.int (3 : Int32)), .val (.int x0), .val (.int x1), .val (.int x2), .val (.ref r28), .val (.ref r30), .unset] [(.int (3 : Int32))]))
    refine Go.by (fun _ => XS.ifNo X30.here hx rfl (hb hby at_39) rfl ((if0 _ _).trans (tlt (by decide)).2.2.2)) ?_
    show Go p.tables e below _ (T30.setTop (mkF m 42 #[.val (.int p0), .val (.int p1), .val (.int p2), .val (.int p3), .val (.int (3 : Int32)), .val (.int x0), .val (.int x1), .val (.int x2), .val (.ref r28), .val (.ref r30), .unset] []))
    refine Go.by (fun _ => XS.aload X30.here hx rfl (hb hby at_42) rfl rfl) ?_
    show Go p.tables e below _ (T30.setTop (mkF m 44 #[.val (.int p0), .val (.int p1), .val (.int p2), .val (.int p3), .val (.int (3 : Int32)), .val (.int x0), .val (.int x1), .val (.int x2), .val (.ref r28), .val (.ref r30), .unset] [(.ref r28)]))
    refine Go.by (fun _ => XS.iconst X30.here hx rfl (hb hby at_44)) ?_
    show Go p.tables e below _ (T30.setTop (mkF m 45 #[.val (.int p0), .val (.int p1), .val (.int p2), .val (.int p3), .val (.int (3 : Int32)), .val (.int x0), .val (.int x1), .val (.int x2), .val (.ref r28), .val (.ref r30), .unset] [(.int (0 : Int32)), (.ref r28)]))
    refine Go.by (fun _ => XS.iload X30.here hx rfl (hb hby at_45) rfl) ?_
    show Go p.tables e below _ (T30.setTop (mkF m 47 #[.val (.int p0), .val (.int p1), .val (.int p2), .val (.int p3), .val (.int (3 : Int32)), .val (.int x0), .val (.int x1), .val (.int x2), .val (.ref r28), .val (.ref r30), .unset] [(.int x0), (.int (0 : Int32)), (.ref r28)]))
    refine Go.by (fun _ => XS.iconst X30.here hx rfl (hb hby at_47)) ?_
    show Go p.tables e below _ (T30.setTop (mkF m 48 #[.val (.int p0), .val (.int p1), .val (.int p2), .val (.int p3), .val (.int (3 : Int32)), .val (.int x0), .val (.int x1), .val (.int x2), .val (.ref r28), .val (.ref r30), .unset] [(.int (-1 : Int32)), (.int x0), (.int (0 : Int32)), (.ref r28)]))
    refine Go.by (fun _ => XS.ixor X30.here hx rfl (hb hby at_48) rfl) ?_
    show Go p.tables e below _ (T30.setTop (mkF m 49 #[.val (.int p0), .val (.int p1), .val (.int p2), .val (.int p3), .val (.int (3 : Int32)), .val (.int x0), .val (.int x1), .val (.int x2), .val (.ref r28), .val (.ref r30), .unset] [(.int (x0 ^^^ (-1 : Int32))), (.int (0 : Int32)), (.ref r28)]))
    refine Go.by (fun _ => XS.i2b X30.here hx rfl (hb hby at_49) rfl) ?_
    show Go p.tables e below _ (T30.setTop (mkF m 50 #[.val (.int p0), .val (.int p1), .val (.int p2), .val (.int p3), .val (.int (3 : Int32)), .val (.int x0), .val (.int x1), .val (.int x2), .val (.ref r28), .val (.ref r30), .unset] [(.int ((x0 ^^^ (-1 : Int32)).toInt8.toInt32)), (.int (0 : Int32)), (.ref r28)]))
    obtain ⟨T32, h32, X32, W32, V32, st32⟩ := X30.stB hx hZ f31_470 g_r28 (by decide) (i := 0) rfl (by decide) (g := (mkF m 50 #[.val (.int p0), .val (.int p1), .val (.int p2), .val (.int p3), .val (.int (3 : Int32)), .val (.int x0), .val (.int x1), .val (.int x2), .val (.ref r28), .val (.ref r30), .unset] [(.int ((x0 ^^^ (-1 : Int32)).toInt8.toInt32)), (.int (0 : Int32)), (.ref r28)])) rfl rfl (hb hby at_50)
    have f33_492 := f31_469.wr W32
    have f33_493 := Ex30.wr W32
    have f33_494 := Fc30.other W32 (Or.inl (Ne.symm ne_r28_r30))
    have f33_495 := Ed30.wr W32
    have f33_496 := Avf.other V30 W32 (Ne.symm ne_r28_d30)
    have Zs33 : n0 ≤ h32.size := by rw [W32.size]; exact Zs31
    refine Go.by st32 ?_
    show Go p.tables e below _ (T32.setTop (mkF m 51 #[.val (.int p0), .val (.int p1), .val (.int p2), .val (.int p3), .val (.int (3 : Int32)), .val (.int x0), .val (.int x1), .val (.int x2), .val (.ref r28), .val (.ref r30), .unset] []))
    refine Go.by (fun _ => XS.iload X32.here hx rfl (hb hby at_51) rfl) ?_
    show Go p.tables e below _ (T32.setTop (mkF m 53 #[.val (.int p0), .val (.int p1), .val (.int p2), .val (.int p3), .val (.int (3 : Int32)), .val (.int x0), .val (.int x1), .val (.int x2), .val (.ref r28), .val (.ref r30), .unset] [(.int (3 : Int32))]))
    refine Go.by (fun _ => XS.iconst X32.here hx rfl (hb hby at_53)) ?_
    show Go p.tables e below _ (T32.setTop (mkF m 54 #[.val (.int p0), .val (.int p1), .val (.int p2), .val (.int p3), .val (.int (3 : Int32)), .val (.int x0), .val (.int x1), .val (.int x2), .val (.ref r28), .val (.ref r30), .unset] [(.int (1 : Int32)), (.int (3 : Int32))]))
    refine Go.by (fun _ => XS.icmpNo X32.here hx rfl (hb hby at_54) rfl (tlt (by decide)).2.2.2) ?_
    show Go p.tables e below _ (T32.setTop (mkF m 57 #[.val (.int p0), .val (.int p1), .val (.int p2), .val (.int p3), .val (.int (3 : Int32)), .val (.int x0), .val (.int x1), .val (.int x2), .val (.ref r28), .val (.ref r30), .unset] []))
    refine Go.by (fun _ => XS.aload X32.here hx rfl (hb hby at_57) rfl rfl) ?_
    show Go p.tables e below _ (T32.setTop (mkF m 59 #[.val (.int p0), .val (.int p1), .val (.int p2), .val (.int p3), .val (.int (3 : Int32)), .val (.int x0), .val (.int x1), .val (.int x2), .val (.ref r28), .val (.ref r30), .unset] [(.ref r28)]))
    refine Go.by (fun _ => XS.iconst X32.here hx rfl (hb hby at_59)) ?_
    show Go p.tables e below _ (T32.setTop (mkF m 60 #[.val (.int p0), .val (.int p1), .val (.int p2), .val (.int p3), .val (.int (3 : Int32)), .val (.int x0), .val (.int x1), .val (.int x2), .val (.ref r28), .val (.ref r30), .unset] [(.int (1 : Int32)), (.ref r28)]))
    refine Go.by (fun _ => XS.iload X32.here hx rfl (hb hby at_60) rfl) ?_
    show Go p.tables e below _ (T32.setTop (mkF m 62 #[.val (.int p0), .val (.int p1), .val (.int p2), .val (.int p3), .val (.int (3 : Int32)), .val (.int x0), .val (.int x1), .val (.int x2), .val (.ref r28), .val (.ref r30), .unset] [(.int x1), (.int (1 : Int32)), (.ref r28)]))
    refine Go.by (fun _ => XS.iconst X32.here hx rfl (hb hby at_62)) ?_
    show Go p.tables e below _ (T32.setTop (mkF m 63 #[.val (.int p0), .val (.int p1), .val (.int p2), .val (.int p3), .val (.int (3 : Int32)), .val (.int x0), .val (.int x1), .val (.int x2), .val (.ref r28), .val (.ref r30), .unset] [(.int (-1 : Int32)), (.int x1), (.int (1 : Int32)), (.ref r28)]))
    refine Go.by (fun _ => XS.ixor X32.here hx rfl (hb hby at_63) rfl) ?_
    show Go p.tables e below _ (T32.setTop (mkF m 64 #[.val (.int p0), .val (.int p1), .val (.int p2), .val (.int p3), .val (.int (3 : Int32)), .val (.int x0), .val (.int x1), .val (.int x2), .val (.ref r28), .val (.ref r30), .unset] [(.int (x1 ^^^ (-1 : Int32))), (.int (1 : Int32)), (.ref r28)]))
    refine Go.by (fun _ => XS.i2b X32.here hx rfl (hb hby at_64) rfl) ?_
    show Go p.tables e below _ (T32.setTop (mkF m 65 #[.val (.int p0), .val (.int p1), .val (.int p2), .val (.int p3), .val (.int (3 : Int32)), .val (.int x0), .val (.int x1), .val (.int x2), .val (.ref r28), .val (.ref r30), .unset] [(.int ((x1 ^^^ (-1 : Int32)).toInt8.toInt32)), (.int (1 : Int32)), (.ref r28)]))
    obtain ⟨T34, h34, X34, W34, V34, st34⟩ := X32.stB hx hZ V32 g_r28 (by decide) (i := 1) rfl (by decide) (g := (mkF m 65 #[.val (.int p0), .val (.int p1), .val (.int p2), .val (.int p3), .val (.int (3 : Int32)), .val (.int x0), .val (.int x1), .val (.int x2), .val (.ref r28), .val (.ref r30), .unset] [(.int ((x1 ^^^ (-1 : Int32)).toInt8.toInt32)), (.int (1 : Int32)), (.ref r28)])) rfl rfl (hb hby at_65)
    have f35_519 := f33_492.wr W34
    have f35_520 := f33_493.wr W34
    have f35_521 := f33_494.other W34 (Or.inl (Ne.symm ne_r28_r30))
    have f35_522 := f33_495.wr W34
    have f35_523 := Avf.other f33_496 W34 (Ne.symm ne_r28_d30)
    have Zs35 : n0 ≤ h34.size := by rw [W34.size]; exact Zs33
    refine Go.by st34 ?_
    show Go p.tables e below _ (T34.setTop (mkF m 66 #[.val (.int p0), .val (.int p1), .val (.int p2), .val (.int p3), .val (.int (3 : Int32)), .val (.int x0), .val (.int x1), .val (.int x2), .val (.ref r28), .val (.ref r30), .unset] []))
    refine Go.by (fun _ => XS.iload X34.here hx rfl (hb hby at_66) rfl) ?_
    show Go p.tables e below _ (T34.setTop (mkF m 68 #[.val (.int p0), .val (.int p1), .val (.int p2), .val (.int p3), .val (.int (3 : Int32)), .val (.int x0), .val (.int x1), .val (.int x2), .val (.ref r28), .val (.ref r30), .unset] [(.int (3 : Int32))]))
    refine Go.by (fun _ => XS.iconst X34.here hx rfl (hb hby at_68)) ?_
    show Go p.tables e below _ (T34.setTop (mkF m 69 #[.val (.int p0), .val (.int p1), .val (.int p2), .val (.int p3), .val (.int (3 : Int32)), .val (.int x0), .val (.int x1), .val (.int x2), .val (.ref r28), .val (.ref r30), .unset] [(.int (2 : Int32)), (.int (3 : Int32))]))
    refine Go.by (fun _ => XS.icmpNo X34.here hx rfl (hb hby at_69) rfl (tlt (by decide)).2.2.2) ?_
    show Go p.tables e below _ (T34.setTop (mkF m 72 #[.val (.int p0), .val (.int p1), .val (.int p2), .val (.int p3), .val (.int (3 : Int32)), .val (.int x0), .val (.int x1), .val (.int x2), .val (.ref r28), .val (.ref r30), .unset] []))
    refine Go.by (fun _ => XS.aload X34.here hx rfl (hb hby at_72) rfl rfl) ?_
    show Go p.tables e below _ (T34.setTop (mkF m 74 #[.val (.int p0), .val (.int p1), .val (.int p2), .val (.int p3), .val (.int (3 : Int32)), .val (.int x0), .val (.int x1), .val (.int x2), .val (.ref r28), .val (.ref r30), .unset] [(.ref r28)]))
    refine Go.by (fun _ => XS.iconst X34.here hx rfl (hb hby at_74)) ?_
    show Go p.tables e below _ (T34.setTop (mkF m 75 #[.val (.int p0), .val (.int p1), .val (.int p2), .val (.int p3), .val (.int (3 : Int32)), .val (.int x0), .val (.int x1), .val (.int x2), .val (.ref r28), .val (.ref r30), .unset] [(.int (2 : Int32)), (.ref r28)]))
    refine Go.by (fun _ => XS.iload X34.here hx rfl (hb hby at_75) rfl) ?_
    show Go p.tables e below _ (T34.setTop (mkF m 77 #[.val (.int p0), .val (.int p1), .val (.int p2), .val (.int p3), .val (.int (3 : Int32)), .val (.int x0), .val (.int x1), .val (.int x2), .val (.ref r28), .val (.ref r30), .unset] [(.int x2), (.int (2 : Int32)), (.ref r28)]))
    refine Go.by (fun _ => XS.iconst X34.here hx rfl (hb hby at_77)) ?_
    show Go p.tables e below _ (T34.setTop (mkF m 78 #[.val (.int p0), .val (.int p1), .val (.int p2), .val (.int p3), .val (.int (3 : Int32)), .val (.int x0), .val (.int x1), .val (.int x2), .val (.ref r28), .val (.ref r30), .unset] [(.int (-1 : Int32)), (.int x2), (.int (2 : Int32)), (.ref r28)]))
    refine Go.by (fun _ => XS.ixor X34.here hx rfl (hb hby at_78) rfl) ?_
    show Go p.tables e below _ (T34.setTop (mkF m 79 #[.val (.int p0), .val (.int p1), .val (.int p2), .val (.int p3), .val (.int (3 : Int32)), .val (.int x0), .val (.int x1), .val (.int x2), .val (.ref r28), .val (.ref r30), .unset] [(.int (x2 ^^^ (-1 : Int32))), (.int (2 : Int32)), (.ref r28)]))
    refine Go.by (fun _ => XS.i2b X34.here hx rfl (hb hby at_79) rfl) ?_
    show Go p.tables e below _ (T34.setTop (mkF m 80 #[.val (.int p0), .val (.int p1), .val (.int p2), .val (.int p3), .val (.int (3 : Int32)), .val (.int x0), .val (.int x1), .val (.int x2), .val (.ref r28), .val (.ref r30), .unset] [(.int ((x2 ^^^ (-1 : Int32)).toInt8.toInt32)), (.int (2 : Int32)), (.ref r28)]))
    obtain ⟨T36, h36, X36, W36, V36, st36⟩ := X34.stB hx hZ V34 g_r28 (by decide) (i := 2) rfl (by decide) (g := (mkF m 80 #[.val (.int p0), .val (.int p1), .val (.int p2), .val (.int p3), .val (.int (3 : Int32)), .val (.int x0), .val (.int x1), .val (.int x2), .val (.ref r28), .val (.ref r30), .unset] [(.int ((x2 ^^^ (-1 : Int32)).toInt8.toInt32)), (.int (2 : Int32)), (.ref r28)])) rfl rfl (hb hby at_80)
    have f37_546 := f35_519.wr W36
    have f37_547 := f35_520.wr W36
    have f37_548 := f35_521.other W36 (Or.inl (Ne.symm ne_r28_r30))
    have f37_549 := f35_522.wr W36
    have f37_550 := Avf.other f35_523 W36 (Ne.symm ne_r28_d30)
    have Zs37 : n0 ≤ h36.size := by rw [W36.size]; exact Zs35
    refine Go.by st36 ?_
    show Go p.tables e below _ (T36.setTop (mkF m 81 #[.val (.int p0), .val (.int p1), .val (.int p2), .val (.int p3), .val (.int (3 : Int32)), .val (.int x0), .val (.int x1), .val (.int x2), .val (.ref r28), .val (.ref r30), .unset] []))
    refine Go.by (fun _ => XS.aload X36.here hx rfl (hb hby at_81) rfl rfl) ?_
    show Go p.tables e below _ (T36.setTop (mkF m 83 #[.val (.int p0), .val (.int p1), .val (.int p2), .val (.int p3), .val (.int (3 : Int32)), .val (.int x0), .val (.int x1), .val (.int x2), .val (.ref r28), .val (.ref r30), .unset] [(.ref r30)]))
    obtain ⟨v38, T38, h38, X38, q38, st38⟩ := X36.callV hx hZ (y := (⟨"com/example/istorie/istorie/Bytes", "length", "()I"⟩ : MethodName)) (z := (⟨"com/example/istorie/istorie/Bytes", "length", "()I"⟩ : MethodName)) hown (tw hw 28 rfl) (tw hw 29 rfl) (notFace_of_selects (args := #[]) (mvT hZ (tw hw 31 rfl))) (tw hw 31 rfl) (tw hw 30 rfl) (tw hw 7 rfl) (tw hw 32 rfl) (by decide) (rm5 l Z a0 hw [] r30 d30 kc28 3 (fun i => if i = 0 then (.int x0) else if i = 1 then (.int x1) else (.int x2)) h36 n0 Zs37 f37_548 f37_550) f37_547 (g := (mkF m 83 #[.val (.int p0), .val (.int p1), .val (.int p2), .val (.int p3), .val (.int (3 : Int32)), .val (.int x0), .val (.int x1), .val (.int x2), .val (.ref r28), .val (.ref r30), .unset] [(.ref r30)])) rfl (by rw [hml]; rfl) (argsL := []) (rest := []) (lenOf pd3 rfl) rfl (hb hby at_83) rfl (by decide) (Nat.le_of_ble_eq_true rfl) (k' := 3) (n' := 7) rfl rfl (by decide) (by decide)
    refine Go.by st38 ?_
    obtain ⟨rfl, rfl⟩ := q38
    show Go p.tables e below _ (T38.setTop (mkF m 86 #[.val (.int p0), .val (.int p1), .val (.int p2), .val (.int p3), .val (.int (3 : Int32)), .val (.int x0), .val (.int x1), .val (.int x2), .val (.ref r28), .val (.ref r30), .unset] [(.int (3 : Int32))]))
    refine Go.by (fun _ => XS.iload X38.here hx rfl (hb hby at_86) rfl) ?_
    show Go p.tables e below _ (T38.setTop (mkF m 88 #[.val (.int p0), .val (.int p1), .val (.int p2), .val (.int p3), .val (.int (3 : Int32)), .val (.int x0), .val (.int x1), .val (.int x2), .val (.ref r28), .val (.ref r30), .unset] [(.int (3 : Int32)), (.int (3 : Int32))]))
    refine Go.by (fun _ => XS.icmpYes X38.here hx rfl (pc0 := 88) (pc' := 93) rfl (hb hby at_88) rfl (teq (by decide)).1 (by decide) (by decide)) ?_
    show Go p.tables e below _ (T38.setTop (mkF m 93 #[.val (.int p0), .val (.int p1), .val (.int p2), .val (.int p3), .val (.int (3 : Int32)), .val (.int x0), .val (.int x1), .val (.int x2), .val (.ref r28), .val (.ref r30), .unset] []))
    refine Go.by (fun _ => XS.aload X38.here hx rfl (hb hby at_93) rfl rfl) ?_
    show Go p.tables e below _ (T38.setTop (mkF m 95 #[.val (.int p0), .val (.int p1), .val (.int p2), .val (.int p3), .val (.int (3 : Int32)), .val (.int x0), .val (.int x1), .val (.int x2), .val (.ref r28), .val (.ref r30), .unset] [(.ref r30)]))
    obtain ⟨v39, T39, h39, X39, q39, st39⟩ := X38.callV hx hZ (y := (⟨"com/example/istorie/istorie/Bytes", "toByteArray", "()[B"⟩ : MethodName)) (z := (⟨"com/example/istorie/istorie/Bytes", "toByteArray", "()[B"⟩ : MethodName)) hown (tw hw 33 rfl) (tw hw 34 rfl) (notFace_of_selects (args := #[]) (mvT hZ (tw hw 36 rfl))) (tw hw 36 rfl) (tw hw 35 rfl) (tw hw 7 rfl) (tw hw 37 rfl) (by decide) (rm6 l Z a0 hw [] r30 d30 kc28 3 (fun i => if i = 0 then (.int x0) else if i = 1 then (.int x1) else (.int x2)) h36 n0 Zs37 f37_548 f37_550 f37_549 (by decide)) f37_547 (g := (mkF m 95 #[.val (.int p0), .val (.int p1), .val (.int p2), .val (.int p3), .val (.int (3 : Int32)), .val (.int x0), .val (.int x1), .val (.int x2), .val (.ref r28), .val (.ref r30), .unset] [(.ref r30)])) rfl (by rw [hml]; rfl) (argsL := []) (rest := []) (lenOf pd4 rfl) rfl (hb hby at_95) rfl (by decide) (Nat.le_of_ble_eq_true rfl) (k' := 4) (n' := 10) rfl rfl (by decide) (by decide)
    refine Go.by st39 ?_
    obtain ⟨r39, rfl, sr39, K39, V39⟩ := q39
    have g_r39 : n0 ≤ r39 := Nat.le_trans Zs37 sr39
    have ne_r28_r39 : r28 ≠ r39 := Nat.ne_of_lt (Nat.lt_of_lt_of_le f37_546.lt sr39)
    have ne_r30_r39 : r30 ≠ r39 := Nat.ne_of_lt (Nat.lt_of_lt_of_le f37_547.lt sr39)
    have ne_d30_r39 : d30 ≠ r39 := Nat.ne_of_lt (Nat.lt_of_lt_of_le f37_549.lt sr39)
    have f40_573 := f37_546.ext (keep_ext K39)
    have f40_574 := Avf.ext V36 (keep_ext K39)
    have f40_575 := f37_547.ext (keep_ext K39)
    have f40_576 := f37_548.ext (keep_ext K39)
    have f40_577 := f37_549.ext (keep_ext K39)
    have f40_578 := Avf.ext f37_550 (keep_ext K39)
    have Zs40 : n0 ≤ h39.size := Nat.le_trans Zs37 (keep_ext K39).1
    show Go p.tables e below _ (T39.setTop (mkF m 98 #[.val (.int p0), .val (.int p1), .val (.int p2), .val (.int p3), .val (.int (3 : Int32)), .val (.int x0), .val (.int x1), .val (.int x2), .val (.ref r28), .val (.ref r30), .unset] [(.ref r39)]))
    refine Go.by (fun _ => XS.astore X39.here hx rfl (hb hby at_98) rfl rfl (l' := #[.val (.int p0), .val (.int p1), .val (.int p2), .val (.int p3), .val (.int (3 : Int32)), .val (.int x0), .val (.int x1), .val (.int x2), .val (.ref r28), .val (.ref r30), .val (.ref r39)]) rfl) ?_
    show Go p.tables e below _ (T39.setTop (mkF m 100 #[.val (.int p0), .val (.int p1), .val (.int p2), .val (.int p3), .val (.int (3 : Int32)), .val (.int x0), .val (.int x1), .val (.int x2), .val (.ref r28), .val (.ref r30), .val (.ref r39)] []))
    refine Go.by (fun _ => XS.aload X39.here hx rfl (hb hby at_100) rfl rfl) ?_
    show Go p.tables e below _ (T39.setTop (mkF m 102 #[.val (.int p0), .val (.int p1), .val (.int p2), .val (.int p3), .val (.int (3 : Int32)), .val (.int x0), .val (.int x1), .val (.int x2), .val (.ref r28), .val (.ref r30), .val (.ref r39)] [(.ref r39)]))
    refine Go.by (X39.len hx hZ V39 (z := (3 : Int32)) rfl (g := (mkF m 102 #[.val (.int p0), .val (.int p1), .val (.int p2), .val (.int p3), .val (.int (3 : Int32)), .val (.int x0), .val (.int x1), .val (.int x2), .val (.ref r28), .val (.ref r30), .val (.ref r39)] [(.ref r39)])) rfl rfl (hb hby at_102)) ?_
    show Go p.tables e below _ (T39.setTop (mkF m 103 #[.val (.int p0), .val (.int p1), .val (.int p2), .val (.int p3), .val (.int (3 : Int32)), .val (.int x0), .val (.int x1), .val (.int x2), .val (.ref r28), .val (.ref r30), .val (.ref r39)] [(.int (3 : Int32))]))
    refine Go.by (fun _ => XS.iload X39.here hx rfl (hb hby at_103) rfl) ?_
    show Go p.tables e below _ (T39.setTop (mkF m 105 #[.val (.int p0), .val (.int p1), .val (.int p2), .val (.int p3), .val (.int (3 : Int32)), .val (.int x0), .val (.int x1), .val (.int x2), .val (.ref r28), .val (.ref r30), .val (.ref r39)] [(.int (3 : Int32)), (.int (3 : Int32))]))
    refine Go.by (fun _ => XS.icmpYes X39.here hx rfl (pc0 := 105) (pc' := 110) rfl (hb hby at_105) rfl (teq (by decide)).1 (by decide) (by decide)) ?_
    show Go p.tables e below _ (T39.setTop (mkF m 110 #[.val (.int p0), .val (.int p1), .val (.int p2), .val (.int p3), .val (.int (3 : Int32)), .val (.int x0), .val (.int x1), .val (.int x2), .val (.ref r28), .val (.ref r30), .val (.ref r39)] []))
    refine Go.by (fun _ => XS.iload X39.here hx rfl (hb hby at_110) rfl) ?_
    show Go p.tables e below _ (T39.setTop (mkF m 112 #[.val (.int p0), .val (.int p1), .val (.int p2), .val (.int p3), .val (.int (3 : Int32)), .val (.int x0), .val (.int x1), .val (.int x2), .val (.ref r28), .val (.ref r30), .val (.ref r39)] [(.int (3 : Int32))]))
    refine Go.by (fun _ => XS.ifNo X39.here hx rfl (hb hby at_112) rfl ((if0 _ _).trans (tlt (by decide)).2.2.2)) ?_
    show Go p.tables e below _ (T39.setTop (mkF m 115 #[.val (.int p0), .val (.int p1), .val (.int p2), .val (.int p3), .val (.int (3 : Int32)), .val (.int x0), .val (.int x1), .val (.int x2), .val (.ref r28), .val (.ref r30), .val (.ref r39)] []))
    refine Go.by (fun _ => XS.aload X39.here hx rfl (hb hby at_115) rfl rfl) ?_
    show Go p.tables e below _ (T39.setTop (mkF m 117 #[.val (.int p0), .val (.int p1), .val (.int p2), .val (.int p3), .val (.int (3 : Int32)), .val (.int x0), .val (.int x1), .val (.int x2), .val (.ref r28), .val (.ref r30), .val (.ref r39)] [(.ref r39)]))
    refine Go.by (fun _ => XS.iconst X39.here hx rfl (hb hby at_117)) ?_
    show Go p.tables e below _ (T39.setTop (mkF m 118 #[.val (.int p0), .val (.int p1), .val (.int p2), .val (.int p3), .val (.int (3 : Int32)), .val (.int x0), .val (.int x1), .val (.int x2), .val (.ref r28), .val (.ref r30), .val (.ref r39)] [(.int (0 : Int32)), (.ref r39)]))
    refine Go.by (X39.ldB hx hZ V39 (by decide) (i := 0) rfl (by decide) (v := (.int x0)) rfl (g := (mkF m 118 #[.val (.int p0), .val (.int p1), .val (.int p2), .val (.int p3), .val (.int (3 : Int32)), .val (.int x0), .val (.int x1), .val (.int x2), .val (.ref r28), .val (.ref r30), .val (.ref r39)] [(.int (0 : Int32)), (.ref r39)])) rfl rfl (hb hby at_118)) ?_
    show Go p.tables e below _ (T39.setTop (mkF m 119 #[.val (.int p0), .val (.int p1), .val (.int p2), .val (.int p3), .val (.int (3 : Int32)), .val (.int x0), .val (.int x1), .val (.int x2), .val (.ref r28), .val (.ref r30), .val (.ref r39)] [(.int x0)]))
    refine Go.by (fun _ => XS.iload X39.here hx rfl (hb hby at_119) rfl) ?_
    show Go p.tables e below _ (T39.setTop (mkF m 121 #[.val (.int p0), .val (.int p1), .val (.int p2), .val (.int p3), .val (.int (3 : Int32)), .val (.int x0), .val (.int x1), .val (.int x2), .val (.ref r28), .val (.ref r30), .val (.ref r39)] [(.int x0), (.int x0)]))
    refine Go.by (fun _ => XS.icmpYes X39.here hx rfl (pc0 := 121) (pc' := 126) rfl (hb hby at_121) rfl (teq rfl).1 (by decide) (by decide)) ?_
    show Go p.tables e below _ (T39.setTop (mkF m 126 #[.val (.int p0), .val (.int p1), .val (.int p2), .val (.int p3), .val (.int (3 : Int32)), .val (.int x0), .val (.int x1), .val (.int x2), .val (.ref r28), .val (.ref r30), .val (.ref r39)] []))
    refine Go.by (fun _ => XS.iload X39.here hx rfl (hb hby at_126) rfl) ?_
    show Go p.tables e below _ (T39.setTop (mkF m 128 #[.val (.int p0), .val (.int p1), .val (.int p2), .val (.int p3), .val (.int (3 : Int32)), .val (.int x0), .val (.int x1), .val (.int x2), .val (.ref r28), .val (.ref r30), .val (.ref r39)] [(.int (3 : Int32))]))
    refine Go.by (fun _ => XS.iconst X39.here hx rfl (hb hby at_128)) ?_
    show Go p.tables e below _ (T39.setTop (mkF m 129 #[.val (.int p0), .val (.int p1), .val (.int p2), .val (.int p3), .val (.int (3 : Int32)), .val (.int x0), .val (.int x1), .val (.int x2), .val (.ref r28), .val (.ref r30), .val (.ref r39)] [(.int (1 : Int32)), (.int (3 : Int32))]))
    refine Go.by (fun _ => XS.icmpNo X39.here hx rfl (hb hby at_129) rfl (tlt (by decide)).2.2.2) ?_
    show Go p.tables e below _ (T39.setTop (mkF m 132 #[.val (.int p0), .val (.int p1), .val (.int p2), .val (.int p3), .val (.int (3 : Int32)), .val (.int x0), .val (.int x1), .val (.int x2), .val (.ref r28), .val (.ref r30), .val (.ref r39)] []))
    refine Go.by (fun _ => XS.aload X39.here hx rfl (hb hby at_132) rfl rfl) ?_
    show Go p.tables e below _ (T39.setTop (mkF m 134 #[.val (.int p0), .val (.int p1), .val (.int p2), .val (.int p3), .val (.int (3 : Int32)), .val (.int x0), .val (.int x1), .val (.int x2), .val (.ref r28), .val (.ref r30), .val (.ref r39)] [(.ref r39)]))
    refine Go.by (fun _ => XS.iconst X39.here hx rfl (hb hby at_134)) ?_
    show Go p.tables e below _ (T39.setTop (mkF m 135 #[.val (.int p0), .val (.int p1), .val (.int p2), .val (.int p3), .val (.int (3 : Int32)), .val (.int x0), .val (.int x1), .val (.int x2), .val (.ref r28), .val (.ref r30), .val (.ref r39)] [(.int (1 : Int32)), (.ref r39)]))
    refine Go.by (X39.ldB hx hZ V39 (by decide) (i := 1) rfl (by decide) (v := (.int x1)) rfl (g := (mkF m 135 #[.val (.int p0), .val (.int p1), .val (.int p2), .val (.int p3), .val (.int (3 : Int32)), .val (.int x0), .val (.int x1), .val (.int x2), .val (.ref r28), .val (.ref r30), .val (.ref r39)] [(.int (1 : Int32)), (.ref r39)])) rfl rfl (hb hby at_135)) ?_
    show Go p.tables e below _ (T39.setTop (mkF m 136 #[.val (.int p0), .val (.int p1), .val (.int p2), .val (.int p3), .val (.int (3 : Int32)), .val (.int x0), .val (.int x1), .val (.int x2), .val (.ref r28), .val (.ref r30), .val (.ref r39)] [(.int x1)]))
    refine Go.by (fun _ => XS.iload X39.here hx rfl (hb hby at_136) rfl) ?_
    show Go p.tables e below _ (T39.setTop (mkF m 138 #[.val (.int p0), .val (.int p1), .val (.int p2), .val (.int p3), .val (.int (3 : Int32)), .val (.int x0), .val (.int x1), .val (.int x2), .val (.ref r28), .val (.ref r30), .val (.ref r39)] [(.int x1), (.int x1)]))
    refine Go.by (fun _ => XS.icmpYes X39.here hx rfl (pc0 := 138) (pc' := 143) rfl (hb hby at_138) rfl (teq rfl).1 (by decide) (by decide)) ?_
    show Go p.tables e below _ (T39.setTop (mkF m 143 #[.val (.int p0), .val (.int p1), .val (.int p2), .val (.int p3), .val (.int (3 : Int32)), .val (.int x0), .val (.int x1), .val (.int x2), .val (.ref r28), .val (.ref r30), .val (.ref r39)] []))
    refine Go.by (fun _ => XS.iload X39.here hx rfl (hb hby at_143) rfl) ?_
    show Go p.tables e below _ (T39.setTop (mkF m 145 #[.val (.int p0), .val (.int p1), .val (.int p2), .val (.int p3), .val (.int (3 : Int32)), .val (.int x0), .val (.int x1), .val (.int x2), .val (.ref r28), .val (.ref r30), .val (.ref r39)] [(.int (3 : Int32))]))
    refine Go.by (fun _ => XS.iconst X39.here hx rfl (hb hby at_145)) ?_
    show Go p.tables e below _ (T39.setTop (mkF m 146 #[.val (.int p0), .val (.int p1), .val (.int p2), .val (.int p3), .val (.int (3 : Int32)), .val (.int x0), .val (.int x1), .val (.int x2), .val (.ref r28), .val (.ref r30), .val (.ref r39)] [(.int (2 : Int32)), (.int (3 : Int32))]))
    refine Go.by (fun _ => XS.icmpNo X39.here hx rfl (hb hby at_146) rfl (tlt (by decide)).2.2.2) ?_
    show Go p.tables e below _ (T39.setTop (mkF m 149 #[.val (.int p0), .val (.int p1), .val (.int p2), .val (.int p3), .val (.int (3 : Int32)), .val (.int x0), .val (.int x1), .val (.int x2), .val (.ref r28), .val (.ref r30), .val (.ref r39)] []))
    refine Go.by (fun _ => XS.aload X39.here hx rfl (hb hby at_149) rfl rfl) ?_
    show Go p.tables e below _ (T39.setTop (mkF m 151 #[.val (.int p0), .val (.int p1), .val (.int p2), .val (.int p3), .val (.int (3 : Int32)), .val (.int x0), .val (.int x1), .val (.int x2), .val (.ref r28), .val (.ref r30), .val (.ref r39)] [(.ref r39)]))
    refine Go.by (fun _ => XS.iconst X39.here hx rfl (hb hby at_151)) ?_
    show Go p.tables e below _ (T39.setTop (mkF m 152 #[.val (.int p0), .val (.int p1), .val (.int p2), .val (.int p3), .val (.int (3 : Int32)), .val (.int x0), .val (.int x1), .val (.int x2), .val (.ref r28), .val (.ref r30), .val (.ref r39)] [(.int (2 : Int32)), (.ref r39)]))
    refine Go.by (X39.ldB hx hZ V39 (by decide) (i := 2) rfl (by decide) (v := (.int x2)) rfl (g := (mkF m 152 #[.val (.int p0), .val (.int p1), .val (.int p2), .val (.int p3), .val (.int (3 : Int32)), .val (.int x0), .val (.int x1), .val (.int x2), .val (.ref r28), .val (.ref r30), .val (.ref r39)] [(.int (2 : Int32)), (.ref r39)])) rfl rfl (hb hby at_152)) ?_
    show Go p.tables e below _ (T39.setTop (mkF m 153 #[.val (.int p0), .val (.int p1), .val (.int p2), .val (.int p3), .val (.int (3 : Int32)), .val (.int x0), .val (.int x1), .val (.int x2), .val (.ref r28), .val (.ref r30), .val (.ref r39)] [(.int x2)]))
    refine Go.by (fun _ => XS.iload X39.here hx rfl (hb hby at_153) rfl) ?_
    show Go p.tables e below _ (T39.setTop (mkF m 155 #[.val (.int p0), .val (.int p1), .val (.int p2), .val (.int p3), .val (.int (3 : Int32)), .val (.int x0), .val (.int x1), .val (.int x2), .val (.ref r28), .val (.ref r30), .val (.ref r39)] [(.int x2), (.int x2)]))
    refine Go.by (fun _ => XS.icmpYes X39.here hx rfl (pc0 := 155) (pc' := 160) rfl (hb hby at_155) rfl (teq rfl).1 (by decide) (by decide)) ?_
    show Go p.tables e below _ (T39.setTop (mkF m 160 #[.val (.int p0), .val (.int p1), .val (.int p2), .val (.int p3), .val (.int (3 : Int32)), .val (.int x0), .val (.int x1), .val (.int x2), .val (.ref r28), .val (.ref r30), .val (.ref r39)] []))
    refine Go.by (fun _ => XS.iconst X39.here hx rfl (hb hby at_160)) ?_
    show Go p.tables e below _ (T39.setTop (mkF m 161 #[.val (.int p0), .val (.int p1), .val (.int p2), .val (.int p3), .val (.int (3 : Int32)), .val (.int x0), .val (.int x1), .val (.int x2), .val (.ref r28), .val (.ref r30), .val (.ref r39)] [(.int (1 : Int32))]))
    exact Go.retN X39 hx hlk (z' := (1 : Int32)) hret (by simp) (hb hby at_161) rfl (by decide) (by decide) rfl
set_option maxRecDepth 65536 in
set_option maxHeartbeats 40000000 in
theorem comes_1 {Post : Tables → Env → Array Value → State → Outcome → State → Prop} (hpost : ∀ tb e args s v u, (limb_1_1.after args s (.returned v) u = true ∧ limb_1_2.after args s (.returned v) u = true ∧ True) → FrameEnd s (.returned v) u (Jvm.fieldLocs frame_1_writes args s ++ Jvm.arrayLocs frame_1_arrays args s ++ Jvm.staticLocs frame_1_statics s) 16 128 → Post tb e args s (.returned v) u) :
    ArmFor flags0 classFile x code maxLocals ret World_1 tables_1 room_1 Calls_1 rest_1 Pre_1 Post := by
  intro l hfl _ _ p e ha hc hk s m args below hf hA hF happ hP
  obtain ⟨hcalls, hrest, hpre⟩ := hP
  obtain ⟨-, -, -, hnamed, -, -, -, hat⟩ := (Spec.applies_iff hf).mp happ
  obtain ⟨hg, hn⟩ := and_e (Cond.before_iff.mp (show (Jvm.Cond.and given_1 narrow_1).before args s = true from hpre))
  obtain ⟨gc, gr0⟩ := and_e hg
  obtain ⟨ga0, gr1⟩ := and_e gr0
  obtain ⟨ga1, gr2⟩ := and_e gr1
  obtain ⟨ga2, ga3⟩ := and_e gr2
  obtain ⟨w0, w1, w2, w3, rfl⟩ : ∃ w0 w1 w2 w3 : Value, args = #[w0, w1, w2, w3] := by
    have hs : args.size = 4 := by simpa [Cond.value, given_1] using gc
    obtain ⟨L⟩ := args
    match L, hs with
    | [w0, w1, w2, w3], _ => exact ⟨w0, w1, w2, w3, rfl⟩
  have hw := fun d (hd : d ∈ tables_1) => atoms_spec (ws := Jvm.Cond.code x code maxLocals ret :: tables_1) hat d (List.mem_cons_of_mem _ hd)
  have hfit : Fit s := fun {y c} hc i hi => by
    obtain ⟨ha, rfl⟩ := Array.getElem?_eq_some_iff.mp hc
    have q := List.all_eq_true.mp ((Array.all_eq_true_iff_forall_mem.mp hF) _ (Array.getElem_mem ha)) i (List.mem_range.mpr hi)
    simpa [Array.getElem?_eq_getElem hi] using q
  obtain ⟨i0, ei0⟩ := is_v ga0
  obtain rfl : w0 = (.int i0) := Option.some.inj ei0
  obtain ⟨i1, ei1⟩ := is_v ga1
  obtain rfl : w1 = (.int i1) := Option.some.inj ei1
  obtain ⟨i2, ei2⟩ := is_v ga2
  obtain rfl : w2 = (.int i2) := Option.some.inj ei2
  obtain ⟨i3, ei3⟩ := is_v ga3
  obtain rfl : w3 = (.int i3) := Option.some.inj ei3
  obtain ⟨n, o, h1, h2, h3, _, L, rfl, ⟨rfl, N⟩, hq⟩ := rm0 l s _ hw tables_1 i0 i1 i2 i3 s.heap s.heap.size (Nat.le_refl _) p e ha hc hk s m _ below hf ((Spec.applies_iff_loose hf).mp happ).1 ⟨rfl, State.Warmed39.refl s, rfl⟩ trivial
  refine ⟨n, _, h1, h2, h3, hpost _ _ _ _ _ _ ⟨Cond.after_iff.mpr rfl, Cond.after_iff.mpr (eq_i res_at (Term.int_eval (1)) rfl), trivial⟩ ⟨hq.1, hq.2.1, (hq.2.2.sift fun y hy => Or.inr (N y hy)).mono (by decide) (by decide)⟩⟩
theorem main_1_1 : Claimed_1_1 := comes_1 fun _ _ _ _ _ _ h hF => ⟨h.1, hF⟩
theorem main_1_2 : Claimed_1_2 := comes_1 fun _ _ _ _ _ _ h hF => ⟨h.2.1, hF⟩
end Jvm.Pilot.@@N@@
namespace Jvm.Pilot.@@N@@
open Jvm Jvm.ClassFile Sem Op Lib Jvm.Free Jvm.Stand Jvm.Pilot.@@N@@.Jvm.D
/-! MADE BY PROGRAM (witnessworld.py) out of the Statement's table words and the real class files: 9 classes; the members and pool entries that the words name. The judged class is class 1, her method 2. -/
namespace start1
open Jvm.ClassFile
def u (s : String) : CpInfo := .utf8 (stringToUtf16 s)
/-- a pool by its gaps: so many unusable entries, then the entry; so many at the end -/
def gap : Nat → List CpInfo → List CpInfo
  | 0, r => r
  | n + 1, r => .unusable :: gap n r
def poolList (es : List (Nat × CpInfo)) (last : Nat) : List CpInfo := es.foldr (fun e r => gap e.1 (e.2 :: r)) (gap last [])
def pool (es : List (Nat × CpInfo)) (last : Nat) : Array CpInfo := ⟨poolList es last⟩
def fileOf (pool : Array CpInfo) (this : Nat) (attrs : Array Attribute := #[]) (ms : Array MethodInfo := #[]) (fl : Nat := 33) (sup : Nat := 0) (ifs : Array Nat := #[]) (fds : Array FieldInfo := #[]) : ClassFile where
  minorVersion := 0
  majorVersion := 65
  constantPool := pool
  accessFlags := fl
  thisClass := this
  superClass := sup
  interfaces := ifs
  fields := fds
  methods := ms
  attributes := attrs
def plain (name : String) (sup : Option ClassId) : Class where
  name := name
  kind := .ordinary
  loader := none
  accessFlags := 33
  super := sup
  interfaces := #[]
  cf := none
  fields := #[]
  methods := #[]
  instanceTypes := #[]
  staticTypes := #[]
  resolved := #[]
  callSites := []
  init := .initialized
  statics := none
  mirror := none

def pool0 : Array CpInfo := pool [(5, u "<init>"), (0, u "()V"), (1, .class_ 10), (1, u "java/lang/Object"), (85, u "clone"), (0, u "()Ljava/lang/Object;")] 26

def k0c0 : Code := { maxStack := 0, maxLocals := 1, code := object_method_1_code, exceptionTable := #[], attributes := #[] }
def k0m0 : Method := { name := "<init>", desc := "()V", sig := { parameters := [], returnType := none }, accessFlags := 1, code := some k0c0 }
def k0m1 : Method := { name := "clone", desc := "()Ljava/lang/Object;", sig := { parameters := [], returnType := some (.object "java/lang/Object") }, accessFlags := 260, code := none }
/-- java/lang/Object -/
def k0 : Class := { plain "java/lang/Object" none with
  accessFlags := 33
  interfaces := #[]
  cf := some (fileOf pool0 8 #[] #[{ accessFlags := 1, nameIndex := 5, descriptorIndex := 6, attributes := #[] }, { accessFlags := 260, nameIndex := 96, descriptorIndex := 97, attributes := #[] }] 33 0 #[] #[])
  fields := #[]
  methods := #[k0m0, k0m1]
  instanceTypes := #[]
  staticTypes := #[]
  resolved := Array.replicate 124 none
  statics := none }

def pool1 : Array CpInfo := pool [(2, .class_ 4), (1, u "java/lang/Object"), (0, u "<init>"), (0, u "()V"), (0, .methodref 8 9), (0, .class_ 10), (0, .nameAndType 11 12), (0, u "com/example/istorie/istorie/BytesCopyOfPinLaw"), (0, u "make"), (0, u "(IBBB)[B"), (0, .methodref 14 15), (0, .class_ 16), (0, .nameAndType 17 18), (0, u "com/example/istorie/istorie/Bytes"), (0, u "copyOf"), (0, u "([B)Lcom/example/istorie/istorie/Bytes;"), (0, .methodref 14 20), (0, .nameAndType 21 22), (0, u "length"), (0, u "()I"), (0, .methodref 14 24), (0, .nameAndType 25 26), (0, u "toByteArray"), (0, u "()[B"), (3, u "law"), (0, u "(IIII)Z")] 4

def k1m0 : Method := { name := "<init>", desc := "()V", sig := { parameters := [], returnType := none }, accessFlags := 1, code := none }
def k1c1 : Code := { maxStack := 4, maxLocals := 4, code := method_2_code, exceptionTable := #[], attributes := #[] }
def k1m1 : Method := { name := "make", desc := "(IBBB)[B", sig := { parameters := [.int, .byte, .byte, .byte], returnType := some (.array .byte) }, accessFlags := 10, code := some k1c1 }
def k1c2 : Code := { maxStack := 4, maxLocals := 11, code := code, exceptionTable := #[], attributes := #[] }
def k1m2 : Method := { name := "law", desc := "(IIII)Z", sig := { parameters := [.int, .int, .int, .int], returnType := some .boolean }, accessFlags := 9, code := some k1c2 }
/-- com/example/istorie/istorie/BytesCopyOfPinLaw -/
def k1 : Class := { plain "com/example/istorie/istorie/BytesCopyOfPinLaw" (some 0) with
  accessFlags := 49
  interfaces := #[]
  cf := some (fileOf pool1 8 #[] #[{ accessFlags := 1, nameIndex := 5, descriptorIndex := 6, attributes := #[] }, { accessFlags := 10, nameIndex := 11, descriptorIndex := 12, attributes := #[] }, { accessFlags := 9, nameIndex := 30, descriptorIndex := 31, attributes := #[] }] 49 2 #[] #[])
  fields := #[]
  methods := #[k1m0, k1m1, k1m2]
  instanceTypes := #[]
  staticTypes := #[]
  resolved := Array.replicate 36 none
  statics := none }

def pool2 : Array CpInfo := pool [(1, .methodref 2 3), (0, .class_ 4), (0, .nameAndType 5 6), (0, u "java/lang/Object"), (0, u "<init>"), (0, u "()V"), (0, .fieldref 8 9), (0, .class_ 10), (0, .nameAndType 11 12), (0, u "com/example/istorie/istorie/Bytes"), (0, u "content"), (0, u "[B"), (0, .methodref 14 15), (0, .class_ 12), (0, .nameAndType 16 17), (0, u "clone"), (0, u "()Ljava/lang/Object;"), (0, .methodref 8 19), (0, .nameAndType 5 20), (0, u "([B)V"), (34, u "copyOf"), (0, u "([B)Lcom/example/istorie/istorie/Bytes;"), (2, u "length"), (0, u "()I"), (0, u "toByteArray"), (0, u "()[B")] 9

def k2c0 : Code := { maxStack := 2, maxLocals := 2, code := prog_2_method_1_code, exceptionTable := #[], attributes := #[] }
def k2m0 : Method := { name := "<init>", desc := "([B)V", sig := { parameters := [(.array .byte)], returnType := none }, accessFlags := 2, code := some k2c0 }
def k2c1 : Code := { maxStack := 3, maxLocals := 1, code := prog_2_method_2_code, exceptionTable := #[], attributes := #[] }
def k2m1 : Method := { name := "copyOf", desc := "([B)Lcom/example/istorie/istorie/Bytes;", sig := { parameters := [(.array .byte)], returnType := some (.object "com/example/istorie/istorie/Bytes") }, accessFlags := 9, code := some k2c1 }
def k2c2 : Code := { maxStack := 1, maxLocals := 1, code := prog_2_method_4_code, exceptionTable := #[], attributes := #[] }
def k2m2 : Method := { name := "length", desc := "()I", sig := { parameters := [], returnType := some .int }, accessFlags := 1, code := some k2c2 }
def k2c3 : Code := { maxStack := 1, maxLocals := 1, code := prog_2_method_5_code, exceptionTable := #[], attributes := #[] }
def k2m3 : Method := { name := "toByteArray", desc := "()[B", sig := { parameters := [], returnType := some (.array .byte) }, accessFlags := 1, code := some k2c3 }
/-- com/example/istorie/istorie/Bytes -/
def k2 : Class := { plain "com/example/istorie/istorie/Bytes" (some 0) with
  accessFlags := 49
  interfaces := #[]
  cf := some (fileOf pool2 8 #[] #[{ accessFlags := 2, nameIndex := 5, descriptorIndex := 20, attributes := #[] }, { accessFlags := 9, nameIndex := 55, descriptorIndex := 56, attributes := #[] }, { accessFlags := 1, nameIndex := 59, descriptorIndex := 60, attributes := #[] }, { accessFlags := 1, nameIndex := 61, descriptorIndex := 62, attributes := #[] }] 49 2 #[] #[{ accessFlags := 18, nameIndex := 11, descriptorIndex := 12, attributes := #[] }])
  fields := #[{ name := "content", type := (.array .byte), accessFlags := 18, slot := 0, constantValue := 0 }]
  methods := #[k2m0, k2m1, k2m2, k2m3]
  instanceTypes := #[(.array .byte)]
  staticTypes := #[]
  resolved := Array.replicate 72 none
  statics := none }

def pool3 : Array CpInfo := pool [(1, .class_ 2), (0, u "java/lang/Cloneable"), (0, .class_ 4), (0, u "java/lang/Object")] 2

/-- java/lang/Cloneable -/
def k3 : Class := { plain "java/lang/Cloneable" (some 0) with
  accessFlags := 1537
  interfaces := #[]
  cf := some (fileOf pool3 1 #[] #[] 1537 3 #[] #[])
  fields := #[]
  methods := #[]
  instanceTypes := #[]
  staticTypes := #[]
  resolved := Array.replicate 7 none
  statics := none }

def pool4 : Array CpInfo := pool [(1, u "java/io/Serializable"), (0, .class_ 1), (0, u "java/lang/Object"), (0, .class_ 3)] 3

/-- java/io/Serializable -/
def k4 : Class := { plain "java/io/Serializable" (some 0) with
  accessFlags := 1537
  interfaces := #[]
  cf := some (fileOf pool4 2 #[] #[] 1537 4 #[] #[])
  fields := #[]
  methods := #[]
  instanceTypes := #[]
  staticTypes := #[]
  resolved := Array.replicate 8 none
  statics := none }

/-- the primitive byte -/
def k5 : Class := { plain "byte" none with kind := .primitive 'B', accessFlags := 0x411 }
/-- [B -/
def k6 : Class := { plain "[B" (some 0) with kind := .array 5 .byte, interfaces := #[3, 4], accessFlags := 1041 }

/-- the primitive int -/
def k7 : Class := { plain "int" none with kind := .primitive 'I', accessFlags := 0x411 }
/-- [I -/
def k8 : Class := { plain "[I" (some 0) with kind := .array 7 .int, interfaces := #[3, 4], accessFlags := 1041 }

def heap : Heap := #[]
def classes : Array Class := #[k0, k1, k2, k3, k4, k5, k6, k7, k8]
def interned : List (Array UInt16 × Addr) := []
def slotsUsed : Nat := 0
def theMethod : MethodId := ⟨1, 2⟩
def args0 : Array Value := #[.int 5, .int 7, .int 8, .int 9]
def aboutOver (below : List Frame) : State where
  vm := { classes := classes, interned := interned.toArray }
  heap := heap
  slotsUsed := slotsUsed
  threads := #[{ frames := .invoking theMethod args0 :: below }]
def below0 : List Frame := [.native { method := ⟨0, 0⟩, args := #[] }]
def about1 : State := aboutOver below0
def p0 : Program := .bare "" "" ""
def e0 : Env := launch0.env 0 0 0
theorem w_frames : about1.frames = Frame.invoking theMethod args0 :: below0 := rfl
set_option maxRecDepth 65536 in
theorem w_args : argsFit about1.vm theMethod args0 = true := by decide +kernel
set_option maxRecDepth 65536 in
theorem w_heap : heapFits about1 = true := by decide +kernel
set_option maxRecDepth 65536 in
theorem w_runnable : about1.curStatus? = some .runnable := by decide +kernel
set_option maxRecDepth 65536 in
theorem w_alone : about1.alone = true := by decide +kernel
set_option maxRecDepth 65536 in
theorem w_named : about1.methodNamed? x = some theMethod := by decide +kernel
set_option maxRecDepth 65536 in
theorem w_hears : about1.hears theMethod below0 = true := by decide +kernel
set_option maxRecDepth 65536 in
theorem w_ripe : about1.ripe theMethod args0 below0 = true := by decide +kernel
theorem w_running : about1.status = .running := rfl
set_option maxRecDepth 65536 in
theorem w_room : about1.hasRoom e0.platform room_1 = true :=
  launch0.hasRoom_least _ room_1 (by decide +kernel) (by decide +kernel) (by decide +kernel) (by decide +kernel) (by decide +kernel) (by decide +kernel)
theorem allAtoms_all (ts : List Jvm.Cond) (a : Array Jvm.Value) (st : Jvm.State) : (allAtoms ts).before a st = ts.all (fun c => c.before a st) := by
  induction ts with
  | nil => rfl
  | cons c t ih =>
    show (Jvm.Cond.and c (allAtoms t)).before a st = _
    rw [Jvm.Cond.before_and, ih, List.all_cons]
def words1 : List Jvm.Cond := Jvm.Cond.code x code maxLocals ret :: tables_1
/-- a 'code' word, met by the world's own term for the bytes: nothing is compared byte by byte -/
theorem code_word {y : MethodName} {bytes : ByteArray} {mx : Nat} {rt : Option FieldType} {a : Array Value} {s : State} {m : MethodId} {meth : Method} {c : Code} (h1 : s.methodNamed? y = some m) (h2 : s.vm.method? m = some meth) (h3 : meth.code = some c) (h4 : c.code = bytes)
    (h5 : (c.maxLocals == mx && c.exceptionTable.isEmpty && decide (c.maxStack ≤ mostOperands) && decide (meth.sig.returnType = rt) && !meth.locks && decide (parseMethodDescriptor y.desc = some meth.sig)) = true) : (Jvm.Cond.code y bytes mx rt).before a s = true := by
  simp only [Bool.and_eq_true, beq_iff_eq, Bool.not_eq_true', decide_eq_true_eq] at h5
  obtain ⟨⟨⟨⟨⟨g1, g2⟩, g3⟩, g4⟩, g5⟩, g6⟩ := h5
  simp [Cond.before, Cond.holds, Cond.value, h1, h2, h3, h4, g1, g2, g3, g4, g5, g6]
def isCode : Jvm.Cond → Bool
  | .code _ _ _ _ => true
  | _ => false
theorem all_split {L : List Jvm.Cond} {P : Jvm.Cond → Bool} (h1 : L.all (fun c => isCode c || P c) = true) (h2 : ∀ c ∈ L.filter isCode, P c = true) : L.all P = true := by
  refine List.all_eq_true.mpr fun c hc => ?_
  have h := List.all_eq_true.mp h1 c hc
  rcases Bool.eq_false_or_eq_true (isCode c) with hi | hi
  · exact h2 c (List.mem_filter.mpr ⟨hc, hi⟩)
  · simpa [hi] using h
set_option maxRecDepth 65536 in
theorem w_c0 : (Jvm.Cond.code x code maxLocals ret).before args0 about1 = true := code_word (m := ⟨1, 2⟩) (meth := k1m2) (c := k1c2) (by decide +kernel) rfl rfl rfl (by decide +kernel)
set_option maxRecDepth 65536 in
theorem w_c1 : (Jvm.Cond.code ({ cls := "com/example/istorie/istorie/BytesCopyOfPinLaw", name := "make", desc := "(IBBB)[B" } : Jvm.MethodName) method_2_code (4 : Nat) (Option.some (Jvm.ClassFile.FieldType.array Jvm.ClassFile.FieldType.byte))).before args0 about1 = true := code_word (m := ⟨1, 1⟩) (meth := k1m1) (c := k1c1) (by decide +kernel) rfl rfl rfl (by decide +kernel)
set_option maxRecDepth 65536 in
theorem w_c2 : (Jvm.Cond.code ({ cls := "com/example/istorie/istorie/Bytes", name := "copyOf", desc := "([B)Lcom/example/istorie/istorie/Bytes;" } : Jvm.MethodName) prog_2_method_2_code (1 : Nat) (Option.some (Jvm.ClassFile.FieldType.object "com/example/istorie/istorie/Bytes"))).before args0 about1 = true := code_word (m := ⟨2, 1⟩) (meth := k2m1) (c := k2c1) (by decide +kernel) rfl rfl rfl (by decide +kernel)
set_option maxRecDepth 65536 in
theorem w_c3 : (Jvm.Cond.code ({ cls := "com/example/istorie/istorie/Bytes", name := "<init>", desc := "([B)V" } : Jvm.MethodName) prog_2_method_1_code (2 : Nat) (Option.none : Option Jvm.ClassFile.FieldType)).before args0 about1 = true := code_word (m := ⟨2, 0⟩) (meth := k2m0) (c := k2c0) (by decide +kernel) rfl rfl rfl (by decide +kernel)
set_option maxRecDepth 65536 in
theorem w_c4 : (Jvm.Cond.code ({ cls := "java/lang/Object", name := "<init>", desc := "()V" } : Jvm.MethodName) object_method_1_code (1 : Nat) (Option.none : Option Jvm.ClassFile.FieldType)).before args0 about1 = true := code_word (m := ⟨0, 0⟩) (meth := k0m0) (c := k0c0) (by decide +kernel) rfl rfl rfl (by decide +kernel)
set_option maxRecDepth 65536 in
theorem w_c5 : (Jvm.Cond.code ({ cls := "com/example/istorie/istorie/Bytes", name := "length", desc := "()I" } : Jvm.MethodName) prog_2_method_4_code (1 : Nat) (Option.some Jvm.ClassFile.FieldType.int)).before args0 about1 = true := code_word (m := ⟨2, 2⟩) (meth := k2m2) (c := k2c2) (by decide +kernel) rfl rfl rfl (by decide +kernel)
set_option maxRecDepth 65536 in
theorem w_c6 : (Jvm.Cond.code ({ cls := "com/example/istorie/istorie/Bytes", name := "toByteArray", desc := "()[B" } : Jvm.MethodName) prog_2_method_5_code (1 : Nat) (Option.some (Jvm.ClassFile.FieldType.array Jvm.ClassFile.FieldType.byte))).before args0 about1 = true := code_word (m := ⟨2, 3⟩) (meth := k2m3) (c := k2c3) (by decide +kernel) rfl rfl rfl (by decide +kernel)
def codes1 : List Jvm.Cond := [Jvm.Cond.code x code maxLocals ret, Jvm.Cond.code ({ cls := "com/example/istorie/istorie/BytesCopyOfPinLaw", name := "make", desc := "(IBBB)[B" } : Jvm.MethodName) method_2_code (4 : Nat) (Option.some (Jvm.ClassFile.FieldType.array Jvm.ClassFile.FieldType.byte)), Jvm.Cond.code ({ cls := "com/example/istorie/istorie/Bytes", name := "copyOf", desc := "([B)Lcom/example/istorie/istorie/Bytes;" } : Jvm.MethodName) prog_2_method_2_code (1 : Nat) (Option.some (Jvm.ClassFile.FieldType.object "com/example/istorie/istorie/Bytes")), Jvm.Cond.code ({ cls := "com/example/istorie/istorie/Bytes", name := "<init>", desc := "([B)V" } : Jvm.MethodName) prog_2_method_1_code (2 : Nat) (Option.none : Option Jvm.ClassFile.FieldType), Jvm.Cond.code ({ cls := "java/lang/Object", name := "<init>", desc := "()V" } : Jvm.MethodName) object_method_1_code (1 : Nat) (Option.none : Option Jvm.ClassFile.FieldType), Jvm.Cond.code ({ cls := "com/example/istorie/istorie/Bytes", name := "length", desc := "()I" } : Jvm.MethodName) prog_2_method_4_code (1 : Nat) (Option.some Jvm.ClassFile.FieldType.int), Jvm.Cond.code ({ cls := "com/example/istorie/istorie/Bytes", name := "toByteArray", desc := "()[B" } : Jvm.MethodName) prog_2_method_5_code (1 : Nat) (Option.some (Jvm.ClassFile.FieldType.array Jvm.ClassFile.FieldType.byte))]
set_option maxRecDepth 65536 in
theorem codes_eq : words1.filter isCode = codes1 := rfl
theorem w_codes : ∀ c ∈ words1.filter isCode, c.before args0 about1 = true := by
  rw [codes_eq]
  intro c hc
  simp only [codes1, List.mem_cons, List.not_mem_nil, or_false] at hc
  rcases hc with rfl | rfl | rfl | rfl | rfl | rfl | rfl
  · exact w_c0
  · exact w_c1
  · exact w_c2
  · exact w_c3
  · exact w_c4
  · exact w_c5
  · exact w_c6
set_option maxRecDepth 65536 in
theorem w_t1 : (words1.take 24).all (fun c => isCode c || c.before args0 about1) = true := by decide +kernel
set_option maxRecDepth 65536 in
theorem w_t2 : (words1.drop 24).all (fun c => isCode c || c.before args0 about1) = true := by decide +kernel
theorem w_tables : (allAtoms (Jvm.Cond.code x code maxLocals ret :: tables_1)).before args0 about1 = true := by
  rw [allAtoms_all]
  show words1.all (fun c => c.before args0 about1) = true
  refine all_split ?_ w_codes
  rw [← List.take_append_drop 24 words1, List.all_append, w_t1, w_t2]
  rfl
set_option maxRecDepth 65536 in
theorem w_case : (Jvm.Cond.and given_1 narrow_1).before args0 about1 = true := by decide +kernel
theorem w_applies : (headSpec (Jvm.Cond.code x code maxLocals ret :: tables_1) room_1).applies x e0.platform about1 = true :=
  (Spec.applies_iff w_frames).mpr ⟨w_running, w_runnable, w_alone, w_named, w_hears, w_ripe, w_room, w_tables⟩
theorem atStart : AtStart classFile x code maxLocals ret World_1 tables_1 room_1 Calls_1 rest_1 Pre_1 launch0 p0 e0 about1 theMethod args0 below0 :=
  ⟨lists_1, trivial, launch0.admits_env _ _ _, launch0.least_env, fairChoices_fair.cas, fairChoices_fair.clock, w_frames, w_args, w_heap, w_applies, trivial, trivial, w_case⟩
end start1
theorem witness_1 : WitnessClaimed_1 := ⟨start1.p0, start1.e0, start1.about1, start1.theMethod, start1.args0, start1.below0, start1.atStart⟩
end Jvm.Pilot.@@N@@
