import JvmDerived
import JvmDerived.Pilot.@@N@@Statement
import JvmDerived.Pilot.@@N@@Code
set_option linter.unusedVariables false
set_option linter.unusedSimpArgs false
namespace Jvm.RoadKit
open Sem ClassFile Op Lib Jvm.Stand Jvm.Free Jvm.LawKit
/-- the run from S ends, and ends as Q says -/
def Go (tb : Tables) (e : Env) (below : List Frame) (Q : Outcome → State → Prop) (S : State) : Prop := ∃ s₂ o, Steps tb e below S s₂ ∧ s₂.status = .running ∧ Ended s₂ below o ∧ Q o s₂
theorem Go.by {tb : Tables} {e : Env} {below : List Frame} {Q : Outcome → State → Prop} {S S' : State} (h : ∀ t, Steps tb e below S' t → Steps tb e below S t) (k : Go tb e below Q S') : Go tb e below Q S := by
  obtain ⟨s₂, o, h1, r⟩ := k
  exact ⟨s₂, o, h _ h1, r⟩
/-- what a contract says of the end -/
def Ret (s : State) (n0 : Nat) (Q : Option Value → Heap → Prop) (C S : Nat) : Outcome → State → Prop := fun o U => ∃ v L, o = .returned v ∧ (Q v U.heap ∧ Fr n0 L) ∧ FrameEnd s o U L C S
def Met (l : Launch) (Z : State) (n0 : Nat) (y : MethodName) (bytes : ByteArray) (maxL : Nat) (ret : Option FieldType) (ws : List Cond) (rm : Room) (as : Array Value) (h0 : Heap) (Q : Option Value → Heap → Prop) : Prop :=
  MetFree l y (head1 (Cond.code y bytes maxL ret :: ws) rm) (fun a U => a = as ∧ Z.Warmed39 U.vm ∧ U.heap = h0) (fun _ _ _ _ _ => True) (fun _ U o U' => ∃ v L, o = .returned v ∧ (Q v U'.heap ∧ Fr n0 L) ∧ FrameEnd U o U' L rm.cells rm.slots)
/-- where the walk stands: the heap is h, k cells of n slots were made, nothing below n0 was written -/
def Sd (n0 : Nat) (p : Program) (l : Launch) (e : Env) (R : Room) (s : State) (m : MethodId) (args : Array Value) (below : List Frame) (meth : Method) (c : Code) (T : State) (h : Heap) (k n : Nat) : Prop :=
  ∃ locs, Stand p l e R s m args below meth c T locs k n ∧ Fr n0 locs ∧ T.heap = h
section Sds
variable {n0 : Nat} {p : Program} {l : Launch} {e : Env} {R : Room} {s : State} {m : MethodId} {args : Array Value} {below : List Frame} {meth : Method} {c : Code} {T : State} {h : Heap} {k n : Nat} {Z : State} {a0 : Array Value}
theorem catV {v : Value} (h : v.isRef = true) : v.category = 1 := by cases v <;> first | rfl | (cases h; done)
theorem Sd.here (X : Sd n0 p l e R s m args below meth c T h k n) : At T m c below := by obtain ⟨_, X, -⟩ := X; exact X.here
theorem Sd.more (X : Sd n0 p l e R s m args below meth c T h k n) {k' n' : Nat} (hk : k ≤ k') (hn : n ≤ n') : Sd n0 p l e R s m args below meth c T h k' n' := by
  obtain ⟨L, X, N, q⟩ := X; exact ⟨L, X.more hk hn, N, q⟩
theorem enter {y : MethodName} {bytes : ByteArray} {maxL : Nat} {ret : Option FieldType} {ws : List Cond} {rm : Room} {as : Array Value} {h0 : Heap} {Q : Option Value → Heap → Prop} {Ls : Array Slot}
    (hpl : plainFor y = true) (hef : ∀ m, entryFrame m as maxL = mkF m 0 Ls [])
    (body : ∀ (p : Program) (e : Env) (s : State) (m : MethodId) (below : List Frame) (meth : Method) (c : Code) (T0 : State), p.tables.exec = Jvm.exec → c.code = bytes → c.maxLocals = maxL → s.vm.findClass y.cls = some m.cls → meth.name = y.name → meth.sig.returnType = ret → meth.locks = false → Z.Warmed39 s.vm →
      Sd n0 p l e rm s m as below meth c T0 h0 0 0 → Go p.tables e below (Ret s n0 Q rm.cells rm.slots) (T0.setTop (mkF m 0 Ls []))) : Met l Z n0 y bytes maxL ret ws rm as h0 Q := by
  refine MetFree.of_bodySF hpl hisR ?_
  intro p e s m args below meth c s₁ Bd hml0 hP hK
  obtain ⟨rfl, hZ, hh⟩ := hP
  have X0 : Stand p l e rm s m args below meth c s₁ [] 0 0 := Stand.of_body Bd
  have e0 : s₁.heap = h0 := by rw [← hh, Bd.state]; rfl
  have hlk : meth.locks = false := BodyLoose.notSynchronized Bd
  have k := body p e s m below meth c s₁ Bd.exec Bd.bytes hml0 (findClass_of_methodNamed Bd.named) (name_of_methodNamed Bd.named Bd.method).1 Bd.returns hlk hZ ⟨[], X0, Fr.nil n0, e0⟩
  obtain ⟨s₂, o, h1, h2, h3, h4⟩ := k
  exact ⟨s₂, o, castTop (hef m) h1, h2, h3, h4⟩
/-! returns -/
theorem Go.leave (X : Sd n0 p l e R s m args below meth c T h k n) {Q : Option Value → Heap → Prop} {C S : Nat} {v : Option Value} {g : JFrame} (hlk : meth.locks = false) (hv : meth.sig.returnType = none → v = none)
    (hst : ∀ fs, (∀ (f : JFrame) (acts : List Action), f.method = m → f.locked = none → f.entered = [] → (doReturn e (T.setTop f) acts v).1 = T.setFrames fs) → Steps p.tables e below (T.setTop g) (T.setFrames fs))
    (hk : k ≤ C) (hn : n ≤ S) (hQ : Q v h) : Go p.tables e below (Ret s n0 Q C S) (T.setTop g) := by
  obtain ⟨L, X, N, q⟩ := X
  obtain ⟨fs, hr, hrun, hended, hW, hsame⟩ := X.leave (v := v) hv hlk
  refine ⟨_, _, hst fs hr, hrun, hended, _, L, rfl, ⟨?_, N⟩, ⟨_, rfl⟩, hW, hsame.mono hk hn⟩
  show Q v T.heap
  rw [q]; exact hQ
theorem Go.retN (X : Sd n0 p l e R s m args below meth c T h k n) (hx : p.tables.exec = Jvm.exec) (hlk : meth.locks = false) {Q : Option Value → Heap → Prop} {C S : Nat} {t : FieldType} {pc : Nat} {Ls : Array Slot} {z z' : Int32} {rest : List Value} (hret : meth.sig.returnType = some t) (ht : t = .boolean ∨ t = .byte ∨ t = .char ∨ t = .short)
    (hd : decode c.code pc = .ok (.ireturn, 1)) (hz : nar t z = z') (hk : k ≤ C) (hn : n ≤ S) (hQ : Q (some (.int z')) h) : Go p.tables e below (Ret s n0 Q C S) (T.setTop (mkF m pc Ls (.int z :: rest))) := by
  subst hz
  refine Go.leave X hlk (fun q => by rw [hret] at q; cases q) (fun fs hr => ?_) hk hn hQ
  obtain ⟨L, X, -⟩ := X
  exact Jvm.RoadKit.retN X hx hret ht hd hr
theorem Go.retI (X : Sd n0 p l e R s m args below meth c T h k n) (hx : p.tables.exec = Jvm.exec) (hlk : meth.locks = false) {Q : Option Value → Heap → Prop} {C S : Nat} {pc : Nat} {Ls : Array Slot} {z : Int32} {rest : List Value} (hret : meth.sig.returnType = some .int)
    (hd : decode c.code pc = .ok (.ireturn, 1)) (hk : k ≤ C) (hn : n ≤ S) (hQ : Q (some (.int z)) h) : Go p.tables e below (Ret s n0 Q C S) (T.setTop (mkF m pc Ls (.int z :: rest))) := by
  refine Go.leave X hlk (fun q => by rw [hret] at q; cases q) (fun fs hr => ?_) hk hn hQ
  obtain ⟨L, X, -⟩ := X
  exact retOut X hx hret rfl (Or.inl ⟨rfl, Or.inl rfl, _, rfl⟩) hd hr
theorem Go.retL (X : Sd n0 p l e R s m args below meth c T h k n) (hx : p.tables.exec = Jvm.exec) (hlk : meth.locks = false) {Q : Option Value → Heap → Prop} {C S : Nat} {pc : Nat} {Ls : Array Slot} {z : Int64} {rest : List Value} (hret : meth.sig.returnType = some .long)
    (hd : decode c.code pc = .ok (.lreturn, 1)) (hk : k ≤ C) (hn : n ≤ S) (hQ : Q (some (.long z)) h) : Go p.tables e below (Ret s n0 Q C S) (T.setTop (mkF m pc Ls (.long z :: rest))) := by
  refine Go.leave X hlk (fun q => by rw [hret] at q; cases q) (fun fs hr => ?_) hk hn hQ
  obtain ⟨L, X, -⟩ := X
  exact retOut X hx hret rfl (Or.inr (Or.inl ⟨rfl, rfl, _, rfl⟩)) hd hr
theorem Go.retA (X : Sd n0 p l e R s m args below meth c T h k n) (hx : p.tables.exec = Jvm.exec) (hlk : meth.locks = false) {Q : Option Value → Heap → Prop} {C S : Nat} {t : FieldType} {pc : Nat} {Ls : Array Slot} {w : Value} {rest : List Value} (hret : meth.sig.returnType = some t) (ht : t.isReference = true) (hw : w.isRef = true)
    (hd : decode c.code pc = .ok (.areturn, 1)) (hk : k ≤ C) (hn : n ≤ S) (hQ : Q (some w) h) : Go p.tables e below (Ret s n0 Q C S) (T.setTop (mkF m pc Ls (w :: rest))) := by
  refine Go.leave X hlk (fun q => by rw [hret] at q; cases q) (fun fs hr => ?_) hk hn hQ
  obtain ⟨L, X, -⟩ := X
  have hnar : narrow t w = w := by cases t <;> first | (cases ht; done) | (cases w <;> first | rfl | (cases hw; done))
  exact retOut X hx hret hnar (Or.inr (Or.inr (Or.inr (Or.inr ⟨rfl, ht, hw⟩)))) hd hr
theorem Go.ret0 (X : Sd n0 p l e R s m args below meth c T h k n) (hx : p.tables.exec = Jvm.exec) (hlk : meth.locks = false) {Q : Option Value → Heap → Prop} {C S : Nat} {pc : Nat} {Ls : Array Slot} (hret : meth.sig.returnType = none)
    (hd : decode c.code pc = .ok (.return_, 1)) (hk : k ≤ C) (hn : n ≤ S) (hQ : Q none h) : Go p.tables e below (Ret s n0 Q C S) (T.setTop (mkF m pc Ls [])) := by
  refine Go.leave X hlk (fun _ => rfl) (fun fs hr => ?_) hk hn hQ
  obtain ⟨L, X, -⟩ := X
  exact X.returnOut hx hret hd hr
/-! fields, statics, casts -/
theorem Sd.getF (X : Sd n0 p l e R s m args below meth c T h k n) (hx : p.tables.exec = Jvm.exec) (hZ : Z.Warmed39 s.vm) {own R0 O nm d host : String} {index : Nat} (hown : s.vm.findClass own = some m.cls) (w : (Cond.fieldLink own index R0 nm d).before a0 Z = true ∨ (Cond.fieldLinkNest own index R0 nm d host).before a0 Z = true) (via : Via Z R0 O nm d)
    {a : Addr} {v : Value} (F : Fld Z h a O nm d v) {g : JFrame} (hg : g.method = m) {rest : List Value} (hs : g.stack = .ref a :: rest) (hd : decode c.code g.pc = .ok (.getfield index, 3)) :
    ∃ T', Sd n0 p l e R s m args below meth c T' h k n ∧ ∀ target, Steps p.tables e below (T'.setTop { g with pc := g.pc + 3, stack := v :: rest }) target → Steps p.tables e below (T.setTop g) target := by
  obtain ⟨L, X, N, q⟩ := X
  obtain ⟨T', X', e', st⟩ := Jvm.RoadKit.getF X hx hZ hown w via q F hg hs hd
  exact ⟨T', ⟨L, X', N, e'⟩, st⟩
theorem Sd.getS (X : Sd n0 p l e R s m args below meth c T h k n) (hx : p.tables.exec = Jvm.exec) (hZ : Z.Warmed39 s.vm) {own R0 O nm d host : String} {index : Nat} (hown : s.vm.findClass own = some m.cls) (w : (Cond.fieldLink own index R0 nm d).before a0 Z = true ∨ (Cond.fieldLinkNest own index R0 nm d host).before a0 Z = true) (via : Via Z R0 O nm d)
    {v : Value} (F : Sta Z h O nm d v) {g : JFrame} (hg : g.method = m) (hd : decode c.code g.pc = .ok (.getstatic index, 3)) :
    ∃ T', Sd n0 p l e R s m args below meth c T' h k n ∧ ∀ target, Steps p.tables e below (T'.setTop { g with pc := g.pc + 3, stack := v :: g.stack }) target → Steps p.tables e below (T.setTop g) target := by
  obtain ⟨L, X, N, q⟩ := X
  obtain ⟨T', X', e', st⟩ := getS2 X hx hZ hown w via q F hg hd
  exact ⟨T', ⟨L, X', N, e'⟩, st⟩
theorem Sd.putF (X : Sd n0 p l e R s m args below meth c T h k n) (hx : p.tables.exec = Jvm.exec) (hZ : Z.Warmed39 s.vm) {own R0 O nm d host C : String} {index kk : Nat} {ty : FieldType} (hown : s.vm.findClass own = some m.cls) (w : (Cond.fieldLink own index R0 nm d).before a0 Z = true ∨ (Cond.fieldLinkNest own index R0 nm d host).before a0 Z = true) (via : Via Z R0 O nm d)
    {a : Addr} {v old : Value} (F : Fld Z h a O nm d old) (E : Exa Z h a C) (ga : n0 ≤ a) (L : (Cond.lays C O nm d).before a0 Z = true ∨ ((Cond.laysFinal C O nm d).before a0 Z = true ∧ own = O ∧ meth.name = "<init>")) (wi : (Cond.instantiable C kk).before a0 Z = true)
    (hty : parseFieldDescriptor d = some ty) (hnr : narrow ty v = v) (hf : fits ty v = true) {g : JFrame} (hg : g.method = m) {rest : List Value} (hs : g.stack = v :: .ref a :: rest) (hd : decode c.code g.pc = .ok (.putfield index, 3)) :
    ∃ T' h', Sd n0 p l e R s m args below meth c T' h' k n ∧ Wr h h' a (slotOf Z O nm d) v ∧ ∀ target, Steps p.tables e below (T'.setTop { g with pc := g.pc + 3, stack := rest }) target → Steps p.tables e below (T.setTop g) target := by
  obtain ⟨Lc, X, N, q⟩ := X
  obtain ⟨T', h', X', e', W, st⟩ := Jvm.RoadKit.putF X hx hZ hown w via q F E L wi hty hnr hf hg hs hd
  exact ⟨T', h', ⟨_, X', Fr.snoc X' N ga, e'⟩, W, st⟩
theorem Sd.putFN (X : Sd n0 p l e R s m args below meth c T h k n) (hx : p.tables.exec = Jvm.exec) (hZ : Z.Warmed39 s.vm) {own R0 O nm d C : String} {index kk : Nat} {ty : FieldType} (hown : s.vm.findClass own = some m.cls) (w : (Cond.fieldLink own index R0 nm d).before a0 Z = true) (via : Via Z R0 O nm d)
    {a : Addr} {v v' old : Value} (F : Fld Z h a O nm d old) (E : Exa Z h a C) (ga : n0 ≤ a) (L : (Cond.lays C O nm d).before a0 Z = true ∨ ((Cond.laysFinal C O nm d).before a0 Z = true ∧ own = O ∧ meth.name = "<init>")) (wi : (Cond.instantiable C kk).before a0 Z = true)
    (hty : parseFieldDescriptor d = some ty) (hnr : narrow ty v = v') (hf : fits ty v' = true) {g : JFrame} (hg : g.method = m) {rest : List Value} (hs : g.stack = v :: .ref a :: rest) (hd : decode c.code g.pc = .ok (.putfield index, 3)) :
    ∃ T' h', Sd n0 p l e R s m args below meth c T' h' k n ∧ Wr h h' a (slotOf Z O nm d) v' ∧ ∀ target, Steps p.tables e below (T'.setTop { g with pc := g.pc + 3, stack := rest }) target → Steps p.tables e below (T.setTop g) target := by
  obtain ⟨Lc, X, N, q⟩ := X
  obtain ⟨T', h', X', e', W, st⟩ := Jvm.RoadKit.putFN X hx hZ hown w via q F E L wi hty hnr hf hg hs hd
  exact ⟨T', h', ⟨_, X', Fr.snoc X' N ga, e'⟩, W, st⟩
theorem Sd.castY (X : Sd n0 p l e R s m args below meth c T h k n) (hx : p.tables.exec = Jvm.exec) (hZ : Z.Warmed39 s.vm) {own K : String} {index : Nat} (hown : s.vm.findClass own = some m.cls) (w : (Cond.classLink own index K).before a0 Z = true) {a : Addr} (F : Ins Z h a K true)
    {g : JFrame} (hg : g.method = m) {rest : List Value} (hs : g.stack = .ref a :: rest) (hd : decode c.code g.pc = .ok (.checkcast index, 3)) :
    ∃ T', Sd n0 p l e R s m args below meth c T' h k n ∧ ∀ target, Steps p.tables e below (T'.setTop { g with pc := g.pc + 3 }) target → Steps p.tables e below (T.setTop g) target := by
  obtain ⟨L, X, N, q⟩ := X
  obtain ⟨T', X', e', st⟩ := Jvm.RoadKit.castY X hx hZ hown w q F hg hs hd
  exact ⟨T', ⟨L, X', N, e'⟩, st⟩
theorem Sd.instY (X : Sd n0 p l e R s m args below meth c T h k n) (hx : p.tables.exec = Jvm.exec) (hZ : Z.Warmed39 s.vm) {own K : String} {index : Nat} (hown : s.vm.findClass own = some m.cls) (w : (Cond.classLink own index K).before a0 Z = true) {a : Addr} (F : Ins Z h a K true)
    {g : JFrame} (hg : g.method = m) {rest : List Value} (hs : g.stack = .ref a :: rest) (hd : decode c.code g.pc = .ok (.instanceof index, 3)) :
    ∃ T', Sd n0 p l e R s m args below meth c T' h k n ∧ ∀ target, Steps p.tables e below (T'.setTop { g with pc := g.pc + 3, stack := .int 1 :: rest }) target → Steps p.tables e below (T.setTop g) target := by
  obtain ⟨L, X, N, q⟩ := X
  obtain ⟨T', X', e', st⟩ := Jvm.RoadKit.instY X hx hZ hown w q F hg hs hd
  exact ⟨T', ⟨L, X', N, e'⟩, st⟩
theorem Sd.instNull (X : Sd n0 p l e R s m args below meth c T h k n) (hx : p.tables.exec = Jvm.exec) {index : Nat} {g : JFrame} (hg : g.method = m) {rest : List Value} (hs : g.stack = .null :: rest) (hd : decode c.code g.pc = .ok (.instanceof index, 3)) :
    ∀ target, Steps p.tables e below (T.setTop { g with pc := g.pc + 3, stack := .int 0 :: rest }) target → Steps p.tables e below (T.setTop g) target := by
  obtain ⟨L, X, -⟩ := X; exact X.instanceofNull hx hg hs hd
theorem Sd.ldcInt (X : Sd n0 p l e R s m args below meth c T h k n) (hx : p.tables.exec = Jvm.exec) (hZ : Z.Warmed39 s.vm) {own : String} {index : Nat} {v : Int32} (hown : s.vm.findClass own = some m.cls) (w : (Cond.constant own index v).before a0 Z = true) {g : JFrame} (hg : g.method = m) (hd : decode c.code g.pc = .ok (.ldc index, 2)) :
    ∀ target, Steps p.tables e below (T.setTop { g with pc := g.pc + 2, stack := .int v :: g.stack }) target → Steps p.tables e below (T.setTop g) target := by
  obtain ⟨L, X, -⟩ := X; exact X.ldcInt hx hown (mvT hZ w) hg hd
theorem Sd.ldc2Long (X : Sd n0 p l e R s m args below meth c T h k n) (hx : p.tables.exec = Jvm.exec) (hZ : Z.Warmed39 s.vm) {own : String} {index : Nat} {v : Int64} (hown : s.vm.findClass own = some m.cls) (w : (Cond.constantLong own index v).before a0 Z = true) {g : JFrame} (hg : g.method = m) (hd : decode c.code g.pc = .ok (.ldc2_w index, 3)) :
    ∀ target, Steps p.tables e below (T.setTop { g with pc := g.pc + 3, stack := .long v :: g.stack }) target → Steps p.tables e below (T.setTop g) target := by
  obtain ⟨L, X, -⟩ := X; exact X.ldc2Long hx hown (mvT hZ w) hg hd
theorem Sd.acmp {g : JFrame} (X : Sd n0 p l e R s m args below meth c T h k n) (hx : p.tables.exec = Jvm.exec) (hg : g.method = m) {cd : ACond} {x y : Value} (h1 : x.isRef = true) (h2 : y.isRef = true) {rest : List Value} {o : Int} {pc0 pc' : Nat} {same : Bool} (hpc : g.pc = pc0)
    (hd : decode c.code g.pc = .ok (.if_acmp cd o, 3)) (hs : g.stack = y :: x :: rest) (hq : decide (x = y) = same) (ho : 0 ≤ (pc0 : Int) + o) (hp : pc' = if acV cd same = true then ((pc0 : Int) + o).toNat else pc0 + 3) :
    ∀ target, Steps p.tables e below (T.setTop { g with pc := pc', stack := rest }) target → Steps p.tables e below (T.setTop g) target := by
  obtain ⟨L, X, -⟩ := X; exact fun _ => Jvm.RoadKit.acmp X hx hg h1 h2 hpc hd hs hq ho hp
theorem Sd.getFR (X : Sd n0 p l e R s m args below meth c T h k n) (hx : p.tables.exec = Jvm.exec) (hZ : Z.Warmed39 s.vm) {own O nm d : String} {index : Nat} (hown : s.vm.findClass own = some m.cls) (w : (Cond.fieldRef own index O nm d).before a0 Z = true)
    {a : Addr} {v : Value} (F : Fld Z h a O nm d v) {g : JFrame} (hg : g.method = m) {rest : List Value} (hs : g.stack = .ref a :: rest) (hd : decode c.code g.pc = .ok (.getfield index, 3)) :
    ∀ target, Steps p.tables e below (T.setTop { g with pc := g.pc + 3, stack := v :: rest }) target → Steps p.tables e below (T.setTop g) target := by
  obtain ⟨L, X, N, q⟩ := X
  obtain ⟨cell, cf, kk, i, f, h1, h2, h3, h4, h5, h6, h7⟩ := F
  have hT : Z.Warmed39 T.vm := wtrans hZ X.warmed
  have w' := Cond.fieldRef_warmed39 hT w
  have hcur : (Z.setVm T.vm).vm.findClass own = some m.cls := by show T.vm.findClass own = _; rw [X.warmed.alike.findClass]; exact hown
  obtain ⟨c', k', i', f', e1, e2⟩ := Cond.fieldRef_spec hcur w'
  obtain ⟨k2, hi, -⟩ := State.fieldFound?_setVm (s := Z) hT.alike h2
  cases e1.symm.trans hi
  intro target hrest
  subst hg
  jvm_step X.here [hx, hd, getfield.wp_ready (e := e) (s := T) (f := g) X.here.top e2 h3 hs (by rw [q]; exact h1) h4 h7]
  exact hrest
/-! making -/
theorem Sd.newO (X : Sd n0 p l e R s m args below meth c T h k n) (hx : p.tables.exec = Jvm.exec) (hZ : Z.Warmed39 s.vm) {own C : String} {index sz k' n' : Nat} (hown : s.vm.findClass own = some m.cls) (w : (Cond.classLink own index C).before a0 Z = true) (wi : (Cond.instantiable C sz).before a0 Z = true) (wz : (Cond.initialized C).before a0 Z = true)
    {g : JFrame} (hg : g.method = m) (hd : decode c.code g.pc = .ok (.new index, 3)) (hk : k + 1 = k') (hn : n + sz = n') (hc : k' ≤ R.cells) (hl : n' ≤ R.slots) :
    ∃ T' h' a, Sd n0 p l e R s m args below meth c T' h' k' n' ∧ a = h.size ∧ Ext h h' ∧ Exa Z h' a C ∧ (∀ {O nm d : String} {ty : FieldType}, Laid Z a0 C O nm d → parseFieldDescriptor d = some ty → Fld Z h' a O nm d (defaultValue ty)) ∧
      ∀ target, Steps p.tables e below (T'.setTop { g with pc := g.pc + 3, stack := .ref a :: g.stack }) target → Steps p.tables e below (T.setTop g) target := by
  subst hk hn
  obtain ⟨L, X, N, q⟩ := X
  obtain ⟨T', h', X', e', E, A, D, -, st⟩ := Jvm.RoadKit.newO X hx hZ hown w wi wz q hg hd hc hl
  exact ⟨T', h', _, ⟨L, X', N, e'⟩, rfl, E, A, D, st⟩
theorem Sd.initO (X : Sd n0 p l e R s m args below meth c T h k n) (hx : p.tables.exec = Jvm.exec) (hZ : Z.Warmed39 s.vm) {own : String} {idx : Nat} (hown : s.vm.findClass own = some m.cls) (w1 : (Cond.methodLink own idx Lib.objectInit).before a0 Z = true) (w2 : (Cond.instanceMethod Lib.objectInit).before a0 Z = true)
    (w3 : (Cond.code Lib.objectInit ⟨#[0xb1]⟩ 1 none).before a0 Z = true) {g : JFrame} (hg : g.method = m) (hsize : g.locals.size = c.maxLocals) {a : Addr} {rest : List Value} (hs : g.stack = .ref a :: rest) (hd : decode c.code g.pc = .ok (.invokespecial idx, 3))
    (hf : 1 ≤ R.frames) (hl : 2 * g.monitorRoom + (rest.map fun v => v.category).sum + 12 ≤ R.locals) :
    ∃ T', Sd n0 p l e R s m args below meth c T' h k n ∧ ∀ target, Steps p.tables e below (T'.setTop { g with pc := g.pc + 3, stack := rest }) target → Steps p.tables e below (T.setTop g) target := by
  obtain ⟨L, X, N, q⟩ := X
  obtain ⟨T', X', e', st⟩ := Jvm.RoadKit.initO X hx hZ hown w1 w2 w3 q hg hsize hs hd hf (W := 2 * g.monitorRoom + (rest.map fun v => v.category).sum) (Nat.le_refl _) hl
  exact ⟨T', ⟨L, X', N, e'⟩, st⟩
/-- an array of n' places, place i holds f i -/
def Avf (Z : State) (h : Heap) (a : Addr) (kc : ClassId) (ty : FieldType) (sz : Nat) (f : Nat → Value) : Prop := ∃ cl : Cell, Arr Z h a cl ty ∧ cl.cls = kc ∧ cl.slots.size = sz ∧ sz < 2 ^ 31 ∧ ∀ i, i < sz → cl.slots[i]? = some (f i) ∧ fits ty (f i) = true
theorem Avf.lt {h : Heap} {a : Addr} {kc : ClassId} {ty : FieldType} {sz : Nat} {f : Nat → Value} (F : Avf Z h a kc ty sz f) : a < h.size := by obtain ⟨_, A, -⟩ := F; exact A.lt
theorem Avf.ext {h h' : Heap} {a : Addr} {kc : ClassId} {ty : FieldType} {sz : Nat} {f : Nat → Value} (F : Avf Z h a kc ty sz f) (E : Ext h h') : Avf Z h' a kc ty sz f := by obtain ⟨cl, A, r⟩ := F; exact ⟨cl, A.ext E, r⟩
theorem Avf.other {h h' : Heap} {a b : Addr} {kc : ClassId} {ty : FieldType} {sz sl : Nat} {f : Nat → Value} {v : Value} (F : Avf Z h b kc ty sz f) (W : Wr h h' a sl v) (q : b ≠ a) : Avf Z h' b kc ty sz f := by obtain ⟨cl, A, r⟩ := F; exact ⟨cl, A.other W q, r⟩
theorem Avf.keep {h h' : Heap} {a : Addr} {kc : ClassId} {ty : FieldType} {sz : Nat} {f : Nat → Value} {ws : List Addr} (F : Avf Z h a kc ty sz f) (K : Keep h h' ws) (q : a ∉ ws) : Avf Z h' a kc ty sz f := by obtain ⟨cl, A, r⟩ := F; exact ⟨cl, ⟨K.2.1 a cl A.1 q, A.2⟩, r⟩
theorem Avf.cong {h : Heap} {a : Addr} {kc : ClassId} {ty : FieldType} {sz : Nat} {f g : Nat → Value} (F : Avf Z h a kc ty sz f) (q : ∀ i, i < sz → f i = g i) : Avf Z h a kc ty sz g := by
  obtain ⟨cl, A, r1, r2, r3, r4⟩ := F; exact ⟨cl, A, r1, r2, r3, fun i hi => by rw [← q i hi]; exact r4 i hi⟩
theorem Avf.set {h h' : Heap} {a : Addr} {kc : ClassId} {ty : FieldType} {sz : Nat} {f : Nat → Value} {v : Value} {j : Nat} (F : Avf Z h a kc ty sz f) (W : Wr h h' a j v) (hv : fits ty v = true) : Avf Z h' a kc ty sz (fun i => if i = j then v else f i) := by
  obtain ⟨cl, A, r1, r2, r3, r4⟩ := F
  refine ⟨_, A.same W, r1, by rw [sz_set]; exact r2, r3, fun i hi => ?_⟩
  by_cases q : i = j
  · subst q; simp [Cell.setSlot, r2, hi, hv]
  · simp [Cell.setSlot, q, r4 i hi, Array.getElem?_setIfInBounds_ne (Ne.symm q)]
theorem Avf.of_arv {h : Heap} {a : Addr} {kc : ClassId} {ty : FieldType} {z : Int32} {vs : List Value} {dv : Value} (F : Arv Z h a kc ty z vs dv) : Avf Z h a kc ty z.toNatClampNeg (fun i => vs.getD i dv) := by
  obtain ⟨cl, A, r1, r2, r3, H, G⟩ := F
  exact ⟨cl, A, r1, r2, (back32 r3).2, fun i hi => ⟨H i (by rw [r2]; exact hi), G i (by rw [r2]; exact hi)⟩⟩
theorem Sd.newP (X : Sd n0 p l e R s m args below meth c T h k n) (hx : p.tables.exec = Jvm.exec) (hZ : Z.Warmed39 s.vm) {aty : ArrayType} (w : (Cond.arrayClass (newarray.typeOf aty)).before a0 Z = true) {g : JFrame} (hg : g.method = m) (hd : decode c.code g.pc = .ok (.newarray aty, 2)) {z : Int32} {rest : List Value} (hs : g.stack = .int z :: rest)
    (hz : ¬ z < 0) {sz cap k' n' : Nat} (hsz : z.toNatClampNeg = sz) (hcap : sz ≤ cap) (hb : cap * 8 ≤ 536870912) (hk : k + 1 = k') (hn : n + cap = n') (hc : k' ≤ R.cells) (hl : n' ≤ R.slots) {ad : String} (had : "[" ++ (newarray.typeOf aty).toString = ad) :
    ∃ T' h' kc a, Sd n0 p l e R s m args below meth c T' h' k' n' ∧ a = h.size ∧ Ext h h' ∧ Exa Z h' a ad ∧ Avf Z h' a kc (newarray.typeOf aty) sz (fun _ => defaultValue (newarray.typeOf aty)) ∧
      ∀ target, Steps p.tables e below (T'.setTop { g with pc := g.pc + 2, stack := .ref a :: rest }) target → Steps p.tables e below (T.setTop g) target := by
  subst hk hn hsz
  obtain ⟨L, X, N, q⟩ := X
  obtain ⟨T', h', kc, X', e', E, A, Ex, st⟩ := Jvm.RoadKit.newPE X hx hZ w q hg hd hs hz hcap hb hc hl had
  refine ⟨T', h', kc, _, ⟨L, X', N, e'⟩, rfl, E, Ex, ⟨_, A, rfl, sz_new _ _ _, (back32 hz).2, fun i hi => ⟨by simp [newA, hi], ?_⟩⟩, st⟩
  cases aty <;> rfl
theorem Sd.newR (X : Sd n0 p l e R s m args below meth c T h k n) (hx : p.tables.exec = Jvm.exec) (hZ : Z.Warmed39 s.vm) {own C : String} {index : Nat} (hown : s.vm.findClass own = some m.cls) (w1 : (Cond.classLink own index C).before a0 Z = true) (w2 : (Cond.arrayOver (.object C)).before a0 Z = true)
    {g : JFrame} (hg : g.method = m) (hd : decode c.code g.pc = .ok (.anewarray index, 3)) {z : Int32} {rest : List Value} (hs : g.stack = .int z :: rest)
    (hz : ¬ z < 0) {sz cap k' n' : Nat} (hsz : z.toNatClampNeg = sz) (hcap : sz ≤ cap) (hb : cap * 8 ≤ 536870912) (hk : k + 1 = k') (hn : n + cap = n') (hc : k' ≤ R.cells) (hl : n' ≤ R.slots) {ad : String} (had : "[" ++ (FieldType.object C).toString = ad) :
    ∃ T' h' kc a, Sd n0 p l e R s m args below meth c T' h' k' n' ∧ a = h.size ∧ Ext h h' ∧ Exa Z h' a ad ∧ Avf Z h' a kc (.object C) sz (fun _ => .null) ∧ Ovr Z kc C ∧
      ∀ target, Steps p.tables e below (T'.setTop { g with pc := g.pc + 3, stack := .ref a :: rest }) target → Steps p.tables e below (T.setTop g) target := by
  subst hk hn hsz
  obtain ⟨L, X, N, q⟩ := X
  obtain ⟨T', h', kc, X', e', E, A, Ex, O, st⟩ := Jvm.RoadKit.newRE X hx hZ hown w1 w2 q hg hd hs hz hcap hb hc hl had
  exact ⟨T', h', kc, _, ⟨L, X', N, e'⟩, rfl, E, Ex, ⟨_, A, rfl, sz_new _ _ _, (back32 hz).2, fun i hi => ⟨by simp [newA, hi, defaultValue], rfl⟩⟩, O, st⟩
theorem Sd.clone (X : Sd n0 p l e R s m args below meth c T h k n) (hx : p.tables.exec = Jvm.exec) (hZ : Z.Warmed39 s.vm) {own ad : String} {index : Nat} (hown : s.vm.findClass own = some m.cls)
    (w1 : (Cond.methodLink own index ⟨ad, "clone", "()Ljava/lang/Object;"⟩).before a0 Z = true) (w2 : (Cond.sameMethod ad "java/lang/Object" "clone" "()Ljava/lang/Object;").before a0 Z = true) (w3 : (Cond.native ⟨"java/lang/Object", "clone", "()Ljava/lang/Object;"⟩).before a0 Z = true)
    (w4 : (Cond.instanceMethod ⟨"java/lang/Object", "clone", "()Ljava/lang/Object;"⟩).before a0 Z = true) (w5 : (Cond.selects ad ⟨ad, "clone", "()Ljava/lang/Object;"⟩ ⟨"java/lang/Object", "clone", "()Ljava/lang/Object;"⟩).before a0 Z = true) (w6 : (Cond.castable ad "java/lang/Cloneable").before a0 Z = true)
    {a : Addr} {kc : ClassId} {ty : FieldType} {sz : Nat} {f : Nat → Value} (F : Avf Z h a kc ty sz f) (E : Exa Z h a ad) {g : JFrame} (hg : g.method = m) (hsize : g.locals.size = c.maxLocals) {rest : List Value} (hst : g.stack = .ref a :: rest) (hd : decode c.code g.pc = .ok (.invokevirtual index, 3))
    (hf : 1 ≤ R.frames) (hl : 2 * g.monitorRoom + (rest.map fun v => v.category).sum + 14 ≤ R.locals) {cap k' n' : Nat} (hcap : sz ≤ cap) (hk : k + 1 = k') (hn : n + cap = n') (hc : k' ≤ R.cells) (hs : n' ≤ R.slots) :
    ∃ T' h' b, Sd n0 p l e R s m args below meth c T' h' k' n' ∧ b = h.size ∧ Ext h h' ∧ Exa Z h' b ad ∧ Avf Z h' b kc ty sz f ∧ ∀ target, Steps p.tables e below (T'.setTop { g with pc := g.pc + 3, stack := .ref b :: rest }) target → Steps p.tables e below (T.setTop g) target := by
  subst hk hn
  obtain ⟨L, X, N, q⟩ := X
  obtain ⟨cl, A, r1, r2, r3, r4⟩ := F
  have FC : FitC Z cl := fitC_of A fun i hi v hv => by rw [(r4 i (r2 ▸ hi)).1] at hv; cases hv; exact (r4 i (r2 ▸ hi)).2
  obtain ⟨T', h', X', e', ex, A', E', st⟩ := cloneA X hx hZ hown w1 w2 w3 w4 w5 w6 q A E FC hg hsize hst hd hf (W := 2 * g.monitorRoom + (rest.map fun v => v.category).sum) (Nat.le_refl _) hl (by rw [r2]; exact hcap) hc hs
  exact ⟨T', h', _, ⟨L, X', N, e'⟩, rfl, ex, E', ⟨cloneOf cl, A', r1, r2, r3, r4⟩, st⟩
theorem Sd.grid (X : Sd n0 p l e R s m args below meth c T h k n) (hx : p.tables.exec = Jvm.exec) (hZ : Z.Warmed39 s.vm) {own : String} {index : Nat} (hown : s.vm.findClass own = some m.cls)
    (w1 : (Cond.classLink own index "[[J").before a0 Z = true) (w2 : (Cond.arrayOver (.array .long)).before a0 Z = true) (w3 : (Cond.arrayClass .long).before a0 Z = true) {g : JFrame} (hg : g.method = m) (hd : decode c.code g.pc = .ok (.multianewarray index 2, 4)) {z y : Int32} {rest : List Value} (hs : g.stack = .int y :: .int z :: rest)
    (hz : ¬ z < 0) (hy : ¬ y < 0) {N sz cap k' n' : Nat} (hN : z.toNatClampNeg = N) (hsz : y.toNatClampNeg = sz) (hcap : sz ≤ cap) (hb : cap * 8 ≤ 536870912) (hb1 : N ≤ 1000) (hk : k + (1 + N) = k') (hn : n + (N + N * cap) = n') (hc : k' ≤ R.cells) (hl : n' ≤ R.slots) :
    ∃ T' h' kc kd a, Sd n0 p l e R s m args below meth c T' h' k' n' ∧ a = h.size ∧ Ext h h' ∧ Exa Z h' a "[[J" ∧ Avf Z h' a kc (.array .long) N (fun i => .ref (a + 1 + i)) ∧ (∀ i, i < N → Avf Z h' (a + 1 + i) kd .long sz (fun _ => .long 0)) ∧
      ∀ target, Steps p.tables e below (T'.setTop { g with pc := g.pc + 4, stack := .ref a :: rest }) target → Steps p.tables e below (T.setTop g) target := by
  subst hk hn hN hsz
  obtain ⟨L, X, Nn, q⟩ := X
  obtain ⟨T', h', kc, kd, X', e', E, A, O, Ex, D, st⟩ := gridM X hx hZ hown (ty := .long) (C := "[J") (ad := "[[J") (by decide) (by decide) w1 w2 w3 q hg hd hs hz hy (xs := (List.range z.toNatClampNeg).map fun j => h.size + 1 + j) rfl rfl hcap hb hb1 rfl rfl hc hl
  refine ⟨T', h', kc, kd, _, ⟨L, X', Nn, e'⟩, rfl, E, Ex, ?_, fun i hi => ?_, st⟩
  · refine Avf.cong (Avf.of_arv A) fun i hi => ?_
    simp [hi, List.getD_eq_getElem?_getD]
  · obtain ⟨AI, -⟩ := D i (h.size + 1 + i) (by simp [hi])
    exact ⟨_, AI, rfl, sz_new _ _ _, (back32 hy).2, fun j hj => ⟨by simp [newA, hj, defaultValue], rfl⟩⟩
theorem Avf.arv {h : Heap} {a : Addr} {kc : ClassId} {ty : FieldType} {sz : Nat} {f : Nat → Value} (F : Avf Z h a kc ty sz f) (d : Value) : Arv Z h a kc ty sz.toInt32 ((List.range sz).map f) d := by
  obtain ⟨cl, A, r1, r2, r3, r4⟩ := F
  have q1 : sz.toInt32.toInt = sz := len_toInt r3
  have q2 : sz.toInt32.toNatClampNeg = sz := by simp only [Int32.toNatClampNeg, q1]; omega
  have q3 : ¬ sz.toInt32 < 0 := by
    rw [Int32.lt_iff_toInt_lt, q1]
    have : (0 : Int32).toInt = 0 := rfl
    omega
  have g : ∀ i, i < sz → ((List.range sz).map f).getD i d = f i := fun i hi => by simp [List.getD_eq_getElem?_getD, hi]
  refine ⟨cl, A, r1, by rw [q2]; exact r2, q3, fun i hi => ?_, fun i hi => ?_⟩
  · rw [g i (r2 ▸ hi)]; exact (r4 i (r2 ▸ hi)).1
  · rw [g i (r2 ▸ hi)]; exact (r4 i (r2 ▸ hi)).2
theorem Sd.acopy (X : Sd n0 p l e R s m args below meth c T h k n) (hx : p.tables.exec = Jvm.exec) (hZ : Z.Warmed39 s.vm) {own : String} {index : Nat} (hown : s.vm.findClass own = some m.cls)
    (w1 : (Cond.methodLink own index Jvm.Stand.acN).before a0 Z = true) (w2 : (Cond.native Jvm.Stand.acN).before a0 Z = true) (w3 : (Cond.static Jvm.Stand.acN).before a0 Z = true) (w4 : (Cond.initialized "java/lang/System").before a0 Z = true)
    {a b : Addr} {ka kb : ClassId} {ty : FieldType} {sa sb : Nat} {f f' : Nat → Value} (A : Avf Z h a ka ty sa f) (B : Avf Z h b kb ty sb f') (hty : refKind ty = false) (gb : n0 ≤ b) {sp dp nn : Int32} (h1 : ¬ sp < 0) (h2 : ¬ dp < 0) (h3 : ¬ nn < 0) {i j cc : Nat} (hi : sp.toNatClampNeg = i) (hj : dp.toNatClampNeg = j) (hc : nn.toNatClampNeg = cc) (h4 : i + cc ≤ sa) (h5 : j + cc ≤ sb)
    {g : JFrame} (hg : g.method = m) (hsize : g.locals.size = c.maxLocals) {rest : List Value} (hs : g.stack = .int nn :: .int dp :: .ref b :: .int sp :: .ref a :: rest) (hd : decode c.code g.pc = .ok (.invokestatic index, 3))
    (hf : 1 ≤ R.frames) (hlo : 2 * g.monitorRoom + (rest.map fun v => v.category).sum + (nativeFrameWords "java/lang/System" "arraycopy" 5 + 11) ≤ R.locals) :
    ∃ T' h', Sd n0 p l e R s m args below meth c T' h' k n ∧ Keep h h' [b] ∧ Avf Z h' b kb ty sb (fun t => if j ≤ t ∧ t < j + cc then f (i + (t - j)) else f' t) ∧
      ∀ target, Steps p.tables e below (T'.setTop { g with pc := g.pc + 3, stack := rest }) target → Steps p.tables e below (T.setTop g) target := by
  subst hi hj hc
  obtain ⟨L, X, N, q⟩ := X
  have ra : sa.toInt32.toNatClampNeg = sa := by obtain ⟨_, _, _, _, r3, _⟩ := A; simp only [Int32.toNatClampNeg, len_toInt r3]; omega
  have rb : sb.toInt32.toNatClampNeg = sb := by obtain ⟨_, _, _, _, r3, _⟩ := B; simp only [Int32.toNatClampNeg, len_toInt r3]; omega
  obtain ⟨T', h', L', X', e', N', K, V, st⟩ := cpA X hx hZ hown w1 w2 w3 w4 q (A.arv .null) (B.arv .null) (us := (List.range nn.toNatClampNeg).map fun t => ((List.range sa).map f).getD (sp.toNatClampNeg + t) .null) (Or.inl ⟨rfl, hty⟩) h1 h2 h3 (by rw [ra]; exact h4) (by rw [rb]; exact h5) rfl (by simpa using h5) N gb hg hsize hs hd hf (W := 2 * g.monitorRoom + (rest.map fun v => v.category).sum) (Nat.le_refl _) hlo
  refine ⟨T', h', ⟨L', X', N', e'⟩, K, ?_, st⟩
  have V' := Avf.of_arv V
  rw [rb] at V'
  refine V'.cong fun t ht => ?_
  have hj : dp.toNatClampNeg ≤ sb := by omega
  simp only [List.getD_eq_getElem?_getD]
  by_cases c1 : t < dp.toNatClampNeg
  · have c2 : ¬ (dp.toNatClampNeg ≤ t ∧ t < dp.toNatClampNeg + nn.toNatClampNeg) := by omega
    rw [if_neg c2, List.append_assoc, List.getElem?_append_left (by simp; omega)]
    simp [c1, ht]
  · by_cases c2 : t < dp.toNatClampNeg + nn.toNatClampNeg
    · have c3 : dp.toNatClampNeg ≤ t ∧ t < dp.toNatClampNeg + nn.toNatClampNeg := by omega
      have c4 : t - dp.toNatClampNeg < nn.toNatClampNeg := by omega
      have c5 : sp.toNatClampNeg + (t - dp.toNatClampNeg) < sa := by omega
      rw [if_pos c3, List.append_assoc, List.getElem?_append_right (by simp; omega), List.getElem?_append_left (by simp; omega)]
      simp [Nat.min_eq_left hj, c4, c5]
    · have c3 : ¬ (dp.toNatClampNeg ≤ t ∧ t < dp.toNatClampNeg + nn.toNatClampNeg) := by omega
      rw [if_neg c3, List.getElem?_append_right (by simp; omega)]
      have c6 : dp.toNatClampNeg + nn.toNatClampNeg + (t - (dp.toNatClampNeg + nn.toNatClampNeg)) = t := by omega
      simp [Nat.min_eq_left hj, c6, ht]
/-! arrays: length, load, store -/
theorem Sd.len (X : Sd n0 p l e R s m args below meth c T h k n) (hx : p.tables.exec = Jvm.exec) (hZ : Z.Warmed39 s.vm) {a : Addr} {kc : ClassId} {ty : FieldType} {sz : Nat} {f : Nat → Value} (F : Avf Z h a kc ty sz f) {z : Int32} (hz : sz.toInt32 = z)
    {g : JFrame} (hg : g.method = m) {rest : List Value} (hs : g.stack = .ref a :: rest) (hd : decode c.code g.pc = .ok (.arraylength, 1)) :
    ∀ target, Steps p.tables e below (T.setTop { g with pc := g.pc + 1, stack := .int z :: rest }) target → Steps p.tables e below (T.setTop g) target := by
  obtain ⟨L, X, -, q⟩ := X
  obtain ⟨cl, A, r1, r2, r3, r4⟩ := F
  intro t kt
  refine X.arraylength hx (by rw [q]; exact A.1) (State.isArrayOf_alike hZ.alike A.2.1) hg hs hd _ ?_
  rw [r2, hz]; exact kt
theorem inb {cl : Cell} {sz i : Nat} {j : Int32} (r2 : cl.slots.size = sz) (hj : ¬ j < 0) (hi : j.toNatClampNeg = i) (hlt : i < sz) : ¬ (j < 0 ∨ cl.slots.size ≤ j.toNatClampNeg) := fun q => q.elim hj fun q => by omega
theorem Sd.ldI (X : Sd n0 p l e R s m args below meth c T h k n) (hx : p.tables.exec = Jvm.exec) (hZ : Z.Warmed39 s.vm) {a : Addr} {kc : ClassId} {sz : Nat} {f : Nat → Value} (F : Avf Z h a kc .int sz f) {j : Int32} (hj : ¬ j < 0) {i : Nat} (hi : j.toNatClampNeg = i) (hlt : i < sz) {v : Value} (hv : f i = v)
    {g : JFrame} (hg : g.method = m) {rest : List Value} (hs : g.stack = .int j :: .ref a :: rest) (hd : decode c.code g.pc = .ok (.iaload, 1)) :
    ∀ target, Steps p.tables e below (T.setTop { g with pc := g.pc + 1, stack := v :: rest }) target → Steps p.tables e below (T.setTop g) target := by
  subst hv
  obtain ⟨L, X, -, q⟩ := X
  obtain ⟨cl, A, r1, r2, r3, r4⟩ := F
  exact X.iaload hx (by rw [q]; exact A.1) (State.isArrayOf_alike hZ.alike A.2.1) A.2.2 (inb r2 hj hi hlt) (by rw [hi]; exact (r4 i hlt).1) hg hs hd
theorem Sd.ldJ (X : Sd n0 p l e R s m args below meth c T h k n) (hx : p.tables.exec = Jvm.exec) (hZ : Z.Warmed39 s.vm) {a : Addr} {kc : ClassId} {sz : Nat} {f : Nat → Value} (F : Avf Z h a kc .long sz f) {j : Int32} (hj : ¬ j < 0) {i : Nat} (hi : j.toNatClampNeg = i) (hlt : i < sz) {v : Value} (hv : f i = v)
    {g : JFrame} (hg : g.method = m) {rest : List Value} (hs : g.stack = .int j :: .ref a :: rest) (hd : decode c.code g.pc = .ok (.laload, 1)) :
    ∀ target, Steps p.tables e below (T.setTop { g with pc := g.pc + 1, stack := v :: rest }) target → Steps p.tables e below (T.setTop g) target := by
  subst hv
  obtain ⟨L, X, -, q⟩ := X
  obtain ⟨cl, A, r1, r2, r3, r4⟩ := F
  exact X.laload hx (by rw [q]; exact A.1) (State.isArrayOf_alike hZ.alike A.2.1) A.2.2 (inb r2 hj hi hlt) (by rw [hi]; exact (r4 i hlt).1) hg hs hd
theorem Sd.ldC (X : Sd n0 p l e R s m args below meth c T h k n) (hx : p.tables.exec = Jvm.exec) (hZ : Z.Warmed39 s.vm) {a : Addr} {kc : ClassId} {sz : Nat} {f : Nat → Value} (F : Avf Z h a kc .char sz f) {j : Int32} (hj : ¬ j < 0) {i : Nat} (hi : j.toNatClampNeg = i) (hlt : i < sz) {v : Value} (hv : f i = v)
    {g : JFrame} (hg : g.method = m) {rest : List Value} (hs : g.stack = .int j :: .ref a :: rest) (hd : decode c.code g.pc = .ok (.caload, 1)) :
    ∀ target, Steps p.tables e below (T.setTop { g with pc := g.pc + 1, stack := v :: rest }) target → Steps p.tables e below (T.setTop g) target := by
  subst hv
  obtain ⟨L, X, -, q⟩ := X
  obtain ⟨cl, A, r1, r2, r3, r4⟩ := F
  exact X.caload hx (by rw [q]; exact A.1) (State.isArrayOf_alike hZ.alike A.2.1) A.2.2 (inb r2 hj hi hlt) (by rw [hi]; exact (r4 i hlt).1) hg hs hd
theorem Sd.ldB (X : Sd n0 p l e R s m args below meth c T h k n) (hx : p.tables.exec = Jvm.exec) (hZ : Z.Warmed39 s.vm) {a : Addr} {kc : ClassId} {sz : Nat} {f : Nat → Value} (F : Avf Z h a kc .byte sz f) {j : Int32} (hj : ¬ j < 0) {i : Nat} (hi : j.toNatClampNeg = i) (hlt : i < sz) {v : Value} (hv : f i = v)
    {g : JFrame} (hg : g.method = m) {rest : List Value} (hs : g.stack = .int j :: .ref a :: rest) (hd : decode c.code g.pc = .ok (.baload, 1)) :
    ∀ target, Steps p.tables e below (T.setTop { g with pc := g.pc + 1, stack := v :: rest }) target → Steps p.tables e below (T.setTop g) target := by
  subst hv
  obtain ⟨L, X, -, q⟩ := X
  obtain ⟨cl, A, r1, r2, r3, r4⟩ := F
  exact X.baloadBytes hx (by rw [q]; exact A.1) (State.isArrayOf_alike hZ.alike A.2.1) A.2.2 (inb r2 hj hi hlt) (by rw [hi]; exact (r4 i hlt).1) hg hs hd
theorem Sd.ldA (X : Sd n0 p l e R s m args below meth c T h k n) (hx : p.tables.exec = Jvm.exec) (hZ : Z.Warmed39 s.vm) {a : Addr} {kc : ClassId} {ty : FieldType} {sz : Nat} {f : Nat → Value} (F : Avf Z h a kc ty sz f) (hty : ty.isReference = true) {j : Int32} (hj : ¬ j < 0) {i : Nat} (hi : j.toNatClampNeg = i) (hlt : i < sz) {v : Value} (hv : f i = v)
    {g : JFrame} (hg : g.method = m) {rest : List Value} (hs : g.stack = .int j :: .ref a :: rest) (hd : decode c.code g.pc = .ok (.aaload, 1)) :
    ∀ target, Steps p.tables e below (T.setTop { g with pc := g.pc + 1, stack := v :: rest }) target → Steps p.tables e below (T.setTop g) target := by
  subst hv
  obtain ⟨L, X, -, q⟩ := X
  obtain ⟨cl, A, r1, r2, r3, r4⟩ := F
  exact X.aaload hx (by rw [q]; exact A.1) (State.isArrayOf_alike hZ.alike A.2.1) hty A.2.2 (inb r2 hj hi hlt) (by rw [hi]; exact (r4 i hlt).1) hg hs hd
theorem Sd.stI (X : Sd n0 p l e R s m args below meth c T h k n) (hx : p.tables.exec = Jvm.exec) (hZ : Z.Warmed39 s.vm) {a : Addr} {kc : ClassId} {sz : Nat} {f : Nat → Value} (F : Avf Z h a kc .int sz f) (ga : n0 ≤ a) {j x : Int32} (hj : ¬ j < 0) {i : Nat} (hi : j.toNatClampNeg = i) (hlt : i < sz)
    {g : JFrame} (hg : g.method = m) {rest : List Value} (hs : g.stack = .int x :: .int j :: .ref a :: rest) (hd : decode c.code g.pc = .ok (.iastore, 1)) :
    ∃ T' h', Sd n0 p l e R s m args below meth c T' h' k n ∧ Wr h h' a i (.int x) ∧ Avf Z h' a kc .int sz (fun t => if t = i then .int x else f t) ∧ ∀ target, Steps p.tables e below (T'.setTop { g with pc := g.pc + 1, stack := rest }) target → Steps p.tables e below (T.setTop g) target := by
  obtain ⟨L, X, N, q⟩ := X
  obtain ⟨cl, A, r1, r2, r3, r4⟩ := F
  obtain ⟨T', h', X', e', W, st⟩ := Jvm.RoadKit.stI X hx hZ q A (inb r2 hj hi hlt) hg hs hd
  subst hi
  exact ⟨T', h', ⟨_, X', Fr.snoc X' N ga, e'⟩, W, Avf.set ⟨cl, A, r1, r2, r3, r4⟩ W rfl, st⟩
theorem Sd.stJ (X : Sd n0 p l e R s m args below meth c T h k n) (hx : p.tables.exec = Jvm.exec) (hZ : Z.Warmed39 s.vm) {a : Addr} {kc : ClassId} {sz : Nat} {f : Nat → Value} (F : Avf Z h a kc .long sz f) (ga : n0 ≤ a) {j : Int32} {x : Int64} (hj : ¬ j < 0) {i : Nat} (hi : j.toNatClampNeg = i) (hlt : i < sz)
    {g : JFrame} (hg : g.method = m) {rest : List Value} (hs : g.stack = .long x :: .int j :: .ref a :: rest) (hd : decode c.code g.pc = .ok (.lastore, 1)) :
    ∃ T' h', Sd n0 p l e R s m args below meth c T' h' k n ∧ Wr h h' a i (.long x) ∧ Avf Z h' a kc .long sz (fun t => if t = i then .long x else f t) ∧ ∀ target, Steps p.tables e below (T'.setTop { g with pc := g.pc + 1, stack := rest }) target → Steps p.tables e below (T.setTop g) target := by
  obtain ⟨L, X, N, q⟩ := X
  obtain ⟨cl, A, r1, r2, r3, r4⟩ := F
  obtain ⟨T', h', X', e', W, st⟩ := Jvm.RoadKit.stJ X hx hZ q A (inb r2 hj hi hlt) hg hs hd
  subst hi
  exact ⟨T', h', ⟨_, X', Fr.snoc X' N ga, e'⟩, W, Avf.set ⟨cl, A, r1, r2, r3, r4⟩ W rfl, st⟩
theorem Sd.stB (X : Sd n0 p l e R s m args below meth c T h k n) (hx : p.tables.exec = Jvm.exec) (hZ : Z.Warmed39 s.vm) {a : Addr} {kc : ClassId} {sz : Nat} {f : Nat → Value} (F : Avf Z h a kc .byte sz f) (ga : n0 ≤ a) {j x : Int32} (hj : ¬ j < 0) {i : Nat} (hi : j.toNatClampNeg = i) (hlt : i < sz)
    {g : JFrame} (hg : g.method = m) {rest : List Value} (hs : g.stack = .int x :: .int j :: .ref a :: rest) (hd : decode c.code g.pc = .ok (.bastore, 1)) :
    ∃ T' h', Sd n0 p l e R s m args below meth c T' h' k n ∧ Wr h h' a i (.int x.toInt8.toInt32) ∧ Avf Z h' a kc .byte sz (fun t => if t = i then .int x.toInt8.toInt32 else f t) ∧ ∀ target, Steps p.tables e below (T'.setTop { g with pc := g.pc + 1, stack := rest }) target → Steps p.tables e below (T.setTop g) target := by
  obtain ⟨L, X, N, q⟩ := X
  obtain ⟨cl, A, r1, r2, r3, r4⟩ := F
  obtain ⟨T', h', X', e', W, st⟩ := Jvm.RoadKit.stB X hx hZ q A (inb r2 hj hi hlt) hg hs hd
  subst hi
  exact ⟨T', h', ⟨_, X', Fr.snoc X' N ga, e'⟩, W, Avf.set ⟨cl, A, r1, r2, r3, r4⟩ W (fits_nar_byte _), st⟩
theorem Sd.stC (X : Sd n0 p l e R s m args below meth c T h k n) (hx : p.tables.exec = Jvm.exec) (hZ : Z.Warmed39 s.vm) {a : Addr} {kc : ClassId} {sz : Nat} {f : Nat → Value} (F : Avf Z h a kc .char sz f) (ga : n0 ≤ a) {j x : Int32} (hj : ¬ j < 0) {i : Nat} (hi : j.toNatClampNeg = i) (hlt : i < sz)
    {g : JFrame} (hg : g.method = m) {rest : List Value} (hs : g.stack = .int x :: .int j :: .ref a :: rest) (hd : decode c.code g.pc = .ok (.castore, 1)) :
    ∃ T' h', Sd n0 p l e R s m args below meth c T' h' k n ∧ Wr h h' a i (.int (nar .char x)) ∧ Avf Z h' a kc .char sz (fun t => if t = i then .int (nar .char x) else f t) ∧ ∀ target, Steps p.tables e below (T'.setTop { g with pc := g.pc + 1, stack := rest }) target → Steps p.tables e below (T.setTop g) target := by
  obtain ⟨L, X, N, q⟩ := X
  obtain ⟨cl, A, r1, r2, r3, r4⟩ := F
  obtain ⟨T', h', X', e', W, st⟩ := Jvm.RoadKit.stC X hx hZ q A (inb r2 hj hi hlt) hg hs hd
  subst hi
  exact ⟨T', h', ⟨_, X', Fr.snoc X' N ga, e'⟩, W, Avf.set ⟨cl, A, r1, r2, r3, r4⟩ W (fits_nar_char _), st⟩
theorem Sd.newRA (X : Sd n0 p l e R s m args below meth c T h k n) (hx : p.tables.exec = Jvm.exec) (hZ : Z.Warmed39 s.vm) {own C : String} {ty : FieldType} {index : Nat} (hown : s.vm.findClass own = some m.cls) (hC : (FieldType.array ty).toString = C) (w1 : (Cond.classLink own index C).before a0 Z = true) (w2 : (Cond.arrayOver (.array ty)).before a0 Z = true)
    {g : JFrame} (hg : g.method = m) (hd : decode c.code g.pc = .ok (.anewarray index, 3)) {z : Int32} {rest : List Value} (hs : g.stack = .int z :: rest)
    (hz : ¬ z < 0) {sz cap k' n' : Nat} (hsz : z.toNatClampNeg = sz) (hcap : sz ≤ cap) (hb : cap * 8 ≤ 536870912) (hk : k + 1 = k') (hn : n + cap = n') (hc : k' ≤ R.cells) (hl : n' ≤ R.slots) {ad : String} (had : "[" ++ C = ad) :
    ∃ T' h' kc a, Sd n0 p l e R s m args below meth c T' h' k' n' ∧ a = h.size ∧ Ext h h' ∧ Exa Z h' a ad ∧ Avf Z h' a kc (.array ty) sz (fun _ => .null) ∧ OvrA Z kc ty C ∧
      ∀ target, Steps p.tables e below (T'.setTop { g with pc := g.pc + 3, stack := .ref a :: rest }) target → Steps p.tables e below (T.setTop g) target := by
  subst hk hn hsz
  obtain ⟨L, X, N, q⟩ := X
  obtain ⟨T', h', kc, X', e', E, A, Ex, O, st⟩ := Jvm.RoadKit.newRA X hx hZ hown hC w1 w2 q hg hd hs hz hcap hb hc hl had
  exact ⟨T', h', kc, _, ⟨L, X', N, e'⟩, rfl, E, Ex, ⟨_, A, rfl, sz_new _ _ _, (back32 hz).2, fun i hi => ⟨by simp [newA, hi, defaultValue], rfl⟩⟩, O, st⟩
theorem Sd.stR (X : Sd n0 p l e R s m args below meth c T h k n) (hx : p.tables.exec = Jvm.exec) (hZ : Z.Warmed39 s.vm) {a : Addr} {kc : ClassId} {ty : FieldType} {sz : Nat} {f : Nat → Value} (F : Avf Z h a kc ty sz f) (ga : n0 ≤ a) (hty : ty.isReference = true) {j : Int32} {v : Value} (hv : v.isRef = true) (St : Sto Z h a v) (hj : ¬ j < 0) {i : Nat} (hi : j.toNatClampNeg = i) (hlt : i < sz)
    {g : JFrame} (hg : g.method = m) {rest : List Value} (hs : g.stack = v :: .int j :: .ref a :: rest) (hd : decode c.code g.pc = .ok (.aastore, 1)) :
    ∃ T' h', Sd n0 p l e R s m args below meth c T' h' k n ∧ Wr h h' a i v ∧ Avf Z h' a kc ty sz (fun t => if t = i then v else f t) ∧ ∀ target, Steps p.tables e below (T'.setTop { g with pc := g.pc + 1, stack := rest }) target → Steps p.tables e below (T.setTop g) target := by
  obtain ⟨L, X, N, q⟩ := X
  obtain ⟨cl, A, r1, r2, r3, r4⟩ := F
  obtain ⟨T', h', X', e', W, st⟩ := Jvm.RoadKit.stR X hx hZ q A (inb r2 hj hi hlt) hty St hg hs hd
  subst hi
  have hf : fits ty v = true := by cases ty <;> first | (cases hty; done) | (cases v <;> first | rfl | (cases hv; done))
  exact ⟨T', h', ⟨_, X', Fr.snoc X' N ga, e'⟩, W, Avf.set ⟨cl, A, r1, r2, r3, r4⟩ W hf, st⟩
theorem sto_avf {h : Heap} {a y : Addr} {kc : ClassId} {ty ty' : FieldType} {sz : Nat} {f : Nat → Value} {C : String} (F : Avf Z h a kc ty sz f) (O : OvrA Z kc ty' C) (I : Ins Z h y C true) : Sto Z h a (.ref y) := by
  obtain ⟨cl, A, r1, -⟩ := F
  exact Sto.ofVA A r1 O I
/-! calls -/
theorem Sd.callS (X : Sd n0 p l e R s m args below meth c T h k n) (hx : p.tables.exec = Jvm.exec) (hZ : Z.Warmed39 s.vm) {own : String} {index : Nat} {y : MethodName} {bytes : ByteArray} {maxL : Nat} {ret : Option FieldType} {rm : Room} {as' : Array Value} {Q : Option Value → Heap → Prop}
    (hown : s.vm.findClass own = some m.cls) (w1 : (Cond.methodLink own index y).before a0 Z = true) (w2 : (Cond.static y).before a0 Z = true) (w3 : (Cond.initialized y.cls).before a0 Z = true) (w4 : (Cond.code y bytes maxL ret).before a0 Z = true) (hy : y.cls ≠ "java/lang/invoke/MethodHandle" ∧ y.cls ≠ "java/lang/invoke/VarHandle")
    (hM : Met l Z n0 y bytes maxL ret [] rm as' h Q) {g : JFrame} (hg : g.method = m) (hsize : g.locals.size = c.maxLocals) {argsL rest : List Value} (hlen : ∀ sig, parseMethodDescriptor y.desc = some sig → argsL.length = sig.parameters.length)
    (hstack : g.stack = argsL.reverse ++ rest) (hd : decode c.code g.pc = .ok (.invokestatic index, 3)) (has : argsL.toArray = as') (hf : rm.frames + 1 ≤ R.frames) (hl : 2 * g.monitorRoom + (rest.map fun v => v.category).sum + (maxL + 11) + rm.locals ≤ R.locals)
    {k' n' : Nat} (hk : k + rm.cells = k') (hn : n + rm.slots = n') (hc : k' ≤ R.cells) (hs : n' ≤ R.slots) :
    ∃ v T' h', Sd n0 p l e R s m args below meth c T' h' k' n' ∧ Q v h' ∧ ∀ target, Steps p.tables e below (T'.setTop { g with pc := g.pc + 3, stack := v.toList ++ rest }) target → Steps p.tables e below (T.setTop g) target := by
  subst hk hn
  obtain ⟨L, X, N, q⟩ := X
  obtain ⟨v, _, ⟨T', L', k1, n1⟩, -, X', ⟨Lc, hQ, q1, q2, q3⟩, st⟩ := Jvm.LawKit.callS X hx (y := y) hown (mvT hZ w1) (mvT hZ w2) (mvT hZ w3) (mvT hZ w4) hy (backOf (Q := fun v h L => Q v h ∧ Fr n0 L) hM hZ w4 w3 hf hl) hg hsize hlen hstack (Nat.le_refl _) hd (fun _ _ => ⟨has, q, hc, hs⟩)
  dsimp only [Pt.U, Pt.locs, Pt.cells, Pt.slots] at X' q1 q2 q3 st hQ
  subst q1 q2 q3
  exact ⟨v, T', _, ⟨_, X', Fr.app N hQ.2, rfl⟩, hQ.1, st⟩
theorem Sd.callI (X : Sd n0 p l e R s m args below meth c T h k n) (hx : p.tables.exec = Jvm.exec) (hZ : Z.Warmed39 s.vm) {own : String} {index : Nat} {y : MethodName} {bytes : ByteArray} {maxL : Nat} {rm : Room} {as' : Array Value} {Q : Option Value → Heap → Prop} (hy1 : y.name = "<init>")
    (hown : s.vm.findClass own = some m.cls) (w1 : (Cond.methodLink own index y).before a0 Z = true) (w2 : (Cond.instanceMethod y).before a0 Z = true) (w3 : (Cond.initialized y.cls).before a0 Z = true) (w4 : (Cond.code y bytes maxL none).before a0 Z = true) (hy : y.cls ≠ "java/lang/invoke/MethodHandle" ∧ y.cls ≠ "java/lang/invoke/VarHandle")
    (hM : Met l Z n0 y bytes maxL none [] rm as' h Q) {g : JFrame} (hg : g.method = m) (hsize : g.locals.size = c.maxLocals) {a : Addr} {argsL rest : List Value} (hlen : ∀ sig, parseMethodDescriptor y.desc = some sig → argsL.length = sig.parameters.length)
    (hstack : g.stack = argsL.reverse ++ .ref a :: rest) (hd : decode c.code g.pc = .ok (.invokespecial index, 3)) (has : (.ref a :: argsL).toArray = as') (hf : rm.frames + 1 ≤ R.frames) (hl : 2 * g.monitorRoom + (rest.map fun v => v.category).sum + (maxL + 11) + rm.locals ≤ R.locals)
    {k' n' : Nat} (hk : k + rm.cells = k') (hn : n + rm.slots = n') (hc : k' ≤ R.cells) (hs : n' ≤ R.slots) :
    ∃ v T' h', Sd n0 p l e R s m args below meth c T' h' k' n' ∧ Q v h' ∧ ∀ target, Steps p.tables e below (T'.setTop { g with pc := g.pc + 3, stack := v.toList ++ rest }) target → Steps p.tables e below (T.setTop g) target := by
  subst hk hn
  obtain ⟨L, X, N, q⟩ := X
  obtain ⟨v, _, ⟨T', L', k1, n1⟩, -, X', ⟨Lc, hQ, q1, q2, q3⟩, st⟩ := X.specialBack hx (y := y) hy1 hown (mvT hZ w1) (mvT hZ w2) (mvT hZ w4) hy (backOf (Q := fun v h L => Q v h ∧ Fr n0 L) hM hZ w4 w3 hf hl) hg hsize (Steps.refl _) hlen hstack (Nat.le_refl _) hd (fun _ _ => ⟨has, q, hc, hs⟩)
  dsimp only [Pt.U, Pt.locs, Pt.cells, Pt.slots] at X' q1 q2 q3 st hQ
  subst q1 q2 q3
  exact ⟨v, T', _, ⟨_, X', Fr.app N hQ.2, rfl⟩, hQ.1, fun _ kt => st.trans kt⟩
theorem Sd.callV (X : Sd n0 p l e R s m args below meth c T h k n) (hx : p.tables.exec = Jvm.exec) (hZ : Z.Warmed39 s.vm) {own C : String} {index : Nat} {y z : MethodName} {bytes : ByteArray} {maxL : Nat} {ret : Option FieldType} {rm : Room} {as' : Array Value} {Q : Option Value → Heap → Prop}
    (hown : s.vm.findClass own = some m.cls) (w1 : (Cond.methodLink own index y).before a0 Z = true) (w2 : (Cond.declares y).before a0 Z = true) (hnf : NotFace s y) (w5 : (Cond.selects C y z).before a0 Z = true) (w6 : (Cond.instanceMethod z).before a0 Z = true) (w3 : (Cond.initialized z.cls).before a0 Z = true) (w4 : (Cond.code z bytes maxL ret).before a0 Z = true) (hy : y.cls ≠ "java/lang/invoke/MethodHandle" ∧ y.cls ≠ "java/lang/invoke/VarHandle")
    (hM : Met l Z n0 z bytes maxL ret [] rm as' h Q) {a : Addr} (E : Exa Z h a C) {g : JFrame} (hg : g.method = m) (hsize : g.locals.size = c.maxLocals) {argsL rest : List Value} (hlen : ∀ sig, parseMethodDescriptor y.desc = some sig → argsL.length = sig.parameters.length)
    (hstack : g.stack = argsL.reverse ++ .ref a :: rest) (hd : decode c.code g.pc = .ok (.invokevirtual index, 3)) (has : (.ref a :: argsL).toArray = as') (hf : rm.frames + 1 ≤ R.frames) (hl : 2 * g.monitorRoom + (rest.map fun v => v.category).sum + (maxL + 11) + rm.locals ≤ R.locals)
    {k' n' : Nat} (hk : k + rm.cells = k') (hn : n + rm.slots = n') (hc : k' ≤ R.cells) (hs : n' ≤ R.slots) :
    ∃ v T' h', Sd n0 p l e R s m args below meth c T' h' k' n' ∧ Q v h' ∧ ∀ target, Steps p.tables e below (T'.setTop { g with pc := g.pc + 3, stack := v.toList ++ rest }) target → Steps p.tables e below (T.setTop g) target := by
  subst hk hn
  obtain ⟨L, X, N, q⟩ := X
  obtain ⟨cB, kB, b1, b2, b3⟩ := isOf (T := T) hZ q E
  obtain ⟨v, _, ⟨T', L', k1, n1⟩, -, X', ⟨Lc, hQ, q1, q2, q3⟩, st⟩ := X.virtualBack hx (y := y) (z := z) hown (mvT hZ w1) (mvT hZ w2) hnf (mvT hZ w5) (mvT hZ w6) hy (backOf (Q := fun v h L => Q v h ∧ Fr n0 L) hM hZ w4 w3 hf hl) b1 b3 hg hsize (Steps.refl _) hlen hstack (Nat.le_refl _) hd (fun _ _ => ⟨has, q, hc, hs⟩)
  dsimp only [Pt.U, Pt.locs, Pt.cells, Pt.slots] at X' q1 q2 q3 st hQ
  subst q1 q2 q3
  exact ⟨v, T', _, ⟨_, X', Fr.app N hQ.2, rfl⟩, hQ.1, fun _ kt => st.trans kt⟩
theorem Sd.callP (X : Sd n0 p l e R s m args below meth c T h k n) (hx : p.tables.exec = Jvm.exec) (hZ : Z.Warmed39 s.vm) {own C : String} {index : Nat} {y : MethodName} {bytes : ByteArray} {maxL : Nat} {ret : Option FieldType} {rm : Room} {as' : Array Value} {Q : Option Value → Heap → Prop}
    (hown : s.vm.findClass own = some m.cls) (w1 : (Cond.methodLink own index y).before a0 Z = true) (w6 : (Cond.instanceMethod y).before a0 Z = true) (w5 : (Cond.selects y.cls y y).before a0 Z = true) (w7 : (Cond.privateMethod y).before a0 Z = true) (w3 : (Cond.initialized y.cls).before a0 Z = true) (w4 : (Cond.code y bytes maxL ret).before a0 Z = true) (hy : y.cls ≠ "java/lang/invoke/MethodHandle" ∧ y.cls ≠ "java/lang/invoke/VarHandle")
    (hM : Met l Z n0 y bytes maxL ret [] rm as' h Q) {a : Addr} (E : Exa Z h a C) {g : JFrame} (hg : g.method = m) (hsize : g.locals.size = c.maxLocals) {argsL rest : List Value} (hlen : ∀ sig, parseMethodDescriptor y.desc = some sig → argsL.length = sig.parameters.length)
    (hstack : g.stack = argsL.reverse ++ .ref a :: rest) (hd : decode c.code g.pc = .ok (.invokevirtual index, 3)) (has : (.ref a :: argsL).toArray = as') (hf : rm.frames + 1 ≤ R.frames) (hl : 2 * g.monitorRoom + (rest.map fun v => v.category).sum + (maxL + 11) + rm.locals ≤ R.locals)
    {k' n' : Nat} (hk : k + rm.cells = k') (hn : n + rm.slots = n') (hc : k' ≤ R.cells) (hs : n' ≤ R.slots) :
    ∃ v T' h', Sd n0 p l e R s m args below meth c T' h' k' n' ∧ Q v h' ∧ ∀ target, Steps p.tables e below (T'.setTop { g with pc := g.pc + 3, stack := v.toList ++ rest }) target → Steps p.tables e below (T.setTop g) target := by
  subst hk hn
  obtain ⟨L, X, N, q⟩ := X
  obtain ⟨cl, b1, b2⟩ := E.cell
  obtain ⟨v, _, ⟨T', L', k1, n1⟩, -, X', ⟨Lc, hQ, q1, q2, q3⟩, st⟩ := X.privateBack hx (y := y) hown (mvT hZ w1) (mvT hZ w6) (mvT hZ w5) (Cond.privateMethod_at (mvP hZ w7 (args := #[]))) (mvT hZ w4) hy (backOf (Q := fun v h L => Q v h ∧ Fr n0 L) hM hZ w4 w3 hf hl) hg hsize (Steps.refl _) (a := a) (by rw [q]; exact b1) b2 hlen hstack (Nat.le_refl _) hd (fun _ _ => ⟨has, q, hc, hs⟩)
  dsimp only [Pt.U, Pt.locs, Pt.cells, Pt.slots] at X' q1 q2 q3 st hQ
  subst q1 q2 q3
  exact ⟨v, T', _, ⟨_, X', Fr.app N hQ.2, rfl⟩, hQ.1, fun _ kt => st.trans kt⟩
theorem Sd.callU (X : Sd n0 p l e R s m args below meth c T h k n) (hx : p.tables.exec = Jvm.exec) (hZ : Z.Warmed39 s.vm) {own C owner : String} {index : Nat} {y z : MethodName} {bytes : ByteArray} {maxL : Nat} {ret : Option FieldType} {rm : Room} {as' : Array Value} {Q : Option Value → Heap → Prop}
    (hown : s.vm.findClass own = some m.cls) (w1 : (Cond.methodLink own index y).before a0 Z = true) (w2 : (Cond.sameMethod y.cls owner y.name y.desc).before a0 Z = true) (w7 : (Cond.declares ⟨owner, y.name, y.desc⟩).before a0 Z = true) (ho : owner ≠ "java/lang/invoke/MethodHandle" ∧ owner ≠ "java/lang/invoke/VarHandle") (w5 : (Cond.selects C y z).before a0 Z = true) (w6 : (Cond.instanceMethod z).before a0 Z = true) (w3 : (Cond.initialized z.cls).before a0 Z = true) (w4 : (Cond.code z bytes maxL ret).before a0 Z = true)
    (hM : Met l Z n0 z bytes maxL ret [] rm as' h Q) {a : Addr} (E : Exa Z h a C) {g : JFrame} (hg : g.method = m) (hsize : g.locals.size = c.maxLocals) {argsL rest : List Value} (hlen : ∀ sig, parseMethodDescriptor y.desc = some sig → argsL.length = sig.parameters.length)
    (hstack : g.stack = argsL.reverse ++ .ref a :: rest) (hd : decode c.code g.pc = .ok (.invokevirtual index, 3)) (has : (.ref a :: argsL).toArray = as') (hf : rm.frames + 1 ≤ R.frames) (hl : 2 * g.monitorRoom + (rest.map fun v => v.category).sum + (maxL + 11) + rm.locals ≤ R.locals)
    {k' n' : Nat} (hk : k + rm.cells = k') (hn : n + rm.slots = n') (hc : k' ≤ R.cells) (hs : n' ≤ R.slots) :
    ∃ v T' h', Sd n0 p l e R s m args below meth c T' h' k' n' ∧ Q v h' ∧ ∀ target, Steps p.tables e below (T'.setTop { g with pc := g.pc + 3, stack := v.toList ++ rest }) target → Steps p.tables e below (T.setTop g) target := by
  subst hk hn
  obtain ⟨L, X, N, q⟩ := X
  obtain ⟨cB, kB, b1, b2, b3⟩ := isOf (T := T) hZ q E
  obtain ⟨v, _, ⟨T', L', k1, n1⟩, -, X', ⟨Lc, hQ, q1, q2, q3⟩, st⟩ := X.virtualBackUp hx (x := y) (y := z) hown (mvT hZ w1) (mvT hZ w2) (mvT hZ w7) ho (mvT hZ w5) (mvT hZ w6) (backOf (Q := fun v h L => Q v h ∧ Fr n0 L) hM hZ w4 w3 hf hl) b1 b3 hg hsize (Steps.refl _) hlen hstack (Nat.le_refl _) hd (fun _ _ => ⟨has, q, hc, hs⟩)
  dsimp only [Pt.U, Pt.locs, Pt.cells, Pt.slots] at X' q1 q2 q3 st hQ
  subst q1 q2 q3
  exact ⟨v, T', _, ⟨_, X', Fr.app N hQ.2, rfl⟩, hQ.1, fun _ kt => st.trans kt⟩
theorem Sd.instNo (X : Sd n0 p l e R s m args below meth c T h k n) (hx : p.tables.exec = Jvm.exec) (hZ : Z.Warmed39 s.vm) {own K C : String} {index : Nat} (hown : s.vm.findClass own = some m.cls) (w : (Cond.classLink own index K).before a0 Z = true) {a : Addr} (E : Exa Z h a C) (F : ∃ c t, Z.vm.findClass C = some c ∧ Z.vm.findClass K = some t ∧ Z.vm.assignable c t = false)
    {g : JFrame} (hg : g.method = m) {rest : List Value} (hs : g.stack = .ref a :: rest) (hd : decode c.code g.pc = .ok (.instanceof index, 3)) :
    ∃ T', Sd n0 p l e R s m args below meth c T' h k n ∧ ∀ target, Steps p.tables e below (T'.setTop { g with pc := g.pc + 3, stack := .int 0 :: rest }) target → Steps p.tables e below (T.setTop g) target := by
  obtain ⟨L, X, N, q⟩ := X
  obtain ⟨T', X', e', st⟩ := Jvm.RoadKit.instNo X hx hZ hown w q E F hg hs hd
  exact ⟨T', ⟨L, X', N, e'⟩, st⟩
theorem ns_root {O K : String} {kk : Nat} (w : (Cond.noSuperclass O).before a0 Z = true) (wk : (Cond.instantiable K kk).before a0 Z = true) (hn : O ≠ K) : NS Z O K := by
  obtain ⟨c, k, h1, h2, h3, -, -⟩ := Cond.noSuperclass_spec w
  obtain ⟨t, k2, g1, -⟩ := Cond.instantiable_spec wk
  have ne := ids_ne h1 g1 hn
  refine ⟨c, t, h1, g1, fun fuel => ?_⟩
  cases fuel with
  | zero => rfl
  | succ f => simp [Vm.isSubclassAux, ne, h2, h3]
theorem ns_no {C K : String} {k1 k2 : Nat} (w : (Cond.instantiable C k1).before a0 Z = true) (wk : (Cond.instantiable K k2).before a0 Z = true) (n : NS Z C K) (hn : C ≠ K) : ∃ c t, Z.vm.findClass C = some c ∧ Z.vm.findClass K = some t ∧ Z.vm.assignable c t = false := by
  obtain ⟨c, t, h0, g0, n3⟩ := n
  obtain ⟨c', kc, h1, h2, h3, h4, -⟩ := Cond.instantiable_spec w
  obtain ⟨t', kt, g1, g2, g3, g4, -⟩ := Cond.instantiable_spec wk
  cases h0.symm.trans h1
  cases g0.symm.trans g1
  have ne := ids_ne h0 g0 hn
  refine ⟨c, t, h0, g0, ?_⟩
  have g5 : kt.isInterface = false := by simp at g4; exact g4.1
  show Z.vm.assignableAux (255 + 1) c t = false
  simp [Vm.assignableAux, ne, h2, g2, h3, g3, g5, Vm.isSubclass, n3]
theorem keep_ext {h h' : Heap} (K : Keep h h' []) : Ext h h' := ⟨K.1, fun x c q => K.2.1 x c q nin0⟩
theorem Exa.plain {h : Heap} {a : Addr} {C : String} (F : Exa Z h a C) : ∀ cell : Cell, h[a]? = some cell → cell.vm.isStatics = false := fun cell hc => by
  obtain ⟨c, k, h1, -, -, h4, -⟩ := F
  cases h1.symm.trans hc; exact h4
theorem Avf.plain {h : Heap} {a : Addr} {kc : ClassId} {ty : FieldType} {sz : Nat} {f : Nat → Value} (F : Avf Z h a kc ty sz f) : ∀ cell : Cell, h[a]? = some cell → cell.vm.isStatics = false := fun cell hc => by
  obtain ⟨cl, A, -⟩ := F
  cases A.1.symm.trans hc; exact Arr.plain A
theorem Sta.keepN {h h' : Heap} {C f d : String} {v : Value} {ws : List Addr} (F : Sta Z h C f d v) (K : Keep h h' ws) (q : ∀ x ∈ ws, ∀ cell : Cell, h[x]? = some cell → cell.vm.isStatics = false) : Sta Z h' C f d v := by
  obtain ⟨cf, i, k, fl, st, cell, h1, h2, h3, h4, h5, h6, h7⟩ := F
  exact ⟨cf, i, k, fl, st, cell, h1, h2, h3, h4, K.2.1 st cell h5 (fun z => by rw [q st z cell h5] at h6; cases h6), h6, h7⟩
/-! at the start -/
theorem sta_exa {args : Array Value} {C f d K : String} (hx : (Cond.exactly (.static C f d) K).value args Z none Z [] = some true) (wi : (Cond.initialized C).before args Z = true) (wl : (Cond.laysStatic C f d).before args Z = true) : ∃ a, (Term.static C f d).eval args Z none [] Z = some (.ref a) ∧ Sta Z Z.heap C f d (.ref a) ∧ Exa Z Z.heap a K := by
  obtain ⟨a, ev⟩ := exa_v hx
  exact ⟨a, ev, Sta.start ev (Or.inr ⟨wi, wl⟩), Exa.start ev hx⟩
theorem sta_arr {args : Array Value} {C f d : String} {ty : FieldType} (hx : (Cond.arrayOf (.static C f d) ty).value args Z none Z [] = some true) (wi : (Cond.initialized C).before args Z = true) (wl : (Cond.laysStatic C f d).before args Z = true) : ∃ a cl, (Term.static C f d).eval args Z none [] Z = some (.ref a) ∧ Sta Z Z.heap C f d (.ref a) ∧ Arr Z Z.heap a cl ty := by
  obtain ⟨a, ev⟩ := arr_v hx
  obtain ⟨cl, A⟩ := Arr.start ev hx
  exact ⟨a, cl, ev, Sta.start ev (Or.inr ⟨wi, wl⟩), A⟩
theorem int_of_eq {args : Array Value} {t : Term} {kk : Int32} (h : (Cond.eq t (.int kk)).value args Z none Z [] = some true) : t.eval args Z none [] Z = some (.int kk) := by
  obtain ⟨x, y, h1, h2, k1, k2⟩ := cmp_v (Or.inl h)
  cases (Option.some.inj h2 : Value.int kk = y)
  obtain ⟨z, rfl⟩ : ∃ z, x = .int z := k2
  have q : z = kk := by simpa [Cond.value, h1, Term.eval] using h
  rw [h1, q]
theorem fld_eq {args : Array Value} {t : Term} {C f d : String} {a : Addr} {kk : Int32} (ht : t.eval args Z none [] Z = some (.ref a)) (h : (Cond.eq (.field t C f d) (.int kk)).value args Z none Z [] = some true) : Fld Z Z.heap a C f d (.int kk) :=
  Fld.start ((fld_at ht).symm.trans (int_of_eq h))
theorem ref_of_eq {args : Array Value} {t u : Term} {a : Addr} (hu : u.eval args Z none [] Z = some (.ref a)) (h : (Cond.eq t u).value args Z none Z [] = some true) : t.eval args Z none [] Z = some (.ref a) := by
  obtain ⟨x, y, h1, h2, k1, k2⟩ := cmp_v (Or.inl h)
  cases (Option.some.inj (hu.symm.trans h2) : Value.ref a = y)
  have kx : x.isRef = true := k2.2
  rw [h1, gotT (eq_R h1 hu kx rfl) h]
theorem avf_len {args : Array Value} {t : Term} {a : Addr} {cl : Cell} {ty : FieldType} {z : Int32} {sz : Nat} (A : Arr Z Z.heap a cl ty) (ev : t.eval args Z none [] Z = some (.ref a)) (h : (Term.length t).eval args Z none [] Z = some (.int z)) (hz : z.toNatClampNeg = sz) : cl.slots.size = sz := by
  have ha : Z.arrayAt? a = some cl := A.fin (Vm.Alike.refl _)
  simp only [Term.eval, ev, ha, Option.bind_eq_bind, Option.bind_some] at h
  split at h
  · rename_i hl
    have e : cl.slots.size.toInt32 = z := by simpa using h
    rw [← hz, ← e]
    have q := len_toInt hl
    simp only [Int32.toNatClampNeg, q]; omega
  · cases h
theorem iremS {g : JFrame} {target : State} (X : Sd n0 p l e R s m args below meth c T h k n) (hx : p.tables.exec = Jvm.exec) (hg : g.method = m) {x y : Int32} {rest : List Value} (hd : decode c.code g.pc = .ok (.irem, 1)) (hs : g.stack = .int y :: .int x :: rest) (hy : y ≠ 0)
    (hr : Steps p.tables e below (T.setTop { g with pc := g.pc + 1, stack := .int (x % y) :: rest }) target) : Steps p.tables e below (T.setTop g) target := by
  obtain ⟨L, X, -⟩ := X; exact iremM X hx hg hd hs hy hr
end Sds
end Jvm.RoadKit
namespace Jvm.Pilot.@@N@@
open Jvm Jvm.ClassFile Sem Op Lib Jvm.Free Jvm.Stand Jvm.LawKit Jvm.RoadKit Bundle Jvm.Pilot.@@N@@.Jvm.D
theorem tw {a0 : Array Value} {Z : State} (hw : ∀ d ∈ tables_1, d.before a0 Z = true) (i : Nat) {d : Jvm.Cond} (h : tables_1[i]? = some d) : d.before a0 Z = true := hw _ (List.mem_of_getElem? h)
theorem i32_succ (i : Nat) : Int32.ofNat i + (1 : Int32) = Int32.ofNat (i + 1) := by
  rw [show (1 : Int32) = Int32.ofNat 1 from rfl, ← Int32.ofNat_add]
theorem i32_lt {i n : Nat} (h : i < n) (hn : n < 2 ^ 31) : Int32.ofNat i < n.toInt32 := by
  rw [Int32.lt_iff_toInt_lt, show (Int32.ofNat i).toInt = i from len_toInt (by omega), len_toInt hn]; omega
theorem i32_nlt {i n : Nat} (h : n ≤ i) (hi : i < 2 ^ 31) : ¬ Int32.ofNat i < n.toInt32 := by
  rw [Int32.lt_iff_toInt_lt, show (Int32.ofNat i).toInt = i from len_toInt hi, len_toInt (by omega)]; omega
theorem i32_nneg {i : Nat} (hi : i < 2 ^ 31) : ¬ Int32.ofNat i < 0 := by
  rw [Int32.lt_iff_toInt_lt, show (Int32.ofNat i).toInt = i from len_toInt hi]
  have : (0 : Int32).toInt = 0 := rfl
  omega
theorem i32_nat {i : Nat} (hi : i < 2 ^ 31) : (Int32.ofNat i).toNatClampNeg = i := by
  simp only [Int32.toNatClampNeg, show (Int32.ofNat i).toInt = i from len_toInt hi]; omega
theorem i32_inj {m n : Nat} (hm : m < 2 ^ 31) (hn : n < 2 ^ 31) (h : m.toInt32 = n.toInt32) : m = n := by
  have := congrArg Int32.toInt h
  rw [len_toInt hm, len_toInt hn] at this; omega
theorem avf_sz {Z : State} {h : Heap} {a : Addr} {kc : ClassId} {ty : FieldType} {sz : Nat} {f : Nat → Value} (F : Avf Z h a kc ty sz f) : sz < 2 ^ 31 := by obtain ⟨_, _, _, _, r, _⟩ := F; exact r
theorem avf_uniq {Z : State} {h : Heap} {a : Addr} {k1 k2 : ClassId} {ty : FieldType} {s1 s2 : Nat} {f1 f2 : Nat → Value} (F : Avf Z h a k1 ty s1 f1) (G : Avf Z h a k2 ty s2 f2) : s1 = s2 ∧ ∀ i, i < s1 → f1 i = f2 i := by
  obtain ⟨c1, A1, _, q1, _, r1⟩ := F
  obtain ⟨c2, A2, _, q2, _, r2⟩ := G
  obtain rfl : c1 = c2 := Option.some.inj (A1.1.symm.trans A2.1)
  refine ⟨q1.symm.trans q2, fun i hi => ?_⟩
  exact Option.some.inj ((r1 i hi).1.symm.trans (r2 i (by omega)).1)
theorem fld_uniq {Z : State} {h : Heap} {a : Addr} {C n d : String} {v w : Value} (F : Fld Z h a C n d v) (G : Fld Z h a C n d w) : v = w := by
  obtain ⟨c1, cf1, k1, i1, f1, h1, h2, h3, h4, h5, h6, h7⟩ := F
  obtain ⟨c2, cf2, k2, i2, f2, g1, g2, g3, g4, g5, g6, g7⟩ := G
  cases h1.symm.trans g1
  cases h2.symm.trans g2
  exact Option.some.inj (h7.symm.trans g7)
/-! the table, with no program in sight -/
def pre (f : Nat → Int64) : Nat → List Int64
  | 0 => []
  | n + 1 => pre f n ++ (if f (2 * n) = 0 then [] else [f (2 * n)])
  termination_by n => n
theorem pre_0 (f : Nat → Int64) : pre f 0 = [] := by rw [pre]
def upd (f : Nat → Int64) (j : Nat) (v : Int64) (t : Nat) : Int64 := if t = j then v else f t
def hm (k : Int64) : Nat := (k.toInt32 &&& (15 : Int32)).toNatClampNeg
def dp (f : Nat → Int64) (i : Nat) : Nat := (i + 16 - hm (f (2 * i))) % 16
def Lf (f : Nat → Int64) : Prop := ∀ i, i < 16 → f (2 * i) ≠ 0 → 0 < dp f i → f (2 * ((i + 15) % 16)) ≠ 0 ∧ dp f i ≤ dp f ((i + 15) % 16) + 1
theorem pre_congr {f g : Nat → Int64} (n : Nat) (h : ∀ i, i < n → f (2 * i) = g (2 * i)) : pre f n = pre g n := by
  induction n with
  | zero => rw [pre_0, pre_0]
  | succ n ih =>
    simp only [pre]
    rw [ih (fun i hi => h i (by omega)), h n (by omega)]
theorem Lf_congr {f g : Nat → Int64} (h : ∀ i, i < 16 → f (2 * i) = g (2 * i)) (L : Lf f) : Lf g := fun i hi h1 h2 => by
  have e1 := h i hi
  have e2 := h ((i + 15) % 16) (by omega)
  have d1 : dp f i = dp g i := by unfold dp; rw [e1]
  have d2 : dp f ((i + 15) % 16) = dp g ((i + 15) % 16) := by unfold dp; rw [e2]
  rw [← d1, ← d2, ← e2]
  exact L i hi (by rw [e1]; exact h1) (by rw [d1]; exact h2)
theorem upd_odd (f : Nat → Int64) (i : Nat) (v : Int64) (j : Nat) : upd f (2 * i + 1) v (2 * j) = f (2 * j) := if_neg (by omega)
theorem upd_even (f : Nat → Int64) (i : Nat) (v : Int64) (j : Nat) : upd f (2 * i) v (2 * j) = if j = i then v else f (2 * j) := by
  unfold upd
  by_cases q : j = i
  · rw [if_pos q, if_pos (by omega)]
  · rw [if_neg q, if_neg (by omega)]
theorem pre_odd (f : Nat → Int64) (i : Nat) (v : Int64) (n : Nat) : pre (upd f (2 * i + 1) v) n = pre f n := pre_congr n (fun j _ => upd_odd f i v j)
theorem count_upd (f : Nat → Int64) (i : Nat) (v x : Int64) (hx : x ≠ 0) (n : Nat) : (pre (upd f (2 * i) v) n).count x + (if i < n ∧ f (2 * i) = x then 1 else 0) = (pre f n).count x + (if i < n ∧ v = x then 1 else 0) := by
  induction n with
  | zero => simp [pre]
  | succ n ih =>
    simp only [pre, List.count_append, upd_even]
    by_cases q : n = i
    · subst q
      rw [if_pos rfl]
      simp only [Nat.lt_irrefl, false_and, if_false, Nat.add_zero] at ih
      rw [ih]
      simp only [Nat.lt_succ_self, true_and]
      have a : ∀ z : Int64, List.count x (if z = 0 then [] else [z]) = if z = x then 1 else 0 := fun z => by
        by_cases c : z = 0
        · rw [if_pos c, if_neg (by rw [c]; exact fun q => hx q.symm)]; rfl
        · rw [if_neg c, List.count_singleton]; by_cases c2 : z = x <;> simp [c2]
      rw [a, a]; omega
    · rw [if_neg q]
      have e1 : (i < n + 1) ↔ (i < n) := by omega
      simp only [e1]; omega
theorem len_upd (f : Nat → Int64) (i : Nat) (v : Int64) (n : Nat) : (pre (upd f (2 * i) v) n).length + (if i < n ∧ f (2 * i) ≠ 0 then 1 else 0) = (pre f n).length + (if i < n ∧ v ≠ 0 then 1 else 0) := by
  induction n with
  | zero => simp [pre]
  | succ n ih =>
    simp only [pre, List.length_append, upd_even]
    by_cases q : n = i
    · subst q
      rw [if_pos rfl]
      simp only [Nat.lt_irrefl, false_and, if_false, Nat.add_zero] at ih
      rw [ih]
      simp only [Nat.lt_succ_self, true_and]
      have a : ∀ z : Int64, List.length (if z = 0 then ([] : List Int64) else [z]) = if z ≠ 0 then 1 else 0 := fun z => by
        by_cases c : z = 0
        · rw [if_pos c, if_neg (by simp [c])]; rfl
        · rw [if_neg c, if_pos c]; rfl
      rw [a, a]; omega
    · rw [if_neg q]
      have e1 : (i < n + 1) ↔ (i < n) := by omega
      simp only [e1]; omega
theorem pre_mono (f : Nat → Int64) {i j : Nat} (h : i ≤ j) : (pre f i).length ≤ (pre f j).length := by
  induction j with
  | zero => rw [show i = 0 by omega]; exact Nat.le_refl _
  | succ j ih =>
    by_cases q : i = j + 1
    · rw [q]; exact Nat.le_refl _
    · have := ih (by omega)
      simp only [pre, List.length_append]; omega
theorem mem_pre (f : Nat → Int64) (x : Int64) (n : Nat) : x ∈ pre f n ↔ x ≠ 0 ∧ ∃ i, i < n ∧ f (2 * i) = x := by
  induction n with
  | zero => simp [pre]
  | succ n ih =>
    simp only [pre, List.mem_append, ih]
    constructor
    · rintro (⟨h1, i, h2, h3⟩ | h)
      · exact ⟨h1, i, by omega, h3⟩
      · by_cases c : f (2 * n) = 0
        · rw [if_pos c] at h; cases h
        · rw [if_neg c, List.mem_singleton] at h
          exact ⟨by rw [h]; exact c, n, by omega, h.symm⟩
    · rintro ⟨h1, i, h2, h3⟩
      by_cases q : i = n
      · subst q
        right
        rw [if_neg (by rw [h3]; exact h1), h3]; exact List.mem_singleton.mpr rfl
      · exact Or.inl ⟨h1, i, by omega, h3⟩
theorem full_len (f : Nat → Int64) (n : Nat) (h : ∀ i, i < n → f (2 * i) ≠ 0) : (pre f n).length = n := by
  induction n with
  | zero => rw [pre_0]; rfl
  | succ n ih =>
    simp only [pre, List.length_append]
    rw [ih (fun i hi => h i (by omega)), if_neg (h n (by omega))]; rfl
theorem free_slot (f : Nat → Int64) (h : (pre f 16).length ≤ 15) : ∃ q, q < 16 ∧ f (2 * q) = 0 := Classical.byContradiction fun c => by
  have := full_len f 16 (fun i hi q => c ⟨i, hi, q⟩)
  omega
theorem hm_lt (k : Int64) : hm k < 16 := by
  have q := c_mask k.toInt32 15 4 (by decide) (by decide)
  have : (k.toInt32 &&& (15 : Int32)).toNatClampNeg = (k.toInt32 &&& (15 : Int32)).toInt.toNat := rfl
  unfold hm
  rw [this, q]; omega
theorem dp_lt (f : Nat → Int64) (i : Nat) : dp f i < 16 := Nat.mod_lt _ (by decide)
theorem dp_ev {f g : Nat → Int64} {i : Nat} (h : f (2 * i) = g (2 * i)) : dp f i = dp g i := by unfold dp; rw [h]
theorem Lf_iter {f : Nat → Int64} (L : Lf f) (i : Nat) (hi : i < 16) (h0 : f (2 * i) ≠ 0) (j : Nat) (hj : j ≤ dp f i) : f (2 * ((i + 16 - j) % 16)) ≠ 0 ∧ dp f i ≤ dp f ((i + 16 - j) % 16) + j := by
  have hd := dp_lt f i
  induction j with
  | zero =>
    have e : (i + 16 - 0) % 16 = i := by omega
    rw [e]; exact ⟨h0, by omega⟩
  | succ j ih =>
    obtain ⟨h1, h2⟩ := ih (by omega)
    have e : (i + 16 - (j + 1)) % 16 = ((i + 16 - j) % 16 + 15) % 16 := by omega
    obtain ⟨h3, h4⟩ := L ((i + 16 - j) % 16) (by omega) h1 (by omega)
    rw [e]; exact ⟨h3, by omega⟩
/-- find's answer 'no' is right -/
theorem find_none {f : Nat → Int64} (L : Lf f) {k : Int64} (hk : k ≠ 0) {dist i : Nat} (hd : dist ≤ 16) (hi : i = (hm k + dist) % 16) (hno : ∀ e, e < dist → f (2 * ((hm k + e) % 16)) ≠ k) (h1 : f (2 * i) ≠ k) (h2 : f (2 * i) = 0 ∨ dp f i < dist) : ∀ j, j < 16 → f (2 * j) ≠ k := fun j hj q => by
  have hh := hm_lt k
  have hdp : dp f j = (j + 16 - hm k) % 16 := by unfold dp; rw [q]
  have hjd : j = (hm k + dp f j) % 16 := by rw [hdp]; omega
  rcases Nat.lt_trichotomy (dp f j) dist with c | c | c
  · exact hno _ c (by rw [← hjd]; exact q)
  · rw [c, ← hi] at hjd; exact h1 (by rw [← hjd]; exact q)
  · have hl := dp_lt f j
    obtain ⟨h3, h4⟩ := Lf_iter L j hj (by rw [q]; exact hk) (dp f j - dist) (by omega)
    have e : (j + 16 - (dp f j - dist)) % 16 = i := by omega
    rw [e] at h3 h4
    rcases h2 with z | z
    · exact h3 z
    · omega
def Ch (f : Nat → Int64) (i dist : Nat) : Prop := 0 < dist → f (2 * ((i + 15) % 16)) ≠ 0 ∧ dist ≤ dp f ((i + 15) % 16) + 1
theorem dp_upd {f : Nat → Int64} {i dist : Nat} {cur : Int64} (hi : i < 16) (hd : dist ≤ 15) (he : i = (hm cur + dist) % 16) : dp (upd f (2 * i) cur) i = dist := by
  have := hm_lt cur
  unfold dp
  rw [upd_even, if_pos rfl]; omega
theorem dp_updN {f : Nat → Int64} {i j : Nat} {cur : Int64} (h : j ≠ i) : dp (upd f (2 * i) cur) j = dp f j := dp_ev (by rw [upd_even, if_neg h])
/-- place's last write keeps L -/
theorem Lf_put {f : Nat → Int64} (L : Lf f) {i dist : Nat} {cur : Int64} (hi : i < 16) (hd : dist ≤ 15) (he : i = (hm cur + dist) % 16) (hc : cur ≠ 0) (hC : Ch f i dist) (h0 : f (2 * i) = 0 ∨ dp f i < dist) : Lf (upd f (2 * i) cur) := fun j hj h1 h2 => by
  have ev := dp_upd (f := f) hi hd he
  by_cases q : j = i
  · subst q
    rw [ev] at h2 ⊢
    obtain ⟨a, b⟩ := hC h2
    have hne : (j + 15) % 16 ≠ j := by omega
    rw [upd_even, if_neg hne, dp_updN hne]; exact ⟨a, b⟩
  · rw [upd_even, if_neg q] at h1
    rw [dp_updN q] at h2 ⊢
    obtain ⟨a, b⟩ := L j hj h1 h2
    by_cases q2 : (j + 15) % 16 = i
    · rw [q2] at a b ⊢
      rw [ev, upd_even, if_pos rfl]
      refine ⟨hc, ?_⟩
      rcases h0 with z | z
      · exact absurd z a
      · omega
    · rw [upd_even, if_neg q2, dp_updN q2]; exact ⟨a, b⟩
theorem Ch_swap {f : Nat → Int64} {i dist : Nat} {cur : Int64} (hi : i < 16) (hd : dist ≤ 15) (he : i = (hm cur + dist) % 16) (hc : cur ≠ 0) (h : dp f i < dist) : Ch (upd f (2 * i) cur) ((i + 1) % 16) (dp f i + 1) := fun _ => by
  have e : ((i + 1) % 16 + 15) % 16 = i := by omega
  rw [e, upd_even, if_pos rfl, dp_upd hi hd he]; exact ⟨hc, by omega⟩
theorem Ch_next {f : Nat → Int64} {i dist : Nat} (hi : i < 16) (h0 : f (2 * i) ≠ 0) (h : dist ≤ dp f i) : Ch f ((i + 1) % 16) (dist + 1) := fun _ => by
  have e : ((i + 1) % 16 + 15) % 16 = i := by omega
  rw [e]; exact ⟨h0, by omega⟩
theorem he_swap (f : Nat → Int64) {i : Nat} (hi : i < 16) : (i + 1) % 16 = (hm (f (2 * i)) + (dp f i + 1)) % 16 := by
  have := hm_lt (f (2 * i))
  unfold dp; omega
theorem he_next {k : Int64} {i dist : Nat} (he : i = (hm k + dist) % 16) : (i + 1) % 16 = (hm k + (dist + 1)) % 16 := by omega
/-- count of x, one more where x = k -/
def one (x k : Int64) : Nat := if k = x then 1 else 0
theorem cnt_upd {f : Nat → Int64} {i : Nat} {v x : Int64} (hi : i < 16) (hx : x ≠ 0) : (pre (upd f (2 * i) v) 16).count x + one x (f (2 * i)) = (pre f 16).count x + one x v := by
  have q := count_upd f i v x hx 16
  simp only [hi, true_and] at q
  exact q
theorem one_zero {x : Int64} (hx : x ≠ 0) : one x 0 = 0 := if_neg (fun q => hx q.symm)
theorem cnt0 {f : Nat → Int64} {k : Int64} (h : ∀ j, j < 16 → f (2 * j) ≠ k) : (pre f 16).count k = 0 := by
  rw [List.count_eq_zero]
  intro q
  obtain ⟨-, i, h1, h2⟩ := (mem_pre f k 16).mp q
  exact h i h1 h2
theorem cnt1 {f : Nat → Int64} {k : Int64} {i : Nat} (hk : k ≠ 0) (hi : i < 16) (h : f (2 * i) = k) : 0 < (pre f 16).count k := List.count_pos_iff.mpr ((mem_pre f k 16).mpr ⟨hk, i, hi, h⟩)
/-! the law's own counts -/
def addk (fl : Int32) (k : Int64) (G : Int64 → Nat) (x : Int64) : Nat := if fl ≠ 0 ∧ k = x then 1 else G x
def remk (fl : Int32) (k : Int64) (G : Int64 → Nat) (x : Int64) : Nat := if fl ≠ 0 ∧ k = x then 0 else G x
theorem addk_le {fl : Int32} {k : Int64} {G : Int64 → Nat} (h : ∀ x, G x ≤ 1) (x : Int64) : addk fl k G x ≤ 1 := by
  unfold addk; split
  · exact Nat.le_refl _
  · exact h x
def pz (x : Int64) (f1 : Int32) (k1 : Int64) (f2 : Int32) (k2 : Int64) (f3 : Int32) (k3 : Int64) (f4 : Int32) (k4 : Int64) : Int32 := if ((f1 ≠ 0 ∧ k1 = x) ∨ (f2 ≠ 0 ∧ k2 = x) ∨ (f3 ≠ 0 ∧ k3 = x)) ∧ ¬ (f4 ≠ 0 ∧ k4 = x) then 1 else 0
theorem pz_aux (P1 P2 P3 P4 : Prop) [Decidable P1] [Decidable P2] [Decidable P3] [Decidable P4] : (if P4 then 0 else if P3 then 1 else if P2 then 1 else if P1 then 1 else 0 : Nat) = if (if (P1 ∨ P2 ∨ P3) ∧ ¬ P4 then (1 : Int32) else 0) = 0 then 0 else 1 := by
  by_cases c4 : P4 <;> by_cases c3 : P3 <;> by_cases c2 : P2 <;> by_cases c1 : P1 <;> simp [c1, c2, c3, c4]
theorem pz_G (x : Int64) (f1 : Int32) (k1 : Int64) (f2 : Int32) (k2 : Int64) (f3 : Int32) (k3 : Int64) (f4 : Int32) (k4 : Int64) : remk f4 k4 (addk f3 k3 (addk f2 k2 (addk f1 k1 (fun _ => 0)))) x = if pz x f1 k1 f2 k2 f3 k3 f4 k4 = 0 then 0 else 1 := by
  exact pz_aux _ _ _ _
theorem G_in {x : Int64} {f1 : Int32} {k1 : Int64} {f2 : Int32} {k2 : Int64} {f3 : Int32} {k3 : Int64} {f4 : Int32} {k4 : Int64} (h : remk f4 k4 (addk f3 k3 (addk f2 k2 (addk f1 k1 (fun _ => 0)))) x ≠ 0) : x = k1 ∨ x = k2 ∨ x = k3 := by
  unfold remk addk at h
  split at h
  · exact absurd rfl h
  split at h
  · rename_i c; exact Or.inr (Or.inr c.2.symm)
  split at h
  · rename_i c; exact Or.inr (Or.inl c.2.symm)
  split at h
  · rename_i c; exact Or.inl c.2.symm
  · exact absurd rfl h
theorem len_abc (l : List Int64) (a b c : Int64) (h : ∀ x ∈ l, x = a ∨ x = b ∨ x = c) : l.length = l.count a + (if b = a then 0 else l.count b) + (if c = a then 0 else if c = b then 0 else l.count c) := by
  induction l with
  | nil => simp
  | cons z l ih =>
    have := ih (fun x hx => h x (List.mem_cons_of_mem _ hx))
    simp only [List.length_cons, List.count_cons]
    have hz := h z (List.mem_cons_self ..)
    have ba : ∀ u w : Int64, (if (u == w) = true then 1 else 0 : Nat) = if u = w then 1 else 0 := fun u w => by simp
    simp only [ba]
    by_cases ea : z = a
    · subst ea
      rw [if_pos rfl]
      by_cases c1 : b = z
      · subst c1; simp only [if_true] at this ⊢
        by_cases c2 : c = b
        · simp only [c2, if_true, Nat.add_zero] at this ⊢; omega
        · simp only [c2, if_false, if_neg (fun q : b = c => c2 q.symm), Nat.add_zero] at this ⊢; omega
      · simp only [c1, if_false, if_neg (fun q : z = b => c1 q.symm)] at this ⊢
        by_cases c2 : c = z
        · simp only [c2, if_true, Nat.add_zero] at this ⊢; omega
        · simp only [c2, if_false, if_neg (fun q : z = c => c2 q.symm), Nat.add_zero] at this ⊢; omega
    · rw [if_neg ea]
      by_cases eb : z = b
      · subst eb
        simp only [if_true, ea, if_false] at this ⊢
        by_cases c2 : c = z
        · simp only [c2, ea, if_true, if_false, Nat.add_zero] at this ⊢; omega
        · simp only [c2, if_false, if_neg (fun q : z = c => c2 q.symm), Nat.add_zero] at this ⊢; omega
      · have ec : z = c := by
          rcases hz with q | q | q
          · exact absurd q ea
          · exact absurd q eb
          · exact q
        subst ec
        simp only [ea, eb, if_false, if_true, Nat.add_zero] at this ⊢; omega
theorem plain_of_selects {Z : State} {a0 : Array Value} {C : String} {y : MethodName} (w : (Cond.selects C y y).before a0 Z = true) : ∃ k kk, Z.vm.findClass y.cls = some k ∧ Z.vm.classes[k]? = some kk ∧ kk.isInterface = false := by
  obtain ⟨c2, r2, m2, q1, q2, q3, q4, kP, hkP, hkPi⟩ := Cond.selects_spec w
  exact ⟨_, kP, findClass_of_methodNamed q3, hkP, hkPi⟩
theorem sel_priv {Z : State} {a0 : Array Value} {C : String} {y z : MethodName} (w : (Cond.selects C z z).before a0 Z = true) (hc : y.cls = z.cls) (wp : (Cond.privateMethod y).before a0 Z = true) (wi : (Cond.instanceMethod y).before a0 Z = true) (hx : y.cls ≠ "java/lang/invoke/MethodHandle" ∧ y.cls ≠ "java/lang/invoke/VarHandle") : (Cond.selects y.cls y y).before a0 Z = true := by
  obtain ⟨k, kk, h1, h2, h3⟩ := plain_of_selects w
  obtain ⟨mk, methM, hn, hm, -⟩ := Cond.instanceMethod_spec wi
  have hp := Cond.privateMethod_at wp _ _ hn hm
  have q2 := State.methodFound?_of_named hn hx
  have e : selectMethod {} Z.vm mk.cls mk = .method mk := selectMethod_private hm hp
  have hk := findClass_of_methodNamed hn
  rw [← hc, hk] at h1
  cases h1
  simp only [Cond.before, Cond.holds, Cond.value, q2, hn, e, h2, hk]
  simp [h3]
theorem exa_nev {Z : State} {a0 : Array Value} {h : Heap} {x b : Addr} {C : String} {kk : Nat} {k2 : ClassId} {ty : FieldType} {sz : Nat} {f : Nat → Value} (E : Exa Z h x C) (w : (Cond.instantiable C kk).before a0 Z = true) (B : Avf Z h b k2 ty sz f) : b ≠ x := fun e => (E.neArv (B.arv .null) w) e.symm
theorem ix_n {i : Nat} (h : i < 16) : ¬ (2 : Int32) * Int32.ofNat i < 0 := (by decide +kernel : ∀ k : Fin 16, ¬ (2 : Int32) * Int32.ofNat k.val < 0) ⟨i, h⟩
theorem ix_c {i : Nat} (h : i < 16) : ((2 : Int32) * Int32.ofNat i).toNatClampNeg = 2 * i := (by decide +kernel : ∀ k : Fin 16, ((2 : Int32) * Int32.ofNat k.val).toNatClampNeg = 2 * k.val) ⟨i, h⟩
theorem ix1_n {i : Nat} (h : i < 16) : ¬ (2 : Int32) * Int32.ofNat i + 1 < 0 := (by decide +kernel : ∀ k : Fin 16, ¬ (2 : Int32) * Int32.ofNat k.val + 1 < 0) ⟨i, h⟩
theorem ix1_c {i : Nat} (h : i < 16) : ((2 : Int32) * Int32.ofNat i + 1).toNatClampNeg = 2 * i + 1 := (by decide +kernel : ∀ k : Fin 16, ((2 : Int32) * Int32.ofNat k.val + 1).toNatClampNeg = 2 * k.val + 1) ⟨i, h⟩
theorem ix_l {i : Nat} (h : i < 16) : 2 * i < 32 := by omega
theorem ix1_l {i : Nat} (h : i < 16) : 2 * i + 1 < 32 := by omega
theorem nxI {i : Nat} (h : i < 16) : (Int32.ofNat i + (1 : Int32)) &&& (15 : Int32) = Int32.ofNat ((i + 1) % 16) := (by decide +kernel : ∀ k : Fin 16, (Int32.ofNat k.val + (1 : Int32)) &&& (15 : Int32) = Int32.ofNat ((k.val + 1) % 16)) ⟨i, h⟩
theorem dpI {i j : Nat} (h : i < 16) (hj : j < 16) : (Int32.ofNat i - Int32.ofNat j) &&& (15 : Int32) = Int32.ofNat ((i + 16 - j) % 16) := (by decide +kernel : ∀ k j : Fin 16, (Int32.ofNat k.val - Int32.ofNat j.val) &&& (15 : Int32) = Int32.ofNat ((k.val + 16 - j.val) % 16)) ⟨i, h⟩ ⟨j, hj⟩
theorem hm_eq (k : Int64) : k.toInt32 &&& (15 : Int32) = Int32.ofNat (hm k) := by
  have h := hm_lt k
  have q := c_mask k.toInt32 15 4 (by decide) (by decide)
  rw [← Int32.toInt_inj, show (Int32.ofNat (hm k)).toInt = hm k from len_toInt (by omega)]
  show _ = ((k.toInt32 &&& (15 : Int32)).toInt.toNat : Int)
  rw [q]; omega
theorem lt32 {a b : Nat} (ha : a < 2 ^ 31) (hb : b < 2 ^ 31) : Int32.ofNat a < Int32.ofNat b ↔ a < b := by
  rw [Int32.lt_iff_toInt_lt, show (Int32.ofNat a).toInt = a from len_toInt ha, show (Int32.ofNat b).toInt = b from len_toInt hb]; omega
theorem d32 {d : Nat} (h : d ≤ 15) : ¬ (32 : Int32) < Int32.ofNat d := (by decide +kernel : ∀ k : Fin 16, ¬ (32 : Int32) < Int32.ofNat k.val) ⟨d, by omega⟩
theorem szI {d : Nat} (h : d ≤ 7) : ¬ (32 : Int32) < (4 : Int32) * (Int32.ofNat d + (1 : Int32)) := (by decide +kernel : ∀ k : Fin 8, ¬ (32 : Int32) < (4 : Int32) * (Int32.ofNat k.val + (1 : Int32))) ⟨d, by omega⟩
theorem upd_eq (f : Nat → Int64) (j : Nat) (v : Int64) (t : Nat) : (if t = j then Value.long v else Value.long (f t)) = Value.long (upd f j v t) := by unfold upd; split <;> rfl
theorem Ch_odd {f : Nat → Int64} {i d j : Nat} {v : Int64} (h : Ch f i d) : Ch (upd f (2 * j + 1) v) i d := fun q => by
  rw [upd_odd, dp_ev (upd_odd f j v ((i + 15) % 16))]; exact h q
theorem Lf_odd {f : Nat → Int64} {j : Nat} {v : Int64} (h : Lf f) : Lf (upd f (2 * j + 1) v) := Lf_congr (fun i _ => (upd_odd f j v i).symm) h
theorem len_same {f : Nat → Int64} {i : Nat} {v : Int64} (hi : i < 16) (h : f (2 * i) ≠ 0) (hv : v ≠ 0) : (pre (upd f (2 * i) v) 16).length = (pre f 16).length := by
  have q := len_upd f i v 16
  rw [if_pos ⟨hi, h⟩, if_pos ⟨hi, hv⟩] at q; omega
theorem len_more {f : Nat → Int64} {i : Nat} {v : Int64} (hi : i < 16) (h : f (2 * i) = 0) (hv : v ≠ 0) : (pre (upd f (2 * i) v) 16).length = (pre f 16).length + 1 := by
  have q := len_upd f i v 16
  rw [if_neg (fun z => z.2 h), if_pos ⟨hi, hv⟩] at q; omega
theorem len_less {f : Nat → Int64} {i : Nat} (hi : i < 16) (h : f (2 * i) ≠ 0) : (pre (upd f (2 * i) 0) 16).length + 1 = (pre f 16).length := by
  have q := len_upd f i 0 16
  rw [if_pos ⟨hi, h⟩, if_neg (fun z => z.2 rfl)] at q; omega
theorem put_G {fl : Int32} {k : Int64} {G c c' : Int64 → Nat} (hfl : ¬ fl = 0) (hk : k ≠ 0) (hG : ∀ x, G x ≤ 1) (hc : ∀ x, x ≠ 0 → c x = G x) (h : ∀ x, x ≠ 0 → c' x = if k = x then max 1 (c k) else c x) : ∀ x, x ≠ 0 → c' x = addk fl k G x := fun x hx => by
  rw [h x hx]
  unfold addk
  by_cases q : k = x
  · have := hG k
    rw [if_pos q, if_pos ⟨hfl, q⟩, hc k hk]; omega
  · rw [if_neg q, if_neg (fun z => q z.2), hc x hx]
theorem rem_G {fl : Int32} {k : Int64} {G c c' : Int64 → Nat} (hfl : ¬ fl = 0) (hk : k ≠ 0) (hG : ∀ x, G x ≤ 1) (hc : ∀ x, x ≠ 0 → c x = G x) (h : ∀ x, x ≠ 0 → c' x = if k = x then c k - 1 else c x) : ∀ x, x ≠ 0 → c' x = remk fl k G x := fun x hx => by
  rw [h x hx]
  unfold remk
  by_cases q : k = x
  · have := hG k
    rw [if_pos q, if_pos ⟨hfl, q⟩, hc k hk]; omega
  · rw [if_neg q, if_neg (fun z => q z.2), hc x hx]
theorem own_pred {n : Nat} (h : 1 ≤ n) : Int32.ofNat n - (1 : Int32) = Int32.ofNat (n - 1) := by
  obtain ⟨m, rfl⟩ : ∃ m, n = m + 1 := ⟨n - 1, by omega⟩
  rw [← i32_succ, Int32.add_sub_cancel]; rfl
theorem ltI {i : Nat} (h : i < 16) : Int32.ofNat (2 * i) < (32 : Int32) := (by decide +kernel : ∀ k : Fin 16, Int32.ofNat (2 * k.val) < (32 : Int32)) ⟨i, h⟩
theorem own_two (i : Nat) : Int32.ofNat (2 * i) + (2 : Int32) = Int32.ofNat (2 * (i + 1)) := by
  rw [show (2 : Int32) = Int32.ofNat 2 from rfl, ← Int32.ofNat_add]; rfl
theorem pre_z {f : Nat → Int64} {i : Nat} (h : f (2 * i) = 0) : pre f (i + 1) = pre f i := by simp [pre, h]
theorem pre_nz {f : Nat → Int64} {i : Nat} (h : f (2 * i) ≠ 0) : pre f (i + 1) = pre f i ++ [f (2 * i)] := by simp [pre, h]
theorem get_nz (l : List Int64) (x : Int64) (t : Nat) : (l ++ [x]).getD t 0 = if t = l.length then x else l.getD t 0 := by
  simp only [List.getD_eq_getElem?_getD]
  by_cases q : t = l.length
  · rw [if_pos q, q]; simp
  · rw [if_neg q]
    by_cases q2 : t < l.length
    · rw [List.getElem?_append_left q2]
    · rw [List.getElem?_eq_none (by simp; omega), List.getElem?_eq_none (by omega)]
theorem own_len {f : Nat → Int64} {f1 : Int32} {k1 : Int64} {f2 : Int32} {k2 : Int64} {f3 : Int32} {k3 : Int64} {f4 : Int32} {k4 : Int64} (h : ∀ x, x ≠ 0 → (pre f 16).count x = remk f4 k4 (addk f3 k3 (addk f2 k2 (addk f1 k1 (fun _ => 0)))) x) : (pre f 16).length = (pre f 16).count k1 + (if k2 = k1 then 0 else (pre f 16).count k2) + (if k3 = k1 then 0 else if k3 = k2 then 0 else (pre f 16).count k3) :=
  len_abc _ _ _ _ (fun x hx => by
    have hx0 := ((mem_pre f x 16).mp hx).1
    exact G_in (by rw [← h x hx0]; exact Nat.pos_iff_ne_zero.mp (List.count_pos_iff.mpr hx)))
theorem own_new : pre (fun _ => 0) 16 = [] := List.eq_nil_iff_forall_not_mem.mpr (fun x hx => by
  obtain ⟨h1, i, -, h2⟩ := (mem_pre _ x 16).mp hx
  exact h1 h2.symm)
theorem own_Lnew : Lf (fun _ => 0) := fun i _ h1 _ => absurd rfl h1
theorem d1_0 : decode method_2_code 0 = .ok (.lload_n 0, 1) := by decide +kernel
theorem d1_1 : decode method_2_code 1 = .ok (.lconst 0, 1) := by decide +kernel
theorem d1_2 : decode method_2_code 2 = .ok (.lcmp, 1) := by decide +kernel
theorem d1_3 : decode method_2_code 3 = .ok (.ifCond .ne 7, 3) := by decide +kernel
theorem d1_6 : decode method_2_code 6 = .ok (.lconst 1, 1) := by decide +kernel
theorem d1_7 : decode method_2_code 7 = .ok (.goto 4, 3) := by decide +kernel
theorem d1_11 : decode method_2_code 11 = .ok (.lreturn, 1) := by decide +kernel
theorem d1_10 : decode method_2_code 10 = .ok (.lload_n 0, 1) := by decide +kernel
abbrev Rm1 : Room := { frames := 0, cells := 0, slots := 0, locals := 0 }
theorem pn0 : plainName "com/example/shrike/shrike/store/LongMapKeysPinLaw" = true := by first | (simp [plainName, overriddenIn]; done) | decide +kernel
set_option maxRecDepth 65536 in
set_option maxHeartbeats 40000000 in
theorem rm1 (l : Launch) (Z : State) (a0 : Array Value) (hw : ∀ d ∈ tables_1, d.before a0 Z = true) (ws : List Jvm.Cond) (p1 : Int64) (h0 : Heap) (n0 : Nat) (Z0 : n0 ≤ h0.size) :
    Met l Z n0 (⟨"com/example/shrike/shrike/store/LongMapKeysPinLaw", "fix", "(J)J"⟩ : MethodName) method_2_code 2 (some .long) ws Rm1 #[(.long p1)] h0 (fun v h => ∃ z : Int64, v = some (.long z) ∧ z ≠ 0 ∧ h0 = h) := by
  refine enter (Ls := #[.val (.long p1), .second]) (plainFor_of_name pn0) (fun m => by first | (simp [entryFrame, mkF, argsToLocals, Value.category]; done) | rfl) ?_
  intro p e s m below meth c T0 hx hby hml hown hnm hret hlk hZ X0
  show Go p.tables e below _ (T0.setTop (mkF m 0 #[.val (.long p1), .second] []))
  refine Go.by (fun _ => XS.lloadN X0.here hx rfl (hb hby d1_0) rfl) ?_
  show Go p.tables e below _ (T0.setTop (mkF m 1 #[.val (.long p1), .second] [(.long p1)]))
  refine Go.by (fun _ => XS.lconst X0.here hx rfl (hb hby d1_1)) ?_
  show Go p.tables e below _ (T0.setTop (mkF m 2 #[.val (.long p1), .second] [(.long (0 : Int64)), (.long p1)]))
  refine Go.by (fun _ => XS.lcmp X0.here hx rfl (hb hby d1_2) rfl) ?_
  show Go p.tables e below _ (T0.setTop (mkF m 3 #[.val (.long p1), .second] [(.int (lcmpW p1 (0 : Int64)))]))
  by_cases hc3_1 : (lcmpW p1 (0 : Int64)) = (0 : Int32)
  · skip
    refine Go.by (fun _ => XS.ifNo X0.here hx rfl (hb hby d1_3) rfl ((if0 _ _).trans (teq hc3_1).2)) ?_
    show Go p.tables e below _ (T0.setTop (mkF m 6 #[.val (.long p1), .second] []))
    refine Go.by (fun _ => XS.lconst X0.here hx rfl (hb hby d1_6)) ?_
    show Go p.tables e below _ (T0.setTop (mkF m 7 #[.val (.long p1), .second] [(.long (1 : Int64))]))
    refine Go.by (fun _ => XS.goto X0.here hx rfl (pc0 := 7) (pc' := 11) rfl (hb hby d1_7) (by decide) (by decide)) ?_
    show Go p.tables e below _ (T0.setTop (mkF m 11 #[.val (.long p1), .second] [(.long (1 : Int64))]))
    exact Go.retL X0 hx hlk hret (hb hby d1_11) (by decide) (by decide) ⟨_, rfl, by decide, rfl⟩
  · skip
    refine Go.by (fun _ => XS.ifYes X0.here hx rfl (pc0 := 3) (pc' := 10) rfl (hb hby d1_3) rfl ((if0 _ _).trans (feq hc3_1).2) (by decide) (by decide)) ?_
    show Go p.tables e below _ (T0.setTop (mkF m 10 #[.val (.long p1), .second] []))
    refine Go.by (fun _ => XS.lloadN X0.here hx rfl (hb hby d1_10) rfl) ?_
    show Go p.tables e below _ (T0.setTop (mkF m 11 #[.val (.long p1), .second] [(.long p1)]))
    exact Go.retL X0 hx hlk hret (hb hby d1_11) (by decide) (by decide) ⟨_, rfl, (fun q => hc3_1 ((lw_eq _ _).mpr q)), rfl⟩
theorem d6_0 : decode prog_46_method_14_code 0 = .ok (.lload_n 1, 1) := by decide +kernel
theorem d6_1 : decode prog_46_method_14_code 1 = .ok (.lstore 4, 2) := by decide +kernel
theorem d6_3 : decode prog_46_method_14_code 3 = .ok (.aload_n 0, 1) := by decide +kernel
theorem d6_4 : decode prog_46_method_14_code 4 = .ok (.getfield 40, 3) := by decide +kernel
theorem d6_7 : decode prog_46_method_14_code 7 = .ok (.ifCond .eq 20, 3) := by decide +kernel
theorem d6_27 : decode prog_46_method_14_code 27 = .ok (.lload 4, 2) := by decide +kernel
theorem d6_29 : decode prog_46_method_14_code 29 = .ok (.l2i, 1) := by decide +kernel
theorem d6_30 : decode prog_46_method_14_code 30 = .ok (.iload_n 3, 1) := by decide +kernel
theorem d6_31 : decode prog_46_method_14_code 31 = .ok (.iand, 1) := by decide +kernel
theorem d6_32 : decode prog_46_method_14_code 32 = .ok (.ireturn, 1) := by decide +kernel
abbrev Rm6 : Room := { frames := 0, cells := 0, slots := 0, locals := 0 }
theorem pn1 : plainName "com/example/shrike/shrike/store/LongMap" = true := by first | (simp [plainName, overriddenIn]; done) | decide +kernel
set_option maxRecDepth 65536 in
set_option maxHeartbeats 40000000 in
theorem rm6 (l : Launch) (Z : State) (a0 : Array Value) (hw : ∀ d ∈ tables_1, d.before a0 Z = true) (ws : List Jvm.Cond) (a1 : Addr) (k : Int64) (d : Addr) (kd : ClassId) (f : Nat → Int64) (h0 : Heap) (n0 : Nat) (Z0 : n0 ≤ h0.size) (E_a1 : Exa Z h0 a1 "com/example/shrike/shrike/store/LongMap") (Fs_a1 : Fld Z h0 a1 "com/example/shrike/shrike/store/LongMap" "slots" "[J" (.ref d)) (Fm_a1 : Fld Z h0 a1 "com/example/shrike/shrike/store/LongMap" "mixed" "Z" (.int (0 : Int32))) (V_d : Avf Z h0 d kd .long 32 (fun jj => (.long (f jj)))) :
    Met l Z n0 (⟨"com/example/shrike/shrike/store/LongMap", "home", "(JI)I"⟩ : MethodName) prog_46_method_14_code 8 (some .int) ws Rm6 #[(.ref a1), (.long k), (.int (15 : Int32))] h0 (fun v h => v = some (.int (Int32.ofNat (hm k))) ∧ h0 = h) := by
  refine enter (Ls := #[.val (.ref a1), .val (.long k), .second, .val (.int (15 : Int32)), .unset, .unset, .unset, .unset]) (plainFor_of_name pn1) (fun m => by first | (simp [entryFrame, mkF, argsToLocals, Value.category]; done) | rfl) ?_
  intro p e s m below meth c T0 hx hby hml hown hnm hret hlk hZ X0
  show Go p.tables e below _ (T0.setTop (mkF m 0 #[.val (.ref a1), .val (.long k), .second, .val (.int (15 : Int32)), .unset, .unset, .unset, .unset] []))
  refine Go.by (fun _ => XS.lloadN X0.here hx rfl (hb hby d6_0) rfl) ?_
  show Go p.tables e below _ (T0.setTop (mkF m 1 #[.val (.ref a1), .val (.long k), .second, .val (.int (15 : Int32)), .unset, .unset, .unset, .unset] [(.long k)]))
  refine Go.by (fun _ => XS.lstore X0.here hx rfl (hb hby d6_1) rfl (l' := #[.val (.ref a1), .val (.long k), .second, .val (.int (15 : Int32)), .val (.long k), .second, .unset, .unset]) rfl) ?_
  show Go p.tables e below _ (T0.setTop (mkF m 3 #[.val (.ref a1), .val (.long k), .second, .val (.int (15 : Int32)), .val (.long k), .second, .unset, .unset] []))
  refine Go.by (fun _ => XS.aloadN X0.here hx rfl (hb hby d6_3) rfl rfl) ?_
  show Go p.tables e below _ (T0.setTop (mkF m 4 #[.val (.ref a1), .val (.long k), .second, .val (.int (15 : Int32)), .val (.long k), .second, .unset, .unset] [(.ref a1)]))
  obtain ⟨T1, X1, st1⟩ := X0.getF hx hZ hown (host := "") (Or.inl (tw hw 30 rfl)) Via.refl Fm_a1 (g := (mkF m 4 #[.val (.ref a1), .val (.long k), .second, .val (.int (15 : Int32)), .val (.long k), .second, .unset, .unset] [(.ref a1)])) rfl rfl (hb hby d6_4)
  refine Go.by st1 ?_
  show Go p.tables e below _ (T1.setTop (mkF m 7 #[.val (.ref a1), .val (.long k), .second, .val (.int (15 : Int32)), .val (.long k), .second, .unset, .unset] [(.int (0 : Int32))]))
  refine Go.by (fun _ => XS.ifYes X1.here hx rfl (pc0 := 7) (pc' := 27) rfl (hb hby d6_7) rfl ((if0 _ _).trans (teq (by decide)).1) (by decide) (by decide)) ?_
  show Go p.tables e below _ (T1.setTop (mkF m 27 #[.val (.ref a1), .val (.long k), .second, .val (.int (15 : Int32)), .val (.long k), .second, .unset, .unset] []))
  refine Go.by (fun _ => XS.lload X1.here hx rfl (hb hby d6_27) rfl) ?_
  show Go p.tables e below _ (T1.setTop (mkF m 29 #[.val (.ref a1), .val (.long k), .second, .val (.int (15 : Int32)), .val (.long k), .second, .unset, .unset] [(.long k)]))
  refine Go.by (fun _ => XS.l2i X1.here hx rfl (hb hby d6_29) rfl) ?_
  show Go p.tables e below _ (T1.setTop (mkF m 30 #[.val (.ref a1), .val (.long k), .second, .val (.int (15 : Int32)), .val (.long k), .second, .unset, .unset] [(.int (k.toInt32))]))
  refine Go.by (fun _ => XS.iloadN X1.here hx rfl (hb hby d6_30) rfl) ?_
  show Go p.tables e below _ (T1.setTop (mkF m 31 #[.val (.ref a1), .val (.long k), .second, .val (.int (15 : Int32)), .val (.long k), .second, .unset, .unset] [(.int (15 : Int32)), (.int (k.toInt32))]))
  refine Go.by (fun _ => XS.iand X1.here hx rfl (hb hby d6_31) rfl) ?_
  show Go p.tables e below _ (T1.setTop (mkF m 32 #[.val (.ref a1), .val (.long k), .second, .val (.int (15 : Int32)), .val (.long k), .second, .unset, .unset] [(.int ((k.toInt32) &&& (15 : Int32)))]))
  exact Go.retI X1 hx hlk hret (hb hby d6_32) (by decide) (by decide) ⟨by rw [hm_eq], rfl⟩
theorem d13_0 : decode prog_46_method_13_code 0 = .ok (.iload_n 1, 1) := by decide +kernel
theorem d13_1 : decode prog_46_method_13_code 1 = .ok (.aload_n 0, 1) := by decide +kernel
theorem d13_2 : decode prog_46_method_13_code 2 = .ok (.aload_n 0, 1) := by decide +kernel
theorem d13_3 : decode prog_46_method_13_code 3 = .ok (.getfield 9, 3) := by decide +kernel
theorem d13_6 : decode prog_46_method_13_code 6 = .ok (.iconst 2, 1) := by decide +kernel
theorem d13_7 : decode prog_46_method_13_code 7 = .ok (.iload_n 1, 1) := by decide +kernel
theorem d13_8 : decode prog_46_method_13_code 8 = .ok (.imul, 1) := by decide +kernel
theorem d13_9 : decode prog_46_method_13_code 9 = .ok (.laload, 1) := by decide +kernel
theorem d13_10 : decode prog_46_method_13_code 10 = .ok (.iload_n 2, 1) := by decide +kernel
theorem d13_11 : decode prog_46_method_13_code 11 = .ok (.invokevirtual 46, 3) := by decide +kernel
theorem pd0 : parseMethodDescriptor "(JI)I" = some ⟨[.long, .int], some .int⟩ := by decide +kernel
theorem d13_14 : decode prog_46_method_13_code 14 = .ok (.isub, 1) := by decide +kernel
theorem d13_15 : decode prog_46_method_13_code 15 = .ok (.iload_n 2, 1) := by decide +kernel
theorem d13_16 : decode prog_46_method_13_code 16 = .ok (.iand, 1) := by decide +kernel
theorem d13_17 : decode prog_46_method_13_code 17 = .ok (.ireturn, 1) := by decide +kernel
abbrev Rm13 : Room := { frames := 1, cells := 0, slots := 0, locals := 20 }
set_option maxRecDepth 65536 in
set_option maxHeartbeats 40000000 in
theorem rm13 (l : Launch) (Z : State) (a0 : Array Value) (hw : ∀ d ∈ tables_1, d.before a0 Z = true) (ws : List Jvm.Cond) (a1 : Addr) (d : Addr) (kd : ClassId) (f : Nat → Int64) (i : Nat) (h0 : Heap) (n0 : Nat) (Z0 : n0 ≤ h0.size) (E_a1 : Exa Z h0 a1 "com/example/shrike/shrike/store/LongMap") (Fs_a1 : Fld Z h0 a1 "com/example/shrike/shrike/store/LongMap" "slots" "[J" (.ref d)) (Fm_a1 : Fld Z h0 a1 "com/example/shrike/shrike/store/LongMap" "mixed" "Z" (.int (0 : Int32))) (V_d : Avf Z h0 d kd .long 32 (fun jj => (.long (f jj)))) (hi : i < 16) :
    Met l Z n0 (⟨"com/example/shrike/shrike/store/LongMap", "displacement", "(II)I"⟩ : MethodName) prog_46_method_13_code 3 (some .int) ws Rm13 #[(.ref a1), (.int (Int32.ofNat i)), (.int (15 : Int32))] h0 (fun v h => v = some (.int (Int32.ofNat (dp f i))) ∧ h0 = h) := by
  refine enter (Ls := #[.val (.ref a1), .val (.int (Int32.ofNat i)), .val (.int (15 : Int32))]) (plainFor_of_name pn1) (fun m => by first | (simp [entryFrame, mkF, argsToLocals, Value.category]; done) | rfl) ?_
  intro p e s m below meth c T0 hx hby hml hown hnm hret hlk hZ X0
  show Go p.tables e below _ (T0.setTop (mkF m 0 #[.val (.ref a1), .val (.int (Int32.ofNat i)), .val (.int (15 : Int32))] []))
  refine Go.by (fun _ => XS.iloadN X0.here hx rfl (hb hby d13_0) rfl) ?_
  show Go p.tables e below _ (T0.setTop (mkF m 1 #[.val (.ref a1), .val (.int (Int32.ofNat i)), .val (.int (15 : Int32))] [(.int (Int32.ofNat i))]))
  refine Go.by (fun _ => XS.aloadN X0.here hx rfl (hb hby d13_1) rfl rfl) ?_
  show Go p.tables e below _ (T0.setTop (mkF m 2 #[.val (.ref a1), .val (.int (Int32.ofNat i)), .val (.int (15 : Int32))] [(.ref a1), (.int (Int32.ofNat i))]))
  refine Go.by (fun _ => XS.aloadN X0.here hx rfl (hb hby d13_2) rfl rfl) ?_
  show Go p.tables e below _ (T0.setTop (mkF m 3 #[.val (.ref a1), .val (.int (Int32.ofNat i)), .val (.int (15 : Int32))] [(.ref a1), (.ref a1), (.int (Int32.ofNat i))]))
  obtain ⟨T1, X1, st1⟩ := X0.getF hx hZ hown (host := "") (Or.inl (tw hw 14 rfl)) Via.refl Fs_a1 (g := (mkF m 3 #[.val (.ref a1), .val (.int (Int32.ofNat i)), .val (.int (15 : Int32))] [(.ref a1), (.ref a1), (.int (Int32.ofNat i))])) rfl rfl (hb hby d13_3)
  refine Go.by st1 ?_
  show Go p.tables e below _ (T1.setTop (mkF m 6 #[.val (.ref a1), .val (.int (Int32.ofNat i)), .val (.int (15 : Int32))] [(.ref d), (.ref a1), (.int (Int32.ofNat i))]))
  refine Go.by (fun _ => XS.iconst X1.here hx rfl (hb hby d13_6)) ?_
  show Go p.tables e below _ (T1.setTop (mkF m 7 #[.val (.ref a1), .val (.int (Int32.ofNat i)), .val (.int (15 : Int32))] [(.int (2 : Int32)), (.ref d), (.ref a1), (.int (Int32.ofNat i))]))
  refine Go.by (fun _ => XS.iloadN X1.here hx rfl (hb hby d13_7) rfl) ?_
  show Go p.tables e below _ (T1.setTop (mkF m 8 #[.val (.ref a1), .val (.int (Int32.ofNat i)), .val (.int (15 : Int32))] [(.int (Int32.ofNat i)), (.int (2 : Int32)), (.ref d), (.ref a1), (.int (Int32.ofNat i))]))
  refine Go.by (fun _ => XS.imul X1.here hx rfl (hb hby d13_8) rfl) ?_
  show Go p.tables e below _ (T1.setTop (mkF m 9 #[.val (.ref a1), .val (.int (Int32.ofNat i)), .val (.int (15 : Int32))] [(.int ((2 : Int32) * (Int32.ofNat i))), (.ref d), (.ref a1), (.int (Int32.ofNat i))]))
  refine Go.by (X1.ldJ hx hZ V_d (ix_n hi) (i := 2 * i) (ix_c hi) (ix_l hi) (v := (.long (f (2 * i)))) rfl (g := (mkF m 9 #[.val (.ref a1), .val (.int (Int32.ofNat i)), .val (.int (15 : Int32))] [(.int ((2 : Int32) * (Int32.ofNat i))), (.ref d), (.ref a1), (.int (Int32.ofNat i))])) rfl rfl (hb hby d13_9)) ?_
  show Go p.tables e below _ (T1.setTop (mkF m 10 #[.val (.ref a1), .val (.int (Int32.ofNat i)), .val (.int (15 : Int32))] [(.long (f (2 * i))), (.ref a1), (.int (Int32.ofNat i))]))
  refine Go.by (fun _ => XS.iloadN X1.here hx rfl (hb hby d13_10) rfl) ?_
  show Go p.tables e below _ (T1.setTop (mkF m 11 #[.val (.ref a1), .val (.int (Int32.ofNat i)), .val (.int (15 : Int32))] [(.int (15 : Int32)), (.long (f (2 * i))), (.ref a1), (.int (Int32.ofNat i))]))
  obtain ⟨v2, T2, h2, X2, q2, st2⟩ := X1.callP hx hZ (y := (⟨"com/example/shrike/shrike/store/LongMap", "home", "(JI)I"⟩ : MethodName)) hown (tw hw 26 rfl) (tw hw 27 rfl) (sel_priv (tw hw 20 rfl) rfl (tw hw 28 rfl) (tw hw 27 rfl) (by decide)) (tw hw 28 rfl) (tw hw 6 rfl) (tw hw 29 rfl) (by decide) (rm6 l Z a0 hw [] a1 (f (2 * i)) d kd f h0 n0 Z0 E_a1 Fs_a1 Fm_a1 V_d) E_a1 (g := (mkF m 11 #[.val (.ref a1), .val (.int (Int32.ofNat i)), .val (.int (15 : Int32))] [(.int (15 : Int32)), (.long (f (2 * i))), (.ref a1), (.int (Int32.ofNat i))])) rfl (by rw [hml]; rfl) (argsL := [(.long (f (2 * i))), (.int (15 : Int32))]) (rest := [(.int (Int32.ofNat i))]) (lenOf pd0 rfl) rfl (hb hby d13_11) rfl (by decide) (Nat.le_of_ble_eq_true rfl) (k' := 0) (n' := 0) rfl rfl (by decide) (by decide)
  refine Go.by st2 ?_
  obtain ⟨rfl, rfl⟩ := q2
  show Go p.tables e below _ (T2.setTop (mkF m 14 #[.val (.ref a1), .val (.int (Int32.ofNat i)), .val (.int (15 : Int32))] [(.int (Int32.ofNat (hm (f (2 * i))))), (.int (Int32.ofNat i))]))
  refine Go.by (fun _ => XS.isub X2.here hx rfl (hb hby d13_14) rfl) ?_
  show Go p.tables e below _ (T2.setTop (mkF m 15 #[.val (.ref a1), .val (.int (Int32.ofNat i)), .val (.int (15 : Int32))] [(.int ((Int32.ofNat i) - (Int32.ofNat (hm (f (2 * i))))))]))
  refine Go.by (fun _ => XS.iloadN X2.here hx rfl (hb hby d13_15) rfl) ?_
  show Go p.tables e below _ (T2.setTop (mkF m 16 #[.val (.ref a1), .val (.int (Int32.ofNat i)), .val (.int (15 : Int32))] [(.int (15 : Int32)), (.int ((Int32.ofNat i) - (Int32.ofNat (hm (f (2 * i))))))]))
  refine Go.by (fun _ => XS.iand X2.here hx rfl (hb hby d13_16) rfl) ?_
  show Go p.tables e below _ (T2.setTop (mkF m 17 #[.val (.ref a1), .val (.int (Int32.ofNat i)), .val (.int (15 : Int32))] [(.int (((Int32.ofNat i) - (Int32.ofNat (hm (f (2 * i))))) &&& (15 : Int32)))]))
  exact Go.retI X2 hx hlk hret (hb hby d13_17) (by decide) (by decide) ⟨by rw [dpI hi (hm_lt _)]; rfl, rfl⟩
theorem d12_0 : decode prog_46_method_12_code 0 = .ok (.aload_n 0, 1) := by decide +kernel
theorem d12_1 : decode prog_46_method_12_code 1 = .ok (.getfield 9, 3) := by decide +kernel
theorem d12_4 : decode prog_46_method_12_code 4 = .ok (.iconst 2, 1) := by decide +kernel
theorem d12_5 : decode prog_46_method_12_code 5 = .ok (.iload_n 1, 1) := by decide +kernel
theorem d12_6 : decode prog_46_method_12_code 6 = .ok (.imul, 1) := by decide +kernel
theorem d12_7 : decode prog_46_method_12_code 7 = .ok (.laload, 1) := by decide +kernel
theorem d12_8 : decode prog_46_method_12_code 8 = .ok (.lconst 0, 1) := by decide +kernel
theorem d12_9 : decode prog_46_method_12_code 9 = .ok (.lcmp, 1) := by decide +kernel
theorem d12_10 : decode prog_46_method_12_code 10 = .ok (.ifCond .eq 16, 3) := by decide +kernel
theorem d12_26 : decode prog_46_method_12_code 26 = .ok (.iconst 0, 1) := by decide +kernel
theorem d12_27 : decode prog_46_method_12_code 27 = .ok (.ireturn, 1) := by decide +kernel
theorem d12_13 : decode prog_46_method_12_code 13 = .ok (.aload_n 0, 1) := by decide +kernel
theorem d12_14 : decode prog_46_method_12_code 14 = .ok (.iload_n 1, 1) := by decide +kernel
theorem d12_15 : decode prog_46_method_12_code 15 = .ok (.iload_n 2, 1) := by decide +kernel
theorem d12_16 : decode prog_46_method_12_code 16 = .ok (.invokevirtual 50, 3) := by decide +kernel
theorem pd1 : parseMethodDescriptor "(II)I" = some ⟨[.int, .int], some .int⟩ := by decide +kernel
theorem d12_19 : decode prog_46_method_12_code 19 = .ok (.ifCond .le 7, 3) := by decide +kernel
theorem d12_22 : decode prog_46_method_12_code 22 = .ok (.iconst 1, 1) := by decide +kernel
theorem d12_23 : decode prog_46_method_12_code 23 = .ok (.goto 4, 3) := by decide +kernel
abbrev Rm12 : Room := { frames := 2, cells := 0, slots := 0, locals := 34 }
set_option maxRecDepth 65536 in
set_option maxHeartbeats 40000000 in
theorem rm12 (l : Launch) (Z : State) (a0 : Array Value) (hw : ∀ d ∈ tables_1, d.before a0 Z = true) (ws : List Jvm.Cond) (a1 : Addr) (d : Addr) (kd : ClassId) (f : Nat → Int64) (i : Nat) (h0 : Heap) (n0 : Nat) (Z0 : n0 ≤ h0.size) (E_a1 : Exa Z h0 a1 "com/example/shrike/shrike/store/LongMap") (Fs_a1 : Fld Z h0 a1 "com/example/shrike/shrike/store/LongMap" "slots" "[J" (.ref d)) (Fm_a1 : Fld Z h0 a1 "com/example/shrike/shrike/store/LongMap" "mixed" "Z" (.int (0 : Int32))) (V_d : Avf Z h0 d kd .long 32 (fun jj => (.long (f jj)))) (hi : i < 16) :
    Met l Z n0 (⟨"com/example/shrike/shrike/store/LongMap", "isDisplaced", "(II)Z"⟩ : MethodName) prog_46_method_12_code 3 (some .boolean) ws Rm12 #[(.ref a1), (.int (Int32.ofNat i)), (.int (15 : Int32))] h0 (fun v h => ∃ r : Int32, v = some (.int r) ∧ (¬ r = 0 → f (2 * i) ≠ 0) ∧ h0 = h) := by
  refine enter (Ls := #[.val (.ref a1), .val (.int (Int32.ofNat i)), .val (.int (15 : Int32))]) (plainFor_of_name pn1) (fun m => by first | (simp [entryFrame, mkF, argsToLocals, Value.category]; done) | rfl) ?_
  intro p e s m below meth c T0 hx hby hml hown hnm hret hlk hZ X0
  show Go p.tables e below _ (T0.setTop (mkF m 0 #[.val (.ref a1), .val (.int (Int32.ofNat i)), .val (.int (15 : Int32))] []))
  refine Go.by (fun _ => XS.aloadN X0.here hx rfl (hb hby d12_0) rfl rfl) ?_
  show Go p.tables e below _ (T0.setTop (mkF m 1 #[.val (.ref a1), .val (.int (Int32.ofNat i)), .val (.int (15 : Int32))] [(.ref a1)]))
  obtain ⟨T1, X1, st1⟩ := X0.getF hx hZ hown (host := "") (Or.inl (tw hw 14 rfl)) Via.refl Fs_a1 (g := (mkF m 1 #[.val (.ref a1), .val (.int (Int32.ofNat i)), .val (.int (15 : Int32))] [(.ref a1)])) rfl rfl (hb hby d12_1)
  refine Go.by st1 ?_
  show Go p.tables e below _ (T1.setTop (mkF m 4 #[.val (.ref a1), .val (.int (Int32.ofNat i)), .val (.int (15 : Int32))] [(.ref d)]))
  refine Go.by (fun _ => XS.iconst X1.here hx rfl (hb hby d12_4)) ?_
  show Go p.tables e below _ (T1.setTop (mkF m 5 #[.val (.ref a1), .val (.int (Int32.ofNat i)), .val (.int (15 : Int32))] [(.int (2 : Int32)), (.ref d)]))
  refine Go.by (fun _ => XS.iloadN X1.here hx rfl (hb hby d12_5) rfl) ?_
  show Go p.tables e below _ (T1.setTop (mkF m 6 #[.val (.ref a1), .val (.int (Int32.ofNat i)), .val (.int (15 : Int32))] [(.int (Int32.ofNat i)), (.int (2 : Int32)), (.ref d)]))
  refine Go.by (fun _ => XS.imul X1.here hx rfl (hb hby d12_6) rfl) ?_
  show Go p.tables e below _ (T1.setTop (mkF m 7 #[.val (.ref a1), .val (.int (Int32.ofNat i)), .val (.int (15 : Int32))] [(.int ((2 : Int32) * (Int32.ofNat i))), (.ref d)]))
  refine Go.by (X1.ldJ hx hZ V_d (ix_n hi) (i := 2 * i) (ix_c hi) (ix_l hi) (v := (.long (f (2 * i)))) rfl (g := (mkF m 7 #[.val (.ref a1), .val (.int (Int32.ofNat i)), .val (.int (15 : Int32))] [(.int ((2 : Int32) * (Int32.ofNat i))), (.ref d)])) rfl rfl (hb hby d12_7)) ?_
  show Go p.tables e below _ (T1.setTop (mkF m 8 #[.val (.ref a1), .val (.int (Int32.ofNat i)), .val (.int (15 : Int32))] [(.long (f (2 * i)))]))
  refine Go.by (fun _ => XS.lconst X1.here hx rfl (hb hby d12_8)) ?_
  show Go p.tables e below _ (T1.setTop (mkF m 9 #[.val (.ref a1), .val (.int (Int32.ofNat i)), .val (.int (15 : Int32))] [(.long (0 : Int64)), (.long (f (2 * i)))]))
  refine Go.by (fun _ => XS.lcmp X1.here hx rfl (hb hby d12_9) rfl) ?_
  show Go p.tables e below _ (T1.setTop (mkF m 10 #[.val (.ref a1), .val (.int (Int32.ofNat i)), .val (.int (15 : Int32))] [(.int (lcmpW (f (2 * i)) (0 : Int64)))]))
  by_cases hc10_2 : (lcmpW (f (2 * i)) (0 : Int64)) = (0 : Int32)
  · skip
    refine Go.by (fun _ => XS.ifYes X1.here hx rfl (pc0 := 10) (pc' := 26) rfl (hb hby d12_10) rfl ((if0 _ _).trans (teq hc10_2).1) (by decide) (by decide)) ?_
    show Go p.tables e below _ (T1.setTop (mkF m 26 #[.val (.ref a1), .val (.int (Int32.ofNat i)), .val (.int (15 : Int32))] []))
    refine Go.by (fun _ => XS.iconst X1.here hx rfl (hb hby d12_26)) ?_
    show Go p.tables e below _ (T1.setTop (mkF m 27 #[.val (.ref a1), .val (.int (Int32.ofNat i)), .val (.int (15 : Int32))] [(.int (0 : Int32))]))
    exact Go.retN X1 hx hlk (z' := (0 : Int32)) hret (by simp) (hb hby d12_27) rfl (by decide) (by decide) ⟨_, rfl, fun q => absurd rfl q, rfl⟩
  · skip
    refine Go.by (fun _ => XS.ifNo X1.here hx rfl (hb hby d12_10) rfl ((if0 _ _).trans (feq hc10_2).1)) ?_
    show Go p.tables e below _ (T1.setTop (mkF m 13 #[.val (.ref a1), .val (.int (Int32.ofNat i)), .val (.int (15 : Int32))] []))
    refine Go.by (fun _ => XS.aloadN X1.here hx rfl (hb hby d12_13) rfl rfl) ?_
    show Go p.tables e below _ (T1.setTop (mkF m 14 #[.val (.ref a1), .val (.int (Int32.ofNat i)), .val (.int (15 : Int32))] [(.ref a1)]))
    refine Go.by (fun _ => XS.iloadN X1.here hx rfl (hb hby d12_14) rfl) ?_
    show Go p.tables e below _ (T1.setTop (mkF m 15 #[.val (.ref a1), .val (.int (Int32.ofNat i)), .val (.int (15 : Int32))] [(.int (Int32.ofNat i)), (.ref a1)]))
    refine Go.by (fun _ => XS.iloadN X1.here hx rfl (hb hby d12_15) rfl) ?_
    show Go p.tables e below _ (T1.setTop (mkF m 16 #[.val (.ref a1), .val (.int (Int32.ofNat i)), .val (.int (15 : Int32))] [(.int (15 : Int32)), (.int (Int32.ofNat i)), (.ref a1)]))
    obtain ⟨v3, T3, h3, X3, q3, st3⟩ := X1.callP hx hZ (y := (⟨"com/example/shrike/shrike/store/LongMap", "displacement", "(II)I"⟩ : MethodName)) hown (tw hw 58 rfl) (tw hw 59 rfl) (sel_priv (tw hw 20 rfl) rfl (tw hw 60 rfl) (tw hw 59 rfl) (by decide)) (tw hw 60 rfl) (tw hw 6 rfl) (tw hw 61 rfl) (by decide) (rm13 l Z a0 hw [] a1 d kd f i h0 n0 Z0 E_a1 Fs_a1 Fm_a1 V_d hi) E_a1 (g := (mkF m 16 #[.val (.ref a1), .val (.int (Int32.ofNat i)), .val (.int (15 : Int32))] [(.int (15 : Int32)), (.int (Int32.ofNat i)), (.ref a1)])) rfl (by rw [hml]; rfl) (argsL := [(.int (Int32.ofNat i)), (.int (15 : Int32))]) (rest := []) (lenOf pd1 rfl) rfl (hb hby d12_16) rfl (by decide) (Nat.le_of_ble_eq_true rfl) (k' := 0) (n' := 0) rfl rfl (by decide) (by decide)
    refine Go.by st3 ?_
    obtain ⟨rfl, rfl⟩ := q3
    show Go p.tables e below _ (T3.setTop (mkF m 19 #[.val (.ref a1), .val (.int (Int32.ofNat i)), .val (.int (15 : Int32))] [(.int (Int32.ofNat (dp f i)))]))
    by_cases hc19_4 : (0 : Int32) < (Int32.ofNat (dp f i))
    · skip
      refine Go.by (fun _ => XS.ifNo X3.here hx rfl (hb hby d12_19) rfl ((if0 _ _).trans (tlt hc19_4).2.2.2)) ?_
      show Go p.tables e below _ (T3.setTop (mkF m 22 #[.val (.ref a1), .val (.int (Int32.ofNat i)), .val (.int (15 : Int32))] []))
      refine Go.by (fun _ => XS.iconst X3.here hx rfl (hb hby d12_22)) ?_
      show Go p.tables e below _ (T3.setTop (mkF m 23 #[.val (.ref a1), .val (.int (Int32.ofNat i)), .val (.int (15 : Int32))] [(.int (1 : Int32))]))
      refine Go.by (fun _ => XS.goto X3.here hx rfl (pc0 := 23) (pc' := 27) rfl (hb hby d12_23) (by decide) (by decide)) ?_
      show Go p.tables e below _ (T3.setTop (mkF m 27 #[.val (.ref a1), .val (.int (Int32.ofNat i)), .val (.int (15 : Int32))] [(.int (1 : Int32))]))
      exact Go.retN X3 hx hlk (z' := (1 : Int32)) hret (by simp) (hb hby d12_27) rfl (by decide) (by decide) ⟨_, rfl, fun _ q => hc10_2 ((lw_eq _ _).mpr q), rfl⟩
    · skip
      refine Go.by (fun _ => XS.ifYes X3.here hx rfl (pc0 := 19) (pc' := 26) rfl (hb hby d12_19) rfl ((if0 _ _).trans (flt hc19_4).2.2.2) (by decide) (by decide)) ?_
      show Go p.tables e below _ (T3.setTop (mkF m 26 #[.val (.ref a1), .val (.int (Int32.ofNat i)), .val (.int (15 : Int32))] []))
      refine Go.by (fun _ => XS.iconst X3.here hx rfl (hb hby d12_26)) ?_
      show Go p.tables e below _ (T3.setTop (mkF m 27 #[.val (.ref a1), .val (.int (Int32.ofNat i)), .val (.int (15 : Int32))] [(.int (0 : Int32))]))
      exact Go.retN X3 hx hlk (z' := (0 : Int32)) hret (by simp) (hb hby d12_27) rfl (by decide) (by decide) ⟨_, rfl, fun q => absurd rfl q, rfl⟩
theorem d5_0 : decode prog_46_method_9_code 0 = .ok (.lload_n 1, 1) := by decide +kernel
theorem d5_1 : decode prog_46_method_9_code 1 = .ok (.lconst 0, 1) := by decide +kernel
theorem d5_2 : decode prog_46_method_9_code 2 = .ok (.lcmp, 1) := by decide +kernel
theorem d5_3 : decode prog_46_method_9_code 3 = .ok (.ifCond .ne 13, 3) := by decide +kernel
theorem d5_16 : decode prog_46_method_9_code 16 = .ok (.aload_n 0, 1) := by decide +kernel
theorem d5_17 : decode prog_46_method_9_code 17 = .ok (.getfield 9, 3) := by decide +kernel
theorem d5_20 : decode prog_46_method_9_code 20 = .ok (.arraylength, 1) := by decide +kernel
theorem d5_21 : decode prog_46_method_9_code 21 = .ok (.iconst 2, 1) := by decide +kernel
theorem d5_22 : decode prog_46_method_9_code 22 = .ok (.idiv, 1) := by decide +kernel
theorem d5_23 : decode prog_46_method_9_code 23 = .ok (.iconst 1, 1) := by decide +kernel
theorem d5_24 : decode prog_46_method_9_code 24 = .ok (.isub, 1) := by decide +kernel
theorem d5_25 : decode prog_46_method_9_code 25 = .ok (.istore_n 3, 1) := by decide +kernel
theorem d5_26 : decode prog_46_method_9_code 26 = .ok (.aload_n 0, 1) := by decide +kernel
theorem d5_27 : decode prog_46_method_9_code 27 = .ok (.lload_n 1, 1) := by decide +kernel
theorem d5_28 : decode prog_46_method_9_code 28 = .ok (.iload_n 3, 1) := by decide +kernel
theorem d5_29 : decode prog_46_method_9_code 29 = .ok (.invokevirtual 46, 3) := by decide +kernel
theorem d5_32 : decode prog_46_method_9_code 32 = .ok (.istore 4, 2) := by decide +kernel
theorem d5_34 : decode prog_46_method_9_code 34 = .ok (.iconst 0, 1) := by decide +kernel
theorem d5_35 : decode prog_46_method_9_code 35 = .ok (.istore 5, 2) := by decide +kernel
theorem d5_37 : decode prog_46_method_9_code 37 = .ok (.aload_n 0, 1) := by decide +kernel
theorem d5_38 : decode prog_46_method_9_code 38 = .ok (.getfield 9, 3) := by decide +kernel
theorem d5_41 : decode prog_46_method_9_code 41 = .ok (.iconst 2, 1) := by decide +kernel
theorem d5_42 : decode prog_46_method_9_code 42 = .ok (.iload 4, 2) := by decide +kernel
theorem d5_44 : decode prog_46_method_9_code 44 = .ok (.imul, 1) := by decide +kernel
theorem d5_45 : decode prog_46_method_9_code 45 = .ok (.laload, 1) := by decide +kernel
theorem d5_46 : decode prog_46_method_9_code 46 = .ok (.lload_n 1, 1) := by decide +kernel
theorem d5_47 : decode prog_46_method_9_code 47 = .ok (.lcmp, 1) := by decide +kernel
theorem d5_48 : decode prog_46_method_9_code 48 = .ok (.ifCond .eq 45, 3) := by decide +kernel
theorem d5_93 : decode prog_46_method_9_code 93 = .ok (.iload 4, 2) := by decide +kernel
theorem d5_95 : decode prog_46_method_9_code 95 = .ok (.ireturn, 1) := by decide +kernel
theorem d5_51 : decode prog_46_method_9_code 51 = .ok (.aload_n 0, 1) := by decide +kernel
theorem d5_52 : decode prog_46_method_9_code 52 = .ok (.getfield 9, 3) := by decide +kernel
theorem d5_55 : decode prog_46_method_9_code 55 = .ok (.iconst 2, 1) := by decide +kernel
theorem d5_56 : decode prog_46_method_9_code 56 = .ok (.iload 4, 2) := by decide +kernel
theorem d5_58 : decode prog_46_method_9_code 58 = .ok (.imul, 1) := by decide +kernel
theorem d5_59 : decode prog_46_method_9_code 59 = .ok (.laload, 1) := by decide +kernel
theorem d5_60 : decode prog_46_method_9_code 60 = .ok (.lconst 0, 1) := by decide +kernel
theorem d5_61 : decode prog_46_method_9_code 61 = .ok (.lcmp, 1) := by decide +kernel
theorem d5_62 : decode prog_46_method_9_code 62 = .ok (.ifCond .eq 15, 3) := by decide +kernel
theorem d5_77 : decode prog_46_method_9_code 77 = .ok (.iconst (-1), 1) := by decide +kernel
theorem d5_78 : decode prog_46_method_9_code 78 = .ok (.ireturn, 1) := by decide +kernel
theorem d5_65 : decode prog_46_method_9_code 65 = .ok (.aload_n 0, 1) := by decide +kernel
theorem d5_66 : decode prog_46_method_9_code 66 = .ok (.iload 4, 2) := by decide +kernel
theorem d5_68 : decode prog_46_method_9_code 68 = .ok (.iload_n 3, 1) := by decide +kernel
theorem d5_69 : decode prog_46_method_9_code 69 = .ok (.invokevirtual 50, 3) := by decide +kernel
theorem d5_72 : decode prog_46_method_9_code 72 = .ok (.iload 5, 2) := by decide +kernel
theorem d5_74 : decode prog_46_method_9_code 74 = .ok (.if_icmp .ge 5, 3) := by decide +kernel
theorem d5_79 : decode prog_46_method_9_code 79 = .ok (.iload 4, 2) := by decide +kernel
theorem d5_81 : decode prog_46_method_9_code 81 = .ok (.iconst 1, 1) := by decide +kernel
theorem d5_82 : decode prog_46_method_9_code 82 = .ok (.iadd, 1) := by decide +kernel
theorem d5_83 : decode prog_46_method_9_code 83 = .ok (.iload_n 3, 1) := by decide +kernel
theorem d5_84 : decode prog_46_method_9_code 84 = .ok (.iand, 1) := by decide +kernel
theorem d5_85 : decode prog_46_method_9_code 85 = .ok (.istore 4, 2) := by decide +kernel
theorem d5_87 : decode prog_46_method_9_code 87 = .ok (.iinc 5 1, 3) := by decide +kernel
theorem d5_90 : decode prog_46_method_9_code 90 = .ok (.goto (-53), 3) := by decide +kernel
abbrev Rm5 : Room := { frames := 2, cells := 0, slots := 0, locals := 34 }
set_option maxRecDepth 65536 in
set_option maxHeartbeats 40000000 in
theorem rm5 (l : Launch) (Z : State) (a0 : Array Value) (hw : ∀ d ∈ tables_1, d.before a0 Z = true) (ws : List Jvm.Cond) (a1 : Addr) (k : Int64) (d : Addr) (kd : ClassId) (f : Nat → Int64) (h0 : Heap) (n0 : Nat) (Z0 : n0 ≤ h0.size) (E_a1 : Exa Z h0 a1 "com/example/shrike/shrike/store/LongMap") (Fs_a1 : Fld Z h0 a1 "com/example/shrike/shrike/store/LongMap" "slots" "[J" (.ref d)) (Fm_a1 : Fld Z h0 a1 "com/example/shrike/shrike/store/LongMap" "mixed" "Z" (.int (0 : Int32))) (V_d : Avf Z h0 d kd .long 32 (fun jj => (.long (f jj)))) (hL : Lf f) (hk : k ≠ 0) :
    Met l Z n0 (⟨"com/example/shrike/shrike/store/LongMap", "find", "(J)I"⟩ : MethodName) prog_46_method_9_code 6 (some .int) ws Rm5 #[(.ref a1), (.long k)] h0 (fun v h => ((∃ i, i < 16 ∧ f (2 * i) = k ∧ v = some (.int (Int32.ofNat i))) ∨ ((∀ i, i < 16 → f (2 * i) ≠ k) ∧ v = some (.int (-1)))) ∧ h0 = h) := by
  refine enter (Ls := #[.val (.ref a1), .val (.long k), .second, .unset, .unset, .unset]) (plainFor_of_name pn1) (fun m => by first | (simp [entryFrame, mkF, argsToLocals, Value.category]; done) | rfl) ?_
  intro p e s m below meth c T0 hx hby hml hown hnm hret hlk hZ X0
  show Go p.tables e below _ (T0.setTop (mkF m 0 #[.val (.ref a1), .val (.long k), .second, .unset, .unset, .unset] []))
  refine Go.by (fun _ => XS.lloadN X0.here hx rfl (hb hby d5_0) rfl) ?_
  show Go p.tables e below _ (T0.setTop (mkF m 1 #[.val (.ref a1), .val (.long k), .second, .unset, .unset, .unset] [(.long k)]))
  refine Go.by (fun _ => XS.lconst X0.here hx rfl (hb hby d5_1)) ?_
  show Go p.tables e below _ (T0.setTop (mkF m 2 #[.val (.ref a1), .val (.long k), .second, .unset, .unset, .unset] [(.long (0 : Int64)), (.long k)]))
  refine Go.by (fun _ => XS.lcmp X0.here hx rfl (hb hby d5_2) rfl) ?_
  show Go p.tables e below _ (T0.setTop (mkF m 3 #[.val (.ref a1), .val (.long k), .second, .unset, .unset, .unset] [(.int (lcmpW k (0 : Int64)))]))
  refine Go.by (fun _ => XS.ifYes X0.here hx rfl (pc0 := 3) (pc' := 16) rfl (hb hby d5_3) rfl ((if0 _ _).trans (feq ((fun q => hk ((lw_eq _ _).mp q)))).2) (by decide) (by decide)) ?_
  show Go p.tables e below _ (T0.setTop (mkF m 16 #[.val (.ref a1), .val (.long k), .second, .unset, .unset, .unset] []))
  refine Go.by (fun _ => XS.aloadN X0.here hx rfl (hb hby d5_16) rfl rfl) ?_
  show Go p.tables e below _ (T0.setTop (mkF m 17 #[.val (.ref a1), .val (.long k), .second, .unset, .unset, .unset] [(.ref a1)]))
  obtain ⟨T1, X1, st1⟩ := X0.getF hx hZ hown (host := "") (Or.inl (tw hw 14 rfl)) Via.refl Fs_a1 (g := (mkF m 17 #[.val (.ref a1), .val (.long k), .second, .unset, .unset, .unset] [(.ref a1)])) rfl rfl (hb hby d5_17)
  refine Go.by st1 ?_
  show Go p.tables e below _ (T1.setTop (mkF m 20 #[.val (.ref a1), .val (.long k), .second, .unset, .unset, .unset] [(.ref d)]))
  refine Go.by (X1.len hx hZ V_d (z := (32 : Int32)) rfl (g := (mkF m 20 #[.val (.ref a1), .val (.long k), .second, .unset, .unset, .unset] [(.ref d)])) rfl rfl (hb hby d5_20)) ?_
  show Go p.tables e below _ (T1.setTop (mkF m 21 #[.val (.ref a1), .val (.long k), .second, .unset, .unset, .unset] [(.int (32 : Int32))]))
  refine Go.by (fun _ => XS.iconst X1.here hx rfl (hb hby d5_21)) ?_
  show Go p.tables e below _ (T1.setTop (mkF m 22 #[.val (.ref a1), .val (.long k), .second, .unset, .unset, .unset] [(.int (2 : Int32)), (.int (32 : Int32))]))
  refine Go.by (fun _ => XS.idiv X1.here hx rfl (hb hby d5_22) rfl (by decide)) ?_
  show Go p.tables e below _ (T1.setTop (mkF m 23 #[.val (.ref a1), .val (.long k), .second, .unset, .unset, .unset] [(.int (16 : Int32))]))
  refine Go.by (fun _ => XS.iconst X1.here hx rfl (hb hby d5_23)) ?_
  show Go p.tables e below _ (T1.setTop (mkF m 24 #[.val (.ref a1), .val (.long k), .second, .unset, .unset, .unset] [(.int (1 : Int32)), (.int (16 : Int32))]))
  refine Go.by (fun _ => XS.isub X1.here hx rfl (hb hby d5_24) rfl) ?_
  show Go p.tables e below _ (T1.setTop (mkF m 25 #[.val (.ref a1), .val (.long k), .second, .unset, .unset, .unset] [(.int (15 : Int32))]))
  refine Go.by (fun _ => XS.istoreN X1.here hx rfl (hb hby d5_25) rfl (l' := #[.val (.ref a1), .val (.long k), .second, .val (.int (15 : Int32)), .unset, .unset]) rfl) ?_
  show Go p.tables e below _ (T1.setTop (mkF m 26 #[.val (.ref a1), .val (.long k), .second, .val (.int (15 : Int32)), .unset, .unset] []))
  refine Go.by (fun _ => XS.aloadN X1.here hx rfl (hb hby d5_26) rfl rfl) ?_
  show Go p.tables e below _ (T1.setTop (mkF m 27 #[.val (.ref a1), .val (.long k), .second, .val (.int (15 : Int32)), .unset, .unset] [(.ref a1)]))
  refine Go.by (fun _ => XS.lloadN X1.here hx rfl (hb hby d5_27) rfl) ?_
  show Go p.tables e below _ (T1.setTop (mkF m 28 #[.val (.ref a1), .val (.long k), .second, .val (.int (15 : Int32)), .unset, .unset] [(.long k), (.ref a1)]))
  refine Go.by (fun _ => XS.iloadN X1.here hx rfl (hb hby d5_28) rfl) ?_
  show Go p.tables e below _ (T1.setTop (mkF m 29 #[.val (.ref a1), .val (.long k), .second, .val (.int (15 : Int32)), .unset, .unset] [(.int (15 : Int32)), (.long k), (.ref a1)]))
  obtain ⟨v2, T2, h2, X2, q2, st2⟩ := X1.callP hx hZ (y := (⟨"com/example/shrike/shrike/store/LongMap", "home", "(JI)I"⟩ : MethodName)) hown (tw hw 26 rfl) (tw hw 27 rfl) (sel_priv (tw hw 20 rfl) rfl (tw hw 28 rfl) (tw hw 27 rfl) (by decide)) (tw hw 28 rfl) (tw hw 6 rfl) (tw hw 29 rfl) (by decide) (rm6 l Z a0 hw [] a1 k d kd f h0 n0 Z0 E_a1 Fs_a1 Fm_a1 V_d) E_a1 (g := (mkF m 29 #[.val (.ref a1), .val (.long k), .second, .val (.int (15 : Int32)), .unset, .unset] [(.int (15 : Int32)), (.long k), (.ref a1)])) rfl (by rw [hml]; rfl) (argsL := [(.long k), (.int (15 : Int32))]) (rest := []) (lenOf pd0 rfl) rfl (hb hby d5_29) rfl (by decide) (Nat.le_of_ble_eq_true rfl) (k' := 0) (n' := 0) rfl rfl (by decide) (by decide)
  refine Go.by st2 ?_
  obtain ⟨rfl, rfl⟩ := q2
  show Go p.tables e below _ (T2.setTop (mkF m 32 #[.val (.ref a1), .val (.long k), .second, .val (.int (15 : Int32)), .unset, .unset] [(.int (Int32.ofNat (hm k)))]))
  refine Go.by (fun _ => XS.istore X2.here hx rfl (hb hby d5_32) rfl (l' := #[.val (.ref a1), .val (.long k), .second, .val (.int (15 : Int32)), .val (.int (Int32.ofNat (hm k))), .unset]) rfl) ?_
  show Go p.tables e below _ (T2.setTop (mkF m 34 #[.val (.ref a1), .val (.long k), .second, .val (.int (15 : Int32)), .val (.int (Int32.ofNat (hm k))), .unset] []))
  refine Go.by (fun _ => XS.iconst X2.here hx rfl (hb hby d5_34)) ?_
  show Go p.tables e below _ (T2.setTop (mkF m 35 #[.val (.ref a1), .val (.long k), .second, .val (.int (15 : Int32)), .val (.int (Int32.ofNat (hm k))), .unset] [(.int (0 : Int32))]))
  refine Go.by (fun _ => XS.istore X2.here hx rfl (hb hby d5_35) rfl (l' := #[.val (.ref a1), .val (.long k), .second, .val (.int (15 : Int32)), .val (.int (Int32.ofNat (hm k))), .val (.int (0 : Int32))]) rfl) ?_
  show Go p.tables e below _ (T2.setTop (mkF m 37 #[.val (.ref a1), .val (.long k), .second, .val (.int (15 : Int32)), .val (.int (Int32.ofNat (hm k))), .val (.int (0 : Int32))] []))
  have J : ∀ (kk dist i : Nat), dist + kk = 16 → i = (hm k + dist) % 16 → (∀ u, u < dist → f (2 * ((hm k + u) % 16)) ≠ k) → ∀ (Tj : State), Sd n0 p l e Rm5 s m #[(.ref a1), (.long k)] below meth c Tj h0 0 0 → Go p.tables e below (Ret s n0 (fun v h => ((∃ i, i < 16 ∧ f (2 * i) = k ∧ v = some (.int (Int32.ofNat i))) ∨ ((∀ i, i < 16 → f (2 * i) ≠ k) ∧ v = some (.int (-1)))) ∧ h0 = h) Rm5.cells Rm5.slots) (Tj.setTop (mkF m 37 #[.val (.ref a1), .val (.long k), .second, .val (.int (15 : Int32)), .val (.int (Int32.ofNat i)), .val (.int (Int32.ofNat dist))] [])) := by
    intro kk
    induction kk with
    | zero =>
      intro dist i hd he hno Tj Xj
      have hi : i < 16 := by omega
      have hdp := dp_lt f i
      refine Go.by (fun _ => XS.aloadN Xj.here hx rfl (hb hby d5_37) rfl rfl) ?_
      show Go p.tables e below _ (Tj.setTop (mkF m 38 #[.val (.ref a1), .val (.long k), .second, .val (.int (15 : Int32)), .val (.int (Int32.ofNat i)), .val (.int (Int32.ofNat dist))] [(.ref a1)]))
      obtain ⟨T3, X3, st3⟩ := Xj.getF hx hZ hown (host := "") (Or.inl (tw hw 14 rfl)) Via.refl Fs_a1 (g := (mkF m 38 #[.val (.ref a1), .val (.long k), .second, .val (.int (15 : Int32)), .val (.int (Int32.ofNat i)), .val (.int (Int32.ofNat dist))] [(.ref a1)])) rfl rfl (hb hby d5_38)
      refine Go.by st3 ?_
      show Go p.tables e below _ (T3.setTop (mkF m 41 #[.val (.ref a1), .val (.long k), .second, .val (.int (15 : Int32)), .val (.int (Int32.ofNat i)), .val (.int (Int32.ofNat dist))] [(.ref d)]))
      refine Go.by (fun _ => XS.iconst X3.here hx rfl (hb hby d5_41)) ?_
      show Go p.tables e below _ (T3.setTop (mkF m 42 #[.val (.ref a1), .val (.long k), .second, .val (.int (15 : Int32)), .val (.int (Int32.ofNat i)), .val (.int (Int32.ofNat dist))] [(.int (2 : Int32)), (.ref d)]))
      refine Go.by (fun _ => XS.iload X3.here hx rfl (hb hby d5_42) rfl) ?_
      show Go p.tables e below _ (T3.setTop (mkF m 44 #[.val (.ref a1), .val (.long k), .second, .val (.int (15 : Int32)), .val (.int (Int32.ofNat i)), .val (.int (Int32.ofNat dist))] [(.int (Int32.ofNat i)), (.int (2 : Int32)), (.ref d)]))
      refine Go.by (fun _ => XS.imul X3.here hx rfl (hb hby d5_44) rfl) ?_
      show Go p.tables e below _ (T3.setTop (mkF m 45 #[.val (.ref a1), .val (.long k), .second, .val (.int (15 : Int32)), .val (.int (Int32.ofNat i)), .val (.int (Int32.ofNat dist))] [(.int ((2 : Int32) * (Int32.ofNat i))), (.ref d)]))
      refine Go.by (X3.ldJ hx hZ V_d (ix_n hi) (i := 2 * i) (ix_c hi) (ix_l hi) (v := (.long (f (2 * i)))) rfl (g := (mkF m 45 #[.val (.ref a1), .val (.long k), .second, .val (.int (15 : Int32)), .val (.int (Int32.ofNat i)), .val (.int (Int32.ofNat dist))] [(.int ((2 : Int32) * (Int32.ofNat i))), (.ref d)])) rfl rfl (hb hby d5_45)) ?_
      show Go p.tables e below _ (T3.setTop (mkF m 46 #[.val (.ref a1), .val (.long k), .second, .val (.int (15 : Int32)), .val (.int (Int32.ofNat i)), .val (.int (Int32.ofNat dist))] [(.long (f (2 * i)))]))
      refine Go.by (fun _ => XS.lloadN X3.here hx rfl (hb hby d5_46) rfl) ?_
      show Go p.tables e below _ (T3.setTop (mkF m 47 #[.val (.ref a1), .val (.long k), .second, .val (.int (15 : Int32)), .val (.int (Int32.ofNat i)), .val (.int (Int32.ofNat dist))] [(.long k), (.long (f (2 * i)))]))
      refine Go.by (fun _ => XS.lcmp X3.here hx rfl (hb hby d5_47) rfl) ?_
      show Go p.tables e below _ (T3.setTop (mkF m 48 #[.val (.ref a1), .val (.long k), .second, .val (.int (15 : Int32)), .val (.int (Int32.ofNat i)), .val (.int (Int32.ofNat dist))] [(.int (lcmpW (f (2 * i)) k))]))
      by_cases hc48_4 : (lcmpW (f (2 * i)) k) = (0 : Int32)
      · skip
        refine Go.by (fun _ => XS.ifYes X3.here hx rfl (pc0 := 48) (pc' := 93) rfl (hb hby d5_48) rfl ((if0 _ _).trans (teq hc48_4).1) (by decide) (by decide)) ?_
        show Go p.tables e below _ (T3.setTop (mkF m 93 #[.val (.ref a1), .val (.long k), .second, .val (.int (15 : Int32)), .val (.int (Int32.ofNat i)), .val (.int (Int32.ofNat dist))] []))
        refine Go.by (fun _ => XS.iload X3.here hx rfl (hb hby d5_93) rfl) ?_
        show Go p.tables e below _ (T3.setTop (mkF m 95 #[.val (.ref a1), .val (.long k), .second, .val (.int (15 : Int32)), .val (.int (Int32.ofNat i)), .val (.int (Int32.ofNat dist))] [(.int (Int32.ofNat i))]))
        exact Go.retI X3 hx hlk hret (hb hby d5_95) (by decide) (by decide) ⟨Or.inl ⟨i, hi, (lw_eq _ _).mp hc48_4, rfl⟩, rfl⟩
      · skip
        refine Go.by (fun _ => XS.ifNo X3.here hx rfl (hb hby d5_48) rfl ((if0 _ _).trans (feq hc48_4).1)) ?_
        show Go p.tables e below _ (T3.setTop (mkF m 51 #[.val (.ref a1), .val (.long k), .second, .val (.int (15 : Int32)), .val (.int (Int32.ofNat i)), .val (.int (Int32.ofNat dist))] []))
        refine Go.by (fun _ => XS.aloadN X3.here hx rfl (hb hby d5_51) rfl rfl) ?_
        show Go p.tables e below _ (T3.setTop (mkF m 52 #[.val (.ref a1), .val (.long k), .second, .val (.int (15 : Int32)), .val (.int (Int32.ofNat i)), .val (.int (Int32.ofNat dist))] [(.ref a1)]))
        obtain ⟨T5, X5, st5⟩ := X3.getF hx hZ hown (host := "") (Or.inl (tw hw 14 rfl)) Via.refl Fs_a1 (g := (mkF m 52 #[.val (.ref a1), .val (.long k), .second, .val (.int (15 : Int32)), .val (.int (Int32.ofNat i)), .val (.int (Int32.ofNat dist))] [(.ref a1)])) rfl rfl (hb hby d5_52)
        refine Go.by st5 ?_
        show Go p.tables e below _ (T5.setTop (mkF m 55 #[.val (.ref a1), .val (.long k), .second, .val (.int (15 : Int32)), .val (.int (Int32.ofNat i)), .val (.int (Int32.ofNat dist))] [(.ref d)]))
        refine Go.by (fun _ => XS.iconst X5.here hx rfl (hb hby d5_55)) ?_
        show Go p.tables e below _ (T5.setTop (mkF m 56 #[.val (.ref a1), .val (.long k), .second, .val (.int (15 : Int32)), .val (.int (Int32.ofNat i)), .val (.int (Int32.ofNat dist))] [(.int (2 : Int32)), (.ref d)]))
        refine Go.by (fun _ => XS.iload X5.here hx rfl (hb hby d5_56) rfl) ?_
        show Go p.tables e below _ (T5.setTop (mkF m 58 #[.val (.ref a1), .val (.long k), .second, .val (.int (15 : Int32)), .val (.int (Int32.ofNat i)), .val (.int (Int32.ofNat dist))] [(.int (Int32.ofNat i)), (.int (2 : Int32)), (.ref d)]))
        refine Go.by (fun _ => XS.imul X5.here hx rfl (hb hby d5_58) rfl) ?_
        show Go p.tables e below _ (T5.setTop (mkF m 59 #[.val (.ref a1), .val (.long k), .second, .val (.int (15 : Int32)), .val (.int (Int32.ofNat i)), .val (.int (Int32.ofNat dist))] [(.int ((2 : Int32) * (Int32.ofNat i))), (.ref d)]))
        refine Go.by (X5.ldJ hx hZ V_d (ix_n hi) (i := 2 * i) (ix_c hi) (ix_l hi) (v := (.long (f (2 * i)))) rfl (g := (mkF m 59 #[.val (.ref a1), .val (.long k), .second, .val (.int (15 : Int32)), .val (.int (Int32.ofNat i)), .val (.int (Int32.ofNat dist))] [(.int ((2 : Int32) * (Int32.ofNat i))), (.ref d)])) rfl rfl (hb hby d5_59)) ?_
        show Go p.tables e below _ (T5.setTop (mkF m 60 #[.val (.ref a1), .val (.long k), .second, .val (.int (15 : Int32)), .val (.int (Int32.ofNat i)), .val (.int (Int32.ofNat dist))] [(.long (f (2 * i)))]))
        refine Go.by (fun _ => XS.lconst X5.here hx rfl (hb hby d5_60)) ?_
        show Go p.tables e below _ (T5.setTop (mkF m 61 #[.val (.ref a1), .val (.long k), .second, .val (.int (15 : Int32)), .val (.int (Int32.ofNat i)), .val (.int (Int32.ofNat dist))] [(.long (0 : Int64)), (.long (f (2 * i)))]))
        refine Go.by (fun _ => XS.lcmp X5.here hx rfl (hb hby d5_61) rfl) ?_
        show Go p.tables e below _ (T5.setTop (mkF m 62 #[.val (.ref a1), .val (.long k), .second, .val (.int (15 : Int32)), .val (.int (Int32.ofNat i)), .val (.int (Int32.ofNat dist))] [(.int (lcmpW (f (2 * i)) (0 : Int64)))]))
        by_cases hc62_6 : (lcmpW (f (2 * i)) (0 : Int64)) = (0 : Int32)
        · skip
          refine Go.by (fun _ => XS.ifYes X5.here hx rfl (pc0 := 62) (pc' := 77) rfl (hb hby d5_62) rfl ((if0 _ _).trans (teq hc62_6).1) (by decide) (by decide)) ?_
          show Go p.tables e below _ (T5.setTop (mkF m 77 #[.val (.ref a1), .val (.long k), .second, .val (.int (15 : Int32)), .val (.int (Int32.ofNat i)), .val (.int (Int32.ofNat dist))] []))
          refine Go.by (fun _ => XS.iconst X5.here hx rfl (hb hby d5_77)) ?_
          show Go p.tables e below _ (T5.setTop (mkF m 78 #[.val (.ref a1), .val (.long k), .second, .val (.int (15 : Int32)), .val (.int (Int32.ofNat i)), .val (.int (Int32.ofNat dist))] [(.int (-1 : Int32))]))
          exact Go.retI X5 hx hlk hret (hb hby d5_78) (by decide) (by decide) ⟨Or.inr ⟨find_none hL hk (by omega) he hno (fun z => hc48_4 ((lw_eq _ _).mpr z)) (Or.inl ((lw_eq _ _).mp hc62_6)), rfl⟩, rfl⟩
        · skip
          refine Go.by (fun _ => XS.ifNo X5.here hx rfl (hb hby d5_62) rfl ((if0 _ _).trans (feq hc62_6).1)) ?_
          show Go p.tables e below _ (T5.setTop (mkF m 65 #[.val (.ref a1), .val (.long k), .second, .val (.int (15 : Int32)), .val (.int (Int32.ofNat i)), .val (.int (Int32.ofNat dist))] []))
          refine Go.by (fun _ => XS.aloadN X5.here hx rfl (hb hby d5_65) rfl rfl) ?_
          show Go p.tables e below _ (T5.setTop (mkF m 66 #[.val (.ref a1), .val (.long k), .second, .val (.int (15 : Int32)), .val (.int (Int32.ofNat i)), .val (.int (Int32.ofNat dist))] [(.ref a1)]))
          refine Go.by (fun _ => XS.iload X5.here hx rfl (hb hby d5_66) rfl) ?_
          show Go p.tables e below _ (T5.setTop (mkF m 68 #[.val (.ref a1), .val (.long k), .second, .val (.int (15 : Int32)), .val (.int (Int32.ofNat i)), .val (.int (Int32.ofNat dist))] [(.int (Int32.ofNat i)), (.ref a1)]))
          refine Go.by (fun _ => XS.iloadN X5.here hx rfl (hb hby d5_68) rfl) ?_
          show Go p.tables e below _ (T5.setTop (mkF m 69 #[.val (.ref a1), .val (.long k), .second, .val (.int (15 : Int32)), .val (.int (Int32.ofNat i)), .val (.int (Int32.ofNat dist))] [(.int (15 : Int32)), (.int (Int32.ofNat i)), (.ref a1)]))
          obtain ⟨v7, T7, h7, X7, q7, st7⟩ := X5.callP hx hZ (y := (⟨"com/example/shrike/shrike/store/LongMap", "displacement", "(II)I"⟩ : MethodName)) hown (tw hw 58 rfl) (tw hw 59 rfl) (sel_priv (tw hw 20 rfl) rfl (tw hw 60 rfl) (tw hw 59 rfl) (by decide)) (tw hw 60 rfl) (tw hw 6 rfl) (tw hw 61 rfl) (by decide) (rm13 l Z a0 hw [] a1 d kd f i h0 n0 Z0 E_a1 Fs_a1 Fm_a1 V_d hi) E_a1 (g := (mkF m 69 #[.val (.ref a1), .val (.long k), .second, .val (.int (15 : Int32)), .val (.int (Int32.ofNat i)), .val (.int (Int32.ofNat dist))] [(.int (15 : Int32)), (.int (Int32.ofNat i)), (.ref a1)])) rfl (by rw [hml]; rfl) (argsL := [(.int (Int32.ofNat i)), (.int (15 : Int32))]) (rest := []) (lenOf pd1 rfl) rfl (hb hby d5_69) rfl (by decide) (Nat.le_of_ble_eq_true rfl) (k' := 0) (n' := 0) rfl rfl (by decide) (by decide)
          refine Go.by st7 ?_
          obtain ⟨rfl, rfl⟩ := q7
          show Go p.tables e below _ (T7.setTop (mkF m 72 #[.val (.ref a1), .val (.long k), .second, .val (.int (15 : Int32)), .val (.int (Int32.ofNat i)), .val (.int (Int32.ofNat dist))] [(.int (Int32.ofNat (dp f i)))]))
          refine Go.by (fun _ => XS.iload X7.here hx rfl (hb hby d5_72) rfl) ?_
          show Go p.tables e below _ (T7.setTop (mkF m 74 #[.val (.ref a1), .val (.long k), .second, .val (.int (15 : Int32)), .val (.int (Int32.ofNat i)), .val (.int (Int32.ofNat dist))] [(.int (Int32.ofNat dist)), (.int (Int32.ofNat (dp f i)))]))
          refine Go.by (fun _ => XS.icmpNo X7.here hx rfl (hb hby d5_74) rfl (tlt ((lt32 (by omega) (by omega)).mpr (by omega))).2.1) ?_
          show Go p.tables e below _ (T7.setTop (mkF m 77 #[.val (.ref a1), .val (.long k), .second, .val (.int (15 : Int32)), .val (.int (Int32.ofNat i)), .val (.int (Int32.ofNat dist))] []))
          refine Go.by (fun _ => XS.iconst X7.here hx rfl (hb hby d5_77)) ?_
          show Go p.tables e below _ (T7.setTop (mkF m 78 #[.val (.ref a1), .val (.long k), .second, .val (.int (15 : Int32)), .val (.int (Int32.ofNat i)), .val (.int (Int32.ofNat dist))] [(.int (-1 : Int32))]))
          exact Go.retI X7 hx hlk hret (hb hby d5_78) (by decide) (by decide) ⟨Or.inr ⟨find_none hL hk (by omega) he hno (fun z => hc48_4 ((lw_eq _ _).mpr z)) (Or.inr (by omega)), rfl⟩, rfl⟩
    | succ kk ih =>
      intro dist i hd he hno Tj Xj
      have hi : i < 16 := by omega
      have hdp := dp_lt f i
      refine Go.by (fun _ => XS.aloadN Xj.here hx rfl (hb hby d5_37) rfl rfl) ?_
      show Go p.tables e below _ (Tj.setTop (mkF m 38 #[.val (.ref a1), .val (.long k), .second, .val (.int (15 : Int32)), .val (.int (Int32.ofNat i)), .val (.int (Int32.ofNat dist))] [(.ref a1)]))
      obtain ⟨T8, X8, st8⟩ := Xj.getF hx hZ hown (host := "") (Or.inl (tw hw 14 rfl)) Via.refl Fs_a1 (g := (mkF m 38 #[.val (.ref a1), .val (.long k), .second, .val (.int (15 : Int32)), .val (.int (Int32.ofNat i)), .val (.int (Int32.ofNat dist))] [(.ref a1)])) rfl rfl (hb hby d5_38)
      refine Go.by st8 ?_
      show Go p.tables e below _ (T8.setTop (mkF m 41 #[.val (.ref a1), .val (.long k), .second, .val (.int (15 : Int32)), .val (.int (Int32.ofNat i)), .val (.int (Int32.ofNat dist))] [(.ref d)]))
      refine Go.by (fun _ => XS.iconst X8.here hx rfl (hb hby d5_41)) ?_
      show Go p.tables e below _ (T8.setTop (mkF m 42 #[.val (.ref a1), .val (.long k), .second, .val (.int (15 : Int32)), .val (.int (Int32.ofNat i)), .val (.int (Int32.ofNat dist))] [(.int (2 : Int32)), (.ref d)]))
      refine Go.by (fun _ => XS.iload X8.here hx rfl (hb hby d5_42) rfl) ?_
      show Go p.tables e below _ (T8.setTop (mkF m 44 #[.val (.ref a1), .val (.long k), .second, .val (.int (15 : Int32)), .val (.int (Int32.ofNat i)), .val (.int (Int32.ofNat dist))] [(.int (Int32.ofNat i)), (.int (2 : Int32)), (.ref d)]))
      refine Go.by (fun _ => XS.imul X8.here hx rfl (hb hby d5_44) rfl) ?_
      show Go p.tables e below _ (T8.setTop (mkF m 45 #[.val (.ref a1), .val (.long k), .second, .val (.int (15 : Int32)), .val (.int (Int32.ofNat i)), .val (.int (Int32.ofNat dist))] [(.int ((2 : Int32) * (Int32.ofNat i))), (.ref d)]))
      refine Go.by (X8.ldJ hx hZ V_d (ix_n hi) (i := 2 * i) (ix_c hi) (ix_l hi) (v := (.long (f (2 * i)))) rfl (g := (mkF m 45 #[.val (.ref a1), .val (.long k), .second, .val (.int (15 : Int32)), .val (.int (Int32.ofNat i)), .val (.int (Int32.ofNat dist))] [(.int ((2 : Int32) * (Int32.ofNat i))), (.ref d)])) rfl rfl (hb hby d5_45)) ?_
      show Go p.tables e below _ (T8.setTop (mkF m 46 #[.val (.ref a1), .val (.long k), .second, .val (.int (15 : Int32)), .val (.int (Int32.ofNat i)), .val (.int (Int32.ofNat dist))] [(.long (f (2 * i)))]))
      refine Go.by (fun _ => XS.lloadN X8.here hx rfl (hb hby d5_46) rfl) ?_
      show Go p.tables e below _ (T8.setTop (mkF m 47 #[.val (.ref a1), .val (.long k), .second, .val (.int (15 : Int32)), .val (.int (Int32.ofNat i)), .val (.int (Int32.ofNat dist))] [(.long k), (.long (f (2 * i)))]))
      refine Go.by (fun _ => XS.lcmp X8.here hx rfl (hb hby d5_47) rfl) ?_
      show Go p.tables e below _ (T8.setTop (mkF m 48 #[.val (.ref a1), .val (.long k), .second, .val (.int (15 : Int32)), .val (.int (Int32.ofNat i)), .val (.int (Int32.ofNat dist))] [(.int (lcmpW (f (2 * i)) k))]))
      by_cases hc48_9 : (lcmpW (f (2 * i)) k) = (0 : Int32)
      · skip
        refine Go.by (fun _ => XS.ifYes X8.here hx rfl (pc0 := 48) (pc' := 93) rfl (hb hby d5_48) rfl ((if0 _ _).trans (teq hc48_9).1) (by decide) (by decide)) ?_
        show Go p.tables e below _ (T8.setTop (mkF m 93 #[.val (.ref a1), .val (.long k), .second, .val (.int (15 : Int32)), .val (.int (Int32.ofNat i)), .val (.int (Int32.ofNat dist))] []))
        refine Go.by (fun _ => XS.iload X8.here hx rfl (hb hby d5_93) rfl) ?_
        show Go p.tables e below _ (T8.setTop (mkF m 95 #[.val (.ref a1), .val (.long k), .second, .val (.int (15 : Int32)), .val (.int (Int32.ofNat i)), .val (.int (Int32.ofNat dist))] [(.int (Int32.ofNat i))]))
        exact Go.retI X8 hx hlk hret (hb hby d5_95) (by decide) (by decide) ⟨Or.inl ⟨i, hi, (lw_eq _ _).mp hc48_9, rfl⟩, rfl⟩
      · skip
        refine Go.by (fun _ => XS.ifNo X8.here hx rfl (hb hby d5_48) rfl ((if0 _ _).trans (feq hc48_9).1)) ?_
        show Go p.tables e below _ (T8.setTop (mkF m 51 #[.val (.ref a1), .val (.long k), .second, .val (.int (15 : Int32)), .val (.int (Int32.ofNat i)), .val (.int (Int32.ofNat dist))] []))
        refine Go.by (fun _ => XS.aloadN X8.here hx rfl (hb hby d5_51) rfl rfl) ?_
        show Go p.tables e below _ (T8.setTop (mkF m 52 #[.val (.ref a1), .val (.long k), .second, .val (.int (15 : Int32)), .val (.int (Int32.ofNat i)), .val (.int (Int32.ofNat dist))] [(.ref a1)]))
        obtain ⟨T10, X10, st10⟩ := X8.getF hx hZ hown (host := "") (Or.inl (tw hw 14 rfl)) Via.refl Fs_a1 (g := (mkF m 52 #[.val (.ref a1), .val (.long k), .second, .val (.int (15 : Int32)), .val (.int (Int32.ofNat i)), .val (.int (Int32.ofNat dist))] [(.ref a1)])) rfl rfl (hb hby d5_52)
        refine Go.by st10 ?_
        show Go p.tables e below _ (T10.setTop (mkF m 55 #[.val (.ref a1), .val (.long k), .second, .val (.int (15 : Int32)), .val (.int (Int32.ofNat i)), .val (.int (Int32.ofNat dist))] [(.ref d)]))
        refine Go.by (fun _ => XS.iconst X10.here hx rfl (hb hby d5_55)) ?_
        show Go p.tables e below _ (T10.setTop (mkF m 56 #[.val (.ref a1), .val (.long k), .second, .val (.int (15 : Int32)), .val (.int (Int32.ofNat i)), .val (.int (Int32.ofNat dist))] [(.int (2 : Int32)), (.ref d)]))
        refine Go.by (fun _ => XS.iload X10.here hx rfl (hb hby d5_56) rfl) ?_
        show Go p.tables e below _ (T10.setTop (mkF m 58 #[.val (.ref a1), .val (.long k), .second, .val (.int (15 : Int32)), .val (.int (Int32.ofNat i)), .val (.int (Int32.ofNat dist))] [(.int (Int32.ofNat i)), (.int (2 : Int32)), (.ref d)]))
        refine Go.by (fun _ => XS.imul X10.here hx rfl (hb hby d5_58) rfl) ?_
        show Go p.tables e below _ (T10.setTop (mkF m 59 #[.val (.ref a1), .val (.long k), .second, .val (.int (15 : Int32)), .val (.int (Int32.ofNat i)), .val (.int (Int32.ofNat dist))] [(.int ((2 : Int32) * (Int32.ofNat i))), (.ref d)]))
        refine Go.by (X10.ldJ hx hZ V_d (ix_n hi) (i := 2 * i) (ix_c hi) (ix_l hi) (v := (.long (f (2 * i)))) rfl (g := (mkF m 59 #[.val (.ref a1), .val (.long k), .second, .val (.int (15 : Int32)), .val (.int (Int32.ofNat i)), .val (.int (Int32.ofNat dist))] [(.int ((2 : Int32) * (Int32.ofNat i))), (.ref d)])) rfl rfl (hb hby d5_59)) ?_
        show Go p.tables e below _ (T10.setTop (mkF m 60 #[.val (.ref a1), .val (.long k), .second, .val (.int (15 : Int32)), .val (.int (Int32.ofNat i)), .val (.int (Int32.ofNat dist))] [(.long (f (2 * i)))]))
        refine Go.by (fun _ => XS.lconst X10.here hx rfl (hb hby d5_60)) ?_
        show Go p.tables e below _ (T10.setTop (mkF m 61 #[.val (.ref a1), .val (.long k), .second, .val (.int (15 : Int32)), .val (.int (Int32.ofNat i)), .val (.int (Int32.ofNat dist))] [(.long (0 : Int64)), (.long (f (2 * i)))]))
        refine Go.by (fun _ => XS.lcmp X10.here hx rfl (hb hby d5_61) rfl) ?_
        show Go p.tables e below _ (T10.setTop (mkF m 62 #[.val (.ref a1), .val (.long k), .second, .val (.int (15 : Int32)), .val (.int (Int32.ofNat i)), .val (.int (Int32.ofNat dist))] [(.int (lcmpW (f (2 * i)) (0 : Int64)))]))
        by_cases hc62_11 : (lcmpW (f (2 * i)) (0 : Int64)) = (0 : Int32)
        · skip
          refine Go.by (fun _ => XS.ifYes X10.here hx rfl (pc0 := 62) (pc' := 77) rfl (hb hby d5_62) rfl ((if0 _ _).trans (teq hc62_11).1) (by decide) (by decide)) ?_
          show Go p.tables e below _ (T10.setTop (mkF m 77 #[.val (.ref a1), .val (.long k), .second, .val (.int (15 : Int32)), .val (.int (Int32.ofNat i)), .val (.int (Int32.ofNat dist))] []))
          refine Go.by (fun _ => XS.iconst X10.here hx rfl (hb hby d5_77)) ?_
          show Go p.tables e below _ (T10.setTop (mkF m 78 #[.val (.ref a1), .val (.long k), .second, .val (.int (15 : Int32)), .val (.int (Int32.ofNat i)), .val (.int (Int32.ofNat dist))] [(.int (-1 : Int32))]))
          exact Go.retI X10 hx hlk hret (hb hby d5_78) (by decide) (by decide) ⟨Or.inr ⟨find_none hL hk (by omega) he hno (fun z => hc48_9 ((lw_eq _ _).mpr z)) (Or.inl ((lw_eq _ _).mp hc62_11)), rfl⟩, rfl⟩
        · skip
          refine Go.by (fun _ => XS.ifNo X10.here hx rfl (hb hby d5_62) rfl ((if0 _ _).trans (feq hc62_11).1)) ?_
          show Go p.tables e below _ (T10.setTop (mkF m 65 #[.val (.ref a1), .val (.long k), .second, .val (.int (15 : Int32)), .val (.int (Int32.ofNat i)), .val (.int (Int32.ofNat dist))] []))
          refine Go.by (fun _ => XS.aloadN X10.here hx rfl (hb hby d5_65) rfl rfl) ?_
          show Go p.tables e below _ (T10.setTop (mkF m 66 #[.val (.ref a1), .val (.long k), .second, .val (.int (15 : Int32)), .val (.int (Int32.ofNat i)), .val (.int (Int32.ofNat dist))] [(.ref a1)]))
          refine Go.by (fun _ => XS.iload X10.here hx rfl (hb hby d5_66) rfl) ?_
          show Go p.tables e below _ (T10.setTop (mkF m 68 #[.val (.ref a1), .val (.long k), .second, .val (.int (15 : Int32)), .val (.int (Int32.ofNat i)), .val (.int (Int32.ofNat dist))] [(.int (Int32.ofNat i)), (.ref a1)]))
          refine Go.by (fun _ => XS.iloadN X10.here hx rfl (hb hby d5_68) rfl) ?_
          show Go p.tables e below _ (T10.setTop (mkF m 69 #[.val (.ref a1), .val (.long k), .second, .val (.int (15 : Int32)), .val (.int (Int32.ofNat i)), .val (.int (Int32.ofNat dist))] [(.int (15 : Int32)), (.int (Int32.ofNat i)), (.ref a1)]))
          obtain ⟨v12, T12, h12, X12, q12, st12⟩ := X10.callP hx hZ (y := (⟨"com/example/shrike/shrike/store/LongMap", "displacement", "(II)I"⟩ : MethodName)) hown (tw hw 58 rfl) (tw hw 59 rfl) (sel_priv (tw hw 20 rfl) rfl (tw hw 60 rfl) (tw hw 59 rfl) (by decide)) (tw hw 60 rfl) (tw hw 6 rfl) (tw hw 61 rfl) (by decide) (rm13 l Z a0 hw [] a1 d kd f i h0 n0 Z0 E_a1 Fs_a1 Fm_a1 V_d hi) E_a1 (g := (mkF m 69 #[.val (.ref a1), .val (.long k), .second, .val (.int (15 : Int32)), .val (.int (Int32.ofNat i)), .val (.int (Int32.ofNat dist))] [(.int (15 : Int32)), (.int (Int32.ofNat i)), (.ref a1)])) rfl (by rw [hml]; rfl) (argsL := [(.int (Int32.ofNat i)), (.int (15 : Int32))]) (rest := []) (lenOf pd1 rfl) rfl (hb hby d5_69) rfl (by decide) (Nat.le_of_ble_eq_true rfl) (k' := 0) (n' := 0) rfl rfl (by decide) (by decide)
          refine Go.by st12 ?_
          obtain ⟨rfl, rfl⟩ := q12
          show Go p.tables e below _ (T12.setTop (mkF m 72 #[.val (.ref a1), .val (.long k), .second, .val (.int (15 : Int32)), .val (.int (Int32.ofNat i)), .val (.int (Int32.ofNat dist))] [(.int (Int32.ofNat (dp f i)))]))
          refine Go.by (fun _ => XS.iload X12.here hx rfl (hb hby d5_72) rfl) ?_
          show Go p.tables e below _ (T12.setTop (mkF m 74 #[.val (.ref a1), .val (.long k), .second, .val (.int (15 : Int32)), .val (.int (Int32.ofNat i)), .val (.int (Int32.ofNat dist))] [(.int (Int32.ofNat dist)), (.int (Int32.ofNat (dp f i)))]))
          by_cases hc74_13 : (Int32.ofNat (dp f i)) < (Int32.ofNat dist)
          · skip
            refine Go.by (fun _ => XS.icmpNo X12.here hx rfl (hb hby d5_74) rfl (tlt hc74_13).2.1) ?_
            show Go p.tables e below _ (T12.setTop (mkF m 77 #[.val (.ref a1), .val (.long k), .second, .val (.int (15 : Int32)), .val (.int (Int32.ofNat i)), .val (.int (Int32.ofNat dist))] []))
            refine Go.by (fun _ => XS.iconst X12.here hx rfl (hb hby d5_77)) ?_
            show Go p.tables e below _ (T12.setTop (mkF m 78 #[.val (.ref a1), .val (.long k), .second, .val (.int (15 : Int32)), .val (.int (Int32.ofNat i)), .val (.int (Int32.ofNat dist))] [(.int (-1 : Int32))]))
            exact Go.retI X12 hx hlk hret (hb hby d5_78) (by decide) (by decide) ⟨Or.inr ⟨find_none hL hk (by omega) he hno (fun z => hc48_9 ((lw_eq _ _).mpr z)) (Or.inr ((lt32 (by omega) (by omega)).mp hc74_13)), rfl⟩, rfl⟩
          · skip
            refine Go.by (fun _ => XS.icmpYes X12.here hx rfl (pc0 := 74) (pc' := 79) rfl (hb hby d5_74) rfl (flt hc74_13).2.1 (by decide) (by decide)) ?_
            show Go p.tables e below _ (T12.setTop (mkF m 79 #[.val (.ref a1), .val (.long k), .second, .val (.int (15 : Int32)), .val (.int (Int32.ofNat i)), .val (.int (Int32.ofNat dist))] []))
            refine Go.by (fun _ => XS.iload X12.here hx rfl (hb hby d5_79) rfl) ?_
            show Go p.tables e below _ (T12.setTop (mkF m 81 #[.val (.ref a1), .val (.long k), .second, .val (.int (15 : Int32)), .val (.int (Int32.ofNat i)), .val (.int (Int32.ofNat dist))] [(.int (Int32.ofNat i))]))
            refine Go.by (fun _ => XS.iconst X12.here hx rfl (hb hby d5_81)) ?_
            show Go p.tables e below _ (T12.setTop (mkF m 82 #[.val (.ref a1), .val (.long k), .second, .val (.int (15 : Int32)), .val (.int (Int32.ofNat i)), .val (.int (Int32.ofNat dist))] [(.int (1 : Int32)), (.int (Int32.ofNat i))]))
            refine Go.by (fun _ => XS.iadd X12.here hx rfl (hb hby d5_82) rfl) ?_
            show Go p.tables e below _ (T12.setTop (mkF m 83 #[.val (.ref a1), .val (.long k), .second, .val (.int (15 : Int32)), .val (.int (Int32.ofNat i)), .val (.int (Int32.ofNat dist))] [(.int ((Int32.ofNat i) + (1 : Int32)))]))
            refine Go.by (fun _ => XS.iloadN X12.here hx rfl (hb hby d5_83) rfl) ?_
            show Go p.tables e below _ (T12.setTop (mkF m 84 #[.val (.ref a1), .val (.long k), .second, .val (.int (15 : Int32)), .val (.int (Int32.ofNat i)), .val (.int (Int32.ofNat dist))] [(.int (15 : Int32)), (.int ((Int32.ofNat i) + (1 : Int32)))]))
            refine Go.by (fun _ => XS.iand X12.here hx rfl (hb hby d5_84) rfl) ?_
            show Go p.tables e below _ (T12.setTop (mkF m 85 #[.val (.ref a1), .val (.long k), .second, .val (.int (15 : Int32)), .val (.int (Int32.ofNat i)), .val (.int (Int32.ofNat dist))] [(.int (((Int32.ofNat i) + (1 : Int32)) &&& (15 : Int32)))]))
            refine Go.by (fun _ => XS.istore X12.here hx rfl (hb hby d5_85) rfl (l' := #[.val (.ref a1), .val (.long k), .second, .val (.int (15 : Int32)), .val (.int (((Int32.ofNat i) + (1 : Int32)) &&& (15 : Int32))), .val (.int (Int32.ofNat dist))]) rfl) ?_
            show Go p.tables e below _ (T12.setTop (mkF m 87 #[.val (.ref a1), .val (.long k), .second, .val (.int (15 : Int32)), .val (.int (((Int32.ofNat i) + (1 : Int32)) &&& (15 : Int32))), .val (.int (Int32.ofNat dist))] []))
            refine Go.by (fun _ => XS.iinc X12.here hx rfl (hb hby d5_87) rfl (l' := #[.val (.ref a1), .val (.long k), .second, .val (.int (15 : Int32)), .val (.int (((Int32.ofNat i) + (1 : Int32)) &&& (15 : Int32))), .val (.int ((Int32.ofNat dist) + (1 : Int32)))]) rfl) ?_
            show Go p.tables e below _ (T12.setTop (mkF m 90 #[.val (.ref a1), .val (.long k), .second, .val (.int (15 : Int32)), .val (.int (((Int32.ofNat i) + (1 : Int32)) &&& (15 : Int32))), .val (.int ((Int32.ofNat dist) + (1 : Int32)))] []))
            refine Go.by (fun _ => XS.goto X12.here hx rfl (pc0 := 90) (pc' := 37) rfl (hb hby d5_90) (by decide) (by decide)) ?_
            show Go p.tables e below _ (T12.setTop (mkF m 37 #[.val (.ref a1), .val (.long k), .second, .val (.int (15 : Int32)), .val (.int (((Int32.ofNat i) + (1 : Int32)) &&& (15 : Int32))), .val (.int ((Int32.ofNat dist) + (1 : Int32)))] []))
            rw [nxI hi, i32_succ]
            refine ih (dist + 1) _ (by omega) (he_next he) (fun u hu => ?_) _ X12
            by_cases q : u = dist
            · rw [q, ← he]; exact fun z => hc48_9 ((lw_eq _ _).mpr z)
            · exact hno u (by omega)
  have hh := hm_lt k
  exact J 16 0 (hm k) rfl (by omega) (fun u hu => absurd hu (Nat.not_lt_zero _)) _ X2
theorem d7_0 : decode prog_46_method_10_code 0 = .ok (.aload_n 0, 1) := by decide +kernel
theorem d7_1 : decode prog_46_method_10_code 1 = .ok (.getfield 9, 3) := by decide +kernel
theorem d7_4 : decode prog_46_method_10_code 4 = .ok (.arraylength, 1) := by decide +kernel
theorem d7_5 : decode prog_46_method_10_code 5 = .ok (.iconst 2, 1) := by decide +kernel
theorem d7_6 : decode prog_46_method_10_code 6 = .ok (.idiv, 1) := by decide +kernel
theorem d7_7 : decode prog_46_method_10_code 7 = .ok (.iconst 1, 1) := by decide +kernel
theorem d7_8 : decode prog_46_method_10_code 8 = .ok (.isub, 1) := by decide +kernel
theorem d7_9 : decode prog_46_method_10_code 9 = .ok (.istore 5, 2) := by decide +kernel
theorem d7_11 : decode prog_46_method_10_code 11 = .ok (.lload_n 1, 1) := by decide +kernel
theorem d7_12 : decode prog_46_method_10_code 12 = .ok (.lstore 6, 2) := by decide +kernel
theorem d7_14 : decode prog_46_method_10_code 14 = .ok (.lload_n 3, 1) := by decide +kernel
theorem d7_15 : decode prog_46_method_10_code 15 = .ok (.lstore 8, 2) := by decide +kernel
theorem d7_17 : decode prog_46_method_10_code 17 = .ok (.aload_n 0, 1) := by decide +kernel
theorem d7_18 : decode prog_46_method_10_code 18 = .ok (.lload 6, 2) := by decide +kernel
theorem d7_20 : decode prog_46_method_10_code 20 = .ok (.iload 5, 2) := by decide +kernel
theorem d7_22 : decode prog_46_method_10_code 22 = .ok (.invokevirtual 46, 3) := by decide +kernel
theorem d7_25 : decode prog_46_method_10_code 25 = .ok (.istore 10, 2) := by decide +kernel
theorem d7_27 : decode prog_46_method_10_code 27 = .ok (.iconst 0, 1) := by decide +kernel
theorem d7_28 : decode prog_46_method_10_code 28 = .ok (.istore 11, 2) := by decide +kernel
theorem d7_30 : decode prog_46_method_10_code 30 = .ok (.aload_n 0, 1) := by decide +kernel
theorem d7_31 : decode prog_46_method_10_code 31 = .ok (.getfield 9, 3) := by decide +kernel
theorem d7_34 : decode prog_46_method_10_code 34 = .ok (.iconst 2, 1) := by decide +kernel
theorem d7_35 : decode prog_46_method_10_code 35 = .ok (.iload 10, 2) := by decide +kernel
theorem d7_37 : decode prog_46_method_10_code 37 = .ok (.imul, 1) := by decide +kernel
theorem d7_38 : decode prog_46_method_10_code 38 = .ok (.laload, 1) := by decide +kernel
theorem d7_39 : decode prog_46_method_10_code 39 = .ok (.lconst 0, 1) := by decide +kernel
theorem d7_40 : decode prog_46_method_10_code 40 = .ok (.lcmp, 1) := by decide +kernel
theorem d7_41 : decode prog_46_method_10_code 41 = .ok (.ifCond .eq 132, 3) := by decide +kernel
theorem d7_173 : decode prog_46_method_10_code 173 = .ok (.aload_n 0, 1) := by decide +kernel
theorem d7_174 : decode prog_46_method_10_code 174 = .ok (.getfield 9, 3) := by decide +kernel
theorem d7_177 : decode prog_46_method_10_code 177 = .ok (.iconst 2, 1) := by decide +kernel
theorem d7_178 : decode prog_46_method_10_code 178 = .ok (.iload 10, 2) := by decide +kernel
theorem d7_180 : decode prog_46_method_10_code 180 = .ok (.imul, 1) := by decide +kernel
theorem d7_181 : decode prog_46_method_10_code 181 = .ok (.lload 6, 2) := by decide +kernel
theorem d7_183 : decode prog_46_method_10_code 183 = .ok (.lastore, 1) := by decide +kernel
theorem d7_184 : decode prog_46_method_10_code 184 = .ok (.aload_n 0, 1) := by decide +kernel
theorem d7_185 : decode prog_46_method_10_code 185 = .ok (.getfield 9, 3) := by decide +kernel
theorem d7_188 : decode prog_46_method_10_code 188 = .ok (.iconst 2, 1) := by decide +kernel
theorem d7_189 : decode prog_46_method_10_code 189 = .ok (.iload 10, 2) := by decide +kernel
theorem d7_191 : decode prog_46_method_10_code 191 = .ok (.imul, 1) := by decide +kernel
theorem d7_192 : decode prog_46_method_10_code 192 = .ok (.iconst 1, 1) := by decide +kernel
theorem d7_193 : decode prog_46_method_10_code 193 = .ok (.iadd, 1) := by decide +kernel
theorem d7_194 : decode prog_46_method_10_code 194 = .ok (.lload 8, 2) := by decide +kernel
theorem d7_196 : decode prog_46_method_10_code 196 = .ok (.lastore, 1) := by decide +kernel
theorem d7_197 : decode prog_46_method_10_code 197 = .ok (.return_, 1) := by decide +kernel
theorem d7_44 : decode prog_46_method_10_code 44 = .ok (.iload 11, 2) := by decide +kernel
theorem d7_46 : decode prog_46_method_10_code 46 = .ok (.bipush 32, 2) := by decide +kernel
theorem d7_48 : decode prog_46_method_10_code 48 = .ok (.if_icmp .le 33, 3) := by decide +kernel
theorem d7_81 : decode prog_46_method_10_code 81 = .ok (.aload_n 0, 1) := by decide +kernel
theorem d7_82 : decode prog_46_method_10_code 82 = .ok (.iload 10, 2) := by decide +kernel
theorem d7_84 : decode prog_46_method_10_code 84 = .ok (.iload 5, 2) := by decide +kernel
theorem d7_86 : decode prog_46_method_10_code 86 = .ok (.invokevirtual 50, 3) := by decide +kernel
theorem d7_89 : decode prog_46_method_10_code 89 = .ok (.istore 12, 2) := by decide +kernel
theorem d7_91 : decode prog_46_method_10_code 91 = .ok (.iload 12, 2) := by decide +kernel
theorem d7_93 : decode prog_46_method_10_code 93 = .ok (.iload 11, 2) := by decide +kernel
theorem d7_95 : decode prog_46_method_10_code 95 = .ok (.if_icmp .ge 63, 3) := by decide +kernel
theorem d7_98 : decode prog_46_method_10_code 98 = .ok (.aload_n 0, 1) := by decide +kernel
theorem d7_99 : decode prog_46_method_10_code 99 = .ok (.getfield 9, 3) := by decide +kernel
theorem d7_102 : decode prog_46_method_10_code 102 = .ok (.iconst 2, 1) := by decide +kernel
theorem d7_103 : decode prog_46_method_10_code 103 = .ok (.iload 10, 2) := by decide +kernel
theorem d7_105 : decode prog_46_method_10_code 105 = .ok (.imul, 1) := by decide +kernel
theorem d7_106 : decode prog_46_method_10_code 106 = .ok (.laload, 1) := by decide +kernel
theorem d7_107 : decode prog_46_method_10_code 107 = .ok (.lstore 13, 2) := by decide +kernel
theorem d7_109 : decode prog_46_method_10_code 109 = .ok (.aload_n 0, 1) := by decide +kernel
theorem d7_110 : decode prog_46_method_10_code 110 = .ok (.getfield 9, 3) := by decide +kernel
theorem d7_113 : decode prog_46_method_10_code 113 = .ok (.iconst 2, 1) := by decide +kernel
theorem d7_114 : decode prog_46_method_10_code 114 = .ok (.iload 10, 2) := by decide +kernel
theorem d7_116 : decode prog_46_method_10_code 116 = .ok (.imul, 1) := by decide +kernel
theorem d7_117 : decode prog_46_method_10_code 117 = .ok (.iconst 1, 1) := by decide +kernel
theorem d7_118 : decode prog_46_method_10_code 118 = .ok (.iadd, 1) := by decide +kernel
theorem d7_119 : decode prog_46_method_10_code 119 = .ok (.laload, 1) := by decide +kernel
theorem d7_120 : decode prog_46_method_10_code 120 = .ok (.lstore 15, 2) := by decide +kernel
theorem d7_122 : decode prog_46_method_10_code 122 = .ok (.aload_n 0, 1) := by decide +kernel
theorem d7_123 : decode prog_46_method_10_code 123 = .ok (.getfield 9, 3) := by decide +kernel
theorem d7_126 : decode prog_46_method_10_code 126 = .ok (.iconst 2, 1) := by decide +kernel
theorem d7_127 : decode prog_46_method_10_code 127 = .ok (.iload 10, 2) := by decide +kernel
theorem d7_129 : decode prog_46_method_10_code 129 = .ok (.imul, 1) := by decide +kernel
theorem d7_130 : decode prog_46_method_10_code 130 = .ok (.lload 6, 2) := by decide +kernel
theorem d7_132 : decode prog_46_method_10_code 132 = .ok (.lastore, 1) := by decide +kernel
theorem d7_133 : decode prog_46_method_10_code 133 = .ok (.aload_n 0, 1) := by decide +kernel
theorem d7_134 : decode prog_46_method_10_code 134 = .ok (.getfield 9, 3) := by decide +kernel
theorem d7_137 : decode prog_46_method_10_code 137 = .ok (.iconst 2, 1) := by decide +kernel
theorem d7_138 : decode prog_46_method_10_code 138 = .ok (.iload 10, 2) := by decide +kernel
theorem d7_140 : decode prog_46_method_10_code 140 = .ok (.imul, 1) := by decide +kernel
theorem d7_141 : decode prog_46_method_10_code 141 = .ok (.iconst 1, 1) := by decide +kernel
theorem d7_142 : decode prog_46_method_10_code 142 = .ok (.iadd, 1) := by decide +kernel
theorem d7_143 : decode prog_46_method_10_code 143 = .ok (.lload 8, 2) := by decide +kernel
theorem d7_145 : decode prog_46_method_10_code 145 = .ok (.lastore, 1) := by decide +kernel
theorem d7_146 : decode prog_46_method_10_code 146 = .ok (.lload 13, 2) := by decide +kernel
theorem d7_148 : decode prog_46_method_10_code 148 = .ok (.lstore 6, 2) := by decide +kernel
theorem d7_150 : decode prog_46_method_10_code 150 = .ok (.lload 15, 2) := by decide +kernel
theorem d7_152 : decode prog_46_method_10_code 152 = .ok (.lstore 8, 2) := by decide +kernel
theorem d7_154 : decode prog_46_method_10_code 154 = .ok (.iload 12, 2) := by decide +kernel
theorem d7_156 : decode prog_46_method_10_code 156 = .ok (.istore 11, 2) := by decide +kernel
theorem d7_158 : decode prog_46_method_10_code 158 = .ok (.iload 10, 2) := by decide +kernel
theorem d7_160 : decode prog_46_method_10_code 160 = .ok (.iconst 1, 1) := by decide +kernel
theorem d7_161 : decode prog_46_method_10_code 161 = .ok (.iadd, 1) := by decide +kernel
theorem d7_162 : decode prog_46_method_10_code 162 = .ok (.iload 5, 2) := by decide +kernel
theorem d7_164 : decode prog_46_method_10_code 164 = .ok (.iand, 1) := by decide +kernel
theorem d7_165 : decode prog_46_method_10_code 165 = .ok (.istore 10, 2) := by decide +kernel
theorem d7_167 : decode prog_46_method_10_code 167 = .ok (.iinc 11 1, 3) := by decide +kernel
theorem d7_170 : decode prog_46_method_10_code 170 = .ok (.goto (-140), 3) := by decide +kernel
abbrev Rm7 : Room := { frames := 2, cells := 0, slots := 0, locals := 34 }
set_option maxRecDepth 65536 in
set_option maxHeartbeats 40000000 in
theorem rm7 (l : Launch) (Z : State) (a0 : Array Value) (hw : ∀ d ∈ tables_1, d.before a0 Z = true) (ws : List Jvm.Cond) (a1 : Addr) (k : Int64) (w : Int64) (d : Addr) (kd : ClassId) (f : Nat → Int64) (h0 : Heap) (n0 : Nat) (Z0 : n0 ≤ h0.size) (E_a1 : Exa Z h0 a1 "com/example/shrike/shrike/store/LongMap") (Fs_a1 : Fld Z h0 a1 "com/example/shrike/shrike/store/LongMap" "slots" "[J" (.ref d)) (Fm_a1 : Fld Z h0 a1 "com/example/shrike/shrike/store/LongMap" "mixed" "Z" (.int (0 : Int32))) (V_d : Avf Z h0 d kd .long 32 (fun jj => (.long (f jj)))) (g_d : n0 ≤ d) (hL : Lf f) (hk : k ≠ 0) (hE : ∃ q, q < 16 ∧ f (2 * q) = 0) :
    Met l Z n0 (⟨"com/example/shrike/shrike/store/LongMap", "place", "(JJ)V"⟩ : MethodName) prog_46_method_10_code 17 none ws Rm7 #[(.ref a1), (.long k), (.long w)] h0 (fun v h => v = none ∧ Keep h0 h [d] ∧ ∃ f', Avf Z h d kd .long 32 (fun jj => (.long (f' jj))) ∧ Lf f' ∧ (∀ x, x ≠ 0 → (pre f' 16).count x = (pre f 16).count x + one x k) ∧ (pre f' 16).length = (pre f 16).length + 1) := by
  refine enter (Ls := #[.val (.ref a1), .val (.long k), .second, .val (.long w), .second, .unset, .unset, .unset, .unset, .unset, .unset, .unset, .unset, .unset, .unset, .unset, .unset]) (plainFor_of_name pn1) (fun m => by first | (simp [entryFrame, mkF, argsToLocals, Value.category]; done) | rfl) ?_
  intro p e s m below meth c T0 hx hby hml hown hnm hret hlk hZ X0
  have nad : a1 ≠ d := Ne.symm (exa_nev E_a1 (tw hw 5 rfl) V_d)
  have K0 := Keep.refl h0 [d]
  show Go p.tables e below _ (T0.setTop (mkF m 0 #[.val (.ref a1), .val (.long k), .second, .val (.long w), .second, .unset, .unset, .unset, .unset, .unset, .unset, .unset, .unset, .unset, .unset, .unset, .unset] []))
  refine Go.by (fun _ => XS.aloadN X0.here hx rfl (hb hby d7_0) rfl rfl) ?_
  obtain ⟨T1, X1, st1⟩ := X0.getF hx hZ hown (host := "") (Or.inl (tw hw 14 rfl)) Via.refl Fs_a1 (g := (mkF m 1 #[.val (.ref a1), .val (.long k), .second, .val (.long w), .second, .unset, .unset, .unset, .unset, .unset, .unset, .unset, .unset, .unset, .unset, .unset, .unset] [(.ref a1)])) rfl rfl (hb hby d7_1)
  refine Go.by st1 ?_
  show Go p.tables e below _ (T1.setTop (mkF m 4 #[.val (.ref a1), .val (.long k), .second, .val (.long w), .second, .unset, .unset, .unset, .unset, .unset, .unset, .unset, .unset, .unset, .unset, .unset, .unset] [(.ref d)]))
  refine Go.by (X1.len hx hZ V_d (z := (32 : Int32)) rfl (g := (mkF m 4 #[.val (.ref a1), .val (.long k), .second, .val (.long w), .second, .unset, .unset, .unset, .unset, .unset, .unset, .unset, .unset, .unset, .unset, .unset, .unset] [(.ref d)])) rfl rfl (hb hby d7_4)) ?_
  show Go p.tables e below _ (T1.setTop (mkF m 5 #[.val (.ref a1), .val (.long k), .second, .val (.long w), .second, .unset, .unset, .unset, .unset, .unset, .unset, .unset, .unset, .unset, .unset, .unset, .unset] [(.int (32 : Int32))]))
  refine Go.by (fun _ => XS.iconst X1.here hx rfl (hb hby d7_5)) ?_
  refine Go.by (fun _ => XS.idiv X1.here hx rfl (hb hby d7_6) rfl (by decide)) ?_
  show Go p.tables e below _ (T1.setTop (mkF m 7 #[.val (.ref a1), .val (.long k), .second, .val (.long w), .second, .unset, .unset, .unset, .unset, .unset, .unset, .unset, .unset, .unset, .unset, .unset, .unset] [(.int (16 : Int32))]))
  refine Go.by (fun _ => XS.iconst X1.here hx rfl (hb hby d7_7)) ?_
  refine Go.by (fun _ => XS.isub X1.here hx rfl (hb hby d7_8) rfl) ?_
  refine Go.by (fun _ => XS.istore X1.here hx rfl (hb hby d7_9) rfl (l' := #[.val (.ref a1), .val (.long k), .second, .val (.long w), .second, .val (.int (15 : Int32)), .unset, .unset, .unset, .unset, .unset, .unset, .unset, .unset, .unset, .unset, .unset]) rfl) ?_
  show Go p.tables e below _ (T1.setTop (mkF m 11 #[.val (.ref a1), .val (.long k), .second, .val (.long w), .second, .val (.int (15 : Int32)), .unset, .unset, .unset, .unset, .unset, .unset, .unset, .unset, .unset, .unset, .unset] []))
  refine Go.by (fun _ => XS.lloadN X1.here hx rfl (hb hby d7_11) rfl) ?_
  refine Go.by (fun _ => XS.lstore X1.here hx rfl (hb hby d7_12) rfl (l' := #[.val (.ref a1), .val (.long k), .second, .val (.long w), .second, .val (.int (15 : Int32)), .val (.long k), .second, .unset, .unset, .unset, .unset, .unset, .unset, .unset, .unset, .unset]) rfl) ?_
  show Go p.tables e below _ (T1.setTop (mkF m 14 #[.val (.ref a1), .val (.long k), .second, .val (.long w), .second, .val (.int (15 : Int32)), .val (.long k), .second, .unset, .unset, .unset, .unset, .unset, .unset, .unset, .unset, .unset] []))
  refine Go.by (fun _ => XS.lloadN X1.here hx rfl (hb hby d7_14) rfl) ?_
  refine Go.by (fun _ => XS.lstore X1.here hx rfl (hb hby d7_15) rfl (l' := #[.val (.ref a1), .val (.long k), .second, .val (.long w), .second, .val (.int (15 : Int32)), .val (.long k), .second, .val (.long w), .second, .unset, .unset, .unset, .unset, .unset, .unset, .unset]) rfl) ?_
  show Go p.tables e below _ (T1.setTop (mkF m 17 #[.val (.ref a1), .val (.long k), .second, .val (.long w), .second, .val (.int (15 : Int32)), .val (.long k), .second, .val (.long w), .second, .unset, .unset, .unset, .unset, .unset, .unset, .unset] []))
  refine Go.by (fun _ => XS.aloadN X1.here hx rfl (hb hby d7_17) rfl rfl) ?_
  refine Go.by (fun _ => XS.lload X1.here hx rfl (hb hby d7_18) rfl) ?_
  refine Go.by (fun _ => XS.iload X1.here hx rfl (hb hby d7_20) rfl) ?_
  show Go p.tables e below _ (T1.setTop (mkF m 22 #[.val (.ref a1), .val (.long k), .second, .val (.long w), .second, .val (.int (15 : Int32)), .val (.long k), .second, .val (.long w), .second, .unset, .unset, .unset, .unset, .unset, .unset, .unset] [(.int (15 : Int32)), (.long k), (.ref a1)]))
  obtain ⟨v2, T2, h2, X2, q2, st2⟩ := X1.callP hx hZ (y := (⟨"com/example/shrike/shrike/store/LongMap", "home", "(JI)I"⟩ : MethodName)) hown (tw hw 26 rfl) (tw hw 27 rfl) (sel_priv (tw hw 20 rfl) rfl (tw hw 28 rfl) (tw hw 27 rfl) (by decide)) (tw hw 28 rfl) (tw hw 6 rfl) (tw hw 29 rfl) (by decide) (rm6 l Z a0 hw [] a1 k d kd f h0 n0 Z0 E_a1 Fs_a1 Fm_a1 V_d) E_a1 (g := (mkF m 22 #[.val (.ref a1), .val (.long k), .second, .val (.long w), .second, .val (.int (15 : Int32)), .val (.long k), .second, .val (.long w), .second, .unset, .unset, .unset, .unset, .unset, .unset, .unset] [(.int (15 : Int32)), (.long k), (.ref a1)])) rfl (by rw [hml]; rfl) (argsL := [(.long k), (.int (15 : Int32))]) (rest := []) (lenOf pd0 rfl) rfl (hb hby d7_22) rfl (by decide) (Nat.le_of_ble_eq_true rfl) (k' := 0) (n' := 0) rfl rfl (by decide) (by decide)
  refine Go.by st2 ?_
  obtain ⟨rfl, rfl⟩ := q2
  show Go p.tables e below _ (T2.setTop (mkF m 25 #[.val (.ref a1), .val (.long k), .second, .val (.long w), .second, .val (.int (15 : Int32)), .val (.long k), .second, .val (.long w), .second, .unset, .unset, .unset, .unset, .unset, .unset, .unset] [(.int (Int32.ofNat (hm k)))]))
  refine Go.by (fun _ => XS.istore X2.here hx rfl (hb hby d7_25) rfl (l' := #[.val (.ref a1), .val (.long k), .second, .val (.long w), .second, .val (.int (15 : Int32)), .val (.long k), .second, .val (.long w), .second, .val (.int (Int32.ofNat (hm k))), .unset, .unset, .unset, .unset, .unset, .unset]) rfl) ?_
  show Go p.tables e below _ (T2.setTop (mkF m 27 #[.val (.ref a1), .val (.long k), .second, .val (.long w), .second, .val (.int (15 : Int32)), .val (.long k), .second, .val (.long w), .second, .val (.int (Int32.ofNat (hm k))), .unset, .unset, .unset, .unset, .unset, .unset] []))
  refine Go.by (fun _ => XS.iconst X2.here hx rfl (hb hby d7_27)) ?_
  refine Go.by (fun _ => XS.istore X2.here hx rfl (hb hby d7_28) rfl (l' := #[.val (.ref a1), .val (.long k), .second, .val (.long w), .second, .val (.int (15 : Int32)), .val (.long k), .second, .val (.long w), .second, .val (.int (Int32.ofNat (hm k))), .val (.int (0 : Int32)), .unset, .unset, .unset, .unset, .unset]) rfl) ?_
  show Go p.tables e below _ (T2.setTop (mkF m 30 #[.val (.ref a1), .val (.long k), .second, .val (.long w), .second, .val (.int (15 : Int32)), .val (.long k), .second, .val (.long w), .second, .val (.int (Int32.ofNat (hm k))), .val (.int (0 : Int32)), .unset, .unset, .unset, .unset, .unset] []))
  obtain ⟨q, hq, hq0⟩ := hE
  have J : ∀ (kk : Nat) (fj : Nat → Int64) (cur w2 : Int64) (i dist : Nat) (x12 x13 x14 x15 x16 : Slot), ((x12 = .unset ∧ x13 = .unset ∧ x14 = .unset ∧ x15 = .unset ∧ x16 = .unset) ∨ (∃ y12 : Int32, x12 = .val (.int y12) ∧ x13 = .unset ∧ x14 = .unset ∧ x15 = .unset ∧ x16 = .unset) ∨ (∃ (y12 : Int32) (y13 y15 : Int64), x12 = .val (.int y12) ∧ x13 = .val (.long y13) ∧ x14 = .second ∧ x15 = .val (.long y15) ∧ x16 = .second)) → (q + 16 - i) % 16 = kk → i < 16 → i = (hm cur + dist) % 16 → dist + kk ≤ 15 → Lf fj → fj (2 * q) = 0 → Ch fj i dist → cur ≠ 0 → (∀ x, x ≠ 0 → (pre fj 16).count x + one x cur = (pre f 16).count x + one x k) → (pre fj 16).length = (pre f 16).length → ∀ (Tj : State) (hj : Heap), Sd n0 p l e Rm7 s m #[(.ref a1), (.long k), (.long w)] below meth c Tj hj 0 0 → n0 ≤ hj.size → Keep h0 hj [d] → Exa Z hj a1 "com/example/shrike/shrike/store/LongMap" → Fld Z hj a1 "com/example/shrike/shrike/store/LongMap" "slots" "[J" (.ref d) → Fld Z hj a1 "com/example/shrike/shrike/store/LongMap" "mixed" "Z" (.int (0 : Int32)) → Avf Z hj d kd .long 32 (fun jj => (.long (fj jj))) → Go p.tables e below (Ret s n0 (fun v h => v = none ∧ Keep h0 h [d] ∧ ∃ f', Avf Z h d kd .long 32 (fun jj => (.long (f' jj))) ∧ Lf f' ∧ (∀ x, x ≠ 0 → (pre f' 16).count x = (pre f 16).count x + one x k) ∧ (pre f' 16).length = (pre f 16).length + 1) Rm7.cells Rm7.slots) (Tj.setTop (mkF m 30 #[.val (.ref a1), .val (.long k), .second, .val (.long w), .second, .val (.int (15 : Int32)), .val (.long cur), .second, .val (.long w2), .second, .val (.int (Int32.ofNat i)), .val (.int (Int32.ofNat dist)), x12, x13, x14, x15, x16] [])) := by
    intro kk
    induction kk with
    | zero =>
      intro fj cur w2 i dist x12 x13 x14 x15 x16 hsh hkk hi he hd hLj hqj hCh hcur hcnt hlen Tj hj Xj Zj Kj Ej Fsj Fmj Vj
      have hdp := dp_lt fj i
      have hz0 : fj (2 * i) = 0 := by rw [show i = q by omega]; exact hqj
      rcases hsh with ⟨rfl, rfl, rfl, rfl, rfl⟩ | ⟨y12, rfl, rfl, rfl, rfl, rfl⟩ | ⟨y12, y13, y15, rfl, rfl, rfl, rfl, rfl⟩
      · skip
        refine Go.by (fun _ => XS.aloadN Xj.here hx rfl (hb hby d7_30) rfl rfl) ?_
        obtain ⟨T3, X3, st3⟩ := Xj.getF hx hZ hown (host := "") (Or.inl (tw hw 14 rfl)) Via.refl Fsj (g := (mkF m 31 #[.val (.ref a1), .val (.long k), .second, .val (.long w), .second, .val (.int (15 : Int32)), .val (.long cur), .second, .val (.long w2), .second, .val (.int (Int32.ofNat i)), .val (.int (Int32.ofNat dist)), .unset, .unset, .unset, .unset, .unset] [(.ref a1)])) rfl rfl (hb hby d7_31)
        refine Go.by st3 ?_
        show Go p.tables e below _ (T3.setTop (mkF m 34 #[.val (.ref a1), .val (.long k), .second, .val (.long w), .second, .val (.int (15 : Int32)), .val (.long cur), .second, .val (.long w2), .second, .val (.int (Int32.ofNat i)), .val (.int (Int32.ofNat dist)), .unset, .unset, .unset, .unset, .unset] [(.ref d)]))
        refine Go.by (fun _ => XS.iconst X3.here hx rfl (hb hby d7_34)) ?_
        refine Go.by (fun _ => XS.iload X3.here hx rfl (hb hby d7_35) rfl) ?_
        refine Go.by (fun _ => XS.imul X3.here hx rfl (hb hby d7_37) rfl) ?_
        refine Go.by (X3.ldJ hx hZ Vj (ix_n hi) (i := 2 * i) (ix_c hi) (ix_l hi) (v := (.long (fj (2 * i)))) rfl (g := (mkF m 38 #[.val (.ref a1), .val (.long k), .second, .val (.long w), .second, .val (.int (15 : Int32)), .val (.long cur), .second, .val (.long w2), .second, .val (.int (Int32.ofNat i)), .val (.int (Int32.ofNat dist)), .unset, .unset, .unset, .unset, .unset] [(.int ((2 : Int32) * (Int32.ofNat i))), (.ref d)])) rfl rfl (hb hby d7_38)) ?_
        show Go p.tables e below _ (T3.setTop (mkF m 39 #[.val (.ref a1), .val (.long k), .second, .val (.long w), .second, .val (.int (15 : Int32)), .val (.long cur), .second, .val (.long w2), .second, .val (.int (Int32.ofNat i)), .val (.int (Int32.ofNat dist)), .unset, .unset, .unset, .unset, .unset] [(.long (fj (2 * i)))]))
        refine Go.by (fun _ => XS.lconst X3.here hx rfl (hb hby d7_39)) ?_
        show Go p.tables e below _ (T3.setTop (mkF m 40 #[.val (.ref a1), .val (.long k), .second, .val (.long w), .second, .val (.int (15 : Int32)), .val (.long cur), .second, .val (.long w2), .second, .val (.int (Int32.ofNat i)), .val (.int (Int32.ofNat dist)), .unset, .unset, .unset, .unset, .unset] [(.long (0 : Int64)), (.long (fj (2 * i)))]))
        refine Go.by (fun _ => XS.lcmp X3.here hx rfl (hb hby d7_40) rfl) ?_
        show Go p.tables e below _ (T3.setTop (mkF m 41 #[.val (.ref a1), .val (.long k), .second, .val (.long w), .second, .val (.int (15 : Int32)), .val (.long cur), .second, .val (.long w2), .second, .val (.int (Int32.ofNat i)), .val (.int (Int32.ofNat dist)), .unset, .unset, .unset, .unset, .unset] [(.int (lcmpW (fj (2 * i)) (0 : Int64)))]))
        refine Go.by (fun _ => XS.ifYes X3.here hx rfl (pc0 := 41) (pc' := 173) rfl (hb hby d7_41) rfl ((if0 _ _).trans (teq ((lw_eq _ _).mpr hz0)).1) (by decide) (by decide)) ?_
        show Go p.tables e below _ (T3.setTop (mkF m 173 #[.val (.ref a1), .val (.long k), .second, .val (.long w), .second, .val (.int (15 : Int32)), .val (.long cur), .second, .val (.long w2), .second, .val (.int (Int32.ofNat i)), .val (.int (Int32.ofNat dist)), .unset, .unset, .unset, .unset, .unset] []))
        refine Go.by (fun _ => XS.aloadN X3.here hx rfl (hb hby d7_173) rfl rfl) ?_
        obtain ⟨T4, X4, st4⟩ := X3.getF hx hZ hown (host := "") (Or.inl (tw hw 14 rfl)) Via.refl Fsj (g := (mkF m 174 #[.val (.ref a1), .val (.long k), .second, .val (.long w), .second, .val (.int (15 : Int32)), .val (.long cur), .second, .val (.long w2), .second, .val (.int (Int32.ofNat i)), .val (.int (Int32.ofNat dist)), .unset, .unset, .unset, .unset, .unset] [(.ref a1)])) rfl rfl (hb hby d7_174)
        refine Go.by st4 ?_
        show Go p.tables e below _ (T4.setTop (mkF m 177 #[.val (.ref a1), .val (.long k), .second, .val (.long w), .second, .val (.int (15 : Int32)), .val (.long cur), .second, .val (.long w2), .second, .val (.int (Int32.ofNat i)), .val (.int (Int32.ofNat dist)), .unset, .unset, .unset, .unset, .unset] [(.ref d)]))
        refine Go.by (fun _ => XS.iconst X4.here hx rfl (hb hby d7_177)) ?_
        refine Go.by (fun _ => XS.iload X4.here hx rfl (hb hby d7_178) rfl) ?_
        show Go p.tables e below _ (T4.setTop (mkF m 180 #[.val (.ref a1), .val (.long k), .second, .val (.long w), .second, .val (.int (15 : Int32)), .val (.long cur), .second, .val (.long w2), .second, .val (.int (Int32.ofNat i)), .val (.int (Int32.ofNat dist)), .unset, .unset, .unset, .unset, .unset] [(.int (Int32.ofNat i)), (.int (2 : Int32)), (.ref d)]))
        refine Go.by (fun _ => XS.imul X4.here hx rfl (hb hby d7_180) rfl) ?_
        refine Go.by (fun _ => XS.lload X4.here hx rfl (hb hby d7_181) rfl) ?_
        obtain ⟨T5, h5, X5, W5, V5, st5⟩ := X4.stJ hx hZ Vj g_d (ix_n hi) (i := 2 * i) (ix_c hi) (ix_l hi) (g := (mkF m 183 #[.val (.ref a1), .val (.long k), .second, .val (.long w), .second, .val (.int (15 : Int32)), .val (.long cur), .second, .val (.long w2), .second, .val (.int (Int32.ofNat i)), .val (.int (Int32.ofNat dist)), .unset, .unset, .unset, .unset, .unset] [(.long cur), (.int ((2 : Int32) * (Int32.ofNat i))), (.ref d)])) rfl rfl (hb hby d7_183)
        have f6_70 := Ej.wr W5
        have f6_71 := Fsj.other W5 (Or.inl nad)
        have f6_72 := Fmj.other W5 (Or.inl nad)
        have f6_73 := Kj.wr W5 (Or.inl (List.mem_of_getElem? (i := 0) rfl))
        have Zs6 : n0 ≤ h5.size := by rw [W5.size]; exact Zj
        refine Go.by st5 ?_
        show Go p.tables e below _ (T5.setTop (mkF m 184 #[.val (.ref a1), .val (.long k), .second, .val (.long w), .second, .val (.int (15 : Int32)), .val (.long cur), .second, .val (.long w2), .second, .val (.int (Int32.ofNat i)), .val (.int (Int32.ofNat dist)), .unset, .unset, .unset, .unset, .unset] []))
        have Vu7 := Avf.cong V5 (g := (fun jj => (.long ((upd fj (2 * i) cur) jj)))) (fun t _ => upd_eq fj (2 * i) cur t)
        refine Go.by (fun _ => XS.aloadN X5.here hx rfl (hb hby d7_184) rfl rfl) ?_
        obtain ⟨T8, X8, st8⟩ := X5.getF hx hZ hown (host := "") (Or.inl (tw hw 14 rfl)) Via.refl f6_71 (g := (mkF m 185 #[.val (.ref a1), .val (.long k), .second, .val (.long w), .second, .val (.int (15 : Int32)), .val (.long cur), .second, .val (.long w2), .second, .val (.int (Int32.ofNat i)), .val (.int (Int32.ofNat dist)), .unset, .unset, .unset, .unset, .unset] [(.ref a1)])) rfl rfl (hb hby d7_185)
        refine Go.by st8 ?_
        show Go p.tables e below _ (T8.setTop (mkF m 188 #[.val (.ref a1), .val (.long k), .second, .val (.long w), .second, .val (.int (15 : Int32)), .val (.long cur), .second, .val (.long w2), .second, .val (.int (Int32.ofNat i)), .val (.int (Int32.ofNat dist)), .unset, .unset, .unset, .unset, .unset] [(.ref d)]))
        refine Go.by (fun _ => XS.iconst X8.here hx rfl (hb hby d7_188)) ?_
        refine Go.by (fun _ => XS.iload X8.here hx rfl (hb hby d7_189) rfl) ?_
        refine Go.by (fun _ => XS.imul X8.here hx rfl (hb hby d7_191) rfl) ?_
        refine Go.by (fun _ => XS.iconst X8.here hx rfl (hb hby d7_192)) ?_
        refine Go.by (fun _ => XS.iadd X8.here hx rfl (hb hby d7_193) rfl) ?_
        show Go p.tables e below _ (T8.setTop (mkF m 194 #[.val (.ref a1), .val (.long k), .second, .val (.long w), .second, .val (.int (15 : Int32)), .val (.long cur), .second, .val (.long w2), .second, .val (.int (Int32.ofNat i)), .val (.int (Int32.ofNat dist)), .unset, .unset, .unset, .unset, .unset] [(.int (((2 : Int32) * (Int32.ofNat i)) + (1 : Int32))), (.ref d)]))
        refine Go.by (fun _ => XS.lload X8.here hx rfl (hb hby d7_194) rfl) ?_
        obtain ⟨T9, h9, X9, W9, V9, st9⟩ := X8.stJ hx hZ Vu7 g_d (ix1_n hi) (i := 2 * i + 1) (ix1_c hi) (ix1_l hi) (g := (mkF m 196 #[.val (.ref a1), .val (.long k), .second, .val (.long w), .second, .val (.int (15 : Int32)), .val (.long cur), .second, .val (.long w2), .second, .val (.int (Int32.ofNat i)), .val (.int (Int32.ofNat dist)), .unset, .unset, .unset, .unset, .unset] [(.long w2), (.int (((2 : Int32) * (Int32.ofNat i)) + (1 : Int32))), (.ref d)])) rfl rfl (hb hby d7_196)
        have f10_90 := f6_70.wr W9
        have f10_91 := f6_71.other W9 (Or.inl nad)
        have f10_92 := f6_72.other W9 (Or.inl nad)
        have f10_93 := f6_73.wr W9 (Or.inl (List.mem_of_getElem? (i := 0) rfl))
        have Zs10 : n0 ≤ h9.size := by rw [W9.size]; exact Zs6
        refine Go.by st9 ?_
        show Go p.tables e below _ (T9.setTop (mkF m 197 #[.val (.ref a1), .val (.long k), .second, .val (.long w), .second, .val (.int (15 : Int32)), .val (.long cur), .second, .val (.long w2), .second, .val (.int (Int32.ofNat i)), .val (.int (Int32.ofNat dist)), .unset, .unset, .unset, .unset, .unset] []))
        have Vu11 := Avf.cong V9 (g := (fun jj => (.long ((upd (upd fj (2 * i) cur) (2 * i + 1) w2) jj)))) (fun t _ => upd_eq (upd fj (2 * i) cur) (2 * i + 1) w2 t)
        refine Go.ret0 X9 hx hlk hret (hb hby d7_197) (by decide) (by decide) ?_
        refine ⟨rfl, f10_93, _, Vu11, Lf_odd (Lf_put hLj hi (by omega) he hcur hCh (Or.inl hz0)), fun x hx => ?_, ?_⟩
        · have a1 := cnt_upd (f := fj) (i := i) (v := cur) hi hx
          have a2 := hcnt x hx
          rw [hz0, one_zero hx] at a1
          rw [pre_odd]; omega
        · rw [pre_odd, len_more hi hz0 hcur, hlen]
      · skip
        refine Go.by (fun _ => XS.aloadN Xj.here hx rfl (hb hby d7_30) rfl rfl) ?_
        obtain ⟨T12, X12, st12⟩ := Xj.getF hx hZ hown (host := "") (Or.inl (tw hw 14 rfl)) Via.refl Fsj (g := (mkF m 31 #[.val (.ref a1), .val (.long k), .second, .val (.long w), .second, .val (.int (15 : Int32)), .val (.long cur), .second, .val (.long w2), .second, .val (.int (Int32.ofNat i)), .val (.int (Int32.ofNat dist)), .val (.int y12), .unset, .unset, .unset, .unset] [(.ref a1)])) rfl rfl (hb hby d7_31)
        refine Go.by st12 ?_
        show Go p.tables e below _ (T12.setTop (mkF m 34 #[.val (.ref a1), .val (.long k), .second, .val (.long w), .second, .val (.int (15 : Int32)), .val (.long cur), .second, .val (.long w2), .second, .val (.int (Int32.ofNat i)), .val (.int (Int32.ofNat dist)), .val (.int y12), .unset, .unset, .unset, .unset] [(.ref d)]))
        refine Go.by (fun _ => XS.iconst X12.here hx rfl (hb hby d7_34)) ?_
        show Go p.tables e below _ (T12.setTop (mkF m 35 #[.val (.ref a1), .val (.long k), .second, .val (.long w), .second, .val (.int (15 : Int32)), .val (.long cur), .second, .val (.long w2), .second, .val (.int (Int32.ofNat i)), .val (.int (Int32.ofNat dist)), .val (.int y12), .unset, .unset, .unset, .unset] [(.int (2 : Int32)), (.ref d)]))
        refine Go.by (fun _ => XS.iload X12.here hx rfl (hb hby d7_35) rfl) ?_
        refine Go.by (fun _ => XS.imul X12.here hx rfl (hb hby d7_37) rfl) ?_
        refine Go.by (X12.ldJ hx hZ Vj (ix_n hi) (i := 2 * i) (ix_c hi) (ix_l hi) (v := (.long (fj (2 * i)))) rfl (g := (mkF m 38 #[.val (.ref a1), .val (.long k), .second, .val (.long w), .second, .val (.int (15 : Int32)), .val (.long cur), .second, .val (.long w2), .second, .val (.int (Int32.ofNat i)), .val (.int (Int32.ofNat dist)), .val (.int y12), .unset, .unset, .unset, .unset] [(.int ((2 : Int32) * (Int32.ofNat i))), (.ref d)])) rfl rfl (hb hby d7_38)) ?_
        show Go p.tables e below _ (T12.setTop (mkF m 39 #[.val (.ref a1), .val (.long k), .second, .val (.long w), .second, .val (.int (15 : Int32)), .val (.long cur), .second, .val (.long w2), .second, .val (.int (Int32.ofNat i)), .val (.int (Int32.ofNat dist)), .val (.int y12), .unset, .unset, .unset, .unset] [(.long (fj (2 * i)))]))
        refine Go.by (fun _ => XS.lconst X12.here hx rfl (hb hby d7_39)) ?_
        refine Go.by (fun _ => XS.lcmp X12.here hx rfl (hb hby d7_40) rfl) ?_
        show Go p.tables e below _ (T12.setTop (mkF m 41 #[.val (.ref a1), .val (.long k), .second, .val (.long w), .second, .val (.int (15 : Int32)), .val (.long cur), .second, .val (.long w2), .second, .val (.int (Int32.ofNat i)), .val (.int (Int32.ofNat dist)), .val (.int y12), .unset, .unset, .unset, .unset] [(.int (lcmpW (fj (2 * i)) (0 : Int64)))]))
        refine Go.by (fun _ => XS.ifYes X12.here hx rfl (pc0 := 41) (pc' := 173) rfl (hb hby d7_41) rfl ((if0 _ _).trans (teq ((lw_eq _ _).mpr hz0)).1) (by decide) (by decide)) ?_
        show Go p.tables e below _ (T12.setTop (mkF m 173 #[.val (.ref a1), .val (.long k), .second, .val (.long w), .second, .val (.int (15 : Int32)), .val (.long cur), .second, .val (.long w2), .second, .val (.int (Int32.ofNat i)), .val (.int (Int32.ofNat dist)), .val (.int y12), .unset, .unset, .unset, .unset] []))
        refine Go.by (fun _ => XS.aloadN X12.here hx rfl (hb hby d7_173) rfl rfl) ?_
        obtain ⟨T13, X13, st13⟩ := X12.getF hx hZ hown (host := "") (Or.inl (tw hw 14 rfl)) Via.refl Fsj (g := (mkF m 174 #[.val (.ref a1), .val (.long k), .second, .val (.long w), .second, .val (.int (15 : Int32)), .val (.long cur), .second, .val (.long w2), .second, .val (.int (Int32.ofNat i)), .val (.int (Int32.ofNat dist)), .val (.int y12), .unset, .unset, .unset, .unset] [(.ref a1)])) rfl rfl (hb hby d7_174)
        refine Go.by st13 ?_
        show Go p.tables e below _ (T13.setTop (mkF m 177 #[.val (.ref a1), .val (.long k), .second, .val (.long w), .second, .val (.int (15 : Int32)), .val (.long cur), .second, .val (.long w2), .second, .val (.int (Int32.ofNat i)), .val (.int (Int32.ofNat dist)), .val (.int y12), .unset, .unset, .unset, .unset] [(.ref d)]))
        refine Go.by (fun _ => XS.iconst X13.here hx rfl (hb hby d7_177)) ?_
        refine Go.by (fun _ => XS.iload X13.here hx rfl (hb hby d7_178) rfl) ?_
        refine Go.by (fun _ => XS.imul X13.here hx rfl (hb hby d7_180) rfl) ?_
        show Go p.tables e below _ (T13.setTop (mkF m 181 #[.val (.ref a1), .val (.long k), .second, .val (.long w), .second, .val (.int (15 : Int32)), .val (.long cur), .second, .val (.long w2), .second, .val (.int (Int32.ofNat i)), .val (.int (Int32.ofNat dist)), .val (.int y12), .unset, .unset, .unset, .unset] [(.int ((2 : Int32) * (Int32.ofNat i))), (.ref d)]))
        refine Go.by (fun _ => XS.lload X13.here hx rfl (hb hby d7_181) rfl) ?_
        obtain ⟨T14, h14, X14, W14, V14, st14⟩ := X13.stJ hx hZ Vj g_d (ix_n hi) (i := 2 * i) (ix_c hi) (ix_l hi) (g := (mkF m 183 #[.val (.ref a1), .val (.long k), .second, .val (.long w), .second, .val (.int (15 : Int32)), .val (.long cur), .second, .val (.long w2), .second, .val (.int (Int32.ofNat i)), .val (.int (Int32.ofNat dist)), .val (.int y12), .unset, .unset, .unset, .unset] [(.long cur), (.int ((2 : Int32) * (Int32.ofNat i))), (.ref d)])) rfl rfl (hb hby d7_183)
        have f15_131 := Ej.wr W14
        have f15_132 := Fsj.other W14 (Or.inl nad)
        have f15_133 := Fmj.other W14 (Or.inl nad)
        have f15_134 := Kj.wr W14 (Or.inl (List.mem_of_getElem? (i := 0) rfl))
        have Zs15 : n0 ≤ h14.size := by rw [W14.size]; exact Zj
        refine Go.by st14 ?_
        show Go p.tables e below _ (T14.setTop (mkF m 184 #[.val (.ref a1), .val (.long k), .second, .val (.long w), .second, .val (.int (15 : Int32)), .val (.long cur), .second, .val (.long w2), .second, .val (.int (Int32.ofNat i)), .val (.int (Int32.ofNat dist)), .val (.int y12), .unset, .unset, .unset, .unset] []))
        have Vu16 := Avf.cong V14 (g := (fun jj => (.long ((upd fj (2 * i) cur) jj)))) (fun t _ => upd_eq fj (2 * i) cur t)
        refine Go.by (fun _ => XS.aloadN X14.here hx rfl (hb hby d7_184) rfl rfl) ?_
        obtain ⟨T17, X17, st17⟩ := X14.getF hx hZ hown (host := "") (Or.inl (tw hw 14 rfl)) Via.refl f15_132 (g := (mkF m 185 #[.val (.ref a1), .val (.long k), .second, .val (.long w), .second, .val (.int (15 : Int32)), .val (.long cur), .second, .val (.long w2), .second, .val (.int (Int32.ofNat i)), .val (.int (Int32.ofNat dist)), .val (.int y12), .unset, .unset, .unset, .unset] [(.ref a1)])) rfl rfl (hb hby d7_185)
        refine Go.by st17 ?_
        show Go p.tables e below _ (T17.setTop (mkF m 188 #[.val (.ref a1), .val (.long k), .second, .val (.long w), .second, .val (.int (15 : Int32)), .val (.long cur), .second, .val (.long w2), .second, .val (.int (Int32.ofNat i)), .val (.int (Int32.ofNat dist)), .val (.int y12), .unset, .unset, .unset, .unset] [(.ref d)]))
        refine Go.by (fun _ => XS.iconst X17.here hx rfl (hb hby d7_188)) ?_
        show Go p.tables e below _ (T17.setTop (mkF m 189 #[.val (.ref a1), .val (.long k), .second, .val (.long w), .second, .val (.int (15 : Int32)), .val (.long cur), .second, .val (.long w2), .second, .val (.int (Int32.ofNat i)), .val (.int (Int32.ofNat dist)), .val (.int y12), .unset, .unset, .unset, .unset] [(.int (2 : Int32)), (.ref d)]))
        refine Go.by (fun _ => XS.iload X17.here hx rfl (hb hby d7_189) rfl) ?_
        refine Go.by (fun _ => XS.imul X17.here hx rfl (hb hby d7_191) rfl) ?_
        refine Go.by (fun _ => XS.iconst X17.here hx rfl (hb hby d7_192)) ?_
        refine Go.by (fun _ => XS.iadd X17.here hx rfl (hb hby d7_193) rfl) ?_
        refine Go.by (fun _ => XS.lload X17.here hx rfl (hb hby d7_194) rfl) ?_
        show Go p.tables e below _ (T17.setTop (mkF m 196 #[.val (.ref a1), .val (.long k), .second, .val (.long w), .second, .val (.int (15 : Int32)), .val (.long cur), .second, .val (.long w2), .second, .val (.int (Int32.ofNat i)), .val (.int (Int32.ofNat dist)), .val (.int y12), .unset, .unset, .unset, .unset] [(.long w2), (.int (((2 : Int32) * (Int32.ofNat i)) + (1 : Int32))), (.ref d)]))
        obtain ⟨T18, h18, X18, W18, V18, st18⟩ := X17.stJ hx hZ Vu16 g_d (ix1_n hi) (i := 2 * i + 1) (ix1_c hi) (ix1_l hi) (g := (mkF m 196 #[.val (.ref a1), .val (.long k), .second, .val (.long w), .second, .val (.int (15 : Int32)), .val (.long cur), .second, .val (.long w2), .second, .val (.int (Int32.ofNat i)), .val (.int (Int32.ofNat dist)), .val (.int y12), .unset, .unset, .unset, .unset] [(.long w2), (.int (((2 : Int32) * (Int32.ofNat i)) + (1 : Int32))), (.ref d)])) rfl rfl (hb hby d7_196)
        have f19_152 := f15_131.wr W18
        have f19_153 := f15_132.other W18 (Or.inl nad)
        have f19_154 := f15_133.other W18 (Or.inl nad)
        have f19_155 := f15_134.wr W18 (Or.inl (List.mem_of_getElem? (i := 0) rfl))
        have Zs19 : n0 ≤ h18.size := by rw [W18.size]; exact Zs15
        refine Go.by st18 ?_
        show Go p.tables e below _ (T18.setTop (mkF m 197 #[.val (.ref a1), .val (.long k), .second, .val (.long w), .second, .val (.int (15 : Int32)), .val (.long cur), .second, .val (.long w2), .second, .val (.int (Int32.ofNat i)), .val (.int (Int32.ofNat dist)), .val (.int y12), .unset, .unset, .unset, .unset] []))
        have Vu20 := Avf.cong V18 (g := (fun jj => (.long ((upd (upd fj (2 * i) cur) (2 * i + 1) w2) jj)))) (fun t _ => upd_eq (upd fj (2 * i) cur) (2 * i + 1) w2 t)
        refine Go.ret0 X18 hx hlk hret (hb hby d7_197) (by decide) (by decide) ?_
        refine ⟨rfl, f19_155, _, Vu20, Lf_odd (Lf_put hLj hi (by omega) he hcur hCh (Or.inl hz0)), fun x hx => ?_, ?_⟩
        · have a1 := cnt_upd (f := fj) (i := i) (v := cur) hi hx
          have a2 := hcnt x hx
          rw [hz0, one_zero hx] at a1
          rw [pre_odd]; omega
        · rw [pre_odd, len_more hi hz0 hcur, hlen]
      · skip
        refine Go.by (fun _ => XS.aloadN Xj.here hx rfl (hb hby d7_30) rfl rfl) ?_
        obtain ⟨T21, X21, st21⟩ := Xj.getF hx hZ hown (host := "") (Or.inl (tw hw 14 rfl)) Via.refl Fsj (g := (mkF m 31 #[.val (.ref a1), .val (.long k), .second, .val (.long w), .second, .val (.int (15 : Int32)), .val (.long cur), .second, .val (.long w2), .second, .val (.int (Int32.ofNat i)), .val (.int (Int32.ofNat dist)), .val (.int y12), .val (.long y13), .second, .val (.long y15), .second] [(.ref a1)])) rfl rfl (hb hby d7_31)
        refine Go.by st21 ?_
        show Go p.tables e below _ (T21.setTop (mkF m 34 #[.val (.ref a1), .val (.long k), .second, .val (.long w), .second, .val (.int (15 : Int32)), .val (.long cur), .second, .val (.long w2), .second, .val (.int (Int32.ofNat i)), .val (.int (Int32.ofNat dist)), .val (.int y12), .val (.long y13), .second, .val (.long y15), .second] [(.ref d)]))
        refine Go.by (fun _ => XS.iconst X21.here hx rfl (hb hby d7_34)) ?_
        refine Go.by (fun _ => XS.iload X21.here hx rfl (hb hby d7_35) rfl) ?_
        show Go p.tables e below _ (T21.setTop (mkF m 37 #[.val (.ref a1), .val (.long k), .second, .val (.long w), .second, .val (.int (15 : Int32)), .val (.long cur), .second, .val (.long w2), .second, .val (.int (Int32.ofNat i)), .val (.int (Int32.ofNat dist)), .val (.int y12), .val (.long y13), .second, .val (.long y15), .second] [(.int (Int32.ofNat i)), (.int (2 : Int32)), (.ref d)]))
        refine Go.by (fun _ => XS.imul X21.here hx rfl (hb hby d7_37) rfl) ?_
        refine Go.by (X21.ldJ hx hZ Vj (ix_n hi) (i := 2 * i) (ix_c hi) (ix_l hi) (v := (.long (fj (2 * i)))) rfl (g := (mkF m 38 #[.val (.ref a1), .val (.long k), .second, .val (.long w), .second, .val (.int (15 : Int32)), .val (.long cur), .second, .val (.long w2), .second, .val (.int (Int32.ofNat i)), .val (.int (Int32.ofNat dist)), .val (.int y12), .val (.long y13), .second, .val (.long y15), .second] [(.int ((2 : Int32) * (Int32.ofNat i))), (.ref d)])) rfl rfl (hb hby d7_38)) ?_
        show Go p.tables e below _ (T21.setTop (mkF m 39 #[.val (.ref a1), .val (.long k), .second, .val (.long w), .second, .val (.int (15 : Int32)), .val (.long cur), .second, .val (.long w2), .second, .val (.int (Int32.ofNat i)), .val (.int (Int32.ofNat dist)), .val (.int y12), .val (.long y13), .second, .val (.long y15), .second] [(.long (fj (2 * i)))]))
        refine Go.by (fun _ => XS.lconst X21.here hx rfl (hb hby d7_39)) ?_
        refine Go.by (fun _ => XS.lcmp X21.here hx rfl (hb hby d7_40) rfl) ?_
        show Go p.tables e below _ (T21.setTop (mkF m 41 #[.val (.ref a1), .val (.long k), .second, .val (.long w), .second, .val (.int (15 : Int32)), .val (.long cur), .second, .val (.long w2), .second, .val (.int (Int32.ofNat i)), .val (.int (Int32.ofNat dist)), .val (.int y12), .val (.long y13), .second, .val (.long y15), .second] [(.int (lcmpW (fj (2 * i)) (0 : Int64)))]))
        refine Go.by (fun _ => XS.ifYes X21.here hx rfl (pc0 := 41) (pc' := 173) rfl (hb hby d7_41) rfl ((if0 _ _).trans (teq ((lw_eq _ _).mpr hz0)).1) (by decide) (by decide)) ?_
        show Go p.tables e below _ (T21.setTop (mkF m 173 #[.val (.ref a1), .val (.long k), .second, .val (.long w), .second, .val (.int (15 : Int32)), .val (.long cur), .second, .val (.long w2), .second, .val (.int (Int32.ofNat i)), .val (.int (Int32.ofNat dist)), .val (.int y12), .val (.long y13), .second, .val (.long y15), .second] []))
        refine Go.by (fun _ => XS.aloadN X21.here hx rfl (hb hby d7_173) rfl rfl) ?_
        show Go p.tables e below _ (T21.setTop (mkF m 174 #[.val (.ref a1), .val (.long k), .second, .val (.long w), .second, .val (.int (15 : Int32)), .val (.long cur), .second, .val (.long w2), .second, .val (.int (Int32.ofNat i)), .val (.int (Int32.ofNat dist)), .val (.int y12), .val (.long y13), .second, .val (.long y15), .second] [(.ref a1)]))
        obtain ⟨T22, X22, st22⟩ := X21.getF hx hZ hown (host := "") (Or.inl (tw hw 14 rfl)) Via.refl Fsj (g := (mkF m 174 #[.val (.ref a1), .val (.long k), .second, .val (.long w), .second, .val (.int (15 : Int32)), .val (.long cur), .second, .val (.long w2), .second, .val (.int (Int32.ofNat i)), .val (.int (Int32.ofNat dist)), .val (.int y12), .val (.long y13), .second, .val (.long y15), .second] [(.ref a1)])) rfl rfl (hb hby d7_174)
        refine Go.by st22 ?_
        show Go p.tables e below _ (T22.setTop (mkF m 177 #[.val (.ref a1), .val (.long k), .second, .val (.long w), .second, .val (.int (15 : Int32)), .val (.long cur), .second, .val (.long w2), .second, .val (.int (Int32.ofNat i)), .val (.int (Int32.ofNat dist)), .val (.int y12), .val (.long y13), .second, .val (.long y15), .second] [(.ref d)]))
        refine Go.by (fun _ => XS.iconst X22.here hx rfl (hb hby d7_177)) ?_
        refine Go.by (fun _ => XS.iload X22.here hx rfl (hb hby d7_178) rfl) ?_
        refine Go.by (fun _ => XS.imul X22.here hx rfl (hb hby d7_180) rfl) ?_
        refine Go.by (fun _ => XS.lload X22.here hx rfl (hb hby d7_181) rfl) ?_
        show Go p.tables e below _ (T22.setTop (mkF m 183 #[.val (.ref a1), .val (.long k), .second, .val (.long w), .second, .val (.int (15 : Int32)), .val (.long cur), .second, .val (.long w2), .second, .val (.int (Int32.ofNat i)), .val (.int (Int32.ofNat dist)), .val (.int y12), .val (.long y13), .second, .val (.long y15), .second] [(.long cur), (.int ((2 : Int32) * (Int32.ofNat i))), (.ref d)]))
        obtain ⟨T23, h23, X23, W23, V23, st23⟩ := X22.stJ hx hZ Vj g_d (ix_n hi) (i := 2 * i) (ix_c hi) (ix_l hi) (g := (mkF m 183 #[.val (.ref a1), .val (.long k), .second, .val (.long w), .second, .val (.int (15 : Int32)), .val (.long cur), .second, .val (.long w2), .second, .val (.int (Int32.ofNat i)), .val (.int (Int32.ofNat dist)), .val (.int y12), .val (.long y13), .second, .val (.long y15), .second] [(.long cur), (.int ((2 : Int32) * (Int32.ofNat i))), (.ref d)])) rfl rfl (hb hby d7_183)
        have f24_194 := Ej.wr W23
        have f24_195 := Fsj.other W23 (Or.inl nad)
        have f24_196 := Fmj.other W23 (Or.inl nad)
        have f24_197 := Kj.wr W23 (Or.inl (List.mem_of_getElem? (i := 0) rfl))
        have Zs24 : n0 ≤ h23.size := by rw [W23.size]; exact Zj
        refine Go.by st23 ?_
        show Go p.tables e below _ (T23.setTop (mkF m 184 #[.val (.ref a1), .val (.long k), .second, .val (.long w), .second, .val (.int (15 : Int32)), .val (.long cur), .second, .val (.long w2), .second, .val (.int (Int32.ofNat i)), .val (.int (Int32.ofNat dist)), .val (.int y12), .val (.long y13), .second, .val (.long y15), .second] []))
        have Vu25 := Avf.cong V23 (g := (fun jj => (.long ((upd fj (2 * i) cur) jj)))) (fun t _ => upd_eq fj (2 * i) cur t)
        refine Go.by (fun _ => XS.aloadN X23.here hx rfl (hb hby d7_184) rfl rfl) ?_
        obtain ⟨T26, X26, st26⟩ := X23.getF hx hZ hown (host := "") (Or.inl (tw hw 14 rfl)) Via.refl f24_195 (g := (mkF m 185 #[.val (.ref a1), .val (.long k), .second, .val (.long w), .second, .val (.int (15 : Int32)), .val (.long cur), .second, .val (.long w2), .second, .val (.int (Int32.ofNat i)), .val (.int (Int32.ofNat dist)), .val (.int y12), .val (.long y13), .second, .val (.long y15), .second] [(.ref a1)])) rfl rfl (hb hby d7_185)
        refine Go.by st26 ?_
        show Go p.tables e below _ (T26.setTop (mkF m 188 #[.val (.ref a1), .val (.long k), .second, .val (.long w), .second, .val (.int (15 : Int32)), .val (.long cur), .second, .val (.long w2), .second, .val (.int (Int32.ofNat i)), .val (.int (Int32.ofNat dist)), .val (.int y12), .val (.long y13), .second, .val (.long y15), .second] [(.ref d)]))
        refine Go.by (fun _ => XS.iconst X26.here hx rfl (hb hby d7_188)) ?_
        refine Go.by (fun _ => XS.iload X26.here hx rfl (hb hby d7_189) rfl) ?_
        show Go p.tables e below _ (T26.setTop (mkF m 191 #[.val (.ref a1), .val (.long k), .second, .val (.long w), .second, .val (.int (15 : Int32)), .val (.long cur), .second, .val (.long w2), .second, .val (.int (Int32.ofNat i)), .val (.int (Int32.ofNat dist)), .val (.int y12), .val (.long y13), .second, .val (.long y15), .second] [(.int (Int32.ofNat i)), (.int (2 : Int32)), (.ref d)]))
        refine Go.by (fun _ => XS.imul X26.here hx rfl (hb hby d7_191) rfl) ?_
        refine Go.by (fun _ => XS.iconst X26.here hx rfl (hb hby d7_192)) ?_
        refine Go.by (fun _ => XS.iadd X26.here hx rfl (hb hby d7_193) rfl) ?_
        refine Go.by (fun _ => XS.lload X26.here hx rfl (hb hby d7_194) rfl) ?_
        obtain ⟨T27, h27, X27, W27, V27, st27⟩ := X26.stJ hx hZ Vu25 g_d (ix1_n hi) (i := 2 * i + 1) (ix1_c hi) (ix1_l hi) (g := (mkF m 196 #[.val (.ref a1), .val (.long k), .second, .val (.long w), .second, .val (.int (15 : Int32)), .val (.long cur), .second, .val (.long w2), .second, .val (.int (Int32.ofNat i)), .val (.int (Int32.ofNat dist)), .val (.int y12), .val (.long y13), .second, .val (.long y15), .second] [(.long w2), (.int (((2 : Int32) * (Int32.ofNat i)) + (1 : Int32))), (.ref d)])) rfl rfl (hb hby d7_196)
        have f28_214 := f24_194.wr W27
        have f28_215 := f24_195.other W27 (Or.inl nad)
        have f28_216 := f24_196.other W27 (Or.inl nad)
        have f28_217 := f24_197.wr W27 (Or.inl (List.mem_of_getElem? (i := 0) rfl))
        have Zs28 : n0 ≤ h27.size := by rw [W27.size]; exact Zs24
        refine Go.by st27 ?_
        show Go p.tables e below _ (T27.setTop (mkF m 197 #[.val (.ref a1), .val (.long k), .second, .val (.long w), .second, .val (.int (15 : Int32)), .val (.long cur), .second, .val (.long w2), .second, .val (.int (Int32.ofNat i)), .val (.int (Int32.ofNat dist)), .val (.int y12), .val (.long y13), .second, .val (.long y15), .second] []))
        have Vu29 := Avf.cong V27 (g := (fun jj => (.long ((upd (upd fj (2 * i) cur) (2 * i + 1) w2) jj)))) (fun t _ => upd_eq (upd fj (2 * i) cur) (2 * i + 1) w2 t)
        refine Go.ret0 X27 hx hlk hret (hb hby d7_197) (by decide) (by decide) ?_
        refine ⟨rfl, f28_217, _, Vu29, Lf_odd (Lf_put hLj hi (by omega) he hcur hCh (Or.inl hz0)), fun x hx => ?_, ?_⟩
        · have a1 := cnt_upd (f := fj) (i := i) (v := cur) hi hx
          have a2 := hcnt x hx
          rw [hz0, one_zero hx] at a1
          rw [pre_odd]; omega
        · rw [pre_odd, len_more hi hz0 hcur, hlen]
    | succ kk ih =>
      intro fj cur w2 i dist x12 x13 x14 x15 x16 hsh hkk hi he hd hLj hqj hCh hcur hcnt hlen Tj hj Xj Zj Kj Ej Fsj Fmj Vj
      have hdp := dp_lt fj i
      rcases hsh with ⟨rfl, rfl, rfl, rfl, rfl⟩ | ⟨y12, rfl, rfl, rfl, rfl, rfl⟩ | ⟨y12, y13, y15, rfl, rfl, rfl, rfl, rfl⟩
      · skip
        refine Go.by (fun _ => XS.aloadN Xj.here hx rfl (hb hby d7_30) rfl rfl) ?_
        obtain ⟨T30, X30, st30⟩ := Xj.getF hx hZ hown (host := "") (Or.inl (tw hw 14 rfl)) Via.refl Fsj (g := (mkF m 31 #[.val (.ref a1), .val (.long k), .second, .val (.long w), .second, .val (.int (15 : Int32)), .val (.long cur), .second, .val (.long w2), .second, .val (.int (Int32.ofNat i)), .val (.int (Int32.ofNat dist)), .unset, .unset, .unset, .unset, .unset] [(.ref a1)])) rfl rfl (hb hby d7_31)
        refine Go.by st30 ?_
        show Go p.tables e below _ (T30.setTop (mkF m 34 #[.val (.ref a1), .val (.long k), .second, .val (.long w), .second, .val (.int (15 : Int32)), .val (.long cur), .second, .val (.long w2), .second, .val (.int (Int32.ofNat i)), .val (.int (Int32.ofNat dist)), .unset, .unset, .unset, .unset, .unset] [(.ref d)]))
        refine Go.by (fun _ => XS.iconst X30.here hx rfl (hb hby d7_34)) ?_
        refine Go.by (fun _ => XS.iload X30.here hx rfl (hb hby d7_35) rfl) ?_
        refine Go.by (fun _ => XS.imul X30.here hx rfl (hb hby d7_37) rfl) ?_
        show Go p.tables e below _ (T30.setTop (mkF m 38 #[.val (.ref a1), .val (.long k), .second, .val (.long w), .second, .val (.int (15 : Int32)), .val (.long cur), .second, .val (.long w2), .second, .val (.int (Int32.ofNat i)), .val (.int (Int32.ofNat dist)), .unset, .unset, .unset, .unset, .unset] [(.int ((2 : Int32) * (Int32.ofNat i))), (.ref d)]))
        refine Go.by (X30.ldJ hx hZ Vj (ix_n hi) (i := 2 * i) (ix_c hi) (ix_l hi) (v := (.long (fj (2 * i)))) rfl (g := (mkF m 38 #[.val (.ref a1), .val (.long k), .second, .val (.long w), .second, .val (.int (15 : Int32)), .val (.long cur), .second, .val (.long w2), .second, .val (.int (Int32.ofNat i)), .val (.int (Int32.ofNat dist)), .unset, .unset, .unset, .unset, .unset] [(.int ((2 : Int32) * (Int32.ofNat i))), (.ref d)])) rfl rfl (hb hby d7_38)) ?_
        show Go p.tables e below _ (T30.setTop (mkF m 39 #[.val (.ref a1), .val (.long k), .second, .val (.long w), .second, .val (.int (15 : Int32)), .val (.long cur), .second, .val (.long w2), .second, .val (.int (Int32.ofNat i)), .val (.int (Int32.ofNat dist)), .unset, .unset, .unset, .unset, .unset] [(.long (fj (2 * i)))]))
        refine Go.by (fun _ => XS.lconst X30.here hx rfl (hb hby d7_39)) ?_
        refine Go.by (fun _ => XS.lcmp X30.here hx rfl (hb hby d7_40) rfl) ?_
        show Go p.tables e below _ (T30.setTop (mkF m 41 #[.val (.ref a1), .val (.long k), .second, .val (.long w), .second, .val (.int (15 : Int32)), .val (.long cur), .second, .val (.long w2), .second, .val (.int (Int32.ofNat i)), .val (.int (Int32.ofNat dist)), .unset, .unset, .unset, .unset, .unset] [(.int (lcmpW (fj (2 * i)) (0 : Int64)))]))
        by_cases hc41_31 : (lcmpW (fj (2 * i)) (0 : Int64)) = (0 : Int32)
        · skip
          refine Go.by (fun _ => XS.ifYes X30.here hx rfl (pc0 := 41) (pc' := 173) rfl (hb hby d7_41) rfl ((if0 _ _).trans (teq hc41_31).1) (by decide) (by decide)) ?_
          show Go p.tables e below _ (T30.setTop (mkF m 173 #[.val (.ref a1), .val (.long k), .second, .val (.long w), .second, .val (.int (15 : Int32)), .val (.long cur), .second, .val (.long w2), .second, .val (.int (Int32.ofNat i)), .val (.int (Int32.ofNat dist)), .unset, .unset, .unset, .unset, .unset] []))
          refine Go.by (fun _ => XS.aloadN X30.here hx rfl (hb hby d7_173) rfl rfl) ?_
          obtain ⟨T32, X32, st32⟩ := X30.getF hx hZ hown (host := "") (Or.inl (tw hw 14 rfl)) Via.refl Fsj (g := (mkF m 174 #[.val (.ref a1), .val (.long k), .second, .val (.long w), .second, .val (.int (15 : Int32)), .val (.long cur), .second, .val (.long w2), .second, .val (.int (Int32.ofNat i)), .val (.int (Int32.ofNat dist)), .unset, .unset, .unset, .unset, .unset] [(.ref a1)])) rfl rfl (hb hby d7_174)
          refine Go.by st32 ?_
          show Go p.tables e below _ (T32.setTop (mkF m 177 #[.val (.ref a1), .val (.long k), .second, .val (.long w), .second, .val (.int (15 : Int32)), .val (.long cur), .second, .val (.long w2), .second, .val (.int (Int32.ofNat i)), .val (.int (Int32.ofNat dist)), .unset, .unset, .unset, .unset, .unset] [(.ref d)]))
          refine Go.by (fun _ => XS.iconst X32.here hx rfl (hb hby d7_177)) ?_
          refine Go.by (fun _ => XS.iload X32.here hx rfl (hb hby d7_178) rfl) ?_
          refine Go.by (fun _ => XS.imul X32.here hx rfl (hb hby d7_180) rfl) ?_
          refine Go.by (fun _ => XS.lload X32.here hx rfl (hb hby d7_181) rfl) ?_
          obtain ⟨T33, h33, X33, W33, V33, st33⟩ := X32.stJ hx hZ Vj g_d (ix_n hi) (i := 2 * i) (ix_c hi) (ix_l hi) (g := (mkF m 183 #[.val (.ref a1), .val (.long k), .second, .val (.long w), .second, .val (.int (15 : Int32)), .val (.long cur), .second, .val (.long w2), .second, .val (.int (Int32.ofNat i)), .val (.int (Int32.ofNat dist)), .unset, .unset, .unset, .unset, .unset] [(.long cur), (.int ((2 : Int32) * (Int32.ofNat i))), (.ref d)])) rfl rfl (hb hby d7_183)
          have f34_260 := Ej.wr W33
          have f34_261 := Fsj.other W33 (Or.inl nad)
          have f34_262 := Fmj.other W33 (Or.inl nad)
          have f34_263 := Kj.wr W33 (Or.inl (List.mem_of_getElem? (i := 0) rfl))
          have Zs34 : n0 ≤ h33.size := by rw [W33.size]; exact Zj
          refine Go.by st33 ?_
          show Go p.tables e below _ (T33.setTop (mkF m 184 #[.val (.ref a1), .val (.long k), .second, .val (.long w), .second, .val (.int (15 : Int32)), .val (.long cur), .second, .val (.long w2), .second, .val (.int (Int32.ofNat i)), .val (.int (Int32.ofNat dist)), .unset, .unset, .unset, .unset, .unset] []))
          have Vu35 := Avf.cong V33 (g := (fun jj => (.long ((upd fj (2 * i) cur) jj)))) (fun t _ => upd_eq fj (2 * i) cur t)
          refine Go.by (fun _ => XS.aloadN X33.here hx rfl (hb hby d7_184) rfl rfl) ?_
          obtain ⟨T36, X36, st36⟩ := X33.getF hx hZ hown (host := "") (Or.inl (tw hw 14 rfl)) Via.refl f34_261 (g := (mkF m 185 #[.val (.ref a1), .val (.long k), .second, .val (.long w), .second, .val (.int (15 : Int32)), .val (.long cur), .second, .val (.long w2), .second, .val (.int (Int32.ofNat i)), .val (.int (Int32.ofNat dist)), .unset, .unset, .unset, .unset, .unset] [(.ref a1)])) rfl rfl (hb hby d7_185)
          refine Go.by st36 ?_
          show Go p.tables e below _ (T36.setTop (mkF m 188 #[.val (.ref a1), .val (.long k), .second, .val (.long w), .second, .val (.int (15 : Int32)), .val (.long cur), .second, .val (.long w2), .second, .val (.int (Int32.ofNat i)), .val (.int (Int32.ofNat dist)), .unset, .unset, .unset, .unset, .unset] [(.ref d)]))
          refine Go.by (fun _ => XS.iconst X36.here hx rfl (hb hby d7_188)) ?_
          refine Go.by (fun _ => XS.iload X36.here hx rfl (hb hby d7_189) rfl) ?_
          refine Go.by (fun _ => XS.imul X36.here hx rfl (hb hby d7_191) rfl) ?_
          show Go p.tables e below _ (T36.setTop (mkF m 192 #[.val (.ref a1), .val (.long k), .second, .val (.long w), .second, .val (.int (15 : Int32)), .val (.long cur), .second, .val (.long w2), .second, .val (.int (Int32.ofNat i)), .val (.int (Int32.ofNat dist)), .unset, .unset, .unset, .unset, .unset] [(.int ((2 : Int32) * (Int32.ofNat i))), (.ref d)]))
          refine Go.by (fun _ => XS.iconst X36.here hx rfl (hb hby d7_192)) ?_
          refine Go.by (fun _ => XS.iadd X36.here hx rfl (hb hby d7_193) rfl) ?_
          refine Go.by (fun _ => XS.lload X36.here hx rfl (hb hby d7_194) rfl) ?_
          obtain ⟨T37, h37, X37, W37, V37, st37⟩ := X36.stJ hx hZ Vu35 g_d (ix1_n hi) (i := 2 * i + 1) (ix1_c hi) (ix1_l hi) (g := (mkF m 196 #[.val (.ref a1), .val (.long k), .second, .val (.long w), .second, .val (.int (15 : Int32)), .val (.long cur), .second, .val (.long w2), .second, .val (.int (Int32.ofNat i)), .val (.int (Int32.ofNat dist)), .unset, .unset, .unset, .unset, .unset] [(.long w2), (.int (((2 : Int32) * (Int32.ofNat i)) + (1 : Int32))), (.ref d)])) rfl rfl (hb hby d7_196)
          have f38_280 := f34_260.wr W37
          have f38_281 := f34_261.other W37 (Or.inl nad)
          have f38_282 := f34_262.other W37 (Or.inl nad)
          have f38_283 := f34_263.wr W37 (Or.inl (List.mem_of_getElem? (i := 0) rfl))
          have Zs38 : n0 ≤ h37.size := by rw [W37.size]; exact Zs34
          refine Go.by st37 ?_
          show Go p.tables e below _ (T37.setTop (mkF m 197 #[.val (.ref a1), .val (.long k), .second, .val (.long w), .second, .val (.int (15 : Int32)), .val (.long cur), .second, .val (.long w2), .second, .val (.int (Int32.ofNat i)), .val (.int (Int32.ofNat dist)), .unset, .unset, .unset, .unset, .unset] []))
          have Vu39 := Avf.cong V37 (g := (fun jj => (.long ((upd (upd fj (2 * i) cur) (2 * i + 1) w2) jj)))) (fun t _ => upd_eq (upd fj (2 * i) cur) (2 * i + 1) w2 t)
          refine Go.ret0 X37 hx hlk hret (hb hby d7_197) (by decide) (by decide) ?_
          refine ⟨rfl, f38_283, _, Vu39, Lf_odd (Lf_put hLj hi (by omega) he hcur hCh (Or.inl ((lw_eq _ _).mp hc41_31))), fun x hx => ?_, ?_⟩
          · have a1 := cnt_upd (f := fj) (i := i) (v := cur) hi hx
            have a2 := hcnt x hx
            rw [((lw_eq _ _).mp hc41_31), one_zero hx] at a1
            rw [pre_odd]; omega
          · rw [pre_odd, len_more hi ((lw_eq _ _).mp hc41_31) hcur, hlen]
        · skip
          refine Go.by (fun _ => XS.ifNo X30.here hx rfl (hb hby d7_41) rfl ((if0 _ _).trans (feq hc41_31).1)) ?_
          show Go p.tables e below _ (T30.setTop (mkF m 44 #[.val (.ref a1), .val (.long k), .second, .val (.long w), .second, .val (.int (15 : Int32)), .val (.long cur), .second, .val (.long w2), .second, .val (.int (Int32.ofNat i)), .val (.int (Int32.ofNat dist)), .unset, .unset, .unset, .unset, .unset] []))
          refine Go.by (fun _ => XS.iload X30.here hx rfl (hb hby d7_44) rfl) ?_
          show Go p.tables e below _ (T30.setTop (mkF m 46 #[.val (.ref a1), .val (.long k), .second, .val (.long w), .second, .val (.int (15 : Int32)), .val (.long cur), .second, .val (.long w2), .second, .val (.int (Int32.ofNat i)), .val (.int (Int32.ofNat dist)), .unset, .unset, .unset, .unset, .unset] [(.int (Int32.ofNat dist))]))
          refine Go.by (fun _ => XS.bipush X30.here hx rfl (hb hby d7_46)) ?_
          refine Go.by (fun _ => XS.icmpYes X30.here hx rfl (pc0 := 48) (pc' := 81) rfl (hb hby d7_48) rfl (flt ((d32 (by omega)))).2.2.2 (by decide) (by decide)) ?_
          show Go p.tables e below _ (T30.setTop (mkF m 81 #[.val (.ref a1), .val (.long k), .second, .val (.long w), .second, .val (.int (15 : Int32)), .val (.long cur), .second, .val (.long w2), .second, .val (.int (Int32.ofNat i)), .val (.int (Int32.ofNat dist)), .unset, .unset, .unset, .unset, .unset] []))
          refine Go.by (fun _ => XS.aloadN X30.here hx rfl (hb hby d7_81) rfl rfl) ?_
          refine Go.by (fun _ => XS.iload X30.here hx rfl (hb hby d7_82) rfl) ?_
          refine Go.by (fun _ => XS.iload X30.here hx rfl (hb hby d7_84) rfl) ?_
          obtain ⟨v40, T40, h40, X40, q40, st40⟩ := X30.callP hx hZ (y := (⟨"com/example/shrike/shrike/store/LongMap", "displacement", "(II)I"⟩ : MethodName)) hown (tw hw 58 rfl) (tw hw 59 rfl) (sel_priv (tw hw 20 rfl) rfl (tw hw 60 rfl) (tw hw 59 rfl) (by decide)) (tw hw 60 rfl) (tw hw 6 rfl) (tw hw 61 rfl) (by decide) (rm13 l Z a0 hw [] a1 d kd fj i hj n0 Zj Ej Fsj Fmj Vj hi) Ej (g := (mkF m 86 #[.val (.ref a1), .val (.long k), .second, .val (.long w), .second, .val (.int (15 : Int32)), .val (.long cur), .second, .val (.long w2), .second, .val (.int (Int32.ofNat i)), .val (.int (Int32.ofNat dist)), .unset, .unset, .unset, .unset, .unset] [(.int (15 : Int32)), (.int (Int32.ofNat i)), (.ref a1)])) rfl (by rw [hml]; rfl) (argsL := [(.int (Int32.ofNat i)), (.int (15 : Int32))]) (rest := []) (lenOf pd1 rfl) rfl (hb hby d7_86) rfl (by decide) (Nat.le_of_ble_eq_true rfl) (k' := 0) (n' := 0) rfl rfl (by decide) (by decide)
          refine Go.by st40 ?_
          obtain ⟨rfl, rfl⟩ := q40
          show Go p.tables e below _ (T40.setTop (mkF m 89 #[.val (.ref a1), .val (.long k), .second, .val (.long w), .second, .val (.int (15 : Int32)), .val (.long cur), .second, .val (.long w2), .second, .val (.int (Int32.ofNat i)), .val (.int (Int32.ofNat dist)), .unset, .unset, .unset, .unset, .unset] [(.int (Int32.ofNat (dp fj i)))]))
          refine Go.by (fun _ => XS.istore X40.here hx rfl (hb hby d7_89) rfl (l' := #[.val (.ref a1), .val (.long k), .second, .val (.long w), .second, .val (.int (15 : Int32)), .val (.long cur), .second, .val (.long w2), .second, .val (.int (Int32.ofNat i)), .val (.int (Int32.ofNat dist)), .val (.int (Int32.ofNat (dp fj i))), .unset, .unset, .unset, .unset]) rfl) ?_
          show Go p.tables e below _ (T40.setTop (mkF m 91 #[.val (.ref a1), .val (.long k), .second, .val (.long w), .second, .val (.int (15 : Int32)), .val (.long cur), .second, .val (.long w2), .second, .val (.int (Int32.ofNat i)), .val (.int (Int32.ofNat dist)), .val (.int (Int32.ofNat (dp fj i))), .unset, .unset, .unset, .unset] []))
          refine Go.by (fun _ => XS.iload X40.here hx rfl (hb hby d7_91) rfl) ?_
          refine Go.by (fun _ => XS.iload X40.here hx rfl (hb hby d7_93) rfl) ?_
          by_cases hc95_41 : (Int32.ofNat (dp fj i)) < (Int32.ofNat dist)
          · skip
            refine Go.by (fun _ => XS.icmpNo X40.here hx rfl (hb hby d7_95) rfl (tlt hc95_41).2.1) ?_
            show Go p.tables e below _ (T40.setTop (mkF m 98 #[.val (.ref a1), .val (.long k), .second, .val (.long w), .second, .val (.int (15 : Int32)), .val (.long cur), .second, .val (.long w2), .second, .val (.int (Int32.ofNat i)), .val (.int (Int32.ofNat dist)), .val (.int (Int32.ofNat (dp fj i))), .unset, .unset, .unset, .unset] []))
            refine Go.by (fun _ => XS.aloadN X40.here hx rfl (hb hby d7_98) rfl rfl) ?_
            obtain ⟨T42, X42, st42⟩ := X40.getF hx hZ hown (host := "") (Or.inl (tw hw 14 rfl)) Via.refl Fsj (g := (mkF m 99 #[.val (.ref a1), .val (.long k), .second, .val (.long w), .second, .val (.int (15 : Int32)), .val (.long cur), .second, .val (.long w2), .second, .val (.int (Int32.ofNat i)), .val (.int (Int32.ofNat dist)), .val (.int (Int32.ofNat (dp fj i))), .unset, .unset, .unset, .unset] [(.ref a1)])) rfl rfl (hb hby d7_99)
            refine Go.by st42 ?_
            show Go p.tables e below _ (T42.setTop (mkF m 102 #[.val (.ref a1), .val (.long k), .second, .val (.long w), .second, .val (.int (15 : Int32)), .val (.long cur), .second, .val (.long w2), .second, .val (.int (Int32.ofNat i)), .val (.int (Int32.ofNat dist)), .val (.int (Int32.ofNat (dp fj i))), .unset, .unset, .unset, .unset] [(.ref d)]))
            refine Go.by (fun _ => XS.iconst X42.here hx rfl (hb hby d7_102)) ?_
            show Go p.tables e below _ (T42.setTop (mkF m 103 #[.val (.ref a1), .val (.long k), .second, .val (.long w), .second, .val (.int (15 : Int32)), .val (.long cur), .second, .val (.long w2), .second, .val (.int (Int32.ofNat i)), .val (.int (Int32.ofNat dist)), .val (.int (Int32.ofNat (dp fj i))), .unset, .unset, .unset, .unset] [(.int (2 : Int32)), (.ref d)]))
            refine Go.by (fun _ => XS.iload X42.here hx rfl (hb hby d7_103) rfl) ?_
            refine Go.by (fun _ => XS.imul X42.here hx rfl (hb hby d7_105) rfl) ?_
            refine Go.by (X42.ldJ hx hZ Vj (ix_n hi) (i := 2 * i) (ix_c hi) (ix_l hi) (v := (.long (fj (2 * i)))) rfl (g := (mkF m 106 #[.val (.ref a1), .val (.long k), .second, .val (.long w), .second, .val (.int (15 : Int32)), .val (.long cur), .second, .val (.long w2), .second, .val (.int (Int32.ofNat i)), .val (.int (Int32.ofNat dist)), .val (.int (Int32.ofNat (dp fj i))), .unset, .unset, .unset, .unset] [(.int ((2 : Int32) * (Int32.ofNat i))), (.ref d)])) rfl rfl (hb hby d7_106)) ?_
            show Go p.tables e below _ (T42.setTop (mkF m 107 #[.val (.ref a1), .val (.long k), .second, .val (.long w), .second, .val (.int (15 : Int32)), .val (.long cur), .second, .val (.long w2), .second, .val (.int (Int32.ofNat i)), .val (.int (Int32.ofNat dist)), .val (.int (Int32.ofNat (dp fj i))), .unset, .unset, .unset, .unset] [(.long (fj (2 * i)))]))
            refine Go.by (fun _ => XS.lstore X42.here hx rfl (hb hby d7_107) rfl (l' := #[.val (.ref a1), .val (.long k), .second, .val (.long w), .second, .val (.int (15 : Int32)), .val (.long cur), .second, .val (.long w2), .second, .val (.int (Int32.ofNat i)), .val (.int (Int32.ofNat dist)), .val (.int (Int32.ofNat (dp fj i))), .val (.long (fj (2 * i))), .second, .unset, .unset]) rfl) ?_
            show Go p.tables e below _ (T42.setTop (mkF m 109 #[.val (.ref a1), .val (.long k), .second, .val (.long w), .second, .val (.int (15 : Int32)), .val (.long cur), .second, .val (.long w2), .second, .val (.int (Int32.ofNat i)), .val (.int (Int32.ofNat dist)), .val (.int (Int32.ofNat (dp fj i))), .val (.long (fj (2 * i))), .second, .unset, .unset] []))
            refine Go.by (fun _ => XS.aloadN X42.here hx rfl (hb hby d7_109) rfl rfl) ?_
            show Go p.tables e below _ (T42.setTop (mkF m 110 #[.val (.ref a1), .val (.long k), .second, .val (.long w), .second, .val (.int (15 : Int32)), .val (.long cur), .second, .val (.long w2), .second, .val (.int (Int32.ofNat i)), .val (.int (Int32.ofNat dist)), .val (.int (Int32.ofNat (dp fj i))), .val (.long (fj (2 * i))), .second, .unset, .unset] [(.ref a1)]))
            obtain ⟨T43, X43, st43⟩ := X42.getF hx hZ hown (host := "") (Or.inl (tw hw 14 rfl)) Via.refl Fsj (g := (mkF m 110 #[.val (.ref a1), .val (.long k), .second, .val (.long w), .second, .val (.int (15 : Int32)), .val (.long cur), .second, .val (.long w2), .second, .val (.int (Int32.ofNat i)), .val (.int (Int32.ofNat dist)), .val (.int (Int32.ofNat (dp fj i))), .val (.long (fj (2 * i))), .second, .unset, .unset] [(.ref a1)])) rfl rfl (hb hby d7_110)
            refine Go.by st43 ?_
            show Go p.tables e below _ (T43.setTop (mkF m 113 #[.val (.ref a1), .val (.long k), .second, .val (.long w), .second, .val (.int (15 : Int32)), .val (.long cur), .second, .val (.long w2), .second, .val (.int (Int32.ofNat i)), .val (.int (Int32.ofNat dist)), .val (.int (Int32.ofNat (dp fj i))), .val (.long (fj (2 * i))), .second, .unset, .unset] [(.ref d)]))
            refine Go.by (fun _ => XS.iconst X43.here hx rfl (hb hby d7_113)) ?_
            refine Go.by (fun _ => XS.iload X43.here hx rfl (hb hby d7_114) rfl) ?_
            refine Go.by (fun _ => XS.imul X43.here hx rfl (hb hby d7_116) rfl) ?_
            refine Go.by (fun _ => XS.iconst X43.here hx rfl (hb hby d7_117)) ?_
            show Go p.tables e below _ (T43.setTop (mkF m 118 #[.val (.ref a1), .val (.long k), .second, .val (.long w), .second, .val (.int (15 : Int32)), .val (.long cur), .second, .val (.long w2), .second, .val (.int (Int32.ofNat i)), .val (.int (Int32.ofNat dist)), .val (.int (Int32.ofNat (dp fj i))), .val (.long (fj (2 * i))), .second, .unset, .unset] [(.int (1 : Int32)), (.int ((2 : Int32) * (Int32.ofNat i))), (.ref d)]))
            refine Go.by (fun _ => XS.iadd X43.here hx rfl (hb hby d7_118) rfl) ?_
            refine Go.by (X43.ldJ hx hZ Vj (ix1_n hi) (i := 2 * i + 1) (ix1_c hi) (ix1_l hi) (v := (.long (fj (2 * i + 1)))) rfl (g := (mkF m 119 #[.val (.ref a1), .val (.long k), .second, .val (.long w), .second, .val (.int (15 : Int32)), .val (.long cur), .second, .val (.long w2), .second, .val (.int (Int32.ofNat i)), .val (.int (Int32.ofNat dist)), .val (.int (Int32.ofNat (dp fj i))), .val (.long (fj (2 * i))), .second, .unset, .unset] [(.int (((2 : Int32) * (Int32.ofNat i)) + (1 : Int32))), (.ref d)])) rfl rfl (hb hby d7_119)) ?_
            show Go p.tables e below _ (T43.setTop (mkF m 120 #[.val (.ref a1), .val (.long k), .second, .val (.long w), .second, .val (.int (15 : Int32)), .val (.long cur), .second, .val (.long w2), .second, .val (.int (Int32.ofNat i)), .val (.int (Int32.ofNat dist)), .val (.int (Int32.ofNat (dp fj i))), .val (.long (fj (2 * i))), .second, .unset, .unset] [(.long (fj (2 * i + 1)))]))
            refine Go.by (fun _ => XS.lstore X43.here hx rfl (hb hby d7_120) rfl (l' := #[.val (.ref a1), .val (.long k), .second, .val (.long w), .second, .val (.int (15 : Int32)), .val (.long cur), .second, .val (.long w2), .second, .val (.int (Int32.ofNat i)), .val (.int (Int32.ofNat dist)), .val (.int (Int32.ofNat (dp fj i))), .val (.long (fj (2 * i))), .second, .val (.long (fj (2 * i + 1))), .second]) rfl) ?_
            show Go p.tables e below _ (T43.setTop (mkF m 122 #[.val (.ref a1), .val (.long k), .second, .val (.long w), .second, .val (.int (15 : Int32)), .val (.long cur), .second, .val (.long w2), .second, .val (.int (Int32.ofNat i)), .val (.int (Int32.ofNat dist)), .val (.int (Int32.ofNat (dp fj i))), .val (.long (fj (2 * i))), .second, .val (.long (fj (2 * i + 1))), .second] []))
            refine Go.by (fun _ => XS.aloadN X43.here hx rfl (hb hby d7_122) rfl rfl) ?_
            obtain ⟨T44, X44, st44⟩ := X43.getF hx hZ hown (host := "") (Or.inl (tw hw 14 rfl)) Via.refl Fsj (g := (mkF m 123 #[.val (.ref a1), .val (.long k), .second, .val (.long w), .second, .val (.int (15 : Int32)), .val (.long cur), .second, .val (.long w2), .second, .val (.int (Int32.ofNat i)), .val (.int (Int32.ofNat dist)), .val (.int (Int32.ofNat (dp fj i))), .val (.long (fj (2 * i))), .second, .val (.long (fj (2 * i + 1))), .second] [(.ref a1)])) rfl rfl (hb hby d7_123)
            refine Go.by st44 ?_
            show Go p.tables e below _ (T44.setTop (mkF m 126 #[.val (.ref a1), .val (.long k), .second, .val (.long w), .second, .val (.int (15 : Int32)), .val (.long cur), .second, .val (.long w2), .second, .val (.int (Int32.ofNat i)), .val (.int (Int32.ofNat dist)), .val (.int (Int32.ofNat (dp fj i))), .val (.long (fj (2 * i))), .second, .val (.long (fj (2 * i + 1))), .second] [(.ref d)]))
            refine Go.by (fun _ => XS.iconst X44.here hx rfl (hb hby d7_126)) ?_
            refine Go.by (fun _ => XS.iload X44.here hx rfl (hb hby d7_127) rfl) ?_
            refine Go.by (fun _ => XS.imul X44.here hx rfl (hb hby d7_129) rfl) ?_
            refine Go.by (fun _ => XS.lload X44.here hx rfl (hb hby d7_130) rfl) ?_
            obtain ⟨T45, h45, X45, W45, V45, st45⟩ := X44.stJ hx hZ Vj g_d (ix_n hi) (i := 2 * i) (ix_c hi) (ix_l hi) (g := (mkF m 132 #[.val (.ref a1), .val (.long k), .second, .val (.long w), .second, .val (.int (15 : Int32)), .val (.long cur), .second, .val (.long w2), .second, .val (.int (Int32.ofNat i)), .val (.int (Int32.ofNat dist)), .val (.int (Int32.ofNat (dp fj i))), .val (.long (fj (2 * i))), .second, .val (.long (fj (2 * i + 1))), .second] [(.long cur), (.int ((2 : Int32) * (Int32.ofNat i))), (.ref d)])) rfl rfl (hb hby d7_132)
            have f46_354 := Ej.wr W45
            have f46_355 := Fsj.other W45 (Or.inl nad)
            have f46_356 := Fmj.other W45 (Or.inl nad)
            have f46_357 := Kj.wr W45 (Or.inl (List.mem_of_getElem? (i := 0) rfl))
            have Zs46 : n0 ≤ h45.size := by rw [W45.size]; exact Zj
            refine Go.by st45 ?_
            show Go p.tables e below _ (T45.setTop (mkF m 133 #[.val (.ref a1), .val (.long k), .second, .val (.long w), .second, .val (.int (15 : Int32)), .val (.long cur), .second, .val (.long w2), .second, .val (.int (Int32.ofNat i)), .val (.int (Int32.ofNat dist)), .val (.int (Int32.ofNat (dp fj i))), .val (.long (fj (2 * i))), .second, .val (.long (fj (2 * i + 1))), .second] []))
            have Vu47 := Avf.cong V45 (g := (fun jj => (.long ((upd fj (2 * i) cur) jj)))) (fun t _ => upd_eq fj (2 * i) cur t)
            refine Go.by (fun _ => XS.aloadN X45.here hx rfl (hb hby d7_133) rfl rfl) ?_
            obtain ⟨T48, X48, st48⟩ := X45.getF hx hZ hown (host := "") (Or.inl (tw hw 14 rfl)) Via.refl f46_355 (g := (mkF m 134 #[.val (.ref a1), .val (.long k), .second, .val (.long w), .second, .val (.int (15 : Int32)), .val (.long cur), .second, .val (.long w2), .second, .val (.int (Int32.ofNat i)), .val (.int (Int32.ofNat dist)), .val (.int (Int32.ofNat (dp fj i))), .val (.long (fj (2 * i))), .second, .val (.long (fj (2 * i + 1))), .second] [(.ref a1)])) rfl rfl (hb hby d7_134)
            refine Go.by st48 ?_
            show Go p.tables e below _ (T48.setTop (mkF m 137 #[.val (.ref a1), .val (.long k), .second, .val (.long w), .second, .val (.int (15 : Int32)), .val (.long cur), .second, .val (.long w2), .second, .val (.int (Int32.ofNat i)), .val (.int (Int32.ofNat dist)), .val (.int (Int32.ofNat (dp fj i))), .val (.long (fj (2 * i))), .second, .val (.long (fj (2 * i + 1))), .second] [(.ref d)]))
            refine Go.by (fun _ => XS.iconst X48.here hx rfl (hb hby d7_137)) ?_
            refine Go.by (fun _ => XS.iload X48.here hx rfl (hb hby d7_138) rfl) ?_
            refine Go.by (fun _ => XS.imul X48.here hx rfl (hb hby d7_140) rfl) ?_
            show Go p.tables e below _ (T48.setTop (mkF m 141 #[.val (.ref a1), .val (.long k), .second, .val (.long w), .second, .val (.int (15 : Int32)), .val (.long cur), .second, .val (.long w2), .second, .val (.int (Int32.ofNat i)), .val (.int (Int32.ofNat dist)), .val (.int (Int32.ofNat (dp fj i))), .val (.long (fj (2 * i))), .second, .val (.long (fj (2 * i + 1))), .second] [(.int ((2 : Int32) * (Int32.ofNat i))), (.ref d)]))
            refine Go.by (fun _ => XS.iconst X48.here hx rfl (hb hby d7_141)) ?_
            refine Go.by (fun _ => XS.iadd X48.here hx rfl (hb hby d7_142) rfl) ?_
            refine Go.by (fun _ => XS.lload X48.here hx rfl (hb hby d7_143) rfl) ?_
            obtain ⟨T49, h49, X49, W49, V49, st49⟩ := X48.stJ hx hZ Vu47 g_d (ix1_n hi) (i := 2 * i + 1) (ix1_c hi) (ix1_l hi) (g := (mkF m 145 #[.val (.ref a1), .val (.long k), .second, .val (.long w), .second, .val (.int (15 : Int32)), .val (.long cur), .second, .val (.long w2), .second, .val (.int (Int32.ofNat i)), .val (.int (Int32.ofNat dist)), .val (.int (Int32.ofNat (dp fj i))), .val (.long (fj (2 * i))), .second, .val (.long (fj (2 * i + 1))), .second] [(.long w2), (.int (((2 : Int32) * (Int32.ofNat i)) + (1 : Int32))), (.ref d)])) rfl rfl (hb hby d7_145)
            have f50_374 := f46_354.wr W49
            have f50_375 := f46_355.other W49 (Or.inl nad)
            have f50_376 := f46_356.other W49 (Or.inl nad)
            have f50_377 := f46_357.wr W49 (Or.inl (List.mem_of_getElem? (i := 0) rfl))
            have Zs50 : n0 ≤ h49.size := by rw [W49.size]; exact Zs46
            refine Go.by st49 ?_
            show Go p.tables e below _ (T49.setTop (mkF m 146 #[.val (.ref a1), .val (.long k), .second, .val (.long w), .second, .val (.int (15 : Int32)), .val (.long cur), .second, .val (.long w2), .second, .val (.int (Int32.ofNat i)), .val (.int (Int32.ofNat dist)), .val (.int (Int32.ofNat (dp fj i))), .val (.long (fj (2 * i))), .second, .val (.long (fj (2 * i + 1))), .second] []))
            have Vu51 := Avf.cong V49 (g := (fun jj => (.long ((upd (upd fj (2 * i) cur) (2 * i + 1) w2) jj)))) (fun t _ => upd_eq (upd fj (2 * i) cur) (2 * i + 1) w2 t)
            refine Go.by (fun _ => XS.lload X49.here hx rfl (hb hby d7_146) rfl) ?_
            show Go p.tables e below _ (T49.setTop (mkF m 148 #[.val (.ref a1), .val (.long k), .second, .val (.long w), .second, .val (.int (15 : Int32)), .val (.long cur), .second, .val (.long w2), .second, .val (.int (Int32.ofNat i)), .val (.int (Int32.ofNat dist)), .val (.int (Int32.ofNat (dp fj i))), .val (.long (fj (2 * i))), .second, .val (.long (fj (2 * i + 1))), .second] [(.long (fj (2 * i)))]))
            refine Go.by (fun _ => XS.lstore X49.here hx rfl (hb hby d7_148) rfl (l' := #[.val (.ref a1), .val (.long k), .second, .val (.long w), .second, .val (.int (15 : Int32)), .val (.long (fj (2 * i))), .second, .val (.long w2), .second, .val (.int (Int32.ofNat i)), .val (.int (Int32.ofNat dist)), .val (.int (Int32.ofNat (dp fj i))), .val (.long (fj (2 * i))), .second, .val (.long (fj (2 * i + 1))), .second]) rfl) ?_
            show Go p.tables e below _ (T49.setTop (mkF m 150 #[.val (.ref a1), .val (.long k), .second, .val (.long w), .second, .val (.int (15 : Int32)), .val (.long (fj (2 * i))), .second, .val (.long w2), .second, .val (.int (Int32.ofNat i)), .val (.int (Int32.ofNat dist)), .val (.int (Int32.ofNat (dp fj i))), .val (.long (fj (2 * i))), .second, .val (.long (fj (2 * i + 1))), .second] []))
            refine Go.by (fun _ => XS.lload X49.here hx rfl (hb hby d7_150) rfl) ?_
            refine Go.by (fun _ => XS.lstore X49.here hx rfl (hb hby d7_152) rfl (l' := #[.val (.ref a1), .val (.long k), .second, .val (.long w), .second, .val (.int (15 : Int32)), .val (.long (fj (2 * i))), .second, .val (.long (fj (2 * i + 1))), .second, .val (.int (Int32.ofNat i)), .val (.int (Int32.ofNat dist)), .val (.int (Int32.ofNat (dp fj i))), .val (.long (fj (2 * i))), .second, .val (.long (fj (2 * i + 1))), .second]) rfl) ?_
            show Go p.tables e below _ (T49.setTop (mkF m 154 #[.val (.ref a1), .val (.long k), .second, .val (.long w), .second, .val (.int (15 : Int32)), .val (.long (fj (2 * i))), .second, .val (.long (fj (2 * i + 1))), .second, .val (.int (Int32.ofNat i)), .val (.int (Int32.ofNat dist)), .val (.int (Int32.ofNat (dp fj i))), .val (.long (fj (2 * i))), .second, .val (.long (fj (2 * i + 1))), .second] []))
            refine Go.by (fun _ => XS.iload X49.here hx rfl (hb hby d7_154) rfl) ?_
            refine Go.by (fun _ => XS.istore X49.here hx rfl (hb hby d7_156) rfl (l' := #[.val (.ref a1), .val (.long k), .second, .val (.long w), .second, .val (.int (15 : Int32)), .val (.long (fj (2 * i))), .second, .val (.long (fj (2 * i + 1))), .second, .val (.int (Int32.ofNat i)), .val (.int (Int32.ofNat (dp fj i))), .val (.int (Int32.ofNat (dp fj i))), .val (.long (fj (2 * i))), .second, .val (.long (fj (2 * i + 1))), .second]) rfl) ?_
            show Go p.tables e below _ (T49.setTop (mkF m 158 #[.val (.ref a1), .val (.long k), .second, .val (.long w), .second, .val (.int (15 : Int32)), .val (.long (fj (2 * i))), .second, .val (.long (fj (2 * i + 1))), .second, .val (.int (Int32.ofNat i)), .val (.int (Int32.ofNat (dp fj i))), .val (.int (Int32.ofNat (dp fj i))), .val (.long (fj (2 * i))), .second, .val (.long (fj (2 * i + 1))), .second] []))
            refine Go.by (fun _ => XS.iload X49.here hx rfl (hb hby d7_158) rfl) ?_
            refine Go.by (fun _ => XS.iconst X49.here hx rfl (hb hby d7_160)) ?_
            refine Go.by (fun _ => XS.iadd X49.here hx rfl (hb hby d7_161) rfl) ?_
            refine Go.by (fun _ => XS.iload X49.here hx rfl (hb hby d7_162) rfl) ?_
            refine Go.by (fun _ => XS.iand X49.here hx rfl (hb hby d7_164) rfl) ?_
            show Go p.tables e below _ (T49.setTop (mkF m 165 #[.val (.ref a1), .val (.long k), .second, .val (.long w), .second, .val (.int (15 : Int32)), .val (.long (fj (2 * i))), .second, .val (.long (fj (2 * i + 1))), .second, .val (.int (Int32.ofNat i)), .val (.int (Int32.ofNat (dp fj i))), .val (.int (Int32.ofNat (dp fj i))), .val (.long (fj (2 * i))), .second, .val (.long (fj (2 * i + 1))), .second] [(.int (((Int32.ofNat i) + (1 : Int32)) &&& (15 : Int32)))]))
            refine Go.by (fun _ => XS.istore X49.here hx rfl (hb hby d7_165) rfl (l' := #[.val (.ref a1), .val (.long k), .second, .val (.long w), .second, .val (.int (15 : Int32)), .val (.long (fj (2 * i))), .second, .val (.long (fj (2 * i + 1))), .second, .val (.int (((Int32.ofNat i) + (1 : Int32)) &&& (15 : Int32))), .val (.int (Int32.ofNat (dp fj i))), .val (.int (Int32.ofNat (dp fj i))), .val (.long (fj (2 * i))), .second, .val (.long (fj (2 * i + 1))), .second]) rfl) ?_
            show Go p.tables e below _ (T49.setTop (mkF m 167 #[.val (.ref a1), .val (.long k), .second, .val (.long w), .second, .val (.int (15 : Int32)), .val (.long (fj (2 * i))), .second, .val (.long (fj (2 * i + 1))), .second, .val (.int (((Int32.ofNat i) + (1 : Int32)) &&& (15 : Int32))), .val (.int (Int32.ofNat (dp fj i))), .val (.int (Int32.ofNat (dp fj i))), .val (.long (fj (2 * i))), .second, .val (.long (fj (2 * i + 1))), .second] []))
            refine Go.by (fun _ => XS.iinc X49.here hx rfl (hb hby d7_167) rfl (l' := #[.val (.ref a1), .val (.long k), .second, .val (.long w), .second, .val (.int (15 : Int32)), .val (.long (fj (2 * i))), .second, .val (.long (fj (2 * i + 1))), .second, .val (.int (((Int32.ofNat i) + (1 : Int32)) &&& (15 : Int32))), .val (.int ((Int32.ofNat (dp fj i)) + (1 : Int32))), .val (.int (Int32.ofNat (dp fj i))), .val (.long (fj (2 * i))), .second, .val (.long (fj (2 * i + 1))), .second]) rfl) ?_
            show Go p.tables e below _ (T49.setTop (mkF m 170 #[.val (.ref a1), .val (.long k), .second, .val (.long w), .second, .val (.int (15 : Int32)), .val (.long (fj (2 * i))), .second, .val (.long (fj (2 * i + 1))), .second, .val (.int (((Int32.ofNat i) + (1 : Int32)) &&& (15 : Int32))), .val (.int ((Int32.ofNat (dp fj i)) + (1 : Int32))), .val (.int (Int32.ofNat (dp fj i))), .val (.long (fj (2 * i))), .second, .val (.long (fj (2 * i + 1))), .second] []))
            refine Go.by (fun _ => XS.goto X49.here hx rfl (pc0 := 170) (pc' := 30) rfl (hb hby d7_170) (by decide) (by decide)) ?_
            show Go p.tables e below _ (T49.setTop (mkF m 30 #[.val (.ref a1), .val (.long k), .second, .val (.long w), .second, .val (.int (15 : Int32)), .val (.long (fj (2 * i))), .second, .val (.long (fj (2 * i + 1))), .second, .val (.int (((Int32.ofNat i) + (1 : Int32)) &&& (15 : Int32))), .val (.int ((Int32.ofNat (dp fj i)) + (1 : Int32))), .val (.int (Int32.ofNat (dp fj i))), .val (.long (fj (2 * i))), .second, .val (.long (fj (2 * i + 1))), .second] []))
            rw [nxI hi, i32_succ]
            have hne : fj (2 * i) ≠ 0 := (fun z => hc41_31 ((lw_eq _ _).mpr z))
            have hlt : dp fj i < dist := (lt32 (by omega) (by omega)).mp hc95_41
            have hqi : q ≠ i := fun z => hne (by rw [← z]; exact hqj)
            refine ih (upd (upd fj (2 * i) cur) (2 * i + 1) w2) (fj (2 * i)) _ ((i + 1) % 16) (dp fj i + 1) _ _ _ _ _ (Or.inr (Or.inr ⟨_, _, _, rfl, rfl, rfl, rfl, rfl⟩)) (by omega) (by omega) (he_swap fj hi) (by omega) (Lf_odd (Lf_put hLj hi (by omega) he hcur hCh (Or.inr hlt))) ?_ (Ch_odd (Ch_swap hi (by omega) he hcur hlt)) hne (fun x hx => ?_) ?_ _ _ X49 Zs50 f50_377 f50_374 f50_375 f50_376 Vu51
            · rw [upd_odd, upd_even, if_neg hqi]; exact hqj
            · have a1 := cnt_upd (f := fj) (i := i) (v := cur) hi hx
              have a2 := hcnt x hx
              rw [pre_odd]; omega
            · rw [pre_odd, len_same hi hne hcur]; exact hlen
          · skip
            refine Go.by (fun _ => XS.icmpYes X40.here hx rfl (pc0 := 95) (pc' := 158) rfl (hb hby d7_95) rfl (flt hc95_41).2.1 (by decide) (by decide)) ?_
            show Go p.tables e below _ (T40.setTop (mkF m 158 #[.val (.ref a1), .val (.long k), .second, .val (.long w), .second, .val (.int (15 : Int32)), .val (.long cur), .second, .val (.long w2), .second, .val (.int (Int32.ofNat i)), .val (.int (Int32.ofNat dist)), .val (.int (Int32.ofNat (dp fj i))), .unset, .unset, .unset, .unset] []))
            refine Go.by (fun _ => XS.iload X40.here hx rfl (hb hby d7_158) rfl) ?_
            refine Go.by (fun _ => XS.iconst X40.here hx rfl (hb hby d7_160)) ?_
            refine Go.by (fun _ => XS.iadd X40.here hx rfl (hb hby d7_161) rfl) ?_
            show Go p.tables e below _ (T40.setTop (mkF m 162 #[.val (.ref a1), .val (.long k), .second, .val (.long w), .second, .val (.int (15 : Int32)), .val (.long cur), .second, .val (.long w2), .second, .val (.int (Int32.ofNat i)), .val (.int (Int32.ofNat dist)), .val (.int (Int32.ofNat (dp fj i))), .unset, .unset, .unset, .unset] [(.int ((Int32.ofNat i) + (1 : Int32)))]))
            refine Go.by (fun _ => XS.iload X40.here hx rfl (hb hby d7_162) rfl) ?_
            refine Go.by (fun _ => XS.iand X40.here hx rfl (hb hby d7_164) rfl) ?_
            refine Go.by (fun _ => XS.istore X40.here hx rfl (hb hby d7_165) rfl (l' := #[.val (.ref a1), .val (.long k), .second, .val (.long w), .second, .val (.int (15 : Int32)), .val (.long cur), .second, .val (.long w2), .second, .val (.int (((Int32.ofNat i) + (1 : Int32)) &&& (15 : Int32))), .val (.int (Int32.ofNat dist)), .val (.int (Int32.ofNat (dp fj i))), .unset, .unset, .unset, .unset]) rfl) ?_
            show Go p.tables e below _ (T40.setTop (mkF m 167 #[.val (.ref a1), .val (.long k), .second, .val (.long w), .second, .val (.int (15 : Int32)), .val (.long cur), .second, .val (.long w2), .second, .val (.int (((Int32.ofNat i) + (1 : Int32)) &&& (15 : Int32))), .val (.int (Int32.ofNat dist)), .val (.int (Int32.ofNat (dp fj i))), .unset, .unset, .unset, .unset] []))
            refine Go.by (fun _ => XS.iinc X40.here hx rfl (hb hby d7_167) rfl (l' := #[.val (.ref a1), .val (.long k), .second, .val (.long w), .second, .val (.int (15 : Int32)), .val (.long cur), .second, .val (.long w2), .second, .val (.int (((Int32.ofNat i) + (1 : Int32)) &&& (15 : Int32))), .val (.int ((Int32.ofNat dist) + (1 : Int32))), .val (.int (Int32.ofNat (dp fj i))), .unset, .unset, .unset, .unset]) rfl) ?_
            show Go p.tables e below _ (T40.setTop (mkF m 170 #[.val (.ref a1), .val (.long k), .second, .val (.long w), .second, .val (.int (15 : Int32)), .val (.long cur), .second, .val (.long w2), .second, .val (.int (((Int32.ofNat i) + (1 : Int32)) &&& (15 : Int32))), .val (.int ((Int32.ofNat dist) + (1 : Int32))), .val (.int (Int32.ofNat (dp fj i))), .unset, .unset, .unset, .unset] []))
            refine Go.by (fun _ => XS.goto X40.here hx rfl (pc0 := 170) (pc' := 30) rfl (hb hby d7_170) (by decide) (by decide)) ?_
            show Go p.tables e below _ (T40.setTop (mkF m 30 #[.val (.ref a1), .val (.long k), .second, .val (.long w), .second, .val (.int (15 : Int32)), .val (.long cur), .second, .val (.long w2), .second, .val (.int (((Int32.ofNat i) + (1 : Int32)) &&& (15 : Int32))), .val (.int ((Int32.ofNat dist) + (1 : Int32))), .val (.int (Int32.ofNat (dp fj i))), .unset, .unset, .unset, .unset] []))
            rw [nxI hi, i32_succ]
            have hne : fj (2 * i) ≠ 0 := (fun z => hc41_31 ((lw_eq _ _).mpr z))
            have hge : dist ≤ dp fj i := Nat.le_of_not_lt (fun z => hc95_41 ((lt32 (by omega) (by omega)).mpr z))
            exact ih fj cur w2 ((i + 1) % 16) (dist + 1) _ _ _ _ _ (Or.inr (Or.inl ⟨_, rfl, rfl, rfl, rfl, rfl⟩)) (by omega) (by omega) (he_next he) (by omega) hLj hqj (Ch_next hi hne hge) hcur hcnt hlen _ _ X40 Zj Kj Ej Fsj Fmj Vj
      · skip
        refine Go.by (fun _ => XS.aloadN Xj.here hx rfl (hb hby d7_30) rfl rfl) ?_
        show Go p.tables e below _ (Tj.setTop (mkF m 31 #[.val (.ref a1), .val (.long k), .second, .val (.long w), .second, .val (.int (15 : Int32)), .val (.long cur), .second, .val (.long w2), .second, .val (.int (Int32.ofNat i)), .val (.int (Int32.ofNat dist)), .val (.int y12), .unset, .unset, .unset, .unset] [(.ref a1)]))
        obtain ⟨T52, X52, st52⟩ := Xj.getF hx hZ hown (host := "") (Or.inl (tw hw 14 rfl)) Via.refl Fsj (g := (mkF m 31 #[.val (.ref a1), .val (.long k), .second, .val (.long w), .second, .val (.int (15 : Int32)), .val (.long cur), .second, .val (.long w2), .second, .val (.int (Int32.ofNat i)), .val (.int (Int32.ofNat dist)), .val (.int y12), .unset, .unset, .unset, .unset] [(.ref a1)])) rfl rfl (hb hby d7_31)
        refine Go.by st52 ?_
        show Go p.tables e below _ (T52.setTop (mkF m 34 #[.val (.ref a1), .val (.long k), .second, .val (.long w), .second, .val (.int (15 : Int32)), .val (.long cur), .second, .val (.long w2), .second, .val (.int (Int32.ofNat i)), .val (.int (Int32.ofNat dist)), .val (.int y12), .unset, .unset, .unset, .unset] [(.ref d)]))
        refine Go.by (fun _ => XS.iconst X52.here hx rfl (hb hby d7_34)) ?_
        refine Go.by (fun _ => XS.iload X52.here hx rfl (hb hby d7_35) rfl) ?_
        refine Go.by (fun _ => XS.imul X52.here hx rfl (hb hby d7_37) rfl) ?_
        refine Go.by (X52.ldJ hx hZ Vj (ix_n hi) (i := 2 * i) (ix_c hi) (ix_l hi) (v := (.long (fj (2 * i)))) rfl (g := (mkF m 38 #[.val (.ref a1), .val (.long k), .second, .val (.long w), .second, .val (.int (15 : Int32)), .val (.long cur), .second, .val (.long w2), .second, .val (.int (Int32.ofNat i)), .val (.int (Int32.ofNat dist)), .val (.int y12), .unset, .unset, .unset, .unset] [(.int ((2 : Int32) * (Int32.ofNat i))), (.ref d)])) rfl rfl (hb hby d7_38)) ?_
        show Go p.tables e below _ (T52.setTop (mkF m 39 #[.val (.ref a1), .val (.long k), .second, .val (.long w), .second, .val (.int (15 : Int32)), .val (.long cur), .second, .val (.long w2), .second, .val (.int (Int32.ofNat i)), .val (.int (Int32.ofNat dist)), .val (.int y12), .unset, .unset, .unset, .unset] [(.long (fj (2 * i)))]))
        refine Go.by (fun _ => XS.lconst X52.here hx rfl (hb hby d7_39)) ?_
        refine Go.by (fun _ => XS.lcmp X52.here hx rfl (hb hby d7_40) rfl) ?_
        show Go p.tables e below _ (T52.setTop (mkF m 41 #[.val (.ref a1), .val (.long k), .second, .val (.long w), .second, .val (.int (15 : Int32)), .val (.long cur), .second, .val (.long w2), .second, .val (.int (Int32.ofNat i)), .val (.int (Int32.ofNat dist)), .val (.int y12), .unset, .unset, .unset, .unset] [(.int (lcmpW (fj (2 * i)) (0 : Int64)))]))
        by_cases hc41_53 : (lcmpW (fj (2 * i)) (0 : Int64)) = (0 : Int32)
        · skip
          refine Go.by (fun _ => XS.ifYes X52.here hx rfl (pc0 := 41) (pc' := 173) rfl (hb hby d7_41) rfl ((if0 _ _).trans (teq hc41_53).1) (by decide) (by decide)) ?_
          show Go p.tables e below _ (T52.setTop (mkF m 173 #[.val (.ref a1), .val (.long k), .second, .val (.long w), .second, .val (.int (15 : Int32)), .val (.long cur), .second, .val (.long w2), .second, .val (.int (Int32.ofNat i)), .val (.int (Int32.ofNat dist)), .val (.int y12), .unset, .unset, .unset, .unset] []))
          refine Go.by (fun _ => XS.aloadN X52.here hx rfl (hb hby d7_173) rfl rfl) ?_
          obtain ⟨T54, X54, st54⟩ := X52.getF hx hZ hown (host := "") (Or.inl (tw hw 14 rfl)) Via.refl Fsj (g := (mkF m 174 #[.val (.ref a1), .val (.long k), .second, .val (.long w), .second, .val (.int (15 : Int32)), .val (.long cur), .second, .val (.long w2), .second, .val (.int (Int32.ofNat i)), .val (.int (Int32.ofNat dist)), .val (.int y12), .unset, .unset, .unset, .unset] [(.ref a1)])) rfl rfl (hb hby d7_174)
          refine Go.by st54 ?_
          show Go p.tables e below _ (T54.setTop (mkF m 177 #[.val (.ref a1), .val (.long k), .second, .val (.long w), .second, .val (.int (15 : Int32)), .val (.long cur), .second, .val (.long w2), .second, .val (.int (Int32.ofNat i)), .val (.int (Int32.ofNat dist)), .val (.int y12), .unset, .unset, .unset, .unset] [(.ref d)]))
          refine Go.by (fun _ => XS.iconst X54.here hx rfl (hb hby d7_177)) ?_
          show Go p.tables e below _ (T54.setTop (mkF m 178 #[.val (.ref a1), .val (.long k), .second, .val (.long w), .second, .val (.int (15 : Int32)), .val (.long cur), .second, .val (.long w2), .second, .val (.int (Int32.ofNat i)), .val (.int (Int32.ofNat dist)), .val (.int y12), .unset, .unset, .unset, .unset] [(.int (2 : Int32)), (.ref d)]))
          refine Go.by (fun _ => XS.iload X54.here hx rfl (hb hby d7_178) rfl) ?_
          refine Go.by (fun _ => XS.imul X54.here hx rfl (hb hby d7_180) rfl) ?_
          refine Go.by (fun _ => XS.lload X54.here hx rfl (hb hby d7_181) rfl) ?_
          obtain ⟨T55, h55, X55, W55, V55, st55⟩ := X54.stJ hx hZ Vj g_d (ix_n hi) (i := 2 * i) (ix_c hi) (ix_l hi) (g := (mkF m 183 #[.val (.ref a1), .val (.long k), .second, .val (.long w), .second, .val (.int (15 : Int32)), .val (.long cur), .second, .val (.long w2), .second, .val (.int (Int32.ofNat i)), .val (.int (Int32.ofNat dist)), .val (.int y12), .unset, .unset, .unset, .unset] [(.long cur), (.int ((2 : Int32) * (Int32.ofNat i))), (.ref d)])) rfl rfl (hb hby d7_183)
          have f56_461 := Ej.wr W55
          have f56_462 := Fsj.other W55 (Or.inl nad)
          have f56_463 := Fmj.other W55 (Or.inl nad)
          have f56_464 := Kj.wr W55 (Or.inl (List.mem_of_getElem? (i := 0) rfl))
          have Zs56 : n0 ≤ h55.size := by rw [W55.size]; exact Zj
          refine Go.by st55 ?_
          show Go p.tables e below _ (T55.setTop (mkF m 184 #[.val (.ref a1), .val (.long k), .second, .val (.long w), .second, .val (.int (15 : Int32)), .val (.long cur), .second, .val (.long w2), .second, .val (.int (Int32.ofNat i)), .val (.int (Int32.ofNat dist)), .val (.int y12), .unset, .unset, .unset, .unset] []))
          have Vu57 := Avf.cong V55 (g := (fun jj => (.long ((upd fj (2 * i) cur) jj)))) (fun t _ => upd_eq fj (2 * i) cur t)
          refine Go.by (fun _ => XS.aloadN X55.here hx rfl (hb hby d7_184) rfl rfl) ?_
          show Go p.tables e below _ (T55.setTop (mkF m 185 #[.val (.ref a1), .val (.long k), .second, .val (.long w), .second, .val (.int (15 : Int32)), .val (.long cur), .second, .val (.long w2), .second, .val (.int (Int32.ofNat i)), .val (.int (Int32.ofNat dist)), .val (.int y12), .unset, .unset, .unset, .unset] [(.ref a1)]))
          obtain ⟨T58, X58, st58⟩ := X55.getF hx hZ hown (host := "") (Or.inl (tw hw 14 rfl)) Via.refl f56_462 (g := (mkF m 185 #[.val (.ref a1), .val (.long k), .second, .val (.long w), .second, .val (.int (15 : Int32)), .val (.long cur), .second, .val (.long w2), .second, .val (.int (Int32.ofNat i)), .val (.int (Int32.ofNat dist)), .val (.int y12), .unset, .unset, .unset, .unset] [(.ref a1)])) rfl rfl (hb hby d7_185)
          refine Go.by st58 ?_
          show Go p.tables e below _ (T58.setTop (mkF m 188 #[.val (.ref a1), .val (.long k), .second, .val (.long w), .second, .val (.int (15 : Int32)), .val (.long cur), .second, .val (.long w2), .second, .val (.int (Int32.ofNat i)), .val (.int (Int32.ofNat dist)), .val (.int y12), .unset, .unset, .unset, .unset] [(.ref d)]))
          refine Go.by (fun _ => XS.iconst X58.here hx rfl (hb hby d7_188)) ?_
          refine Go.by (fun _ => XS.iload X58.here hx rfl (hb hby d7_189) rfl) ?_
          refine Go.by (fun _ => XS.imul X58.here hx rfl (hb hby d7_191) rfl) ?_
          refine Go.by (fun _ => XS.iconst X58.here hx rfl (hb hby d7_192)) ?_
          show Go p.tables e below _ (T58.setTop (mkF m 193 #[.val (.ref a1), .val (.long k), .second, .val (.long w), .second, .val (.int (15 : Int32)), .val (.long cur), .second, .val (.long w2), .second, .val (.int (Int32.ofNat i)), .val (.int (Int32.ofNat dist)), .val (.int y12), .unset, .unset, .unset, .unset] [(.int (1 : Int32)), (.int ((2 : Int32) * (Int32.ofNat i))), (.ref d)]))
          refine Go.by (fun _ => XS.iadd X58.here hx rfl (hb hby d7_193) rfl) ?_
          refine Go.by (fun _ => XS.lload X58.here hx rfl (hb hby d7_194) rfl) ?_
          obtain ⟨T59, h59, X59, W59, V59, st59⟩ := X58.stJ hx hZ Vu57 g_d (ix1_n hi) (i := 2 * i + 1) (ix1_c hi) (ix1_l hi) (g := (mkF m 196 #[.val (.ref a1), .val (.long k), .second, .val (.long w), .second, .val (.int (15 : Int32)), .val (.long cur), .second, .val (.long w2), .second, .val (.int (Int32.ofNat i)), .val (.int (Int32.ofNat dist)), .val (.int y12), .unset, .unset, .unset, .unset] [(.long w2), (.int (((2 : Int32) * (Int32.ofNat i)) + (1 : Int32))), (.ref d)])) rfl rfl (hb hby d7_196)
          have f60_482 := f56_461.wr W59
          have f60_483 := f56_462.other W59 (Or.inl nad)
          have f60_484 := f56_463.other W59 (Or.inl nad)
          have f60_485 := f56_464.wr W59 (Or.inl (List.mem_of_getElem? (i := 0) rfl))
          have Zs60 : n0 ≤ h59.size := by rw [W59.size]; exact Zs56
          refine Go.by st59 ?_
          show Go p.tables e below _ (T59.setTop (mkF m 197 #[.val (.ref a1), .val (.long k), .second, .val (.long w), .second, .val (.int (15 : Int32)), .val (.long cur), .second, .val (.long w2), .second, .val (.int (Int32.ofNat i)), .val (.int (Int32.ofNat dist)), .val (.int y12), .unset, .unset, .unset, .unset] []))
          have Vu61 := Avf.cong V59 (g := (fun jj => (.long ((upd (upd fj (2 * i) cur) (2 * i + 1) w2) jj)))) (fun t _ => upd_eq (upd fj (2 * i) cur) (2 * i + 1) w2 t)
          refine Go.ret0 X59 hx hlk hret (hb hby d7_197) (by decide) (by decide) ?_
          refine ⟨rfl, f60_485, _, Vu61, Lf_odd (Lf_put hLj hi (by omega) he hcur hCh (Or.inl ((lw_eq _ _).mp hc41_53))), fun x hx => ?_, ?_⟩
          · have a1 := cnt_upd (f := fj) (i := i) (v := cur) hi hx
            have a2 := hcnt x hx
            rw [((lw_eq _ _).mp hc41_53), one_zero hx] at a1
            rw [pre_odd]; omega
          · rw [pre_odd, len_more hi ((lw_eq _ _).mp hc41_53) hcur, hlen]
        · skip
          refine Go.by (fun _ => XS.ifNo X52.here hx rfl (hb hby d7_41) rfl ((if0 _ _).trans (feq hc41_53).1)) ?_
          show Go p.tables e below _ (T52.setTop (mkF m 44 #[.val (.ref a1), .val (.long k), .second, .val (.long w), .second, .val (.int (15 : Int32)), .val (.long cur), .second, .val (.long w2), .second, .val (.int (Int32.ofNat i)), .val (.int (Int32.ofNat dist)), .val (.int y12), .unset, .unset, .unset, .unset] []))
          refine Go.by (fun _ => XS.iload X52.here hx rfl (hb hby d7_44) rfl) ?_
          refine Go.by (fun _ => XS.bipush X52.here hx rfl (hb hby d7_46)) ?_
          show Go p.tables e below _ (T52.setTop (mkF m 48 #[.val (.ref a1), .val (.long k), .second, .val (.long w), .second, .val (.int (15 : Int32)), .val (.long cur), .second, .val (.long w2), .second, .val (.int (Int32.ofNat i)), .val (.int (Int32.ofNat dist)), .val (.int y12), .unset, .unset, .unset, .unset] [(.int (32 : Int32)), (.int (Int32.ofNat dist))]))
          refine Go.by (fun _ => XS.icmpYes X52.here hx rfl (pc0 := 48) (pc' := 81) rfl (hb hby d7_48) rfl (flt ((d32 (by omega)))).2.2.2 (by decide) (by decide)) ?_
          show Go p.tables e below _ (T52.setTop (mkF m 81 #[.val (.ref a1), .val (.long k), .second, .val (.long w), .second, .val (.int (15 : Int32)), .val (.long cur), .second, .val (.long w2), .second, .val (.int (Int32.ofNat i)), .val (.int (Int32.ofNat dist)), .val (.int y12), .unset, .unset, .unset, .unset] []))
          refine Go.by (fun _ => XS.aloadN X52.here hx rfl (hb hby d7_81) rfl rfl) ?_
          refine Go.by (fun _ => XS.iload X52.here hx rfl (hb hby d7_82) rfl) ?_
          refine Go.by (fun _ => XS.iload X52.here hx rfl (hb hby d7_84) rfl) ?_
          obtain ⟨v62, T62, h62, X62, q62, st62⟩ := X52.callP hx hZ (y := (⟨"com/example/shrike/shrike/store/LongMap", "displacement", "(II)I"⟩ : MethodName)) hown (tw hw 58 rfl) (tw hw 59 rfl) (sel_priv (tw hw 20 rfl) rfl (tw hw 60 rfl) (tw hw 59 rfl) (by decide)) (tw hw 60 rfl) (tw hw 6 rfl) (tw hw 61 rfl) (by decide) (rm13 l Z a0 hw [] a1 d kd fj i hj n0 Zj Ej Fsj Fmj Vj hi) Ej (g := (mkF m 86 #[.val (.ref a1), .val (.long k), .second, .val (.long w), .second, .val (.int (15 : Int32)), .val (.long cur), .second, .val (.long w2), .second, .val (.int (Int32.ofNat i)), .val (.int (Int32.ofNat dist)), .val (.int y12), .unset, .unset, .unset, .unset] [(.int (15 : Int32)), (.int (Int32.ofNat i)), (.ref a1)])) rfl (by rw [hml]; rfl) (argsL := [(.int (Int32.ofNat i)), (.int (15 : Int32))]) (rest := []) (lenOf pd1 rfl) rfl (hb hby d7_86) rfl (by decide) (Nat.le_of_ble_eq_true rfl) (k' := 0) (n' := 0) rfl rfl (by decide) (by decide)
          refine Go.by st62 ?_
          obtain ⟨rfl, rfl⟩ := q62
          show Go p.tables e below _ (T62.setTop (mkF m 89 #[.val (.ref a1), .val (.long k), .second, .val (.long w), .second, .val (.int (15 : Int32)), .val (.long cur), .second, .val (.long w2), .second, .val (.int (Int32.ofNat i)), .val (.int (Int32.ofNat dist)), .val (.int y12), .unset, .unset, .unset, .unset] [(.int (Int32.ofNat (dp fj i)))]))
          refine Go.by (fun _ => XS.istore X62.here hx rfl (hb hby d7_89) rfl (l' := #[.val (.ref a1), .val (.long k), .second, .val (.long w), .second, .val (.int (15 : Int32)), .val (.long cur), .second, .val (.long w2), .second, .val (.int (Int32.ofNat i)), .val (.int (Int32.ofNat dist)), .val (.int (Int32.ofNat (dp fj i))), .unset, .unset, .unset, .unset]) rfl) ?_
          show Go p.tables e below _ (T62.setTop (mkF m 91 #[.val (.ref a1), .val (.long k), .second, .val (.long w), .second, .val (.int (15 : Int32)), .val (.long cur), .second, .val (.long w2), .second, .val (.int (Int32.ofNat i)), .val (.int (Int32.ofNat dist)), .val (.int (Int32.ofNat (dp fj i))), .unset, .unset, .unset, .unset] []))
          refine Go.by (fun _ => XS.iload X62.here hx rfl (hb hby d7_91) rfl) ?_
          show Go p.tables e below _ (T62.setTop (mkF m 93 #[.val (.ref a1), .val (.long k), .second, .val (.long w), .second, .val (.int (15 : Int32)), .val (.long cur), .second, .val (.long w2), .second, .val (.int (Int32.ofNat i)), .val (.int (Int32.ofNat dist)), .val (.int (Int32.ofNat (dp fj i))), .unset, .unset, .unset, .unset] [(.int (Int32.ofNat (dp fj i)))]))
          refine Go.by (fun _ => XS.iload X62.here hx rfl (hb hby d7_93) rfl) ?_
          by_cases hc95_63 : (Int32.ofNat (dp fj i)) < (Int32.ofNat dist)
          · skip
            refine Go.by (fun _ => XS.icmpNo X62.here hx rfl (hb hby d7_95) rfl (tlt hc95_63).2.1) ?_
            show Go p.tables e below _ (T62.setTop (mkF m 98 #[.val (.ref a1), .val (.long k), .second, .val (.long w), .second, .val (.int (15 : Int32)), .val (.long cur), .second, .val (.long w2), .second, .val (.int (Int32.ofNat i)), .val (.int (Int32.ofNat dist)), .val (.int (Int32.ofNat (dp fj i))), .unset, .unset, .unset, .unset] []))
            refine Go.by (fun _ => XS.aloadN X62.here hx rfl (hb hby d7_98) rfl rfl) ?_
            obtain ⟨T64, X64, st64⟩ := X62.getF hx hZ hown (host := "") (Or.inl (tw hw 14 rfl)) Via.refl Fsj (g := (mkF m 99 #[.val (.ref a1), .val (.long k), .second, .val (.long w), .second, .val (.int (15 : Int32)), .val (.long cur), .second, .val (.long w2), .second, .val (.int (Int32.ofNat i)), .val (.int (Int32.ofNat dist)), .val (.int (Int32.ofNat (dp fj i))), .unset, .unset, .unset, .unset] [(.ref a1)])) rfl rfl (hb hby d7_99)
            refine Go.by st64 ?_
            show Go p.tables e below _ (T64.setTop (mkF m 102 #[.val (.ref a1), .val (.long k), .second, .val (.long w), .second, .val (.int (15 : Int32)), .val (.long cur), .second, .val (.long w2), .second, .val (.int (Int32.ofNat i)), .val (.int (Int32.ofNat dist)), .val (.int (Int32.ofNat (dp fj i))), .unset, .unset, .unset, .unset] [(.ref d)]))
            refine Go.by (fun _ => XS.iconst X64.here hx rfl (hb hby d7_102)) ?_
            refine Go.by (fun _ => XS.iload X64.here hx rfl (hb hby d7_103) rfl) ?_
            show Go p.tables e below _ (T64.setTop (mkF m 105 #[.val (.ref a1), .val (.long k), .second, .val (.long w), .second, .val (.int (15 : Int32)), .val (.long cur), .second, .val (.long w2), .second, .val (.int (Int32.ofNat i)), .val (.int (Int32.ofNat dist)), .val (.int (Int32.ofNat (dp fj i))), .unset, .unset, .unset, .unset] [(.int (Int32.ofNat i)), (.int (2 : Int32)), (.ref d)]))
            refine Go.by (fun _ => XS.imul X64.here hx rfl (hb hby d7_105) rfl) ?_
            refine Go.by (X64.ldJ hx hZ Vj (ix_n hi) (i := 2 * i) (ix_c hi) (ix_l hi) (v := (.long (fj (2 * i)))) rfl (g := (mkF m 106 #[.val (.ref a1), .val (.long k), .second, .val (.long w), .second, .val (.int (15 : Int32)), .val (.long cur), .second, .val (.long w2), .second, .val (.int (Int32.ofNat i)), .val (.int (Int32.ofNat dist)), .val (.int (Int32.ofNat (dp fj i))), .unset, .unset, .unset, .unset] [(.int ((2 : Int32) * (Int32.ofNat i))), (.ref d)])) rfl rfl (hb hby d7_106)) ?_
            show Go p.tables e below _ (T64.setTop (mkF m 107 #[.val (.ref a1), .val (.long k), .second, .val (.long w), .second, .val (.int (15 : Int32)), .val (.long cur), .second, .val (.long w2), .second, .val (.int (Int32.ofNat i)), .val (.int (Int32.ofNat dist)), .val (.int (Int32.ofNat (dp fj i))), .unset, .unset, .unset, .unset] [(.long (fj (2 * i)))]))
            refine Go.by (fun _ => XS.lstore X64.here hx rfl (hb hby d7_107) rfl (l' := #[.val (.ref a1), .val (.long k), .second, .val (.long w), .second, .val (.int (15 : Int32)), .val (.long cur), .second, .val (.long w2), .second, .val (.int (Int32.ofNat i)), .val (.int (Int32.ofNat dist)), .val (.int (Int32.ofNat (dp fj i))), .val (.long (fj (2 * i))), .second, .unset, .unset]) rfl) ?_
            show Go p.tables e below _ (T64.setTop (mkF m 109 #[.val (.ref a1), .val (.long k), .second, .val (.long w), .second, .val (.int (15 : Int32)), .val (.long cur), .second, .val (.long w2), .second, .val (.int (Int32.ofNat i)), .val (.int (Int32.ofNat dist)), .val (.int (Int32.ofNat (dp fj i))), .val (.long (fj (2 * i))), .second, .unset, .unset] []))
            refine Go.by (fun _ => XS.aloadN X64.here hx rfl (hb hby d7_109) rfl rfl) ?_
            obtain ⟨T65, X65, st65⟩ := X64.getF hx hZ hown (host := "") (Or.inl (tw hw 14 rfl)) Via.refl Fsj (g := (mkF m 110 #[.val (.ref a1), .val (.long k), .second, .val (.long w), .second, .val (.int (15 : Int32)), .val (.long cur), .second, .val (.long w2), .second, .val (.int (Int32.ofNat i)), .val (.int (Int32.ofNat dist)), .val (.int (Int32.ofNat (dp fj i))), .val (.long (fj (2 * i))), .second, .unset, .unset] [(.ref a1)])) rfl rfl (hb hby d7_110)
            refine Go.by st65 ?_
            show Go p.tables e below _ (T65.setTop (mkF m 113 #[.val (.ref a1), .val (.long k), .second, .val (.long w), .second, .val (.int (15 : Int32)), .val (.long cur), .second, .val (.long w2), .second, .val (.int (Int32.ofNat i)), .val (.int (Int32.ofNat dist)), .val (.int (Int32.ofNat (dp fj i))), .val (.long (fj (2 * i))), .second, .unset, .unset] [(.ref d)]))
            refine Go.by (fun _ => XS.iconst X65.here hx rfl (hb hby d7_113)) ?_
            refine Go.by (fun _ => XS.iload X65.here hx rfl (hb hby d7_114) rfl) ?_
            refine Go.by (fun _ => XS.imul X65.here hx rfl (hb hby d7_116) rfl) ?_
            refine Go.by (fun _ => XS.iconst X65.here hx rfl (hb hby d7_117)) ?_
            refine Go.by (fun _ => XS.iadd X65.here hx rfl (hb hby d7_118) rfl) ?_
            show Go p.tables e below _ (T65.setTop (mkF m 119 #[.val (.ref a1), .val (.long k), .second, .val (.long w), .second, .val (.int (15 : Int32)), .val (.long cur), .second, .val (.long w2), .second, .val (.int (Int32.ofNat i)), .val (.int (Int32.ofNat dist)), .val (.int (Int32.ofNat (dp fj i))), .val (.long (fj (2 * i))), .second, .unset, .unset] [(.int (((2 : Int32) * (Int32.ofNat i)) + (1 : Int32))), (.ref d)]))
            refine Go.by (X65.ldJ hx hZ Vj (ix1_n hi) (i := 2 * i + 1) (ix1_c hi) (ix1_l hi) (v := (.long (fj (2 * i + 1)))) rfl (g := (mkF m 119 #[.val (.ref a1), .val (.long k), .second, .val (.long w), .second, .val (.int (15 : Int32)), .val (.long cur), .second, .val (.long w2), .second, .val (.int (Int32.ofNat i)), .val (.int (Int32.ofNat dist)), .val (.int (Int32.ofNat (dp fj i))), .val (.long (fj (2 * i))), .second, .unset, .unset] [(.int (((2 : Int32) * (Int32.ofNat i)) + (1 : Int32))), (.ref d)])) rfl rfl (hb hby d7_119)) ?_
            show Go p.tables e below _ (T65.setTop (mkF m 120 #[.val (.ref a1), .val (.long k), .second, .val (.long w), .second, .val (.int (15 : Int32)), .val (.long cur), .second, .val (.long w2), .second, .val (.int (Int32.ofNat i)), .val (.int (Int32.ofNat dist)), .val (.int (Int32.ofNat (dp fj i))), .val (.long (fj (2 * i))), .second, .unset, .unset] [(.long (fj (2 * i + 1)))]))
            refine Go.by (fun _ => XS.lstore X65.here hx rfl (hb hby d7_120) rfl (l' := #[.val (.ref a1), .val (.long k), .second, .val (.long w), .second, .val (.int (15 : Int32)), .val (.long cur), .second, .val (.long w2), .second, .val (.int (Int32.ofNat i)), .val (.int (Int32.ofNat dist)), .val (.int (Int32.ofNat (dp fj i))), .val (.long (fj (2 * i))), .second, .val (.long (fj (2 * i + 1))), .second]) rfl) ?_
            show Go p.tables e below _ (T65.setTop (mkF m 122 #[.val (.ref a1), .val (.long k), .second, .val (.long w), .second, .val (.int (15 : Int32)), .val (.long cur), .second, .val (.long w2), .second, .val (.int (Int32.ofNat i)), .val (.int (Int32.ofNat dist)), .val (.int (Int32.ofNat (dp fj i))), .val (.long (fj (2 * i))), .second, .val (.long (fj (2 * i + 1))), .second] []))
            refine Go.by (fun _ => XS.aloadN X65.here hx rfl (hb hby d7_122) rfl rfl) ?_
            obtain ⟨T66, X66, st66⟩ := X65.getF hx hZ hown (host := "") (Or.inl (tw hw 14 rfl)) Via.refl Fsj (g := (mkF m 123 #[.val (.ref a1), .val (.long k), .second, .val (.long w), .second, .val (.int (15 : Int32)), .val (.long cur), .second, .val (.long w2), .second, .val (.int (Int32.ofNat i)), .val (.int (Int32.ofNat dist)), .val (.int (Int32.ofNat (dp fj i))), .val (.long (fj (2 * i))), .second, .val (.long (fj (2 * i + 1))), .second] [(.ref a1)])) rfl rfl (hb hby d7_123)
            refine Go.by st66 ?_
            show Go p.tables e below _ (T66.setTop (mkF m 126 #[.val (.ref a1), .val (.long k), .second, .val (.long w), .second, .val (.int (15 : Int32)), .val (.long cur), .second, .val (.long w2), .second, .val (.int (Int32.ofNat i)), .val (.int (Int32.ofNat dist)), .val (.int (Int32.ofNat (dp fj i))), .val (.long (fj (2 * i))), .second, .val (.long (fj (2 * i + 1))), .second] [(.ref d)]))
            refine Go.by (fun _ => XS.iconst X66.here hx rfl (hb hby d7_126)) ?_
            show Go p.tables e below _ (T66.setTop (mkF m 127 #[.val (.ref a1), .val (.long k), .second, .val (.long w), .second, .val (.int (15 : Int32)), .val (.long cur), .second, .val (.long w2), .second, .val (.int (Int32.ofNat i)), .val (.int (Int32.ofNat dist)), .val (.int (Int32.ofNat (dp fj i))), .val (.long (fj (2 * i))), .second, .val (.long (fj (2 * i + 1))), .second] [(.int (2 : Int32)), (.ref d)]))
            refine Go.by (fun _ => XS.iload X66.here hx rfl (hb hby d7_127) rfl) ?_
            refine Go.by (fun _ => XS.imul X66.here hx rfl (hb hby d7_129) rfl) ?_
            refine Go.by (fun _ => XS.lload X66.here hx rfl (hb hby d7_130) rfl) ?_
            obtain ⟨T67, h67, X67, W67, V67, st67⟩ := X66.stJ hx hZ Vj g_d (ix_n hi) (i := 2 * i) (ix_c hi) (ix_l hi) (g := (mkF m 132 #[.val (.ref a1), .val (.long k), .second, .val (.long w), .second, .val (.int (15 : Int32)), .val (.long cur), .second, .val (.long w2), .second, .val (.int (Int32.ofNat i)), .val (.int (Int32.ofNat dist)), .val (.int (Int32.ofNat (dp fj i))), .val (.long (fj (2 * i))), .second, .val (.long (fj (2 * i + 1))), .second] [(.long cur), (.int ((2 : Int32) * (Int32.ofNat i))), (.ref d)])) rfl rfl (hb hby d7_132)
            have f68_557 := Ej.wr W67
            have f68_558 := Fsj.other W67 (Or.inl nad)
            have f68_559 := Fmj.other W67 (Or.inl nad)
            have f68_560 := Kj.wr W67 (Or.inl (List.mem_of_getElem? (i := 0) rfl))
            have Zs68 : n0 ≤ h67.size := by rw [W67.size]; exact Zj
            refine Go.by st67 ?_
            show Go p.tables e below _ (T67.setTop (mkF m 133 #[.val (.ref a1), .val (.long k), .second, .val (.long w), .second, .val (.int (15 : Int32)), .val (.long cur), .second, .val (.long w2), .second, .val (.int (Int32.ofNat i)), .val (.int (Int32.ofNat dist)), .val (.int (Int32.ofNat (dp fj i))), .val (.long (fj (2 * i))), .second, .val (.long (fj (2 * i + 1))), .second] []))
            have Vu69 := Avf.cong V67 (g := (fun jj => (.long ((upd fj (2 * i) cur) jj)))) (fun t _ => upd_eq fj (2 * i) cur t)
            refine Go.by (fun _ => XS.aloadN X67.here hx rfl (hb hby d7_133) rfl rfl) ?_
            show Go p.tables e below _ (T67.setTop (mkF m 134 #[.val (.ref a1), .val (.long k), .second, .val (.long w), .second, .val (.int (15 : Int32)), .val (.long cur), .second, .val (.long w2), .second, .val (.int (Int32.ofNat i)), .val (.int (Int32.ofNat dist)), .val (.int (Int32.ofNat (dp fj i))), .val (.long (fj (2 * i))), .second, .val (.long (fj (2 * i + 1))), .second] [(.ref a1)]))
            obtain ⟨T70, X70, st70⟩ := X67.getF hx hZ hown (host := "") (Or.inl (tw hw 14 rfl)) Via.refl f68_558 (g := (mkF m 134 #[.val (.ref a1), .val (.long k), .second, .val (.long w), .second, .val (.int (15 : Int32)), .val (.long cur), .second, .val (.long w2), .second, .val (.int (Int32.ofNat i)), .val (.int (Int32.ofNat dist)), .val (.int (Int32.ofNat (dp fj i))), .val (.long (fj (2 * i))), .second, .val (.long (fj (2 * i + 1))), .second] [(.ref a1)])) rfl rfl (hb hby d7_134)
            refine Go.by st70 ?_
            show Go p.tables e below _ (T70.setTop (mkF m 137 #[.val (.ref a1), .val (.long k), .second, .val (.long w), .second, .val (.int (15 : Int32)), .val (.long cur), .second, .val (.long w2), .second, .val (.int (Int32.ofNat i)), .val (.int (Int32.ofNat dist)), .val (.int (Int32.ofNat (dp fj i))), .val (.long (fj (2 * i))), .second, .val (.long (fj (2 * i + 1))), .second] [(.ref d)]))
            refine Go.by (fun _ => XS.iconst X70.here hx rfl (hb hby d7_137)) ?_
            refine Go.by (fun _ => XS.iload X70.here hx rfl (hb hby d7_138) rfl) ?_
            refine Go.by (fun _ => XS.imul X70.here hx rfl (hb hby d7_140) rfl) ?_
            refine Go.by (fun _ => XS.iconst X70.here hx rfl (hb hby d7_141)) ?_
            show Go p.tables e below _ (T70.setTop (mkF m 142 #[.val (.ref a1), .val (.long k), .second, .val (.long w), .second, .val (.int (15 : Int32)), .val (.long cur), .second, .val (.long w2), .second, .val (.int (Int32.ofNat i)), .val (.int (Int32.ofNat dist)), .val (.int (Int32.ofNat (dp fj i))), .val (.long (fj (2 * i))), .second, .val (.long (fj (2 * i + 1))), .second] [(.int (1 : Int32)), (.int ((2 : Int32) * (Int32.ofNat i))), (.ref d)]))
            refine Go.by (fun _ => XS.iadd X70.here hx rfl (hb hby d7_142) rfl) ?_
            refine Go.by (fun _ => XS.lload X70.here hx rfl (hb hby d7_143) rfl) ?_
            obtain ⟨T71, h71, X71, W71, V71, st71⟩ := X70.stJ hx hZ Vu69 g_d (ix1_n hi) (i := 2 * i + 1) (ix1_c hi) (ix1_l hi) (g := (mkF m 145 #[.val (.ref a1), .val (.long k), .second, .val (.long w), .second, .val (.int (15 : Int32)), .val (.long cur), .second, .val (.long w2), .second, .val (.int (Int32.ofNat i)), .val (.int (Int32.ofNat dist)), .val (.int (Int32.ofNat (dp fj i))), .val (.long (fj (2 * i))), .second, .val (.long (fj (2 * i + 1))), .second] [(.long w2), (.int (((2 : Int32) * (Int32.ofNat i)) + (1 : Int32))), (.ref d)])) rfl rfl (hb hby d7_145)
            have f72_578 := f68_557.wr W71
            have f72_579 := f68_558.other W71 (Or.inl nad)
            have f72_580 := f68_559.other W71 (Or.inl nad)
            have f72_581 := f68_560.wr W71 (Or.inl (List.mem_of_getElem? (i := 0) rfl))
            have Zs72 : n0 ≤ h71.size := by rw [W71.size]; exact Zs68
            refine Go.by st71 ?_
            show Go p.tables e below _ (T71.setTop (mkF m 146 #[.val (.ref a1), .val (.long k), .second, .val (.long w), .second, .val (.int (15 : Int32)), .val (.long cur), .second, .val (.long w2), .second, .val (.int (Int32.ofNat i)), .val (.int (Int32.ofNat dist)), .val (.int (Int32.ofNat (dp fj i))), .val (.long (fj (2 * i))), .second, .val (.long (fj (2 * i + 1))), .second] []))
            have Vu73 := Avf.cong V71 (g := (fun jj => (.long ((upd (upd fj (2 * i) cur) (2 * i + 1) w2) jj)))) (fun t _ => upd_eq (upd fj (2 * i) cur) (2 * i + 1) w2 t)
            refine Go.by (fun _ => XS.lload X71.here hx rfl (hb hby d7_146) rfl) ?_
            refine Go.by (fun _ => XS.lstore X71.here hx rfl (hb hby d7_148) rfl (l' := #[.val (.ref a1), .val (.long k), .second, .val (.long w), .second, .val (.int (15 : Int32)), .val (.long (fj (2 * i))), .second, .val (.long w2), .second, .val (.int (Int32.ofNat i)), .val (.int (Int32.ofNat dist)), .val (.int (Int32.ofNat (dp fj i))), .val (.long (fj (2 * i))), .second, .val (.long (fj (2 * i + 1))), .second]) rfl) ?_
            show Go p.tables e below _ (T71.setTop (mkF m 150 #[.val (.ref a1), .val (.long k), .second, .val (.long w), .second, .val (.int (15 : Int32)), .val (.long (fj (2 * i))), .second, .val (.long w2), .second, .val (.int (Int32.ofNat i)), .val (.int (Int32.ofNat dist)), .val (.int (Int32.ofNat (dp fj i))), .val (.long (fj (2 * i))), .second, .val (.long (fj (2 * i + 1))), .second] []))
            refine Go.by (fun _ => XS.lload X71.here hx rfl (hb hby d7_150) rfl) ?_
            refine Go.by (fun _ => XS.lstore X71.here hx rfl (hb hby d7_152) rfl (l' := #[.val (.ref a1), .val (.long k), .second, .val (.long w), .second, .val (.int (15 : Int32)), .val (.long (fj (2 * i))), .second, .val (.long (fj (2 * i + 1))), .second, .val (.int (Int32.ofNat i)), .val (.int (Int32.ofNat dist)), .val (.int (Int32.ofNat (dp fj i))), .val (.long (fj (2 * i))), .second, .val (.long (fj (2 * i + 1))), .second]) rfl) ?_
            show Go p.tables e below _ (T71.setTop (mkF m 154 #[.val (.ref a1), .val (.long k), .second, .val (.long w), .second, .val (.int (15 : Int32)), .val (.long (fj (2 * i))), .second, .val (.long (fj (2 * i + 1))), .second, .val (.int (Int32.ofNat i)), .val (.int (Int32.ofNat dist)), .val (.int (Int32.ofNat (dp fj i))), .val (.long (fj (2 * i))), .second, .val (.long (fj (2 * i + 1))), .second] []))
            refine Go.by (fun _ => XS.iload X71.here hx rfl (hb hby d7_154) rfl) ?_
            refine Go.by (fun _ => XS.istore X71.here hx rfl (hb hby d7_156) rfl (l' := #[.val (.ref a1), .val (.long k), .second, .val (.long w), .second, .val (.int (15 : Int32)), .val (.long (fj (2 * i))), .second, .val (.long (fj (2 * i + 1))), .second, .val (.int (Int32.ofNat i)), .val (.int (Int32.ofNat (dp fj i))), .val (.int (Int32.ofNat (dp fj i))), .val (.long (fj (2 * i))), .second, .val (.long (fj (2 * i + 1))), .second]) rfl) ?_
            show Go p.tables e below _ (T71.setTop (mkF m 158 #[.val (.ref a1), .val (.long k), .second, .val (.long w), .second, .val (.int (15 : Int32)), .val (.long (fj (2 * i))), .second, .val (.long (fj (2 * i + 1))), .second, .val (.int (Int32.ofNat i)), .val (.int (Int32.ofNat (dp fj i))), .val (.int (Int32.ofNat (dp fj i))), .val (.long (fj (2 * i))), .second, .val (.long (fj (2 * i + 1))), .second] []))
            refine Go.by (fun _ => XS.iload X71.here hx rfl (hb hby d7_158) rfl) ?_
            show Go p.tables e below _ (T71.setTop (mkF m 160 #[.val (.ref a1), .val (.long k), .second, .val (.long w), .second, .val (.int (15 : Int32)), .val (.long (fj (2 * i))), .second, .val (.long (fj (2 * i + 1))), .second, .val (.int (Int32.ofNat i)), .val (.int (Int32.ofNat (dp fj i))), .val (.int (Int32.ofNat (dp fj i))), .val (.long (fj (2 * i))), .second, .val (.long (fj (2 * i + 1))), .second] [(.int (Int32.ofNat i))]))
            refine Go.by (fun _ => XS.iconst X71.here hx rfl (hb hby d7_160)) ?_
            refine Go.by (fun _ => XS.iadd X71.here hx rfl (hb hby d7_161) rfl) ?_
            refine Go.by (fun _ => XS.iload X71.here hx rfl (hb hby d7_162) rfl) ?_
            refine Go.by (fun _ => XS.iand X71.here hx rfl (hb hby d7_164) rfl) ?_
            refine Go.by (fun _ => XS.istore X71.here hx rfl (hb hby d7_165) rfl (l' := #[.val (.ref a1), .val (.long k), .second, .val (.long w), .second, .val (.int (15 : Int32)), .val (.long (fj (2 * i))), .second, .val (.long (fj (2 * i + 1))), .second, .val (.int (((Int32.ofNat i) + (1 : Int32)) &&& (15 : Int32))), .val (.int (Int32.ofNat (dp fj i))), .val (.int (Int32.ofNat (dp fj i))), .val (.long (fj (2 * i))), .second, .val (.long (fj (2 * i + 1))), .second]) rfl) ?_
            show Go p.tables e below _ (T71.setTop (mkF m 167 #[.val (.ref a1), .val (.long k), .second, .val (.long w), .second, .val (.int (15 : Int32)), .val (.long (fj (2 * i))), .second, .val (.long (fj (2 * i + 1))), .second, .val (.int (((Int32.ofNat i) + (1 : Int32)) &&& (15 : Int32))), .val (.int (Int32.ofNat (dp fj i))), .val (.int (Int32.ofNat (dp fj i))), .val (.long (fj (2 * i))), .second, .val (.long (fj (2 * i + 1))), .second] []))
            refine Go.by (fun _ => XS.iinc X71.here hx rfl (hb hby d7_167) rfl (l' := #[.val (.ref a1), .val (.long k), .second, .val (.long w), .second, .val (.int (15 : Int32)), .val (.long (fj (2 * i))), .second, .val (.long (fj (2 * i + 1))), .second, .val (.int (((Int32.ofNat i) + (1 : Int32)) &&& (15 : Int32))), .val (.int ((Int32.ofNat (dp fj i)) + (1 : Int32))), .val (.int (Int32.ofNat (dp fj i))), .val (.long (fj (2 * i))), .second, .val (.long (fj (2 * i + 1))), .second]) rfl) ?_
            show Go p.tables e below _ (T71.setTop (mkF m 170 #[.val (.ref a1), .val (.long k), .second, .val (.long w), .second, .val (.int (15 : Int32)), .val (.long (fj (2 * i))), .second, .val (.long (fj (2 * i + 1))), .second, .val (.int (((Int32.ofNat i) + (1 : Int32)) &&& (15 : Int32))), .val (.int ((Int32.ofNat (dp fj i)) + (1 : Int32))), .val (.int (Int32.ofNat (dp fj i))), .val (.long (fj (2 * i))), .second, .val (.long (fj (2 * i + 1))), .second] []))
            refine Go.by (fun _ => XS.goto X71.here hx rfl (pc0 := 170) (pc' := 30) rfl (hb hby d7_170) (by decide) (by decide)) ?_
            show Go p.tables e below _ (T71.setTop (mkF m 30 #[.val (.ref a1), .val (.long k), .second, .val (.long w), .second, .val (.int (15 : Int32)), .val (.long (fj (2 * i))), .second, .val (.long (fj (2 * i + 1))), .second, .val (.int (((Int32.ofNat i) + (1 : Int32)) &&& (15 : Int32))), .val (.int ((Int32.ofNat (dp fj i)) + (1 : Int32))), .val (.int (Int32.ofNat (dp fj i))), .val (.long (fj (2 * i))), .second, .val (.long (fj (2 * i + 1))), .second] []))
            rw [nxI hi, i32_succ]
            have hne : fj (2 * i) ≠ 0 := (fun z => hc41_53 ((lw_eq _ _).mpr z))
            have hlt : dp fj i < dist := (lt32 (by omega) (by omega)).mp hc95_63
            have hqi : q ≠ i := fun z => hne (by rw [← z]; exact hqj)
            refine ih (upd (upd fj (2 * i) cur) (2 * i + 1) w2) (fj (2 * i)) _ ((i + 1) % 16) (dp fj i + 1) _ _ _ _ _ (Or.inr (Or.inr ⟨_, _, _, rfl, rfl, rfl, rfl, rfl⟩)) (by omega) (by omega) (he_swap fj hi) (by omega) (Lf_odd (Lf_put hLj hi (by omega) he hcur hCh (Or.inr hlt))) ?_ (Ch_odd (Ch_swap hi (by omega) he hcur hlt)) hne (fun x hx => ?_) ?_ _ _ X71 Zs72 f72_581 f72_578 f72_579 f72_580 Vu73
            · rw [upd_odd, upd_even, if_neg hqi]; exact hqj
            · have a1 := cnt_upd (f := fj) (i := i) (v := cur) hi hx
              have a2 := hcnt x hx
              rw [pre_odd]; omega
            · rw [pre_odd, len_same hi hne hcur]; exact hlen
          · skip
            refine Go.by (fun _ => XS.icmpYes X62.here hx rfl (pc0 := 95) (pc' := 158) rfl (hb hby d7_95) rfl (flt hc95_63).2.1 (by decide) (by decide)) ?_
            show Go p.tables e below _ (T62.setTop (mkF m 158 #[.val (.ref a1), .val (.long k), .second, .val (.long w), .second, .val (.int (15 : Int32)), .val (.long cur), .second, .val (.long w2), .second, .val (.int (Int32.ofNat i)), .val (.int (Int32.ofNat dist)), .val (.int (Int32.ofNat (dp fj i))), .unset, .unset, .unset, .unset] []))
            refine Go.by (fun _ => XS.iload X62.here hx rfl (hb hby d7_158) rfl) ?_
            refine Go.by (fun _ => XS.iconst X62.here hx rfl (hb hby d7_160)) ?_
            refine Go.by (fun _ => XS.iadd X62.here hx rfl (hb hby d7_161) rfl) ?_
            refine Go.by (fun _ => XS.iload X62.here hx rfl (hb hby d7_162) rfl) ?_
            show Go p.tables e below _ (T62.setTop (mkF m 164 #[.val (.ref a1), .val (.long k), .second, .val (.long w), .second, .val (.int (15 : Int32)), .val (.long cur), .second, .val (.long w2), .second, .val (.int (Int32.ofNat i)), .val (.int (Int32.ofNat dist)), .val (.int (Int32.ofNat (dp fj i))), .unset, .unset, .unset, .unset] [(.int (15 : Int32)), (.int ((Int32.ofNat i) + (1 : Int32)))]))
            refine Go.by (fun _ => XS.iand X62.here hx rfl (hb hby d7_164) rfl) ?_
            refine Go.by (fun _ => XS.istore X62.here hx rfl (hb hby d7_165) rfl (l' := #[.val (.ref a1), .val (.long k), .second, .val (.long w), .second, .val (.int (15 : Int32)), .val (.long cur), .second, .val (.long w2), .second, .val (.int (((Int32.ofNat i) + (1 : Int32)) &&& (15 : Int32))), .val (.int (Int32.ofNat dist)), .val (.int (Int32.ofNat (dp fj i))), .unset, .unset, .unset, .unset]) rfl) ?_
            show Go p.tables e below _ (T62.setTop (mkF m 167 #[.val (.ref a1), .val (.long k), .second, .val (.long w), .second, .val (.int (15 : Int32)), .val (.long cur), .second, .val (.long w2), .second, .val (.int (((Int32.ofNat i) + (1 : Int32)) &&& (15 : Int32))), .val (.int (Int32.ofNat dist)), .val (.int (Int32.ofNat (dp fj i))), .unset, .unset, .unset, .unset] []))
            refine Go.by (fun _ => XS.iinc X62.here hx rfl (hb hby d7_167) rfl (l' := #[.val (.ref a1), .val (.long k), .second, .val (.long w), .second, .val (.int (15 : Int32)), .val (.long cur), .second, .val (.long w2), .second, .val (.int (((Int32.ofNat i) + (1 : Int32)) &&& (15 : Int32))), .val (.int ((Int32.ofNat dist) + (1 : Int32))), .val (.int (Int32.ofNat (dp fj i))), .unset, .unset, .unset, .unset]) rfl) ?_
            show Go p.tables e below _ (T62.setTop (mkF m 170 #[.val (.ref a1), .val (.long k), .second, .val (.long w), .second, .val (.int (15 : Int32)), .val (.long cur), .second, .val (.long w2), .second, .val (.int (((Int32.ofNat i) + (1 : Int32)) &&& (15 : Int32))), .val (.int ((Int32.ofNat dist) + (1 : Int32))), .val (.int (Int32.ofNat (dp fj i))), .unset, .unset, .unset, .unset] []))
            refine Go.by (fun _ => XS.goto X62.here hx rfl (pc0 := 170) (pc' := 30) rfl (hb hby d7_170) (by decide) (by decide)) ?_
            show Go p.tables e below _ (T62.setTop (mkF m 30 #[.val (.ref a1), .val (.long k), .second, .val (.long w), .second, .val (.int (15 : Int32)), .val (.long cur), .second, .val (.long w2), .second, .val (.int (((Int32.ofNat i) + (1 : Int32)) &&& (15 : Int32))), .val (.int ((Int32.ofNat dist) + (1 : Int32))), .val (.int (Int32.ofNat (dp fj i))), .unset, .unset, .unset, .unset] []))
            rw [nxI hi, i32_succ]
            have hne : fj (2 * i) ≠ 0 := (fun z => hc41_53 ((lw_eq _ _).mpr z))
            have hge : dist ≤ dp fj i := Nat.le_of_not_lt (fun z => hc95_63 ((lt32 (by omega) (by omega)).mpr z))
            exact ih fj cur w2 ((i + 1) % 16) (dist + 1) _ _ _ _ _ (Or.inr (Or.inl ⟨_, rfl, rfl, rfl, rfl, rfl⟩)) (by omega) (by omega) (he_next he) (by omega) hLj hqj (Ch_next hi hne hge) hcur hcnt hlen _ _ X62 Zj Kj Ej Fsj Fmj Vj
      · skip
        refine Go.by (fun _ => XS.aloadN Xj.here hx rfl (hb hby d7_30) rfl rfl) ?_
        obtain ⟨T74, X74, st74⟩ := Xj.getF hx hZ hown (host := "") (Or.inl (tw hw 14 rfl)) Via.refl Fsj (g := (mkF m 31 #[.val (.ref a1), .val (.long k), .second, .val (.long w), .second, .val (.int (15 : Int32)), .val (.long cur), .second, .val (.long w2), .second, .val (.int (Int32.ofNat i)), .val (.int (Int32.ofNat dist)), .val (.int y12), .val (.long y13), .second, .val (.long y15), .second] [(.ref a1)])) rfl rfl (hb hby d7_31)
        refine Go.by st74 ?_
        show Go p.tables e below _ (T74.setTop (mkF m 34 #[.val (.ref a1), .val (.long k), .second, .val (.long w), .second, .val (.int (15 : Int32)), .val (.long cur), .second, .val (.long w2), .second, .val (.int (Int32.ofNat i)), .val (.int (Int32.ofNat dist)), .val (.int y12), .val (.long y13), .second, .val (.long y15), .second] [(.ref d)]))
        refine Go.by (fun _ => XS.iconst X74.here hx rfl (hb hby d7_34)) ?_
        refine Go.by (fun _ => XS.iload X74.here hx rfl (hb hby d7_35) rfl) ?_
        refine Go.by (fun _ => XS.imul X74.here hx rfl (hb hby d7_37) rfl) ?_
        refine Go.by (X74.ldJ hx hZ Vj (ix_n hi) (i := 2 * i) (ix_c hi) (ix_l hi) (v := (.long (fj (2 * i)))) rfl (g := (mkF m 38 #[.val (.ref a1), .val (.long k), .second, .val (.long w), .second, .val (.int (15 : Int32)), .val (.long cur), .second, .val (.long w2), .second, .val (.int (Int32.ofNat i)), .val (.int (Int32.ofNat dist)), .val (.int y12), .val (.long y13), .second, .val (.long y15), .second] [(.int ((2 : Int32) * (Int32.ofNat i))), (.ref d)])) rfl rfl (hb hby d7_38)) ?_
        show Go p.tables e below _ (T74.setTop (mkF m 39 #[.val (.ref a1), .val (.long k), .second, .val (.long w), .second, .val (.int (15 : Int32)), .val (.long cur), .second, .val (.long w2), .second, .val (.int (Int32.ofNat i)), .val (.int (Int32.ofNat dist)), .val (.int y12), .val (.long y13), .second, .val (.long y15), .second] [(.long (fj (2 * i)))]))
        refine Go.by (fun _ => XS.lconst X74.here hx rfl (hb hby d7_39)) ?_
        show Go p.tables e below _ (T74.setTop (mkF m 40 #[.val (.ref a1), .val (.long k), .second, .val (.long w), .second, .val (.int (15 : Int32)), .val (.long cur), .second, .val (.long w2), .second, .val (.int (Int32.ofNat i)), .val (.int (Int32.ofNat dist)), .val (.int y12), .val (.long y13), .second, .val (.long y15), .second] [(.long (0 : Int64)), (.long (fj (2 * i)))]))
        refine Go.by (fun _ => XS.lcmp X74.here hx rfl (hb hby d7_40) rfl) ?_
        show Go p.tables e below _ (T74.setTop (mkF m 41 #[.val (.ref a1), .val (.long k), .second, .val (.long w), .second, .val (.int (15 : Int32)), .val (.long cur), .second, .val (.long w2), .second, .val (.int (Int32.ofNat i)), .val (.int (Int32.ofNat dist)), .val (.int y12), .val (.long y13), .second, .val (.long y15), .second] [(.int (lcmpW (fj (2 * i)) (0 : Int64)))]))
        by_cases hc41_75 : (lcmpW (fj (2 * i)) (0 : Int64)) = (0 : Int32)
        · skip
          refine Go.by (fun _ => XS.ifYes X74.here hx rfl (pc0 := 41) (pc' := 173) rfl (hb hby d7_41) rfl ((if0 _ _).trans (teq hc41_75).1) (by decide) (by decide)) ?_
          show Go p.tables e below _ (T74.setTop (mkF m 173 #[.val (.ref a1), .val (.long k), .second, .val (.long w), .second, .val (.int (15 : Int32)), .val (.long cur), .second, .val (.long w2), .second, .val (.int (Int32.ofNat i)), .val (.int (Int32.ofNat dist)), .val (.int y12), .val (.long y13), .second, .val (.long y15), .second] []))
          refine Go.by (fun _ => XS.aloadN X74.here hx rfl (hb hby d7_173) rfl rfl) ?_
          obtain ⟨T76, X76, st76⟩ := X74.getF hx hZ hown (host := "") (Or.inl (tw hw 14 rfl)) Via.refl Fsj (g := (mkF m 174 #[.val (.ref a1), .val (.long k), .second, .val (.long w), .second, .val (.int (15 : Int32)), .val (.long cur), .second, .val (.long w2), .second, .val (.int (Int32.ofNat i)), .val (.int (Int32.ofNat dist)), .val (.int y12), .val (.long y13), .second, .val (.long y15), .second] [(.ref a1)])) rfl rfl (hb hby d7_174)
          refine Go.by st76 ?_
          show Go p.tables e below _ (T76.setTop (mkF m 177 #[.val (.ref a1), .val (.long k), .second, .val (.long w), .second, .val (.int (15 : Int32)), .val (.long cur), .second, .val (.long w2), .second, .val (.int (Int32.ofNat i)), .val (.int (Int32.ofNat dist)), .val (.int y12), .val (.long y13), .second, .val (.long y15), .second] [(.ref d)]))
          refine Go.by (fun _ => XS.iconst X76.here hx rfl (hb hby d7_177)) ?_
          refine Go.by (fun _ => XS.iload X76.here hx rfl (hb hby d7_178) rfl) ?_
          show Go p.tables e below _ (T76.setTop (mkF m 180 #[.val (.ref a1), .val (.long k), .second, .val (.long w), .second, .val (.int (15 : Int32)), .val (.long cur), .second, .val (.long w2), .second, .val (.int (Int32.ofNat i)), .val (.int (Int32.ofNat dist)), .val (.int y12), .val (.long y13), .second, .val (.long y15), .second] [(.int (Int32.ofNat i)), (.int (2 : Int32)), (.ref d)]))
          refine Go.by (fun _ => XS.imul X76.here hx rfl (hb hby d7_180) rfl) ?_
          refine Go.by (fun _ => XS.lload X76.here hx rfl (hb hby d7_181) rfl) ?_
          obtain ⟨T77, h77, X77, W77, V77, st77⟩ := X76.stJ hx hZ Vj g_d (ix_n hi) (i := 2 * i) (ix_c hi) (ix_l hi) (g := (mkF m 183 #[.val (.ref a1), .val (.long k), .second, .val (.long w), .second, .val (.int (15 : Int32)), .val (.long cur), .second, .val (.long w2), .second, .val (.int (Int32.ofNat i)), .val (.int (Int32.ofNat dist)), .val (.int y12), .val (.long y13), .second, .val (.long y15), .second] [(.long cur), (.int ((2 : Int32) * (Int32.ofNat i))), (.ref d)])) rfl rfl (hb hby d7_183)
          have f78_664 := Ej.wr W77
          have f78_665 := Fsj.other W77 (Or.inl nad)
          have f78_666 := Fmj.other W77 (Or.inl nad)
          have f78_667 := Kj.wr W77 (Or.inl (List.mem_of_getElem? (i := 0) rfl))
          have Zs78 : n0 ≤ h77.size := by rw [W77.size]; exact Zj
          refine Go.by st77 ?_
          show Go p.tables e below _ (T77.setTop (mkF m 184 #[.val (.ref a1), .val (.long k), .second, .val (.long w), .second, .val (.int (15 : Int32)), .val (.long cur), .second, .val (.long w2), .second, .val (.int (Int32.ofNat i)), .val (.int (Int32.ofNat dist)), .val (.int y12), .val (.long y13), .second, .val (.long y15), .second] []))
          have Vu79 := Avf.cong V77 (g := (fun jj => (.long ((upd fj (2 * i) cur) jj)))) (fun t _ => upd_eq fj (2 * i) cur t)
          refine Go.by (fun _ => XS.aloadN X77.here hx rfl (hb hby d7_184) rfl rfl) ?_
          obtain ⟨T80, X80, st80⟩ := X77.getF hx hZ hown (host := "") (Or.inl (tw hw 14 rfl)) Via.refl f78_665 (g := (mkF m 185 #[.val (.ref a1), .val (.long k), .second, .val (.long w), .second, .val (.int (15 : Int32)), .val (.long cur), .second, .val (.long w2), .second, .val (.int (Int32.ofNat i)), .val (.int (Int32.ofNat dist)), .val (.int y12), .val (.long y13), .second, .val (.long y15), .second] [(.ref a1)])) rfl rfl (hb hby d7_185)
          refine Go.by st80 ?_
          show Go p.tables e below _ (T80.setTop (mkF m 188 #[.val (.ref a1), .val (.long k), .second, .val (.long w), .second, .val (.int (15 : Int32)), .val (.long cur), .second, .val (.long w2), .second, .val (.int (Int32.ofNat i)), .val (.int (Int32.ofNat dist)), .val (.int y12), .val (.long y13), .second, .val (.long y15), .second] [(.ref d)]))
          refine Go.by (fun _ => XS.iconst X80.here hx rfl (hb hby d7_188)) ?_
          refine Go.by (fun _ => XS.iload X80.here hx rfl (hb hby d7_189) rfl) ?_
          refine Go.by (fun _ => XS.imul X80.here hx rfl (hb hby d7_191) rfl) ?_
          refine Go.by (fun _ => XS.iconst X80.here hx rfl (hb hby d7_192)) ?_
          refine Go.by (fun _ => XS.iadd X80.here hx rfl (hb hby d7_193) rfl) ?_
          show Go p.tables e below _ (T80.setTop (mkF m 194 #[.val (.ref a1), .val (.long k), .second, .val (.long w), .second, .val (.int (15 : Int32)), .val (.long cur), .second, .val (.long w2), .second, .val (.int (Int32.ofNat i)), .val (.int (Int32.ofNat dist)), .val (.int y12), .val (.long y13), .second, .val (.long y15), .second] [(.int (((2 : Int32) * (Int32.ofNat i)) + (1 : Int32))), (.ref d)]))
          refine Go.by (fun _ => XS.lload X80.here hx rfl (hb hby d7_194) rfl) ?_
          obtain ⟨T81, h81, X81, W81, V81, st81⟩ := X80.stJ hx hZ Vu79 g_d (ix1_n hi) (i := 2 * i + 1) (ix1_c hi) (ix1_l hi) (g := (mkF m 196 #[.val (.ref a1), .val (.long k), .second, .val (.long w), .second, .val (.int (15 : Int32)), .val (.long cur), .second, .val (.long w2), .second, .val (.int (Int32.ofNat i)), .val (.int (Int32.ofNat dist)), .val (.int y12), .val (.long y13), .second, .val (.long y15), .second] [(.long w2), (.int (((2 : Int32) * (Int32.ofNat i)) + (1 : Int32))), (.ref d)])) rfl rfl (hb hby d7_196)
          have f82_684 := f78_664.wr W81
          have f82_685 := f78_665.other W81 (Or.inl nad)
          have f82_686 := f78_666.other W81 (Or.inl nad)
          have f82_687 := f78_667.wr W81 (Or.inl (List.mem_of_getElem? (i := 0) rfl))
          have Zs82 : n0 ≤ h81.size := by rw [W81.size]; exact Zs78
          refine Go.by st81 ?_
          show Go p.tables e below _ (T81.setTop (mkF m 197 #[.val (.ref a1), .val (.long k), .second, .val (.long w), .second, .val (.int (15 : Int32)), .val (.long cur), .second, .val (.long w2), .second, .val (.int (Int32.ofNat i)), .val (.int (Int32.ofNat dist)), .val (.int y12), .val (.long y13), .second, .val (.long y15), .second] []))
          have Vu83 := Avf.cong V81 (g := (fun jj => (.long ((upd (upd fj (2 * i) cur) (2 * i + 1) w2) jj)))) (fun t _ => upd_eq (upd fj (2 * i) cur) (2 * i + 1) w2 t)
          refine Go.ret0 X81 hx hlk hret (hb hby d7_197) (by decide) (by decide) ?_
          refine ⟨rfl, f82_687, _, Vu83, Lf_odd (Lf_put hLj hi (by omega) he hcur hCh (Or.inl ((lw_eq _ _).mp hc41_75))), fun x hx => ?_, ?_⟩
          · have a1 := cnt_upd (f := fj) (i := i) (v := cur) hi hx
            have a2 := hcnt x hx
            rw [((lw_eq _ _).mp hc41_75), one_zero hx] at a1
            rw [pre_odd]; omega
          · rw [pre_odd, len_more hi ((lw_eq _ _).mp hc41_75) hcur, hlen]
        · skip
          refine Go.by (fun _ => XS.ifNo X74.here hx rfl (hb hby d7_41) rfl ((if0 _ _).trans (feq hc41_75).1)) ?_
          show Go p.tables e below _ (T74.setTop (mkF m 44 #[.val (.ref a1), .val (.long k), .second, .val (.long w), .second, .val (.int (15 : Int32)), .val (.long cur), .second, .val (.long w2), .second, .val (.int (Int32.ofNat i)), .val (.int (Int32.ofNat dist)), .val (.int y12), .val (.long y13), .second, .val (.long y15), .second] []))
          refine Go.by (fun _ => XS.iload X74.here hx rfl (hb hby d7_44) rfl) ?_
          refine Go.by (fun _ => XS.bipush X74.here hx rfl (hb hby d7_46)) ?_
          refine Go.by (fun _ => XS.icmpYes X74.here hx rfl (pc0 := 48) (pc' := 81) rfl (hb hby d7_48) rfl (flt ((d32 (by omega)))).2.2.2 (by decide) (by decide)) ?_
          show Go p.tables e below _ (T74.setTop (mkF m 81 #[.val (.ref a1), .val (.long k), .second, .val (.long w), .second, .val (.int (15 : Int32)), .val (.long cur), .second, .val (.long w2), .second, .val (.int (Int32.ofNat i)), .val (.int (Int32.ofNat dist)), .val (.int y12), .val (.long y13), .second, .val (.long y15), .second] []))
          refine Go.by (fun _ => XS.aloadN X74.here hx rfl (hb hby d7_81) rfl rfl) ?_
          show Go p.tables e below _ (T74.setTop (mkF m 82 #[.val (.ref a1), .val (.long k), .second, .val (.long w), .second, .val (.int (15 : Int32)), .val (.long cur), .second, .val (.long w2), .second, .val (.int (Int32.ofNat i)), .val (.int (Int32.ofNat dist)), .val (.int y12), .val (.long y13), .second, .val (.long y15), .second] [(.ref a1)]))
          refine Go.by (fun _ => XS.iload X74.here hx rfl (hb hby d7_82) rfl) ?_
          refine Go.by (fun _ => XS.iload X74.here hx rfl (hb hby d7_84) rfl) ?_
          obtain ⟨v84, T84, h84, X84, q84, st84⟩ := X74.callP hx hZ (y := (⟨"com/example/shrike/shrike/store/LongMap", "displacement", "(II)I"⟩ : MethodName)) hown (tw hw 58 rfl) (tw hw 59 rfl) (sel_priv (tw hw 20 rfl) rfl (tw hw 60 rfl) (tw hw 59 rfl) (by decide)) (tw hw 60 rfl) (tw hw 6 rfl) (tw hw 61 rfl) (by decide) (rm13 l Z a0 hw [] a1 d kd fj i hj n0 Zj Ej Fsj Fmj Vj hi) Ej (g := (mkF m 86 #[.val (.ref a1), .val (.long k), .second, .val (.long w), .second, .val (.int (15 : Int32)), .val (.long cur), .second, .val (.long w2), .second, .val (.int (Int32.ofNat i)), .val (.int (Int32.ofNat dist)), .val (.int y12), .val (.long y13), .second, .val (.long y15), .second] [(.int (15 : Int32)), (.int (Int32.ofNat i)), (.ref a1)])) rfl (by rw [hml]; rfl) (argsL := [(.int (Int32.ofNat i)), (.int (15 : Int32))]) (rest := []) (lenOf pd1 rfl) rfl (hb hby d7_86) rfl (by decide) (Nat.le_of_ble_eq_true rfl) (k' := 0) (n' := 0) rfl rfl (by decide) (by decide)
          refine Go.by st84 ?_
          obtain ⟨rfl, rfl⟩ := q84
          show Go p.tables e below _ (T84.setTop (mkF m 89 #[.val (.ref a1), .val (.long k), .second, .val (.long w), .second, .val (.int (15 : Int32)), .val (.long cur), .second, .val (.long w2), .second, .val (.int (Int32.ofNat i)), .val (.int (Int32.ofNat dist)), .val (.int y12), .val (.long y13), .second, .val (.long y15), .second] [(.int (Int32.ofNat (dp fj i)))]))
          refine Go.by (fun _ => XS.istore X84.here hx rfl (hb hby d7_89) rfl (l' := #[.val (.ref a1), .val (.long k), .second, .val (.long w), .second, .val (.int (15 : Int32)), .val (.long cur), .second, .val (.long w2), .second, .val (.int (Int32.ofNat i)), .val (.int (Int32.ofNat dist)), .val (.int (Int32.ofNat (dp fj i))), .val (.long y13), .second, .val (.long y15), .second]) rfl) ?_
          show Go p.tables e below _ (T84.setTop (mkF m 91 #[.val (.ref a1), .val (.long k), .second, .val (.long w), .second, .val (.int (15 : Int32)), .val (.long cur), .second, .val (.long w2), .second, .val (.int (Int32.ofNat i)), .val (.int (Int32.ofNat dist)), .val (.int (Int32.ofNat (dp fj i))), .val (.long y13), .second, .val (.long y15), .second] []))
          refine Go.by (fun _ => XS.iload X84.here hx rfl (hb hby d7_91) rfl) ?_
          refine Go.by (fun _ => XS.iload X84.here hx rfl (hb hby d7_93) rfl) ?_
          show Go p.tables e below _ (T84.setTop (mkF m 95 #[.val (.ref a1), .val (.long k), .second, .val (.long w), .second, .val (.int (15 : Int32)), .val (.long cur), .second, .val (.long w2), .second, .val (.int (Int32.ofNat i)), .val (.int (Int32.ofNat dist)), .val (.int (Int32.ofNat (dp fj i))), .val (.long y13), .second, .val (.long y15), .second] [(.int (Int32.ofNat dist)), (.int (Int32.ofNat (dp fj i)))]))
          by_cases hc95_85 : (Int32.ofNat (dp fj i)) < (Int32.ofNat dist)
          · skip
            refine Go.by (fun _ => XS.icmpNo X84.here hx rfl (hb hby d7_95) rfl (tlt hc95_85).2.1) ?_
            show Go p.tables e below _ (T84.setTop (mkF m 98 #[.val (.ref a1), .val (.long k), .second, .val (.long w), .second, .val (.int (15 : Int32)), .val (.long cur), .second, .val (.long w2), .second, .val (.int (Int32.ofNat i)), .val (.int (Int32.ofNat dist)), .val (.int (Int32.ofNat (dp fj i))), .val (.long y13), .second, .val (.long y15), .second] []))
            refine Go.by (fun _ => XS.aloadN X84.here hx rfl (hb hby d7_98) rfl rfl) ?_
            obtain ⟨T86, X86, st86⟩ := X84.getF hx hZ hown (host := "") (Or.inl (tw hw 14 rfl)) Via.refl Fsj (g := (mkF m 99 #[.val (.ref a1), .val (.long k), .second, .val (.long w), .second, .val (.int (15 : Int32)), .val (.long cur), .second, .val (.long w2), .second, .val (.int (Int32.ofNat i)), .val (.int (Int32.ofNat dist)), .val (.int (Int32.ofNat (dp fj i))), .val (.long y13), .second, .val (.long y15), .second] [(.ref a1)])) rfl rfl (hb hby d7_99)
            refine Go.by st86 ?_
            show Go p.tables e below _ (T86.setTop (mkF m 102 #[.val (.ref a1), .val (.long k), .second, .val (.long w), .second, .val (.int (15 : Int32)), .val (.long cur), .second, .val (.long w2), .second, .val (.int (Int32.ofNat i)), .val (.int (Int32.ofNat dist)), .val (.int (Int32.ofNat (dp fj i))), .val (.long y13), .second, .val (.long y15), .second] [(.ref d)]))
            refine Go.by (fun _ => XS.iconst X86.here hx rfl (hb hby d7_102)) ?_
            refine Go.by (fun _ => XS.iload X86.here hx rfl (hb hby d7_103) rfl) ?_
            refine Go.by (fun _ => XS.imul X86.here hx rfl (hb hby d7_105) rfl) ?_
            show Go p.tables e below _ (T86.setTop (mkF m 106 #[.val (.ref a1), .val (.long k), .second, .val (.long w), .second, .val (.int (15 : Int32)), .val (.long cur), .second, .val (.long w2), .second, .val (.int (Int32.ofNat i)), .val (.int (Int32.ofNat dist)), .val (.int (Int32.ofNat (dp fj i))), .val (.long y13), .second, .val (.long y15), .second] [(.int ((2 : Int32) * (Int32.ofNat i))), (.ref d)]))
            refine Go.by (X86.ldJ hx hZ Vj (ix_n hi) (i := 2 * i) (ix_c hi) (ix_l hi) (v := (.long (fj (2 * i)))) rfl (g := (mkF m 106 #[.val (.ref a1), .val (.long k), .second, .val (.long w), .second, .val (.int (15 : Int32)), .val (.long cur), .second, .val (.long w2), .second, .val (.int (Int32.ofNat i)), .val (.int (Int32.ofNat dist)), .val (.int (Int32.ofNat (dp fj i))), .val (.long y13), .second, .val (.long y15), .second] [(.int ((2 : Int32) * (Int32.ofNat i))), (.ref d)])) rfl rfl (hb hby d7_106)) ?_
            show Go p.tables e below _ (T86.setTop (mkF m 107 #[.val (.ref a1), .val (.long k), .second, .val (.long w), .second, .val (.int (15 : Int32)), .val (.long cur), .second, .val (.long w2), .second, .val (.int (Int32.ofNat i)), .val (.int (Int32.ofNat dist)), .val (.int (Int32.ofNat (dp fj i))), .val (.long y13), .second, .val (.long y15), .second] [(.long (fj (2 * i)))]))
            refine Go.by (fun _ => XS.lstore X86.here hx rfl (hb hby d7_107) rfl (l' := #[.val (.ref a1), .val (.long k), .second, .val (.long w), .second, .val (.int (15 : Int32)), .val (.long cur), .second, .val (.long w2), .second, .val (.int (Int32.ofNat i)), .val (.int (Int32.ofNat dist)), .val (.int (Int32.ofNat (dp fj i))), .val (.long (fj (2 * i))), .second, .val (.long y15), .second]) rfl) ?_
            show Go p.tables e below _ (T86.setTop (mkF m 109 #[.val (.ref a1), .val (.long k), .second, .val (.long w), .second, .val (.int (15 : Int32)), .val (.long cur), .second, .val (.long w2), .second, .val (.int (Int32.ofNat i)), .val (.int (Int32.ofNat dist)), .val (.int (Int32.ofNat (dp fj i))), .val (.long (fj (2 * i))), .second, .val (.long y15), .second] []))
            refine Go.by (fun _ => XS.aloadN X86.here hx rfl (hb hby d7_109) rfl rfl) ?_
            obtain ⟨T87, X87, st87⟩ := X86.getF hx hZ hown (host := "") (Or.inl (tw hw 14 rfl)) Via.refl Fsj (g := (mkF m 110 #[.val (.ref a1), .val (.long k), .second, .val (.long w), .second, .val (.int (15 : Int32)), .val (.long cur), .second, .val (.long w2), .second, .val (.int (Int32.ofNat i)), .val (.int (Int32.ofNat dist)), .val (.int (Int32.ofNat (dp fj i))), .val (.long (fj (2 * i))), .second, .val (.long y15), .second] [(.ref a1)])) rfl rfl (hb hby d7_110)
            refine Go.by st87 ?_
            show Go p.tables e below _ (T87.setTop (mkF m 113 #[.val (.ref a1), .val (.long k), .second, .val (.long w), .second, .val (.int (15 : Int32)), .val (.long cur), .second, .val (.long w2), .second, .val (.int (Int32.ofNat i)), .val (.int (Int32.ofNat dist)), .val (.int (Int32.ofNat (dp fj i))), .val (.long (fj (2 * i))), .second, .val (.long y15), .second] [(.ref d)]))
            refine Go.by (fun _ => XS.iconst X87.here hx rfl (hb hby d7_113)) ?_
            show Go p.tables e below _ (T87.setTop (mkF m 114 #[.val (.ref a1), .val (.long k), .second, .val (.long w), .second, .val (.int (15 : Int32)), .val (.long cur), .second, .val (.long w2), .second, .val (.int (Int32.ofNat i)), .val (.int (Int32.ofNat dist)), .val (.int (Int32.ofNat (dp fj i))), .val (.long (fj (2 * i))), .second, .val (.long y15), .second] [(.int (2 : Int32)), (.ref d)]))
            refine Go.by (fun _ => XS.iload X87.here hx rfl (hb hby d7_114) rfl) ?_
            refine Go.by (fun _ => XS.imul X87.here hx rfl (hb hby d7_116) rfl) ?_
            refine Go.by (fun _ => XS.iconst X87.here hx rfl (hb hby d7_117)) ?_
            refine Go.by (fun _ => XS.iadd X87.here hx rfl (hb hby d7_118) rfl) ?_
            refine Go.by (X87.ldJ hx hZ Vj (ix1_n hi) (i := 2 * i + 1) (ix1_c hi) (ix1_l hi) (v := (.long (fj (2 * i + 1)))) rfl (g := (mkF m 119 #[.val (.ref a1), .val (.long k), .second, .val (.long w), .second, .val (.int (15 : Int32)), .val (.long cur), .second, .val (.long w2), .second, .val (.int (Int32.ofNat i)), .val (.int (Int32.ofNat dist)), .val (.int (Int32.ofNat (dp fj i))), .val (.long (fj (2 * i))), .second, .val (.long y15), .second] [(.int (((2 : Int32) * (Int32.ofNat i)) + (1 : Int32))), (.ref d)])) rfl rfl (hb hby d7_119)) ?_
            show Go p.tables e below _ (T87.setTop (mkF m 120 #[.val (.ref a1), .val (.long k), .second, .val (.long w), .second, .val (.int (15 : Int32)), .val (.long cur), .second, .val (.long w2), .second, .val (.int (Int32.ofNat i)), .val (.int (Int32.ofNat dist)), .val (.int (Int32.ofNat (dp fj i))), .val (.long (fj (2 * i))), .second, .val (.long y15), .second] [(.long (fj (2 * i + 1)))]))
            refine Go.by (fun _ => XS.lstore X87.here hx rfl (hb hby d7_120) rfl (l' := #[.val (.ref a1), .val (.long k), .second, .val (.long w), .second, .val (.int (15 : Int32)), .val (.long cur), .second, .val (.long w2), .second, .val (.int (Int32.ofNat i)), .val (.int (Int32.ofNat dist)), .val (.int (Int32.ofNat (dp fj i))), .val (.long (fj (2 * i))), .second, .val (.long (fj (2 * i + 1))), .second]) rfl) ?_
            show Go p.tables e below _ (T87.setTop (mkF m 122 #[.val (.ref a1), .val (.long k), .second, .val (.long w), .second, .val (.int (15 : Int32)), .val (.long cur), .second, .val (.long w2), .second, .val (.int (Int32.ofNat i)), .val (.int (Int32.ofNat dist)), .val (.int (Int32.ofNat (dp fj i))), .val (.long (fj (2 * i))), .second, .val (.long (fj (2 * i + 1))), .second] []))
            refine Go.by (fun _ => XS.aloadN X87.here hx rfl (hb hby d7_122) rfl rfl) ?_
            obtain ⟨T88, X88, st88⟩ := X87.getF hx hZ hown (host := "") (Or.inl (tw hw 14 rfl)) Via.refl Fsj (g := (mkF m 123 #[.val (.ref a1), .val (.long k), .second, .val (.long w), .second, .val (.int (15 : Int32)), .val (.long cur), .second, .val (.long w2), .second, .val (.int (Int32.ofNat i)), .val (.int (Int32.ofNat dist)), .val (.int (Int32.ofNat (dp fj i))), .val (.long (fj (2 * i))), .second, .val (.long (fj (2 * i + 1))), .second] [(.ref a1)])) rfl rfl (hb hby d7_123)
            refine Go.by st88 ?_
            show Go p.tables e below _ (T88.setTop (mkF m 126 #[.val (.ref a1), .val (.long k), .second, .val (.long w), .second, .val (.int (15 : Int32)), .val (.long cur), .second, .val (.long w2), .second, .val (.int (Int32.ofNat i)), .val (.int (Int32.ofNat dist)), .val (.int (Int32.ofNat (dp fj i))), .val (.long (fj (2 * i))), .second, .val (.long (fj (2 * i + 1))), .second] [(.ref d)]))
            refine Go.by (fun _ => XS.iconst X88.here hx rfl (hb hby d7_126)) ?_
            refine Go.by (fun _ => XS.iload X88.here hx rfl (hb hby d7_127) rfl) ?_
            show Go p.tables e below _ (T88.setTop (mkF m 129 #[.val (.ref a1), .val (.long k), .second, .val (.long w), .second, .val (.int (15 : Int32)), .val (.long cur), .second, .val (.long w2), .second, .val (.int (Int32.ofNat i)), .val (.int (Int32.ofNat dist)), .val (.int (Int32.ofNat (dp fj i))), .val (.long (fj (2 * i))), .second, .val (.long (fj (2 * i + 1))), .second] [(.int (Int32.ofNat i)), (.int (2 : Int32)), (.ref d)]))
            refine Go.by (fun _ => XS.imul X88.here hx rfl (hb hby d7_129) rfl) ?_
            refine Go.by (fun _ => XS.lload X88.here hx rfl (hb hby d7_130) rfl) ?_
            obtain ⟨T89, h89, X89, W89, V89, st89⟩ := X88.stJ hx hZ Vj g_d (ix_n hi) (i := 2 * i) (ix_c hi) (ix_l hi) (g := (mkF m 132 #[.val (.ref a1), .val (.long k), .second, .val (.long w), .second, .val (.int (15 : Int32)), .val (.long cur), .second, .val (.long w2), .second, .val (.int (Int32.ofNat i)), .val (.int (Int32.ofNat dist)), .val (.int (Int32.ofNat (dp fj i))), .val (.long (fj (2 * i))), .second, .val (.long (fj (2 * i + 1))), .second] [(.long cur), (.int ((2 : Int32) * (Int32.ofNat i))), (.ref d)])) rfl rfl (hb hby d7_132)
            have f90_759 := Ej.wr W89
            have f90_760 := Fsj.other W89 (Or.inl nad)
            have f90_761 := Fmj.other W89 (Or.inl nad)
            have f90_762 := Kj.wr W89 (Or.inl (List.mem_of_getElem? (i := 0) rfl))
            have Zs90 : n0 ≤ h89.size := by rw [W89.size]; exact Zj
            refine Go.by st89 ?_
            show Go p.tables e below _ (T89.setTop (mkF m 133 #[.val (.ref a1), .val (.long k), .second, .val (.long w), .second, .val (.int (15 : Int32)), .val (.long cur), .second, .val (.long w2), .second, .val (.int (Int32.ofNat i)), .val (.int (Int32.ofNat dist)), .val (.int (Int32.ofNat (dp fj i))), .val (.long (fj (2 * i))), .second, .val (.long (fj (2 * i + 1))), .second] []))
            have Vu91 := Avf.cong V89 (g := (fun jj => (.long ((upd fj (2 * i) cur) jj)))) (fun t _ => upd_eq fj (2 * i) cur t)
            refine Go.by (fun _ => XS.aloadN X89.here hx rfl (hb hby d7_133) rfl rfl) ?_
            obtain ⟨T92, X92, st92⟩ := X89.getF hx hZ hown (host := "") (Or.inl (tw hw 14 rfl)) Via.refl f90_760 (g := (mkF m 134 #[.val (.ref a1), .val (.long k), .second, .val (.long w), .second, .val (.int (15 : Int32)), .val (.long cur), .second, .val (.long w2), .second, .val (.int (Int32.ofNat i)), .val (.int (Int32.ofNat dist)), .val (.int (Int32.ofNat (dp fj i))), .val (.long (fj (2 * i))), .second, .val (.long (fj (2 * i + 1))), .second] [(.ref a1)])) rfl rfl (hb hby d7_134)
            refine Go.by st92 ?_
            show Go p.tables e below _ (T92.setTop (mkF m 137 #[.val (.ref a1), .val (.long k), .second, .val (.long w), .second, .val (.int (15 : Int32)), .val (.long cur), .second, .val (.long w2), .second, .val (.int (Int32.ofNat i)), .val (.int (Int32.ofNat dist)), .val (.int (Int32.ofNat (dp fj i))), .val (.long (fj (2 * i))), .second, .val (.long (fj (2 * i + 1))), .second] [(.ref d)]))
            refine Go.by (fun _ => XS.iconst X92.here hx rfl (hb hby d7_137)) ?_
            refine Go.by (fun _ => XS.iload X92.here hx rfl (hb hby d7_138) rfl) ?_
            refine Go.by (fun _ => XS.imul X92.here hx rfl (hb hby d7_140) rfl) ?_
            refine Go.by (fun _ => XS.iconst X92.here hx rfl (hb hby d7_141)) ?_
            refine Go.by (fun _ => XS.iadd X92.here hx rfl (hb hby d7_142) rfl) ?_
            show Go p.tables e below _ (T92.setTop (mkF m 143 #[.val (.ref a1), .val (.long k), .second, .val (.long w), .second, .val (.int (15 : Int32)), .val (.long cur), .second, .val (.long w2), .second, .val (.int (Int32.ofNat i)), .val (.int (Int32.ofNat dist)), .val (.int (Int32.ofNat (dp fj i))), .val (.long (fj (2 * i))), .second, .val (.long (fj (2 * i + 1))), .second] [(.int (((2 : Int32) * (Int32.ofNat i)) + (1 : Int32))), (.ref d)]))
            refine Go.by (fun _ => XS.lload X92.here hx rfl (hb hby d7_143) rfl) ?_
            obtain ⟨T93, h93, X93, W93, V93, st93⟩ := X92.stJ hx hZ Vu91 g_d (ix1_n hi) (i := 2 * i + 1) (ix1_c hi) (ix1_l hi) (g := (mkF m 145 #[.val (.ref a1), .val (.long k), .second, .val (.long w), .second, .val (.int (15 : Int32)), .val (.long cur), .second, .val (.long w2), .second, .val (.int (Int32.ofNat i)), .val (.int (Int32.ofNat dist)), .val (.int (Int32.ofNat (dp fj i))), .val (.long (fj (2 * i))), .second, .val (.long (fj (2 * i + 1))), .second] [(.long w2), (.int (((2 : Int32) * (Int32.ofNat i)) + (1 : Int32))), (.ref d)])) rfl rfl (hb hby d7_145)
            have f94_779 := f90_759.wr W93
            have f94_780 := f90_760.other W93 (Or.inl nad)
            have f94_781 := f90_761.other W93 (Or.inl nad)
            have f94_782 := f90_762.wr W93 (Or.inl (List.mem_of_getElem? (i := 0) rfl))
            have Zs94 : n0 ≤ h93.size := by rw [W93.size]; exact Zs90
            refine Go.by st93 ?_
            show Go p.tables e below _ (T93.setTop (mkF m 146 #[.val (.ref a1), .val (.long k), .second, .val (.long w), .second, .val (.int (15 : Int32)), .val (.long cur), .second, .val (.long w2), .second, .val (.int (Int32.ofNat i)), .val (.int (Int32.ofNat dist)), .val (.int (Int32.ofNat (dp fj i))), .val (.long (fj (2 * i))), .second, .val (.long (fj (2 * i + 1))), .second] []))
            have Vu95 := Avf.cong V93 (g := (fun jj => (.long ((upd (upd fj (2 * i) cur) (2 * i + 1) w2) jj)))) (fun t _ => upd_eq (upd fj (2 * i) cur) (2 * i + 1) w2 t)
            refine Go.by (fun _ => XS.lload X93.here hx rfl (hb hby d7_146) rfl) ?_
            refine Go.by (fun _ => XS.lstore X93.here hx rfl (hb hby d7_148) rfl (l' := #[.val (.ref a1), .val (.long k), .second, .val (.long w), .second, .val (.int (15 : Int32)), .val (.long (fj (2 * i))), .second, .val (.long w2), .second, .val (.int (Int32.ofNat i)), .val (.int (Int32.ofNat dist)), .val (.int (Int32.ofNat (dp fj i))), .val (.long (fj (2 * i))), .second, .val (.long (fj (2 * i + 1))), .second]) rfl) ?_
            show Go p.tables e below _ (T93.setTop (mkF m 150 #[.val (.ref a1), .val (.long k), .second, .val (.long w), .second, .val (.int (15 : Int32)), .val (.long (fj (2 * i))), .second, .val (.long w2), .second, .val (.int (Int32.ofNat i)), .val (.int (Int32.ofNat dist)), .val (.int (Int32.ofNat (dp fj i))), .val (.long (fj (2 * i))), .second, .val (.long (fj (2 * i + 1))), .second] []))
            refine Go.by (fun _ => XS.lload X93.here hx rfl (hb hby d7_150) rfl) ?_
            show Go p.tables e below _ (T93.setTop (mkF m 152 #[.val (.ref a1), .val (.long k), .second, .val (.long w), .second, .val (.int (15 : Int32)), .val (.long (fj (2 * i))), .second, .val (.long w2), .second, .val (.int (Int32.ofNat i)), .val (.int (Int32.ofNat dist)), .val (.int (Int32.ofNat (dp fj i))), .val (.long (fj (2 * i))), .second, .val (.long (fj (2 * i + 1))), .second] [(.long (fj (2 * i + 1)))]))
            refine Go.by (fun _ => XS.lstore X93.here hx rfl (hb hby d7_152) rfl (l' := #[.val (.ref a1), .val (.long k), .second, .val (.long w), .second, .val (.int (15 : Int32)), .val (.long (fj (2 * i))), .second, .val (.long (fj (2 * i + 1))), .second, .val (.int (Int32.ofNat i)), .val (.int (Int32.ofNat dist)), .val (.int (Int32.ofNat (dp fj i))), .val (.long (fj (2 * i))), .second, .val (.long (fj (2 * i + 1))), .second]) rfl) ?_
            show Go p.tables e below _ (T93.setTop (mkF m 154 #[.val (.ref a1), .val (.long k), .second, .val (.long w), .second, .val (.int (15 : Int32)), .val (.long (fj (2 * i))), .second, .val (.long (fj (2 * i + 1))), .second, .val (.int (Int32.ofNat i)), .val (.int (Int32.ofNat dist)), .val (.int (Int32.ofNat (dp fj i))), .val (.long (fj (2 * i))), .second, .val (.long (fj (2 * i + 1))), .second] []))
            refine Go.by (fun _ => XS.iload X93.here hx rfl (hb hby d7_154) rfl) ?_
            refine Go.by (fun _ => XS.istore X93.here hx rfl (hb hby d7_156) rfl (l' := #[.val (.ref a1), .val (.long k), .second, .val (.long w), .second, .val (.int (15 : Int32)), .val (.long (fj (2 * i))), .second, .val (.long (fj (2 * i + 1))), .second, .val (.int (Int32.ofNat i)), .val (.int (Int32.ofNat (dp fj i))), .val (.int (Int32.ofNat (dp fj i))), .val (.long (fj (2 * i))), .second, .val (.long (fj (2 * i + 1))), .second]) rfl) ?_
            show Go p.tables e below _ (T93.setTop (mkF m 158 #[.val (.ref a1), .val (.long k), .second, .val (.long w), .second, .val (.int (15 : Int32)), .val (.long (fj (2 * i))), .second, .val (.long (fj (2 * i + 1))), .second, .val (.int (Int32.ofNat i)), .val (.int (Int32.ofNat (dp fj i))), .val (.int (Int32.ofNat (dp fj i))), .val (.long (fj (2 * i))), .second, .val (.long (fj (2 * i + 1))), .second] []))
            refine Go.by (fun _ => XS.iload X93.here hx rfl (hb hby d7_158) rfl) ?_
            refine Go.by (fun _ => XS.iconst X93.here hx rfl (hb hby d7_160)) ?_
            show Go p.tables e below _ (T93.setTop (mkF m 161 #[.val (.ref a1), .val (.long k), .second, .val (.long w), .second, .val (.int (15 : Int32)), .val (.long (fj (2 * i))), .second, .val (.long (fj (2 * i + 1))), .second, .val (.int (Int32.ofNat i)), .val (.int (Int32.ofNat (dp fj i))), .val (.int (Int32.ofNat (dp fj i))), .val (.long (fj (2 * i))), .second, .val (.long (fj (2 * i + 1))), .second] [(.int (1 : Int32)), (.int (Int32.ofNat i))]))
            refine Go.by (fun _ => XS.iadd X93.here hx rfl (hb hby d7_161) rfl) ?_
            refine Go.by (fun _ => XS.iload X93.here hx rfl (hb hby d7_162) rfl) ?_
            refine Go.by (fun _ => XS.iand X93.here hx rfl (hb hby d7_164) rfl) ?_
            refine Go.by (fun _ => XS.istore X93.here hx rfl (hb hby d7_165) rfl (l' := #[.val (.ref a1), .val (.long k), .second, .val (.long w), .second, .val (.int (15 : Int32)), .val (.long (fj (2 * i))), .second, .val (.long (fj (2 * i + 1))), .second, .val (.int (((Int32.ofNat i) + (1 : Int32)) &&& (15 : Int32))), .val (.int (Int32.ofNat (dp fj i))), .val (.int (Int32.ofNat (dp fj i))), .val (.long (fj (2 * i))), .second, .val (.long (fj (2 * i + 1))), .second]) rfl) ?_
            show Go p.tables e below _ (T93.setTop (mkF m 167 #[.val (.ref a1), .val (.long k), .second, .val (.long w), .second, .val (.int (15 : Int32)), .val (.long (fj (2 * i))), .second, .val (.long (fj (2 * i + 1))), .second, .val (.int (((Int32.ofNat i) + (1 : Int32)) &&& (15 : Int32))), .val (.int (Int32.ofNat (dp fj i))), .val (.int (Int32.ofNat (dp fj i))), .val (.long (fj (2 * i))), .second, .val (.long (fj (2 * i + 1))), .second] []))
            refine Go.by (fun _ => XS.iinc X93.here hx rfl (hb hby d7_167) rfl (l' := #[.val (.ref a1), .val (.long k), .second, .val (.long w), .second, .val (.int (15 : Int32)), .val (.long (fj (2 * i))), .second, .val (.long (fj (2 * i + 1))), .second, .val (.int (((Int32.ofNat i) + (1 : Int32)) &&& (15 : Int32))), .val (.int ((Int32.ofNat (dp fj i)) + (1 : Int32))), .val (.int (Int32.ofNat (dp fj i))), .val (.long (fj (2 * i))), .second, .val (.long (fj (2 * i + 1))), .second]) rfl) ?_
            show Go p.tables e below _ (T93.setTop (mkF m 170 #[.val (.ref a1), .val (.long k), .second, .val (.long w), .second, .val (.int (15 : Int32)), .val (.long (fj (2 * i))), .second, .val (.long (fj (2 * i + 1))), .second, .val (.int (((Int32.ofNat i) + (1 : Int32)) &&& (15 : Int32))), .val (.int ((Int32.ofNat (dp fj i)) + (1 : Int32))), .val (.int (Int32.ofNat (dp fj i))), .val (.long (fj (2 * i))), .second, .val (.long (fj (2 * i + 1))), .second] []))
            refine Go.by (fun _ => XS.goto X93.here hx rfl (pc0 := 170) (pc' := 30) rfl (hb hby d7_170) (by decide) (by decide)) ?_
            show Go p.tables e below _ (T93.setTop (mkF m 30 #[.val (.ref a1), .val (.long k), .second, .val (.long w), .second, .val (.int (15 : Int32)), .val (.long (fj (2 * i))), .second, .val (.long (fj (2 * i + 1))), .second, .val (.int (((Int32.ofNat i) + (1 : Int32)) &&& (15 : Int32))), .val (.int ((Int32.ofNat (dp fj i)) + (1 : Int32))), .val (.int (Int32.ofNat (dp fj i))), .val (.long (fj (2 * i))), .second, .val (.long (fj (2 * i + 1))), .second] []))
            rw [nxI hi, i32_succ]
            have hne : fj (2 * i) ≠ 0 := (fun z => hc41_75 ((lw_eq _ _).mpr z))
            have hlt : dp fj i < dist := (lt32 (by omega) (by omega)).mp hc95_85
            have hqi : q ≠ i := fun z => hne (by rw [← z]; exact hqj)
            refine ih (upd (upd fj (2 * i) cur) (2 * i + 1) w2) (fj (2 * i)) _ ((i + 1) % 16) (dp fj i + 1) _ _ _ _ _ (Or.inr (Or.inr ⟨_, _, _, rfl, rfl, rfl, rfl, rfl⟩)) (by omega) (by omega) (he_swap fj hi) (by omega) (Lf_odd (Lf_put hLj hi (by omega) he hcur hCh (Or.inr hlt))) ?_ (Ch_odd (Ch_swap hi (by omega) he hcur hlt)) hne (fun x hx => ?_) ?_ _ _ X93 Zs94 f94_782 f94_779 f94_780 f94_781 Vu95
            · rw [upd_odd, upd_even, if_neg hqi]; exact hqj
            · have a1 := cnt_upd (f := fj) (i := i) (v := cur) hi hx
              have a2 := hcnt x hx
              rw [pre_odd]; omega
            · rw [pre_odd, len_same hi hne hcur]; exact hlen
          · skip
            refine Go.by (fun _ => XS.icmpYes X84.here hx rfl (pc0 := 95) (pc' := 158) rfl (hb hby d7_95) rfl (flt hc95_85).2.1 (by decide) (by decide)) ?_
            show Go p.tables e below _ (T84.setTop (mkF m 158 #[.val (.ref a1), .val (.long k), .second, .val (.long w), .second, .val (.int (15 : Int32)), .val (.long cur), .second, .val (.long w2), .second, .val (.int (Int32.ofNat i)), .val (.int (Int32.ofNat dist)), .val (.int (Int32.ofNat (dp fj i))), .val (.long y13), .second, .val (.long y15), .second] []))
            refine Go.by (fun _ => XS.iload X84.here hx rfl (hb hby d7_158) rfl) ?_
            refine Go.by (fun _ => XS.iconst X84.here hx rfl (hb hby d7_160)) ?_
            refine Go.by (fun _ => XS.iadd X84.here hx rfl (hb hby d7_161) rfl) ?_
            refine Go.by (fun _ => XS.iload X84.here hx rfl (hb hby d7_162) rfl) ?_
            refine Go.by (fun _ => XS.iand X84.here hx rfl (hb hby d7_164) rfl) ?_
            show Go p.tables e below _ (T84.setTop (mkF m 165 #[.val (.ref a1), .val (.long k), .second, .val (.long w), .second, .val (.int (15 : Int32)), .val (.long cur), .second, .val (.long w2), .second, .val (.int (Int32.ofNat i)), .val (.int (Int32.ofNat dist)), .val (.int (Int32.ofNat (dp fj i))), .val (.long y13), .second, .val (.long y15), .second] [(.int (((Int32.ofNat i) + (1 : Int32)) &&& (15 : Int32)))]))
            refine Go.by (fun _ => XS.istore X84.here hx rfl (hb hby d7_165) rfl (l' := #[.val (.ref a1), .val (.long k), .second, .val (.long w), .second, .val (.int (15 : Int32)), .val (.long cur), .second, .val (.long w2), .second, .val (.int (((Int32.ofNat i) + (1 : Int32)) &&& (15 : Int32))), .val (.int (Int32.ofNat dist)), .val (.int (Int32.ofNat (dp fj i))), .val (.long y13), .second, .val (.long y15), .second]) rfl) ?_
            show Go p.tables e below _ (T84.setTop (mkF m 167 #[.val (.ref a1), .val (.long k), .second, .val (.long w), .second, .val (.int (15 : Int32)), .val (.long cur), .second, .val (.long w2), .second, .val (.int (((Int32.ofNat i) + (1 : Int32)) &&& (15 : Int32))), .val (.int (Int32.ofNat dist)), .val (.int (Int32.ofNat (dp fj i))), .val (.long y13), .second, .val (.long y15), .second] []))
            refine Go.by (fun _ => XS.iinc X84.here hx rfl (hb hby d7_167) rfl (l' := #[.val (.ref a1), .val (.long k), .second, .val (.long w), .second, .val (.int (15 : Int32)), .val (.long cur), .second, .val (.long w2), .second, .val (.int (((Int32.ofNat i) + (1 : Int32)) &&& (15 : Int32))), .val (.int ((Int32.ofNat dist) + (1 : Int32))), .val (.int (Int32.ofNat (dp fj i))), .val (.long y13), .second, .val (.long y15), .second]) rfl) ?_
            show Go p.tables e below _ (T84.setTop (mkF m 170 #[.val (.ref a1), .val (.long k), .second, .val (.long w), .second, .val (.int (15 : Int32)), .val (.long cur), .second, .val (.long w2), .second, .val (.int (((Int32.ofNat i) + (1 : Int32)) &&& (15 : Int32))), .val (.int ((Int32.ofNat dist) + (1 : Int32))), .val (.int (Int32.ofNat (dp fj i))), .val (.long y13), .second, .val (.long y15), .second] []))
            refine Go.by (fun _ => XS.goto X84.here hx rfl (pc0 := 170) (pc' := 30) rfl (hb hby d7_170) (by decide) (by decide)) ?_
            show Go p.tables e below _ (T84.setTop (mkF m 30 #[.val (.ref a1), .val (.long k), .second, .val (.long w), .second, .val (.int (15 : Int32)), .val (.long cur), .second, .val (.long w2), .second, .val (.int (((Int32.ofNat i) + (1 : Int32)) &&& (15 : Int32))), .val (.int ((Int32.ofNat dist) + (1 : Int32))), .val (.int (Int32.ofNat (dp fj i))), .val (.long y13), .second, .val (.long y15), .second] []))
            rw [nxI hi, i32_succ]
            have hne : fj (2 * i) ≠ 0 := (fun z => hc41_75 ((lw_eq _ _).mpr z))
            have hge : dist ≤ dp fj i := Nat.le_of_not_lt (fun z => hc95_85 ((lt32 (by omega) (by omega)).mpr z))
            exact ih fj cur w2 ((i + 1) % 16) (dist + 1) _ _ _ _ _ (Or.inr (Or.inr ⟨_, _, _, rfl, rfl, rfl, rfl, rfl⟩)) (by omega) (by omega) (he_next he) (by omega) hLj hqj (Ch_next hi hne hge) hcur hcnt hlen _ _ X84 Zj Kj Ej Fsj Fmj Vj
  have hh := hm_lt k
  exact J _ f k w (hm k) 0 _ _ _ _ _ (Or.inl ⟨rfl, rfl, rfl, rfl, rfl⟩) rfl hh (by omega) (by omega) hL hq0 (fun z => absurd z (Nat.lt_irrefl _)) hk (fun x _ => rfl) rfl _ _ X2 Z0 K0 E_a1 Fs_a1 Fm_a1 V_d
theorem d4_0 : decode prog_46_method_4_code 0 = .ok (.lload_n 3, 1) := by decide +kernel
theorem d4_1 : decode prog_46_method_4_code 1 = .ok (.lconst 0, 1) := by decide +kernel
theorem d4_2 : decode prog_46_method_4_code 2 = .ok (.lcmp, 1) := by decide +kernel
theorem d4_3 : decode prog_46_method_4_code 3 = .ok (.ifCond .ne 13, 3) := by decide +kernel
theorem d4_16 : decode prog_46_method_4_code 16 = .ok (.aload_n 0, 1) := by decide +kernel
theorem d4_17 : decode prog_46_method_4_code 17 = .ok (.lload_n 1, 1) := by decide +kernel
theorem d4_18 : decode prog_46_method_4_code 18 = .ok (.invokevirtual 13, 3) := by decide +kernel
theorem pd2 : parseMethodDescriptor "(J)I" = some ⟨[.long], some .int⟩ := by decide +kernel
theorem d4_21 : decode prog_46_method_4_code 21 = .ok (.istore 5, 2) := by decide +kernel
theorem d4_23 : decode prog_46_method_4_code 23 = .ok (.iload 5, 2) := by decide +kernel
theorem d4_25 : decode prog_46_method_4_code 25 = .ok (.ifCond .lt 31, 3) := by decide +kernel
theorem d4_28 : decode prog_46_method_4_code 28 = .ok (.aload_n 0, 1) := by decide +kernel
theorem d4_29 : decode prog_46_method_4_code 29 = .ok (.getfield 9, 3) := by decide +kernel
theorem d4_32 : decode prog_46_method_4_code 32 = .ok (.iconst 2, 1) := by decide +kernel
theorem d4_33 : decode prog_46_method_4_code 33 = .ok (.iload 5, 2) := by decide +kernel
theorem d4_35 : decode prog_46_method_4_code 35 = .ok (.imul, 1) := by decide +kernel
theorem d4_36 : decode prog_46_method_4_code 36 = .ok (.iconst 1, 1) := by decide +kernel
theorem d4_37 : decode prog_46_method_4_code 37 = .ok (.iadd, 1) := by decide +kernel
theorem d4_38 : decode prog_46_method_4_code 38 = .ok (.laload, 1) := by decide +kernel
theorem d4_39 : decode prog_46_method_4_code 39 = .ok (.lstore 6, 2) := by decide +kernel
theorem d4_41 : decode prog_46_method_4_code 41 = .ok (.aload_n 0, 1) := by decide +kernel
theorem d4_42 : decode prog_46_method_4_code 42 = .ok (.getfield 9, 3) := by decide +kernel
theorem d4_45 : decode prog_46_method_4_code 45 = .ok (.iconst 2, 1) := by decide +kernel
theorem d4_46 : decode prog_46_method_4_code 46 = .ok (.iload 5, 2) := by decide +kernel
theorem d4_48 : decode prog_46_method_4_code 48 = .ok (.imul, 1) := by decide +kernel
theorem d4_49 : decode prog_46_method_4_code 49 = .ok (.iconst 1, 1) := by decide +kernel
theorem d4_50 : decode prog_46_method_4_code 50 = .ok (.iadd, 1) := by decide +kernel
theorem d4_51 : decode prog_46_method_4_code 51 = .ok (.lload_n 3, 1) := by decide +kernel
theorem d4_52 : decode prog_46_method_4_code 52 = .ok (.lastore, 1) := by decide +kernel
theorem d4_53 : decode prog_46_method_4_code 53 = .ok (.lload 6, 2) := by decide +kernel
theorem d4_55 : decode prog_46_method_4_code 55 = .ok (.lreturn, 1) := by decide +kernel
theorem d4_56 : decode prog_46_method_4_code 56 = .ok (.iconst 4, 1) := by decide +kernel
theorem d4_57 : decode prog_46_method_4_code 57 = .ok (.aload_n 0, 1) := by decide +kernel
theorem d4_58 : decode prog_46_method_4_code 58 = .ok (.getfield 24, 3) := by decide +kernel
theorem d4_61 : decode prog_46_method_4_code 61 = .ok (.iconst 1, 1) := by decide +kernel
theorem d4_62 : decode prog_46_method_4_code 62 = .ok (.iadd, 1) := by decide +kernel
theorem d4_63 : decode prog_46_method_4_code 63 = .ok (.imul, 1) := by decide +kernel
theorem d4_64 : decode prog_46_method_4_code 64 = .ok (.aload_n 0, 1) := by decide +kernel
theorem d4_65 : decode prog_46_method_4_code 65 = .ok (.getfield 9, 3) := by decide +kernel
theorem d4_68 : decode prog_46_method_4_code 68 = .ok (.arraylength, 1) := by decide +kernel
theorem d4_69 : decode prog_46_method_4_code 69 = .ok (.if_icmp .le 14, 3) := by decide +kernel
theorem d4_83 : decode prog_46_method_4_code 83 = .ok (.aload_n 0, 1) := by decide +kernel
theorem d4_84 : decode prog_46_method_4_code 84 = .ok (.lload_n 1, 1) := by decide +kernel
theorem d4_85 : decode prog_46_method_4_code 85 = .ok (.lload_n 3, 1) := by decide +kernel
theorem d4_86 : decode prog_46_method_4_code 86 = .ok (.invokevirtual 32, 3) := by decide +kernel
theorem pd3 : parseMethodDescriptor "(JJ)V" = some ⟨[.long, .long], none⟩ := by decide +kernel
theorem d4_89 : decode prog_46_method_4_code 89 = .ok (.aload_n 0, 1) := by decide +kernel
theorem d4_90 : decode prog_46_method_4_code 90 = .ok (.dup, 1) := by decide +kernel
theorem d4_91 : decode prog_46_method_4_code 91 = .ok (.getfield 24, 3) := by decide +kernel
theorem d4_94 : decode prog_46_method_4_code 94 = .ok (.iconst 1, 1) := by decide +kernel
theorem d4_95 : decode prog_46_method_4_code 95 = .ok (.iadd, 1) := by decide +kernel
theorem d4_96 : decode prog_46_method_4_code 96 = .ok (.putfield 24, 3) := by decide +kernel
theorem d4_99 : decode prog_46_method_4_code 99 = .ok (.lconst 0, 1) := by decide +kernel
theorem d4_100 : decode prog_46_method_4_code 100 = .ok (.lreturn, 1) := by decide +kernel
abbrev Rm4 : Room := { frames := 3, cells := 0, slots := 0, locals := 62 }
set_option maxRecDepth 65536 in
set_option maxHeartbeats 40000000 in
theorem rm4 (l : Launch) (Z : State) (a0 : Array Value) (hw : ∀ d ∈ tables_1, d.before a0 Z = true) (ws : List Jvm.Cond) (a1 : Addr) (k : Int64) (d : Addr) (kd : ClassId) (f : Nat → Int64) (sz : Nat) (h0 : Heap) (n0 : Nat) (Z0 : n0 ≤ h0.size) (E_a1 : Exa Z h0 a1 "com/example/shrike/shrike/store/LongMap") (Fs_a1 : Fld Z h0 a1 "com/example/shrike/shrike/store/LongMap" "slots" "[J" (.ref d)) (Fm_a1 : Fld Z h0 a1 "com/example/shrike/shrike/store/LongMap" "mixed" "Z" (.int (0 : Int32))) (V_d : Avf Z h0 d kd .long 32 (fun jj => (.long (f jj)))) (Fz_a1 : Fld Z h0 a1 "com/example/shrike/shrike/store/LongMap" "size" "I" (.int (Int32.ofNat sz))) (g_a1 : n0 ≤ a1) (g_d : n0 ≤ d) (hsz : sz = (pre f 16).length) (hs3 : sz ≤ 3) (hL : Lf f) (hk : k ≠ 0) :
    Met l Z n0 (⟨"com/example/shrike/shrike/store/LongMap", "put", "(JJ)J"⟩ : MethodName) prog_46_method_4_code 8 (some .long) ws Rm4 #[(.ref a1), (.long k), (.long (7 : Int64))] h0 (fun v h => ∃ (z : Int64) (f' : Nat → Int64) (sz' : Nat), v = some (.long z) ∧ Keep h0 h [a1, d] ∧ Exa Z h a1 "com/example/shrike/shrike/store/LongMap" ∧ Fld Z h a1 "com/example/shrike/shrike/store/LongMap" "slots" "[J" (.ref d) ∧ Fld Z h a1 "com/example/shrike/shrike/store/LongMap" "mixed" "Z" (.int (0 : Int32)) ∧ Avf Z h d kd .long 32 (fun jj => (.long (f' jj))) ∧ Fld Z h a1 "com/example/shrike/shrike/store/LongMap" "size" "I" (.int (Int32.ofNat sz')) ∧ sz' = (pre f' 16).length ∧ sz' ≤ sz + 1 ∧ (∀ x, x ≠ 0 → (pre f' 16).count x = if k = x then max 1 ((pre f 16).count k) else (pre f 16).count x) ∧ Lf f') := by
  refine enter (Ls := #[.val (.ref a1), .val (.long k), .second, .val (.long (7 : Int64)), .second, .unset, .unset, .unset]) (plainFor_of_name pn1) (fun m => by first | (simp [entryFrame, mkF, argsToLocals, Value.category]; done) | rfl) ?_
  intro p e s m below meth c T0 hx hby hml hown hnm hret hlk hZ X0
  have nad : a1 ≠ d := Ne.symm (exa_nev E_a1 (tw hw 5 rfl) V_d)
  have hE := free_slot f (by omega)
  have K0 := Keep.refl h0 [a1, d]
  show Go p.tables e below _ (T0.setTop (mkF m 0 #[.val (.ref a1), .val (.long k), .second, .val (.long (7 : Int64)), .second, .unset, .unset, .unset] []))
  refine Go.by (fun _ => XS.lloadN X0.here hx rfl (hb hby d4_0) rfl) ?_
  show Go p.tables e below _ (T0.setTop (mkF m 1 #[.val (.ref a1), .val (.long k), .second, .val (.long (7 : Int64)), .second, .unset, .unset, .unset] [(.long (7 : Int64))]))
  refine Go.by (fun _ => XS.lconst X0.here hx rfl (hb hby d4_1)) ?_
  show Go p.tables e below _ (T0.setTop (mkF m 2 #[.val (.ref a1), .val (.long k), .second, .val (.long (7 : Int64)), .second, .unset, .unset, .unset] [(.long (0 : Int64)), (.long (7 : Int64))]))
  refine Go.by (fun _ => XS.lcmp X0.here hx rfl (hb hby d4_2) rfl) ?_
  show Go p.tables e below _ (T0.setTop (mkF m 3 #[.val (.ref a1), .val (.long k), .second, .val (.long (7 : Int64)), .second, .unset, .unset, .unset] [(.int (lcmpW (7 : Int64) (0 : Int64)))]))
  refine Go.by (fun _ => XS.ifYes X0.here hx rfl (pc0 := 3) (pc' := 16) rfl (hb hby d4_3) rfl ((if0 _ _).trans (feq ((by decide))).2) (by decide) (by decide)) ?_
  show Go p.tables e below _ (T0.setTop (mkF m 16 #[.val (.ref a1), .val (.long k), .second, .val (.long (7 : Int64)), .second, .unset, .unset, .unset] []))
  refine Go.by (fun _ => XS.aloadN X0.here hx rfl (hb hby d4_16) rfl rfl) ?_
  show Go p.tables e below _ (T0.setTop (mkF m 17 #[.val (.ref a1), .val (.long k), .second, .val (.long (7 : Int64)), .second, .unset, .unset, .unset] [(.ref a1)]))
  refine Go.by (fun _ => XS.lloadN X0.here hx rfl (hb hby d4_17) rfl) ?_
  show Go p.tables e below _ (T0.setTop (mkF m 18 #[.val (.ref a1), .val (.long k), .second, .val (.long (7 : Int64)), .second, .unset, .unset, .unset] [(.long k), (.ref a1)]))
  obtain ⟨v1, T1, h1, X1, q1, st1⟩ := X0.callP hx hZ (y := (⟨"com/example/shrike/shrike/store/LongMap", "find", "(J)I"⟩ : MethodName)) hown (tw hw 22 rfl) (tw hw 23 rfl) (sel_priv (tw hw 20 rfl) rfl (tw hw 24 rfl) (tw hw 23 rfl) (by decide)) (tw hw 24 rfl) (tw hw 6 rfl) (tw hw 25 rfl) (by decide) (rm5 l Z a0 hw [] a1 k d kd f h0 n0 Z0 E_a1 Fs_a1 Fm_a1 V_d hL hk) E_a1 (g := (mkF m 18 #[.val (.ref a1), .val (.long k), .second, .val (.long (7 : Int64)), .second, .unset, .unset, .unset] [(.long k), (.ref a1)])) rfl (by rw [hml]; rfl) (argsL := [(.long k)]) (rest := []) (lenOf pd2 rfl) rfl (hb hby d4_18) rfl (by decide) (Nat.le_of_ble_eq_true rfl) (k' := 0) (n' := 0) rfl rfl (by decide) (by decide)
  refine Go.by st1 ?_
  rcases q1 with ⟨⟨i1, hi1, hf1, rfl⟩ | ⟨hno1, rfl⟩, rfl⟩
  · skip
    show Go p.tables e below _ (T1.setTop (mkF m 21 #[.val (.ref a1), .val (.long k), .second, .val (.long (7 : Int64)), .second, .unset, .unset, .unset] [(.int (Int32.ofNat i1))]))
    refine Go.by (fun _ => XS.istore X1.here hx rfl (hb hby d4_21) rfl (l' := #[.val (.ref a1), .val (.long k), .second, .val (.long (7 : Int64)), .second, .val (.int (Int32.ofNat i1)), .unset, .unset]) rfl) ?_
    show Go p.tables e below _ (T1.setTop (mkF m 23 #[.val (.ref a1), .val (.long k), .second, .val (.long (7 : Int64)), .second, .val (.int (Int32.ofNat i1)), .unset, .unset] []))
    refine Go.by (fun _ => XS.iload X1.here hx rfl (hb hby d4_23) rfl) ?_
    show Go p.tables e below _ (T1.setTop (mkF m 25 #[.val (.ref a1), .val (.long k), .second, .val (.long (7 : Int64)), .second, .val (.int (Int32.ofNat i1)), .unset, .unset] [(.int (Int32.ofNat i1))]))
    refine Go.by (fun _ => XS.ifNo X1.here hx rfl (hb hby d4_25) rfl ((if0 _ _).trans (flt ((i32_nneg (by omega)))).1)) ?_
    show Go p.tables e below _ (T1.setTop (mkF m 28 #[.val (.ref a1), .val (.long k), .second, .val (.long (7 : Int64)), .second, .val (.int (Int32.ofNat i1)), .unset, .unset] []))
    refine Go.by (fun _ => XS.aloadN X1.here hx rfl (hb hby d4_28) rfl rfl) ?_
    show Go p.tables e below _ (T1.setTop (mkF m 29 #[.val (.ref a1), .val (.long k), .second, .val (.long (7 : Int64)), .second, .val (.int (Int32.ofNat i1)), .unset, .unset] [(.ref a1)]))
    obtain ⟨T2, X2, st2⟩ := X1.getF hx hZ hown (host := "") (Or.inl (tw hw 14 rfl)) Via.refl Fs_a1 (g := (mkF m 29 #[.val (.ref a1), .val (.long k), .second, .val (.long (7 : Int64)), .second, .val (.int (Int32.ofNat i1)), .unset, .unset] [(.ref a1)])) rfl rfl (hb hby d4_29)
    refine Go.by st2 ?_
    show Go p.tables e below _ (T2.setTop (mkF m 32 #[.val (.ref a1), .val (.long k), .second, .val (.long (7 : Int64)), .second, .val (.int (Int32.ofNat i1)), .unset, .unset] [(.ref d)]))
    refine Go.by (fun _ => XS.iconst X2.here hx rfl (hb hby d4_32)) ?_
    show Go p.tables e below _ (T2.setTop (mkF m 33 #[.val (.ref a1), .val (.long k), .second, .val (.long (7 : Int64)), .second, .val (.int (Int32.ofNat i1)), .unset, .unset] [(.int (2 : Int32)), (.ref d)]))
    refine Go.by (fun _ => XS.iload X2.here hx rfl (hb hby d4_33) rfl) ?_
    show Go p.tables e below _ (T2.setTop (mkF m 35 #[.val (.ref a1), .val (.long k), .second, .val (.long (7 : Int64)), .second, .val (.int (Int32.ofNat i1)), .unset, .unset] [(.int (Int32.ofNat i1)), (.int (2 : Int32)), (.ref d)]))
    refine Go.by (fun _ => XS.imul X2.here hx rfl (hb hby d4_35) rfl) ?_
    show Go p.tables e below _ (T2.setTop (mkF m 36 #[.val (.ref a1), .val (.long k), .second, .val (.long (7 : Int64)), .second, .val (.int (Int32.ofNat i1)), .unset, .unset] [(.int ((2 : Int32) * (Int32.ofNat i1))), (.ref d)]))
    refine Go.by (fun _ => XS.iconst X2.here hx rfl (hb hby d4_36)) ?_
    show Go p.tables e below _ (T2.setTop (mkF m 37 #[.val (.ref a1), .val (.long k), .second, .val (.long (7 : Int64)), .second, .val (.int (Int32.ofNat i1)), .unset, .unset] [(.int (1 : Int32)), (.int ((2 : Int32) * (Int32.ofNat i1))), (.ref d)]))
    refine Go.by (fun _ => XS.iadd X2.here hx rfl (hb hby d4_37) rfl) ?_
    show Go p.tables e below _ (T2.setTop (mkF m 38 #[.val (.ref a1), .val (.long k), .second, .val (.long (7 : Int64)), .second, .val (.int (Int32.ofNat i1)), .unset, .unset] [(.int (((2 : Int32) * (Int32.ofNat i1)) + (1 : Int32))), (.ref d)]))
    refine Go.by (X2.ldJ hx hZ V_d (ix1_n hi1) (i := 2 * i1 + 1) (ix1_c hi1) (ix1_l hi1) (v := (.long (f (2 * i1 + 1)))) rfl (g := (mkF m 38 #[.val (.ref a1), .val (.long k), .second, .val (.long (7 : Int64)), .second, .val (.int (Int32.ofNat i1)), .unset, .unset] [(.int (((2 : Int32) * (Int32.ofNat i1)) + (1 : Int32))), (.ref d)])) rfl rfl (hb hby d4_38)) ?_
    show Go p.tables e below _ (T2.setTop (mkF m 39 #[.val (.ref a1), .val (.long k), .second, .val (.long (7 : Int64)), .second, .val (.int (Int32.ofNat i1)), .unset, .unset] [(.long (f (2 * i1 + 1)))]))
    refine Go.by (fun _ => XS.lstore X2.here hx rfl (hb hby d4_39) rfl (l' := #[.val (.ref a1), .val (.long k), .second, .val (.long (7 : Int64)), .second, .val (.int (Int32.ofNat i1)), .val (.long (f (2 * i1 + 1))), .second]) rfl) ?_
    show Go p.tables e below _ (T2.setTop (mkF m 41 #[.val (.ref a1), .val (.long k), .second, .val (.long (7 : Int64)), .second, .val (.int (Int32.ofNat i1)), .val (.long (f (2 * i1 + 1))), .second] []))
    refine Go.by (fun _ => XS.aloadN X2.here hx rfl (hb hby d4_41) rfl rfl) ?_
    show Go p.tables e below _ (T2.setTop (mkF m 42 #[.val (.ref a1), .val (.long k), .second, .val (.long (7 : Int64)), .second, .val (.int (Int32.ofNat i1)), .val (.long (f (2 * i1 + 1))), .second] [(.ref a1)]))
    obtain ⟨T3, X3, st3⟩ := X2.getF hx hZ hown (host := "") (Or.inl (tw hw 14 rfl)) Via.refl Fs_a1 (g := (mkF m 42 #[.val (.ref a1), .val (.long k), .second, .val (.long (7 : Int64)), .second, .val (.int (Int32.ofNat i1)), .val (.long (f (2 * i1 + 1))), .second] [(.ref a1)])) rfl rfl (hb hby d4_42)
    refine Go.by st3 ?_
    show Go p.tables e below _ (T3.setTop (mkF m 45 #[.val (.ref a1), .val (.long k), .second, .val (.long (7 : Int64)), .second, .val (.int (Int32.ofNat i1)), .val (.long (f (2 * i1 + 1))), .second] [(.ref d)]))
    refine Go.by (fun _ => XS.iconst X3.here hx rfl (hb hby d4_45)) ?_
    show Go p.tables e below _ (T3.setTop (mkF m 46 #[.val (.ref a1), .val (.long k), .second, .val (.long (7 : Int64)), .second, .val (.int (Int32.ofNat i1)), .val (.long (f (2 * i1 + 1))), .second] [(.int (2 : Int32)), (.ref d)]))
    refine Go.by (fun _ => XS.iload X3.here hx rfl (hb hby d4_46) rfl) ?_
    show Go p.tables e below _ (T3.setTop (mkF m 48 #[.val (.ref a1), .val (.long k), .second, .val (.long (7 : Int64)), .second, .val (.int (Int32.ofNat i1)), .val (.long (f (2 * i1 + 1))), .second] [(.int (Int32.ofNat i1)), (.int (2 : Int32)), (.ref d)]))
    refine Go.by (fun _ => XS.imul X3.here hx rfl (hb hby d4_48) rfl) ?_
    show Go p.tables e below _ (T3.setTop (mkF m 49 #[.val (.ref a1), .val (.long k), .second, .val (.long (7 : Int64)), .second, .val (.int (Int32.ofNat i1)), .val (.long (f (2 * i1 + 1))), .second] [(.int ((2 : Int32) * (Int32.ofNat i1))), (.ref d)]))
    refine Go.by (fun _ => XS.iconst X3.here hx rfl (hb hby d4_49)) ?_
    show Go p.tables e below _ (T3.setTop (mkF m 50 #[.val (.ref a1), .val (.long k), .second, .val (.long (7 : Int64)), .second, .val (.int (Int32.ofNat i1)), .val (.long (f (2 * i1 + 1))), .second] [(.int (1 : Int32)), (.int ((2 : Int32) * (Int32.ofNat i1))), (.ref d)]))
    refine Go.by (fun _ => XS.iadd X3.here hx rfl (hb hby d4_50) rfl) ?_
    show Go p.tables e below _ (T3.setTop (mkF m 51 #[.val (.ref a1), .val (.long k), .second, .val (.long (7 : Int64)), .second, .val (.int (Int32.ofNat i1)), .val (.long (f (2 * i1 + 1))), .second] [(.int (((2 : Int32) * (Int32.ofNat i1)) + (1 : Int32))), (.ref d)]))
    refine Go.by (fun _ => XS.lloadN X3.here hx rfl (hb hby d4_51) rfl) ?_
    show Go p.tables e below _ (T3.setTop (mkF m 52 #[.val (.ref a1), .val (.long k), .second, .val (.long (7 : Int64)), .second, .val (.int (Int32.ofNat i1)), .val (.long (f (2 * i1 + 1))), .second] [(.long (7 : Int64)), (.int (((2 : Int32) * (Int32.ofNat i1)) + (1 : Int32))), (.ref d)]))
    obtain ⟨T4, h4, X4, W4, V4, st4⟩ := X3.stJ hx hZ V_d g_d (ix1_n hi1) (i := 2 * i1 + 1) (ix1_c hi1) (ix1_l hi1) (g := (mkF m 52 #[.val (.ref a1), .val (.long k), .second, .val (.long (7 : Int64)), .second, .val (.int (Int32.ofNat i1)), .val (.long (f (2 * i1 + 1))), .second] [(.long (7 : Int64)), (.int (((2 : Int32) * (Int32.ofNat i1)) + (1 : Int32))), (.ref d)])) rfl rfl (hb hby d4_52)
    have f5_64 := E_a1.wr W4
    have f5_65 := Fs_a1.other W4 (Or.inl nad)
    have f5_66 := Fm_a1.other W4 (Or.inl nad)
    have f5_67 := Fz_a1.other W4 (Or.inl nad)
    have f5_68 := K0.wr W4 (Or.inl (List.mem_of_getElem? (i := 1) rfl))
    have Zs5 : n0 ≤ h4.size := by rw [W4.size]; exact Z0
    refine Go.by st4 ?_
    show Go p.tables e below _ (T4.setTop (mkF m 53 #[.val (.ref a1), .val (.long k), .second, .val (.long (7 : Int64)), .second, .val (.int (Int32.ofNat i1)), .val (.long (f (2 * i1 + 1))), .second] []))
    have Vu6 := Avf.cong V4 (g := (fun jj => (.long ((upd f (2 * i1 + 1) (7 : Int64)) jj)))) (fun t _ => upd_eq f (2 * i1 + 1) (7 : Int64) t)
    refine Go.by (fun _ => XS.lload X4.here hx rfl (hb hby d4_53) rfl) ?_
    show Go p.tables e below _ (T4.setTop (mkF m 55 #[.val (.ref a1), .val (.long k), .second, .val (.long (7 : Int64)), .second, .val (.int (Int32.ofNat i1)), .val (.long (f (2 * i1 + 1))), .second] [(.long (f (2 * i1 + 1)))]))
    refine Go.retL X4 hx hlk hret (hb hby d4_55) (by decide) (by decide) ?_
    refine ⟨_, _, sz, rfl, f5_68, f5_64, f5_65, f5_66, Vu6, f5_67, ?_, by omega, fun x hx => ?_, Lf_odd hL⟩
    · rw [pre_odd]; exact hsz
    · rw [pre_odd]
      have hp := cnt1 hk hi1 hf1
      by_cases q : k = x
      · rw [if_pos q, ← q]; omega
      · rw [if_neg q]
  · skip
    show Go p.tables e below _ (T1.setTop (mkF m 21 #[.val (.ref a1), .val (.long k), .second, .val (.long (7 : Int64)), .second, .unset, .unset, .unset] [(.int (-1 : Int32))]))
    refine Go.by (fun _ => XS.istore X1.here hx rfl (hb hby d4_21) rfl (l' := #[.val (.ref a1), .val (.long k), .second, .val (.long (7 : Int64)), .second, .val (.int (-1 : Int32)), .unset, .unset]) rfl) ?_
    show Go p.tables e below _ (T1.setTop (mkF m 23 #[.val (.ref a1), .val (.long k), .second, .val (.long (7 : Int64)), .second, .val (.int (-1 : Int32)), .unset, .unset] []))
    refine Go.by (fun _ => XS.iload X1.here hx rfl (hb hby d4_23) rfl) ?_
    show Go p.tables e below _ (T1.setTop (mkF m 25 #[.val (.ref a1), .val (.long k), .second, .val (.long (7 : Int64)), .second, .val (.int (-1 : Int32)), .unset, .unset] [(.int (-1 : Int32))]))
    refine Go.by (fun _ => XS.ifYes X1.here hx rfl (pc0 := 25) (pc' := 56) rfl (hb hby d4_25) rfl ((if0 _ _).trans (tlt (by decide)).1) (by decide) (by decide)) ?_
    show Go p.tables e below _ (T1.setTop (mkF m 56 #[.val (.ref a1), .val (.long k), .second, .val (.long (7 : Int64)), .second, .val (.int (-1 : Int32)), .unset, .unset] []))
    refine Go.by (fun _ => XS.iconst X1.here hx rfl (hb hby d4_56)) ?_
    show Go p.tables e below _ (T1.setTop (mkF m 57 #[.val (.ref a1), .val (.long k), .second, .val (.long (7 : Int64)), .second, .val (.int (-1 : Int32)), .unset, .unset] [(.int (4 : Int32))]))
    refine Go.by (fun _ => XS.aloadN X1.here hx rfl (hb hby d4_57) rfl rfl) ?_
    show Go p.tables e below _ (T1.setTop (mkF m 58 #[.val (.ref a1), .val (.long k), .second, .val (.long (7 : Int64)), .second, .val (.int (-1 : Int32)), .unset, .unset] [(.ref a1), (.int (4 : Int32))]))
    obtain ⟨T7, X7, st7⟩ := X1.getF hx hZ hown (host := "") (Or.inl (tw hw 32 rfl)) Via.refl Fz_a1 (g := (mkF m 58 #[.val (.ref a1), .val (.long k), .second, .val (.long (7 : Int64)), .second, .val (.int (-1 : Int32)), .unset, .unset] [(.ref a1), (.int (4 : Int32))])) rfl rfl (hb hby d4_58)
    refine Go.by st7 ?_
    show Go p.tables e below _ (T7.setTop (mkF m 61 #[.val (.ref a1), .val (.long k), .second, .val (.long (7 : Int64)), .second, .val (.int (-1 : Int32)), .unset, .unset] [(.int (Int32.ofNat sz)), (.int (4 : Int32))]))
    refine Go.by (fun _ => XS.iconst X7.here hx rfl (hb hby d4_61)) ?_
    show Go p.tables e below _ (T7.setTop (mkF m 62 #[.val (.ref a1), .val (.long k), .second, .val (.long (7 : Int64)), .second, .val (.int (-1 : Int32)), .unset, .unset] [(.int (1 : Int32)), (.int (Int32.ofNat sz)), (.int (4 : Int32))]))
    refine Go.by (fun _ => XS.iadd X7.here hx rfl (hb hby d4_62) rfl) ?_
    show Go p.tables e below _ (T7.setTop (mkF m 63 #[.val (.ref a1), .val (.long k), .second, .val (.long (7 : Int64)), .second, .val (.int (-1 : Int32)), .unset, .unset] [(.int ((Int32.ofNat sz) + (1 : Int32))), (.int (4 : Int32))]))
    refine Go.by (fun _ => XS.imul X7.here hx rfl (hb hby d4_63) rfl) ?_
    show Go p.tables e below _ (T7.setTop (mkF m 64 #[.val (.ref a1), .val (.long k), .second, .val (.long (7 : Int64)), .second, .val (.int (-1 : Int32)), .unset, .unset] [(.int ((4 : Int32) * ((Int32.ofNat sz) + (1 : Int32))))]))
    refine Go.by (fun _ => XS.aloadN X7.here hx rfl (hb hby d4_64) rfl rfl) ?_
    show Go p.tables e below _ (T7.setTop (mkF m 65 #[.val (.ref a1), .val (.long k), .second, .val (.long (7 : Int64)), .second, .val (.int (-1 : Int32)), .unset, .unset] [(.ref a1), (.int ((4 : Int32) * ((Int32.ofNat sz) + (1 : Int32))))]))
    obtain ⟨T8, X8, st8⟩ := X7.getF hx hZ hown (host := "") (Or.inl (tw hw 14 rfl)) Via.refl Fs_a1 (g := (mkF m 65 #[.val (.ref a1), .val (.long k), .second, .val (.long (7 : Int64)), .second, .val (.int (-1 : Int32)), .unset, .unset] [(.ref a1), (.int ((4 : Int32) * ((Int32.ofNat sz) + (1 : Int32))))])) rfl rfl (hb hby d4_65)
    refine Go.by st8 ?_
    show Go p.tables e below _ (T8.setTop (mkF m 68 #[.val (.ref a1), .val (.long k), .second, .val (.long (7 : Int64)), .second, .val (.int (-1 : Int32)), .unset, .unset] [(.ref d), (.int ((4 : Int32) * ((Int32.ofNat sz) + (1 : Int32))))]))
    refine Go.by (X8.len hx hZ V_d (z := (32 : Int32)) rfl (g := (mkF m 68 #[.val (.ref a1), .val (.long k), .second, .val (.long (7 : Int64)), .second, .val (.int (-1 : Int32)), .unset, .unset] [(.ref d), (.int ((4 : Int32) * ((Int32.ofNat sz) + (1 : Int32))))])) rfl rfl (hb hby d4_68)) ?_
    show Go p.tables e below _ (T8.setTop (mkF m 69 #[.val (.ref a1), .val (.long k), .second, .val (.long (7 : Int64)), .second, .val (.int (-1 : Int32)), .unset, .unset] [(.int (32 : Int32)), (.int ((4 : Int32) * ((Int32.ofNat sz) + (1 : Int32))))]))
    refine Go.by (fun _ => XS.icmpYes X8.here hx rfl (pc0 := 69) (pc' := 83) rfl (hb hby d4_69) rfl (flt ((szI (by omega)))).2.2.2 (by decide) (by decide)) ?_
    show Go p.tables e below _ (T8.setTop (mkF m 83 #[.val (.ref a1), .val (.long k), .second, .val (.long (7 : Int64)), .second, .val (.int (-1 : Int32)), .unset, .unset] []))
    refine Go.by (fun _ => XS.aloadN X8.here hx rfl (hb hby d4_83) rfl rfl) ?_
    show Go p.tables e below _ (T8.setTop (mkF m 84 #[.val (.ref a1), .val (.long k), .second, .val (.long (7 : Int64)), .second, .val (.int (-1 : Int32)), .unset, .unset] [(.ref a1)]))
    refine Go.by (fun _ => XS.lloadN X8.here hx rfl (hb hby d4_84) rfl) ?_
    show Go p.tables e below _ (T8.setTop (mkF m 85 #[.val (.ref a1), .val (.long k), .second, .val (.long (7 : Int64)), .second, .val (.int (-1 : Int32)), .unset, .unset] [(.long k), (.ref a1)]))
    refine Go.by (fun _ => XS.lloadN X8.here hx rfl (hb hby d4_85) rfl) ?_
    show Go p.tables e below _ (T8.setTop (mkF m 86 #[.val (.ref a1), .val (.long k), .second, .val (.long (7 : Int64)), .second, .val (.int (-1 : Int32)), .unset, .unset] [(.long (7 : Int64)), (.long k), (.ref a1)]))
    obtain ⟨v9, T9, h9, X9, q9, st9⟩ := X8.callP hx hZ (y := (⟨"com/example/shrike/shrike/store/LongMap", "place", "(JJ)V"⟩ : MethodName)) hown (tw hw 34 rfl) (tw hw 35 rfl) (sel_priv (tw hw 20 rfl) rfl (tw hw 36 rfl) (tw hw 35 rfl) (by decide)) (tw hw 36 rfl) (tw hw 6 rfl) (tw hw 37 rfl) (by decide) (rm7 l Z a0 hw [] a1 k (7 : Int64) d kd f h0 n0 Z0 E_a1 Fs_a1 Fm_a1 V_d g_d hL hk hE) E_a1 (g := (mkF m 86 #[.val (.ref a1), .val (.long k), .second, .val (.long (7 : Int64)), .second, .val (.int (-1 : Int32)), .unset, .unset] [(.long (7 : Int64)), (.long k), (.ref a1)])) rfl (by rw [hml]; rfl) (argsL := [(.long k), (.long (7 : Int64))]) (rest := []) (lenOf pd3 rfl) rfl (hb hby d4_86) rfl (by decide) (Nat.le_of_ble_eq_true rfl) (k' := 0) (n' := 0) rfl rfl (by decide) (by decide)
    refine Go.by st9 ?_
    obtain ⟨rfl, K9, f9, V9, hL9, hc9, hl9⟩ := q9
    have f10_122 := E_a1.keep K9
    have f10_123 := Fs_a1.keep K9 (ninS nad nin0)
    have f10_124 := Fm_a1.keep K9 (ninS nad nin0)
    have f10_125 := Fz_a1.keep K9 (ninS nad nin0)
    have f10_126 := K0.trans K9 (allS (Or.inl (List.mem_of_getElem? (i := 1) rfl)) all0)
    have Zs10 : n0 ≤ h9.size := Nat.le_trans Z0 K9.1
    show Go p.tables e below _ (T9.setTop (mkF m 89 #[.val (.ref a1), .val (.long k), .second, .val (.long (7 : Int64)), .second, .val (.int (-1 : Int32)), .unset, .unset] []))
    refine Go.by (fun _ => XS.aloadN X9.here hx rfl (hb hby d4_89) rfl rfl) ?_
    show Go p.tables e below _ (T9.setTop (mkF m 90 #[.val (.ref a1), .val (.long k), .second, .val (.long (7 : Int64)), .second, .val (.int (-1 : Int32)), .unset, .unset] [(.ref a1)]))
    refine Go.by (fun _ => XS.dup X9.here hx rfl (hb hby d4_90) rfl rfl) ?_
    show Go p.tables e below _ (T9.setTop (mkF m 91 #[.val (.ref a1), .val (.long k), .second, .val (.long (7 : Int64)), .second, .val (.int (-1 : Int32)), .unset, .unset] [(.ref a1), (.ref a1)]))
    obtain ⟨T11, X11, st11⟩ := X9.getF hx hZ hown (host := "") (Or.inl (tw hw 32 rfl)) Via.refl f10_125 (g := (mkF m 91 #[.val (.ref a1), .val (.long k), .second, .val (.long (7 : Int64)), .second, .val (.int (-1 : Int32)), .unset, .unset] [(.ref a1), (.ref a1)])) rfl rfl (hb hby d4_91)
    refine Go.by st11 ?_
    show Go p.tables e below _ (T11.setTop (mkF m 94 #[.val (.ref a1), .val (.long k), .second, .val (.long (7 : Int64)), .second, .val (.int (-1 : Int32)), .unset, .unset] [(.int (Int32.ofNat sz)), (.ref a1)]))
    refine Go.by (fun _ => XS.iconst X11.here hx rfl (hb hby d4_94)) ?_
    show Go p.tables e below _ (T11.setTop (mkF m 95 #[.val (.ref a1), .val (.long k), .second, .val (.long (7 : Int64)), .second, .val (.int (-1 : Int32)), .unset, .unset] [(.int (1 : Int32)), (.int (Int32.ofNat sz)), (.ref a1)]))
    refine Go.by (fun _ => XS.iadd X11.here hx rfl (hb hby d4_95) rfl) ?_
    show Go p.tables e below _ (T11.setTop (mkF m 96 #[.val (.ref a1), .val (.long k), .second, .val (.long (7 : Int64)), .second, .val (.int (-1 : Int32)), .unset, .unset] [(.int ((Int32.ofNat sz) + (1 : Int32))), (.ref a1)]))
    obtain ⟨T12, h12, X12, W12, st12⟩ := X11.putF hx hZ hown (host := "") (Or.inl (tw hw 32 rfl)) Via.refl f10_125 f10_122 g_a1 (Or.inl (tw hw 33 rfl)) (tw hw 5 rfl) (ty := .int) (by decide) rfl rfl (g := (mkF m 96 #[.val (.ref a1), .val (.long k), .second, .val (.long (7 : Int64)), .second, .val (.int (-1 : Int32)), .unset, .unset] [(.int ((Int32.ofNat sz) + (1 : Int32))), (.ref a1)])) rfl rfl (hb hby d4_96)
    have Fw12 := f10_125.same W12
    have f13_142 := f10_122.wr W12
    have f13_143 := f10_123.other W12 (Or.inr (slot_ne (Or.inl (tw hw 15 rfl)) (Or.inl (tw hw 33 rfl)) (by decide) (t := (.array .long)) (t' := .int) (by decide) (by decide)))
    have f13_144 := f10_124.other W12 (Or.inr (slot_ne (Or.inl (tw hw 31 rfl)) (Or.inl (tw hw 33 rfl)) (by decide) (t := .boolean) (t' := .int) (by decide) (by decide)))
    have f13_145 := f10_126.wr W12 (Or.inl (List.mem_of_getElem? (i := 0) rfl))
    have f13_146 := Avf.other V9 W12 (Ne.symm nad)
    have Zs13 : n0 ≤ h12.size := by rw [W12.size]; exact Zs10
    refine Go.by st12 ?_
    show Go p.tables e below _ (T12.setTop (mkF m 99 #[.val (.ref a1), .val (.long k), .second, .val (.long (7 : Int64)), .second, .val (.int (-1 : Int32)), .unset, .unset] []))
    refine Go.by (fun _ => XS.lconst X12.here hx rfl (hb hby d4_99)) ?_
    show Go p.tables e below _ (T12.setTop (mkF m 100 #[.val (.ref a1), .val (.long k), .second, .val (.long (7 : Int64)), .second, .val (.int (-1 : Int32)), .unset, .unset] [(.long (0 : Int64))]))
    refine Go.retL X12 hx hlk hret (hb hby d4_100) (by decide) (by decide) ?_
    refine ⟨_, _, sz + 1, rfl, f13_145, f13_142, f13_143, f13_144, f13_146, by rw [← i32_succ]; exact Fw12, by rw [hl9, ← hsz], Nat.le_refl _, fun x hx => ?_, hL9⟩
    have hp := cnt0 hno1
    rw [hc9 x hx]
    unfold one
    by_cases q : k = x
    · rw [if_pos q, if_pos q, hp, ← q, hp]; rfl
    · rw [if_neg q, if_neg q]; rfl
theorem d11_0 : decode prog_46_method_5_code 0 = .ok (.aload_n 0, 1) := by decide +kernel
theorem d11_1 : decode prog_46_method_5_code 1 = .ok (.lload_n 1, 1) := by decide +kernel
theorem d11_2 : decode prog_46_method_5_code 2 = .ok (.invokevirtual 13, 3) := by decide +kernel
theorem d11_5 : decode prog_46_method_5_code 5 = .ok (.istore_n 3, 1) := by decide +kernel
theorem d11_6 : decode prog_46_method_5_code 6 = .ok (.iload_n 3, 1) := by decide +kernel
theorem d11_7 : decode prog_46_method_5_code 7 = .ok (.ifCond .ge 5, 3) := by decide +kernel
theorem d11_12 : decode prog_46_method_5_code 12 = .ok (.aload_n 0, 1) := by decide +kernel
theorem d11_13 : decode prog_46_method_5_code 13 = .ok (.getfield 9, 3) := by decide +kernel
theorem d11_16 : decode prog_46_method_5_code 16 = .ok (.iconst 2, 1) := by decide +kernel
theorem d11_17 : decode prog_46_method_5_code 17 = .ok (.iload_n 3, 1) := by decide +kernel
theorem d11_18 : decode prog_46_method_5_code 18 = .ok (.imul, 1) := by decide +kernel
theorem d11_19 : decode prog_46_method_5_code 19 = .ok (.iconst 1, 1) := by decide +kernel
theorem d11_20 : decode prog_46_method_5_code 20 = .ok (.iadd, 1) := by decide +kernel
theorem d11_21 : decode prog_46_method_5_code 21 = .ok (.laload, 1) := by decide +kernel
theorem d11_22 : decode prog_46_method_5_code 22 = .ok (.lstore 4, 2) := by decide +kernel
theorem d11_24 : decode prog_46_method_5_code 24 = .ok (.aload_n 0, 1) := by decide +kernel
theorem d11_25 : decode prog_46_method_5_code 25 = .ok (.getfield 9, 3) := by decide +kernel
theorem d11_28 : decode prog_46_method_5_code 28 = .ok (.arraylength, 1) := by decide +kernel
theorem d11_29 : decode prog_46_method_5_code 29 = .ok (.iconst 2, 1) := by decide +kernel
theorem d11_30 : decode prog_46_method_5_code 30 = .ok (.idiv, 1) := by decide +kernel
theorem d11_31 : decode prog_46_method_5_code 31 = .ok (.iconst 1, 1) := by decide +kernel
theorem d11_32 : decode prog_46_method_5_code 32 = .ok (.isub, 1) := by decide +kernel
theorem d11_33 : decode prog_46_method_5_code 33 = .ok (.istore 6, 2) := by decide +kernel
theorem d11_35 : decode prog_46_method_5_code 35 = .ok (.iload_n 3, 1) := by decide +kernel
theorem d11_36 : decode prog_46_method_5_code 36 = .ok (.iconst 1, 1) := by decide +kernel
theorem d11_37 : decode prog_46_method_5_code 37 = .ok (.iadd, 1) := by decide +kernel
theorem d11_38 : decode prog_46_method_5_code 38 = .ok (.iload 6, 2) := by decide +kernel
theorem d11_40 : decode prog_46_method_5_code 40 = .ok (.iand, 1) := by decide +kernel
theorem d11_41 : decode prog_46_method_5_code 41 = .ok (.istore 7, 2) := by decide +kernel
theorem d11_43 : decode prog_46_method_5_code 43 = .ok (.aload_n 0, 1) := by decide +kernel
theorem d11_44 : decode prog_46_method_5_code 44 = .ok (.iload 7, 2) := by decide +kernel
theorem d11_46 : decode prog_46_method_5_code 46 = .ok (.iload 6, 2) := by decide +kernel
theorem d11_48 : decode prog_46_method_5_code 48 = .ok (.invokevirtual 36, 3) := by decide +kernel
theorem pd4 : parseMethodDescriptor "(II)Z" = some ⟨[.int, .int], some .boolean⟩ := by decide +kernel
theorem d11_51 : decode prog_46_method_5_code 51 = .ok (.ifCond .eq 56, 3) := by decide +kernel
theorem d11_107 : decode prog_46_method_5_code 107 = .ok (.aload_n 0, 1) := by decide +kernel
theorem d11_108 : decode prog_46_method_5_code 108 = .ok (.getfield 9, 3) := by decide +kernel
theorem d11_111 : decode prog_46_method_5_code 111 = .ok (.iconst 2, 1) := by decide +kernel
theorem d11_112 : decode prog_46_method_5_code 112 = .ok (.iload_n 3, 1) := by decide +kernel
theorem d11_113 : decode prog_46_method_5_code 113 = .ok (.imul, 1) := by decide +kernel
theorem d11_114 : decode prog_46_method_5_code 114 = .ok (.lconst 0, 1) := by decide +kernel
theorem d11_115 : decode prog_46_method_5_code 115 = .ok (.lastore, 1) := by decide +kernel
theorem d11_116 : decode prog_46_method_5_code 116 = .ok (.aload_n 0, 1) := by decide +kernel
theorem d11_117 : decode prog_46_method_5_code 117 = .ok (.getfield 9, 3) := by decide +kernel
theorem d11_120 : decode prog_46_method_5_code 120 = .ok (.iconst 2, 1) := by decide +kernel
theorem d11_121 : decode prog_46_method_5_code 121 = .ok (.iload_n 3, 1) := by decide +kernel
theorem d11_122 : decode prog_46_method_5_code 122 = .ok (.imul, 1) := by decide +kernel
theorem d11_123 : decode prog_46_method_5_code 123 = .ok (.iconst 1, 1) := by decide +kernel
theorem d11_124 : decode prog_46_method_5_code 124 = .ok (.iadd, 1) := by decide +kernel
theorem d11_125 : decode prog_46_method_5_code 125 = .ok (.lconst 0, 1) := by decide +kernel
theorem d11_126 : decode prog_46_method_5_code 126 = .ok (.lastore, 1) := by decide +kernel
theorem d11_127 : decode prog_46_method_5_code 127 = .ok (.aload_n 0, 1) := by decide +kernel
theorem d11_128 : decode prog_46_method_5_code 128 = .ok (.dup, 1) := by decide +kernel
theorem d11_129 : decode prog_46_method_5_code 129 = .ok (.getfield 24, 3) := by decide +kernel
theorem d11_132 : decode prog_46_method_5_code 132 = .ok (.iconst 1, 1) := by decide +kernel
theorem d11_133 : decode prog_46_method_5_code 133 = .ok (.isub, 1) := by decide +kernel
theorem d11_134 : decode prog_46_method_5_code 134 = .ok (.putfield 24, 3) := by decide +kernel
theorem d11_137 : decode prog_46_method_5_code 137 = .ok (.lload 4, 2) := by decide +kernel
theorem d11_139 : decode prog_46_method_5_code 139 = .ok (.lreturn, 1) := by decide +kernel
theorem d11_54 : decode prog_46_method_5_code 54 = .ok (.aload_n 0, 1) := by decide +kernel
theorem d11_55 : decode prog_46_method_5_code 55 = .ok (.getfield 9, 3) := by decide +kernel
theorem d11_58 : decode prog_46_method_5_code 58 = .ok (.iconst 2, 1) := by decide +kernel
theorem d11_59 : decode prog_46_method_5_code 59 = .ok (.iload_n 3, 1) := by decide +kernel
theorem d11_60 : decode prog_46_method_5_code 60 = .ok (.imul, 1) := by decide +kernel
theorem d11_61 : decode prog_46_method_5_code 61 = .ok (.aload_n 0, 1) := by decide +kernel
theorem d11_62 : decode prog_46_method_5_code 62 = .ok (.getfield 9, 3) := by decide +kernel
theorem d11_65 : decode prog_46_method_5_code 65 = .ok (.iconst 2, 1) := by decide +kernel
theorem d11_66 : decode prog_46_method_5_code 66 = .ok (.iload 7, 2) := by decide +kernel
theorem d11_68 : decode prog_46_method_5_code 68 = .ok (.imul, 1) := by decide +kernel
theorem d11_69 : decode prog_46_method_5_code 69 = .ok (.laload, 1) := by decide +kernel
theorem d11_70 : decode prog_46_method_5_code 70 = .ok (.lastore, 1) := by decide +kernel
theorem d11_71 : decode prog_46_method_5_code 71 = .ok (.aload_n 0, 1) := by decide +kernel
theorem d11_72 : decode prog_46_method_5_code 72 = .ok (.getfield 9, 3) := by decide +kernel
theorem d11_75 : decode prog_46_method_5_code 75 = .ok (.iconst 2, 1) := by decide +kernel
theorem d11_76 : decode prog_46_method_5_code 76 = .ok (.iload_n 3, 1) := by decide +kernel
theorem d11_77 : decode prog_46_method_5_code 77 = .ok (.imul, 1) := by decide +kernel
theorem d11_78 : decode prog_46_method_5_code 78 = .ok (.iconst 1, 1) := by decide +kernel
theorem d11_79 : decode prog_46_method_5_code 79 = .ok (.iadd, 1) := by decide +kernel
theorem d11_80 : decode prog_46_method_5_code 80 = .ok (.aload_n 0, 1) := by decide +kernel
theorem d11_81 : decode prog_46_method_5_code 81 = .ok (.getfield 9, 3) := by decide +kernel
theorem d11_84 : decode prog_46_method_5_code 84 = .ok (.iconst 2, 1) := by decide +kernel
theorem d11_85 : decode prog_46_method_5_code 85 = .ok (.iload 7, 2) := by decide +kernel
theorem d11_87 : decode prog_46_method_5_code 87 = .ok (.imul, 1) := by decide +kernel
theorem d11_88 : decode prog_46_method_5_code 88 = .ok (.iconst 1, 1) := by decide +kernel
theorem d11_89 : decode prog_46_method_5_code 89 = .ok (.iadd, 1) := by decide +kernel
theorem d11_90 : decode prog_46_method_5_code 90 = .ok (.laload, 1) := by decide +kernel
theorem d11_91 : decode prog_46_method_5_code 91 = .ok (.lastore, 1) := by decide +kernel
theorem d11_92 : decode prog_46_method_5_code 92 = .ok (.iload 7, 2) := by decide +kernel
theorem d11_94 : decode prog_46_method_5_code 94 = .ok (.istore_n 3, 1) := by decide +kernel
theorem d11_95 : decode prog_46_method_5_code 95 = .ok (.iload 7, 2) := by decide +kernel
theorem d11_97 : decode prog_46_method_5_code 97 = .ok (.iconst 1, 1) := by decide +kernel
theorem d11_98 : decode prog_46_method_5_code 98 = .ok (.iadd, 1) := by decide +kernel
theorem d11_99 : decode prog_46_method_5_code 99 = .ok (.iload 6, 2) := by decide +kernel
theorem d11_101 : decode prog_46_method_5_code 101 = .ok (.iand, 1) := by decide +kernel
theorem d11_102 : decode prog_46_method_5_code 102 = .ok (.istore 7, 2) := by decide +kernel
theorem d11_104 : decode prog_46_method_5_code 104 = .ok (.goto (-61), 3) := by decide +kernel
theorem d11_10 : decode prog_46_method_5_code 10 = .ok (.lconst 0, 1) := by decide +kernel
theorem d11_11 : decode prog_46_method_5_code 11 = .ok (.lreturn, 1) := by decide +kernel
abbrev Rm11 : Room := { frames := 3, cells := 0, slots := 0, locals := 51 }
set_option maxRecDepth 65536 in
set_option maxHeartbeats 40000000 in
theorem rm11 (l : Launch) (Z : State) (a0 : Array Value) (hw : ∀ d ∈ tables_1, d.before a0 Z = true) (ws : List Jvm.Cond) (a1 : Addr) (k : Int64) (d : Addr) (kd : ClassId) (f : Nat → Int64) (sz : Nat) (h0 : Heap) (n0 : Nat) (Z0 : n0 ≤ h0.size) (E_a1 : Exa Z h0 a1 "com/example/shrike/shrike/store/LongMap") (Fs_a1 : Fld Z h0 a1 "com/example/shrike/shrike/store/LongMap" "slots" "[J" (.ref d)) (Fm_a1 : Fld Z h0 a1 "com/example/shrike/shrike/store/LongMap" "mixed" "Z" (.int (0 : Int32))) (V_d : Avf Z h0 d kd .long 32 (fun jj => (.long (f jj)))) (Fz_a1 : Fld Z h0 a1 "com/example/shrike/shrike/store/LongMap" "size" "I" (.int (Int32.ofNat sz))) (g_a1 : n0 ≤ a1) (g_d : n0 ≤ d) (hsz : sz = (pre f 16).length) (hs3 : sz ≤ 3) (hL : Lf f) (hk : k ≠ 0) :
    Met l Z n0 (⟨"com/example/shrike/shrike/store/LongMap", "remove", "(J)J"⟩ : MethodName) prog_46_method_5_code 8 (some .long) ws Rm11 #[(.ref a1), (.long k)] h0 (fun v h => ∃ (z : Int64) (f' : Nat → Int64) (sz' : Nat), v = some (.long z) ∧ Keep h0 h [a1, d] ∧ Exa Z h a1 "com/example/shrike/shrike/store/LongMap" ∧ Fld Z h a1 "com/example/shrike/shrike/store/LongMap" "slots" "[J" (.ref d) ∧ Fld Z h a1 "com/example/shrike/shrike/store/LongMap" "mixed" "Z" (.int (0 : Int32)) ∧ Avf Z h d kd .long 32 (fun jj => (.long (f' jj))) ∧ Fld Z h a1 "com/example/shrike/shrike/store/LongMap" "size" "I" (.int (Int32.ofNat sz')) ∧ sz' = (pre f' 16).length ∧ sz' ≤ sz ∧ (∀ x, x ≠ 0 → (pre f' 16).count x = if k = x then (pre f 16).count k - 1 else (pre f 16).count x)) := by
  refine enter (Ls := #[.val (.ref a1), .val (.long k), .second, .unset, .unset, .unset, .unset, .unset]) (plainFor_of_name pn1) (fun m => by first | (simp [entryFrame, mkF, argsToLocals, Value.category]; done) | rfl) ?_
  intro p e s m below meth c T0 hx hby hml hown hnm hret hlk hZ X0
  have nad : a1 ≠ d := Ne.symm (exa_nev E_a1 (tw hw 5 rfl) V_d)
  have hE := free_slot f (by omega)
  have K0 := Keep.refl h0 [a1, d]
  show Go p.tables e below _ (T0.setTop (mkF m 0 #[.val (.ref a1), .val (.long k), .second, .unset, .unset, .unset, .unset, .unset] []))
  refine Go.by (fun _ => XS.aloadN X0.here hx rfl (hb hby d11_0) rfl rfl) ?_
  refine Go.by (fun _ => XS.lloadN X0.here hx rfl (hb hby d11_1) rfl) ?_
  obtain ⟨v1, T1, h1, X1, q1, st1⟩ := X0.callP hx hZ (y := (⟨"com/example/shrike/shrike/store/LongMap", "find", "(J)I"⟩ : MethodName)) hown (tw hw 22 rfl) (tw hw 23 rfl) (sel_priv (tw hw 20 rfl) rfl (tw hw 24 rfl) (tw hw 23 rfl) (by decide)) (tw hw 24 rfl) (tw hw 6 rfl) (tw hw 25 rfl) (by decide) (rm5 l Z a0 hw [] a1 k d kd f h0 n0 Z0 E_a1 Fs_a1 Fm_a1 V_d hL hk) E_a1 (g := (mkF m 2 #[.val (.ref a1), .val (.long k), .second, .unset, .unset, .unset, .unset, .unset] [(.long k), (.ref a1)])) rfl (by rw [hml]; rfl) (argsL := [(.long k)]) (rest := []) (lenOf pd2 rfl) rfl (hb hby d11_2) rfl (by decide) (Nat.le_of_ble_eq_true rfl) (k' := 0) (n' := 0) rfl rfl (by decide) (by decide)
  refine Go.by st1 ?_
  rcases q1 with ⟨⟨i1, hi1, hf1, rfl⟩ | ⟨hno1, rfl⟩, rfl⟩
  · skip
    show Go p.tables e below _ (T1.setTop (mkF m 5 #[.val (.ref a1), .val (.long k), .second, .unset, .unset, .unset, .unset, .unset] [(.int (Int32.ofNat i1))]))
    refine Go.by (fun _ => XS.istoreN X1.here hx rfl (hb hby d11_5) rfl (l' := #[.val (.ref a1), .val (.long k), .second, .val (.int (Int32.ofNat i1)), .unset, .unset, .unset, .unset]) rfl) ?_
    show Go p.tables e below _ (T1.setTop (mkF m 6 #[.val (.ref a1), .val (.long k), .second, .val (.int (Int32.ofNat i1)), .unset, .unset, .unset, .unset] []))
    refine Go.by (fun _ => XS.iloadN X1.here hx rfl (hb hby d11_6) rfl) ?_
    show Go p.tables e below _ (T1.setTop (mkF m 7 #[.val (.ref a1), .val (.long k), .second, .val (.int (Int32.ofNat i1)), .unset, .unset, .unset, .unset] [(.int (Int32.ofNat i1))]))
    refine Go.by (fun _ => XS.ifYes X1.here hx rfl (pc0 := 7) (pc' := 12) rfl (hb hby d11_7) rfl ((if0 _ _).trans (flt ((i32_nneg (by omega)))).2.1) (by decide) (by decide)) ?_
    show Go p.tables e below _ (T1.setTop (mkF m 12 #[.val (.ref a1), .val (.long k), .second, .val (.int (Int32.ofNat i1)), .unset, .unset, .unset, .unset] []))
    refine Go.by (fun _ => XS.aloadN X1.here hx rfl (hb hby d11_12) rfl rfl) ?_
    obtain ⟨T2, X2, st2⟩ := X1.getF hx hZ hown (host := "") (Or.inl (tw hw 14 rfl)) Via.refl Fs_a1 (g := (mkF m 13 #[.val (.ref a1), .val (.long k), .second, .val (.int (Int32.ofNat i1)), .unset, .unset, .unset, .unset] [(.ref a1)])) rfl rfl (hb hby d11_13)
    refine Go.by st2 ?_
    show Go p.tables e below _ (T2.setTop (mkF m 16 #[.val (.ref a1), .val (.long k), .second, .val (.int (Int32.ofNat i1)), .unset, .unset, .unset, .unset] [(.ref d)]))
    refine Go.by (fun _ => XS.iconst X2.here hx rfl (hb hby d11_16)) ?_
    refine Go.by (fun _ => XS.iloadN X2.here hx rfl (hb hby d11_17) rfl) ?_
    show Go p.tables e below _ (T2.setTop (mkF m 18 #[.val (.ref a1), .val (.long k), .second, .val (.int (Int32.ofNat i1)), .unset, .unset, .unset, .unset] [(.int (Int32.ofNat i1)), (.int (2 : Int32)), (.ref d)]))
    refine Go.by (fun _ => XS.imul X2.here hx rfl (hb hby d11_18) rfl) ?_
    refine Go.by (fun _ => XS.iconst X2.here hx rfl (hb hby d11_19)) ?_
    refine Go.by (fun _ => XS.iadd X2.here hx rfl (hb hby d11_20) rfl) ?_
    refine Go.by (X2.ldJ hx hZ V_d (ix1_n hi1) (i := 2 * i1 + 1) (ix1_c hi1) (ix1_l hi1) (v := (.long (f (2 * i1 + 1)))) rfl (g := (mkF m 21 #[.val (.ref a1), .val (.long k), .second, .val (.int (Int32.ofNat i1)), .unset, .unset, .unset, .unset] [(.int (((2 : Int32) * (Int32.ofNat i1)) + (1 : Int32))), (.ref d)])) rfl rfl (hb hby d11_21)) ?_
    show Go p.tables e below _ (T2.setTop (mkF m 22 #[.val (.ref a1), .val (.long k), .second, .val (.int (Int32.ofNat i1)), .unset, .unset, .unset, .unset] [(.long (f (2 * i1 + 1)))]))
    refine Go.by (fun _ => XS.lstore X2.here hx rfl (hb hby d11_22) rfl (l' := #[.val (.ref a1), .val (.long k), .second, .val (.int (Int32.ofNat i1)), .val (.long (f (2 * i1 + 1))), .second, .unset, .unset]) rfl) ?_
    show Go p.tables e below _ (T2.setTop (mkF m 24 #[.val (.ref a1), .val (.long k), .second, .val (.int (Int32.ofNat i1)), .val (.long (f (2 * i1 + 1))), .second, .unset, .unset] []))
    refine Go.by (fun _ => XS.aloadN X2.here hx rfl (hb hby d11_24) rfl rfl) ?_
    obtain ⟨T3, X3, st3⟩ := X2.getF hx hZ hown (host := "") (Or.inl (tw hw 14 rfl)) Via.refl Fs_a1 (g := (mkF m 25 #[.val (.ref a1), .val (.long k), .second, .val (.int (Int32.ofNat i1)), .val (.long (f (2 * i1 + 1))), .second, .unset, .unset] [(.ref a1)])) rfl rfl (hb hby d11_25)
    refine Go.by st3 ?_
    show Go p.tables e below _ (T3.setTop (mkF m 28 #[.val (.ref a1), .val (.long k), .second, .val (.int (Int32.ofNat i1)), .val (.long (f (2 * i1 + 1))), .second, .unset, .unset] [(.ref d)]))
    refine Go.by (X3.len hx hZ V_d (z := (32 : Int32)) rfl (g := (mkF m 28 #[.val (.ref a1), .val (.long k), .second, .val (.int (Int32.ofNat i1)), .val (.long (f (2 * i1 + 1))), .second, .unset, .unset] [(.ref d)])) rfl rfl (hb hby d11_28)) ?_
    show Go p.tables e below _ (T3.setTop (mkF m 29 #[.val (.ref a1), .val (.long k), .second, .val (.int (Int32.ofNat i1)), .val (.long (f (2 * i1 + 1))), .second, .unset, .unset] [(.int (32 : Int32))]))
    refine Go.by (fun _ => XS.iconst X3.here hx rfl (hb hby d11_29)) ?_
    refine Go.by (fun _ => XS.idiv X3.here hx rfl (hb hby d11_30) rfl (by decide)) ?_
    show Go p.tables e below _ (T3.setTop (mkF m 31 #[.val (.ref a1), .val (.long k), .second, .val (.int (Int32.ofNat i1)), .val (.long (f (2 * i1 + 1))), .second, .unset, .unset] [(.int (16 : Int32))]))
    refine Go.by (fun _ => XS.iconst X3.here hx rfl (hb hby d11_31)) ?_
    refine Go.by (fun _ => XS.isub X3.here hx rfl (hb hby d11_32) rfl) ?_
    show Go p.tables e below _ (T3.setTop (mkF m 33 #[.val (.ref a1), .val (.long k), .second, .val (.int (Int32.ofNat i1)), .val (.long (f (2 * i1 + 1))), .second, .unset, .unset] [(.int (15 : Int32))]))
    refine Go.by (fun _ => XS.istore X3.here hx rfl (hb hby d11_33) rfl (l' := #[.val (.ref a1), .val (.long k), .second, .val (.int (Int32.ofNat i1)), .val (.long (f (2 * i1 + 1))), .second, .val (.int (15 : Int32)), .unset]) rfl) ?_
    show Go p.tables e below _ (T3.setTop (mkF m 35 #[.val (.ref a1), .val (.long k), .second, .val (.int (Int32.ofNat i1)), .val (.long (f (2 * i1 + 1))), .second, .val (.int (15 : Int32)), .unset] []))
    refine Go.by (fun _ => XS.iloadN X3.here hx rfl (hb hby d11_35) rfl) ?_
    refine Go.by (fun _ => XS.iconst X3.here hx rfl (hb hby d11_36)) ?_
    refine Go.by (fun _ => XS.iadd X3.here hx rfl (hb hby d11_37) rfl) ?_
    show Go p.tables e below _ (T3.setTop (mkF m 38 #[.val (.ref a1), .val (.long k), .second, .val (.int (Int32.ofNat i1)), .val (.long (f (2 * i1 + 1))), .second, .val (.int (15 : Int32)), .unset] [(.int ((Int32.ofNat i1) + (1 : Int32)))]))
    refine Go.by (fun _ => XS.iload X3.here hx rfl (hb hby d11_38) rfl) ?_
    refine Go.by (fun _ => XS.iand X3.here hx rfl (hb hby d11_40) rfl) ?_
    refine Go.by (fun _ => XS.istore X3.here hx rfl (hb hby d11_41) rfl (l' := #[.val (.ref a1), .val (.long k), .second, .val (.int (Int32.ofNat i1)), .val (.long (f (2 * i1 + 1))), .second, .val (.int (15 : Int32)), .val (.int (((Int32.ofNat i1) + (1 : Int32)) &&& (15 : Int32)))]) rfl) ?_
    show Go p.tables e below _ (T3.setTop (mkF m 43 #[.val (.ref a1), .val (.long k), .second, .val (.int (Int32.ofNat i1)), .val (.long (f (2 * i1 + 1))), .second, .val (.int (15 : Int32)), .val (.int (((Int32.ofNat i1) + (1 : Int32)) &&& (15 : Int32)))] []))
    obtain ⟨q, hq, hq0⟩ := hE
    have J : ∀ (kk : Nat) (fj : Nat → Int64) (i : Nat), i < 16 → (q + 16 - (i + 1) % 16) % 16 = kk → fj (2 * i) ≠ 0 → fj (2 * q) = 0 → (∀ x, x ≠ 0 → (pre fj 16).count x + one x k = (pre f 16).count x + one x (fj (2 * i))) → (pre fj 16).length = (pre f 16).length → ∀ (Tj : State) (hj : Heap), Sd n0 p l e Rm11 s m #[(.ref a1), (.long k)] below meth c Tj hj 0 0 → n0 ≤ hj.size → Keep h0 hj [a1, d] → Exa Z hj a1 "com/example/shrike/shrike/store/LongMap" → Fld Z hj a1 "com/example/shrike/shrike/store/LongMap" "slots" "[J" (.ref d) → Fld Z hj a1 "com/example/shrike/shrike/store/LongMap" "mixed" "Z" (.int (0 : Int32)) → Fld Z hj a1 "com/example/shrike/shrike/store/LongMap" "size" "I" (.int (Int32.ofNat sz)) → Avf Z hj d kd .long 32 (fun jj => (.long (fj jj))) → Go p.tables e below (Ret s n0 (fun v h => ∃ (z : Int64) (f' : Nat → Int64) (sz' : Nat), v = some (.long z) ∧ Keep h0 h [a1, d] ∧ Exa Z h a1 "com/example/shrike/shrike/store/LongMap" ∧ Fld Z h a1 "com/example/shrike/shrike/store/LongMap" "slots" "[J" (.ref d) ∧ Fld Z h a1 "com/example/shrike/shrike/store/LongMap" "mixed" "Z" (.int (0 : Int32)) ∧ Avf Z h d kd .long 32 (fun jj => (.long (f' jj))) ∧ Fld Z h a1 "com/example/shrike/shrike/store/LongMap" "size" "I" (.int (Int32.ofNat sz')) ∧ sz' = (pre f' 16).length ∧ sz' ≤ sz ∧ (∀ x, x ≠ 0 → (pre f' 16).count x = if k = x then (pre f 16).count k - 1 else (pre f 16).count x)) Rm11.cells Rm11.slots) (Tj.setTop (mkF m 43 #[.val (.ref a1), .val (.long k), .second, .val (.int (Int32.ofNat i)), .val (.long (f (2 * i1 + 1))), .second, .val (.int (15 : Int32)), .val (.int (Int32.ofNat ((i + 1) % 16)))] [])) := by
      intro kk
      induction kk with
      | zero =>
        intro fj i hi hkk hne hqj hcnt hlen Tj hj Xj Zj Kj Ej Fsj Fmj Fzj Vj
        have hz0 : fj (2 * ((i + 1) % 16)) = 0 := by rw [show (i + 1) % 16 = q by omega]; exact hqj
        refine Go.by (fun _ => XS.aloadN Xj.here hx rfl (hb hby d11_43) rfl rfl) ?_
        show Go p.tables e below _ (Tj.setTop (mkF m 44 #[.val (.ref a1), .val (.long k), .second, .val (.int (Int32.ofNat i)), .val (.long (f (2 * i1 + 1))), .second, .val (.int (15 : Int32)), .val (.int (Int32.ofNat ((i + 1) % 16)))] [(.ref a1)]))
        refine Go.by (fun _ => XS.iload Xj.here hx rfl (hb hby d11_44) rfl) ?_
        refine Go.by (fun _ => XS.iload Xj.here hx rfl (hb hby d11_46) rfl) ?_
        obtain ⟨v4, T4, h4, X4, q4, st4⟩ := Xj.callP hx hZ (y := (⟨"com/example/shrike/shrike/store/LongMap", "isDisplaced", "(II)Z"⟩ : MethodName)) hown (tw hw 54 rfl) (tw hw 55 rfl) (sel_priv (tw hw 20 rfl) rfl (tw hw 56 rfl) (tw hw 55 rfl) (by decide)) (tw hw 56 rfl) (tw hw 6 rfl) (tw hw 57 rfl) (by decide) (rm12 l Z a0 hw [] a1 d kd fj ((i + 1) % 16) hj n0 Zj Ej Fsj Fmj Vj (Nat.mod_lt _ (by decide))) Ej (g := (mkF m 48 #[.val (.ref a1), .val (.long k), .second, .val (.int (Int32.ofNat i)), .val (.long (f (2 * i1 + 1))), .second, .val (.int (15 : Int32)), .val (.int (Int32.ofNat ((i + 1) % 16)))] [(.int (15 : Int32)), (.int (Int32.ofNat ((i + 1) % 16))), (.ref a1)])) rfl (by rw [hml]; rfl) (argsL := [(.int (Int32.ofNat ((i + 1) % 16))), (.int (15 : Int32))]) (rest := []) (lenOf pd4 rfl) rfl (hb hby d11_48) rfl (by decide) (Nat.le_of_ble_eq_true rfl) (k' := 0) (n' := 0) rfl rfl (by decide) (by decide)
        refine Go.by st4 ?_
        obtain ⟨r4, rfl, hr4, rfl⟩ := q4
        show Go p.tables e below _ (T4.setTop (mkF m 51 #[.val (.ref a1), .val (.long k), .second, .val (.int (Int32.ofNat i)), .val (.long (f (2 * i1 + 1))), .second, .val (.int (15 : Int32)), .val (.int (Int32.ofNat ((i + 1) % 16)))] [(.int r4)]))
        refine Go.by (fun _ => XS.ifYes X4.here hx rfl (pc0 := 51) (pc' := 107) rfl (hb hby d11_51) rfl ((if0 _ _).trans (teq (Classical.byContradiction fun z => hr4 z hz0)).1) (by decide) (by decide)) ?_
        show Go p.tables e below _ (T4.setTop (mkF m 107 #[.val (.ref a1), .val (.long k), .second, .val (.int (Int32.ofNat i)), .val (.long (f (2 * i1 + 1))), .second, .val (.int (15 : Int32)), .val (.int (Int32.ofNat ((i + 1) % 16)))] []))
        refine Go.by (fun _ => XS.aloadN X4.here hx rfl (hb hby d11_107) rfl rfl) ?_
        obtain ⟨T5, X5, st5⟩ := X4.getF hx hZ hown (host := "") (Or.inl (tw hw 14 rfl)) Via.refl Fsj (g := (mkF m 108 #[.val (.ref a1), .val (.long k), .second, .val (.int (Int32.ofNat i)), .val (.long (f (2 * i1 + 1))), .second, .val (.int (15 : Int32)), .val (.int (Int32.ofNat ((i + 1) % 16)))] [(.ref a1)])) rfl rfl (hb hby d11_108)
        refine Go.by st5 ?_
        show Go p.tables e below _ (T5.setTop (mkF m 111 #[.val (.ref a1), .val (.long k), .second, .val (.int (Int32.ofNat i)), .val (.long (f (2 * i1 + 1))), .second, .val (.int (15 : Int32)), .val (.int (Int32.ofNat ((i + 1) % 16)))] [(.ref d)]))
        refine Go.by (fun _ => XS.iconst X5.here hx rfl (hb hby d11_111)) ?_
        refine Go.by (fun _ => XS.iloadN X5.here hx rfl (hb hby d11_112) rfl) ?_
        refine Go.by (fun _ => XS.imul X5.here hx rfl (hb hby d11_113) rfl) ?_
        refine Go.by (fun _ => XS.lconst X5.here hx rfl (hb hby d11_114)) ?_
        show Go p.tables e below _ (T5.setTop (mkF m 115 #[.val (.ref a1), .val (.long k), .second, .val (.int (Int32.ofNat i)), .val (.long (f (2 * i1 + 1))), .second, .val (.int (15 : Int32)), .val (.int (Int32.ofNat ((i + 1) % 16)))] [(.long (0 : Int64)), (.int ((2 : Int32) * (Int32.ofNat i))), (.ref d)]))
        obtain ⟨T6, h6, X6, W6, V6, st6⟩ := X5.stJ hx hZ Vj g_d (ix_n hi) (i := 2 * i) (ix_c hi) (ix_l hi) (g := (mkF m 115 #[.val (.ref a1), .val (.long k), .second, .val (.int (Int32.ofNat i)), .val (.long (f (2 * i1 + 1))), .second, .val (.int (15 : Int32)), .val (.int (Int32.ofNat ((i + 1) % 16)))] [(.long (0 : Int64)), (.int ((2 : Int32) * (Int32.ofNat i))), (.ref d)])) rfl rfl (hb hby d11_115)
        have f7_80 := Ej.wr W6
        have f7_81 := Fsj.other W6 (Or.inl nad)
        have f7_82 := Fmj.other W6 (Or.inl nad)
        have f7_83 := Fzj.other W6 (Or.inl nad)
        have f7_84 := Kj.wr W6 (Or.inl (List.mem_of_getElem? (i := 1) rfl))
        have Zs7 : n0 ≤ h6.size := by rw [W6.size]; exact Zj
        refine Go.by st6 ?_
        show Go p.tables e below _ (T6.setTop (mkF m 116 #[.val (.ref a1), .val (.long k), .second, .val (.int (Int32.ofNat i)), .val (.long (f (2 * i1 + 1))), .second, .val (.int (15 : Int32)), .val (.int (Int32.ofNat ((i + 1) % 16)))] []))
        have Vu8 := Avf.cong V6 (g := (fun jj => (.long ((upd fj (2 * i) (0 : Int64)) jj)))) (fun t _ => upd_eq fj (2 * i) (0 : Int64) t)
        refine Go.by (fun _ => XS.aloadN X6.here hx rfl (hb hby d11_116) rfl rfl) ?_
        obtain ⟨T9, X9, st9⟩ := X6.getF hx hZ hown (host := "") (Or.inl (tw hw 14 rfl)) Via.refl f7_81 (g := (mkF m 117 #[.val (.ref a1), .val (.long k), .second, .val (.int (Int32.ofNat i)), .val (.long (f (2 * i1 + 1))), .second, .val (.int (15 : Int32)), .val (.int (Int32.ofNat ((i + 1) % 16)))] [(.ref a1)])) rfl rfl (hb hby d11_117)
        refine Go.by st9 ?_
        show Go p.tables e below _ (T9.setTop (mkF m 120 #[.val (.ref a1), .val (.long k), .second, .val (.int (Int32.ofNat i)), .val (.long (f (2 * i1 + 1))), .second, .val (.int (15 : Int32)), .val (.int (Int32.ofNat ((i + 1) % 16)))] [(.ref d)]))
        refine Go.by (fun _ => XS.iconst X9.here hx rfl (hb hby d11_120)) ?_
        show Go p.tables e below _ (T9.setTop (mkF m 121 #[.val (.ref a1), .val (.long k), .second, .val (.int (Int32.ofNat i)), .val (.long (f (2 * i1 + 1))), .second, .val (.int (15 : Int32)), .val (.int (Int32.ofNat ((i + 1) % 16)))] [(.int (2 : Int32)), (.ref d)]))
        refine Go.by (fun _ => XS.iloadN X9.here hx rfl (hb hby d11_121) rfl) ?_
        refine Go.by (fun _ => XS.imul X9.here hx rfl (hb hby d11_122) rfl) ?_
        refine Go.by (fun _ => XS.iconst X9.here hx rfl (hb hby d11_123)) ?_
        refine Go.by (fun _ => XS.iadd X9.here hx rfl (hb hby d11_124) rfl) ?_
        show Go p.tables e below _ (T9.setTop (mkF m 125 #[.val (.ref a1), .val (.long k), .second, .val (.int (Int32.ofNat i)), .val (.long (f (2 * i1 + 1))), .second, .val (.int (15 : Int32)), .val (.int (Int32.ofNat ((i + 1) % 16)))] [(.int (((2 : Int32) * (Int32.ofNat i)) + (1 : Int32))), (.ref d)]))
        refine Go.by (fun _ => XS.lconst X9.here hx rfl (hb hby d11_125)) ?_
        obtain ⟨T10, h10, X10, W10, V10, st10⟩ := X9.stJ hx hZ Vu8 g_d (ix1_n hi) (i := 2 * i + 1) (ix1_c hi) (ix1_l hi) (g := (mkF m 126 #[.val (.ref a1), .val (.long k), .second, .val (.int (Int32.ofNat i)), .val (.long (f (2 * i1 + 1))), .second, .val (.int (15 : Int32)), .val (.int (Int32.ofNat ((i + 1) % 16)))] [(.long (0 : Int64)), (.int (((2 : Int32) * (Int32.ofNat i)) + (1 : Int32))), (.ref d)])) rfl rfl (hb hby d11_126)
        have f11_102 := f7_80.wr W10
        have f11_103 := f7_81.other W10 (Or.inl nad)
        have f11_104 := f7_82.other W10 (Or.inl nad)
        have f11_105 := f7_83.other W10 (Or.inl nad)
        have f11_106 := f7_84.wr W10 (Or.inl (List.mem_of_getElem? (i := 1) rfl))
        have Zs11 : n0 ≤ h10.size := by rw [W10.size]; exact Zs7
        refine Go.by st10 ?_
        show Go p.tables e below _ (T10.setTop (mkF m 127 #[.val (.ref a1), .val (.long k), .second, .val (.int (Int32.ofNat i)), .val (.long (f (2 * i1 + 1))), .second, .val (.int (15 : Int32)), .val (.int (Int32.ofNat ((i + 1) % 16)))] []))
        have Vu12 := Avf.cong V10 (g := (fun jj => (.long ((upd (upd fj (2 * i) (0 : Int64)) (2 * i + 1) (0 : Int64)) jj)))) (fun t _ => upd_eq (upd fj (2 * i) (0 : Int64)) (2 * i + 1) (0 : Int64) t)
        refine Go.by (fun _ => XS.aloadN X10.here hx rfl (hb hby d11_127) rfl rfl) ?_
        refine Go.by (fun _ => XS.dup X10.here hx rfl (hb hby d11_128) rfl rfl) ?_
        show Go p.tables e below _ (T10.setTop (mkF m 129 #[.val (.ref a1), .val (.long k), .second, .val (.int (Int32.ofNat i)), .val (.long (f (2 * i1 + 1))), .second, .val (.int (15 : Int32)), .val (.int (Int32.ofNat ((i + 1) % 16)))] [(.ref a1), (.ref a1)]))
        obtain ⟨T13, X13, st13⟩ := X10.getF hx hZ hown (host := "") (Or.inl (tw hw 32 rfl)) Via.refl f11_105 (g := (mkF m 129 #[.val (.ref a1), .val (.long k), .second, .val (.int (Int32.ofNat i)), .val (.long (f (2 * i1 + 1))), .second, .val (.int (15 : Int32)), .val (.int (Int32.ofNat ((i + 1) % 16)))] [(.ref a1), (.ref a1)])) rfl rfl (hb hby d11_129)
        refine Go.by st13 ?_
        show Go p.tables e below _ (T13.setTop (mkF m 132 #[.val (.ref a1), .val (.long k), .second, .val (.int (Int32.ofNat i)), .val (.long (f (2 * i1 + 1))), .second, .val (.int (15 : Int32)), .val (.int (Int32.ofNat ((i + 1) % 16)))] [(.int (Int32.ofNat sz)), (.ref a1)]))
        refine Go.by (fun _ => XS.iconst X13.here hx rfl (hb hby d11_132)) ?_
        refine Go.by (fun _ => XS.isub X13.here hx rfl (hb hby d11_133) rfl) ?_
        obtain ⟨T14, h14, X14, W14, st14⟩ := X13.putF hx hZ hown (host := "") (Or.inl (tw hw 32 rfl)) Via.refl f11_105 f11_102 g_a1 (Or.inl (tw hw 33 rfl)) (tw hw 5 rfl) (ty := .int) (by decide) rfl rfl (g := (mkF m 134 #[.val (.ref a1), .val (.long k), .second, .val (.int (Int32.ofNat i)), .val (.long (f (2 * i1 + 1))), .second, .val (.int (15 : Int32)), .val (.int (Int32.ofNat ((i + 1) % 16)))] [(.int ((Int32.ofNat sz) - (1 : Int32))), (.ref a1)])) rfl rfl (hb hby d11_134)
        have Fw14 := f11_105.same W14
        have f15_121 := f11_102.wr W14
        have f15_122 := f11_103.other W14 (Or.inr (slot_ne (Or.inl (tw hw 15 rfl)) (Or.inl (tw hw 33 rfl)) (by decide) (t := (.array .long)) (t' := .int) (by decide) (by decide)))
        have f15_123 := f11_104.other W14 (Or.inr (slot_ne (Or.inl (tw hw 31 rfl)) (Or.inl (tw hw 33 rfl)) (by decide) (t := .boolean) (t' := .int) (by decide) (by decide)))
        have f15_124 := Avf.other Vu12 W14 (Ne.symm nad)
        have f15_125 := f11_106.wr W14 (Or.inl (List.mem_of_getElem? (i := 0) rfl))
        have Zs15 : n0 ≤ h14.size := by rw [W14.size]; exact Zs11
        refine Go.by st14 ?_
        show Go p.tables e below _ (T14.setTop (mkF m 137 #[.val (.ref a1), .val (.long k), .second, .val (.int (Int32.ofNat i)), .val (.long (f (2 * i1 + 1))), .second, .val (.int (15 : Int32)), .val (.int (Int32.ofNat ((i + 1) % 16)))] []))
        refine Go.by (fun _ => XS.lload X14.here hx rfl (hb hby d11_137) rfl) ?_
        refine Go.retL X14 hx hlk hret (hb hby d11_139) (by decide) (by decide) ?_
        have hl := len_less (f := fj) hi hne
        refine ⟨_, _, sz - 1, rfl, f15_125, f15_121, f15_122, f15_123, f15_124, ?_, by rw [pre_odd]; omega, by omega, fun x hx => ?_⟩
        · rw [← own_pred (by omega)]; exact Fw14
        · have a1 := cnt_upd (f := fj) (i := i) (v := 0) hi hx
          have a2 := hcnt x hx
          rw [one_zero hx] at a1
          rw [pre_odd]
          have a3 : one x k = if k = x then 1 else 0 := rfl
          by_cases q : k = x
          · rw [if_pos q] at a3 ⊢; rw [q]; omega
          · rw [if_neg q] at a3 ⊢; omega
      | succ kk ih =>
        intro fj i hi hkk hne hqj hcnt hlen Tj hj Xj Zj Kj Ej Fsj Fmj Fzj Vj
        refine Go.by (fun _ => XS.aloadN Xj.here hx rfl (hb hby d11_43) rfl rfl) ?_
        refine Go.by (fun _ => XS.iload Xj.here hx rfl (hb hby d11_44) rfl) ?_
        refine Go.by (fun _ => XS.iload Xj.here hx rfl (hb hby d11_46) rfl) ?_
        show Go p.tables e below _ (Tj.setTop (mkF m 48 #[.val (.ref a1), .val (.long k), .second, .val (.int (Int32.ofNat i)), .val (.long (f (2 * i1 + 1))), .second, .val (.int (15 : Int32)), .val (.int (Int32.ofNat ((i + 1) % 16)))] [(.int (15 : Int32)), (.int (Int32.ofNat ((i + 1) % 16))), (.ref a1)]))
        obtain ⟨v16, T16, h16, X16, q16, st16⟩ := Xj.callP hx hZ (y := (⟨"com/example/shrike/shrike/store/LongMap", "isDisplaced", "(II)Z"⟩ : MethodName)) hown (tw hw 54 rfl) (tw hw 55 rfl) (sel_priv (tw hw 20 rfl) rfl (tw hw 56 rfl) (tw hw 55 rfl) (by decide)) (tw hw 56 rfl) (tw hw 6 rfl) (tw hw 57 rfl) (by decide) (rm12 l Z a0 hw [] a1 d kd fj ((i + 1) % 16) hj n0 Zj Ej Fsj Fmj Vj (Nat.mod_lt _ (by decide))) Ej (g := (mkF m 48 #[.val (.ref a1), .val (.long k), .second, .val (.int (Int32.ofNat i)), .val (.long (f (2 * i1 + 1))), .second, .val (.int (15 : Int32)), .val (.int (Int32.ofNat ((i + 1) % 16)))] [(.int (15 : Int32)), (.int (Int32.ofNat ((i + 1) % 16))), (.ref a1)])) rfl (by rw [hml]; rfl) (argsL := [(.int (Int32.ofNat ((i + 1) % 16))), (.int (15 : Int32))]) (rest := []) (lenOf pd4 rfl) rfl (hb hby d11_48) rfl (by decide) (Nat.le_of_ble_eq_true rfl) (k' := 0) (n' := 0) rfl rfl (by decide) (by decide)
        refine Go.by st16 ?_
        obtain ⟨r16, rfl, hr16, rfl⟩ := q16
        show Go p.tables e below _ (T16.setTop (mkF m 51 #[.val (.ref a1), .val (.long k), .second, .val (.int (Int32.ofNat i)), .val (.long (f (2 * i1 + 1))), .second, .val (.int (15 : Int32)), .val (.int (Int32.ofNat ((i + 1) % 16)))] [(.int r16)]))
        by_cases hc51_17 : r16 = (0 : Int32)
        · skip
          refine Go.by (fun _ => XS.ifYes X16.here hx rfl (pc0 := 51) (pc' := 107) rfl (hb hby d11_51) rfl ((if0 _ _).trans (teq hc51_17).1) (by decide) (by decide)) ?_
          show Go p.tables e below _ (T16.setTop (mkF m 107 #[.val (.ref a1), .val (.long k), .second, .val (.int (Int32.ofNat i)), .val (.long (f (2 * i1 + 1))), .second, .val (.int (15 : Int32)), .val (.int (Int32.ofNat ((i + 1) % 16)))] []))
          refine Go.by (fun _ => XS.aloadN X16.here hx rfl (hb hby d11_107) rfl rfl) ?_
          obtain ⟨T18, X18, st18⟩ := X16.getF hx hZ hown (host := "") (Or.inl (tw hw 14 rfl)) Via.refl Fsj (g := (mkF m 108 #[.val (.ref a1), .val (.long k), .second, .val (.int (Int32.ofNat i)), .val (.long (f (2 * i1 + 1))), .second, .val (.int (15 : Int32)), .val (.int (Int32.ofNat ((i + 1) % 16)))] [(.ref a1)])) rfl rfl (hb hby d11_108)
          refine Go.by st18 ?_
          show Go p.tables e below _ (T18.setTop (mkF m 111 #[.val (.ref a1), .val (.long k), .second, .val (.int (Int32.ofNat i)), .val (.long (f (2 * i1 + 1))), .second, .val (.int (15 : Int32)), .val (.int (Int32.ofNat ((i + 1) % 16)))] [(.ref d)]))
          refine Go.by (fun _ => XS.iconst X18.here hx rfl (hb hby d11_111)) ?_
          refine Go.by (fun _ => XS.iloadN X18.here hx rfl (hb hby d11_112) rfl) ?_
          show Go p.tables e below _ (T18.setTop (mkF m 113 #[.val (.ref a1), .val (.long k), .second, .val (.int (Int32.ofNat i)), .val (.long (f (2 * i1 + 1))), .second, .val (.int (15 : Int32)), .val (.int (Int32.ofNat ((i + 1) % 16)))] [(.int (Int32.ofNat i)), (.int (2 : Int32)), (.ref d)]))
          refine Go.by (fun _ => XS.imul X18.here hx rfl (hb hby d11_113) rfl) ?_
          refine Go.by (fun _ => XS.lconst X18.here hx rfl (hb hby d11_114)) ?_
          obtain ⟨T19, h19, X19, W19, V19, st19⟩ := X18.stJ hx hZ Vj g_d (ix_n hi) (i := 2 * i) (ix_c hi) (ix_l hi) (g := (mkF m 115 #[.val (.ref a1), .val (.long k), .second, .val (.int (Int32.ofNat i)), .val (.long (f (2 * i1 + 1))), .second, .val (.int (15 : Int32)), .val (.int (Int32.ofNat ((i + 1) % 16)))] [(.long (0 : Int64)), (.int ((2 : Int32) * (Int32.ofNat i))), (.ref d)])) rfl rfl (hb hby d11_115)
          have f20_166 := Ej.wr W19
          have f20_167 := Fsj.other W19 (Or.inl nad)
          have f20_168 := Fmj.other W19 (Or.inl nad)
          have f20_169 := Fzj.other W19 (Or.inl nad)
          have f20_170 := Kj.wr W19 (Or.inl (List.mem_of_getElem? (i := 1) rfl))
          have Zs20 : n0 ≤ h19.size := by rw [W19.size]; exact Zj
          refine Go.by st19 ?_
          show Go p.tables e below _ (T19.setTop (mkF m 116 #[.val (.ref a1), .val (.long k), .second, .val (.int (Int32.ofNat i)), .val (.long (f (2 * i1 + 1))), .second, .val (.int (15 : Int32)), .val (.int (Int32.ofNat ((i + 1) % 16)))] []))
          have Vu21 := Avf.cong V19 (g := (fun jj => (.long ((upd fj (2 * i) (0 : Int64)) jj)))) (fun t _ => upd_eq fj (2 * i) (0 : Int64) t)
          refine Go.by (fun _ => XS.aloadN X19.here hx rfl (hb hby d11_116) rfl rfl) ?_
          show Go p.tables e below _ (T19.setTop (mkF m 117 #[.val (.ref a1), .val (.long k), .second, .val (.int (Int32.ofNat i)), .val (.long (f (2 * i1 + 1))), .second, .val (.int (15 : Int32)), .val (.int (Int32.ofNat ((i + 1) % 16)))] [(.ref a1)]))
          obtain ⟨T22, X22, st22⟩ := X19.getF hx hZ hown (host := "") (Or.inl (tw hw 14 rfl)) Via.refl f20_167 (g := (mkF m 117 #[.val (.ref a1), .val (.long k), .second, .val (.int (Int32.ofNat i)), .val (.long (f (2 * i1 + 1))), .second, .val (.int (15 : Int32)), .val (.int (Int32.ofNat ((i + 1) % 16)))] [(.ref a1)])) rfl rfl (hb hby d11_117)
          refine Go.by st22 ?_
          show Go p.tables e below _ (T22.setTop (mkF m 120 #[.val (.ref a1), .val (.long k), .second, .val (.int (Int32.ofNat i)), .val (.long (f (2 * i1 + 1))), .second, .val (.int (15 : Int32)), .val (.int (Int32.ofNat ((i + 1) % 16)))] [(.ref d)]))
          refine Go.by (fun _ => XS.iconst X22.here hx rfl (hb hby d11_120)) ?_
          refine Go.by (fun _ => XS.iloadN X22.here hx rfl (hb hby d11_121) rfl) ?_
          refine Go.by (fun _ => XS.imul X22.here hx rfl (hb hby d11_122) rfl) ?_
          show Go p.tables e below _ (T22.setTop (mkF m 123 #[.val (.ref a1), .val (.long k), .second, .val (.int (Int32.ofNat i)), .val (.long (f (2 * i1 + 1))), .second, .val (.int (15 : Int32)), .val (.int (Int32.ofNat ((i + 1) % 16)))] [(.int ((2 : Int32) * (Int32.ofNat i))), (.ref d)]))
          refine Go.by (fun _ => XS.iconst X22.here hx rfl (hb hby d11_123)) ?_
          refine Go.by (fun _ => XS.iadd X22.here hx rfl (hb hby d11_124) rfl) ?_
          refine Go.by (fun _ => XS.lconst X22.here hx rfl (hb hby d11_125)) ?_
          obtain ⟨T23, h23, X23, W23, V23, st23⟩ := X22.stJ hx hZ Vu21 g_d (ix1_n hi) (i := 2 * i + 1) (ix1_c hi) (ix1_l hi) (g := (mkF m 126 #[.val (.ref a1), .val (.long k), .second, .val (.int (Int32.ofNat i)), .val (.long (f (2 * i1 + 1))), .second, .val (.int (15 : Int32)), .val (.int (Int32.ofNat ((i + 1) % 16)))] [(.long (0 : Int64)), (.int (((2 : Int32) * (Int32.ofNat i)) + (1 : Int32))), (.ref d)])) rfl rfl (hb hby d11_126)
          have f24_188 := f20_166.wr W23
          have f24_189 := f20_167.other W23 (Or.inl nad)
          have f24_190 := f20_168.other W23 (Or.inl nad)
          have f24_191 := f20_169.other W23 (Or.inl nad)
          have f24_192 := f20_170.wr W23 (Or.inl (List.mem_of_getElem? (i := 1) rfl))
          have Zs24 : n0 ≤ h23.size := by rw [W23.size]; exact Zs20
          refine Go.by st23 ?_
          show Go p.tables e below _ (T23.setTop (mkF m 127 #[.val (.ref a1), .val (.long k), .second, .val (.int (Int32.ofNat i)), .val (.long (f (2 * i1 + 1))), .second, .val (.int (15 : Int32)), .val (.int (Int32.ofNat ((i + 1) % 16)))] []))
          have Vu25 := Avf.cong V23 (g := (fun jj => (.long ((upd (upd fj (2 * i) (0 : Int64)) (2 * i + 1) (0 : Int64)) jj)))) (fun t _ => upd_eq (upd fj (2 * i) (0 : Int64)) (2 * i + 1) (0 : Int64) t)
          refine Go.by (fun _ => XS.aloadN X23.here hx rfl (hb hby d11_127) rfl rfl) ?_
          refine Go.by (fun _ => XS.dup X23.here hx rfl (hb hby d11_128) rfl rfl) ?_
          obtain ⟨T26, X26, st26⟩ := X23.getF hx hZ hown (host := "") (Or.inl (tw hw 32 rfl)) Via.refl f24_191 (g := (mkF m 129 #[.val (.ref a1), .val (.long k), .second, .val (.int (Int32.ofNat i)), .val (.long (f (2 * i1 + 1))), .second, .val (.int (15 : Int32)), .val (.int (Int32.ofNat ((i + 1) % 16)))] [(.ref a1), (.ref a1)])) rfl rfl (hb hby d11_129)
          refine Go.by st26 ?_
          show Go p.tables e below _ (T26.setTop (mkF m 132 #[.val (.ref a1), .val (.long k), .second, .val (.int (Int32.ofNat i)), .val (.long (f (2 * i1 + 1))), .second, .val (.int (15 : Int32)), .val (.int (Int32.ofNat ((i + 1) % 16)))] [(.int (Int32.ofNat sz)), (.ref a1)]))
          refine Go.by (fun _ => XS.iconst X26.here hx rfl (hb hby d11_132)) ?_
          show Go p.tables e below _ (T26.setTop (mkF m 133 #[.val (.ref a1), .val (.long k), .second, .val (.int (Int32.ofNat i)), .val (.long (f (2 * i1 + 1))), .second, .val (.int (15 : Int32)), .val (.int (Int32.ofNat ((i + 1) % 16)))] [(.int (1 : Int32)), (.int (Int32.ofNat sz)), (.ref a1)]))
          refine Go.by (fun _ => XS.isub X26.here hx rfl (hb hby d11_133) rfl) ?_
          obtain ⟨T27, h27, X27, W27, st27⟩ := X26.putF hx hZ hown (host := "") (Or.inl (tw hw 32 rfl)) Via.refl f24_191 f24_188 g_a1 (Or.inl (tw hw 33 rfl)) (tw hw 5 rfl) (ty := .int) (by decide) rfl rfl (g := (mkF m 134 #[.val (.ref a1), .val (.long k), .second, .val (.int (Int32.ofNat i)), .val (.long (f (2 * i1 + 1))), .second, .val (.int (15 : Int32)), .val (.int (Int32.ofNat ((i + 1) % 16)))] [(.int ((Int32.ofNat sz) - (1 : Int32))), (.ref a1)])) rfl rfl (hb hby d11_134)
          have Fw27 := f24_191.same W27
          have f28_207 := f24_188.wr W27
          have f28_208 := f24_189.other W27 (Or.inr (slot_ne (Or.inl (tw hw 15 rfl)) (Or.inl (tw hw 33 rfl)) (by decide) (t := (.array .long)) (t' := .int) (by decide) (by decide)))
          have f28_209 := f24_190.other W27 (Or.inr (slot_ne (Or.inl (tw hw 31 rfl)) (Or.inl (tw hw 33 rfl)) (by decide) (t := .boolean) (t' := .int) (by decide) (by decide)))
          have f28_210 := Avf.other Vu25 W27 (Ne.symm nad)
          have f28_211 := f24_192.wr W27 (Or.inl (List.mem_of_getElem? (i := 0) rfl))
          have Zs28 : n0 ≤ h27.size := by rw [W27.size]; exact Zs24
          refine Go.by st27 ?_
          show Go p.tables e below _ (T27.setTop (mkF m 137 #[.val (.ref a1), .val (.long k), .second, .val (.int (Int32.ofNat i)), .val (.long (f (2 * i1 + 1))), .second, .val (.int (15 : Int32)), .val (.int (Int32.ofNat ((i + 1) % 16)))] []))
          refine Go.by (fun _ => XS.lload X27.here hx rfl (hb hby d11_137) rfl) ?_
          refine Go.retL X27 hx hlk hret (hb hby d11_139) (by decide) (by decide) ?_
          have hl := len_less (f := fj) hi hne
          refine ⟨_, _, sz - 1, rfl, f28_211, f28_207, f28_208, f28_209, f28_210, ?_, by rw [pre_odd]; omega, by omega, fun x hx => ?_⟩
          · rw [← own_pred (by omega)]; exact Fw27
          · have a1 := cnt_upd (f := fj) (i := i) (v := 0) hi hx
            have a2 := hcnt x hx
            rw [one_zero hx] at a1
            rw [pre_odd]
            have a3 : one x k = if k = x then 1 else 0 := rfl
            by_cases q : k = x
            · rw [if_pos q] at a3 ⊢; rw [q]; omega
            · rw [if_neg q] at a3 ⊢; omega
        · skip
          refine Go.by (fun _ => XS.ifNo X16.here hx rfl (hb hby d11_51) rfl ((if0 _ _).trans (feq hc51_17).1)) ?_
          show Go p.tables e below _ (T16.setTop (mkF m 54 #[.val (.ref a1), .val (.long k), .second, .val (.int (Int32.ofNat i)), .val (.long (f (2 * i1 + 1))), .second, .val (.int (15 : Int32)), .val (.int (Int32.ofNat ((i + 1) % 16)))] []))
          refine Go.by (fun _ => XS.aloadN X16.here hx rfl (hb hby d11_54) rfl rfl) ?_
          show Go p.tables e below _ (T16.setTop (mkF m 55 #[.val (.ref a1), .val (.long k), .second, .val (.int (Int32.ofNat i)), .val (.long (f (2 * i1 + 1))), .second, .val (.int (15 : Int32)), .val (.int (Int32.ofNat ((i + 1) % 16)))] [(.ref a1)]))
          obtain ⟨T29, X29, st29⟩ := X16.getF hx hZ hown (host := "") (Or.inl (tw hw 14 rfl)) Via.refl Fsj (g := (mkF m 55 #[.val (.ref a1), .val (.long k), .second, .val (.int (Int32.ofNat i)), .val (.long (f (2 * i1 + 1))), .second, .val (.int (15 : Int32)), .val (.int (Int32.ofNat ((i + 1) % 16)))] [(.ref a1)])) rfl rfl (hb hby d11_55)
          refine Go.by st29 ?_
          show Go p.tables e below _ (T29.setTop (mkF m 58 #[.val (.ref a1), .val (.long k), .second, .val (.int (Int32.ofNat i)), .val (.long (f (2 * i1 + 1))), .second, .val (.int (15 : Int32)), .val (.int (Int32.ofNat ((i + 1) % 16)))] [(.ref d)]))
          refine Go.by (fun _ => XS.iconst X29.here hx rfl (hb hby d11_58)) ?_
          refine Go.by (fun _ => XS.iloadN X29.here hx rfl (hb hby d11_59) rfl) ?_
          refine Go.by (fun _ => XS.imul X29.here hx rfl (hb hby d11_60) rfl) ?_
          show Go p.tables e below _ (T29.setTop (mkF m 61 #[.val (.ref a1), .val (.long k), .second, .val (.int (Int32.ofNat i)), .val (.long (f (2 * i1 + 1))), .second, .val (.int (15 : Int32)), .val (.int (Int32.ofNat ((i + 1) % 16)))] [(.int ((2 : Int32) * (Int32.ofNat i))), (.ref d)]))
          refine Go.by (fun _ => XS.aloadN X29.here hx rfl (hb hby d11_61) rfl rfl) ?_
          obtain ⟨T30, X30, st30⟩ := X29.getF hx hZ hown (host := "") (Or.inl (tw hw 14 rfl)) Via.refl Fsj (g := (mkF m 62 #[.val (.ref a1), .val (.long k), .second, .val (.int (Int32.ofNat i)), .val (.long (f (2 * i1 + 1))), .second, .val (.int (15 : Int32)), .val (.int (Int32.ofNat ((i + 1) % 16)))] [(.ref a1), (.int ((2 : Int32) * (Int32.ofNat i))), (.ref d)])) rfl rfl (hb hby d11_62)
          refine Go.by st30 ?_
          show Go p.tables e below _ (T30.setTop (mkF m 65 #[.val (.ref a1), .val (.long k), .second, .val (.int (Int32.ofNat i)), .val (.long (f (2 * i1 + 1))), .second, .val (.int (15 : Int32)), .val (.int (Int32.ofNat ((i + 1) % 16)))] [(.ref d), (.int ((2 : Int32) * (Int32.ofNat i))), (.ref d)]))
          refine Go.by (fun _ => XS.iconst X30.here hx rfl (hb hby d11_65)) ?_
          refine Go.by (fun _ => XS.iload X30.here hx rfl (hb hby d11_66) rfl) ?_
          show Go p.tables e below _ (T30.setTop (mkF m 68 #[.val (.ref a1), .val (.long k), .second, .val (.int (Int32.ofNat i)), .val (.long (f (2 * i1 + 1))), .second, .val (.int (15 : Int32)), .val (.int (Int32.ofNat ((i + 1) % 16)))] [(.int (Int32.ofNat ((i + 1) % 16))), (.int (2 : Int32)), (.ref d), (.int ((2 : Int32) * (Int32.ofNat i))), (.ref d)]))
          refine Go.by (fun _ => XS.imul X30.here hx rfl (hb hby d11_68) rfl) ?_
          refine Go.by (X30.ldJ hx hZ Vj (ix_n (i := ((i + 1) % 16)) (Nat.mod_lt _ (by decide))) (i := 2 * ((i + 1) % 16)) (ix_c (i := ((i + 1) % 16)) (Nat.mod_lt _ (by decide))) (ix_l (i := ((i + 1) % 16)) (Nat.mod_lt _ (by decide))) (v := (.long (fj (2 * ((i + 1) % 16))))) rfl (g := (mkF m 69 #[.val (.ref a1), .val (.long k), .second, .val (.int (Int32.ofNat i)), .val (.long (f (2 * i1 + 1))), .second, .val (.int (15 : Int32)), .val (.int (Int32.ofNat ((i + 1) % 16)))] [(.int ((2 : Int32) * (Int32.ofNat ((i + 1) % 16)))), (.ref d), (.int ((2 : Int32) * (Int32.ofNat i))), (.ref d)])) rfl rfl (hb hby d11_69)) ?_
          show Go p.tables e below _ (T30.setTop (mkF m 70 #[.val (.ref a1), .val (.long k), .second, .val (.int (Int32.ofNat i)), .val (.long (f (2 * i1 + 1))), .second, .val (.int (15 : Int32)), .val (.int (Int32.ofNat ((i + 1) % 16)))] [(.long (fj (2 * ((i + 1) % 16)))), (.int ((2 : Int32) * (Int32.ofNat i))), (.ref d)]))
          obtain ⟨T31, h31, X31, W31, V31, st31⟩ := X30.stJ hx hZ Vj g_d (ix_n hi) (i := 2 * i) (ix_c hi) (ix_l hi) (g := (mkF m 70 #[.val (.ref a1), .val (.long k), .second, .val (.int (Int32.ofNat i)), .val (.long (f (2 * i1 + 1))), .second, .val (.int (15 : Int32)), .val (.int (Int32.ofNat ((i + 1) % 16)))] [(.long (fj (2 * ((i + 1) % 16)))), (.int ((2 : Int32) * (Int32.ofNat i))), (.ref d)])) rfl rfl (hb hby d11_70)
          have f32_251 := Ej.wr W31
          have f32_252 := Fsj.other W31 (Or.inl nad)
          have f32_253 := Fmj.other W31 (Or.inl nad)
          have f32_254 := Fzj.other W31 (Or.inl nad)
          have f32_255 := Kj.wr W31 (Or.inl (List.mem_of_getElem? (i := 1) rfl))
          have Zs32 : n0 ≤ h31.size := by rw [W31.size]; exact Zj
          refine Go.by st31 ?_
          show Go p.tables e below _ (T31.setTop (mkF m 71 #[.val (.ref a1), .val (.long k), .second, .val (.int (Int32.ofNat i)), .val (.long (f (2 * i1 + 1))), .second, .val (.int (15 : Int32)), .val (.int (Int32.ofNat ((i + 1) % 16)))] []))
          have Vu33 := Avf.cong V31 (g := (fun jj => (.long ((upd fj (2 * i) (fj (2 * ((i + 1) % 16)))) jj)))) (fun t _ => upd_eq fj (2 * i) (fj (2 * ((i + 1) % 16))) t)
          refine Go.by (fun _ => XS.aloadN X31.here hx rfl (hb hby d11_71) rfl rfl) ?_
          show Go p.tables e below _ (T31.setTop (mkF m 72 #[.val (.ref a1), .val (.long k), .second, .val (.int (Int32.ofNat i)), .val (.long (f (2 * i1 + 1))), .second, .val (.int (15 : Int32)), .val (.int (Int32.ofNat ((i + 1) % 16)))] [(.ref a1)]))
          obtain ⟨T34, X34, st34⟩ := X31.getF hx hZ hown (host := "") (Or.inl (tw hw 14 rfl)) Via.refl f32_252 (g := (mkF m 72 #[.val (.ref a1), .val (.long k), .second, .val (.int (Int32.ofNat i)), .val (.long (f (2 * i1 + 1))), .second, .val (.int (15 : Int32)), .val (.int (Int32.ofNat ((i + 1) % 16)))] [(.ref a1)])) rfl rfl (hb hby d11_72)
          refine Go.by st34 ?_
          show Go p.tables e below _ (T34.setTop (mkF m 75 #[.val (.ref a1), .val (.long k), .second, .val (.int (Int32.ofNat i)), .val (.long (f (2 * i1 + 1))), .second, .val (.int (15 : Int32)), .val (.int (Int32.ofNat ((i + 1) % 16)))] [(.ref d)]))
          refine Go.by (fun _ => XS.iconst X34.here hx rfl (hb hby d11_75)) ?_
          refine Go.by (fun _ => XS.iloadN X34.here hx rfl (hb hby d11_76) rfl) ?_
          refine Go.by (fun _ => XS.imul X34.here hx rfl (hb hby d11_77) rfl) ?_
          show Go p.tables e below _ (T34.setTop (mkF m 78 #[.val (.ref a1), .val (.long k), .second, .val (.int (Int32.ofNat i)), .val (.long (f (2 * i1 + 1))), .second, .val (.int (15 : Int32)), .val (.int (Int32.ofNat ((i + 1) % 16)))] [(.int ((2 : Int32) * (Int32.ofNat i))), (.ref d)]))
          refine Go.by (fun _ => XS.iconst X34.here hx rfl (hb hby d11_78)) ?_
          refine Go.by (fun _ => XS.iadd X34.here hx rfl (hb hby d11_79) rfl) ?_
          refine Go.by (fun _ => XS.aloadN X34.here hx rfl (hb hby d11_80) rfl rfl) ?_
          obtain ⟨T35, X35, st35⟩ := X34.getF hx hZ hown (host := "") (Or.inl (tw hw 14 rfl)) Via.refl f32_252 (g := (mkF m 81 #[.val (.ref a1), .val (.long k), .second, .val (.int (Int32.ofNat i)), .val (.long (f (2 * i1 + 1))), .second, .val (.int (15 : Int32)), .val (.int (Int32.ofNat ((i + 1) % 16)))] [(.ref a1), (.int (((2 : Int32) * (Int32.ofNat i)) + (1 : Int32))), (.ref d)])) rfl rfl (hb hby d11_81)
          refine Go.by st35 ?_
          show Go p.tables e below _ (T35.setTop (mkF m 84 #[.val (.ref a1), .val (.long k), .second, .val (.int (Int32.ofNat i)), .val (.long (f (2 * i1 + 1))), .second, .val (.int (15 : Int32)), .val (.int (Int32.ofNat ((i + 1) % 16)))] [(.ref d), (.int (((2 : Int32) * (Int32.ofNat i)) + (1 : Int32))), (.ref d)]))
          refine Go.by (fun _ => XS.iconst X35.here hx rfl (hb hby d11_84)) ?_
          refine Go.by (fun _ => XS.iload X35.here hx rfl (hb hby d11_85) rfl) ?_
          refine Go.by (fun _ => XS.imul X35.here hx rfl (hb hby d11_87) rfl) ?_
          refine Go.by (fun _ => XS.iconst X35.here hx rfl (hb hby d11_88)) ?_
          show Go p.tables e below _ (T35.setTop (mkF m 89 #[.val (.ref a1), .val (.long k), .second, .val (.int (Int32.ofNat i)), .val (.long (f (2 * i1 + 1))), .second, .val (.int (15 : Int32)), .val (.int (Int32.ofNat ((i + 1) % 16)))] [(.int (1 : Int32)), (.int ((2 : Int32) * (Int32.ofNat ((i + 1) % 16)))), (.ref d), (.int (((2 : Int32) * (Int32.ofNat i)) + (1 : Int32))), (.ref d)]))
          refine Go.by (fun _ => XS.iadd X35.here hx rfl (hb hby d11_89) rfl) ?_
          refine Go.by (X35.ldJ hx hZ Vu33 (ix1_n (i := ((i + 1) % 16)) (Nat.mod_lt _ (by decide))) (i := 2 * ((i + 1) % 16) + 1) (ix1_c (i := ((i + 1) % 16)) (Nat.mod_lt _ (by decide))) (ix1_l (i := ((i + 1) % 16)) (Nat.mod_lt _ (by decide))) (v := (.long ((upd fj (2 * i) (fj (2 * ((i + 1) % 16)))) (2 * ((i + 1) % 16) + 1)))) rfl (g := (mkF m 90 #[.val (.ref a1), .val (.long k), .second, .val (.int (Int32.ofNat i)), .val (.long (f (2 * i1 + 1))), .second, .val (.int (15 : Int32)), .val (.int (Int32.ofNat ((i + 1) % 16)))] [(.int (((2 : Int32) * (Int32.ofNat ((i + 1) % 16))) + (1 : Int32))), (.ref d), (.int (((2 : Int32) * (Int32.ofNat i)) + (1 : Int32))), (.ref d)])) rfl rfl (hb hby d11_90)) ?_
          show Go p.tables e below _ (T35.setTop (mkF m 91 #[.val (.ref a1), .val (.long k), .second, .val (.int (Int32.ofNat i)), .val (.long (f (2 * i1 + 1))), .second, .val (.int (15 : Int32)), .val (.int (Int32.ofNat ((i + 1) % 16)))] [(.long ((upd fj (2 * i) (fj (2 * ((i + 1) % 16)))) (2 * ((i + 1) % 16) + 1))), (.int (((2 : Int32) * (Int32.ofNat i)) + (1 : Int32))), (.ref d)]))
          obtain ⟨T36, h36, X36, W36, V36, st36⟩ := X35.stJ hx hZ Vu33 g_d (ix1_n hi) (i := 2 * i + 1) (ix1_c hi) (ix1_l hi) (g := (mkF m 91 #[.val (.ref a1), .val (.long k), .second, .val (.int (Int32.ofNat i)), .val (.long (f (2 * i1 + 1))), .second, .val (.int (15 : Int32)), .val (.int (Int32.ofNat ((i + 1) % 16)))] [(.long ((upd fj (2 * i) (fj (2 * ((i + 1) % 16)))) (2 * ((i + 1) % 16) + 1))), (.int (((2 : Int32) * (Int32.ofNat i)) + (1 : Int32))), (.ref d)])) rfl rfl (hb hby d11_91)
          have f37_284 := f32_251.wr W36
          have f37_285 := f32_252.other W36 (Or.inl nad)
          have f37_286 := f32_253.other W36 (Or.inl nad)
          have f37_287 := f32_254.other W36 (Or.inl nad)
          have f37_288 := f32_255.wr W36 (Or.inl (List.mem_of_getElem? (i := 1) rfl))
          have Zs37 : n0 ≤ h36.size := by rw [W36.size]; exact Zs32
          refine Go.by st36 ?_
          show Go p.tables e below _ (T36.setTop (mkF m 92 #[.val (.ref a1), .val (.long k), .second, .val (.int (Int32.ofNat i)), .val (.long (f (2 * i1 + 1))), .second, .val (.int (15 : Int32)), .val (.int (Int32.ofNat ((i + 1) % 16)))] []))
          have Vu38 := Avf.cong V36 (g := (fun jj => (.long ((upd (upd fj (2 * i) (fj (2 * ((i + 1) % 16)))) (2 * i + 1) ((upd fj (2 * i) (fj (2 * ((i + 1) % 16)))) (2 * ((i + 1) % 16) + 1))) jj)))) (fun t _ => upd_eq (upd fj (2 * i) (fj (2 * ((i + 1) % 16)))) (2 * i + 1) ((upd fj (2 * i) (fj (2 * ((i + 1) % 16)))) (2 * ((i + 1) % 16) + 1)) t)
          refine Go.by (fun _ => XS.iload X36.here hx rfl (hb hby d11_92) rfl) ?_
          show Go p.tables e below _ (T36.setTop (mkF m 94 #[.val (.ref a1), .val (.long k), .second, .val (.int (Int32.ofNat i)), .val (.long (f (2 * i1 + 1))), .second, .val (.int (15 : Int32)), .val (.int (Int32.ofNat ((i + 1) % 16)))] [(.int (Int32.ofNat ((i + 1) % 16)))]))
          refine Go.by (fun _ => XS.istoreN X36.here hx rfl (hb hby d11_94) rfl (l' := #[.val (.ref a1), .val (.long k), .second, .val (.int (Int32.ofNat ((i + 1) % 16))), .val (.long (f (2 * i1 + 1))), .second, .val (.int (15 : Int32)), .val (.int (Int32.ofNat ((i + 1) % 16)))]) rfl) ?_
          show Go p.tables e below _ (T36.setTop (mkF m 95 #[.val (.ref a1), .val (.long k), .second, .val (.int (Int32.ofNat ((i + 1) % 16))), .val (.long (f (2 * i1 + 1))), .second, .val (.int (15 : Int32)), .val (.int (Int32.ofNat ((i + 1) % 16)))] []))
          refine Go.by (fun _ => XS.iload X36.here hx rfl (hb hby d11_95) rfl) ?_
          refine Go.by (fun _ => XS.iconst X36.here hx rfl (hb hby d11_97)) ?_
          refine Go.by (fun _ => XS.iadd X36.here hx rfl (hb hby d11_98) rfl) ?_
          show Go p.tables e below _ (T36.setTop (mkF m 99 #[.val (.ref a1), .val (.long k), .second, .val (.int (Int32.ofNat ((i + 1) % 16))), .val (.long (f (2 * i1 + 1))), .second, .val (.int (15 : Int32)), .val (.int (Int32.ofNat ((i + 1) % 16)))] [(.int ((Int32.ofNat ((i + 1) % 16)) + (1 : Int32)))]))
          refine Go.by (fun _ => XS.iload X36.here hx rfl (hb hby d11_99) rfl) ?_
          refine Go.by (fun _ => XS.iand X36.here hx rfl (hb hby d11_101) rfl) ?_
          refine Go.by (fun _ => XS.istore X36.here hx rfl (hb hby d11_102) rfl (l' := #[.val (.ref a1), .val (.long k), .second, .val (.int (Int32.ofNat ((i + 1) % 16))), .val (.long (f (2 * i1 + 1))), .second, .val (.int (15 : Int32)), .val (.int (((Int32.ofNat ((i + 1) % 16)) + (1 : Int32)) &&& (15 : Int32)))]) rfl) ?_
          show Go p.tables e below _ (T36.setTop (mkF m 104 #[.val (.ref a1), .val (.long k), .second, .val (.int (Int32.ofNat ((i + 1) % 16))), .val (.long (f (2 * i1 + 1))), .second, .val (.int (15 : Int32)), .val (.int (((Int32.ofNat ((i + 1) % 16)) + (1 : Int32)) &&& (15 : Int32)))] []))
          refine Go.by (fun _ => XS.goto X36.here hx rfl (pc0 := 104) (pc' := 43) rfl (hb hby d11_104) (by decide) (by decide)) ?_
          show Go p.tables e below _ (T36.setTop (mkF m 43 #[.val (.ref a1), .val (.long k), .second, .val (.int (Int32.ofNat ((i + 1) % 16))), .val (.long (f (2 * i1 + 1))), .second, .val (.int (15 : Int32)), .val (.int (((Int32.ofNat ((i + 1) % 16)) + (1 : Int32)) &&& (15 : Int32)))] []))
          have hn : fj (2 * ((i + 1) % 16)) ≠ 0 := hr16 hc51_17
          have hqi : q ≠ i := fun z => hne (by rw [← z]; exact hqj)
          have hji : (i + 1) % 16 ≠ i := by omega
          rw [nxI (i := (i + 1) % 16) (by omega)]
          refine ih _ ((i + 1) % 16) (by omega) (by omega) ?_ ?_ (fun x hx => ?_) ?_ _ _ X36 Zs37 f37_288 f37_284 f37_285 f37_286 f37_287 Vu38
          · rw [upd_odd, upd_even, if_neg hji]; exact hn
          · rw [upd_odd, upd_even, if_neg hqi]; exact hqj
          · have a1 := cnt_upd (f := fj) (i := i) (v := fj (2 * ((i + 1) % 16))) hi hx
            have a2 := hcnt x hx
            rw [pre_odd, upd_odd, upd_even, if_neg hji]; omega
          · rw [pre_odd, len_same hi hne hn]; exact hlen
    rw [nxI hi1]
    exact J _ f i1 hi1 rfl (by rw [hf1]; exact hk) hq0 (fun x _ => by rw [hf1]) rfl _ _ X3 Z0 K0 E_a1 Fs_a1 Fm_a1 Fz_a1 V_d
  · skip
    show Go p.tables e below _ (T1.setTop (mkF m 5 #[.val (.ref a1), .val (.long k), .second, .unset, .unset, .unset, .unset, .unset] [(.int (-1 : Int32))]))
    refine Go.by (fun _ => XS.istoreN X1.here hx rfl (hb hby d11_5) rfl (l' := #[.val (.ref a1), .val (.long k), .second, .val (.int (-1 : Int32)), .unset, .unset, .unset, .unset]) rfl) ?_
    show Go p.tables e below _ (T1.setTop (mkF m 6 #[.val (.ref a1), .val (.long k), .second, .val (.int (-1 : Int32)), .unset, .unset, .unset, .unset] []))
    refine Go.by (fun _ => XS.iloadN X1.here hx rfl (hb hby d11_6) rfl) ?_
    refine Go.by (fun _ => XS.ifNo X1.here hx rfl (hb hby d11_7) rfl ((if0 _ _).trans (tlt (by decide)).2.1)) ?_
    show Go p.tables e below _ (T1.setTop (mkF m 10 #[.val (.ref a1), .val (.long k), .second, .val (.int (-1 : Int32)), .unset, .unset, .unset, .unset] []))
    refine Go.by (fun _ => XS.lconst X1.here hx rfl (hb hby d11_10)) ?_
    refine Go.retL X1 hx hlk hret (hb hby d11_11) (by decide) (by decide) ?_
    refine ⟨_, f, sz, rfl, K0, E_a1, Fs_a1, Fm_a1, V_d, Fz_a1, hsz, by omega, fun x hx => ?_⟩
    have hp := cnt0 hno1
    by_cases q : k = x
    · rw [if_pos q, ← q, hp]
    · rw [if_neg q]
theorem d8_0 : decode prog_46_method_7_code 0 = .ok (.aload_n 0, 1) := by decide +kernel
theorem d8_1 : decode prog_46_method_7_code 1 = .ok (.getfield 24, 3) := by decide +kernel
theorem d8_4 : decode prog_46_method_7_code 4 = .ok (.newarray .long, 2) := by decide +kernel
theorem d8_6 : decode prog_46_method_7_code 6 = .ok (.astore_n 1, 1) := by decide +kernel
theorem d8_7 : decode prog_46_method_7_code 7 = .ok (.iconst 0, 1) := by decide +kernel
theorem d8_8 : decode prog_46_method_7_code 8 = .ok (.istore_n 2, 1) := by decide +kernel
theorem d8_9 : decode prog_46_method_7_code 9 = .ok (.iconst 0, 1) := by decide +kernel
theorem d8_10 : decode prog_46_method_7_code 10 = .ok (.istore_n 3, 1) := by decide +kernel
theorem d8_11 : decode prog_46_method_7_code 11 = .ok (.iload_n 3, 1) := by decide +kernel
theorem d8_12 : decode prog_46_method_7_code 12 = .ok (.aload_n 0, 1) := by decide +kernel
theorem d8_13 : decode prog_46_method_7_code 13 = .ok (.getfield 9, 3) := by decide +kernel
theorem d8_16 : decode prog_46_method_7_code 16 = .ok (.arraylength, 1) := by decide +kernel
theorem d8_17 : decode prog_46_method_7_code 17 = .ok (.if_icmp .ge 32, 3) := by decide +kernel
theorem d8_49 : decode prog_46_method_7_code 49 = .ok (.aload_n 1, 1) := by decide +kernel
theorem d8_50 : decode prog_46_method_7_code 50 = .ok (.areturn, 1) := by decide +kernel
theorem d8_20 : decode prog_46_method_7_code 20 = .ok (.aload_n 0, 1) := by decide +kernel
theorem d8_21 : decode prog_46_method_7_code 21 = .ok (.getfield 9, 3) := by decide +kernel
theorem d8_24 : decode prog_46_method_7_code 24 = .ok (.iload_n 3, 1) := by decide +kernel
theorem d8_25 : decode prog_46_method_7_code 25 = .ok (.laload, 1) := by decide +kernel
theorem d8_26 : decode prog_46_method_7_code 26 = .ok (.lconst 0, 1) := by decide +kernel
theorem d8_27 : decode prog_46_method_7_code 27 = .ok (.lcmp, 1) := by decide +kernel
theorem d8_28 : decode prog_46_method_7_code 28 = .ok (.ifCond .eq 15, 3) := by decide +kernel
theorem d8_43 : decode prog_46_method_7_code 43 = .ok (.iinc 3 2, 3) := by decide +kernel
theorem d8_46 : decode prog_46_method_7_code 46 = .ok (.goto (-35), 3) := by decide +kernel
theorem d8_31 : decode prog_46_method_7_code 31 = .ok (.aload_n 1, 1) := by decide +kernel
theorem d8_32 : decode prog_46_method_7_code 32 = .ok (.iload_n 2, 1) := by decide +kernel
theorem d8_33 : decode prog_46_method_7_code 33 = .ok (.iinc 2 1, 3) := by decide +kernel
theorem d8_36 : decode prog_46_method_7_code 36 = .ok (.aload_n 0, 1) := by decide +kernel
theorem d8_37 : decode prog_46_method_7_code 37 = .ok (.getfield 9, 3) := by decide +kernel
theorem d8_40 : decode prog_46_method_7_code 40 = .ok (.iload_n 3, 1) := by decide +kernel
theorem d8_41 : decode prog_46_method_7_code 41 = .ok (.laload, 1) := by decide +kernel
theorem d8_42 : decode prog_46_method_7_code 42 = .ok (.lastore, 1) := by decide +kernel
abbrev Rm8 : Room := { frames := 0, cells := 1, slots := 3, locals := 0 }
set_option maxRecDepth 65536 in
set_option maxHeartbeats 40000000 in
theorem rm8 (l : Launch) (Z : State) (a0 : Array Value) (hw : ∀ d ∈ tables_1, d.before a0 Z = true) (ws : List Jvm.Cond) (a1 : Addr) (d : Addr) (kd : ClassId) (f : Nat → Int64) (sz : Nat) (h0 : Heap) (n0 : Nat) (Z0 : n0 ≤ h0.size) (E_a1 : Exa Z h0 a1 "com/example/shrike/shrike/store/LongMap") (Fs_a1 : Fld Z h0 a1 "com/example/shrike/shrike/store/LongMap" "slots" "[J" (.ref d)) (Fm_a1 : Fld Z h0 a1 "com/example/shrike/shrike/store/LongMap" "mixed" "Z" (.int (0 : Int32))) (V_d : Avf Z h0 d kd .long 32 (fun jj => (.long (f jj)))) (Fz_a1 : Fld Z h0 a1 "com/example/shrike/shrike/store/LongMap" "size" "I" (.int (Int32.ofNat sz))) (hsz : sz = (pre f 16).length) (hs3 : sz ≤ 3) :
    Met l Z n0 (⟨"com/example/shrike/shrike/store/LongMap", "keys", "()[J"⟩ : MethodName) prog_46_method_7_code 4 (some (.array .long)) ws Rm8 #[(.ref a1)] h0 (fun v h => ∃ r kr, v = some (.ref r) ∧ h0.size ≤ r ∧ Keep h0 h [] ∧ Avf Z h r kr .long sz (fun jj => (.long ((fun t => (pre f 16).getD t 0) jj)))) := by
  refine enter (Ls := #[.val (.ref a1), .unset, .unset, .unset]) (plainFor_of_name pn1) (fun m => by first | (simp [entryFrame, mkF, argsToLocals, Value.category]; done) | rfl) ?_
  intro p e s m below meth c T0 hx hby hml hown hnm hret hlk hZ X0
  have K0 := Keep.refl h0 []
  show Go p.tables e below _ (T0.setTop (mkF m 0 #[.val (.ref a1), .unset, .unset, .unset] []))
  refine Go.by (fun _ => XS.aloadN X0.here hx rfl (hb hby d8_0) rfl rfl) ?_
  show Go p.tables e below _ (T0.setTop (mkF m 1 #[.val (.ref a1), .unset, .unset, .unset] [(.ref a1)]))
  obtain ⟨T1, X1, st1⟩ := X0.getF hx hZ hown (host := "") (Or.inl (tw hw 32 rfl)) Via.refl Fz_a1 (g := (mkF m 1 #[.val (.ref a1), .unset, .unset, .unset] [(.ref a1)])) rfl rfl (hb hby d8_1)
  refine Go.by st1 ?_
  show Go p.tables e below _ (T1.setTop (mkF m 4 #[.val (.ref a1), .unset, .unset, .unset] [(.int (Int32.ofNat sz))]))
  obtain ⟨T2, h2, kc2, b2, X2, g2, E2, A2, V2, st2⟩ := X1.newP hx hZ (tw hw 13 rfl) (g := (mkF m 4 #[.val (.ref a1), .unset, .unset, .unset] [(.int (Int32.ofNat sz))])) rfl (hb hby d8_4) rfl (i32_nneg (by omega)) (sz := sz) (cap := 3) (k' := 1) (n' := 3) (i32_nat (by omega)) hs3 (by decide) rfl rfl (by decide) (by decide) (ad := "[J") (by decide)
  have g_b2 : n0 ≤ b2 := by rw [g2]; exact Z0
  have sz_b2 : h0.size ≤ b2 := by rw [g2]; exact K0.1
  have ne_a1_b2 : a1 ≠ b2 := Nat.ne_of_lt (by rw [g2]; exact E_a1.lt)
  have ne_d_b2 : d ≠ b2 := Nat.ne_of_lt (by rw [g2]; exact V_d.lt)
  have f3_12 := E_a1.ext E2
  have f3_13 := Fs_a1.ext E2
  have f3_14 := Fm_a1.ext E2
  have f3_15 := Avf.ext V_d E2
  have f3_16 := Fz_a1.ext E2
  have f3_17 := K0.ext E2
  have Zs3 : n0 ≤ h2.size := Nat.le_trans Z0 E2.1
  refine Go.by st2 ?_
  show Go p.tables e below _ (T2.setTop (mkF m 6 #[.val (.ref a1), .unset, .unset, .unset] [(.ref b2)]))
  refine Go.by (fun _ => XS.astoreN X2.here hx rfl (hb hby d8_6) rfl rfl (l' := #[.val (.ref a1), .val (.ref b2), .unset, .unset]) rfl) ?_
  show Go p.tables e below _ (T2.setTop (mkF m 7 #[.val (.ref a1), .val (.ref b2), .unset, .unset] []))
  refine Go.by (fun _ => XS.iconst X2.here hx rfl (hb hby d8_7)) ?_
  show Go p.tables e below _ (T2.setTop (mkF m 8 #[.val (.ref a1), .val (.ref b2), .unset, .unset] [(.int (0 : Int32))]))
  refine Go.by (fun _ => XS.istoreN X2.here hx rfl (hb hby d8_8) rfl (l' := #[.val (.ref a1), .val (.ref b2), .val (.int (0 : Int32)), .unset]) rfl) ?_
  show Go p.tables e below _ (T2.setTop (mkF m 9 #[.val (.ref a1), .val (.ref b2), .val (.int (0 : Int32)), .unset] []))
  refine Go.by (fun _ => XS.iconst X2.here hx rfl (hb hby d8_9)) ?_
  show Go p.tables e below _ (T2.setTop (mkF m 10 #[.val (.ref a1), .val (.ref b2), .val (.int (0 : Int32)), .unset] [(.int (0 : Int32))]))
  refine Go.by (fun _ => XS.istoreN X2.here hx rfl (hb hby d8_10) rfl (l' := #[.val (.ref a1), .val (.ref b2), .val (.int (0 : Int32)), .val (.int (0 : Int32))]) rfl) ?_
  show Go p.tables e below _ (T2.setTop (mkF m 11 #[.val (.ref a1), .val (.ref b2), .val (.int (0 : Int32)), .val (.int (0 : Int32))] []))
  have J : ∀ (kk i : Nat), i + kk = 16 → ∀ (Tj : State) (hj : Heap), Sd n0 p l e Rm8 s m #[(.ref a1)] below meth c Tj hj 1 3 → n0 ≤ hj.size → Keep h0 hj [] → Exa Z hj a1 "com/example/shrike/shrike/store/LongMap" → Fld Z hj a1 "com/example/shrike/shrike/store/LongMap" "slots" "[J" (.ref d) → Avf Z hj d kd .long 32 (fun jj => (.long (f jj))) → Avf Z hj b2 kc2 .long sz (fun jj => (.long ((fun t => (pre f i).getD t 0) jj))) → Go p.tables e below (Ret s n0 (fun v h => ∃ r kr, v = some (.ref r) ∧ h0.size ≤ r ∧ Keep h0 h [] ∧ Avf Z h r kr .long sz (fun jj => (.long ((fun t => (pre f 16).getD t 0) jj)))) Rm8.cells Rm8.slots) (Tj.setTop (mkF m 11 #[.val (.ref a1), .val (.ref b2), .val (.int (Int32.ofNat (pre f i).length)), .val (.int (Int32.ofNat (2 * i)))] [])) := by
    intro kk
    induction kk with
    | zero =>
      intro i hi Tj hj Xj Zj Kj Ej Fsj Vj Vr
      have hi16e : i = 16 := hi
      refine Go.by (fun _ => XS.iloadN Xj.here hx rfl (hb hby d8_11) rfl) ?_
      show Go p.tables e below _ (Tj.setTop (mkF m 12 #[.val (.ref a1), .val (.ref b2), .val (.int (Int32.ofNat (pre f i).length)), .val (.int (Int32.ofNat (2 * i)))] [(.int (Int32.ofNat (2 * i)))]))
      refine Go.by (fun _ => XS.aloadN Xj.here hx rfl (hb hby d8_12) rfl rfl) ?_
      show Go p.tables e below _ (Tj.setTop (mkF m 13 #[.val (.ref a1), .val (.ref b2), .val (.int (Int32.ofNat (pre f i).length)), .val (.int (Int32.ofNat (2 * i)))] [(.ref a1), (.int (Int32.ofNat (2 * i)))]))
      obtain ⟨T4, X4, st4⟩ := Xj.getF hx hZ hown (host := "") (Or.inl (tw hw 14 rfl)) Via.refl Fsj (g := (mkF m 13 #[.val (.ref a1), .val (.ref b2), .val (.int (Int32.ofNat (pre f i).length)), .val (.int (Int32.ofNat (2 * i)))] [(.ref a1), (.int (Int32.ofNat (2 * i)))])) rfl rfl (hb hby d8_13)
      refine Go.by st4 ?_
      show Go p.tables e below _ (T4.setTop (mkF m 16 #[.val (.ref a1), .val (.ref b2), .val (.int (Int32.ofNat (pre f i).length)), .val (.int (Int32.ofNat (2 * i)))] [(.ref d), (.int (Int32.ofNat (2 * i)))]))
      refine Go.by (X4.len hx hZ Vj (z := (32 : Int32)) rfl (g := (mkF m 16 #[.val (.ref a1), .val (.ref b2), .val (.int (Int32.ofNat (pre f i).length)), .val (.int (Int32.ofNat (2 * i)))] [(.ref d), (.int (Int32.ofNat (2 * i)))])) rfl rfl (hb hby d8_16)) ?_
      show Go p.tables e below _ (T4.setTop (mkF m 17 #[.val (.ref a1), .val (.ref b2), .val (.int (Int32.ofNat (pre f i).length)), .val (.int (Int32.ofNat (2 * i)))] [(.int (32 : Int32)), (.int (Int32.ofNat (2 * i)))]))
      refine Go.by (fun _ => XS.icmpYes X4.here hx rfl (pc0 := 17) (pc' := 49) rfl (hb hby d8_17) rfl (flt ((by rw [hi16e]; decide))).2.1 (by decide) (by decide)) ?_
      show Go p.tables e below _ (T4.setTop (mkF m 49 #[.val (.ref a1), .val (.ref b2), .val (.int (Int32.ofNat (pre f i).length)), .val (.int (Int32.ofNat (2 * i)))] []))
      refine Go.by (fun _ => XS.aloadN X4.here hx rfl (hb hby d8_49) rfl rfl) ?_
      show Go p.tables e below _ (T4.setTop (mkF m 50 #[.val (.ref a1), .val (.ref b2), .val (.int (Int32.ofNat (pre f i).length)), .val (.int (Int32.ofNat (2 * i)))] [(.ref b2)]))
      exact Go.retA X4 hx hlk hret rfl rfl (hb hby d8_50) (by decide) (by decide) ⟨b2, kc2, rfl, sz_b2, Kj, by have z := Vr; rw [hi16e] at z; exact z⟩
    | succ kk ih =>
      intro i hi Tj hj Xj Zj Kj Ej Fsj Vj Vr
      replace hi : i < 16 ∧ i + (kk + 1) = 16 := ⟨by omega, hi⟩
      have hi16 := hi.1
      refine Go.by (fun _ => XS.iloadN Xj.here hx rfl (hb hby d8_11) rfl) ?_
      show Go p.tables e below _ (Tj.setTop (mkF m 12 #[.val (.ref a1), .val (.ref b2), .val (.int (Int32.ofNat (pre f i).length)), .val (.int (Int32.ofNat (2 * i)))] [(.int (Int32.ofNat (2 * i)))]))
      refine Go.by (fun _ => XS.aloadN Xj.here hx rfl (hb hby d8_12) rfl rfl) ?_
      show Go p.tables e below _ (Tj.setTop (mkF m 13 #[.val (.ref a1), .val (.ref b2), .val (.int (Int32.ofNat (pre f i).length)), .val (.int (Int32.ofNat (2 * i)))] [(.ref a1), (.int (Int32.ofNat (2 * i)))]))
      obtain ⟨T5, X5, st5⟩ := Xj.getF hx hZ hown (host := "") (Or.inl (tw hw 14 rfl)) Via.refl Fsj (g := (mkF m 13 #[.val (.ref a1), .val (.ref b2), .val (.int (Int32.ofNat (pre f i).length)), .val (.int (Int32.ofNat (2 * i)))] [(.ref a1), (.int (Int32.ofNat (2 * i)))])) rfl rfl (hb hby d8_13)
      refine Go.by st5 ?_
      show Go p.tables e below _ (T5.setTop (mkF m 16 #[.val (.ref a1), .val (.ref b2), .val (.int (Int32.ofNat (pre f i).length)), .val (.int (Int32.ofNat (2 * i)))] [(.ref d), (.int (Int32.ofNat (2 * i)))]))
      refine Go.by (X5.len hx hZ Vj (z := (32 : Int32)) rfl (g := (mkF m 16 #[.val (.ref a1), .val (.ref b2), .val (.int (Int32.ofNat (pre f i).length)), .val (.int (Int32.ofNat (2 * i)))] [(.ref d), (.int (Int32.ofNat (2 * i)))])) rfl rfl (hb hby d8_16)) ?_
      show Go p.tables e below _ (T5.setTop (mkF m 17 #[.val (.ref a1), .val (.ref b2), .val (.int (Int32.ofNat (pre f i).length)), .val (.int (Int32.ofNat (2 * i)))] [(.int (32 : Int32)), (.int (Int32.ofNat (2 * i)))]))
      refine Go.by (fun _ => XS.icmpNo X5.here hx rfl (hb hby d8_17) rfl (tlt ((ltI hi16))).2.1) ?_
      show Go p.tables e below _ (T5.setTop (mkF m 20 #[.val (.ref a1), .val (.ref b2), .val (.int (Int32.ofNat (pre f i).length)), .val (.int (Int32.ofNat (2 * i)))] []))
      refine Go.by (fun _ => XS.aloadN X5.here hx rfl (hb hby d8_20) rfl rfl) ?_
      show Go p.tables e below _ (T5.setTop (mkF m 21 #[.val (.ref a1), .val (.ref b2), .val (.int (Int32.ofNat (pre f i).length)), .val (.int (Int32.ofNat (2 * i)))] [(.ref a1)]))
      obtain ⟨T6, X6, st6⟩ := X5.getF hx hZ hown (host := "") (Or.inl (tw hw 14 rfl)) Via.refl Fsj (g := (mkF m 21 #[.val (.ref a1), .val (.ref b2), .val (.int (Int32.ofNat (pre f i).length)), .val (.int (Int32.ofNat (2 * i)))] [(.ref a1)])) rfl rfl (hb hby d8_21)
      refine Go.by st6 ?_
      show Go p.tables e below _ (T6.setTop (mkF m 24 #[.val (.ref a1), .val (.ref b2), .val (.int (Int32.ofNat (pre f i).length)), .val (.int (Int32.ofNat (2 * i)))] [(.ref d)]))
      refine Go.by (fun _ => XS.iloadN X6.here hx rfl (hb hby d8_24) rfl) ?_
      show Go p.tables e below _ (T6.setTop (mkF m 25 #[.val (.ref a1), .val (.ref b2), .val (.int (Int32.ofNat (pre f i).length)), .val (.int (Int32.ofNat (2 * i)))] [(.int (Int32.ofNat (2 * i))), (.ref d)]))
      refine Go.by (X6.ldJ hx hZ Vj (i32_nneg (by omega)) (i := 2 * i) (i32_nat (by omega)) (ix_l hi16) (v := (.long (f (2 * i)))) rfl (g := (mkF m 25 #[.val (.ref a1), .val (.ref b2), .val (.int (Int32.ofNat (pre f i).length)), .val (.int (Int32.ofNat (2 * i)))] [(.int (Int32.ofNat (2 * i))), (.ref d)])) rfl rfl (hb hby d8_25)) ?_
      show Go p.tables e below _ (T6.setTop (mkF m 26 #[.val (.ref a1), .val (.ref b2), .val (.int (Int32.ofNat (pre f i).length)), .val (.int (Int32.ofNat (2 * i)))] [(.long (f (2 * i)))]))
      refine Go.by (fun _ => XS.lconst X6.here hx rfl (hb hby d8_26)) ?_
      show Go p.tables e below _ (T6.setTop (mkF m 27 #[.val (.ref a1), .val (.ref b2), .val (.int (Int32.ofNat (pre f i).length)), .val (.int (Int32.ofNat (2 * i)))] [(.long (0 : Int64)), (.long (f (2 * i)))]))
      refine Go.by (fun _ => XS.lcmp X6.here hx rfl (hb hby d8_27) rfl) ?_
      show Go p.tables e below _ (T6.setTop (mkF m 28 #[.val (.ref a1), .val (.ref b2), .val (.int (Int32.ofNat (pre f i).length)), .val (.int (Int32.ofNat (2 * i)))] [(.int (lcmpW (f (2 * i)) (0 : Int64)))]))
      by_cases hc28_7 : (lcmpW (f (2 * i)) (0 : Int64)) = (0 : Int32)
      · skip
        refine Go.by (fun _ => XS.ifYes X6.here hx rfl (pc0 := 28) (pc' := 43) rfl (hb hby d8_28) rfl ((if0 _ _).trans (teq hc28_7).1) (by decide) (by decide)) ?_
        show Go p.tables e below _ (T6.setTop (mkF m 43 #[.val (.ref a1), .val (.ref b2), .val (.int (Int32.ofNat (pre f i).length)), .val (.int (Int32.ofNat (2 * i)))] []))
        refine Go.by (fun _ => XS.iinc X6.here hx rfl (hb hby d8_43) rfl (l' := #[.val (.ref a1), .val (.ref b2), .val (.int (Int32.ofNat (pre f i).length)), .val (.int ((Int32.ofNat (2 * i)) + (2 : Int32)))]) rfl) ?_
        show Go p.tables e below _ (T6.setTop (mkF m 46 #[.val (.ref a1), .val (.ref b2), .val (.int (Int32.ofNat (pre f i).length)), .val (.int ((Int32.ofNat (2 * i)) + (2 : Int32)))] []))
        refine Go.by (fun _ => XS.goto X6.here hx rfl (pc0 := 46) (pc' := 11) rfl (hb hby d8_46) (by decide) (by decide)) ?_
        show Go p.tables e below _ (T6.setTop (mkF m 11 #[.val (.ref a1), .val (.ref b2), .val (.int (Int32.ofNat (pre f i).length)), .val (.int ((Int32.ofNat (2 * i)) + (2 : Int32)))] []))
        rw [own_two]
        have e0 := pre_z ((lw_eq _ _).mp hc28_7)
        rw [← e0]
        exact ih (i + 1) (by omega) _ _ X6 Zj Kj Ej Fsj Vj (by rw [e0]; exact Vr)
      · skip
        refine Go.by (fun _ => XS.ifNo X6.here hx rfl (hb hby d8_28) rfl ((if0 _ _).trans (feq hc28_7).1)) ?_
        show Go p.tables e below _ (T6.setTop (mkF m 31 #[.val (.ref a1), .val (.ref b2), .val (.int (Int32.ofNat (pre f i).length)), .val (.int (Int32.ofNat (2 * i)))] []))
        have hne : f (2 * i) ≠ 0 := fun z => hc28_7 ((lw_eq _ _).mpr z)
        have hlt : (pre f i).length < sz := by
          have a1 := pre_mono f (i := i + 1) (j := 16) (by omega)
          rw [pre_nz hne, List.length_append] at a1
          simp at a1
          omega
        refine Go.by (fun _ => XS.aloadN X6.here hx rfl (hb hby d8_31) rfl rfl) ?_
        show Go p.tables e below _ (T6.setTop (mkF m 32 #[.val (.ref a1), .val (.ref b2), .val (.int (Int32.ofNat (pre f i).length)), .val (.int (Int32.ofNat (2 * i)))] [(.ref b2)]))
        refine Go.by (fun _ => XS.iloadN X6.here hx rfl (hb hby d8_32) rfl) ?_
        show Go p.tables e below _ (T6.setTop (mkF m 33 #[.val (.ref a1), .val (.ref b2), .val (.int (Int32.ofNat (pre f i).length)), .val (.int (Int32.ofNat (2 * i)))] [(.int (Int32.ofNat (pre f i).length)), (.ref b2)]))
        refine Go.by (fun _ => XS.iinc X6.here hx rfl (hb hby d8_33) rfl (l' := #[.val (.ref a1), .val (.ref b2), .val (.int ((Int32.ofNat (pre f i).length) + (1 : Int32))), .val (.int (Int32.ofNat (2 * i)))]) rfl) ?_
        show Go p.tables e below _ (T6.setTop (mkF m 36 #[.val (.ref a1), .val (.ref b2), .val (.int ((Int32.ofNat (pre f i).length) + (1 : Int32))), .val (.int (Int32.ofNat (2 * i)))] [(.int (Int32.ofNat (pre f i).length)), (.ref b2)]))
        refine Go.by (fun _ => XS.aloadN X6.here hx rfl (hb hby d8_36) rfl rfl) ?_
        show Go p.tables e below _ (T6.setTop (mkF m 37 #[.val (.ref a1), .val (.ref b2), .val (.int ((Int32.ofNat (pre f i).length) + (1 : Int32))), .val (.int (Int32.ofNat (2 * i)))] [(.ref a1), (.int (Int32.ofNat (pre f i).length)), (.ref b2)]))
        obtain ⟨T8, X8, st8⟩ := X6.getF hx hZ hown (host := "") (Or.inl (tw hw 14 rfl)) Via.refl Fsj (g := (mkF m 37 #[.val (.ref a1), .val (.ref b2), .val (.int ((Int32.ofNat (pre f i).length) + (1 : Int32))), .val (.int (Int32.ofNat (2 * i)))] [(.ref a1), (.int (Int32.ofNat (pre f i).length)), (.ref b2)])) rfl rfl (hb hby d8_37)
        refine Go.by st8 ?_
        show Go p.tables e below _ (T8.setTop (mkF m 40 #[.val (.ref a1), .val (.ref b2), .val (.int ((Int32.ofNat (pre f i).length) + (1 : Int32))), .val (.int (Int32.ofNat (2 * i)))] [(.ref d), (.int (Int32.ofNat (pre f i).length)), (.ref b2)]))
        refine Go.by (fun _ => XS.iloadN X8.here hx rfl (hb hby d8_40) rfl) ?_
        show Go p.tables e below _ (T8.setTop (mkF m 41 #[.val (.ref a1), .val (.ref b2), .val (.int ((Int32.ofNat (pre f i).length) + (1 : Int32))), .val (.int (Int32.ofNat (2 * i)))] [(.int (Int32.ofNat (2 * i))), (.ref d), (.int (Int32.ofNat (pre f i).length)), (.ref b2)]))
        refine Go.by (X8.ldJ hx hZ Vj (i32_nneg (by omega)) (i := 2 * i) (i32_nat (by omega)) (ix_l hi16) (v := (.long (f (2 * i)))) rfl (g := (mkF m 41 #[.val (.ref a1), .val (.ref b2), .val (.int ((Int32.ofNat (pre f i).length) + (1 : Int32))), .val (.int (Int32.ofNat (2 * i)))] [(.int (Int32.ofNat (2 * i))), (.ref d), (.int (Int32.ofNat (pre f i).length)), (.ref b2)])) rfl rfl (hb hby d8_41)) ?_
        show Go p.tables e below _ (T8.setTop (mkF m 42 #[.val (.ref a1), .val (.ref b2), .val (.int ((Int32.ofNat (pre f i).length) + (1 : Int32))), .val (.int (Int32.ofNat (2 * i)))] [(.long (f (2 * i))), (.int (Int32.ofNat (pre f i).length)), (.ref b2)]))
        obtain ⟨T9, h9, X9, W9, V9, st9⟩ := X8.stJ hx hZ Vr g_b2 (i32_nneg (by omega)) (i := (pre f i).length) (i32_nat (by omega)) hlt (g := (mkF m 42 #[.val (.ref a1), .val (.ref b2), .val (.int ((Int32.ofNat (pre f i).length) + (1 : Int32))), .val (.int (Int32.ofNat (2 * i)))] [(.long (f (2 * i))), (.int (Int32.ofNat (pre f i).length)), (.ref b2)])) rfl rfl (hb hby d8_42)
        have f10_116 := Kj.wr W9 (Or.inr sz_b2)
        have f10_117 := Ej.wr W9
        have f10_118 := Fsj.other W9 (Or.inl ne_a1_b2)
        have f10_119 := Avf.other Vj W9 ne_d_b2
        have Zs10 : n0 ≤ h9.size := by rw [W9.size]; exact Zj
        refine Go.by st9 ?_
        show Go p.tables e below _ (T9.setTop (mkF m 43 #[.val (.ref a1), .val (.ref b2), .val (.int ((Int32.ofNat (pre f i).length) + (1 : Int32))), .val (.int (Int32.ofNat (2 * i)))] []))
        refine Go.by (fun _ => XS.iinc X9.here hx rfl (hb hby d8_43) rfl (l' := #[.val (.ref a1), .val (.ref b2), .val (.int ((Int32.ofNat (pre f i).length) + (1 : Int32))), .val (.int ((Int32.ofNat (2 * i)) + (2 : Int32)))]) rfl) ?_
        show Go p.tables e below _ (T9.setTop (mkF m 46 #[.val (.ref a1), .val (.ref b2), .val (.int ((Int32.ofNat (pre f i).length) + (1 : Int32))), .val (.int ((Int32.ofNat (2 * i)) + (2 : Int32)))] []))
        refine Go.by (fun _ => XS.goto X9.here hx rfl (pc0 := 46) (pc' := 11) rfl (hb hby d8_46) (by decide) (by decide)) ?_
        show Go p.tables e below _ (T9.setTop (mkF m 11 #[.val (.ref a1), .val (.ref b2), .val (.int ((Int32.ofNat (pre f i).length) + (1 : Int32))), .val (.int ((Int32.ofNat (2 * i)) + (2 : Int32)))] []))
        rw [own_two]
        have e0 := pre_nz hne
        have e1 : (pre f (i + 1)).length = (pre f i).length + 1 := by rw [e0]; simp
        rw [i32_succ, ← e1]
        refine ih (i + 1) (by omega) _ _ X9 Zs10 f10_116 f10_117 f10_118 f10_119 (Avf.cong V9 (fun t _ => ?_))
        show (if t = (pre f i).length then Value.long (f (2 * i)) else Value.long ((pre f i).getD t 0)) = Value.long ((pre f (i + 1)).getD t 0)
        rw [e0, get_nz]
        split <;> rfl
  have J0 := J 16 0 rfl
  rw [pre_0] at J0
  exact J0 _ _ X2 Zs3 f3_17 f3_12 f3_13 f3_15 (Avf.cong V2 (fun t _ => rfl))
theorem d10_0 : decode method_3_code 0 = .ok (.iconst 0, 1) := by decide +kernel
theorem d10_1 : decode method_3_code 1 = .ok (.istore_n 3, 1) := by decide +kernel
theorem d10_2 : decode method_3_code 2 = .ok (.aload_n 0, 1) := by decide +kernel
theorem d10_3 : decode method_3_code 3 = .ok (.arraylength, 1) := by decide +kernel
theorem d10_4 : decode method_3_code 4 = .ok (.ifCond .le 14, 3) := by decide +kernel
theorem d10_18 : decode method_3_code 18 = .ok (.aload_n 0, 1) := by decide +kernel
theorem d10_19 : decode method_3_code 19 = .ok (.arraylength, 1) := by decide +kernel
theorem d10_20 : decode method_3_code 20 = .ok (.iconst 1, 1) := by decide +kernel
theorem d10_21 : decode method_3_code 21 = .ok (.if_icmp .le 14, 3) := by decide +kernel
theorem d10_35 : decode method_3_code 35 = .ok (.aload_n 0, 1) := by decide +kernel
theorem d10_36 : decode method_3_code 36 = .ok (.arraylength, 1) := by decide +kernel
theorem d10_37 : decode method_3_code 37 = .ok (.iconst 2, 1) := by decide +kernel
theorem d10_38 : decode method_3_code 38 = .ok (.if_icmp .le 14, 3) := by decide +kernel
theorem d10_52 : decode method_3_code 52 = .ok (.iload_n 3, 1) := by decide +kernel
theorem d10_53 : decode method_3_code 53 = .ok (.ireturn, 1) := by decide +kernel
theorem d10_7 : decode method_3_code 7 = .ok (.aload_n 0, 1) := by decide +kernel
theorem d10_8 : decode method_3_code 8 = .ok (.iconst 0, 1) := by decide +kernel
theorem d10_9 : decode method_3_code 9 = .ok (.laload, 1) := by decide +kernel
theorem d10_10 : decode method_3_code 10 = .ok (.lload_n 1, 1) := by decide +kernel
theorem d10_11 : decode method_3_code 11 = .ok (.lcmp, 1) := by decide +kernel
theorem d10_12 : decode method_3_code 12 = .ok (.ifCond .ne 6, 3) := by decide +kernel
theorem d10_15 : decode method_3_code 15 = .ok (.iinc 3 1, 3) := by decide +kernel
theorem d10_24 : decode method_3_code 24 = .ok (.aload_n 0, 1) := by decide +kernel
theorem d10_25 : decode method_3_code 25 = .ok (.iconst 1, 1) := by decide +kernel
theorem d10_26 : decode method_3_code 26 = .ok (.laload, 1) := by decide +kernel
theorem d10_27 : decode method_3_code 27 = .ok (.lload_n 1, 1) := by decide +kernel
theorem d10_28 : decode method_3_code 28 = .ok (.lcmp, 1) := by decide +kernel
theorem d10_29 : decode method_3_code 29 = .ok (.ifCond .ne 6, 3) := by decide +kernel
theorem d10_32 : decode method_3_code 32 = .ok (.iinc 3 1, 3) := by decide +kernel
theorem d10_41 : decode method_3_code 41 = .ok (.aload_n 0, 1) := by decide +kernel
theorem d10_42 : decode method_3_code 42 = .ok (.iconst 2, 1) := by decide +kernel
theorem d10_43 : decode method_3_code 43 = .ok (.laload, 1) := by decide +kernel
theorem d10_44 : decode method_3_code 44 = .ok (.lload_n 1, 1) := by decide +kernel
theorem d10_45 : decode method_3_code 45 = .ok (.lcmp, 1) := by decide +kernel
theorem d10_46 : decode method_3_code 46 = .ok (.ifCond .ne 6, 3) := by decide +kernel
theorem d10_49 : decode method_3_code 49 = .ok (.iinc 3 1, 3) := by decide +kernel
abbrev Rm10 : Room := { frames := 0, cells := 0, slots := 0, locals := 0 }
set_option maxRecDepth 65536 in
set_option maxHeartbeats 40000000 in
theorem rm10 (l : Launch) (Z : State) (a0 : Array Value) (hw : ∀ d ∈ tables_1, d.before a0 Z = true) (ws : List Jvm.Cond) (a1 : Addr) (xx : Int64) (ka : ClassId) (l2 : List Int64) (h0 : Heap) (n0 : Nat) (Z0 : n0 ≤ h0.size) (V_a1 : Avf Z h0 a1 ka .long l2.length (fun jj => (.long ((fun t => l2.getD t 0) jj)))) (hl3 : l2.length ≤ 3) :
    Met l Z n0 (⟨"com/example/shrike/shrike/store/LongMapKeysPinLaw", "occ", "([JJ)I"⟩ : MethodName) method_3_code 4 (some .int) ws Rm10 #[(.ref a1), (.long xx)] h0 (fun v h => v = some (.int (Int32.ofNat (l2.count xx))) ∧ h0 = h) := by
  refine enter (Ls := #[.val (.ref a1), .val (.long xx), .second, .unset]) (plainFor_of_name pn0) (fun m => by first | (simp [entryFrame, mkF, argsToLocals, Value.category]; done) | rfl) ?_
  intro p e s m below meth c T0 hx hby hml hown hnm hret hlk hZ X0
  show Go p.tables e below _ (T0.setTop (mkF m 0 #[.val (.ref a1), .val (.long xx), .second, .unset] []))
  rcases l2 with _ | ⟨e0, _ | ⟨e1, _ | ⟨e2, _ | ⟨e3, l3⟩⟩⟩⟩
  · have V1 : Avf Z h0 a1 ka .long 0 (fun jj => (.long ((fun t => ([] : List Int64).getD t 0) jj))) := V_a1
    refine Go.by (fun _ => XS.iconst X0.here hx rfl (hb hby d10_0)) ?_
    show Go p.tables e below _ (T0.setTop (mkF m 1 #[.val (.ref a1), .val (.long xx), .second, .unset] [(.int (0 : Int32))]))
    refine Go.by (fun _ => XS.istoreN X0.here hx rfl (hb hby d10_1) rfl (l' := #[.val (.ref a1), .val (.long xx), .second, .val (.int (0 : Int32))]) rfl) ?_
    show Go p.tables e below _ (T0.setTop (mkF m 2 #[.val (.ref a1), .val (.long xx), .second, .val (.int (0 : Int32))] []))
    refine Go.by (fun _ => XS.aloadN X0.here hx rfl (hb hby d10_2) rfl rfl) ?_
    show Go p.tables e below _ (T0.setTop (mkF m 3 #[.val (.ref a1), .val (.long xx), .second, .val (.int (0 : Int32))] [(.ref a1)]))
    refine Go.by (X0.len hx hZ V1 (z := (0 : Int32)) rfl (g := (mkF m 3 #[.val (.ref a1), .val (.long xx), .second, .val (.int (0 : Int32))] [(.ref a1)])) rfl rfl (hb hby d10_3)) ?_
    show Go p.tables e below _ (T0.setTop (mkF m 4 #[.val (.ref a1), .val (.long xx), .second, .val (.int (0 : Int32))] [(.int (0 : Int32))]))
    refine Go.by (fun _ => XS.ifYes X0.here hx rfl (pc0 := 4) (pc' := 18) rfl (hb hby d10_4) rfl ((if0 _ _).trans (flt (by decide)).2.2.2) (by decide) (by decide)) ?_
    show Go p.tables e below _ (T0.setTop (mkF m 18 #[.val (.ref a1), .val (.long xx), .second, .val (.int (0 : Int32))] []))
    refine Go.by (fun _ => XS.aloadN X0.here hx rfl (hb hby d10_18) rfl rfl) ?_
    show Go p.tables e below _ (T0.setTop (mkF m 19 #[.val (.ref a1), .val (.long xx), .second, .val (.int (0 : Int32))] [(.ref a1)]))
    refine Go.by (X0.len hx hZ V1 (z := (0 : Int32)) rfl (g := (mkF m 19 #[.val (.ref a1), .val (.long xx), .second, .val (.int (0 : Int32))] [(.ref a1)])) rfl rfl (hb hby d10_19)) ?_
    show Go p.tables e below _ (T0.setTop (mkF m 20 #[.val (.ref a1), .val (.long xx), .second, .val (.int (0 : Int32))] [(.int (0 : Int32))]))
    refine Go.by (fun _ => XS.iconst X0.here hx rfl (hb hby d10_20)) ?_
    show Go p.tables e below _ (T0.setTop (mkF m 21 #[.val (.ref a1), .val (.long xx), .second, .val (.int (0 : Int32))] [(.int (1 : Int32)), (.int (0 : Int32))]))
    refine Go.by (fun _ => XS.icmpYes X0.here hx rfl (pc0 := 21) (pc' := 35) rfl (hb hby d10_21) rfl (flt (by decide)).2.2.2 (by decide) (by decide)) ?_
    show Go p.tables e below _ (T0.setTop (mkF m 35 #[.val (.ref a1), .val (.long xx), .second, .val (.int (0 : Int32))] []))
    refine Go.by (fun _ => XS.aloadN X0.here hx rfl (hb hby d10_35) rfl rfl) ?_
    show Go p.tables e below _ (T0.setTop (mkF m 36 #[.val (.ref a1), .val (.long xx), .second, .val (.int (0 : Int32))] [(.ref a1)]))
    refine Go.by (X0.len hx hZ V1 (z := (0 : Int32)) rfl (g := (mkF m 36 #[.val (.ref a1), .val (.long xx), .second, .val (.int (0 : Int32))] [(.ref a1)])) rfl rfl (hb hby d10_36)) ?_
    show Go p.tables e below _ (T0.setTop (mkF m 37 #[.val (.ref a1), .val (.long xx), .second, .val (.int (0 : Int32))] [(.int (0 : Int32))]))
    refine Go.by (fun _ => XS.iconst X0.here hx rfl (hb hby d10_37)) ?_
    show Go p.tables e below _ (T0.setTop (mkF m 38 #[.val (.ref a1), .val (.long xx), .second, .val (.int (0 : Int32))] [(.int (2 : Int32)), (.int (0 : Int32))]))
    refine Go.by (fun _ => XS.icmpYes X0.here hx rfl (pc0 := 38) (pc' := 52) rfl (hb hby d10_38) rfl (flt (by decide)).2.2.2 (by decide) (by decide)) ?_
    show Go p.tables e below _ (T0.setTop (mkF m 52 #[.val (.ref a1), .val (.long xx), .second, .val (.int (0 : Int32))] []))
    refine Go.by (fun _ => XS.iloadN X0.here hx rfl (hb hby d10_52) rfl) ?_
    show Go p.tables e below _ (T0.setTop (mkF m 53 #[.val (.ref a1), .val (.long xx), .second, .val (.int (0 : Int32))] [(.int (0 : Int32))]))
    refine Go.retI X0 hx hlk hret (hb hby d10_53) (by decide) (by decide) ?_
    have ec : (([] : List Int64)).count xx = 0 := by simp [List.count_cons]
    rw [ec]
    exact ⟨rfl, rfl⟩
  · have V1 : Avf Z h0 a1 ka .long 1 (fun jj => (.long ((fun t => [e0].getD t 0) jj))) := V_a1
    refine Go.by (fun _ => XS.iconst X0.here hx rfl (hb hby d10_0)) ?_
    show Go p.tables e below _ (T0.setTop (mkF m 1 #[.val (.ref a1), .val (.long xx), .second, .unset] [(.int (0 : Int32))]))
    refine Go.by (fun _ => XS.istoreN X0.here hx rfl (hb hby d10_1) rfl (l' := #[.val (.ref a1), .val (.long xx), .second, .val (.int (0 : Int32))]) rfl) ?_
    show Go p.tables e below _ (T0.setTop (mkF m 2 #[.val (.ref a1), .val (.long xx), .second, .val (.int (0 : Int32))] []))
    refine Go.by (fun _ => XS.aloadN X0.here hx rfl (hb hby d10_2) rfl rfl) ?_
    show Go p.tables e below _ (T0.setTop (mkF m 3 #[.val (.ref a1), .val (.long xx), .second, .val (.int (0 : Int32))] [(.ref a1)]))
    refine Go.by (X0.len hx hZ V1 (z := (1 : Int32)) rfl (g := (mkF m 3 #[.val (.ref a1), .val (.long xx), .second, .val (.int (0 : Int32))] [(.ref a1)])) rfl rfl (hb hby d10_3)) ?_
    show Go p.tables e below _ (T0.setTop (mkF m 4 #[.val (.ref a1), .val (.long xx), .second, .val (.int (0 : Int32))] [(.int (1 : Int32))]))
    refine Go.by (fun _ => XS.ifNo X0.here hx rfl (hb hby d10_4) rfl ((if0 _ _).trans (tlt (by decide)).2.2.2)) ?_
    show Go p.tables e below _ (T0.setTop (mkF m 7 #[.val (.ref a1), .val (.long xx), .second, .val (.int (0 : Int32))] []))
    refine Go.by (fun _ => XS.aloadN X0.here hx rfl (hb hby d10_7) rfl rfl) ?_
    show Go p.tables e below _ (T0.setTop (mkF m 8 #[.val (.ref a1), .val (.long xx), .second, .val (.int (0 : Int32))] [(.ref a1)]))
    refine Go.by (fun _ => XS.iconst X0.here hx rfl (hb hby d10_8)) ?_
    show Go p.tables e below _ (T0.setTop (mkF m 9 #[.val (.ref a1), .val (.long xx), .second, .val (.int (0 : Int32))] [(.int (0 : Int32)), (.ref a1)]))
    refine Go.by (X0.ldJ hx hZ V1 (by decide) (i := 0) rfl (by decide) (v := (.long e0)) rfl (g := (mkF m 9 #[.val (.ref a1), .val (.long xx), .second, .val (.int (0 : Int32))] [(.int (0 : Int32)), (.ref a1)])) rfl rfl (hb hby d10_9)) ?_
    show Go p.tables e below _ (T0.setTop (mkF m 10 #[.val (.ref a1), .val (.long xx), .second, .val (.int (0 : Int32))] [(.long e0)]))
    refine Go.by (fun _ => XS.lloadN X0.here hx rfl (hb hby d10_10) rfl) ?_
    show Go p.tables e below _ (T0.setTop (mkF m 11 #[.val (.ref a1), .val (.long xx), .second, .val (.int (0 : Int32))] [(.long xx), (.long e0)]))
    refine Go.by (fun _ => XS.lcmp X0.here hx rfl (hb hby d10_11) rfl) ?_
    show Go p.tables e below _ (T0.setTop (mkF m 12 #[.val (.ref a1), .val (.long xx), .second, .val (.int (0 : Int32))] [(.int (lcmpW e0 xx))]))
    by_cases hc12_1 : (lcmpW e0 xx) = (0 : Int32)
    · skip
      refine Go.by (fun _ => XS.ifNo X0.here hx rfl (hb hby d10_12) rfl ((if0 _ _).trans (teq hc12_1).2)) ?_
      show Go p.tables e below _ (T0.setTop (mkF m 15 #[.val (.ref a1), .val (.long xx), .second, .val (.int (0 : Int32))] []))
      refine Go.by (fun _ => XS.iinc X0.here hx rfl (hb hby d10_15) rfl (l' := #[.val (.ref a1), .val (.long xx), .second, .val (.int (1 : Int32))]) rfl) ?_
      show Go p.tables e below _ (T0.setTop (mkF m 18 #[.val (.ref a1), .val (.long xx), .second, .val (.int (1 : Int32))] []))
      refine Go.by (fun _ => XS.aloadN X0.here hx rfl (hb hby d10_18) rfl rfl) ?_
      show Go p.tables e below _ (T0.setTop (mkF m 19 #[.val (.ref a1), .val (.long xx), .second, .val (.int (1 : Int32))] [(.ref a1)]))
      refine Go.by (X0.len hx hZ V1 (z := (1 : Int32)) rfl (g := (mkF m 19 #[.val (.ref a1), .val (.long xx), .second, .val (.int (1 : Int32))] [(.ref a1)])) rfl rfl (hb hby d10_19)) ?_
      show Go p.tables e below _ (T0.setTop (mkF m 20 #[.val (.ref a1), .val (.long xx), .second, .val (.int (1 : Int32))] [(.int (1 : Int32))]))
      refine Go.by (fun _ => XS.iconst X0.here hx rfl (hb hby d10_20)) ?_
      show Go p.tables e below _ (T0.setTop (mkF m 21 #[.val (.ref a1), .val (.long xx), .second, .val (.int (1 : Int32))] [(.int (1 : Int32)), (.int (1 : Int32))]))
      refine Go.by (fun _ => XS.icmpYes X0.here hx rfl (pc0 := 21) (pc' := 35) rfl (hb hby d10_21) rfl (flt (by decide)).2.2.2 (by decide) (by decide)) ?_
      show Go p.tables e below _ (T0.setTop (mkF m 35 #[.val (.ref a1), .val (.long xx), .second, .val (.int (1 : Int32))] []))
      refine Go.by (fun _ => XS.aloadN X0.here hx rfl (hb hby d10_35) rfl rfl) ?_
      show Go p.tables e below _ (T0.setTop (mkF m 36 #[.val (.ref a1), .val (.long xx), .second, .val (.int (1 : Int32))] [(.ref a1)]))
      refine Go.by (X0.len hx hZ V1 (z := (1 : Int32)) rfl (g := (mkF m 36 #[.val (.ref a1), .val (.long xx), .second, .val (.int (1 : Int32))] [(.ref a1)])) rfl rfl (hb hby d10_36)) ?_
      show Go p.tables e below _ (T0.setTop (mkF m 37 #[.val (.ref a1), .val (.long xx), .second, .val (.int (1 : Int32))] [(.int (1 : Int32))]))
      refine Go.by (fun _ => XS.iconst X0.here hx rfl (hb hby d10_37)) ?_
      show Go p.tables e below _ (T0.setTop (mkF m 38 #[.val (.ref a1), .val (.long xx), .second, .val (.int (1 : Int32))] [(.int (2 : Int32)), (.int (1 : Int32))]))
      refine Go.by (fun _ => XS.icmpYes X0.here hx rfl (pc0 := 38) (pc' := 52) rfl (hb hby d10_38) rfl (flt (by decide)).2.2.2 (by decide) (by decide)) ?_
      show Go p.tables e below _ (T0.setTop (mkF m 52 #[.val (.ref a1), .val (.long xx), .second, .val (.int (1 : Int32))] []))
      refine Go.by (fun _ => XS.iloadN X0.here hx rfl (hb hby d10_52) rfl) ?_
      show Go p.tables e below _ (T0.setTop (mkF m 53 #[.val (.ref a1), .val (.long xx), .second, .val (.int (1 : Int32))] [(.int (1 : Int32))]))
      refine Go.retI X0 hx hlk hret (hb hby d10_53) (by decide) (by decide) ?_
      simp only [lw_eq] at hc12_1
      have ec : ([e0]).count xx = 1 := by simp [List.count_cons, hc12_1]
      rw [ec]
      exact ⟨rfl, rfl⟩
    · skip
      refine Go.by (fun _ => XS.ifYes X0.here hx rfl (pc0 := 12) (pc' := 18) rfl (hb hby d10_12) rfl ((if0 _ _).trans (feq hc12_1).2) (by decide) (by decide)) ?_
      show Go p.tables e below _ (T0.setTop (mkF m 18 #[.val (.ref a1), .val (.long xx), .second, .val (.int (0 : Int32))] []))
      refine Go.by (fun _ => XS.aloadN X0.here hx rfl (hb hby d10_18) rfl rfl) ?_
      show Go p.tables e below _ (T0.setTop (mkF m 19 #[.val (.ref a1), .val (.long xx), .second, .val (.int (0 : Int32))] [(.ref a1)]))
      refine Go.by (X0.len hx hZ V1 (z := (1 : Int32)) rfl (g := (mkF m 19 #[.val (.ref a1), .val (.long xx), .second, .val (.int (0 : Int32))] [(.ref a1)])) rfl rfl (hb hby d10_19)) ?_
      show Go p.tables e below _ (T0.setTop (mkF m 20 #[.val (.ref a1), .val (.long xx), .second, .val (.int (0 : Int32))] [(.int (1 : Int32))]))
      refine Go.by (fun _ => XS.iconst X0.here hx rfl (hb hby d10_20)) ?_
      show Go p.tables e below _ (T0.setTop (mkF m 21 #[.val (.ref a1), .val (.long xx), .second, .val (.int (0 : Int32))] [(.int (1 : Int32)), (.int (1 : Int32))]))
      refine Go.by (fun _ => XS.icmpYes X0.here hx rfl (pc0 := 21) (pc' := 35) rfl (hb hby d10_21) rfl (flt (by decide)).2.2.2 (by decide) (by decide)) ?_
      show Go p.tables e below _ (T0.setTop (mkF m 35 #[.val (.ref a1), .val (.long xx), .second, .val (.int (0 : Int32))] []))
      refine Go.by (fun _ => XS.aloadN X0.here hx rfl (hb hby d10_35) rfl rfl) ?_
      show Go p.tables e below _ (T0.setTop (mkF m 36 #[.val (.ref a1), .val (.long xx), .second, .val (.int (0 : Int32))] [(.ref a1)]))
      refine Go.by (X0.len hx hZ V1 (z := (1 : Int32)) rfl (g := (mkF m 36 #[.val (.ref a1), .val (.long xx), .second, .val (.int (0 : Int32))] [(.ref a1)])) rfl rfl (hb hby d10_36)) ?_
      show Go p.tables e below _ (T0.setTop (mkF m 37 #[.val (.ref a1), .val (.long xx), .second, .val (.int (0 : Int32))] [(.int (1 : Int32))]))
      refine Go.by (fun _ => XS.iconst X0.here hx rfl (hb hby d10_37)) ?_
      show Go p.tables e below _ (T0.setTop (mkF m 38 #[.val (.ref a1), .val (.long xx), .second, .val (.int (0 : Int32))] [(.int (2 : Int32)), (.int (1 : Int32))]))
      refine Go.by (fun _ => XS.icmpYes X0.here hx rfl (pc0 := 38) (pc' := 52) rfl (hb hby d10_38) rfl (flt (by decide)).2.2.2 (by decide) (by decide)) ?_
      show Go p.tables e below _ (T0.setTop (mkF m 52 #[.val (.ref a1), .val (.long xx), .second, .val (.int (0 : Int32))] []))
      refine Go.by (fun _ => XS.iloadN X0.here hx rfl (hb hby d10_52) rfl) ?_
      show Go p.tables e below _ (T0.setTop (mkF m 53 #[.val (.ref a1), .val (.long xx), .second, .val (.int (0 : Int32))] [(.int (0 : Int32))]))
      refine Go.retI X0 hx hlk hret (hb hby d10_53) (by decide) (by decide) ?_
      simp only [lw_eq] at hc12_1
      have ec : ([e0]).count xx = 0 := by simp [List.count_cons, hc12_1]
      rw [ec]
      exact ⟨rfl, rfl⟩
  · have V1 : Avf Z h0 a1 ka .long 2 (fun jj => (.long ((fun t => [e0, e1].getD t 0) jj))) := V_a1
    refine Go.by (fun _ => XS.iconst X0.here hx rfl (hb hby d10_0)) ?_
    show Go p.tables e below _ (T0.setTop (mkF m 1 #[.val (.ref a1), .val (.long xx), .second, .unset] [(.int (0 : Int32))]))
    refine Go.by (fun _ => XS.istoreN X0.here hx rfl (hb hby d10_1) rfl (l' := #[.val (.ref a1), .val (.long xx), .second, .val (.int (0 : Int32))]) rfl) ?_
    show Go p.tables e below _ (T0.setTop (mkF m 2 #[.val (.ref a1), .val (.long xx), .second, .val (.int (0 : Int32))] []))
    refine Go.by (fun _ => XS.aloadN X0.here hx rfl (hb hby d10_2) rfl rfl) ?_
    show Go p.tables e below _ (T0.setTop (mkF m 3 #[.val (.ref a1), .val (.long xx), .second, .val (.int (0 : Int32))] [(.ref a1)]))
    refine Go.by (X0.len hx hZ V1 (z := (2 : Int32)) rfl (g := (mkF m 3 #[.val (.ref a1), .val (.long xx), .second, .val (.int (0 : Int32))] [(.ref a1)])) rfl rfl (hb hby d10_3)) ?_
    show Go p.tables e below _ (T0.setTop (mkF m 4 #[.val (.ref a1), .val (.long xx), .second, .val (.int (0 : Int32))] [(.int (2 : Int32))]))
    refine Go.by (fun _ => XS.ifNo X0.here hx rfl (hb hby d10_4) rfl ((if0 _ _).trans (tlt (by decide)).2.2.2)) ?_
    show Go p.tables e below _ (T0.setTop (mkF m 7 #[.val (.ref a1), .val (.long xx), .second, .val (.int (0 : Int32))] []))
    refine Go.by (fun _ => XS.aloadN X0.here hx rfl (hb hby d10_7) rfl rfl) ?_
    show Go p.tables e below _ (T0.setTop (mkF m 8 #[.val (.ref a1), .val (.long xx), .second, .val (.int (0 : Int32))] [(.ref a1)]))
    refine Go.by (fun _ => XS.iconst X0.here hx rfl (hb hby d10_8)) ?_
    show Go p.tables e below _ (T0.setTop (mkF m 9 #[.val (.ref a1), .val (.long xx), .second, .val (.int (0 : Int32))] [(.int (0 : Int32)), (.ref a1)]))
    refine Go.by (X0.ldJ hx hZ V1 (by decide) (i := 0) rfl (by decide) (v := (.long e0)) rfl (g := (mkF m 9 #[.val (.ref a1), .val (.long xx), .second, .val (.int (0 : Int32))] [(.int (0 : Int32)), (.ref a1)])) rfl rfl (hb hby d10_9)) ?_
    show Go p.tables e below _ (T0.setTop (mkF m 10 #[.val (.ref a1), .val (.long xx), .second, .val (.int (0 : Int32))] [(.long e0)]))
    refine Go.by (fun _ => XS.lloadN X0.here hx rfl (hb hby d10_10) rfl) ?_
    show Go p.tables e below _ (T0.setTop (mkF m 11 #[.val (.ref a1), .val (.long xx), .second, .val (.int (0 : Int32))] [(.long xx), (.long e0)]))
    refine Go.by (fun _ => XS.lcmp X0.here hx rfl (hb hby d10_11) rfl) ?_
    show Go p.tables e below _ (T0.setTop (mkF m 12 #[.val (.ref a1), .val (.long xx), .second, .val (.int (0 : Int32))] [(.int (lcmpW e0 xx))]))
    by_cases hc12_2 : (lcmpW e0 xx) = (0 : Int32)
    · skip
      refine Go.by (fun _ => XS.ifNo X0.here hx rfl (hb hby d10_12) rfl ((if0 _ _).trans (teq hc12_2).2)) ?_
      show Go p.tables e below _ (T0.setTop (mkF m 15 #[.val (.ref a1), .val (.long xx), .second, .val (.int (0 : Int32))] []))
      refine Go.by (fun _ => XS.iinc X0.here hx rfl (hb hby d10_15) rfl (l' := #[.val (.ref a1), .val (.long xx), .second, .val (.int (1 : Int32))]) rfl) ?_
      show Go p.tables e below _ (T0.setTop (mkF m 18 #[.val (.ref a1), .val (.long xx), .second, .val (.int (1 : Int32))] []))
      refine Go.by (fun _ => XS.aloadN X0.here hx rfl (hb hby d10_18) rfl rfl) ?_
      show Go p.tables e below _ (T0.setTop (mkF m 19 #[.val (.ref a1), .val (.long xx), .second, .val (.int (1 : Int32))] [(.ref a1)]))
      refine Go.by (X0.len hx hZ V1 (z := (2 : Int32)) rfl (g := (mkF m 19 #[.val (.ref a1), .val (.long xx), .second, .val (.int (1 : Int32))] [(.ref a1)])) rfl rfl (hb hby d10_19)) ?_
      show Go p.tables e below _ (T0.setTop (mkF m 20 #[.val (.ref a1), .val (.long xx), .second, .val (.int (1 : Int32))] [(.int (2 : Int32))]))
      refine Go.by (fun _ => XS.iconst X0.here hx rfl (hb hby d10_20)) ?_
      show Go p.tables e below _ (T0.setTop (mkF m 21 #[.val (.ref a1), .val (.long xx), .second, .val (.int (1 : Int32))] [(.int (1 : Int32)), (.int (2 : Int32))]))
      refine Go.by (fun _ => XS.icmpNo X0.here hx rfl (hb hby d10_21) rfl (tlt (by decide)).2.2.2) ?_
      show Go p.tables e below _ (T0.setTop (mkF m 24 #[.val (.ref a1), .val (.long xx), .second, .val (.int (1 : Int32))] []))
      refine Go.by (fun _ => XS.aloadN X0.here hx rfl (hb hby d10_24) rfl rfl) ?_
      show Go p.tables e below _ (T0.setTop (mkF m 25 #[.val (.ref a1), .val (.long xx), .second, .val (.int (1 : Int32))] [(.ref a1)]))
      refine Go.by (fun _ => XS.iconst X0.here hx rfl (hb hby d10_25)) ?_
      show Go p.tables e below _ (T0.setTop (mkF m 26 #[.val (.ref a1), .val (.long xx), .second, .val (.int (1 : Int32))] [(.int (1 : Int32)), (.ref a1)]))
      refine Go.by (X0.ldJ hx hZ V1 (by decide) (i := 1) rfl (by decide) (v := (.long e1)) rfl (g := (mkF m 26 #[.val (.ref a1), .val (.long xx), .second, .val (.int (1 : Int32))] [(.int (1 : Int32)), (.ref a1)])) rfl rfl (hb hby d10_26)) ?_
      show Go p.tables e below _ (T0.setTop (mkF m 27 #[.val (.ref a1), .val (.long xx), .second, .val (.int (1 : Int32))] [(.long e1)]))
      refine Go.by (fun _ => XS.lloadN X0.here hx rfl (hb hby d10_27) rfl) ?_
      show Go p.tables e below _ (T0.setTop (mkF m 28 #[.val (.ref a1), .val (.long xx), .second, .val (.int (1 : Int32))] [(.long xx), (.long e1)]))
      refine Go.by (fun _ => XS.lcmp X0.here hx rfl (hb hby d10_28) rfl) ?_
      show Go p.tables e below _ (T0.setTop (mkF m 29 #[.val (.ref a1), .val (.long xx), .second, .val (.int (1 : Int32))] [(.int (lcmpW e1 xx))]))
      by_cases hc29_3 : (lcmpW e1 xx) = (0 : Int32)
      · skip
        refine Go.by (fun _ => XS.ifNo X0.here hx rfl (hb hby d10_29) rfl ((if0 _ _).trans (teq hc29_3).2)) ?_
        show Go p.tables e below _ (T0.setTop (mkF m 32 #[.val (.ref a1), .val (.long xx), .second, .val (.int (1 : Int32))] []))
        refine Go.by (fun _ => XS.iinc X0.here hx rfl (hb hby d10_32) rfl (l' := #[.val (.ref a1), .val (.long xx), .second, .val (.int (2 : Int32))]) rfl) ?_
        show Go p.tables e below _ (T0.setTop (mkF m 35 #[.val (.ref a1), .val (.long xx), .second, .val (.int (2 : Int32))] []))
        refine Go.by (fun _ => XS.aloadN X0.here hx rfl (hb hby d10_35) rfl rfl) ?_
        show Go p.tables e below _ (T0.setTop (mkF m 36 #[.val (.ref a1), .val (.long xx), .second, .val (.int (2 : Int32))] [(.ref a1)]))
        refine Go.by (X0.len hx hZ V1 (z := (2 : Int32)) rfl (g := (mkF m 36 #[.val (.ref a1), .val (.long xx), .second, .val (.int (2 : Int32))] [(.ref a1)])) rfl rfl (hb hby d10_36)) ?_
        show Go p.tables e below _ (T0.setTop (mkF m 37 #[.val (.ref a1), .val (.long xx), .second, .val (.int (2 : Int32))] [(.int (2 : Int32))]))
        refine Go.by (fun _ => XS.iconst X0.here hx rfl (hb hby d10_37)) ?_
        show Go p.tables e below _ (T0.setTop (mkF m 38 #[.val (.ref a1), .val (.long xx), .second, .val (.int (2 : Int32))] [(.int (2 : Int32)), (.int (2 : Int32))]))
        refine Go.by (fun _ => XS.icmpYes X0.here hx rfl (pc0 := 38) (pc' := 52) rfl (hb hby d10_38) rfl (flt (by decide)).2.2.2 (by decide) (by decide)) ?_
        show Go p.tables e below _ (T0.setTop (mkF m 52 #[.val (.ref a1), .val (.long xx), .second, .val (.int (2 : Int32))] []))
        refine Go.by (fun _ => XS.iloadN X0.here hx rfl (hb hby d10_52) rfl) ?_
        show Go p.tables e below _ (T0.setTop (mkF m 53 #[.val (.ref a1), .val (.long xx), .second, .val (.int (2 : Int32))] [(.int (2 : Int32))]))
        refine Go.retI X0 hx hlk hret (hb hby d10_53) (by decide) (by decide) ?_
        simp only [lw_eq] at hc12_2 hc29_3
        have ec : ([e0, e1]).count xx = 2 := by simp [List.count_cons, hc12_2, hc29_3]
        rw [ec]
        exact ⟨rfl, rfl⟩
      · skip
        refine Go.by (fun _ => XS.ifYes X0.here hx rfl (pc0 := 29) (pc' := 35) rfl (hb hby d10_29) rfl ((if0 _ _).trans (feq hc29_3).2) (by decide) (by decide)) ?_
        show Go p.tables e below _ (T0.setTop (mkF m 35 #[.val (.ref a1), .val (.long xx), .second, .val (.int (1 : Int32))] []))
        refine Go.by (fun _ => XS.aloadN X0.here hx rfl (hb hby d10_35) rfl rfl) ?_
        show Go p.tables e below _ (T0.setTop (mkF m 36 #[.val (.ref a1), .val (.long xx), .second, .val (.int (1 : Int32))] [(.ref a1)]))
        refine Go.by (X0.len hx hZ V1 (z := (2 : Int32)) rfl (g := (mkF m 36 #[.val (.ref a1), .val (.long xx), .second, .val (.int (1 : Int32))] [(.ref a1)])) rfl rfl (hb hby d10_36)) ?_
        show Go p.tables e below _ (T0.setTop (mkF m 37 #[.val (.ref a1), .val (.long xx), .second, .val (.int (1 : Int32))] [(.int (2 : Int32))]))
        refine Go.by (fun _ => XS.iconst X0.here hx rfl (hb hby d10_37)) ?_
        show Go p.tables e below _ (T0.setTop (mkF m 38 #[.val (.ref a1), .val (.long xx), .second, .val (.int (1 : Int32))] [(.int (2 : Int32)), (.int (2 : Int32))]))
        refine Go.by (fun _ => XS.icmpYes X0.here hx rfl (pc0 := 38) (pc' := 52) rfl (hb hby d10_38) rfl (flt (by decide)).2.2.2 (by decide) (by decide)) ?_
        show Go p.tables e below _ (T0.setTop (mkF m 52 #[.val (.ref a1), .val (.long xx), .second, .val (.int (1 : Int32))] []))
        refine Go.by (fun _ => XS.iloadN X0.here hx rfl (hb hby d10_52) rfl) ?_
        show Go p.tables e below _ (T0.setTop (mkF m 53 #[.val (.ref a1), .val (.long xx), .second, .val (.int (1 : Int32))] [(.int (1 : Int32))]))
        refine Go.retI X0 hx hlk hret (hb hby d10_53) (by decide) (by decide) ?_
        simp only [lw_eq] at hc12_2 hc29_3
        have ec : ([e0, e1]).count xx = 1 := by simp [List.count_cons, hc12_2, hc29_3]
        rw [ec]
        exact ⟨rfl, rfl⟩
    · skip
      refine Go.by (fun _ => XS.ifYes X0.here hx rfl (pc0 := 12) (pc' := 18) rfl (hb hby d10_12) rfl ((if0 _ _).trans (feq hc12_2).2) (by decide) (by decide)) ?_
      show Go p.tables e below _ (T0.setTop (mkF m 18 #[.val (.ref a1), .val (.long xx), .second, .val (.int (0 : Int32))] []))
      refine Go.by (fun _ => XS.aloadN X0.here hx rfl (hb hby d10_18) rfl rfl) ?_
      show Go p.tables e below _ (T0.setTop (mkF m 19 #[.val (.ref a1), .val (.long xx), .second, .val (.int (0 : Int32))] [(.ref a1)]))
      refine Go.by (X0.len hx hZ V1 (z := (2 : Int32)) rfl (g := (mkF m 19 #[.val (.ref a1), .val (.long xx), .second, .val (.int (0 : Int32))] [(.ref a1)])) rfl rfl (hb hby d10_19)) ?_
      show Go p.tables e below _ (T0.setTop (mkF m 20 #[.val (.ref a1), .val (.long xx), .second, .val (.int (0 : Int32))] [(.int (2 : Int32))]))
      refine Go.by (fun _ => XS.iconst X0.here hx rfl (hb hby d10_20)) ?_
      show Go p.tables e below _ (T0.setTop (mkF m 21 #[.val (.ref a1), .val (.long xx), .second, .val (.int (0 : Int32))] [(.int (1 : Int32)), (.int (2 : Int32))]))
      refine Go.by (fun _ => XS.icmpNo X0.here hx rfl (hb hby d10_21) rfl (tlt (by decide)).2.2.2) ?_
      show Go p.tables e below _ (T0.setTop (mkF m 24 #[.val (.ref a1), .val (.long xx), .second, .val (.int (0 : Int32))] []))
      refine Go.by (fun _ => XS.aloadN X0.here hx rfl (hb hby d10_24) rfl rfl) ?_
      show Go p.tables e below _ (T0.setTop (mkF m 25 #[.val (.ref a1), .val (.long xx), .second, .val (.int (0 : Int32))] [(.ref a1)]))
      refine Go.by (fun _ => XS.iconst X0.here hx rfl (hb hby d10_25)) ?_
      show Go p.tables e below _ (T0.setTop (mkF m 26 #[.val (.ref a1), .val (.long xx), .second, .val (.int (0 : Int32))] [(.int (1 : Int32)), (.ref a1)]))
      refine Go.by (X0.ldJ hx hZ V1 (by decide) (i := 1) rfl (by decide) (v := (.long e1)) rfl (g := (mkF m 26 #[.val (.ref a1), .val (.long xx), .second, .val (.int (0 : Int32))] [(.int (1 : Int32)), (.ref a1)])) rfl rfl (hb hby d10_26)) ?_
      show Go p.tables e below _ (T0.setTop (mkF m 27 #[.val (.ref a1), .val (.long xx), .second, .val (.int (0 : Int32))] [(.long e1)]))
      refine Go.by (fun _ => XS.lloadN X0.here hx rfl (hb hby d10_27) rfl) ?_
      show Go p.tables e below _ (T0.setTop (mkF m 28 #[.val (.ref a1), .val (.long xx), .second, .val (.int (0 : Int32))] [(.long xx), (.long e1)]))
      refine Go.by (fun _ => XS.lcmp X0.here hx rfl (hb hby d10_28) rfl) ?_
      show Go p.tables e below _ (T0.setTop (mkF m 29 #[.val (.ref a1), .val (.long xx), .second, .val (.int (0 : Int32))] [(.int (lcmpW e1 xx))]))
      by_cases hc29_4 : (lcmpW e1 xx) = (0 : Int32)
      · skip
        refine Go.by (fun _ => XS.ifNo X0.here hx rfl (hb hby d10_29) rfl ((if0 _ _).trans (teq hc29_4).2)) ?_
        show Go p.tables e below _ (T0.setTop (mkF m 32 #[.val (.ref a1), .val (.long xx), .second, .val (.int (0 : Int32))] []))
        refine Go.by (fun _ => XS.iinc X0.here hx rfl (hb hby d10_32) rfl (l' := #[.val (.ref a1), .val (.long xx), .second, .val (.int (1 : Int32))]) rfl) ?_
        show Go p.tables e below _ (T0.setTop (mkF m 35 #[.val (.ref a1), .val (.long xx), .second, .val (.int (1 : Int32))] []))
        refine Go.by (fun _ => XS.aloadN X0.here hx rfl (hb hby d10_35) rfl rfl) ?_
        show Go p.tables e below _ (T0.setTop (mkF m 36 #[.val (.ref a1), .val (.long xx), .second, .val (.int (1 : Int32))] [(.ref a1)]))
        refine Go.by (X0.len hx hZ V1 (z := (2 : Int32)) rfl (g := (mkF m 36 #[.val (.ref a1), .val (.long xx), .second, .val (.int (1 : Int32))] [(.ref a1)])) rfl rfl (hb hby d10_36)) ?_
        show Go p.tables e below _ (T0.setTop (mkF m 37 #[.val (.ref a1), .val (.long xx), .second, .val (.int (1 : Int32))] [(.int (2 : Int32))]))
        refine Go.by (fun _ => XS.iconst X0.here hx rfl (hb hby d10_37)) ?_
        show Go p.tables e below _ (T0.setTop (mkF m 38 #[.val (.ref a1), .val (.long xx), .second, .val (.int (1 : Int32))] [(.int (2 : Int32)), (.int (2 : Int32))]))
        refine Go.by (fun _ => XS.icmpYes X0.here hx rfl (pc0 := 38) (pc' := 52) rfl (hb hby d10_38) rfl (flt (by decide)).2.2.2 (by decide) (by decide)) ?_
        show Go p.tables e below _ (T0.setTop (mkF m 52 #[.val (.ref a1), .val (.long xx), .second, .val (.int (1 : Int32))] []))
        refine Go.by (fun _ => XS.iloadN X0.here hx rfl (hb hby d10_52) rfl) ?_
        show Go p.tables e below _ (T0.setTop (mkF m 53 #[.val (.ref a1), .val (.long xx), .second, .val (.int (1 : Int32))] [(.int (1 : Int32))]))
        refine Go.retI X0 hx hlk hret (hb hby d10_53) (by decide) (by decide) ?_
        simp only [lw_eq] at hc12_2 hc29_4
        have ec : ([e0, e1]).count xx = 1 := by simp [List.count_cons, hc12_2, hc29_4]
        rw [ec]
        exact ⟨rfl, rfl⟩
      · skip
        refine Go.by (fun _ => XS.ifYes X0.here hx rfl (pc0 := 29) (pc' := 35) rfl (hb hby d10_29) rfl ((if0 _ _).trans (feq hc29_4).2) (by decide) (by decide)) ?_
        show Go p.tables e below _ (T0.setTop (mkF m 35 #[.val (.ref a1), .val (.long xx), .second, .val (.int (0 : Int32))] []))
        refine Go.by (fun _ => XS.aloadN X0.here hx rfl (hb hby d10_35) rfl rfl) ?_
        show Go p.tables e below _ (T0.setTop (mkF m 36 #[.val (.ref a1), .val (.long xx), .second, .val (.int (0 : Int32))] [(.ref a1)]))
        refine Go.by (X0.len hx hZ V1 (z := (2 : Int32)) rfl (g := (mkF m 36 #[.val (.ref a1), .val (.long xx), .second, .val (.int (0 : Int32))] [(.ref a1)])) rfl rfl (hb hby d10_36)) ?_
        show Go p.tables e below _ (T0.setTop (mkF m 37 #[.val (.ref a1), .val (.long xx), .second, .val (.int (0 : Int32))] [(.int (2 : Int32))]))
        refine Go.by (fun _ => XS.iconst X0.here hx rfl (hb hby d10_37)) ?_
        show Go p.tables e below _ (T0.setTop (mkF m 38 #[.val (.ref a1), .val (.long xx), .second, .val (.int (0 : Int32))] [(.int (2 : Int32)), (.int (2 : Int32))]))
        refine Go.by (fun _ => XS.icmpYes X0.here hx rfl (pc0 := 38) (pc' := 52) rfl (hb hby d10_38) rfl (flt (by decide)).2.2.2 (by decide) (by decide)) ?_
        show Go p.tables e below _ (T0.setTop (mkF m 52 #[.val (.ref a1), .val (.long xx), .second, .val (.int (0 : Int32))] []))
        refine Go.by (fun _ => XS.iloadN X0.here hx rfl (hb hby d10_52) rfl) ?_
        show Go p.tables e below _ (T0.setTop (mkF m 53 #[.val (.ref a1), .val (.long xx), .second, .val (.int (0 : Int32))] [(.int (0 : Int32))]))
        refine Go.retI X0 hx hlk hret (hb hby d10_53) (by decide) (by decide) ?_
        simp only [lw_eq] at hc12_2 hc29_4
        have ec : ([e0, e1]).count xx = 0 := by simp [List.count_cons, hc12_2, hc29_4]
        rw [ec]
        exact ⟨rfl, rfl⟩
  · have V1 : Avf Z h0 a1 ka .long 3 (fun jj => (.long ((fun t => [e0, e1, e2].getD t 0) jj))) := V_a1
    refine Go.by (fun _ => XS.iconst X0.here hx rfl (hb hby d10_0)) ?_
    show Go p.tables e below _ (T0.setTop (mkF m 1 #[.val (.ref a1), .val (.long xx), .second, .unset] [(.int (0 : Int32))]))
    refine Go.by (fun _ => XS.istoreN X0.here hx rfl (hb hby d10_1) rfl (l' := #[.val (.ref a1), .val (.long xx), .second, .val (.int (0 : Int32))]) rfl) ?_
    show Go p.tables e below _ (T0.setTop (mkF m 2 #[.val (.ref a1), .val (.long xx), .second, .val (.int (0 : Int32))] []))
    refine Go.by (fun _ => XS.aloadN X0.here hx rfl (hb hby d10_2) rfl rfl) ?_
    show Go p.tables e below _ (T0.setTop (mkF m 3 #[.val (.ref a1), .val (.long xx), .second, .val (.int (0 : Int32))] [(.ref a1)]))
    refine Go.by (X0.len hx hZ V1 (z := (3 : Int32)) rfl (g := (mkF m 3 #[.val (.ref a1), .val (.long xx), .second, .val (.int (0 : Int32))] [(.ref a1)])) rfl rfl (hb hby d10_3)) ?_
    show Go p.tables e below _ (T0.setTop (mkF m 4 #[.val (.ref a1), .val (.long xx), .second, .val (.int (0 : Int32))] [(.int (3 : Int32))]))
    refine Go.by (fun _ => XS.ifNo X0.here hx rfl (hb hby d10_4) rfl ((if0 _ _).trans (tlt (by decide)).2.2.2)) ?_
    show Go p.tables e below _ (T0.setTop (mkF m 7 #[.val (.ref a1), .val (.long xx), .second, .val (.int (0 : Int32))] []))
    refine Go.by (fun _ => XS.aloadN X0.here hx rfl (hb hby d10_7) rfl rfl) ?_
    show Go p.tables e below _ (T0.setTop (mkF m 8 #[.val (.ref a1), .val (.long xx), .second, .val (.int (0 : Int32))] [(.ref a1)]))
    refine Go.by (fun _ => XS.iconst X0.here hx rfl (hb hby d10_8)) ?_
    show Go p.tables e below _ (T0.setTop (mkF m 9 #[.val (.ref a1), .val (.long xx), .second, .val (.int (0 : Int32))] [(.int (0 : Int32)), (.ref a1)]))
    refine Go.by (X0.ldJ hx hZ V1 (by decide) (i := 0) rfl (by decide) (v := (.long e0)) rfl (g := (mkF m 9 #[.val (.ref a1), .val (.long xx), .second, .val (.int (0 : Int32))] [(.int (0 : Int32)), (.ref a1)])) rfl rfl (hb hby d10_9)) ?_
    show Go p.tables e below _ (T0.setTop (mkF m 10 #[.val (.ref a1), .val (.long xx), .second, .val (.int (0 : Int32))] [(.long e0)]))
    refine Go.by (fun _ => XS.lloadN X0.here hx rfl (hb hby d10_10) rfl) ?_
    show Go p.tables e below _ (T0.setTop (mkF m 11 #[.val (.ref a1), .val (.long xx), .second, .val (.int (0 : Int32))] [(.long xx), (.long e0)]))
    refine Go.by (fun _ => XS.lcmp X0.here hx rfl (hb hby d10_11) rfl) ?_
    show Go p.tables e below _ (T0.setTop (mkF m 12 #[.val (.ref a1), .val (.long xx), .second, .val (.int (0 : Int32))] [(.int (lcmpW e0 xx))]))
    by_cases hc12_5 : (lcmpW e0 xx) = (0 : Int32)
    · skip
      refine Go.by (fun _ => XS.ifNo X0.here hx rfl (hb hby d10_12) rfl ((if0 _ _).trans (teq hc12_5).2)) ?_
      show Go p.tables e below _ (T0.setTop (mkF m 15 #[.val (.ref a1), .val (.long xx), .second, .val (.int (0 : Int32))] []))
      refine Go.by (fun _ => XS.iinc X0.here hx rfl (hb hby d10_15) rfl (l' := #[.val (.ref a1), .val (.long xx), .second, .val (.int (1 : Int32))]) rfl) ?_
      show Go p.tables e below _ (T0.setTop (mkF m 18 #[.val (.ref a1), .val (.long xx), .second, .val (.int (1 : Int32))] []))
      refine Go.by (fun _ => XS.aloadN X0.here hx rfl (hb hby d10_18) rfl rfl) ?_
      show Go p.tables e below _ (T0.setTop (mkF m 19 #[.val (.ref a1), .val (.long xx), .second, .val (.int (1 : Int32))] [(.ref a1)]))
      refine Go.by (X0.len hx hZ V1 (z := (3 : Int32)) rfl (g := (mkF m 19 #[.val (.ref a1), .val (.long xx), .second, .val (.int (1 : Int32))] [(.ref a1)])) rfl rfl (hb hby d10_19)) ?_
      show Go p.tables e below _ (T0.setTop (mkF m 20 #[.val (.ref a1), .val (.long xx), .second, .val (.int (1 : Int32))] [(.int (3 : Int32))]))
      refine Go.by (fun _ => XS.iconst X0.here hx rfl (hb hby d10_20)) ?_
      show Go p.tables e below _ (T0.setTop (mkF m 21 #[.val (.ref a1), .val (.long xx), .second, .val (.int (1 : Int32))] [(.int (1 : Int32)), (.int (3 : Int32))]))
      refine Go.by (fun _ => XS.icmpNo X0.here hx rfl (hb hby d10_21) rfl (tlt (by decide)).2.2.2) ?_
      show Go p.tables e below _ (T0.setTop (mkF m 24 #[.val (.ref a1), .val (.long xx), .second, .val (.int (1 : Int32))] []))
      refine Go.by (fun _ => XS.aloadN X0.here hx rfl (hb hby d10_24) rfl rfl) ?_
      show Go p.tables e below _ (T0.setTop (mkF m 25 #[.val (.ref a1), .val (.long xx), .second, .val (.int (1 : Int32))] [(.ref a1)]))
      refine Go.by (fun _ => XS.iconst X0.here hx rfl (hb hby d10_25)) ?_
      show Go p.tables e below _ (T0.setTop (mkF m 26 #[.val (.ref a1), .val (.long xx), .second, .val (.int (1 : Int32))] [(.int (1 : Int32)), (.ref a1)]))
      refine Go.by (X0.ldJ hx hZ V1 (by decide) (i := 1) rfl (by decide) (v := (.long e1)) rfl (g := (mkF m 26 #[.val (.ref a1), .val (.long xx), .second, .val (.int (1 : Int32))] [(.int (1 : Int32)), (.ref a1)])) rfl rfl (hb hby d10_26)) ?_
      show Go p.tables e below _ (T0.setTop (mkF m 27 #[.val (.ref a1), .val (.long xx), .second, .val (.int (1 : Int32))] [(.long e1)]))
      refine Go.by (fun _ => XS.lloadN X0.here hx rfl (hb hby d10_27) rfl) ?_
      show Go p.tables e below _ (T0.setTop (mkF m 28 #[.val (.ref a1), .val (.long xx), .second, .val (.int (1 : Int32))] [(.long xx), (.long e1)]))
      refine Go.by (fun _ => XS.lcmp X0.here hx rfl (hb hby d10_28) rfl) ?_
      show Go p.tables e below _ (T0.setTop (mkF m 29 #[.val (.ref a1), .val (.long xx), .second, .val (.int (1 : Int32))] [(.int (lcmpW e1 xx))]))
      by_cases hc29_6 : (lcmpW e1 xx) = (0 : Int32)
      · skip
        refine Go.by (fun _ => XS.ifNo X0.here hx rfl (hb hby d10_29) rfl ((if0 _ _).trans (teq hc29_6).2)) ?_
        show Go p.tables e below _ (T0.setTop (mkF m 32 #[.val (.ref a1), .val (.long xx), .second, .val (.int (1 : Int32))] []))
        refine Go.by (fun _ => XS.iinc X0.here hx rfl (hb hby d10_32) rfl (l' := #[.val (.ref a1), .val (.long xx), .second, .val (.int (2 : Int32))]) rfl) ?_
        show Go p.tables e below _ (T0.setTop (mkF m 35 #[.val (.ref a1), .val (.long xx), .second, .val (.int (2 : Int32))] []))
        refine Go.by (fun _ => XS.aloadN X0.here hx rfl (hb hby d10_35) rfl rfl) ?_
        show Go p.tables e below _ (T0.setTop (mkF m 36 #[.val (.ref a1), .val (.long xx), .second, .val (.int (2 : Int32))] [(.ref a1)]))
        refine Go.by (X0.len hx hZ V1 (z := (3 : Int32)) rfl (g := (mkF m 36 #[.val (.ref a1), .val (.long xx), .second, .val (.int (2 : Int32))] [(.ref a1)])) rfl rfl (hb hby d10_36)) ?_
        show Go p.tables e below _ (T0.setTop (mkF m 37 #[.val (.ref a1), .val (.long xx), .second, .val (.int (2 : Int32))] [(.int (3 : Int32))]))
        refine Go.by (fun _ => XS.iconst X0.here hx rfl (hb hby d10_37)) ?_
        show Go p.tables e below _ (T0.setTop (mkF m 38 #[.val (.ref a1), .val (.long xx), .second, .val (.int (2 : Int32))] [(.int (2 : Int32)), (.int (3 : Int32))]))
        refine Go.by (fun _ => XS.icmpNo X0.here hx rfl (hb hby d10_38) rfl (tlt (by decide)).2.2.2) ?_
        show Go p.tables e below _ (T0.setTop (mkF m 41 #[.val (.ref a1), .val (.long xx), .second, .val (.int (2 : Int32))] []))
        refine Go.by (fun _ => XS.aloadN X0.here hx rfl (hb hby d10_41) rfl rfl) ?_
        show Go p.tables e below _ (T0.setTop (mkF m 42 #[.val (.ref a1), .val (.long xx), .second, .val (.int (2 : Int32))] [(.ref a1)]))
        refine Go.by (fun _ => XS.iconst X0.here hx rfl (hb hby d10_42)) ?_
        show Go p.tables e below _ (T0.setTop (mkF m 43 #[.val (.ref a1), .val (.long xx), .second, .val (.int (2 : Int32))] [(.int (2 : Int32)), (.ref a1)]))
        refine Go.by (X0.ldJ hx hZ V1 (by decide) (i := 2) rfl (by decide) (v := (.long e2)) rfl (g := (mkF m 43 #[.val (.ref a1), .val (.long xx), .second, .val (.int (2 : Int32))] [(.int (2 : Int32)), (.ref a1)])) rfl rfl (hb hby d10_43)) ?_
        show Go p.tables e below _ (T0.setTop (mkF m 44 #[.val (.ref a1), .val (.long xx), .second, .val (.int (2 : Int32))] [(.long e2)]))
        refine Go.by (fun _ => XS.lloadN X0.here hx rfl (hb hby d10_44) rfl) ?_
        show Go p.tables e below _ (T0.setTop (mkF m 45 #[.val (.ref a1), .val (.long xx), .second, .val (.int (2 : Int32))] [(.long xx), (.long e2)]))
        refine Go.by (fun _ => XS.lcmp X0.here hx rfl (hb hby d10_45) rfl) ?_
        show Go p.tables e below _ (T0.setTop (mkF m 46 #[.val (.ref a1), .val (.long xx), .second, .val (.int (2 : Int32))] [(.int (lcmpW e2 xx))]))
        by_cases hc46_7 : (lcmpW e2 xx) = (0 : Int32)
        · skip
          refine Go.by (fun _ => XS.ifNo X0.here hx rfl (hb hby d10_46) rfl ((if0 _ _).trans (teq hc46_7).2)) ?_
          show Go p.tables e below _ (T0.setTop (mkF m 49 #[.val (.ref a1), .val (.long xx), .second, .val (.int (2 : Int32))] []))
          refine Go.by (fun _ => XS.iinc X0.here hx rfl (hb hby d10_49) rfl (l' := #[.val (.ref a1), .val (.long xx), .second, .val (.int (3 : Int32))]) rfl) ?_
          show Go p.tables e below _ (T0.setTop (mkF m 52 #[.val (.ref a1), .val (.long xx), .second, .val (.int (3 : Int32))] []))
          refine Go.by (fun _ => XS.iloadN X0.here hx rfl (hb hby d10_52) rfl) ?_
          show Go p.tables e below _ (T0.setTop (mkF m 53 #[.val (.ref a1), .val (.long xx), .second, .val (.int (3 : Int32))] [(.int (3 : Int32))]))
          refine Go.retI X0 hx hlk hret (hb hby d10_53) (by decide) (by decide) ?_
          simp only [lw_eq] at hc12_5 hc29_6 hc46_7
          have ec : ([e0, e1, e2]).count xx = 3 := by simp [List.count_cons, hc12_5, hc29_6, hc46_7]
          rw [ec]
          exact ⟨rfl, rfl⟩
        · skip
          refine Go.by (fun _ => XS.ifYes X0.here hx rfl (pc0 := 46) (pc' := 52) rfl (hb hby d10_46) rfl ((if0 _ _).trans (feq hc46_7).2) (by decide) (by decide)) ?_
          show Go p.tables e below _ (T0.setTop (mkF m 52 #[.val (.ref a1), .val (.long xx), .second, .val (.int (2 : Int32))] []))
          refine Go.by (fun _ => XS.iloadN X0.here hx rfl (hb hby d10_52) rfl) ?_
          show Go p.tables e below _ (T0.setTop (mkF m 53 #[.val (.ref a1), .val (.long xx), .second, .val (.int (2 : Int32))] [(.int (2 : Int32))]))
          refine Go.retI X0 hx hlk hret (hb hby d10_53) (by decide) (by decide) ?_
          simp only [lw_eq] at hc12_5 hc29_6 hc46_7
          have ec : ([e0, e1, e2]).count xx = 2 := by simp [List.count_cons, hc12_5, hc29_6, hc46_7]
          rw [ec]
          exact ⟨rfl, rfl⟩
      · skip
        refine Go.by (fun _ => XS.ifYes X0.here hx rfl (pc0 := 29) (pc' := 35) rfl (hb hby d10_29) rfl ((if0 _ _).trans (feq hc29_6).2) (by decide) (by decide)) ?_
        show Go p.tables e below _ (T0.setTop (mkF m 35 #[.val (.ref a1), .val (.long xx), .second, .val (.int (1 : Int32))] []))
        refine Go.by (fun _ => XS.aloadN X0.here hx rfl (hb hby d10_35) rfl rfl) ?_
        show Go p.tables e below _ (T0.setTop (mkF m 36 #[.val (.ref a1), .val (.long xx), .second, .val (.int (1 : Int32))] [(.ref a1)]))
        refine Go.by (X0.len hx hZ V1 (z := (3 : Int32)) rfl (g := (mkF m 36 #[.val (.ref a1), .val (.long xx), .second, .val (.int (1 : Int32))] [(.ref a1)])) rfl rfl (hb hby d10_36)) ?_
        show Go p.tables e below _ (T0.setTop (mkF m 37 #[.val (.ref a1), .val (.long xx), .second, .val (.int (1 : Int32))] [(.int (3 : Int32))]))
        refine Go.by (fun _ => XS.iconst X0.here hx rfl (hb hby d10_37)) ?_
        show Go p.tables e below _ (T0.setTop (mkF m 38 #[.val (.ref a1), .val (.long xx), .second, .val (.int (1 : Int32))] [(.int (2 : Int32)), (.int (3 : Int32))]))
        refine Go.by (fun _ => XS.icmpNo X0.here hx rfl (hb hby d10_38) rfl (tlt (by decide)).2.2.2) ?_
        show Go p.tables e below _ (T0.setTop (mkF m 41 #[.val (.ref a1), .val (.long xx), .second, .val (.int (1 : Int32))] []))
        refine Go.by (fun _ => XS.aloadN X0.here hx rfl (hb hby d10_41) rfl rfl) ?_
        show Go p.tables e below _ (T0.setTop (mkF m 42 #[.val (.ref a1), .val (.long xx), .second, .val (.int (1 : Int32))] [(.ref a1)]))
        refine Go.by (fun _ => XS.iconst X0.here hx rfl (hb hby d10_42)) ?_
        show Go p.tables e below _ (T0.setTop (mkF m 43 #[.val (.ref a1), .val (.long xx), .second, .val (.int (1 : Int32))] [(.int (2 : Int32)), (.ref a1)]))
        refine Go.by (X0.ldJ hx hZ V1 (by decide) (i := 2) rfl (by decide) (v := (.long e2)) rfl (g := (mkF m 43 #[.val (.ref a1), .val (.long xx), .second, .val (.int (1 : Int32))] [(.int (2 : Int32)), (.ref a1)])) rfl rfl (hb hby d10_43)) ?_
        show Go p.tables e below _ (T0.setTop (mkF m 44 #[.val (.ref a1), .val (.long xx), .second, .val (.int (1 : Int32))] [(.long e2)]))
        refine Go.by (fun _ => XS.lloadN X0.here hx rfl (hb hby d10_44) rfl) ?_
        show Go p.tables e below _ (T0.setTop (mkF m 45 #[.val (.ref a1), .val (.long xx), .second, .val (.int (1 : Int32))] [(.long xx), (.long e2)]))
        refine Go.by (fun _ => XS.lcmp X0.here hx rfl (hb hby d10_45) rfl) ?_
        show Go p.tables e below _ (T0.setTop (mkF m 46 #[.val (.ref a1), .val (.long xx), .second, .val (.int (1 : Int32))] [(.int (lcmpW e2 xx))]))
        by_cases hc46_8 : (lcmpW e2 xx) = (0 : Int32)
        · skip
          refine Go.by (fun _ => XS.ifNo X0.here hx rfl (hb hby d10_46) rfl ((if0 _ _).trans (teq hc46_8).2)) ?_
          show Go p.tables e below _ (T0.setTop (mkF m 49 #[.val (.ref a1), .val (.long xx), .second, .val (.int (1 : Int32))] []))
          refine Go.by (fun _ => XS.iinc X0.here hx rfl (hb hby d10_49) rfl (l' := #[.val (.ref a1), .val (.long xx), .second, .val (.int (2 : Int32))]) rfl) ?_
          show Go p.tables e below _ (T0.setTop (mkF m 52 #[.val (.ref a1), .val (.long xx), .second, .val (.int (2 : Int32))] []))
          refine Go.by (fun _ => XS.iloadN X0.here hx rfl (hb hby d10_52) rfl) ?_
          show Go p.tables e below _ (T0.setTop (mkF m 53 #[.val (.ref a1), .val (.long xx), .second, .val (.int (2 : Int32))] [(.int (2 : Int32))]))
          refine Go.retI X0 hx hlk hret (hb hby d10_53) (by decide) (by decide) ?_
          simp only [lw_eq] at hc12_5 hc29_6 hc46_8
          have ec : ([e0, e1, e2]).count xx = 2 := by simp [List.count_cons, hc12_5, hc29_6, hc46_8]
          rw [ec]
          exact ⟨rfl, rfl⟩
        · skip
          refine Go.by (fun _ => XS.ifYes X0.here hx rfl (pc0 := 46) (pc' := 52) rfl (hb hby d10_46) rfl ((if0 _ _).trans (feq hc46_8).2) (by decide) (by decide)) ?_
          show Go p.tables e below _ (T0.setTop (mkF m 52 #[.val (.ref a1), .val (.long xx), .second, .val (.int (1 : Int32))] []))
          refine Go.by (fun _ => XS.iloadN X0.here hx rfl (hb hby d10_52) rfl) ?_
          show Go p.tables e below _ (T0.setTop (mkF m 53 #[.val (.ref a1), .val (.long xx), .second, .val (.int (1 : Int32))] [(.int (1 : Int32))]))
          refine Go.retI X0 hx hlk hret (hb hby d10_53) (by decide) (by decide) ?_
          simp only [lw_eq] at hc12_5 hc29_6 hc46_8
          have ec : ([e0, e1, e2]).count xx = 1 := by simp [List.count_cons, hc12_5, hc29_6, hc46_8]
          rw [ec]
          exact ⟨rfl, rfl⟩
    · skip
      refine Go.by (fun _ => XS.ifYes X0.here hx rfl (pc0 := 12) (pc' := 18) rfl (hb hby d10_12) rfl ((if0 _ _).trans (feq hc12_5).2) (by decide) (by decide)) ?_
      show Go p.tables e below _ (T0.setTop (mkF m 18 #[.val (.ref a1), .val (.long xx), .second, .val (.int (0 : Int32))] []))
      refine Go.by (fun _ => XS.aloadN X0.here hx rfl (hb hby d10_18) rfl rfl) ?_
      show Go p.tables e below _ (T0.setTop (mkF m 19 #[.val (.ref a1), .val (.long xx), .second, .val (.int (0 : Int32))] [(.ref a1)]))
      refine Go.by (X0.len hx hZ V1 (z := (3 : Int32)) rfl (g := (mkF m 19 #[.val (.ref a1), .val (.long xx), .second, .val (.int (0 : Int32))] [(.ref a1)])) rfl rfl (hb hby d10_19)) ?_
      show Go p.tables e below _ (T0.setTop (mkF m 20 #[.val (.ref a1), .val (.long xx), .second, .val (.int (0 : Int32))] [(.int (3 : Int32))]))
      refine Go.by (fun _ => XS.iconst X0.here hx rfl (hb hby d10_20)) ?_
      show Go p.tables e below _ (T0.setTop (mkF m 21 #[.val (.ref a1), .val (.long xx), .second, .val (.int (0 : Int32))] [(.int (1 : Int32)), (.int (3 : Int32))]))
      refine Go.by (fun _ => XS.icmpNo X0.here hx rfl (hb hby d10_21) rfl (tlt (by decide)).2.2.2) ?_
      show Go p.tables e below _ (T0.setTop (mkF m 24 #[.val (.ref a1), .val (.long xx), .second, .val (.int (0 : Int32))] []))
      refine Go.by (fun _ => XS.aloadN X0.here hx rfl (hb hby d10_24) rfl rfl) ?_
      show Go p.tables e below _ (T0.setTop (mkF m 25 #[.val (.ref a1), .val (.long xx), .second, .val (.int (0 : Int32))] [(.ref a1)]))
      refine Go.by (fun _ => XS.iconst X0.here hx rfl (hb hby d10_25)) ?_
      show Go p.tables e below _ (T0.setTop (mkF m 26 #[.val (.ref a1), .val (.long xx), .second, .val (.int (0 : Int32))] [(.int (1 : Int32)), (.ref a1)]))
      refine Go.by (X0.ldJ hx hZ V1 (by decide) (i := 1) rfl (by decide) (v := (.long e1)) rfl (g := (mkF m 26 #[.val (.ref a1), .val (.long xx), .second, .val (.int (0 : Int32))] [(.int (1 : Int32)), (.ref a1)])) rfl rfl (hb hby d10_26)) ?_
      show Go p.tables e below _ (T0.setTop (mkF m 27 #[.val (.ref a1), .val (.long xx), .second, .val (.int (0 : Int32))] [(.long e1)]))
      refine Go.by (fun _ => XS.lloadN X0.here hx rfl (hb hby d10_27) rfl) ?_
      show Go p.tables e below _ (T0.setTop (mkF m 28 #[.val (.ref a1), .val (.long xx), .second, .val (.int (0 : Int32))] [(.long xx), (.long e1)]))
      refine Go.by (fun _ => XS.lcmp X0.here hx rfl (hb hby d10_28) rfl) ?_
      show Go p.tables e below _ (T0.setTop (mkF m 29 #[.val (.ref a1), .val (.long xx), .second, .val (.int (0 : Int32))] [(.int (lcmpW e1 xx))]))
      by_cases hc29_9 : (lcmpW e1 xx) = (0 : Int32)
      · skip
        refine Go.by (fun _ => XS.ifNo X0.here hx rfl (hb hby d10_29) rfl ((if0 _ _).trans (teq hc29_9).2)) ?_
        show Go p.tables e below _ (T0.setTop (mkF m 32 #[.val (.ref a1), .val (.long xx), .second, .val (.int (0 : Int32))] []))
        refine Go.by (fun _ => XS.iinc X0.here hx rfl (hb hby d10_32) rfl (l' := #[.val (.ref a1), .val (.long xx), .second, .val (.int (1 : Int32))]) rfl) ?_
        show Go p.tables e below _ (T0.setTop (mkF m 35 #[.val (.ref a1), .val (.long xx), .second, .val (.int (1 : Int32))] []))
        refine Go.by (fun _ => XS.aloadN X0.here hx rfl (hb hby d10_35) rfl rfl) ?_
        show Go p.tables e below _ (T0.setTop (mkF m 36 #[.val (.ref a1), .val (.long xx), .second, .val (.int (1 : Int32))] [(.ref a1)]))
        refine Go.by (X0.len hx hZ V1 (z := (3 : Int32)) rfl (g := (mkF m 36 #[.val (.ref a1), .val (.long xx), .second, .val (.int (1 : Int32))] [(.ref a1)])) rfl rfl (hb hby d10_36)) ?_
        show Go p.tables e below _ (T0.setTop (mkF m 37 #[.val (.ref a1), .val (.long xx), .second, .val (.int (1 : Int32))] [(.int (3 : Int32))]))
        refine Go.by (fun _ => XS.iconst X0.here hx rfl (hb hby d10_37)) ?_
        show Go p.tables e below _ (T0.setTop (mkF m 38 #[.val (.ref a1), .val (.long xx), .second, .val (.int (1 : Int32))] [(.int (2 : Int32)), (.int (3 : Int32))]))
        refine Go.by (fun _ => XS.icmpNo X0.here hx rfl (hb hby d10_38) rfl (tlt (by decide)).2.2.2) ?_
        show Go p.tables e below _ (T0.setTop (mkF m 41 #[.val (.ref a1), .val (.long xx), .second, .val (.int (1 : Int32))] []))
        refine Go.by (fun _ => XS.aloadN X0.here hx rfl (hb hby d10_41) rfl rfl) ?_
        show Go p.tables e below _ (T0.setTop (mkF m 42 #[.val (.ref a1), .val (.long xx), .second, .val (.int (1 : Int32))] [(.ref a1)]))
        refine Go.by (fun _ => XS.iconst X0.here hx rfl (hb hby d10_42)) ?_
        show Go p.tables e below _ (T0.setTop (mkF m 43 #[.val (.ref a1), .val (.long xx), .second, .val (.int (1 : Int32))] [(.int (2 : Int32)), (.ref a1)]))
        refine Go.by (X0.ldJ hx hZ V1 (by decide) (i := 2) rfl (by decide) (v := (.long e2)) rfl (g := (mkF m 43 #[.val (.ref a1), .val (.long xx), .second, .val (.int (1 : Int32))] [(.int (2 : Int32)), (.ref a1)])) rfl rfl (hb hby d10_43)) ?_
        show Go p.tables e below _ (T0.setTop (mkF m 44 #[.val (.ref a1), .val (.long xx), .second, .val (.int (1 : Int32))] [(.long e2)]))
        refine Go.by (fun _ => XS.lloadN X0.here hx rfl (hb hby d10_44) rfl) ?_
        show Go p.tables e below _ (T0.setTop (mkF m 45 #[.val (.ref a1), .val (.long xx), .second, .val (.int (1 : Int32))] [(.long xx), (.long e2)]))
        refine Go.by (fun _ => XS.lcmp X0.here hx rfl (hb hby d10_45) rfl) ?_
        show Go p.tables e below _ (T0.setTop (mkF m 46 #[.val (.ref a1), .val (.long xx), .second, .val (.int (1 : Int32))] [(.int (lcmpW e2 xx))]))
        by_cases hc46_10 : (lcmpW e2 xx) = (0 : Int32)
        · skip
          refine Go.by (fun _ => XS.ifNo X0.here hx rfl (hb hby d10_46) rfl ((if0 _ _).trans (teq hc46_10).2)) ?_
          show Go p.tables e below _ (T0.setTop (mkF m 49 #[.val (.ref a1), .val (.long xx), .second, .val (.int (1 : Int32))] []))
          refine Go.by (fun _ => XS.iinc X0.here hx rfl (hb hby d10_49) rfl (l' := #[.val (.ref a1), .val (.long xx), .second, .val (.int (2 : Int32))]) rfl) ?_
          show Go p.tables e below _ (T0.setTop (mkF m 52 #[.val (.ref a1), .val (.long xx), .second, .val (.int (2 : Int32))] []))
          refine Go.by (fun _ => XS.iloadN X0.here hx rfl (hb hby d10_52) rfl) ?_
          show Go p.tables e below _ (T0.setTop (mkF m 53 #[.val (.ref a1), .val (.long xx), .second, .val (.int (2 : Int32))] [(.int (2 : Int32))]))
          refine Go.retI X0 hx hlk hret (hb hby d10_53) (by decide) (by decide) ?_
          simp only [lw_eq] at hc12_5 hc29_9 hc46_10
          have ec : ([e0, e1, e2]).count xx = 2 := by simp [List.count_cons, hc12_5, hc29_9, hc46_10]
          rw [ec]
          exact ⟨rfl, rfl⟩
        · skip
          refine Go.by (fun _ => XS.ifYes X0.here hx rfl (pc0 := 46) (pc' := 52) rfl (hb hby d10_46) rfl ((if0 _ _).trans (feq hc46_10).2) (by decide) (by decide)) ?_
          show Go p.tables e below _ (T0.setTop (mkF m 52 #[.val (.ref a1), .val (.long xx), .second, .val (.int (1 : Int32))] []))
          refine Go.by (fun _ => XS.iloadN X0.here hx rfl (hb hby d10_52) rfl) ?_
          show Go p.tables e below _ (T0.setTop (mkF m 53 #[.val (.ref a1), .val (.long xx), .second, .val (.int (1 : Int32))] [(.int (1 : Int32))]))
          refine Go.retI X0 hx hlk hret (hb hby d10_53) (by decide) (by decide) ?_
          simp only [lw_eq] at hc12_5 hc29_9 hc46_10
          have ec : ([e0, e1, e2]).count xx = 1 := by simp [List.count_cons, hc12_5, hc29_9, hc46_10]
          rw [ec]
          exact ⟨rfl, rfl⟩
      · skip
        refine Go.by (fun _ => XS.ifYes X0.here hx rfl (pc0 := 29) (pc' := 35) rfl (hb hby d10_29) rfl ((if0 _ _).trans (feq hc29_9).2) (by decide) (by decide)) ?_
        show Go p.tables e below _ (T0.setTop (mkF m 35 #[.val (.ref a1), .val (.long xx), .second, .val (.int (0 : Int32))] []))
        refine Go.by (fun _ => XS.aloadN X0.here hx rfl (hb hby d10_35) rfl rfl) ?_
        show Go p.tables e below _ (T0.setTop (mkF m 36 #[.val (.ref a1), .val (.long xx), .second, .val (.int (0 : Int32))] [(.ref a1)]))
        refine Go.by (X0.len hx hZ V1 (z := (3 : Int32)) rfl (g := (mkF m 36 #[.val (.ref a1), .val (.long xx), .second, .val (.int (0 : Int32))] [(.ref a1)])) rfl rfl (hb hby d10_36)) ?_
        show Go p.tables e below _ (T0.setTop (mkF m 37 #[.val (.ref a1), .val (.long xx), .second, .val (.int (0 : Int32))] [(.int (3 : Int32))]))
        refine Go.by (fun _ => XS.iconst X0.here hx rfl (hb hby d10_37)) ?_
        show Go p.tables e below _ (T0.setTop (mkF m 38 #[.val (.ref a1), .val (.long xx), .second, .val (.int (0 : Int32))] [(.int (2 : Int32)), (.int (3 : Int32))]))
        refine Go.by (fun _ => XS.icmpNo X0.here hx rfl (hb hby d10_38) rfl (tlt (by decide)).2.2.2) ?_
        show Go p.tables e below _ (T0.setTop (mkF m 41 #[.val (.ref a1), .val (.long xx), .second, .val (.int (0 : Int32))] []))
        refine Go.by (fun _ => XS.aloadN X0.here hx rfl (hb hby d10_41) rfl rfl) ?_
        show Go p.tables e below _ (T0.setTop (mkF m 42 #[.val (.ref a1), .val (.long xx), .second, .val (.int (0 : Int32))] [(.ref a1)]))
        refine Go.by (fun _ => XS.iconst X0.here hx rfl (hb hby d10_42)) ?_
        show Go p.tables e below _ (T0.setTop (mkF m 43 #[.val (.ref a1), .val (.long xx), .second, .val (.int (0 : Int32))] [(.int (2 : Int32)), (.ref a1)]))
        refine Go.by (X0.ldJ hx hZ V1 (by decide) (i := 2) rfl (by decide) (v := (.long e2)) rfl (g := (mkF m 43 #[.val (.ref a1), .val (.long xx), .second, .val (.int (0 : Int32))] [(.int (2 : Int32)), (.ref a1)])) rfl rfl (hb hby d10_43)) ?_
        show Go p.tables e below _ (T0.setTop (mkF m 44 #[.val (.ref a1), .val (.long xx), .second, .val (.int (0 : Int32))] [(.long e2)]))
        refine Go.by (fun _ => XS.lloadN X0.here hx rfl (hb hby d10_44) rfl) ?_
        show Go p.tables e below _ (T0.setTop (mkF m 45 #[.val (.ref a1), .val (.long xx), .second, .val (.int (0 : Int32))] [(.long xx), (.long e2)]))
        refine Go.by (fun _ => XS.lcmp X0.here hx rfl (hb hby d10_45) rfl) ?_
        show Go p.tables e below _ (T0.setTop (mkF m 46 #[.val (.ref a1), .val (.long xx), .second, .val (.int (0 : Int32))] [(.int (lcmpW e2 xx))]))
        by_cases hc46_11 : (lcmpW e2 xx) = (0 : Int32)
        · skip
          refine Go.by (fun _ => XS.ifNo X0.here hx rfl (hb hby d10_46) rfl ((if0 _ _).trans (teq hc46_11).2)) ?_
          show Go p.tables e below _ (T0.setTop (mkF m 49 #[.val (.ref a1), .val (.long xx), .second, .val (.int (0 : Int32))] []))
          refine Go.by (fun _ => XS.iinc X0.here hx rfl (hb hby d10_49) rfl (l' := #[.val (.ref a1), .val (.long xx), .second, .val (.int (1 : Int32))]) rfl) ?_
          show Go p.tables e below _ (T0.setTop (mkF m 52 #[.val (.ref a1), .val (.long xx), .second, .val (.int (1 : Int32))] []))
          refine Go.by (fun _ => XS.iloadN X0.here hx rfl (hb hby d10_52) rfl) ?_
          show Go p.tables e below _ (T0.setTop (mkF m 53 #[.val (.ref a1), .val (.long xx), .second, .val (.int (1 : Int32))] [(.int (1 : Int32))]))
          refine Go.retI X0 hx hlk hret (hb hby d10_53) (by decide) (by decide) ?_
          simp only [lw_eq] at hc12_5 hc29_9 hc46_11
          have ec : ([e0, e1, e2]).count xx = 1 := by simp [List.count_cons, hc12_5, hc29_9, hc46_11]
          rw [ec]
          exact ⟨rfl, rfl⟩
        · skip
          refine Go.by (fun _ => XS.ifYes X0.here hx rfl (pc0 := 46) (pc' := 52) rfl (hb hby d10_46) rfl ((if0 _ _).trans (feq hc46_11).2) (by decide) (by decide)) ?_
          show Go p.tables e below _ (T0.setTop (mkF m 52 #[.val (.ref a1), .val (.long xx), .second, .val (.int (0 : Int32))] []))
          refine Go.by (fun _ => XS.iloadN X0.here hx rfl (hb hby d10_52) rfl) ?_
          show Go p.tables e below _ (T0.setTop (mkF m 53 #[.val (.ref a1), .val (.long xx), .second, .val (.int (0 : Int32))] [(.int (0 : Int32))]))
          refine Go.retI X0 hx hlk hret (hb hby d10_53) (by decide) (by decide) ?_
          simp only [lw_eq] at hc12_5 hc29_9 hc46_11
          have ec : ([e0, e1, e2]).count xx = 0 := by simp [List.count_cons, hc12_5, hc29_9, hc46_11]
          rw [ec]
          exact ⟨rfl, rfl⟩
  · simp at hl3
theorem d9_0 : decode method_4_code 0 = .ok (.iload_n 2, 1) := by decide +kernel
theorem d9_1 : decode method_4_code 1 = .ok (.ifCond .eq 9, 3) := by decide +kernel
theorem d9_10 : decode method_4_code 10 = .ok (.iload 5, 2) := by decide +kernel
theorem d9_12 : decode method_4_code 12 = .ok (.ifCond .eq 10, 3) := by decide +kernel
theorem d9_22 : decode method_4_code 22 = .ok (.iload 8, 2) := by decide +kernel
theorem d9_24 : decode method_4_code 24 = .ok (.ifCond .eq 14, 3) := by decide +kernel
theorem d9_38 : decode method_4_code 38 = .ok (.iconst 0, 1) := by decide +kernel
theorem d9_39 : decode method_4_code 39 = .ok (.istore 14, 2) := by decide +kernel
theorem d9_41 : decode method_4_code 41 = .ok (.iload 14, 2) := by decide +kernel
theorem d9_43 : decode method_4_code 43 = .ok (.ifCond .eq 19, 3) := by decide +kernel
theorem d9_62 : decode method_4_code 62 = .ok (.iconst 0, 1) := by decide +kernel
theorem d9_63 : decode method_4_code 63 = .ok (.ireturn, 1) := by decide +kernel
theorem d9_27 : decode method_4_code 27 = .ok (.lload 9, 2) := by decide +kernel
theorem d9_29 : decode method_4_code 29 = .ok (.lload_n 0, 1) := by decide +kernel
theorem d9_30 : decode method_4_code 30 = .ok (.lcmp, 1) := by decide +kernel
theorem d9_31 : decode method_4_code 31 = .ok (.ifCond .ne 7, 3) := by decide +kernel
theorem d9_34 : decode method_4_code 34 = .ok (.iconst 1, 1) := by decide +kernel
theorem d9_35 : decode method_4_code 35 = .ok (.goto 4, 3) := by decide +kernel
theorem d9_46 : decode method_4_code 46 = .ok (.iload 11, 2) := by decide +kernel
theorem d9_48 : decode method_4_code 48 = .ok (.ifCond .eq 10, 3) := by decide +kernel
theorem d9_58 : decode method_4_code 58 = .ok (.iconst 1, 1) := by decide +kernel
theorem d9_59 : decode method_4_code 59 = .ok (.goto 4, 3) := by decide +kernel
theorem d9_51 : decode method_4_code 51 = .ok (.lload 12, 2) := by decide +kernel
theorem d9_53 : decode method_4_code 53 = .ok (.lload_n 0, 1) := by decide +kernel
theorem d9_54 : decode method_4_code 54 = .ok (.lcmp, 1) := by decide +kernel
theorem d9_55 : decode method_4_code 55 = .ok (.ifCond .eq 7, 3) := by decide +kernel
theorem d9_15 : decode method_4_code 15 = .ok (.lload 6, 2) := by decide +kernel
theorem d9_17 : decode method_4_code 17 = .ok (.lload_n 0, 1) := by decide +kernel
theorem d9_18 : decode method_4_code 18 = .ok (.lcmp, 1) := by decide +kernel
theorem d9_19 : decode method_4_code 19 = .ok (.ifCond .eq 15, 3) := by decide +kernel
theorem d9_4 : decode method_4_code 4 = .ok (.lload_n 3, 1) := by decide +kernel
theorem d9_5 : decode method_4_code 5 = .ok (.lload_n 0, 1) := by decide +kernel
theorem d9_6 : decode method_4_code 6 = .ok (.lcmp, 1) := by decide +kernel
theorem d9_7 : decode method_4_code 7 = .ok (.ifCond .eq 27, 3) := by decide +kernel
abbrev Rm9 : Room := { frames := 0, cells := 0, slots := 0, locals := 0 }
set_option maxRecDepth 65536 in
set_option maxHeartbeats 40000000 in
theorem rm9 (l : Launch) (Z : State) (a0 : Array Value) (hw : ∀ d ∈ tables_1, d.before a0 Z = true) (ws : List Jvm.Cond) (xx : Int64) (f1 : Int32) (k1 : Int64) (f2 : Int32) (k2 : Int64) (f3 : Int32) (k3 : Int64) (f4 : Int32) (k4 : Int64) (h0 : Heap) (n0 : Nat) (Z0 : n0 ≤ h0.size) :
    Met l Z n0 (⟨"com/example/shrike/shrike/store/LongMapKeysPinLaw", "present", "(JZJZJZJZJ)Z"⟩ : MethodName) method_4_code 15 (some .boolean) ws Rm9 #[(.long xx), (.int f1), (.long k1), (.int f2), (.long k2), (.int f3), (.long k3), (.int f4), (.long k4)] h0 (fun v h => v = some (.int (pz xx f1 k1 f2 k2 f3 k3 f4 k4)) ∧ h0 = h) := by
  refine enter (Ls := #[.val (.long xx), .second, .val (.int f1), .val (.long k1), .second, .val (.int f2), .val (.long k2), .second, .val (.int f3), .val (.long k3), .second, .val (.int f4), .val (.long k4), .second, .unset]) (plainFor_of_name pn0) (fun m => by first | (simp [entryFrame, mkF, argsToLocals, Value.category]; done) | rfl) ?_
  intro p e s m below meth c T0 hx hby hml hown hnm hret hlk hZ X0
  show Go p.tables e below _ (T0.setTop (mkF m 0 #[.val (.long xx), .second, .val (.int f1), .val (.long k1), .second, .val (.int f2), .val (.long k2), .second, .val (.int f3), .val (.long k3), .second, .val (.int f4), .val (.long k4), .second, .unset] []))
  refine Go.by (fun _ => XS.iloadN X0.here hx rfl (hb hby d9_0) rfl) ?_
  show Go p.tables e below _ (T0.setTop (mkF m 1 #[.val (.long xx), .second, .val (.int f1), .val (.long k1), .second, .val (.int f2), .val (.long k2), .second, .val (.int f3), .val (.long k3), .second, .val (.int f4), .val (.long k4), .second, .unset] [(.int f1)]))
  by_cases hc1_1 : f1 = (0 : Int32)
  · skip
    refine Go.by (fun _ => XS.ifYes X0.here hx rfl (pc0 := 1) (pc' := 10) rfl (hb hby d9_1) rfl ((if0 _ _).trans (teq hc1_1).1) (by decide) (by decide)) ?_
    show Go p.tables e below _ (T0.setTop (mkF m 10 #[.val (.long xx), .second, .val (.int f1), .val (.long k1), .second, .val (.int f2), .val (.long k2), .second, .val (.int f3), .val (.long k3), .second, .val (.int f4), .val (.long k4), .second, .unset] []))
    refine Go.by (fun _ => XS.iload X0.here hx rfl (hb hby d9_10) rfl) ?_
    show Go p.tables e below _ (T0.setTop (mkF m 12 #[.val (.long xx), .second, .val (.int f1), .val (.long k1), .second, .val (.int f2), .val (.long k2), .second, .val (.int f3), .val (.long k3), .second, .val (.int f4), .val (.long k4), .second, .unset] [(.int f2)]))
    by_cases hc12_2 : f2 = (0 : Int32)
    · skip
      refine Go.by (fun _ => XS.ifYes X0.here hx rfl (pc0 := 12) (pc' := 22) rfl (hb hby d9_12) rfl ((if0 _ _).trans (teq hc12_2).1) (by decide) (by decide)) ?_
      show Go p.tables e below _ (T0.setTop (mkF m 22 #[.val (.long xx), .second, .val (.int f1), .val (.long k1), .second, .val (.int f2), .val (.long k2), .second, .val (.int f3), .val (.long k3), .second, .val (.int f4), .val (.long k4), .second, .unset] []))
      refine Go.by (fun _ => XS.iload X0.here hx rfl (hb hby d9_22) rfl) ?_
      show Go p.tables e below _ (T0.setTop (mkF m 24 #[.val (.long xx), .second, .val (.int f1), .val (.long k1), .second, .val (.int f2), .val (.long k2), .second, .val (.int f3), .val (.long k3), .second, .val (.int f4), .val (.long k4), .second, .unset] [(.int f3)]))
      by_cases hc24_3 : f3 = (0 : Int32)
      · skip
        refine Go.by (fun _ => XS.ifYes X0.here hx rfl (pc0 := 24) (pc' := 38) rfl (hb hby d9_24) rfl ((if0 _ _).trans (teq hc24_3).1) (by decide) (by decide)) ?_
        show Go p.tables e below _ (T0.setTop (mkF m 38 #[.val (.long xx), .second, .val (.int f1), .val (.long k1), .second, .val (.int f2), .val (.long k2), .second, .val (.int f3), .val (.long k3), .second, .val (.int f4), .val (.long k4), .second, .unset] []))
        refine Go.by (fun _ => XS.iconst X0.here hx rfl (hb hby d9_38)) ?_
        show Go p.tables e below _ (T0.setTop (mkF m 39 #[.val (.long xx), .second, .val (.int f1), .val (.long k1), .second, .val (.int f2), .val (.long k2), .second, .val (.int f3), .val (.long k3), .second, .val (.int f4), .val (.long k4), .second, .unset] [(.int (0 : Int32))]))
        refine Go.by (fun _ => XS.istore X0.here hx rfl (hb hby d9_39) rfl (l' := #[.val (.long xx), .second, .val (.int f1), .val (.long k1), .second, .val (.int f2), .val (.long k2), .second, .val (.int f3), .val (.long k3), .second, .val (.int f4), .val (.long k4), .second, .val (.int (0 : Int32))]) rfl) ?_
        show Go p.tables e below _ (T0.setTop (mkF m 41 #[.val (.long xx), .second, .val (.int f1), .val (.long k1), .second, .val (.int f2), .val (.long k2), .second, .val (.int f3), .val (.long k3), .second, .val (.int f4), .val (.long k4), .second, .val (.int (0 : Int32))] []))
        refine Go.by (fun _ => XS.iload X0.here hx rfl (hb hby d9_41) rfl) ?_
        show Go p.tables e below _ (T0.setTop (mkF m 43 #[.val (.long xx), .second, .val (.int f1), .val (.long k1), .second, .val (.int f2), .val (.long k2), .second, .val (.int f3), .val (.long k3), .second, .val (.int f4), .val (.long k4), .second, .val (.int (0 : Int32))] [(.int (0 : Int32))]))
        refine Go.by (fun _ => XS.ifYes X0.here hx rfl (pc0 := 43) (pc' := 62) rfl (hb hby d9_43) rfl ((if0 _ _).trans (teq (by decide)).1) (by decide) (by decide)) ?_
        show Go p.tables e below _ (T0.setTop (mkF m 62 #[.val (.long xx), .second, .val (.int f1), .val (.long k1), .second, .val (.int f2), .val (.long k2), .second, .val (.int f3), .val (.long k3), .second, .val (.int f4), .val (.long k4), .second, .val (.int (0 : Int32))] []))
        refine Go.by (fun _ => XS.iconst X0.here hx rfl (hb hby d9_62)) ?_
        show Go p.tables e below _ (T0.setTop (mkF m 63 #[.val (.long xx), .second, .val (.int f1), .val (.long k1), .second, .val (.int f2), .val (.long k2), .second, .val (.int f3), .val (.long k3), .second, .val (.int f4), .val (.long k4), .second, .val (.int (0 : Int32))] [(.int (0 : Int32))]))
        refine Go.retN X0 hx hlk (z' := (0 : Int32)) hret (by simp) (hb hby d9_63) rfl (by decide) (by decide) ?_
        have ec : pz xx f1 k1 f2 k2 f3 k3 f4 k4 = 0 := by
          unfold pz
          rw [if_neg (by simp [hc1_1, hc12_2, hc24_3])]
        rw [ec]
        exact ⟨rfl, rfl⟩
      · skip
        refine Go.by (fun _ => XS.ifNo X0.here hx rfl (hb hby d9_24) rfl ((if0 _ _).trans (feq hc24_3).1)) ?_
        show Go p.tables e below _ (T0.setTop (mkF m 27 #[.val (.long xx), .second, .val (.int f1), .val (.long k1), .second, .val (.int f2), .val (.long k2), .second, .val (.int f3), .val (.long k3), .second, .val (.int f4), .val (.long k4), .second, .unset] []))
        refine Go.by (fun _ => XS.lload X0.here hx rfl (hb hby d9_27) rfl) ?_
        show Go p.tables e below _ (T0.setTop (mkF m 29 #[.val (.long xx), .second, .val (.int f1), .val (.long k1), .second, .val (.int f2), .val (.long k2), .second, .val (.int f3), .val (.long k3), .second, .val (.int f4), .val (.long k4), .second, .unset] [(.long k3)]))
        refine Go.by (fun _ => XS.lloadN X0.here hx rfl (hb hby d9_29) rfl) ?_
        show Go p.tables e below _ (T0.setTop (mkF m 30 #[.val (.long xx), .second, .val (.int f1), .val (.long k1), .second, .val (.int f2), .val (.long k2), .second, .val (.int f3), .val (.long k3), .second, .val (.int f4), .val (.long k4), .second, .unset] [(.long xx), (.long k3)]))
        refine Go.by (fun _ => XS.lcmp X0.here hx rfl (hb hby d9_30) rfl) ?_
        show Go p.tables e below _ (T0.setTop (mkF m 31 #[.val (.long xx), .second, .val (.int f1), .val (.long k1), .second, .val (.int f2), .val (.long k2), .second, .val (.int f3), .val (.long k3), .second, .val (.int f4), .val (.long k4), .second, .unset] [(.int (lcmpW k3 xx))]))
        by_cases hc31_4 : (lcmpW k3 xx) = (0 : Int32)
        · skip
          refine Go.by (fun _ => XS.ifNo X0.here hx rfl (hb hby d9_31) rfl ((if0 _ _).trans (teq hc31_4).2)) ?_
          show Go p.tables e below _ (T0.setTop (mkF m 34 #[.val (.long xx), .second, .val (.int f1), .val (.long k1), .second, .val (.int f2), .val (.long k2), .second, .val (.int f3), .val (.long k3), .second, .val (.int f4), .val (.long k4), .second, .unset] []))
          refine Go.by (fun _ => XS.iconst X0.here hx rfl (hb hby d9_34)) ?_
          show Go p.tables e below _ (T0.setTop (mkF m 35 #[.val (.long xx), .second, .val (.int f1), .val (.long k1), .second, .val (.int f2), .val (.long k2), .second, .val (.int f3), .val (.long k3), .second, .val (.int f4), .val (.long k4), .second, .unset] [(.int (1 : Int32))]))
          refine Go.by (fun _ => XS.goto X0.here hx rfl (pc0 := 35) (pc' := 39) rfl (hb hby d9_35) (by decide) (by decide)) ?_
          show Go p.tables e below _ (T0.setTop (mkF m 39 #[.val (.long xx), .second, .val (.int f1), .val (.long k1), .second, .val (.int f2), .val (.long k2), .second, .val (.int f3), .val (.long k3), .second, .val (.int f4), .val (.long k4), .second, .unset] [(.int (1 : Int32))]))
          refine Go.by (fun _ => XS.istore X0.here hx rfl (hb hby d9_39) rfl (l' := #[.val (.long xx), .second, .val (.int f1), .val (.long k1), .second, .val (.int f2), .val (.long k2), .second, .val (.int f3), .val (.long k3), .second, .val (.int f4), .val (.long k4), .second, .val (.int (1 : Int32))]) rfl) ?_
          show Go p.tables e below _ (T0.setTop (mkF m 41 #[.val (.long xx), .second, .val (.int f1), .val (.long k1), .second, .val (.int f2), .val (.long k2), .second, .val (.int f3), .val (.long k3), .second, .val (.int f4), .val (.long k4), .second, .val (.int (1 : Int32))] []))
          refine Go.by (fun _ => XS.iload X0.here hx rfl (hb hby d9_41) rfl) ?_
          show Go p.tables e below _ (T0.setTop (mkF m 43 #[.val (.long xx), .second, .val (.int f1), .val (.long k1), .second, .val (.int f2), .val (.long k2), .second, .val (.int f3), .val (.long k3), .second, .val (.int f4), .val (.long k4), .second, .val (.int (1 : Int32))] [(.int (1 : Int32))]))
          refine Go.by (fun _ => XS.ifNo X0.here hx rfl (hb hby d9_43) rfl ((if0 _ _).trans (feq (by decide)).1)) ?_
          show Go p.tables e below _ (T0.setTop (mkF m 46 #[.val (.long xx), .second, .val (.int f1), .val (.long k1), .second, .val (.int f2), .val (.long k2), .second, .val (.int f3), .val (.long k3), .second, .val (.int f4), .val (.long k4), .second, .val (.int (1 : Int32))] []))
          refine Go.by (fun _ => XS.iload X0.here hx rfl (hb hby d9_46) rfl) ?_
          show Go p.tables e below _ (T0.setTop (mkF m 48 #[.val (.long xx), .second, .val (.int f1), .val (.long k1), .second, .val (.int f2), .val (.long k2), .second, .val (.int f3), .val (.long k3), .second, .val (.int f4), .val (.long k4), .second, .val (.int (1 : Int32))] [(.int f4)]))
          by_cases hc48_5 : f4 = (0 : Int32)
          · skip
            refine Go.by (fun _ => XS.ifYes X0.here hx rfl (pc0 := 48) (pc' := 58) rfl (hb hby d9_48) rfl ((if0 _ _).trans (teq hc48_5).1) (by decide) (by decide)) ?_
            show Go p.tables e below _ (T0.setTop (mkF m 58 #[.val (.long xx), .second, .val (.int f1), .val (.long k1), .second, .val (.int f2), .val (.long k2), .second, .val (.int f3), .val (.long k3), .second, .val (.int f4), .val (.long k4), .second, .val (.int (1 : Int32))] []))
            refine Go.by (fun _ => XS.iconst X0.here hx rfl (hb hby d9_58)) ?_
            show Go p.tables e below _ (T0.setTop (mkF m 59 #[.val (.long xx), .second, .val (.int f1), .val (.long k1), .second, .val (.int f2), .val (.long k2), .second, .val (.int f3), .val (.long k3), .second, .val (.int f4), .val (.long k4), .second, .val (.int (1 : Int32))] [(.int (1 : Int32))]))
            refine Go.by (fun _ => XS.goto X0.here hx rfl (pc0 := 59) (pc' := 63) rfl (hb hby d9_59) (by decide) (by decide)) ?_
            show Go p.tables e below _ (T0.setTop (mkF m 63 #[.val (.long xx), .second, .val (.int f1), .val (.long k1), .second, .val (.int f2), .val (.long k2), .second, .val (.int f3), .val (.long k3), .second, .val (.int f4), .val (.long k4), .second, .val (.int (1 : Int32))] [(.int (1 : Int32))]))
            refine Go.retN X0 hx hlk (z' := (1 : Int32)) hret (by simp) (hb hby d9_63) rfl (by decide) (by decide) ?_
            simp only [lw_eq] at hc31_4
            have ec : pz xx f1 k1 f2 k2 f3 k3 f4 k4 = 1 := by
              unfold pz
              rw [if_pos (by simp [hc1_1, hc12_2, hc24_3, hc31_4, hc48_5])]
            rw [ec]
            exact ⟨rfl, rfl⟩
          · skip
            refine Go.by (fun _ => XS.ifNo X0.here hx rfl (hb hby d9_48) rfl ((if0 _ _).trans (feq hc48_5).1)) ?_
            show Go p.tables e below _ (T0.setTop (mkF m 51 #[.val (.long xx), .second, .val (.int f1), .val (.long k1), .second, .val (.int f2), .val (.long k2), .second, .val (.int f3), .val (.long k3), .second, .val (.int f4), .val (.long k4), .second, .val (.int (1 : Int32))] []))
            refine Go.by (fun _ => XS.lload X0.here hx rfl (hb hby d9_51) rfl) ?_
            show Go p.tables e below _ (T0.setTop (mkF m 53 #[.val (.long xx), .second, .val (.int f1), .val (.long k1), .second, .val (.int f2), .val (.long k2), .second, .val (.int f3), .val (.long k3), .second, .val (.int f4), .val (.long k4), .second, .val (.int (1 : Int32))] [(.long k4)]))
            refine Go.by (fun _ => XS.lloadN X0.here hx rfl (hb hby d9_53) rfl) ?_
            show Go p.tables e below _ (T0.setTop (mkF m 54 #[.val (.long xx), .second, .val (.int f1), .val (.long k1), .second, .val (.int f2), .val (.long k2), .second, .val (.int f3), .val (.long k3), .second, .val (.int f4), .val (.long k4), .second, .val (.int (1 : Int32))] [(.long xx), (.long k4)]))
            refine Go.by (fun _ => XS.lcmp X0.here hx rfl (hb hby d9_54) rfl) ?_
            show Go p.tables e below _ (T0.setTop (mkF m 55 #[.val (.long xx), .second, .val (.int f1), .val (.long k1), .second, .val (.int f2), .val (.long k2), .second, .val (.int f3), .val (.long k3), .second, .val (.int f4), .val (.long k4), .second, .val (.int (1 : Int32))] [(.int (lcmpW k4 xx))]))
            by_cases hc55_6 : (lcmpW k4 xx) = (0 : Int32)
            · skip
              refine Go.by (fun _ => XS.ifYes X0.here hx rfl (pc0 := 55) (pc' := 62) rfl (hb hby d9_55) rfl ((if0 _ _).trans (teq hc55_6).1) (by decide) (by decide)) ?_
              show Go p.tables e below _ (T0.setTop (mkF m 62 #[.val (.long xx), .second, .val (.int f1), .val (.long k1), .second, .val (.int f2), .val (.long k2), .second, .val (.int f3), .val (.long k3), .second, .val (.int f4), .val (.long k4), .second, .val (.int (1 : Int32))] []))
              refine Go.by (fun _ => XS.iconst X0.here hx rfl (hb hby d9_62)) ?_
              show Go p.tables e below _ (T0.setTop (mkF m 63 #[.val (.long xx), .second, .val (.int f1), .val (.long k1), .second, .val (.int f2), .val (.long k2), .second, .val (.int f3), .val (.long k3), .second, .val (.int f4), .val (.long k4), .second, .val (.int (1 : Int32))] [(.int (0 : Int32))]))
              refine Go.retN X0 hx hlk (z' := (0 : Int32)) hret (by simp) (hb hby d9_63) rfl (by decide) (by decide) ?_
              simp only [lw_eq] at hc31_4 hc55_6
              have ec : pz xx f1 k1 f2 k2 f3 k3 f4 k4 = 0 := by
                unfold pz
                rw [if_neg (by simp [hc1_1, hc12_2, hc24_3, hc31_4, hc48_5, hc55_6])]
              rw [ec]
              exact ⟨rfl, rfl⟩
            · skip
              refine Go.by (fun _ => XS.ifNo X0.here hx rfl (hb hby d9_55) rfl ((if0 _ _).trans (feq hc55_6).1)) ?_
              show Go p.tables e below _ (T0.setTop (mkF m 58 #[.val (.long xx), .second, .val (.int f1), .val (.long k1), .second, .val (.int f2), .val (.long k2), .second, .val (.int f3), .val (.long k3), .second, .val (.int f4), .val (.long k4), .second, .val (.int (1 : Int32))] []))
              refine Go.by (fun _ => XS.iconst X0.here hx rfl (hb hby d9_58)) ?_
              show Go p.tables e below _ (T0.setTop (mkF m 59 #[.val (.long xx), .second, .val (.int f1), .val (.long k1), .second, .val (.int f2), .val (.long k2), .second, .val (.int f3), .val (.long k3), .second, .val (.int f4), .val (.long k4), .second, .val (.int (1 : Int32))] [(.int (1 : Int32))]))
              refine Go.by (fun _ => XS.goto X0.here hx rfl (pc0 := 59) (pc' := 63) rfl (hb hby d9_59) (by decide) (by decide)) ?_
              show Go p.tables e below _ (T0.setTop (mkF m 63 #[.val (.long xx), .second, .val (.int f1), .val (.long k1), .second, .val (.int f2), .val (.long k2), .second, .val (.int f3), .val (.long k3), .second, .val (.int f4), .val (.long k4), .second, .val (.int (1 : Int32))] [(.int (1 : Int32))]))
              refine Go.retN X0 hx hlk (z' := (1 : Int32)) hret (by simp) (hb hby d9_63) rfl (by decide) (by decide) ?_
              simp only [lw_eq] at hc31_4 hc55_6
              have ec : pz xx f1 k1 f2 k2 f3 k3 f4 k4 = 1 := by
                unfold pz
                rw [if_pos (by simp [hc1_1, hc12_2, hc24_3, hc31_4, hc48_5, hc55_6])]
              rw [ec]
              exact ⟨rfl, rfl⟩
        · skip
          refine Go.by (fun _ => XS.ifYes X0.here hx rfl (pc0 := 31) (pc' := 38) rfl (hb hby d9_31) rfl ((if0 _ _).trans (feq hc31_4).2) (by decide) (by decide)) ?_
          show Go p.tables e below _ (T0.setTop (mkF m 38 #[.val (.long xx), .second, .val (.int f1), .val (.long k1), .second, .val (.int f2), .val (.long k2), .second, .val (.int f3), .val (.long k3), .second, .val (.int f4), .val (.long k4), .second, .unset] []))
          refine Go.by (fun _ => XS.iconst X0.here hx rfl (hb hby d9_38)) ?_
          show Go p.tables e below _ (T0.setTop (mkF m 39 #[.val (.long xx), .second, .val (.int f1), .val (.long k1), .second, .val (.int f2), .val (.long k2), .second, .val (.int f3), .val (.long k3), .second, .val (.int f4), .val (.long k4), .second, .unset] [(.int (0 : Int32))]))
          refine Go.by (fun _ => XS.istore X0.here hx rfl (hb hby d9_39) rfl (l' := #[.val (.long xx), .second, .val (.int f1), .val (.long k1), .second, .val (.int f2), .val (.long k2), .second, .val (.int f3), .val (.long k3), .second, .val (.int f4), .val (.long k4), .second, .val (.int (0 : Int32))]) rfl) ?_
          show Go p.tables e below _ (T0.setTop (mkF m 41 #[.val (.long xx), .second, .val (.int f1), .val (.long k1), .second, .val (.int f2), .val (.long k2), .second, .val (.int f3), .val (.long k3), .second, .val (.int f4), .val (.long k4), .second, .val (.int (0 : Int32))] []))
          refine Go.by (fun _ => XS.iload X0.here hx rfl (hb hby d9_41) rfl) ?_
          show Go p.tables e below _ (T0.setTop (mkF m 43 #[.val (.long xx), .second, .val (.int f1), .val (.long k1), .second, .val (.int f2), .val (.long k2), .second, .val (.int f3), .val (.long k3), .second, .val (.int f4), .val (.long k4), .second, .val (.int (0 : Int32))] [(.int (0 : Int32))]))
          refine Go.by (fun _ => XS.ifYes X0.here hx rfl (pc0 := 43) (pc' := 62) rfl (hb hby d9_43) rfl ((if0 _ _).trans (teq (by decide)).1) (by decide) (by decide)) ?_
          show Go p.tables e below _ (T0.setTop (mkF m 62 #[.val (.long xx), .second, .val (.int f1), .val (.long k1), .second, .val (.int f2), .val (.long k2), .second, .val (.int f3), .val (.long k3), .second, .val (.int f4), .val (.long k4), .second, .val (.int (0 : Int32))] []))
          refine Go.by (fun _ => XS.iconst X0.here hx rfl (hb hby d9_62)) ?_
          show Go p.tables e below _ (T0.setTop (mkF m 63 #[.val (.long xx), .second, .val (.int f1), .val (.long k1), .second, .val (.int f2), .val (.long k2), .second, .val (.int f3), .val (.long k3), .second, .val (.int f4), .val (.long k4), .second, .val (.int (0 : Int32))] [(.int (0 : Int32))]))
          refine Go.retN X0 hx hlk (z' := (0 : Int32)) hret (by simp) (hb hby d9_63) rfl (by decide) (by decide) ?_
          simp only [lw_eq] at hc31_4
          have ec : pz xx f1 k1 f2 k2 f3 k3 f4 k4 = 0 := by
            unfold pz
            rw [if_neg (by simp [hc1_1, hc12_2, hc24_3, hc31_4])]
          rw [ec]
          exact ⟨rfl, rfl⟩
    · skip
      refine Go.by (fun _ => XS.ifNo X0.here hx rfl (hb hby d9_12) rfl ((if0 _ _).trans (feq hc12_2).1)) ?_
      show Go p.tables e below _ (T0.setTop (mkF m 15 #[.val (.long xx), .second, .val (.int f1), .val (.long k1), .second, .val (.int f2), .val (.long k2), .second, .val (.int f3), .val (.long k3), .second, .val (.int f4), .val (.long k4), .second, .unset] []))
      refine Go.by (fun _ => XS.lload X0.here hx rfl (hb hby d9_15) rfl) ?_
      show Go p.tables e below _ (T0.setTop (mkF m 17 #[.val (.long xx), .second, .val (.int f1), .val (.long k1), .second, .val (.int f2), .val (.long k2), .second, .val (.int f3), .val (.long k3), .second, .val (.int f4), .val (.long k4), .second, .unset] [(.long k2)]))
      refine Go.by (fun _ => XS.lloadN X0.here hx rfl (hb hby d9_17) rfl) ?_
      show Go p.tables e below _ (T0.setTop (mkF m 18 #[.val (.long xx), .second, .val (.int f1), .val (.long k1), .second, .val (.int f2), .val (.long k2), .second, .val (.int f3), .val (.long k3), .second, .val (.int f4), .val (.long k4), .second, .unset] [(.long xx), (.long k2)]))
      refine Go.by (fun _ => XS.lcmp X0.here hx rfl (hb hby d9_18) rfl) ?_
      show Go p.tables e below _ (T0.setTop (mkF m 19 #[.val (.long xx), .second, .val (.int f1), .val (.long k1), .second, .val (.int f2), .val (.long k2), .second, .val (.int f3), .val (.long k3), .second, .val (.int f4), .val (.long k4), .second, .unset] [(.int (lcmpW k2 xx))]))
      by_cases hc19_7 : (lcmpW k2 xx) = (0 : Int32)
      · skip
        refine Go.by (fun _ => XS.ifYes X0.here hx rfl (pc0 := 19) (pc' := 34) rfl (hb hby d9_19) rfl ((if0 _ _).trans (teq hc19_7).1) (by decide) (by decide)) ?_
        show Go p.tables e below _ (T0.setTop (mkF m 34 #[.val (.long xx), .second, .val (.int f1), .val (.long k1), .second, .val (.int f2), .val (.long k2), .second, .val (.int f3), .val (.long k3), .second, .val (.int f4), .val (.long k4), .second, .unset] []))
        refine Go.by (fun _ => XS.iconst X0.here hx rfl (hb hby d9_34)) ?_
        show Go p.tables e below _ (T0.setTop (mkF m 35 #[.val (.long xx), .second, .val (.int f1), .val (.long k1), .second, .val (.int f2), .val (.long k2), .second, .val (.int f3), .val (.long k3), .second, .val (.int f4), .val (.long k4), .second, .unset] [(.int (1 : Int32))]))
        refine Go.by (fun _ => XS.goto X0.here hx rfl (pc0 := 35) (pc' := 39) rfl (hb hby d9_35) (by decide) (by decide)) ?_
        show Go p.tables e below _ (T0.setTop (mkF m 39 #[.val (.long xx), .second, .val (.int f1), .val (.long k1), .second, .val (.int f2), .val (.long k2), .second, .val (.int f3), .val (.long k3), .second, .val (.int f4), .val (.long k4), .second, .unset] [(.int (1 : Int32))]))
        refine Go.by (fun _ => XS.istore X0.here hx rfl (hb hby d9_39) rfl (l' := #[.val (.long xx), .second, .val (.int f1), .val (.long k1), .second, .val (.int f2), .val (.long k2), .second, .val (.int f3), .val (.long k3), .second, .val (.int f4), .val (.long k4), .second, .val (.int (1 : Int32))]) rfl) ?_
        show Go p.tables e below _ (T0.setTop (mkF m 41 #[.val (.long xx), .second, .val (.int f1), .val (.long k1), .second, .val (.int f2), .val (.long k2), .second, .val (.int f3), .val (.long k3), .second, .val (.int f4), .val (.long k4), .second, .val (.int (1 : Int32))] []))
        refine Go.by (fun _ => XS.iload X0.here hx rfl (hb hby d9_41) rfl) ?_
        show Go p.tables e below _ (T0.setTop (mkF m 43 #[.val (.long xx), .second, .val (.int f1), .val (.long k1), .second, .val (.int f2), .val (.long k2), .second, .val (.int f3), .val (.long k3), .second, .val (.int f4), .val (.long k4), .second, .val (.int (1 : Int32))] [(.int (1 : Int32))]))
        refine Go.by (fun _ => XS.ifNo X0.here hx rfl (hb hby d9_43) rfl ((if0 _ _).trans (feq (by decide)).1)) ?_
        show Go p.tables e below _ (T0.setTop (mkF m 46 #[.val (.long xx), .second, .val (.int f1), .val (.long k1), .second, .val (.int f2), .val (.long k2), .second, .val (.int f3), .val (.long k3), .second, .val (.int f4), .val (.long k4), .second, .val (.int (1 : Int32))] []))
        refine Go.by (fun _ => XS.iload X0.here hx rfl (hb hby d9_46) rfl) ?_
        show Go p.tables e below _ (T0.setTop (mkF m 48 #[.val (.long xx), .second, .val (.int f1), .val (.long k1), .second, .val (.int f2), .val (.long k2), .second, .val (.int f3), .val (.long k3), .second, .val (.int f4), .val (.long k4), .second, .val (.int (1 : Int32))] [(.int f4)]))
        by_cases hc48_8 : f4 = (0 : Int32)
        · skip
          refine Go.by (fun _ => XS.ifYes X0.here hx rfl (pc0 := 48) (pc' := 58) rfl (hb hby d9_48) rfl ((if0 _ _).trans (teq hc48_8).1) (by decide) (by decide)) ?_
          show Go p.tables e below _ (T0.setTop (mkF m 58 #[.val (.long xx), .second, .val (.int f1), .val (.long k1), .second, .val (.int f2), .val (.long k2), .second, .val (.int f3), .val (.long k3), .second, .val (.int f4), .val (.long k4), .second, .val (.int (1 : Int32))] []))
          refine Go.by (fun _ => XS.iconst X0.here hx rfl (hb hby d9_58)) ?_
          show Go p.tables e below _ (T0.setTop (mkF m 59 #[.val (.long xx), .second, .val (.int f1), .val (.long k1), .second, .val (.int f2), .val (.long k2), .second, .val (.int f3), .val (.long k3), .second, .val (.int f4), .val (.long k4), .second, .val (.int (1 : Int32))] [(.int (1 : Int32))]))
          refine Go.by (fun _ => XS.goto X0.here hx rfl (pc0 := 59) (pc' := 63) rfl (hb hby d9_59) (by decide) (by decide)) ?_
          show Go p.tables e below _ (T0.setTop (mkF m 63 #[.val (.long xx), .second, .val (.int f1), .val (.long k1), .second, .val (.int f2), .val (.long k2), .second, .val (.int f3), .val (.long k3), .second, .val (.int f4), .val (.long k4), .second, .val (.int (1 : Int32))] [(.int (1 : Int32))]))
          refine Go.retN X0 hx hlk (z' := (1 : Int32)) hret (by simp) (hb hby d9_63) rfl (by decide) (by decide) ?_
          simp only [lw_eq] at hc19_7
          have ec : pz xx f1 k1 f2 k2 f3 k3 f4 k4 = 1 := by
            unfold pz
            rw [if_pos (by simp [hc1_1, hc12_2, hc19_7, hc48_8])]
          rw [ec]
          exact ⟨rfl, rfl⟩
        · skip
          refine Go.by (fun _ => XS.ifNo X0.here hx rfl (hb hby d9_48) rfl ((if0 _ _).trans (feq hc48_8).1)) ?_
          show Go p.tables e below _ (T0.setTop (mkF m 51 #[.val (.long xx), .second, .val (.int f1), .val (.long k1), .second, .val (.int f2), .val (.long k2), .second, .val (.int f3), .val (.long k3), .second, .val (.int f4), .val (.long k4), .second, .val (.int (1 : Int32))] []))
          refine Go.by (fun _ => XS.lload X0.here hx rfl (hb hby d9_51) rfl) ?_
          show Go p.tables e below _ (T0.setTop (mkF m 53 #[.val (.long xx), .second, .val (.int f1), .val (.long k1), .second, .val (.int f2), .val (.long k2), .second, .val (.int f3), .val (.long k3), .second, .val (.int f4), .val (.long k4), .second, .val (.int (1 : Int32))] [(.long k4)]))
          refine Go.by (fun _ => XS.lloadN X0.here hx rfl (hb hby d9_53) rfl) ?_
          show Go p.tables e below _ (T0.setTop (mkF m 54 #[.val (.long xx), .second, .val (.int f1), .val (.long k1), .second, .val (.int f2), .val (.long k2), .second, .val (.int f3), .val (.long k3), .second, .val (.int f4), .val (.long k4), .second, .val (.int (1 : Int32))] [(.long xx), (.long k4)]))
          refine Go.by (fun _ => XS.lcmp X0.here hx rfl (hb hby d9_54) rfl) ?_
          show Go p.tables e below _ (T0.setTop (mkF m 55 #[.val (.long xx), .second, .val (.int f1), .val (.long k1), .second, .val (.int f2), .val (.long k2), .second, .val (.int f3), .val (.long k3), .second, .val (.int f4), .val (.long k4), .second, .val (.int (1 : Int32))] [(.int (lcmpW k4 xx))]))
          by_cases hc55_9 : (lcmpW k4 xx) = (0 : Int32)
          · skip
            refine Go.by (fun _ => XS.ifYes X0.here hx rfl (pc0 := 55) (pc' := 62) rfl (hb hby d9_55) rfl ((if0 _ _).trans (teq hc55_9).1) (by decide) (by decide)) ?_
            show Go p.tables e below _ (T0.setTop (mkF m 62 #[.val (.long xx), .second, .val (.int f1), .val (.long k1), .second, .val (.int f2), .val (.long k2), .second, .val (.int f3), .val (.long k3), .second, .val (.int f4), .val (.long k4), .second, .val (.int (1 : Int32))] []))
            refine Go.by (fun _ => XS.iconst X0.here hx rfl (hb hby d9_62)) ?_
            show Go p.tables e below _ (T0.setTop (mkF m 63 #[.val (.long xx), .second, .val (.int f1), .val (.long k1), .second, .val (.int f2), .val (.long k2), .second, .val (.int f3), .val (.long k3), .second, .val (.int f4), .val (.long k4), .second, .val (.int (1 : Int32))] [(.int (0 : Int32))]))
            refine Go.retN X0 hx hlk (z' := (0 : Int32)) hret (by simp) (hb hby d9_63) rfl (by decide) (by decide) ?_
            simp only [lw_eq] at hc19_7 hc55_9
            have ec : pz xx f1 k1 f2 k2 f3 k3 f4 k4 = 0 := by
              unfold pz
              rw [if_neg (by simp [hc1_1, hc12_2, hc19_7, hc48_8, hc55_9])]
            rw [ec]
            exact ⟨rfl, rfl⟩
          · skip
            refine Go.by (fun _ => XS.ifNo X0.here hx rfl (hb hby d9_55) rfl ((if0 _ _).trans (feq hc55_9).1)) ?_
            show Go p.tables e below _ (T0.setTop (mkF m 58 #[.val (.long xx), .second, .val (.int f1), .val (.long k1), .second, .val (.int f2), .val (.long k2), .second, .val (.int f3), .val (.long k3), .second, .val (.int f4), .val (.long k4), .second, .val (.int (1 : Int32))] []))
            refine Go.by (fun _ => XS.iconst X0.here hx rfl (hb hby d9_58)) ?_
            show Go p.tables e below _ (T0.setTop (mkF m 59 #[.val (.long xx), .second, .val (.int f1), .val (.long k1), .second, .val (.int f2), .val (.long k2), .second, .val (.int f3), .val (.long k3), .second, .val (.int f4), .val (.long k4), .second, .val (.int (1 : Int32))] [(.int (1 : Int32))]))
            refine Go.by (fun _ => XS.goto X0.here hx rfl (pc0 := 59) (pc' := 63) rfl (hb hby d9_59) (by decide) (by decide)) ?_
            show Go p.tables e below _ (T0.setTop (mkF m 63 #[.val (.long xx), .second, .val (.int f1), .val (.long k1), .second, .val (.int f2), .val (.long k2), .second, .val (.int f3), .val (.long k3), .second, .val (.int f4), .val (.long k4), .second, .val (.int (1 : Int32))] [(.int (1 : Int32))]))
            refine Go.retN X0 hx hlk (z' := (1 : Int32)) hret (by simp) (hb hby d9_63) rfl (by decide) (by decide) ?_
            simp only [lw_eq] at hc19_7 hc55_9
            have ec : pz xx f1 k1 f2 k2 f3 k3 f4 k4 = 1 := by
              unfold pz
              rw [if_pos (by simp [hc1_1, hc12_2, hc19_7, hc48_8, hc55_9])]
            rw [ec]
            exact ⟨rfl, rfl⟩
      · skip
        refine Go.by (fun _ => XS.ifNo X0.here hx rfl (hb hby d9_19) rfl ((if0 _ _).trans (feq hc19_7).1)) ?_
        show Go p.tables e below _ (T0.setTop (mkF m 22 #[.val (.long xx), .second, .val (.int f1), .val (.long k1), .second, .val (.int f2), .val (.long k2), .second, .val (.int f3), .val (.long k3), .second, .val (.int f4), .val (.long k4), .second, .unset] []))
        refine Go.by (fun _ => XS.iload X0.here hx rfl (hb hby d9_22) rfl) ?_
        show Go p.tables e below _ (T0.setTop (mkF m 24 #[.val (.long xx), .second, .val (.int f1), .val (.long k1), .second, .val (.int f2), .val (.long k2), .second, .val (.int f3), .val (.long k3), .second, .val (.int f4), .val (.long k4), .second, .unset] [(.int f3)]))
        by_cases hc24_10 : f3 = (0 : Int32)
        · skip
          refine Go.by (fun _ => XS.ifYes X0.here hx rfl (pc0 := 24) (pc' := 38) rfl (hb hby d9_24) rfl ((if0 _ _).trans (teq hc24_10).1) (by decide) (by decide)) ?_
          show Go p.tables e below _ (T0.setTop (mkF m 38 #[.val (.long xx), .second, .val (.int f1), .val (.long k1), .second, .val (.int f2), .val (.long k2), .second, .val (.int f3), .val (.long k3), .second, .val (.int f4), .val (.long k4), .second, .unset] []))
          refine Go.by (fun _ => XS.iconst X0.here hx rfl (hb hby d9_38)) ?_
          show Go p.tables e below _ (T0.setTop (mkF m 39 #[.val (.long xx), .second, .val (.int f1), .val (.long k1), .second, .val (.int f2), .val (.long k2), .second, .val (.int f3), .val (.long k3), .second, .val (.int f4), .val (.long k4), .second, .unset] [(.int (0 : Int32))]))
          refine Go.by (fun _ => XS.istore X0.here hx rfl (hb hby d9_39) rfl (l' := #[.val (.long xx), .second, .val (.int f1), .val (.long k1), .second, .val (.int f2), .val (.long k2), .second, .val (.int f3), .val (.long k3), .second, .val (.int f4), .val (.long k4), .second, .val (.int (0 : Int32))]) rfl) ?_
          show Go p.tables e below _ (T0.setTop (mkF m 41 #[.val (.long xx), .second, .val (.int f1), .val (.long k1), .second, .val (.int f2), .val (.long k2), .second, .val (.int f3), .val (.long k3), .second, .val (.int f4), .val (.long k4), .second, .val (.int (0 : Int32))] []))
          refine Go.by (fun _ => XS.iload X0.here hx rfl (hb hby d9_41) rfl) ?_
          show Go p.tables e below _ (T0.setTop (mkF m 43 #[.val (.long xx), .second, .val (.int f1), .val (.long k1), .second, .val (.int f2), .val (.long k2), .second, .val (.int f3), .val (.long k3), .second, .val (.int f4), .val (.long k4), .second, .val (.int (0 : Int32))] [(.int (0 : Int32))]))
          refine Go.by (fun _ => XS.ifYes X0.here hx rfl (pc0 := 43) (pc' := 62) rfl (hb hby d9_43) rfl ((if0 _ _).trans (teq (by decide)).1) (by decide) (by decide)) ?_
          show Go p.tables e below _ (T0.setTop (mkF m 62 #[.val (.long xx), .second, .val (.int f1), .val (.long k1), .second, .val (.int f2), .val (.long k2), .second, .val (.int f3), .val (.long k3), .second, .val (.int f4), .val (.long k4), .second, .val (.int (0 : Int32))] []))
          refine Go.by (fun _ => XS.iconst X0.here hx rfl (hb hby d9_62)) ?_
          show Go p.tables e below _ (T0.setTop (mkF m 63 #[.val (.long xx), .second, .val (.int f1), .val (.long k1), .second, .val (.int f2), .val (.long k2), .second, .val (.int f3), .val (.long k3), .second, .val (.int f4), .val (.long k4), .second, .val (.int (0 : Int32))] [(.int (0 : Int32))]))
          refine Go.retN X0 hx hlk (z' := (0 : Int32)) hret (by simp) (hb hby d9_63) rfl (by decide) (by decide) ?_
          simp only [lw_eq] at hc19_7
          have ec : pz xx f1 k1 f2 k2 f3 k3 f4 k4 = 0 := by
            unfold pz
            rw [if_neg (by simp [hc1_1, hc12_2, hc19_7, hc24_10])]
          rw [ec]
          exact ⟨rfl, rfl⟩
        · skip
          refine Go.by (fun _ => XS.ifNo X0.here hx rfl (hb hby d9_24) rfl ((if0 _ _).trans (feq hc24_10).1)) ?_
          show Go p.tables e below _ (T0.setTop (mkF m 27 #[.val (.long xx), .second, .val (.int f1), .val (.long k1), .second, .val (.int f2), .val (.long k2), .second, .val (.int f3), .val (.long k3), .second, .val (.int f4), .val (.long k4), .second, .unset] []))
          refine Go.by (fun _ => XS.lload X0.here hx rfl (hb hby d9_27) rfl) ?_
          show Go p.tables e below _ (T0.setTop (mkF m 29 #[.val (.long xx), .second, .val (.int f1), .val (.long k1), .second, .val (.int f2), .val (.long k2), .second, .val (.int f3), .val (.long k3), .second, .val (.int f4), .val (.long k4), .second, .unset] [(.long k3)]))
          refine Go.by (fun _ => XS.lloadN X0.here hx rfl (hb hby d9_29) rfl) ?_
          show Go p.tables e below _ (T0.setTop (mkF m 30 #[.val (.long xx), .second, .val (.int f1), .val (.long k1), .second, .val (.int f2), .val (.long k2), .second, .val (.int f3), .val (.long k3), .second, .val (.int f4), .val (.long k4), .second, .unset] [(.long xx), (.long k3)]))
          refine Go.by (fun _ => XS.lcmp X0.here hx rfl (hb hby d9_30) rfl) ?_
          show Go p.tables e below _ (T0.setTop (mkF m 31 #[.val (.long xx), .second, .val (.int f1), .val (.long k1), .second, .val (.int f2), .val (.long k2), .second, .val (.int f3), .val (.long k3), .second, .val (.int f4), .val (.long k4), .second, .unset] [(.int (lcmpW k3 xx))]))
          by_cases hc31_11 : (lcmpW k3 xx) = (0 : Int32)
          · skip
            refine Go.by (fun _ => XS.ifNo X0.here hx rfl (hb hby d9_31) rfl ((if0 _ _).trans (teq hc31_11).2)) ?_
            show Go p.tables e below _ (T0.setTop (mkF m 34 #[.val (.long xx), .second, .val (.int f1), .val (.long k1), .second, .val (.int f2), .val (.long k2), .second, .val (.int f3), .val (.long k3), .second, .val (.int f4), .val (.long k4), .second, .unset] []))
            refine Go.by (fun _ => XS.iconst X0.here hx rfl (hb hby d9_34)) ?_
            show Go p.tables e below _ (T0.setTop (mkF m 35 #[.val (.long xx), .second, .val (.int f1), .val (.long k1), .second, .val (.int f2), .val (.long k2), .second, .val (.int f3), .val (.long k3), .second, .val (.int f4), .val (.long k4), .second, .unset] [(.int (1 : Int32))]))
            refine Go.by (fun _ => XS.goto X0.here hx rfl (pc0 := 35) (pc' := 39) rfl (hb hby d9_35) (by decide) (by decide)) ?_
            show Go p.tables e below _ (T0.setTop (mkF m 39 #[.val (.long xx), .second, .val (.int f1), .val (.long k1), .second, .val (.int f2), .val (.long k2), .second, .val (.int f3), .val (.long k3), .second, .val (.int f4), .val (.long k4), .second, .unset] [(.int (1 : Int32))]))
            refine Go.by (fun _ => XS.istore X0.here hx rfl (hb hby d9_39) rfl (l' := #[.val (.long xx), .second, .val (.int f1), .val (.long k1), .second, .val (.int f2), .val (.long k2), .second, .val (.int f3), .val (.long k3), .second, .val (.int f4), .val (.long k4), .second, .val (.int (1 : Int32))]) rfl) ?_
            show Go p.tables e below _ (T0.setTop (mkF m 41 #[.val (.long xx), .second, .val (.int f1), .val (.long k1), .second, .val (.int f2), .val (.long k2), .second, .val (.int f3), .val (.long k3), .second, .val (.int f4), .val (.long k4), .second, .val (.int (1 : Int32))] []))
            refine Go.by (fun _ => XS.iload X0.here hx rfl (hb hby d9_41) rfl) ?_
            show Go p.tables e below _ (T0.setTop (mkF m 43 #[.val (.long xx), .second, .val (.int f1), .val (.long k1), .second, .val (.int f2), .val (.long k2), .second, .val (.int f3), .val (.long k3), .second, .val (.int f4), .val (.long k4), .second, .val (.int (1 : Int32))] [(.int (1 : Int32))]))
            refine Go.by (fun _ => XS.ifNo X0.here hx rfl (hb hby d9_43) rfl ((if0 _ _).trans (feq (by decide)).1)) ?_
            show Go p.tables e below _ (T0.setTop (mkF m 46 #[.val (.long xx), .second, .val (.int f1), .val (.long k1), .second, .val (.int f2), .val (.long k2), .second, .val (.int f3), .val (.long k3), .second, .val (.int f4), .val (.long k4), .second, .val (.int (1 : Int32))] []))
            refine Go.by (fun _ => XS.iload X0.here hx rfl (hb hby d9_46) rfl) ?_
            show Go p.tables e below _ (T0.setTop (mkF m 48 #[.val (.long xx), .second, .val (.int f1), .val (.long k1), .second, .val (.int f2), .val (.long k2), .second, .val (.int f3), .val (.long k3), .second, .val (.int f4), .val (.long k4), .second, .val (.int (1 : Int32))] [(.int f4)]))
            by_cases hc48_12 : f4 = (0 : Int32)
            · skip
              refine Go.by (fun _ => XS.ifYes X0.here hx rfl (pc0 := 48) (pc' := 58) rfl (hb hby d9_48) rfl ((if0 _ _).trans (teq hc48_12).1) (by decide) (by decide)) ?_
              show Go p.tables e below _ (T0.setTop (mkF m 58 #[.val (.long xx), .second, .val (.int f1), .val (.long k1), .second, .val (.int f2), .val (.long k2), .second, .val (.int f3), .val (.long k3), .second, .val (.int f4), .val (.long k4), .second, .val (.int (1 : Int32))] []))
              refine Go.by (fun _ => XS.iconst X0.here hx rfl (hb hby d9_58)) ?_
              show Go p.tables e below _ (T0.setTop (mkF m 59 #[.val (.long xx), .second, .val (.int f1), .val (.long k1), .second, .val (.int f2), .val (.long k2), .second, .val (.int f3), .val (.long k3), .second, .val (.int f4), .val (.long k4), .second, .val (.int (1 : Int32))] [(.int (1 : Int32))]))
              refine Go.by (fun _ => XS.goto X0.here hx rfl (pc0 := 59) (pc' := 63) rfl (hb hby d9_59) (by decide) (by decide)) ?_
              show Go p.tables e below _ (T0.setTop (mkF m 63 #[.val (.long xx), .second, .val (.int f1), .val (.long k1), .second, .val (.int f2), .val (.long k2), .second, .val (.int f3), .val (.long k3), .second, .val (.int f4), .val (.long k4), .second, .val (.int (1 : Int32))] [(.int (1 : Int32))]))
              refine Go.retN X0 hx hlk (z' := (1 : Int32)) hret (by simp) (hb hby d9_63) rfl (by decide) (by decide) ?_
              simp only [lw_eq] at hc19_7 hc31_11
              have ec : pz xx f1 k1 f2 k2 f3 k3 f4 k4 = 1 := by
                unfold pz
                rw [if_pos (by simp [hc1_1, hc12_2, hc19_7, hc24_10, hc31_11, hc48_12])]
              rw [ec]
              exact ⟨rfl, rfl⟩
            · skip
              refine Go.by (fun _ => XS.ifNo X0.here hx rfl (hb hby d9_48) rfl ((if0 _ _).trans (feq hc48_12).1)) ?_
              show Go p.tables e below _ (T0.setTop (mkF m 51 #[.val (.long xx), .second, .val (.int f1), .val (.long k1), .second, .val (.int f2), .val (.long k2), .second, .val (.int f3), .val (.long k3), .second, .val (.int f4), .val (.long k4), .second, .val (.int (1 : Int32))] []))
              refine Go.by (fun _ => XS.lload X0.here hx rfl (hb hby d9_51) rfl) ?_
              show Go p.tables e below _ (T0.setTop (mkF m 53 #[.val (.long xx), .second, .val (.int f1), .val (.long k1), .second, .val (.int f2), .val (.long k2), .second, .val (.int f3), .val (.long k3), .second, .val (.int f4), .val (.long k4), .second, .val (.int (1 : Int32))] [(.long k4)]))
              refine Go.by (fun _ => XS.lloadN X0.here hx rfl (hb hby d9_53) rfl) ?_
              show Go p.tables e below _ (T0.setTop (mkF m 54 #[.val (.long xx), .second, .val (.int f1), .val (.long k1), .second, .val (.int f2), .val (.long k2), .second, .val (.int f3), .val (.long k3), .second, .val (.int f4), .val (.long k4), .second, .val (.int (1 : Int32))] [(.long xx), (.long k4)]))
              refine Go.by (fun _ => XS.lcmp X0.here hx rfl (hb hby d9_54) rfl) ?_
              show Go p.tables e below _ (T0.setTop (mkF m 55 #[.val (.long xx), .second, .val (.int f1), .val (.long k1), .second, .val (.int f2), .val (.long k2), .second, .val (.int f3), .val (.long k3), .second, .val (.int f4), .val (.long k4), .second, .val (.int (1 : Int32))] [(.int (lcmpW k4 xx))]))
              by_cases hc55_13 : (lcmpW k4 xx) = (0 : Int32)
              · skip
                refine Go.by (fun _ => XS.ifYes X0.here hx rfl (pc0 := 55) (pc' := 62) rfl (hb hby d9_55) rfl ((if0 _ _).trans (teq hc55_13).1) (by decide) (by decide)) ?_
                show Go p.tables e below _ (T0.setTop (mkF m 62 #[.val (.long xx), .second, .val (.int f1), .val (.long k1), .second, .val (.int f2), .val (.long k2), .second, .val (.int f3), .val (.long k3), .second, .val (.int f4), .val (.long k4), .second, .val (.int (1 : Int32))] []))
                refine Go.by (fun _ => XS.iconst X0.here hx rfl (hb hby d9_62)) ?_
                show Go p.tables e below _ (T0.setTop (mkF m 63 #[.val (.long xx), .second, .val (.int f1), .val (.long k1), .second, .val (.int f2), .val (.long k2), .second, .val (.int f3), .val (.long k3), .second, .val (.int f4), .val (.long k4), .second, .val (.int (1 : Int32))] [(.int (0 : Int32))]))
                refine Go.retN X0 hx hlk (z' := (0 : Int32)) hret (by simp) (hb hby d9_63) rfl (by decide) (by decide) ?_
                simp only [lw_eq] at hc19_7 hc31_11 hc55_13
                have ec : pz xx f1 k1 f2 k2 f3 k3 f4 k4 = 0 := by
                  unfold pz
                  rw [if_neg (by simp [hc1_1, hc12_2, hc19_7, hc24_10, hc31_11, hc48_12, hc55_13])]
                rw [ec]
                exact ⟨rfl, rfl⟩
              · skip
                refine Go.by (fun _ => XS.ifNo X0.here hx rfl (hb hby d9_55) rfl ((if0 _ _).trans (feq hc55_13).1)) ?_
                show Go p.tables e below _ (T0.setTop (mkF m 58 #[.val (.long xx), .second, .val (.int f1), .val (.long k1), .second, .val (.int f2), .val (.long k2), .second, .val (.int f3), .val (.long k3), .second, .val (.int f4), .val (.long k4), .second, .val (.int (1 : Int32))] []))
                refine Go.by (fun _ => XS.iconst X0.here hx rfl (hb hby d9_58)) ?_
                show Go p.tables e below _ (T0.setTop (mkF m 59 #[.val (.long xx), .second, .val (.int f1), .val (.long k1), .second, .val (.int f2), .val (.long k2), .second, .val (.int f3), .val (.long k3), .second, .val (.int f4), .val (.long k4), .second, .val (.int (1 : Int32))] [(.int (1 : Int32))]))
                refine Go.by (fun _ => XS.goto X0.here hx rfl (pc0 := 59) (pc' := 63) rfl (hb hby d9_59) (by decide) (by decide)) ?_
                show Go p.tables e below _ (T0.setTop (mkF m 63 #[.val (.long xx), .second, .val (.int f1), .val (.long k1), .second, .val (.int f2), .val (.long k2), .second, .val (.int f3), .val (.long k3), .second, .val (.int f4), .val (.long k4), .second, .val (.int (1 : Int32))] [(.int (1 : Int32))]))
                refine Go.retN X0 hx hlk (z' := (1 : Int32)) hret (by simp) (hb hby d9_63) rfl (by decide) (by decide) ?_
                simp only [lw_eq] at hc19_7 hc31_11 hc55_13
                have ec : pz xx f1 k1 f2 k2 f3 k3 f4 k4 = 1 := by
                  unfold pz
                  rw [if_pos (by simp [hc1_1, hc12_2, hc19_7, hc24_10, hc31_11, hc48_12, hc55_13])]
                rw [ec]
                exact ⟨rfl, rfl⟩
          · skip
            refine Go.by (fun _ => XS.ifYes X0.here hx rfl (pc0 := 31) (pc' := 38) rfl (hb hby d9_31) rfl ((if0 _ _).trans (feq hc31_11).2) (by decide) (by decide)) ?_
            show Go p.tables e below _ (T0.setTop (mkF m 38 #[.val (.long xx), .second, .val (.int f1), .val (.long k1), .second, .val (.int f2), .val (.long k2), .second, .val (.int f3), .val (.long k3), .second, .val (.int f4), .val (.long k4), .second, .unset] []))
            refine Go.by (fun _ => XS.iconst X0.here hx rfl (hb hby d9_38)) ?_
            show Go p.tables e below _ (T0.setTop (mkF m 39 #[.val (.long xx), .second, .val (.int f1), .val (.long k1), .second, .val (.int f2), .val (.long k2), .second, .val (.int f3), .val (.long k3), .second, .val (.int f4), .val (.long k4), .second, .unset] [(.int (0 : Int32))]))
            refine Go.by (fun _ => XS.istore X0.here hx rfl (hb hby d9_39) rfl (l' := #[.val (.long xx), .second, .val (.int f1), .val (.long k1), .second, .val (.int f2), .val (.long k2), .second, .val (.int f3), .val (.long k3), .second, .val (.int f4), .val (.long k4), .second, .val (.int (0 : Int32))]) rfl) ?_
            show Go p.tables e below _ (T0.setTop (mkF m 41 #[.val (.long xx), .second, .val (.int f1), .val (.long k1), .second, .val (.int f2), .val (.long k2), .second, .val (.int f3), .val (.long k3), .second, .val (.int f4), .val (.long k4), .second, .val (.int (0 : Int32))] []))
            refine Go.by (fun _ => XS.iload X0.here hx rfl (hb hby d9_41) rfl) ?_
            show Go p.tables e below _ (T0.setTop (mkF m 43 #[.val (.long xx), .second, .val (.int f1), .val (.long k1), .second, .val (.int f2), .val (.long k2), .second, .val (.int f3), .val (.long k3), .second, .val (.int f4), .val (.long k4), .second, .val (.int (0 : Int32))] [(.int (0 : Int32))]))
            refine Go.by (fun _ => XS.ifYes X0.here hx rfl (pc0 := 43) (pc' := 62) rfl (hb hby d9_43) rfl ((if0 _ _).trans (teq (by decide)).1) (by decide) (by decide)) ?_
            show Go p.tables e below _ (T0.setTop (mkF m 62 #[.val (.long xx), .second, .val (.int f1), .val (.long k1), .second, .val (.int f2), .val (.long k2), .second, .val (.int f3), .val (.long k3), .second, .val (.int f4), .val (.long k4), .second, .val (.int (0 : Int32))] []))
            refine Go.by (fun _ => XS.iconst X0.here hx rfl (hb hby d9_62)) ?_
            show Go p.tables e below _ (T0.setTop (mkF m 63 #[.val (.long xx), .second, .val (.int f1), .val (.long k1), .second, .val (.int f2), .val (.long k2), .second, .val (.int f3), .val (.long k3), .second, .val (.int f4), .val (.long k4), .second, .val (.int (0 : Int32))] [(.int (0 : Int32))]))
            refine Go.retN X0 hx hlk (z' := (0 : Int32)) hret (by simp) (hb hby d9_63) rfl (by decide) (by decide) ?_
            simp only [lw_eq] at hc19_7 hc31_11
            have ec : pz xx f1 k1 f2 k2 f3 k3 f4 k4 = 0 := by
              unfold pz
              rw [if_neg (by simp [hc1_1, hc12_2, hc19_7, hc24_10, hc31_11])]
            rw [ec]
            exact ⟨rfl, rfl⟩
  · skip
    refine Go.by (fun _ => XS.ifNo X0.here hx rfl (hb hby d9_1) rfl ((if0 _ _).trans (feq hc1_1).1)) ?_
    show Go p.tables e below _ (T0.setTop (mkF m 4 #[.val (.long xx), .second, .val (.int f1), .val (.long k1), .second, .val (.int f2), .val (.long k2), .second, .val (.int f3), .val (.long k3), .second, .val (.int f4), .val (.long k4), .second, .unset] []))
    refine Go.by (fun _ => XS.lloadN X0.here hx rfl (hb hby d9_4) rfl) ?_
    show Go p.tables e below _ (T0.setTop (mkF m 5 #[.val (.long xx), .second, .val (.int f1), .val (.long k1), .second, .val (.int f2), .val (.long k2), .second, .val (.int f3), .val (.long k3), .second, .val (.int f4), .val (.long k4), .second, .unset] [(.long k1)]))
    refine Go.by (fun _ => XS.lloadN X0.here hx rfl (hb hby d9_5) rfl) ?_
    show Go p.tables e below _ (T0.setTop (mkF m 6 #[.val (.long xx), .second, .val (.int f1), .val (.long k1), .second, .val (.int f2), .val (.long k2), .second, .val (.int f3), .val (.long k3), .second, .val (.int f4), .val (.long k4), .second, .unset] [(.long xx), (.long k1)]))
    refine Go.by (fun _ => XS.lcmp X0.here hx rfl (hb hby d9_6) rfl) ?_
    show Go p.tables e below _ (T0.setTop (mkF m 7 #[.val (.long xx), .second, .val (.int f1), .val (.long k1), .second, .val (.int f2), .val (.long k2), .second, .val (.int f3), .val (.long k3), .second, .val (.int f4), .val (.long k4), .second, .unset] [(.int (lcmpW k1 xx))]))
    by_cases hc7_14 : (lcmpW k1 xx) = (0 : Int32)
    · skip
      refine Go.by (fun _ => XS.ifYes X0.here hx rfl (pc0 := 7) (pc' := 34) rfl (hb hby d9_7) rfl ((if0 _ _).trans (teq hc7_14).1) (by decide) (by decide)) ?_
      show Go p.tables e below _ (T0.setTop (mkF m 34 #[.val (.long xx), .second, .val (.int f1), .val (.long k1), .second, .val (.int f2), .val (.long k2), .second, .val (.int f3), .val (.long k3), .second, .val (.int f4), .val (.long k4), .second, .unset] []))
      refine Go.by (fun _ => XS.iconst X0.here hx rfl (hb hby d9_34)) ?_
      show Go p.tables e below _ (T0.setTop (mkF m 35 #[.val (.long xx), .second, .val (.int f1), .val (.long k1), .second, .val (.int f2), .val (.long k2), .second, .val (.int f3), .val (.long k3), .second, .val (.int f4), .val (.long k4), .second, .unset] [(.int (1 : Int32))]))
      refine Go.by (fun _ => XS.goto X0.here hx rfl (pc0 := 35) (pc' := 39) rfl (hb hby d9_35) (by decide) (by decide)) ?_
      show Go p.tables e below _ (T0.setTop (mkF m 39 #[.val (.long xx), .second, .val (.int f1), .val (.long k1), .second, .val (.int f2), .val (.long k2), .second, .val (.int f3), .val (.long k3), .second, .val (.int f4), .val (.long k4), .second, .unset] [(.int (1 : Int32))]))
      refine Go.by (fun _ => XS.istore X0.here hx rfl (hb hby d9_39) rfl (l' := #[.val (.long xx), .second, .val (.int f1), .val (.long k1), .second, .val (.int f2), .val (.long k2), .second, .val (.int f3), .val (.long k3), .second, .val (.int f4), .val (.long k4), .second, .val (.int (1 : Int32))]) rfl) ?_
      show Go p.tables e below _ (T0.setTop (mkF m 41 #[.val (.long xx), .second, .val (.int f1), .val (.long k1), .second, .val (.int f2), .val (.long k2), .second, .val (.int f3), .val (.long k3), .second, .val (.int f4), .val (.long k4), .second, .val (.int (1 : Int32))] []))
      refine Go.by (fun _ => XS.iload X0.here hx rfl (hb hby d9_41) rfl) ?_
      show Go p.tables e below _ (T0.setTop (mkF m 43 #[.val (.long xx), .second, .val (.int f1), .val (.long k1), .second, .val (.int f2), .val (.long k2), .second, .val (.int f3), .val (.long k3), .second, .val (.int f4), .val (.long k4), .second, .val (.int (1 : Int32))] [(.int (1 : Int32))]))
      refine Go.by (fun _ => XS.ifNo X0.here hx rfl (hb hby d9_43) rfl ((if0 _ _).trans (feq (by decide)).1)) ?_
      show Go p.tables e below _ (T0.setTop (mkF m 46 #[.val (.long xx), .second, .val (.int f1), .val (.long k1), .second, .val (.int f2), .val (.long k2), .second, .val (.int f3), .val (.long k3), .second, .val (.int f4), .val (.long k4), .second, .val (.int (1 : Int32))] []))
      refine Go.by (fun _ => XS.iload X0.here hx rfl (hb hby d9_46) rfl) ?_
      show Go p.tables e below _ (T0.setTop (mkF m 48 #[.val (.long xx), .second, .val (.int f1), .val (.long k1), .second, .val (.int f2), .val (.long k2), .second, .val (.int f3), .val (.long k3), .second, .val (.int f4), .val (.long k4), .second, .val (.int (1 : Int32))] [(.int f4)]))
      by_cases hc48_15 : f4 = (0 : Int32)
      · skip
        refine Go.by (fun _ => XS.ifYes X0.here hx rfl (pc0 := 48) (pc' := 58) rfl (hb hby d9_48) rfl ((if0 _ _).trans (teq hc48_15).1) (by decide) (by decide)) ?_
        show Go p.tables e below _ (T0.setTop (mkF m 58 #[.val (.long xx), .second, .val (.int f1), .val (.long k1), .second, .val (.int f2), .val (.long k2), .second, .val (.int f3), .val (.long k3), .second, .val (.int f4), .val (.long k4), .second, .val (.int (1 : Int32))] []))
        refine Go.by (fun _ => XS.iconst X0.here hx rfl (hb hby d9_58)) ?_
        show Go p.tables e below _ (T0.setTop (mkF m 59 #[.val (.long xx), .second, .val (.int f1), .val (.long k1), .second, .val (.int f2), .val (.long k2), .second, .val (.int f3), .val (.long k3), .second, .val (.int f4), .val (.long k4), .second, .val (.int (1 : Int32))] [(.int (1 : Int32))]))
        refine Go.by (fun _ => XS.goto X0.here hx rfl (pc0 := 59) (pc' := 63) rfl (hb hby d9_59) (by decide) (by decide)) ?_
        show Go p.tables e below _ (T0.setTop (mkF m 63 #[.val (.long xx), .second, .val (.int f1), .val (.long k1), .second, .val (.int f2), .val (.long k2), .second, .val (.int f3), .val (.long k3), .second, .val (.int f4), .val (.long k4), .second, .val (.int (1 : Int32))] [(.int (1 : Int32))]))
        refine Go.retN X0 hx hlk (z' := (1 : Int32)) hret (by simp) (hb hby d9_63) rfl (by decide) (by decide) ?_
        simp only [lw_eq] at hc7_14
        have ec : pz xx f1 k1 f2 k2 f3 k3 f4 k4 = 1 := by
          unfold pz
          rw [if_pos (by simp [hc1_1, hc7_14, hc48_15])]
        rw [ec]
        exact ⟨rfl, rfl⟩
      · skip
        refine Go.by (fun _ => XS.ifNo X0.here hx rfl (hb hby d9_48) rfl ((if0 _ _).trans (feq hc48_15).1)) ?_
        show Go p.tables e below _ (T0.setTop (mkF m 51 #[.val (.long xx), .second, .val (.int f1), .val (.long k1), .second, .val (.int f2), .val (.long k2), .second, .val (.int f3), .val (.long k3), .second, .val (.int f4), .val (.long k4), .second, .val (.int (1 : Int32))] []))
        refine Go.by (fun _ => XS.lload X0.here hx rfl (hb hby d9_51) rfl) ?_
        show Go p.tables e below _ (T0.setTop (mkF m 53 #[.val (.long xx), .second, .val (.int f1), .val (.long k1), .second, .val (.int f2), .val (.long k2), .second, .val (.int f3), .val (.long k3), .second, .val (.int f4), .val (.long k4), .second, .val (.int (1 : Int32))] [(.long k4)]))
        refine Go.by (fun _ => XS.lloadN X0.here hx rfl (hb hby d9_53) rfl) ?_
        show Go p.tables e below _ (T0.setTop (mkF m 54 #[.val (.long xx), .second, .val (.int f1), .val (.long k1), .second, .val (.int f2), .val (.long k2), .second, .val (.int f3), .val (.long k3), .second, .val (.int f4), .val (.long k4), .second, .val (.int (1 : Int32))] [(.long xx), (.long k4)]))
        refine Go.by (fun _ => XS.lcmp X0.here hx rfl (hb hby d9_54) rfl) ?_
        show Go p.tables e below _ (T0.setTop (mkF m 55 #[.val (.long xx), .second, .val (.int f1), .val (.long k1), .second, .val (.int f2), .val (.long k2), .second, .val (.int f3), .val (.long k3), .second, .val (.int f4), .val (.long k4), .second, .val (.int (1 : Int32))] [(.int (lcmpW k4 xx))]))
        by_cases hc55_16 : (lcmpW k4 xx) = (0 : Int32)
        · skip
          refine Go.by (fun _ => XS.ifYes X0.here hx rfl (pc0 := 55) (pc' := 62) rfl (hb hby d9_55) rfl ((if0 _ _).trans (teq hc55_16).1) (by decide) (by decide)) ?_
          show Go p.tables e below _ (T0.setTop (mkF m 62 #[.val (.long xx), .second, .val (.int f1), .val (.long k1), .second, .val (.int f2), .val (.long k2), .second, .val (.int f3), .val (.long k3), .second, .val (.int f4), .val (.long k4), .second, .val (.int (1 : Int32))] []))
          refine Go.by (fun _ => XS.iconst X0.here hx rfl (hb hby d9_62)) ?_
          show Go p.tables e below _ (T0.setTop (mkF m 63 #[.val (.long xx), .second, .val (.int f1), .val (.long k1), .second, .val (.int f2), .val (.long k2), .second, .val (.int f3), .val (.long k3), .second, .val (.int f4), .val (.long k4), .second, .val (.int (1 : Int32))] [(.int (0 : Int32))]))
          refine Go.retN X0 hx hlk (z' := (0 : Int32)) hret (by simp) (hb hby d9_63) rfl (by decide) (by decide) ?_
          simp only [lw_eq] at hc7_14 hc55_16
          have ec : pz xx f1 k1 f2 k2 f3 k3 f4 k4 = 0 := by
            unfold pz
            rw [if_neg (by simp [hc1_1, hc7_14, hc48_15, hc55_16])]
          rw [ec]
          exact ⟨rfl, rfl⟩
        · skip
          refine Go.by (fun _ => XS.ifNo X0.here hx rfl (hb hby d9_55) rfl ((if0 _ _).trans (feq hc55_16).1)) ?_
          show Go p.tables e below _ (T0.setTop (mkF m 58 #[.val (.long xx), .second, .val (.int f1), .val (.long k1), .second, .val (.int f2), .val (.long k2), .second, .val (.int f3), .val (.long k3), .second, .val (.int f4), .val (.long k4), .second, .val (.int (1 : Int32))] []))
          refine Go.by (fun _ => XS.iconst X0.here hx rfl (hb hby d9_58)) ?_
          show Go p.tables e below _ (T0.setTop (mkF m 59 #[.val (.long xx), .second, .val (.int f1), .val (.long k1), .second, .val (.int f2), .val (.long k2), .second, .val (.int f3), .val (.long k3), .second, .val (.int f4), .val (.long k4), .second, .val (.int (1 : Int32))] [(.int (1 : Int32))]))
          refine Go.by (fun _ => XS.goto X0.here hx rfl (pc0 := 59) (pc' := 63) rfl (hb hby d9_59) (by decide) (by decide)) ?_
          show Go p.tables e below _ (T0.setTop (mkF m 63 #[.val (.long xx), .second, .val (.int f1), .val (.long k1), .second, .val (.int f2), .val (.long k2), .second, .val (.int f3), .val (.long k3), .second, .val (.int f4), .val (.long k4), .second, .val (.int (1 : Int32))] [(.int (1 : Int32))]))
          refine Go.retN X0 hx hlk (z' := (1 : Int32)) hret (by simp) (hb hby d9_63) rfl (by decide) (by decide) ?_
          simp only [lw_eq] at hc7_14 hc55_16
          have ec : pz xx f1 k1 f2 k2 f3 k3 f4 k4 = 1 := by
            unfold pz
            rw [if_pos (by simp [hc1_1, hc7_14, hc48_15, hc55_16])]
          rw [ec]
          exact ⟨rfl, rfl⟩
    · skip
      refine Go.by (fun _ => XS.ifNo X0.here hx rfl (hb hby d9_7) rfl ((if0 _ _).trans (feq hc7_14).1)) ?_
      show Go p.tables e below _ (T0.setTop (mkF m 10 #[.val (.long xx), .second, .val (.int f1), .val (.long k1), .second, .val (.int f2), .val (.long k2), .second, .val (.int f3), .val (.long k3), .second, .val (.int f4), .val (.long k4), .second, .unset] []))
      refine Go.by (fun _ => XS.iload X0.here hx rfl (hb hby d9_10) rfl) ?_
      show Go p.tables e below _ (T0.setTop (mkF m 12 #[.val (.long xx), .second, .val (.int f1), .val (.long k1), .second, .val (.int f2), .val (.long k2), .second, .val (.int f3), .val (.long k3), .second, .val (.int f4), .val (.long k4), .second, .unset] [(.int f2)]))
      by_cases hc12_17 : f2 = (0 : Int32)
      · skip
        refine Go.by (fun _ => XS.ifYes X0.here hx rfl (pc0 := 12) (pc' := 22) rfl (hb hby d9_12) rfl ((if0 _ _).trans (teq hc12_17).1) (by decide) (by decide)) ?_
        show Go p.tables e below _ (T0.setTop (mkF m 22 #[.val (.long xx), .second, .val (.int f1), .val (.long k1), .second, .val (.int f2), .val (.long k2), .second, .val (.int f3), .val (.long k3), .second, .val (.int f4), .val (.long k4), .second, .unset] []))
        refine Go.by (fun _ => XS.iload X0.here hx rfl (hb hby d9_22) rfl) ?_
        show Go p.tables e below _ (T0.setTop (mkF m 24 #[.val (.long xx), .second, .val (.int f1), .val (.long k1), .second, .val (.int f2), .val (.long k2), .second, .val (.int f3), .val (.long k3), .second, .val (.int f4), .val (.long k4), .second, .unset] [(.int f3)]))
        by_cases hc24_18 : f3 = (0 : Int32)
        · skip
          refine Go.by (fun _ => XS.ifYes X0.here hx rfl (pc0 := 24) (pc' := 38) rfl (hb hby d9_24) rfl ((if0 _ _).trans (teq hc24_18).1) (by decide) (by decide)) ?_
          show Go p.tables e below _ (T0.setTop (mkF m 38 #[.val (.long xx), .second, .val (.int f1), .val (.long k1), .second, .val (.int f2), .val (.long k2), .second, .val (.int f3), .val (.long k3), .second, .val (.int f4), .val (.long k4), .second, .unset] []))
          refine Go.by (fun _ => XS.iconst X0.here hx rfl (hb hby d9_38)) ?_
          show Go p.tables e below _ (T0.setTop (mkF m 39 #[.val (.long xx), .second, .val (.int f1), .val (.long k1), .second, .val (.int f2), .val (.long k2), .second, .val (.int f3), .val (.long k3), .second, .val (.int f4), .val (.long k4), .second, .unset] [(.int (0 : Int32))]))
          refine Go.by (fun _ => XS.istore X0.here hx rfl (hb hby d9_39) rfl (l' := #[.val (.long xx), .second, .val (.int f1), .val (.long k1), .second, .val (.int f2), .val (.long k2), .second, .val (.int f3), .val (.long k3), .second, .val (.int f4), .val (.long k4), .second, .val (.int (0 : Int32))]) rfl) ?_
          show Go p.tables e below _ (T0.setTop (mkF m 41 #[.val (.long xx), .second, .val (.int f1), .val (.long k1), .second, .val (.int f2), .val (.long k2), .second, .val (.int f3), .val (.long k3), .second, .val (.int f4), .val (.long k4), .second, .val (.int (0 : Int32))] []))
          refine Go.by (fun _ => XS.iload X0.here hx rfl (hb hby d9_41) rfl) ?_
          show Go p.tables e below _ (T0.setTop (mkF m 43 #[.val (.long xx), .second, .val (.int f1), .val (.long k1), .second, .val (.int f2), .val (.long k2), .second, .val (.int f3), .val (.long k3), .second, .val (.int f4), .val (.long k4), .second, .val (.int (0 : Int32))] [(.int (0 : Int32))]))
          refine Go.by (fun _ => XS.ifYes X0.here hx rfl (pc0 := 43) (pc' := 62) rfl (hb hby d9_43) rfl ((if0 _ _).trans (teq (by decide)).1) (by decide) (by decide)) ?_
          show Go p.tables e below _ (T0.setTop (mkF m 62 #[.val (.long xx), .second, .val (.int f1), .val (.long k1), .second, .val (.int f2), .val (.long k2), .second, .val (.int f3), .val (.long k3), .second, .val (.int f4), .val (.long k4), .second, .val (.int (0 : Int32))] []))
          refine Go.by (fun _ => XS.iconst X0.here hx rfl (hb hby d9_62)) ?_
          show Go p.tables e below _ (T0.setTop (mkF m 63 #[.val (.long xx), .second, .val (.int f1), .val (.long k1), .second, .val (.int f2), .val (.long k2), .second, .val (.int f3), .val (.long k3), .second, .val (.int f4), .val (.long k4), .second, .val (.int (0 : Int32))] [(.int (0 : Int32))]))
          refine Go.retN X0 hx hlk (z' := (0 : Int32)) hret (by simp) (hb hby d9_63) rfl (by decide) (by decide) ?_
          simp only [lw_eq] at hc7_14
          have ec : pz xx f1 k1 f2 k2 f3 k3 f4 k4 = 0 := by
            unfold pz
            rw [if_neg (by simp [hc1_1, hc7_14, hc12_17, hc24_18])]
          rw [ec]
          exact ⟨rfl, rfl⟩
        · skip
          refine Go.by (fun _ => XS.ifNo X0.here hx rfl (hb hby d9_24) rfl ((if0 _ _).trans (feq hc24_18).1)) ?_
          show Go p.tables e below _ (T0.setTop (mkF m 27 #[.val (.long xx), .second, .val (.int f1), .val (.long k1), .second, .val (.int f2), .val (.long k2), .second, .val (.int f3), .val (.long k3), .second, .val (.int f4), .val (.long k4), .second, .unset] []))
          refine Go.by (fun _ => XS.lload X0.here hx rfl (hb hby d9_27) rfl) ?_
          show Go p.tables e below _ (T0.setTop (mkF m 29 #[.val (.long xx), .second, .val (.int f1), .val (.long k1), .second, .val (.int f2), .val (.long k2), .second, .val (.int f3), .val (.long k3), .second, .val (.int f4), .val (.long k4), .second, .unset] [(.long k3)]))
          refine Go.by (fun _ => XS.lloadN X0.here hx rfl (hb hby d9_29) rfl) ?_
          show Go p.tables e below _ (T0.setTop (mkF m 30 #[.val (.long xx), .second, .val (.int f1), .val (.long k1), .second, .val (.int f2), .val (.long k2), .second, .val (.int f3), .val (.long k3), .second, .val (.int f4), .val (.long k4), .second, .unset] [(.long xx), (.long k3)]))
          refine Go.by (fun _ => XS.lcmp X0.here hx rfl (hb hby d9_30) rfl) ?_
          show Go p.tables e below _ (T0.setTop (mkF m 31 #[.val (.long xx), .second, .val (.int f1), .val (.long k1), .second, .val (.int f2), .val (.long k2), .second, .val (.int f3), .val (.long k3), .second, .val (.int f4), .val (.long k4), .second, .unset] [(.int (lcmpW k3 xx))]))
          by_cases hc31_19 : (lcmpW k3 xx) = (0 : Int32)
          · skip
            refine Go.by (fun _ => XS.ifNo X0.here hx rfl (hb hby d9_31) rfl ((if0 _ _).trans (teq hc31_19).2)) ?_
            show Go p.tables e below _ (T0.setTop (mkF m 34 #[.val (.long xx), .second, .val (.int f1), .val (.long k1), .second, .val (.int f2), .val (.long k2), .second, .val (.int f3), .val (.long k3), .second, .val (.int f4), .val (.long k4), .second, .unset] []))
            refine Go.by (fun _ => XS.iconst X0.here hx rfl (hb hby d9_34)) ?_
            show Go p.tables e below _ (T0.setTop (mkF m 35 #[.val (.long xx), .second, .val (.int f1), .val (.long k1), .second, .val (.int f2), .val (.long k2), .second, .val (.int f3), .val (.long k3), .second, .val (.int f4), .val (.long k4), .second, .unset] [(.int (1 : Int32))]))
            refine Go.by (fun _ => XS.goto X0.here hx rfl (pc0 := 35) (pc' := 39) rfl (hb hby d9_35) (by decide) (by decide)) ?_
            show Go p.tables e below _ (T0.setTop (mkF m 39 #[.val (.long xx), .second, .val (.int f1), .val (.long k1), .second, .val (.int f2), .val (.long k2), .second, .val (.int f3), .val (.long k3), .second, .val (.int f4), .val (.long k4), .second, .unset] [(.int (1 : Int32))]))
            refine Go.by (fun _ => XS.istore X0.here hx rfl (hb hby d9_39) rfl (l' := #[.val (.long xx), .second, .val (.int f1), .val (.long k1), .second, .val (.int f2), .val (.long k2), .second, .val (.int f3), .val (.long k3), .second, .val (.int f4), .val (.long k4), .second, .val (.int (1 : Int32))]) rfl) ?_
            show Go p.tables e below _ (T0.setTop (mkF m 41 #[.val (.long xx), .second, .val (.int f1), .val (.long k1), .second, .val (.int f2), .val (.long k2), .second, .val (.int f3), .val (.long k3), .second, .val (.int f4), .val (.long k4), .second, .val (.int (1 : Int32))] []))
            refine Go.by (fun _ => XS.iload X0.here hx rfl (hb hby d9_41) rfl) ?_
            show Go p.tables e below _ (T0.setTop (mkF m 43 #[.val (.long xx), .second, .val (.int f1), .val (.long k1), .second, .val (.int f2), .val (.long k2), .second, .val (.int f3), .val (.long k3), .second, .val (.int f4), .val (.long k4), .second, .val (.int (1 : Int32))] [(.int (1 : Int32))]))
            refine Go.by (fun _ => XS.ifNo X0.here hx rfl (hb hby d9_43) rfl ((if0 _ _).trans (feq (by decide)).1)) ?_
            show Go p.tables e below _ (T0.setTop (mkF m 46 #[.val (.long xx), .second, .val (.int f1), .val (.long k1), .second, .val (.int f2), .val (.long k2), .second, .val (.int f3), .val (.long k3), .second, .val (.int f4), .val (.long k4), .second, .val (.int (1 : Int32))] []))
            refine Go.by (fun _ => XS.iload X0.here hx rfl (hb hby d9_46) rfl) ?_
            show Go p.tables e below _ (T0.setTop (mkF m 48 #[.val (.long xx), .second, .val (.int f1), .val (.long k1), .second, .val (.int f2), .val (.long k2), .second, .val (.int f3), .val (.long k3), .second, .val (.int f4), .val (.long k4), .second, .val (.int (1 : Int32))] [(.int f4)]))
            by_cases hc48_20 : f4 = (0 : Int32)
            · skip
              refine Go.by (fun _ => XS.ifYes X0.here hx rfl (pc0 := 48) (pc' := 58) rfl (hb hby d9_48) rfl ((if0 _ _).trans (teq hc48_20).1) (by decide) (by decide)) ?_
              show Go p.tables e below _ (T0.setTop (mkF m 58 #[.val (.long xx), .second, .val (.int f1), .val (.long k1), .second, .val (.int f2), .val (.long k2), .second, .val (.int f3), .val (.long k3), .second, .val (.int f4), .val (.long k4), .second, .val (.int (1 : Int32))] []))
              refine Go.by (fun _ => XS.iconst X0.here hx rfl (hb hby d9_58)) ?_
              show Go p.tables e below _ (T0.setTop (mkF m 59 #[.val (.long xx), .second, .val (.int f1), .val (.long k1), .second, .val (.int f2), .val (.long k2), .second, .val (.int f3), .val (.long k3), .second, .val (.int f4), .val (.long k4), .second, .val (.int (1 : Int32))] [(.int (1 : Int32))]))
              refine Go.by (fun _ => XS.goto X0.here hx rfl (pc0 := 59) (pc' := 63) rfl (hb hby d9_59) (by decide) (by decide)) ?_
              show Go p.tables e below _ (T0.setTop (mkF m 63 #[.val (.long xx), .second, .val (.int f1), .val (.long k1), .second, .val (.int f2), .val (.long k2), .second, .val (.int f3), .val (.long k3), .second, .val (.int f4), .val (.long k4), .second, .val (.int (1 : Int32))] [(.int (1 : Int32))]))
              refine Go.retN X0 hx hlk (z' := (1 : Int32)) hret (by simp) (hb hby d9_63) rfl (by decide) (by decide) ?_
              simp only [lw_eq] at hc7_14 hc31_19
              have ec : pz xx f1 k1 f2 k2 f3 k3 f4 k4 = 1 := by
                unfold pz
                rw [if_pos (by simp [hc1_1, hc7_14, hc12_17, hc24_18, hc31_19, hc48_20])]
              rw [ec]
              exact ⟨rfl, rfl⟩
            · skip
              refine Go.by (fun _ => XS.ifNo X0.here hx rfl (hb hby d9_48) rfl ((if0 _ _).trans (feq hc48_20).1)) ?_
              show Go p.tables e below _ (T0.setTop (mkF m 51 #[.val (.long xx), .second, .val (.int f1), .val (.long k1), .second, .val (.int f2), .val (.long k2), .second, .val (.int f3), .val (.long k3), .second, .val (.int f4), .val (.long k4), .second, .val (.int (1 : Int32))] []))
              refine Go.by (fun _ => XS.lload X0.here hx rfl (hb hby d9_51) rfl) ?_
              show Go p.tables e below _ (T0.setTop (mkF m 53 #[.val (.long xx), .second, .val (.int f1), .val (.long k1), .second, .val (.int f2), .val (.long k2), .second, .val (.int f3), .val (.long k3), .second, .val (.int f4), .val (.long k4), .second, .val (.int (1 : Int32))] [(.long k4)]))
              refine Go.by (fun _ => XS.lloadN X0.here hx rfl (hb hby d9_53) rfl) ?_
              show Go p.tables e below _ (T0.setTop (mkF m 54 #[.val (.long xx), .second, .val (.int f1), .val (.long k1), .second, .val (.int f2), .val (.long k2), .second, .val (.int f3), .val (.long k3), .second, .val (.int f4), .val (.long k4), .second, .val (.int (1 : Int32))] [(.long xx), (.long k4)]))
              refine Go.by (fun _ => XS.lcmp X0.here hx rfl (hb hby d9_54) rfl) ?_
              show Go p.tables e below _ (T0.setTop (mkF m 55 #[.val (.long xx), .second, .val (.int f1), .val (.long k1), .second, .val (.int f2), .val (.long k2), .second, .val (.int f3), .val (.long k3), .second, .val (.int f4), .val (.long k4), .second, .val (.int (1 : Int32))] [(.int (lcmpW k4 xx))]))
              by_cases hc55_21 : (lcmpW k4 xx) = (0 : Int32)
              · skip
                refine Go.by (fun _ => XS.ifYes X0.here hx rfl (pc0 := 55) (pc' := 62) rfl (hb hby d9_55) rfl ((if0 _ _).trans (teq hc55_21).1) (by decide) (by decide)) ?_
                show Go p.tables e below _ (T0.setTop (mkF m 62 #[.val (.long xx), .second, .val (.int f1), .val (.long k1), .second, .val (.int f2), .val (.long k2), .second, .val (.int f3), .val (.long k3), .second, .val (.int f4), .val (.long k4), .second, .val (.int (1 : Int32))] []))
                refine Go.by (fun _ => XS.iconst X0.here hx rfl (hb hby d9_62)) ?_
                show Go p.tables e below _ (T0.setTop (mkF m 63 #[.val (.long xx), .second, .val (.int f1), .val (.long k1), .second, .val (.int f2), .val (.long k2), .second, .val (.int f3), .val (.long k3), .second, .val (.int f4), .val (.long k4), .second, .val (.int (1 : Int32))] [(.int (0 : Int32))]))
                refine Go.retN X0 hx hlk (z' := (0 : Int32)) hret (by simp) (hb hby d9_63) rfl (by decide) (by decide) ?_
                simp only [lw_eq] at hc7_14 hc31_19 hc55_21
                have ec : pz xx f1 k1 f2 k2 f3 k3 f4 k4 = 0 := by
                  unfold pz
                  rw [if_neg (by simp [hc1_1, hc7_14, hc12_17, hc24_18, hc31_19, hc48_20, hc55_21])]
                rw [ec]
                exact ⟨rfl, rfl⟩
              · skip
                refine Go.by (fun _ => XS.ifNo X0.here hx rfl (hb hby d9_55) rfl ((if0 _ _).trans (feq hc55_21).1)) ?_
                show Go p.tables e below _ (T0.setTop (mkF m 58 #[.val (.long xx), .second, .val (.int f1), .val (.long k1), .second, .val (.int f2), .val (.long k2), .second, .val (.int f3), .val (.long k3), .second, .val (.int f4), .val (.long k4), .second, .val (.int (1 : Int32))] []))
                refine Go.by (fun _ => XS.iconst X0.here hx rfl (hb hby d9_58)) ?_
                show Go p.tables e below _ (T0.setTop (mkF m 59 #[.val (.long xx), .second, .val (.int f1), .val (.long k1), .second, .val (.int f2), .val (.long k2), .second, .val (.int f3), .val (.long k3), .second, .val (.int f4), .val (.long k4), .second, .val (.int (1 : Int32))] [(.int (1 : Int32))]))
                refine Go.by (fun _ => XS.goto X0.here hx rfl (pc0 := 59) (pc' := 63) rfl (hb hby d9_59) (by decide) (by decide)) ?_
                show Go p.tables e below _ (T0.setTop (mkF m 63 #[.val (.long xx), .second, .val (.int f1), .val (.long k1), .second, .val (.int f2), .val (.long k2), .second, .val (.int f3), .val (.long k3), .second, .val (.int f4), .val (.long k4), .second, .val (.int (1 : Int32))] [(.int (1 : Int32))]))
                refine Go.retN X0 hx hlk (z' := (1 : Int32)) hret (by simp) (hb hby d9_63) rfl (by decide) (by decide) ?_
                simp only [lw_eq] at hc7_14 hc31_19 hc55_21
                have ec : pz xx f1 k1 f2 k2 f3 k3 f4 k4 = 1 := by
                  unfold pz
                  rw [if_pos (by simp [hc1_1, hc7_14, hc12_17, hc24_18, hc31_19, hc48_20, hc55_21])]
                rw [ec]
                exact ⟨rfl, rfl⟩
          · skip
            refine Go.by (fun _ => XS.ifYes X0.here hx rfl (pc0 := 31) (pc' := 38) rfl (hb hby d9_31) rfl ((if0 _ _).trans (feq hc31_19).2) (by decide) (by decide)) ?_
            show Go p.tables e below _ (T0.setTop (mkF m 38 #[.val (.long xx), .second, .val (.int f1), .val (.long k1), .second, .val (.int f2), .val (.long k2), .second, .val (.int f3), .val (.long k3), .second, .val (.int f4), .val (.long k4), .second, .unset] []))
            refine Go.by (fun _ => XS.iconst X0.here hx rfl (hb hby d9_38)) ?_
            show Go p.tables e below _ (T0.setTop (mkF m 39 #[.val (.long xx), .second, .val (.int f1), .val (.long k1), .second, .val (.int f2), .val (.long k2), .second, .val (.int f3), .val (.long k3), .second, .val (.int f4), .val (.long k4), .second, .unset] [(.int (0 : Int32))]))
            refine Go.by (fun _ => XS.istore X0.here hx rfl (hb hby d9_39) rfl (l' := #[.val (.long xx), .second, .val (.int f1), .val (.long k1), .second, .val (.int f2), .val (.long k2), .second, .val (.int f3), .val (.long k3), .second, .val (.int f4), .val (.long k4), .second, .val (.int (0 : Int32))]) rfl) ?_
            show Go p.tables e below _ (T0.setTop (mkF m 41 #[.val (.long xx), .second, .val (.int f1), .val (.long k1), .second, .val (.int f2), .val (.long k2), .second, .val (.int f3), .val (.long k3), .second, .val (.int f4), .val (.long k4), .second, .val (.int (0 : Int32))] []))
            refine Go.by (fun _ => XS.iload X0.here hx rfl (hb hby d9_41) rfl) ?_
            show Go p.tables e below _ (T0.setTop (mkF m 43 #[.val (.long xx), .second, .val (.int f1), .val (.long k1), .second, .val (.int f2), .val (.long k2), .second, .val (.int f3), .val (.long k3), .second, .val (.int f4), .val (.long k4), .second, .val (.int (0 : Int32))] [(.int (0 : Int32))]))
            refine Go.by (fun _ => XS.ifYes X0.here hx rfl (pc0 := 43) (pc' := 62) rfl (hb hby d9_43) rfl ((if0 _ _).trans (teq (by decide)).1) (by decide) (by decide)) ?_
            show Go p.tables e below _ (T0.setTop (mkF m 62 #[.val (.long xx), .second, .val (.int f1), .val (.long k1), .second, .val (.int f2), .val (.long k2), .second, .val (.int f3), .val (.long k3), .second, .val (.int f4), .val (.long k4), .second, .val (.int (0 : Int32))] []))
            refine Go.by (fun _ => XS.iconst X0.here hx rfl (hb hby d9_62)) ?_
            show Go p.tables e below _ (T0.setTop (mkF m 63 #[.val (.long xx), .second, .val (.int f1), .val (.long k1), .second, .val (.int f2), .val (.long k2), .second, .val (.int f3), .val (.long k3), .second, .val (.int f4), .val (.long k4), .second, .val (.int (0 : Int32))] [(.int (0 : Int32))]))
            refine Go.retN X0 hx hlk (z' := (0 : Int32)) hret (by simp) (hb hby d9_63) rfl (by decide) (by decide) ?_
            simp only [lw_eq] at hc7_14 hc31_19
            have ec : pz xx f1 k1 f2 k2 f3 k3 f4 k4 = 0 := by
              unfold pz
              rw [if_neg (by simp [hc1_1, hc7_14, hc12_17, hc24_18, hc31_19])]
            rw [ec]
            exact ⟨rfl, rfl⟩
      · skip
        refine Go.by (fun _ => XS.ifNo X0.here hx rfl (hb hby d9_12) rfl ((if0 _ _).trans (feq hc12_17).1)) ?_
        show Go p.tables e below _ (T0.setTop (mkF m 15 #[.val (.long xx), .second, .val (.int f1), .val (.long k1), .second, .val (.int f2), .val (.long k2), .second, .val (.int f3), .val (.long k3), .second, .val (.int f4), .val (.long k4), .second, .unset] []))
        refine Go.by (fun _ => XS.lload X0.here hx rfl (hb hby d9_15) rfl) ?_
        show Go p.tables e below _ (T0.setTop (mkF m 17 #[.val (.long xx), .second, .val (.int f1), .val (.long k1), .second, .val (.int f2), .val (.long k2), .second, .val (.int f3), .val (.long k3), .second, .val (.int f4), .val (.long k4), .second, .unset] [(.long k2)]))
        refine Go.by (fun _ => XS.lloadN X0.here hx rfl (hb hby d9_17) rfl) ?_
        show Go p.tables e below _ (T0.setTop (mkF m 18 #[.val (.long xx), .second, .val (.int f1), .val (.long k1), .second, .val (.int f2), .val (.long k2), .second, .val (.int f3), .val (.long k3), .second, .val (.int f4), .val (.long k4), .second, .unset] [(.long xx), (.long k2)]))
        refine Go.by (fun _ => XS.lcmp X0.here hx rfl (hb hby d9_18) rfl) ?_
        show Go p.tables e below _ (T0.setTop (mkF m 19 #[.val (.long xx), .second, .val (.int f1), .val (.long k1), .second, .val (.int f2), .val (.long k2), .second, .val (.int f3), .val (.long k3), .second, .val (.int f4), .val (.long k4), .second, .unset] [(.int (lcmpW k2 xx))]))
        by_cases hc19_22 : (lcmpW k2 xx) = (0 : Int32)
        · skip
          refine Go.by (fun _ => XS.ifYes X0.here hx rfl (pc0 := 19) (pc' := 34) rfl (hb hby d9_19) rfl ((if0 _ _).trans (teq hc19_22).1) (by decide) (by decide)) ?_
          show Go p.tables e below _ (T0.setTop (mkF m 34 #[.val (.long xx), .second, .val (.int f1), .val (.long k1), .second, .val (.int f2), .val (.long k2), .second, .val (.int f3), .val (.long k3), .second, .val (.int f4), .val (.long k4), .second, .unset] []))
          refine Go.by (fun _ => XS.iconst X0.here hx rfl (hb hby d9_34)) ?_
          show Go p.tables e below _ (T0.setTop (mkF m 35 #[.val (.long xx), .second, .val (.int f1), .val (.long k1), .second, .val (.int f2), .val (.long k2), .second, .val (.int f3), .val (.long k3), .second, .val (.int f4), .val (.long k4), .second, .unset] [(.int (1 : Int32))]))
          refine Go.by (fun _ => XS.goto X0.here hx rfl (pc0 := 35) (pc' := 39) rfl (hb hby d9_35) (by decide) (by decide)) ?_
          show Go p.tables e below _ (T0.setTop (mkF m 39 #[.val (.long xx), .second, .val (.int f1), .val (.long k1), .second, .val (.int f2), .val (.long k2), .second, .val (.int f3), .val (.long k3), .second, .val (.int f4), .val (.long k4), .second, .unset] [(.int (1 : Int32))]))
          refine Go.by (fun _ => XS.istore X0.here hx rfl (hb hby d9_39) rfl (l' := #[.val (.long xx), .second, .val (.int f1), .val (.long k1), .second, .val (.int f2), .val (.long k2), .second, .val (.int f3), .val (.long k3), .second, .val (.int f4), .val (.long k4), .second, .val (.int (1 : Int32))]) rfl) ?_
          show Go p.tables e below _ (T0.setTop (mkF m 41 #[.val (.long xx), .second, .val (.int f1), .val (.long k1), .second, .val (.int f2), .val (.long k2), .second, .val (.int f3), .val (.long k3), .second, .val (.int f4), .val (.long k4), .second, .val (.int (1 : Int32))] []))
          refine Go.by (fun _ => XS.iload X0.here hx rfl (hb hby d9_41) rfl) ?_
          show Go p.tables e below _ (T0.setTop (mkF m 43 #[.val (.long xx), .second, .val (.int f1), .val (.long k1), .second, .val (.int f2), .val (.long k2), .second, .val (.int f3), .val (.long k3), .second, .val (.int f4), .val (.long k4), .second, .val (.int (1 : Int32))] [(.int (1 : Int32))]))
          refine Go.by (fun _ => XS.ifNo X0.here hx rfl (hb hby d9_43) rfl ((if0 _ _).trans (feq (by decide)).1)) ?_
          show Go p.tables e below _ (T0.setTop (mkF m 46 #[.val (.long xx), .second, .val (.int f1), .val (.long k1), .second, .val (.int f2), .val (.long k2), .second, .val (.int f3), .val (.long k3), .second, .val (.int f4), .val (.long k4), .second, .val (.int (1 : Int32))] []))
          refine Go.by (fun _ => XS.iload X0.here hx rfl (hb hby d9_46) rfl) ?_
          show Go p.tables e below _ (T0.setTop (mkF m 48 #[.val (.long xx), .second, .val (.int f1), .val (.long k1), .second, .val (.int f2), .val (.long k2), .second, .val (.int f3), .val (.long k3), .second, .val (.int f4), .val (.long k4), .second, .val (.int (1 : Int32))] [(.int f4)]))
          by_cases hc48_23 : f4 = (0 : Int32)
          · skip
            refine Go.by (fun _ => XS.ifYes X0.here hx rfl (pc0 := 48) (pc' := 58) rfl (hb hby d9_48) rfl ((if0 _ _).trans (teq hc48_23).1) (by decide) (by decide)) ?_
            show Go p.tables e below _ (T0.setTop (mkF m 58 #[.val (.long xx), .second, .val (.int f1), .val (.long k1), .second, .val (.int f2), .val (.long k2), .second, .val (.int f3), .val (.long k3), .second, .val (.int f4), .val (.long k4), .second, .val (.int (1 : Int32))] []))
            refine Go.by (fun _ => XS.iconst X0.here hx rfl (hb hby d9_58)) ?_
            show Go p.tables e below _ (T0.setTop (mkF m 59 #[.val (.long xx), .second, .val (.int f1), .val (.long k1), .second, .val (.int f2), .val (.long k2), .second, .val (.int f3), .val (.long k3), .second, .val (.int f4), .val (.long k4), .second, .val (.int (1 : Int32))] [(.int (1 : Int32))]))
            refine Go.by (fun _ => XS.goto X0.here hx rfl (pc0 := 59) (pc' := 63) rfl (hb hby d9_59) (by decide) (by decide)) ?_
            show Go p.tables e below _ (T0.setTop (mkF m 63 #[.val (.long xx), .second, .val (.int f1), .val (.long k1), .second, .val (.int f2), .val (.long k2), .second, .val (.int f3), .val (.long k3), .second, .val (.int f4), .val (.long k4), .second, .val (.int (1 : Int32))] [(.int (1 : Int32))]))
            refine Go.retN X0 hx hlk (z' := (1 : Int32)) hret (by simp) (hb hby d9_63) rfl (by decide) (by decide) ?_
            simp only [lw_eq] at hc7_14 hc19_22
            have ec : pz xx f1 k1 f2 k2 f3 k3 f4 k4 = 1 := by
              unfold pz
              rw [if_pos (by simp [hc1_1, hc7_14, hc12_17, hc19_22, hc48_23])]
            rw [ec]
            exact ⟨rfl, rfl⟩
          · skip
            refine Go.by (fun _ => XS.ifNo X0.here hx rfl (hb hby d9_48) rfl ((if0 _ _).trans (feq hc48_23).1)) ?_
            show Go p.tables e below _ (T0.setTop (mkF m 51 #[.val (.long xx), .second, .val (.int f1), .val (.long k1), .second, .val (.int f2), .val (.long k2), .second, .val (.int f3), .val (.long k3), .second, .val (.int f4), .val (.long k4), .second, .val (.int (1 : Int32))] []))
            refine Go.by (fun _ => XS.lload X0.here hx rfl (hb hby d9_51) rfl) ?_
            show Go p.tables e below _ (T0.setTop (mkF m 53 #[.val (.long xx), .second, .val (.int f1), .val (.long k1), .second, .val (.int f2), .val (.long k2), .second, .val (.int f3), .val (.long k3), .second, .val (.int f4), .val (.long k4), .second, .val (.int (1 : Int32))] [(.long k4)]))
            refine Go.by (fun _ => XS.lloadN X0.here hx rfl (hb hby d9_53) rfl) ?_
            show Go p.tables e below _ (T0.setTop (mkF m 54 #[.val (.long xx), .second, .val (.int f1), .val (.long k1), .second, .val (.int f2), .val (.long k2), .second, .val (.int f3), .val (.long k3), .second, .val (.int f4), .val (.long k4), .second, .val (.int (1 : Int32))] [(.long xx), (.long k4)]))
            refine Go.by (fun _ => XS.lcmp X0.here hx rfl (hb hby d9_54) rfl) ?_
            show Go p.tables e below _ (T0.setTop (mkF m 55 #[.val (.long xx), .second, .val (.int f1), .val (.long k1), .second, .val (.int f2), .val (.long k2), .second, .val (.int f3), .val (.long k3), .second, .val (.int f4), .val (.long k4), .second, .val (.int (1 : Int32))] [(.int (lcmpW k4 xx))]))
            by_cases hc55_24 : (lcmpW k4 xx) = (0 : Int32)
            · skip
              refine Go.by (fun _ => XS.ifYes X0.here hx rfl (pc0 := 55) (pc' := 62) rfl (hb hby d9_55) rfl ((if0 _ _).trans (teq hc55_24).1) (by decide) (by decide)) ?_
              show Go p.tables e below _ (T0.setTop (mkF m 62 #[.val (.long xx), .second, .val (.int f1), .val (.long k1), .second, .val (.int f2), .val (.long k2), .second, .val (.int f3), .val (.long k3), .second, .val (.int f4), .val (.long k4), .second, .val (.int (1 : Int32))] []))
              refine Go.by (fun _ => XS.iconst X0.here hx rfl (hb hby d9_62)) ?_
              show Go p.tables e below _ (T0.setTop (mkF m 63 #[.val (.long xx), .second, .val (.int f1), .val (.long k1), .second, .val (.int f2), .val (.long k2), .second, .val (.int f3), .val (.long k3), .second, .val (.int f4), .val (.long k4), .second, .val (.int (1 : Int32))] [(.int (0 : Int32))]))
              refine Go.retN X0 hx hlk (z' := (0 : Int32)) hret (by simp) (hb hby d9_63) rfl (by decide) (by decide) ?_
              simp only [lw_eq] at hc7_14 hc19_22 hc55_24
              have ec : pz xx f1 k1 f2 k2 f3 k3 f4 k4 = 0 := by
                unfold pz
                rw [if_neg (by simp [hc1_1, hc7_14, hc12_17, hc19_22, hc48_23, hc55_24])]
              rw [ec]
              exact ⟨rfl, rfl⟩
            · skip
              refine Go.by (fun _ => XS.ifNo X0.here hx rfl (hb hby d9_55) rfl ((if0 _ _).trans (feq hc55_24).1)) ?_
              show Go p.tables e below _ (T0.setTop (mkF m 58 #[.val (.long xx), .second, .val (.int f1), .val (.long k1), .second, .val (.int f2), .val (.long k2), .second, .val (.int f3), .val (.long k3), .second, .val (.int f4), .val (.long k4), .second, .val (.int (1 : Int32))] []))
              refine Go.by (fun _ => XS.iconst X0.here hx rfl (hb hby d9_58)) ?_
              show Go p.tables e below _ (T0.setTop (mkF m 59 #[.val (.long xx), .second, .val (.int f1), .val (.long k1), .second, .val (.int f2), .val (.long k2), .second, .val (.int f3), .val (.long k3), .second, .val (.int f4), .val (.long k4), .second, .val (.int (1 : Int32))] [(.int (1 : Int32))]))
              refine Go.by (fun _ => XS.goto X0.here hx rfl (pc0 := 59) (pc' := 63) rfl (hb hby d9_59) (by decide) (by decide)) ?_
              show Go p.tables e below _ (T0.setTop (mkF m 63 #[.val (.long xx), .second, .val (.int f1), .val (.long k1), .second, .val (.int f2), .val (.long k2), .second, .val (.int f3), .val (.long k3), .second, .val (.int f4), .val (.long k4), .second, .val (.int (1 : Int32))] [(.int (1 : Int32))]))
              refine Go.retN X0 hx hlk (z' := (1 : Int32)) hret (by simp) (hb hby d9_63) rfl (by decide) (by decide) ?_
              simp only [lw_eq] at hc7_14 hc19_22 hc55_24
              have ec : pz xx f1 k1 f2 k2 f3 k3 f4 k4 = 1 := by
                unfold pz
                rw [if_pos (by simp [hc1_1, hc7_14, hc12_17, hc19_22, hc48_23, hc55_24])]
              rw [ec]
              exact ⟨rfl, rfl⟩
        · skip
          refine Go.by (fun _ => XS.ifNo X0.here hx rfl (hb hby d9_19) rfl ((if0 _ _).trans (feq hc19_22).1)) ?_
          show Go p.tables e below _ (T0.setTop (mkF m 22 #[.val (.long xx), .second, .val (.int f1), .val (.long k1), .second, .val (.int f2), .val (.long k2), .second, .val (.int f3), .val (.long k3), .second, .val (.int f4), .val (.long k4), .second, .unset] []))
          refine Go.by (fun _ => XS.iload X0.here hx rfl (hb hby d9_22) rfl) ?_
          show Go p.tables e below _ (T0.setTop (mkF m 24 #[.val (.long xx), .second, .val (.int f1), .val (.long k1), .second, .val (.int f2), .val (.long k2), .second, .val (.int f3), .val (.long k3), .second, .val (.int f4), .val (.long k4), .second, .unset] [(.int f3)]))
          by_cases hc24_25 : f3 = (0 : Int32)
          · skip
            refine Go.by (fun _ => XS.ifYes X0.here hx rfl (pc0 := 24) (pc' := 38) rfl (hb hby d9_24) rfl ((if0 _ _).trans (teq hc24_25).1) (by decide) (by decide)) ?_
            show Go p.tables e below _ (T0.setTop (mkF m 38 #[.val (.long xx), .second, .val (.int f1), .val (.long k1), .second, .val (.int f2), .val (.long k2), .second, .val (.int f3), .val (.long k3), .second, .val (.int f4), .val (.long k4), .second, .unset] []))
            refine Go.by (fun _ => XS.iconst X0.here hx rfl (hb hby d9_38)) ?_
            show Go p.tables e below _ (T0.setTop (mkF m 39 #[.val (.long xx), .second, .val (.int f1), .val (.long k1), .second, .val (.int f2), .val (.long k2), .second, .val (.int f3), .val (.long k3), .second, .val (.int f4), .val (.long k4), .second, .unset] [(.int (0 : Int32))]))
            refine Go.by (fun _ => XS.istore X0.here hx rfl (hb hby d9_39) rfl (l' := #[.val (.long xx), .second, .val (.int f1), .val (.long k1), .second, .val (.int f2), .val (.long k2), .second, .val (.int f3), .val (.long k3), .second, .val (.int f4), .val (.long k4), .second, .val (.int (0 : Int32))]) rfl) ?_
            show Go p.tables e below _ (T0.setTop (mkF m 41 #[.val (.long xx), .second, .val (.int f1), .val (.long k1), .second, .val (.int f2), .val (.long k2), .second, .val (.int f3), .val (.long k3), .second, .val (.int f4), .val (.long k4), .second, .val (.int (0 : Int32))] []))
            refine Go.by (fun _ => XS.iload X0.here hx rfl (hb hby d9_41) rfl) ?_
            show Go p.tables e below _ (T0.setTop (mkF m 43 #[.val (.long xx), .second, .val (.int f1), .val (.long k1), .second, .val (.int f2), .val (.long k2), .second, .val (.int f3), .val (.long k3), .second, .val (.int f4), .val (.long k4), .second, .val (.int (0 : Int32))] [(.int (0 : Int32))]))
            refine Go.by (fun _ => XS.ifYes X0.here hx rfl (pc0 := 43) (pc' := 62) rfl (hb hby d9_43) rfl ((if0 _ _).trans (teq (by decide)).1) (by decide) (by decide)) ?_
            show Go p.tables e below _ (T0.setTop (mkF m 62 #[.val (.long xx), .second, .val (.int f1), .val (.long k1), .second, .val (.int f2), .val (.long k2), .second, .val (.int f3), .val (.long k3), .second, .val (.int f4), .val (.long k4), .second, .val (.int (0 : Int32))] []))
            refine Go.by (fun _ => XS.iconst X0.here hx rfl (hb hby d9_62)) ?_
            show Go p.tables e below _ (T0.setTop (mkF m 63 #[.val (.long xx), .second, .val (.int f1), .val (.long k1), .second, .val (.int f2), .val (.long k2), .second, .val (.int f3), .val (.long k3), .second, .val (.int f4), .val (.long k4), .second, .val (.int (0 : Int32))] [(.int (0 : Int32))]))
            refine Go.retN X0 hx hlk (z' := (0 : Int32)) hret (by simp) (hb hby d9_63) rfl (by decide) (by decide) ?_
            simp only [lw_eq] at hc7_14 hc19_22
            have ec : pz xx f1 k1 f2 k2 f3 k3 f4 k4 = 0 := by
              unfold pz
              rw [if_neg (by simp [hc1_1, hc7_14, hc12_17, hc19_22, hc24_25])]
            rw [ec]
            exact ⟨rfl, rfl⟩
          · skip
            refine Go.by (fun _ => XS.ifNo X0.here hx rfl (hb hby d9_24) rfl ((if0 _ _).trans (feq hc24_25).1)) ?_
            show Go p.tables e below _ (T0.setTop (mkF m 27 #[.val (.long xx), .second, .val (.int f1), .val (.long k1), .second, .val (.int f2), .val (.long k2), .second, .val (.int f3), .val (.long k3), .second, .val (.int f4), .val (.long k4), .second, .unset] []))
            refine Go.by (fun _ => XS.lload X0.here hx rfl (hb hby d9_27) rfl) ?_
            show Go p.tables e below _ (T0.setTop (mkF m 29 #[.val (.long xx), .second, .val (.int f1), .val (.long k1), .second, .val (.int f2), .val (.long k2), .second, .val (.int f3), .val (.long k3), .second, .val (.int f4), .val (.long k4), .second, .unset] [(.long k3)]))
            refine Go.by (fun _ => XS.lloadN X0.here hx rfl (hb hby d9_29) rfl) ?_
            show Go p.tables e below _ (T0.setTop (mkF m 30 #[.val (.long xx), .second, .val (.int f1), .val (.long k1), .second, .val (.int f2), .val (.long k2), .second, .val (.int f3), .val (.long k3), .second, .val (.int f4), .val (.long k4), .second, .unset] [(.long xx), (.long k3)]))
            refine Go.by (fun _ => XS.lcmp X0.here hx rfl (hb hby d9_30) rfl) ?_
            show Go p.tables e below _ (T0.setTop (mkF m 31 #[.val (.long xx), .second, .val (.int f1), .val (.long k1), .second, .val (.int f2), .val (.long k2), .second, .val (.int f3), .val (.long k3), .second, .val (.int f4), .val (.long k4), .second, .unset] [(.int (lcmpW k3 xx))]))
            by_cases hc31_26 : (lcmpW k3 xx) = (0 : Int32)
            · skip
              refine Go.by (fun _ => XS.ifNo X0.here hx rfl (hb hby d9_31) rfl ((if0 _ _).trans (teq hc31_26).2)) ?_
              show Go p.tables e below _ (T0.setTop (mkF m 34 #[.val (.long xx), .second, .val (.int f1), .val (.long k1), .second, .val (.int f2), .val (.long k2), .second, .val (.int f3), .val (.long k3), .second, .val (.int f4), .val (.long k4), .second, .unset] []))
              refine Go.by (fun _ => XS.iconst X0.here hx rfl (hb hby d9_34)) ?_
              show Go p.tables e below _ (T0.setTop (mkF m 35 #[.val (.long xx), .second, .val (.int f1), .val (.long k1), .second, .val (.int f2), .val (.long k2), .second, .val (.int f3), .val (.long k3), .second, .val (.int f4), .val (.long k4), .second, .unset] [(.int (1 : Int32))]))
              refine Go.by (fun _ => XS.goto X0.here hx rfl (pc0 := 35) (pc' := 39) rfl (hb hby d9_35) (by decide) (by decide)) ?_
              show Go p.tables e below _ (T0.setTop (mkF m 39 #[.val (.long xx), .second, .val (.int f1), .val (.long k1), .second, .val (.int f2), .val (.long k2), .second, .val (.int f3), .val (.long k3), .second, .val (.int f4), .val (.long k4), .second, .unset] [(.int (1 : Int32))]))
              refine Go.by (fun _ => XS.istore X0.here hx rfl (hb hby d9_39) rfl (l' := #[.val (.long xx), .second, .val (.int f1), .val (.long k1), .second, .val (.int f2), .val (.long k2), .second, .val (.int f3), .val (.long k3), .second, .val (.int f4), .val (.long k4), .second, .val (.int (1 : Int32))]) rfl) ?_
              show Go p.tables e below _ (T0.setTop (mkF m 41 #[.val (.long xx), .second, .val (.int f1), .val (.long k1), .second, .val (.int f2), .val (.long k2), .second, .val (.int f3), .val (.long k3), .second, .val (.int f4), .val (.long k4), .second, .val (.int (1 : Int32))] []))
              refine Go.by (fun _ => XS.iload X0.here hx rfl (hb hby d9_41) rfl) ?_
              show Go p.tables e below _ (T0.setTop (mkF m 43 #[.val (.long xx), .second, .val (.int f1), .val (.long k1), .second, .val (.int f2), .val (.long k2), .second, .val (.int f3), .val (.long k3), .second, .val (.int f4), .val (.long k4), .second, .val (.int (1 : Int32))] [(.int (1 : Int32))]))
              refine Go.by (fun _ => XS.ifNo X0.here hx rfl (hb hby d9_43) rfl ((if0 _ _).trans (feq (by decide)).1)) ?_
              show Go p.tables e below _ (T0.setTop (mkF m 46 #[.val (.long xx), .second, .val (.int f1), .val (.long k1), .second, .val (.int f2), .val (.long k2), .second, .val (.int f3), .val (.long k3), .second, .val (.int f4), .val (.long k4), .second, .val (.int (1 : Int32))] []))
              refine Go.by (fun _ => XS.iload X0.here hx rfl (hb hby d9_46) rfl) ?_
              show Go p.tables e below _ (T0.setTop (mkF m 48 #[.val (.long xx), .second, .val (.int f1), .val (.long k1), .second, .val (.int f2), .val (.long k2), .second, .val (.int f3), .val (.long k3), .second, .val (.int f4), .val (.long k4), .second, .val (.int (1 : Int32))] [(.int f4)]))
              by_cases hc48_27 : f4 = (0 : Int32)
              · skip
                refine Go.by (fun _ => XS.ifYes X0.here hx rfl (pc0 := 48) (pc' := 58) rfl (hb hby d9_48) rfl ((if0 _ _).trans (teq hc48_27).1) (by decide) (by decide)) ?_
                show Go p.tables e below _ (T0.setTop (mkF m 58 #[.val (.long xx), .second, .val (.int f1), .val (.long k1), .second, .val (.int f2), .val (.long k2), .second, .val (.int f3), .val (.long k3), .second, .val (.int f4), .val (.long k4), .second, .val (.int (1 : Int32))] []))
                refine Go.by (fun _ => XS.iconst X0.here hx rfl (hb hby d9_58)) ?_
                show Go p.tables e below _ (T0.setTop (mkF m 59 #[.val (.long xx), .second, .val (.int f1), .val (.long k1), .second, .val (.int f2), .val (.long k2), .second, .val (.int f3), .val (.long k3), .second, .val (.int f4), .val (.long k4), .second, .val (.int (1 : Int32))] [(.int (1 : Int32))]))
                refine Go.by (fun _ => XS.goto X0.here hx rfl (pc0 := 59) (pc' := 63) rfl (hb hby d9_59) (by decide) (by decide)) ?_
                show Go p.tables e below _ (T0.setTop (mkF m 63 #[.val (.long xx), .second, .val (.int f1), .val (.long k1), .second, .val (.int f2), .val (.long k2), .second, .val (.int f3), .val (.long k3), .second, .val (.int f4), .val (.long k4), .second, .val (.int (1 : Int32))] [(.int (1 : Int32))]))
                refine Go.retN X0 hx hlk (z' := (1 : Int32)) hret (by simp) (hb hby d9_63) rfl (by decide) (by decide) ?_
                simp only [lw_eq] at hc7_14 hc19_22 hc31_26
                have ec : pz xx f1 k1 f2 k2 f3 k3 f4 k4 = 1 := by
                  unfold pz
                  rw [if_pos (by simp [hc1_1, hc7_14, hc12_17, hc19_22, hc24_25, hc31_26, hc48_27])]
                rw [ec]
                exact ⟨rfl, rfl⟩
              · skip
                refine Go.by (fun _ => XS.ifNo X0.here hx rfl (hb hby d9_48) rfl ((if0 _ _).trans (feq hc48_27).1)) ?_
                show Go p.tables e below _ (T0.setTop (mkF m 51 #[.val (.long xx), .second, .val (.int f1), .val (.long k1), .second, .val (.int f2), .val (.long k2), .second, .val (.int f3), .val (.long k3), .second, .val (.int f4), .val (.long k4), .second, .val (.int (1 : Int32))] []))
                refine Go.by (fun _ => XS.lload X0.here hx rfl (hb hby d9_51) rfl) ?_
                show Go p.tables e below _ (T0.setTop (mkF m 53 #[.val (.long xx), .second, .val (.int f1), .val (.long k1), .second, .val (.int f2), .val (.long k2), .second, .val (.int f3), .val (.long k3), .second, .val (.int f4), .val (.long k4), .second, .val (.int (1 : Int32))] [(.long k4)]))
                refine Go.by (fun _ => XS.lloadN X0.here hx rfl (hb hby d9_53) rfl) ?_
                show Go p.tables e below _ (T0.setTop (mkF m 54 #[.val (.long xx), .second, .val (.int f1), .val (.long k1), .second, .val (.int f2), .val (.long k2), .second, .val (.int f3), .val (.long k3), .second, .val (.int f4), .val (.long k4), .second, .val (.int (1 : Int32))] [(.long xx), (.long k4)]))
                refine Go.by (fun _ => XS.lcmp X0.here hx rfl (hb hby d9_54) rfl) ?_
                show Go p.tables e below _ (T0.setTop (mkF m 55 #[.val (.long xx), .second, .val (.int f1), .val (.long k1), .second, .val (.int f2), .val (.long k2), .second, .val (.int f3), .val (.long k3), .second, .val (.int f4), .val (.long k4), .second, .val (.int (1 : Int32))] [(.int (lcmpW k4 xx))]))
                by_cases hc55_28 : (lcmpW k4 xx) = (0 : Int32)
                · skip
                  refine Go.by (fun _ => XS.ifYes X0.here hx rfl (pc0 := 55) (pc' := 62) rfl (hb hby d9_55) rfl ((if0 _ _).trans (teq hc55_28).1) (by decide) (by decide)) ?_
                  show Go p.tables e below _ (T0.setTop (mkF m 62 #[.val (.long xx), .second, .val (.int f1), .val (.long k1), .second, .val (.int f2), .val (.long k2), .second, .val (.int f3), .val (.long k3), .second, .val (.int f4), .val (.long k4), .second, .val (.int (1 : Int32))] []))
                  refine Go.by (fun _ => XS.iconst X0.here hx rfl (hb hby d9_62)) ?_
                  show Go p.tables e below _ (T0.setTop (mkF m 63 #[.val (.long xx), .second, .val (.int f1), .val (.long k1), .second, .val (.int f2), .val (.long k2), .second, .val (.int f3), .val (.long k3), .second, .val (.int f4), .val (.long k4), .second, .val (.int (1 : Int32))] [(.int (0 : Int32))]))
                  refine Go.retN X0 hx hlk (z' := (0 : Int32)) hret (by simp) (hb hby d9_63) rfl (by decide) (by decide) ?_
                  simp only [lw_eq] at hc7_14 hc19_22 hc31_26 hc55_28
                  have ec : pz xx f1 k1 f2 k2 f3 k3 f4 k4 = 0 := by
                    unfold pz
                    rw [if_neg (by simp [hc1_1, hc7_14, hc12_17, hc19_22, hc24_25, hc31_26, hc48_27, hc55_28])]
                  rw [ec]
                  exact ⟨rfl, rfl⟩
                · skip
                  refine Go.by (fun _ => XS.ifNo X0.here hx rfl (hb hby d9_55) rfl ((if0 _ _).trans (feq hc55_28).1)) ?_
                  show Go p.tables e below _ (T0.setTop (mkF m 58 #[.val (.long xx), .second, .val (.int f1), .val (.long k1), .second, .val (.int f2), .val (.long k2), .second, .val (.int f3), .val (.long k3), .second, .val (.int f4), .val (.long k4), .second, .val (.int (1 : Int32))] []))
                  refine Go.by (fun _ => XS.iconst X0.here hx rfl (hb hby d9_58)) ?_
                  show Go p.tables e below _ (T0.setTop (mkF m 59 #[.val (.long xx), .second, .val (.int f1), .val (.long k1), .second, .val (.int f2), .val (.long k2), .second, .val (.int f3), .val (.long k3), .second, .val (.int f4), .val (.long k4), .second, .val (.int (1 : Int32))] [(.int (1 : Int32))]))
                  refine Go.by (fun _ => XS.goto X0.here hx rfl (pc0 := 59) (pc' := 63) rfl (hb hby d9_59) (by decide) (by decide)) ?_
                  show Go p.tables e below _ (T0.setTop (mkF m 63 #[.val (.long xx), .second, .val (.int f1), .val (.long k1), .second, .val (.int f2), .val (.long k2), .second, .val (.int f3), .val (.long k3), .second, .val (.int f4), .val (.long k4), .second, .val (.int (1 : Int32))] [(.int (1 : Int32))]))
                  refine Go.retN X0 hx hlk (z' := (1 : Int32)) hret (by simp) (hb hby d9_63) rfl (by decide) (by decide) ?_
                  simp only [lw_eq] at hc7_14 hc19_22 hc31_26 hc55_28
                  have ec : pz xx f1 k1 f2 k2 f3 k3 f4 k4 = 1 := by
                    unfold pz
                    rw [if_pos (by simp [hc1_1, hc7_14, hc12_17, hc19_22, hc24_25, hc31_26, hc48_27, hc55_28])]
                  rw [ec]
                  exact ⟨rfl, rfl⟩
            · skip
              refine Go.by (fun _ => XS.ifYes X0.here hx rfl (pc0 := 31) (pc' := 38) rfl (hb hby d9_31) rfl ((if0 _ _).trans (feq hc31_26).2) (by decide) (by decide)) ?_
              show Go p.tables e below _ (T0.setTop (mkF m 38 #[.val (.long xx), .second, .val (.int f1), .val (.long k1), .second, .val (.int f2), .val (.long k2), .second, .val (.int f3), .val (.long k3), .second, .val (.int f4), .val (.long k4), .second, .unset] []))
              refine Go.by (fun _ => XS.iconst X0.here hx rfl (hb hby d9_38)) ?_
              show Go p.tables e below _ (T0.setTop (mkF m 39 #[.val (.long xx), .second, .val (.int f1), .val (.long k1), .second, .val (.int f2), .val (.long k2), .second, .val (.int f3), .val (.long k3), .second, .val (.int f4), .val (.long k4), .second, .unset] [(.int (0 : Int32))]))
              refine Go.by (fun _ => XS.istore X0.here hx rfl (hb hby d9_39) rfl (l' := #[.val (.long xx), .second, .val (.int f1), .val (.long k1), .second, .val (.int f2), .val (.long k2), .second, .val (.int f3), .val (.long k3), .second, .val (.int f4), .val (.long k4), .second, .val (.int (0 : Int32))]) rfl) ?_
              show Go p.tables e below _ (T0.setTop (mkF m 41 #[.val (.long xx), .second, .val (.int f1), .val (.long k1), .second, .val (.int f2), .val (.long k2), .second, .val (.int f3), .val (.long k3), .second, .val (.int f4), .val (.long k4), .second, .val (.int (0 : Int32))] []))
              refine Go.by (fun _ => XS.iload X0.here hx rfl (hb hby d9_41) rfl) ?_
              show Go p.tables e below _ (T0.setTop (mkF m 43 #[.val (.long xx), .second, .val (.int f1), .val (.long k1), .second, .val (.int f2), .val (.long k2), .second, .val (.int f3), .val (.long k3), .second, .val (.int f4), .val (.long k4), .second, .val (.int (0 : Int32))] [(.int (0 : Int32))]))
              refine Go.by (fun _ => XS.ifYes X0.here hx rfl (pc0 := 43) (pc' := 62) rfl (hb hby d9_43) rfl ((if0 _ _).trans (teq (by decide)).1) (by decide) (by decide)) ?_
              show Go p.tables e below _ (T0.setTop (mkF m 62 #[.val (.long xx), .second, .val (.int f1), .val (.long k1), .second, .val (.int f2), .val (.long k2), .second, .val (.int f3), .val (.long k3), .second, .val (.int f4), .val (.long k4), .second, .val (.int (0 : Int32))] []))
              refine Go.by (fun _ => XS.iconst X0.here hx rfl (hb hby d9_62)) ?_
              show Go p.tables e below _ (T0.setTop (mkF m 63 #[.val (.long xx), .second, .val (.int f1), .val (.long k1), .second, .val (.int f2), .val (.long k2), .second, .val (.int f3), .val (.long k3), .second, .val (.int f4), .val (.long k4), .second, .val (.int (0 : Int32))] [(.int (0 : Int32))]))
              refine Go.retN X0 hx hlk (z' := (0 : Int32)) hret (by simp) (hb hby d9_63) rfl (by decide) (by decide) ?_
              simp only [lw_eq] at hc7_14 hc19_22 hc31_26
              have ec : pz xx f1 k1 f2 k2 f3 k3 f4 k4 = 0 := by
                unfold pz
                rw [if_neg (by simp [hc1_1, hc7_14, hc12_17, hc19_22, hc24_25, hc31_26])]
              rw [ec]
              exact ⟨rfl, rfl⟩
theorem d2_0 : decode prog_46_method_1_code 0 = .ok (.aload_n 0, 1) := by decide +kernel
theorem d2_1 : decode prog_46_method_1_code 1 = .ok (.invokespecial 1, 3) := by decide +kernel
theorem d2_4 : decode prog_46_method_1_code 4 = .ok (.aload_n 0, 1) := by decide +kernel
theorem d2_5 : decode prog_46_method_1_code 5 = .ok (.bipush 32, 2) := by decide +kernel
theorem d2_7 : decode prog_46_method_1_code 7 = .ok (.newarray .long, 2) := by decide +kernel
theorem d2_9 : decode prog_46_method_1_code 9 = .ok (.putfield 9, 3) := by decide +kernel
theorem d2_12 : decode prog_46_method_1_code 12 = .ok (.return_, 1) := by decide +kernel
abbrev Rm2 : Room := { frames := 1, cells := 1, slots := 32, locals := 12 }
set_option maxRecDepth 65536 in
set_option maxHeartbeats 40000000 in
theorem rm2 (l : Launch) (Z : State) (a0 : Array Value) (hw : ∀ d ∈ tables_1, d.before a0 Z = true) (ws : List Jvm.Cond) (a1 : Addr) (h0 : Heap) (n0 : Nat) (Z0 : n0 ≤ h0.size) (E_a1 : Exa Z h0 a1 "com/example/shrike/shrike/store/LongMap") (g_a1 : n0 ≤ a1) (Fs : Fld Z h0 a1 "com/example/shrike/shrike/store/LongMap" "slots" "[J" .null) (Fm : Fld Z h0 a1 "com/example/shrike/shrike/store/LongMap" "mixed" "Z" (.int (0 : Int32))) (Fz : Fld Z h0 a1 "com/example/shrike/shrike/store/LongMap" "size" "I" (.int (0 : Int32))) :
    Met l Z n0 (⟨"com/example/shrike/shrike/store/LongMap", "<init>", "()V"⟩ : MethodName) prog_46_method_1_code 1 none ws Rm2 #[(.ref a1)] h0 (fun v h => v = none ∧ Keep h0 h [a1] ∧ Exa Z h a1 "com/example/shrike/shrike/store/LongMap" ∧ ∃ d kd, h0.size ≤ d ∧ Fld Z h a1 "com/example/shrike/shrike/store/LongMap" "slots" "[J" (.ref d) ∧ Fld Z h a1 "com/example/shrike/shrike/store/LongMap" "mixed" "Z" (.int (0 : Int32)) ∧ Fld Z h a1 "com/example/shrike/shrike/store/LongMap" "size" "I" (.int (Int32.ofNat 0)) ∧ Avf Z h d kd .long 32 (fun jj => (.long ((fun _ => 0) jj)))) := by
  refine enter (Ls := #[.val (.ref a1)]) (plainFor_of_name pn1) (fun m => by first | (simp [entryFrame, mkF, argsToLocals, Value.category]; done) | rfl) ?_
  intro p e s m below meth c T0 hx hby hml hown hnm hret hlk hZ X0
  have K0 := Keep.refl h0 [a1]
  show Go p.tables e below _ (T0.setTop (mkF m 0 #[.val (.ref a1)] []))
  refine Go.by (fun _ => XS.aloadN X0.here hx rfl (hb hby d2_0) rfl rfl) ?_
  show Go p.tables e below _ (T0.setTop (mkF m 1 #[.val (.ref a1)] [(.ref a1)]))
  obtain ⟨T1, X1, st1⟩ := X0.initO hx hZ hown (tw hw 10 rfl) (tw hw 11 rfl) (tw hw 12 rfl) (g := (mkF m 1 #[.val (.ref a1)] [(.ref a1)])) rfl (by rw [hml]; rfl) rfl (hb hby d2_1) (by decide) (Nat.le_of_ble_eq_true rfl)
  refine Go.by st1 ?_
  show Go p.tables e below _ (T1.setTop (mkF m 4 #[.val (.ref a1)] []))
  refine Go.by (fun _ => XS.aloadN X1.here hx rfl (hb hby d2_4) rfl rfl) ?_
  show Go p.tables e below _ (T1.setTop (mkF m 5 #[.val (.ref a1)] [(.ref a1)]))
  refine Go.by (fun _ => XS.bipush X1.here hx rfl (hb hby d2_5)) ?_
  show Go p.tables e below _ (T1.setTop (mkF m 7 #[.val (.ref a1)] [(.int (32 : Int32)), (.ref a1)]))
  obtain ⟨T2, h2, kc2, b2, X2, g2, E2, A2, V2, st2⟩ := X1.newP hx hZ (tw hw 13 rfl) (g := (mkF m 7 #[.val (.ref a1)] [(.int (32 : Int32)), (.ref a1)])) rfl (hb hby d2_7) rfl (by decide) (sz := 32) (cap := 32) (k' := 1) (n' := 32) rfl (Nat.le_refl _) (by decide) rfl rfl (by decide) (by decide) (ad := "[J") (by decide)
  have g_b2 : n0 ≤ b2 := by rw [g2]; exact Z0
  have sz_b2 : h0.size ≤ b2 := by rw [g2]; exact K0.1
  have ne_a1_b2 : a1 ≠ b2 := Nat.ne_of_lt (by rw [g2]; exact E_a1.lt)
  have f3_15 := E_a1.ext E2
  have f3_16 := Fs.ext E2
  have f3_17 := Fm.ext E2
  have f3_18 := Fz.ext E2
  have f3_19 := K0.ext E2
  have Zs3 : n0 ≤ h2.size := Nat.le_trans Z0 E2.1
  refine Go.by st2 ?_
  show Go p.tables e below _ (T2.setTop (mkF m 9 #[.val (.ref a1)] [(.ref b2), (.ref a1)]))
  obtain ⟨T4, h4, X4, W4, st4⟩ := X2.putF hx hZ hown (host := "") (Or.inl (tw hw 14 rfl)) Via.refl f3_16 f3_15 g_a1 (Or.inl (tw hw 15 rfl)) (tw hw 5 rfl) (ty := (.array .long)) (by decide) rfl rfl (g := (mkF m 9 #[.val (.ref a1)] [(.ref b2), (.ref a1)])) rfl rfl (hb hby d2_9)
  have Fw4 := f3_16.same W4
  have f5_25 := f3_15.wr W4
  have f5_26 := f3_17.other W4 (Or.inr (slot_ne (Or.inl (tw hw 31 rfl)) (Or.inl (tw hw 15 rfl)) (by decide) (t := .boolean) (t' := (.array .long)) (by decide) (by decide)))
  have f5_27 := f3_18.other W4 (Or.inr (slot_ne (Or.inl (tw hw 33 rfl)) (Or.inl (tw hw 15 rfl)) (by decide) (t := .int) (t' := (.array .long)) (by decide) (by decide)))
  have f5_28 := f3_19.wr W4 (Or.inl (List.mem_of_getElem? (i := 0) rfl))
  have f5_29 := A2.wr W4
  have f5_30 := Avf.other V2 W4 (Ne.symm ne_a1_b2)
  have Zs5 : n0 ≤ h4.size := by rw [W4.size]; exact Zs3
  refine Go.by st4 ?_
  show Go p.tables e below _ (T4.setTop (mkF m 12 #[.val (.ref a1)] []))
  exact Go.ret0 X4 hx hlk hret (hb hby d2_12) (by decide) (by decide) ⟨rfl, f5_28, f5_25, b2, kc2, sz_b2, Fw4, f5_26, f5_27, f5_30⟩
theorem pd5 : parseMethodDescriptor "(J)J" = some ⟨[.long], some .long⟩ := by decide +kernel
theorem pd6 : parseMethodDescriptor "()V" = some ⟨[], none⟩ := by decide +kernel
theorem pd7 : parseMethodDescriptor "()[J" = some ⟨[], some (.array .long)⟩ := by decide +kernel
theorem pd8 : parseMethodDescriptor "(JZJZJZJZJ)Z" = some ⟨[.long, .boolean, .long, .boolean, .long, .boolean, .long, .boolean, .long], some .boolean⟩ := by decide +kernel
theorem pd9 : parseMethodDescriptor "([JJ)I" = some ⟨[(.array .long), .long], some .int⟩ := by decide +kernel
theorem pd10 : parseMethodDescriptor "(JJ)J" = some ⟨[.long, .long], some .long⟩ := by decide +kernel
set_option maxRecDepth 65536 in
set_option maxHeartbeats 40000000 in
theorem rm0 (l : Launch) (Z : State) (a0 : Array Value) (hw : ∀ d ∈ tables_1, d.before a0 Z = true) (ws : List Jvm.Cond) (p0 : Int64) (p1 : Int64) (p2 : Int64) (p3 : Int64) (p4 : Int32) (h0 : Heap) (n0 : Nat) (Z0 : n0 ≤ h0.size) :
    Met l Z n0 x code maxLocals ret ws room_1 #[(.long p0), (.long p1), (.long p2), (.long p3), (.int p4)] h0 (fun v h => v = some (.int 1)) := by
  refine enter (Ls := #[.val (.long p0), .second, .val (.long p1), .second, .val (.long p2), .second, .val (.long p3), .second, .val (.int p4), .unset, .unset, .unset, .unset, .unset, .unset, .unset, .unset, .unset, .unset, .unset, .unset, .unset, .unset, .unset, .unset, .unset, .unset, .unset]) (plainFor_of_name pn0) (fun m => by first | (simp [entryFrame, mkF, argsToLocals, Value.category, maxLocals]; done) | rfl) ?_
  intro p e s m below meth c T0 hx hby hml hown hnm hret hlk hZ X0
  show Go p.tables e below _ (T0.setTop (mkF m 0 #[.val (.long p0), .second, .val (.long p1), .second, .val (.long p2), .second, .val (.long p3), .second, .val (.int p4), .unset, .unset, .unset, .unset, .unset, .unset, .unset, .unset, .unset, .unset, .unset, .unset, .unset, .unset, .unset, .unset, .unset, .unset, .unset] []))
  refine Go.by (fun _ => XS.lloadN X0.here hx rfl (hb hby at_0) rfl) ?_
  show Go p.tables e below _ (T0.setTop (mkF m 1 #[.val (.long p0), .second, .val (.long p1), .second, .val (.long p2), .second, .val (.long p3), .second, .val (.int p4), .unset, .unset, .unset, .unset, .unset, .unset, .unset, .unset, .unset, .unset, .unset, .unset, .unset, .unset, .unset, .unset, .unset, .unset, .unset] [(.long p0)]))
  obtain ⟨v1, T1, h1, X1, q1, st1⟩ := X0.callS hx hZ (y := (⟨"com/example/shrike/shrike/store/LongMapKeysPinLaw", "fix", "(J)J"⟩ : MethodName)) hown (tw hw 0 rfl) (tw hw 1 rfl) (tw hw 2 rfl) (tw hw 3 rfl) (by decide) (rm1 l Z a0 hw [] p0 h0 n0 Z0) (g := (mkF m 1 #[.val (.long p0), .second, .val (.long p1), .second, .val (.long p2), .second, .val (.long p3), .second, .val (.int p4), .unset, .unset, .unset, .unset, .unset, .unset, .unset, .unset, .unset, .unset, .unset, .unset, .unset, .unset, .unset, .unset, .unset, .unset, .unset] [(.long p0)])) rfl (by rw [hml]; rfl) (argsL := [(.long p0)]) (rest := []) (lenOf pd5 rfl) rfl (hb hby at_1) rfl (by decide) (Nat.le_of_ble_eq_true rfl) (k' := 0) (n' := 0) rfl rfl (by decide) (by decide)
  refine Go.by st1 ?_
  obtain ⟨z1, rfl, nz_z1, rfl⟩ := q1
  show Go p.tables e below _ (T1.setTop (mkF m 4 #[.val (.long p0), .second, .val (.long p1), .second, .val (.long p2), .second, .val (.long p3), .second, .val (.int p4), .unset, .unset, .unset, .unset, .unset, .unset, .unset, .unset, .unset, .unset, .unset, .unset, .unset, .unset, .unset, .unset, .unset, .unset, .unset] [(.long z1)]))
  refine Go.by (fun _ => XS.lstore X1.here hx rfl (hb hby at_4) rfl (l' := #[.val (.long p0), .second, .val (.long p1), .second, .val (.long p2), .second, .val (.long p3), .second, .val (.int p4), .val (.long z1), .second, .unset, .unset, .unset, .unset, .unset, .unset, .unset, .unset, .unset, .unset, .unset, .unset, .unset, .unset, .unset, .unset, .unset]) rfl) ?_
  show Go p.tables e below _ (T1.setTop (mkF m 6 #[.val (.long p0), .second, .val (.long p1), .second, .val (.long p2), .second, .val (.long p3), .second, .val (.int p4), .val (.long z1), .second, .unset, .unset, .unset, .unset, .unset, .unset, .unset, .unset, .unset, .unset, .unset, .unset, .unset, .unset, .unset, .unset, .unset] []))
  refine Go.by (fun _ => XS.lloadN X1.here hx rfl (hb hby at_6) rfl) ?_
  show Go p.tables e below _ (T1.setTop (mkF m 7 #[.val (.long p0), .second, .val (.long p1), .second, .val (.long p2), .second, .val (.long p3), .second, .val (.int p4), .val (.long z1), .second, .unset, .unset, .unset, .unset, .unset, .unset, .unset, .unset, .unset, .unset, .unset, .unset, .unset, .unset, .unset, .unset, .unset] [(.long p1)]))
  obtain ⟨v2, T2, h2, X2, q2, st2⟩ := X1.callS hx hZ (y := (⟨"com/example/shrike/shrike/store/LongMapKeysPinLaw", "fix", "(J)J"⟩ : MethodName)) hown (tw hw 0 rfl) (tw hw 1 rfl) (tw hw 2 rfl) (tw hw 3 rfl) (by decide) (rm1 l Z a0 hw [] p1 h0 n0 Z0) (g := (mkF m 7 #[.val (.long p0), .second, .val (.long p1), .second, .val (.long p2), .second, .val (.long p3), .second, .val (.int p4), .val (.long z1), .second, .unset, .unset, .unset, .unset, .unset, .unset, .unset, .unset, .unset, .unset, .unset, .unset, .unset, .unset, .unset, .unset, .unset] [(.long p1)])) rfl (by rw [hml]; rfl) (argsL := [(.long p1)]) (rest := []) (lenOf pd5 rfl) rfl (hb hby at_7) rfl (by decide) (Nat.le_of_ble_eq_true rfl) (k' := 0) (n' := 0) rfl rfl (by decide) (by decide)
  refine Go.by st2 ?_
  obtain ⟨z2, rfl, nz_z2, rfl⟩ := q2
  show Go p.tables e below _ (T2.setTop (mkF m 10 #[.val (.long p0), .second, .val (.long p1), .second, .val (.long p2), .second, .val (.long p3), .second, .val (.int p4), .val (.long z1), .second, .unset, .unset, .unset, .unset, .unset, .unset, .unset, .unset, .unset, .unset, .unset, .unset, .unset, .unset, .unset, .unset, .unset] [(.long z2)]))
  refine Go.by (fun _ => XS.lstore X2.here hx rfl (hb hby at_10) rfl (l' := #[.val (.long p0), .second, .val (.long p1), .second, .val (.long p2), .second, .val (.long p3), .second, .val (.int p4), .val (.long z1), .second, .val (.long z2), .second, .unset, .unset, .unset, .unset, .unset, .unset, .unset, .unset, .unset, .unset, .unset, .unset, .unset, .unset, .unset]) rfl) ?_
  show Go p.tables e below _ (T2.setTop (mkF m 12 #[.val (.long p0), .second, .val (.long p1), .second, .val (.long p2), .second, .val (.long p3), .second, .val (.int p4), .val (.long z1), .second, .val (.long z2), .second, .unset, .unset, .unset, .unset, .unset, .unset, .unset, .unset, .unset, .unset, .unset, .unset, .unset, .unset, .unset] []))
  refine Go.by (fun _ => XS.lload X2.here hx rfl (hb hby at_12) rfl) ?_
  show Go p.tables e below _ (T2.setTop (mkF m 14 #[.val (.long p0), .second, .val (.long p1), .second, .val (.long p2), .second, .val (.long p3), .second, .val (.int p4), .val (.long z1), .second, .val (.long z2), .second, .unset, .unset, .unset, .unset, .unset, .unset, .unset, .unset, .unset, .unset, .unset, .unset, .unset, .unset, .unset] [(.long p2)]))
  obtain ⟨v3, T3, h3, X3, q3, st3⟩ := X2.callS hx hZ (y := (⟨"com/example/shrike/shrike/store/LongMapKeysPinLaw", "fix", "(J)J"⟩ : MethodName)) hown (tw hw 0 rfl) (tw hw 1 rfl) (tw hw 2 rfl) (tw hw 3 rfl) (by decide) (rm1 l Z a0 hw [] p2 h0 n0 Z0) (g := (mkF m 14 #[.val (.long p0), .second, .val (.long p1), .second, .val (.long p2), .second, .val (.long p3), .second, .val (.int p4), .val (.long z1), .second, .val (.long z2), .second, .unset, .unset, .unset, .unset, .unset, .unset, .unset, .unset, .unset, .unset, .unset, .unset, .unset, .unset, .unset] [(.long p2)])) rfl (by rw [hml]; rfl) (argsL := [(.long p2)]) (rest := []) (lenOf pd5 rfl) rfl (hb hby at_14) rfl (by decide) (Nat.le_of_ble_eq_true rfl) (k' := 0) (n' := 0) rfl rfl (by decide) (by decide)
  refine Go.by st3 ?_
  obtain ⟨z3, rfl, nz_z3, rfl⟩ := q3
  show Go p.tables e below _ (T3.setTop (mkF m 17 #[.val (.long p0), .second, .val (.long p1), .second, .val (.long p2), .second, .val (.long p3), .second, .val (.int p4), .val (.long z1), .second, .val (.long z2), .second, .unset, .unset, .unset, .unset, .unset, .unset, .unset, .unset, .unset, .unset, .unset, .unset, .unset, .unset, .unset] [(.long z3)]))
  refine Go.by (fun _ => XS.lstore X3.here hx rfl (hb hby at_17) rfl (l' := #[.val (.long p0), .second, .val (.long p1), .second, .val (.long p2), .second, .val (.long p3), .second, .val (.int p4), .val (.long z1), .second, .val (.long z2), .second, .val (.long z3), .second, .unset, .unset, .unset, .unset, .unset, .unset, .unset, .unset, .unset, .unset, .unset, .unset, .unset]) rfl) ?_
  show Go p.tables e below _ (T3.setTop (mkF m 19 #[.val (.long p0), .second, .val (.long p1), .second, .val (.long p2), .second, .val (.long p3), .second, .val (.int p4), .val (.long z1), .second, .val (.long z2), .second, .val (.long z3), .second, .unset, .unset, .unset, .unset, .unset, .unset, .unset, .unset, .unset, .unset, .unset, .unset, .unset] []))
  refine Go.by (fun _ => XS.lload X3.here hx rfl (hb hby at_19) rfl) ?_
  show Go p.tables e below _ (T3.setTop (mkF m 21 #[.val (.long p0), .second, .val (.long p1), .second, .val (.long p2), .second, .val (.long p3), .second, .val (.int p4), .val (.long z1), .second, .val (.long z2), .second, .val (.long z3), .second, .unset, .unset, .unset, .unset, .unset, .unset, .unset, .unset, .unset, .unset, .unset, .unset, .unset] [(.long p3)]))
  obtain ⟨v4, T4, h4, X4, q4, st4⟩ := X3.callS hx hZ (y := (⟨"com/example/shrike/shrike/store/LongMapKeysPinLaw", "fix", "(J)J"⟩ : MethodName)) hown (tw hw 0 rfl) (tw hw 1 rfl) (tw hw 2 rfl) (tw hw 3 rfl) (by decide) (rm1 l Z a0 hw [] p3 h0 n0 Z0) (g := (mkF m 21 #[.val (.long p0), .second, .val (.long p1), .second, .val (.long p2), .second, .val (.long p3), .second, .val (.int p4), .val (.long z1), .second, .val (.long z2), .second, .val (.long z3), .second, .unset, .unset, .unset, .unset, .unset, .unset, .unset, .unset, .unset, .unset, .unset, .unset, .unset] [(.long p3)])) rfl (by rw [hml]; rfl) (argsL := [(.long p3)]) (rest := []) (lenOf pd5 rfl) rfl (hb hby at_21) rfl (by decide) (Nat.le_of_ble_eq_true rfl) (k' := 0) (n' := 0) rfl rfl (by decide) (by decide)
  refine Go.by st4 ?_
  obtain ⟨z4, rfl, nz_z4, rfl⟩ := q4
  show Go p.tables e below _ (T4.setTop (mkF m 24 #[.val (.long p0), .second, .val (.long p1), .second, .val (.long p2), .second, .val (.long p3), .second, .val (.int p4), .val (.long z1), .second, .val (.long z2), .second, .val (.long z3), .second, .unset, .unset, .unset, .unset, .unset, .unset, .unset, .unset, .unset, .unset, .unset, .unset, .unset] [(.long z4)]))
  refine Go.by (fun _ => XS.lstore X4.here hx rfl (hb hby at_24) rfl (l' := #[.val (.long p0), .second, .val (.long p1), .second, .val (.long p2), .second, .val (.long p3), .second, .val (.int p4), .val (.long z1), .second, .val (.long z2), .second, .val (.long z3), .second, .val (.long z4), .second, .unset, .unset, .unset, .unset, .unset, .unset, .unset, .unset, .unset, .unset, .unset]) rfl) ?_
  show Go p.tables e below _ (T4.setTop (mkF m 26 #[.val (.long p0), .second, .val (.long p1), .second, .val (.long p2), .second, .val (.long p3), .second, .val (.int p4), .val (.long z1), .second, .val (.long z2), .second, .val (.long z3), .second, .val (.long z4), .second, .unset, .unset, .unset, .unset, .unset, .unset, .unset, .unset, .unset, .unset, .unset] []))
  have J5 : ∀ (Tj5 : State), Sd n0 p l e room_1 s m #[(.long p0), (.long p1), (.long p2), (.long p3), (.int p4)] below meth c Tj5 h0 0 0 → ∀ (f17 : Int32), True → Go p.tables e below (Ret s n0 (fun v h => v = some (.int 1)) room_1.cells room_1.slots) (Tj5.setTop (mkF m 38 #[.val (.long p0), .second, .val (.long p1), .second, .val (.long p2), .second, .val (.long p3), .second, .val (.int p4), .val (.long z1), .second, .val (.long z2), .second, .val (.long z3), .second, .val (.long z4), .second, .unset, .unset, .unset, .unset, .unset, .unset, .unset, .unset, .unset, .unset, .unset] [(.int f17)])) := by
    intro Tj5 Xj5 f17 hj5
    refine Go.by (fun _ => XS.istore Xj5.here hx rfl (hb hby at_38) rfl (l' := #[.val (.long p0), .second, .val (.long p1), .second, .val (.long p2), .second, .val (.long p3), .second, .val (.int p4), .val (.long z1), .second, .val (.long z2), .second, .val (.long z3), .second, .val (.long z4), .second, .val (.int f17), .unset, .unset, .unset, .unset, .unset, .unset, .unset, .unset, .unset, .unset]) rfl) ?_
    show Go p.tables e below _ (Tj5.setTop (mkF m 40 #[.val (.long p0), .second, .val (.long p1), .second, .val (.long p2), .second, .val (.long p3), .second, .val (.int p4), .val (.long z1), .second, .val (.long z2), .second, .val (.long z3), .second, .val (.long z4), .second, .val (.int f17), .unset, .unset, .unset, .unset, .unset, .unset, .unset, .unset, .unset, .unset] []))
    have J6 : ∀ (Tj6 : State), Sd n0 p l e room_1 s m #[(.long p0), (.long p1), (.long p2), (.long p3), (.int p4)] below meth c Tj6 h0 0 0 → ∀ (f18 : Int32), True → Go p.tables e below (Ret s n0 (fun v h => v = some (.int 1)) room_1.cells room_1.slots) (Tj6.setTop (mkF m 52 #[.val (.long p0), .second, .val (.long p1), .second, .val (.long p2), .second, .val (.long p3), .second, .val (.int p4), .val (.long z1), .second, .val (.long z2), .second, .val (.long z3), .second, .val (.long z4), .second, .val (.int f17), .unset, .unset, .unset, .unset, .unset, .unset, .unset, .unset, .unset, .unset] [(.int f18)])) := by
      intro Tj6 Xj6 f18 hj6
      refine Go.by (fun _ => XS.istore Xj6.here hx rfl (hb hby at_52) rfl (l' := #[.val (.long p0), .second, .val (.long p1), .second, .val (.long p2), .second, .val (.long p3), .second, .val (.int p4), .val (.long z1), .second, .val (.long z2), .second, .val (.long z3), .second, .val (.long z4), .second, .val (.int f17), .val (.int f18), .unset, .unset, .unset, .unset, .unset, .unset, .unset, .unset, .unset]) rfl) ?_
      show Go p.tables e below _ (Tj6.setTop (mkF m 54 #[.val (.long p0), .second, .val (.long p1), .second, .val (.long p2), .second, .val (.long p3), .second, .val (.int p4), .val (.long z1), .second, .val (.long z2), .second, .val (.long z3), .second, .val (.long z4), .second, .val (.int f17), .val (.int f18), .unset, .unset, .unset, .unset, .unset, .unset, .unset, .unset, .unset] []))
      have J7 : ∀ (Tj7 : State), Sd n0 p l e room_1 s m #[(.long p0), (.long p1), (.long p2), (.long p3), (.int p4)] below meth c Tj7 h0 0 0 → ∀ (f19 : Int32), True → Go p.tables e below (Ret s n0 (fun v h => v = some (.int 1)) room_1.cells room_1.slots) (Tj7.setTop (mkF m 66 #[.val (.long p0), .second, .val (.long p1), .second, .val (.long p2), .second, .val (.long p3), .second, .val (.int p4), .val (.long z1), .second, .val (.long z2), .second, .val (.long z3), .second, .val (.long z4), .second, .val (.int f17), .val (.int f18), .unset, .unset, .unset, .unset, .unset, .unset, .unset, .unset, .unset] [(.int f19)])) := by
        intro Tj7 Xj7 f19 hj7
        refine Go.by (fun _ => XS.istore Xj7.here hx rfl (hb hby at_66) rfl (l' := #[.val (.long p0), .second, .val (.long p1), .second, .val (.long p2), .second, .val (.long p3), .second, .val (.int p4), .val (.long z1), .second, .val (.long z2), .second, .val (.long z3), .second, .val (.long z4), .second, .val (.int f17), .val (.int f18), .val (.int f19), .unset, .unset, .unset, .unset, .unset, .unset, .unset, .unset]) rfl) ?_
        show Go p.tables e below _ (Tj7.setTop (mkF m 68 #[.val (.long p0), .second, .val (.long p1), .second, .val (.long p2), .second, .val (.long p3), .second, .val (.int p4), .val (.long z1), .second, .val (.long z2), .second, .val (.long z3), .second, .val (.long z4), .second, .val (.int f17), .val (.int f18), .val (.int f19), .unset, .unset, .unset, .unset, .unset, .unset, .unset, .unset] []))
        have J8 : ∀ (Tj8 : State), Sd n0 p l e room_1 s m #[(.long p0), (.long p1), (.long p2), (.long p3), (.int p4)] below meth c Tj8 h0 0 0 → ∀ (f20 : Int32), True → Go p.tables e below (Ret s n0 (fun v h => v = some (.int 1)) room_1.cells room_1.slots) (Tj8.setTop (mkF m 81 #[.val (.long p0), .second, .val (.long p1), .second, .val (.long p2), .second, .val (.long p3), .second, .val (.int p4), .val (.long z1), .second, .val (.long z2), .second, .val (.long z3), .second, .val (.long z4), .second, .val (.int f17), .val (.int f18), .val (.int f19), .unset, .unset, .unset, .unset, .unset, .unset, .unset, .unset] [(.int f20)])) := by
          intro Tj8 Xj8 f20 hj8
          refine Go.by (fun _ => XS.istore Xj8.here hx rfl (hb hby at_81) rfl (l' := #[.val (.long p0), .second, .val (.long p1), .second, .val (.long p2), .second, .val (.long p3), .second, .val (.int p4), .val (.long z1), .second, .val (.long z2), .second, .val (.long z3), .second, .val (.long z4), .second, .val (.int f17), .val (.int f18), .val (.int f19), .val (.int f20), .unset, .unset, .unset, .unset, .unset, .unset, .unset]) rfl) ?_
          show Go p.tables e below _ (Tj8.setTop (mkF m 83 #[.val (.long p0), .second, .val (.long p1), .second, .val (.long p2), .second, .val (.long p3), .second, .val (.int p4), .val (.long z1), .second, .val (.long z2), .second, .val (.long z3), .second, .val (.long z4), .second, .val (.int f17), .val (.int f18), .val (.int f19), .val (.int f20), .unset, .unset, .unset, .unset, .unset, .unset, .unset] []))
          obtain ⟨T9, h9, b9, X9, g9, E9, A9, D9, st9⟩ := Xj8.newO hx hZ hown (tw hw 4 rfl) (tw hw 5 rfl) (tw hw 6 rfl) (g := (mkF m 83 #[.val (.long p0), .second, .val (.long p1), .second, .val (.long p2), .second, .val (.long p3), .second, .val (.int p4), .val (.long z1), .second, .val (.long z2), .second, .val (.long z3), .second, .val (.long z4), .second, .val (.int f17), .val (.int f18), .val (.int f19), .val (.int f20), .unset, .unset, .unset, .unset, .unset, .unset, .unset] [])) rfl (hb hby at_83) (k' := 1) (n' := 3) rfl rfl (by decide) (by decide)
          have g_b9 : n0 ≤ b9 := by rw [g9]; exact Z0
          have Zs10 : n0 ≤ h9.size := Nat.le_trans Z0 E9.1
          have F9_slots : Fld Z h9 b9 "com/example/shrike/shrike/store/LongMap" "slots" "[J" .null := D9 (Or.inl (tw hw 15 rfl)) (ty := (.array .long)) (by decide)
          have F9_mixed : Fld Z h9 b9 "com/example/shrike/shrike/store/LongMap" "mixed" "Z" (.int (0 : Int32)) := D9 (Or.inl (tw hw 31 rfl)) (ty := .boolean) (by decide)
          have F9_size : Fld Z h9 b9 "com/example/shrike/shrike/store/LongMap" "size" "I" (.int (0 : Int32)) := D9 (Or.inl (tw hw 33 rfl)) (ty := .int) (by decide)
          refine Go.by st9 ?_
          show Go p.tables e below _ (T9.setTop (mkF m 86 #[.val (.long p0), .second, .val (.long p1), .second, .val (.long p2), .second, .val (.long p3), .second, .val (.int p4), .val (.long z1), .second, .val (.long z2), .second, .val (.long z3), .second, .val (.long z4), .second, .val (.int f17), .val (.int f18), .val (.int f19), .val (.int f20), .unset, .unset, .unset, .unset, .unset, .unset, .unset] [(.ref b9)]))
          refine Go.by (fun _ => XS.dup X9.here hx rfl (hb hby at_86) rfl rfl) ?_
          show Go p.tables e below _ (T9.setTop (mkF m 87 #[.val (.long p0), .second, .val (.long p1), .second, .val (.long p2), .second, .val (.long p3), .second, .val (.int p4), .val (.long z1), .second, .val (.long z2), .second, .val (.long z3), .second, .val (.long z4), .second, .val (.int f17), .val (.int f18), .val (.int f19), .val (.int f20), .unset, .unset, .unset, .unset, .unset, .unset, .unset] [(.ref b9), (.ref b9)]))
          obtain ⟨v11, T11, h11, X11, q11, st11⟩ := X9.callI hx hZ (y := (⟨"com/example/shrike/shrike/store/LongMap", "<init>", "()V"⟩ : MethodName)) rfl hown (tw hw 7 rfl) (tw hw 8 rfl) (tw hw 6 rfl) (tw hw 9 rfl) (by decide) (rm2 l Z a0 hw [] b9 h9 n0 Zs10 A9 g_b9 F9_slots F9_mixed F9_size) (g := (mkF m 87 #[.val (.long p0), .second, .val (.long p1), .second, .val (.long p2), .second, .val (.long p3), .second, .val (.int p4), .val (.long z1), .second, .val (.long z2), .second, .val (.long z3), .second, .val (.long z4), .second, .val (.int f17), .val (.int f18), .val (.int f19), .val (.int f20), .unset, .unset, .unset, .unset, .unset, .unset, .unset] [(.ref b9), (.ref b9)])) rfl (by rw [hml]; rfl) (argsL := []) (rest := [(.ref b9)]) (lenOf pd6 rfl) rfl (hb hby at_87) rfl (by decide) (Nat.le_of_ble_eq_true rfl) (k' := 2) (n' := 35) rfl rfl (by decide) (by decide)
          refine Go.by st11 ?_
          obtain ⟨rfl, K11, Ex11, d11, kd11, sd11, Fs11, Fm11, Fz11, V11⟩ := q11
          have g_d11 : n0 ≤ d11 := Nat.le_trans Zs10 sd11
          have ne_b9_d11 : b9 ≠ d11 := Nat.ne_of_lt (Nat.lt_of_lt_of_le A9.lt sd11)
          have f12_64 := A9.keep K11
          have Zs12 : n0 ≤ h11.size := Nat.le_trans Zs10 K11.1
          have ne_d11_b9 : d11 ≠ b9 := exa_nev Ex11 (tw hw 5 rfl) V11
          show Go p.tables e below _ (T11.setTop (mkF m 90 #[.val (.long p0), .second, .val (.long p1), .second, .val (.long p2), .second, .val (.long p3), .second, .val (.int p4), .val (.long z1), .second, .val (.long z2), .second, .val (.long z3), .second, .val (.long z4), .second, .val (.int f17), .val (.int f18), .val (.int f19), .val (.int f20), .unset, .unset, .unset, .unset, .unset, .unset, .unset] [(.ref b9)]))
          refine Go.by (fun _ => XS.astore X11.here hx rfl (hb hby at_90) rfl rfl (l' := #[.val (.long p0), .second, .val (.long p1), .second, .val (.long p2), .second, .val (.long p3), .second, .val (.int p4), .val (.long z1), .second, .val (.long z2), .second, .val (.long z3), .second, .val (.long z4), .second, .val (.int f17), .val (.int f18), .val (.int f19), .val (.int f20), .val (.ref b9), .unset, .unset, .unset, .unset, .unset, .unset]) rfl) ?_
          show Go p.tables e below _ (T11.setTop (mkF m 92 #[.val (.long p0), .second, .val (.long p1), .second, .val (.long p2), .second, .val (.long p3), .second, .val (.int p4), .val (.long z1), .second, .val (.long z2), .second, .val (.long z3), .second, .val (.long z4), .second, .val (.int f17), .val (.int f18), .val (.int f19), .val (.int f20), .val (.ref b9), .unset, .unset, .unset, .unset, .unset, .unset] []))
          have J153 : ∀ (fj : Nat → Int64) (sz : Nat) (Tj : State) (hj : Heap), Sd n0 p l e room_1 s m #[(.long p0), (.long p1), (.long p2), (.long p3), (.int p4)] below meth c Tj hj 2 35 → n0 ≤ hj.size → Exa Z hj b9 "com/example/shrike/shrike/store/LongMap" → Fld Z hj b9 "com/example/shrike/shrike/store/LongMap" "slots" "[J" (.ref d11) → Fld Z hj b9 "com/example/shrike/shrike/store/LongMap" "mixed" "Z" (.int (0 : Int32)) → Avf Z hj d11 kd11 .long 32 (fun jj => (.long (fj jj))) → Fld Z hj b9 "com/example/shrike/shrike/store/LongMap" "size" "I" (.int (Int32.ofNat sz)) → sz = (pre fj 16).length → sz ≤ 3 → (∀ x, x ≠ 0 → (pre fj 16).count x = (remk f20 z4 (addk f19 z3 (addk f18 z2 (addk f17 z1 (fun _ => 0))))) x) → Go p.tables e below (Ret s n0 (fun v h => v = some (.int 1)) room_1.cells room_1.slots) (Tj.setTop (mkF m 153 #[.val (.long p0), .second, .val (.long p1), .second, .val (.long p2), .second, .val (.long p3), .second, .val (.int p4), .val (.long z1), .second, .val (.long z2), .second, .val (.long z3), .second, .val (.long z4), .second, .val (.int f17), .val (.int f18), .val (.int f19), .val (.int f20), .val (.ref b9), .unset, .unset, .unset, .unset, .unset, .unset] [])) := by
            intro fj sz Tj hj Xj Zj Ej Fsj Fmj Vj Fzj hszj hsle hcj
            refine Go.by (fun _ => XS.aload Xj.here hx rfl (hb hby at_153) rfl rfl) ?_
            show Go p.tables e below _ (Tj.setTop (mkF m 155 #[.val (.long p0), .second, .val (.long p1), .second, .val (.long p2), .second, .val (.long p3), .second, .val (.int p4), .val (.long z1), .second, .val (.long z2), .second, .val (.long z3), .second, .val (.long z4), .second, .val (.int f17), .val (.int f18), .val (.int f19), .val (.int f20), .val (.ref b9), .unset, .unset, .unset, .unset, .unset, .unset] [(.ref b9)]))
            obtain ⟨v13, T13, h13, X13, q13, st13⟩ := Xj.callV hx hZ (y := (⟨"com/example/shrike/shrike/store/LongMap", "keys", "()[J"⟩ : MethodName)) (z := (⟨"com/example/shrike/shrike/store/LongMap", "keys", "()[J"⟩ : MethodName)) hown (tw hw 38 rfl) (tw hw 39 rfl) (notFace_of_selects (args := #[]) (mvT hZ (tw hw 41 rfl))) (tw hw 41 rfl) (tw hw 40 rfl) (tw hw 6 rfl) (tw hw 42 rfl) (by decide) (rm8 l Z a0 hw [] b9 d11 kd11 fj sz hj n0 Zj Ej Fsj Fmj Vj Fzj hszj hsle) Ej (g := (mkF m 155 #[.val (.long p0), .second, .val (.long p1), .second, .val (.long p2), .second, .val (.long p3), .second, .val (.int p4), .val (.long z1), .second, .val (.long z2), .second, .val (.long z3), .second, .val (.long z4), .second, .val (.int f17), .val (.int f18), .val (.int f19), .val (.int f20), .val (.ref b9), .unset, .unset, .unset, .unset, .unset, .unset] [(.ref b9)])) rfl (by rw [hml]; rfl) (argsL := []) (rest := []) (lenOf pd7 rfl) rfl (hb hby at_155) rfl (by decide) (Nat.le_of_ble_eq_true rfl) (k' := 3) (n' := 38) rfl rfl (by decide) (by decide)
            refine Go.by st13 ?_
            obtain ⟨r13, kr13, rfl, sr13, K13, V13⟩ := q13
            have g_r13 : n0 ≤ r13 := Nat.le_trans Zj sr13
            have ne_b9_r13 : b9 ≠ r13 := Nat.ne_of_lt (Nat.lt_of_lt_of_le Ej.lt sr13)
            have ne_d11_r13 : d11 ≠ r13 := Nat.ne_of_lt (Nat.lt_of_lt_of_le Vj.lt sr13)
            have f14_80 := Ej.ext (keep_ext K13)
            have f14_81 := Fsj.ext (keep_ext K13)
            have f14_82 := Fmj.ext (keep_ext K13)
            have f14_83 := Fzj.ext (keep_ext K13)
            have f14_84 := Avf.ext Vj (keep_ext K13)
            have Zs14 : n0 ≤ h13.size := Nat.le_trans Zj (keep_ext K13).1
            show Go p.tables e below _ (T13.setTop (mkF m 158 #[.val (.long p0), .second, .val (.long p1), .second, .val (.long p2), .second, .val (.long p3), .second, .val (.int p4), .val (.long z1), .second, .val (.long z2), .second, .val (.long z3), .second, .val (.long z4), .second, .val (.int f17), .val (.int f18), .val (.int f19), .val (.int f20), .val (.ref b9), .unset, .unset, .unset, .unset, .unset, .unset] [(.ref r13)]))
            have hC : ∀ x, x ≠ 0 → (pre fj 16).count x = if pz x f17 z1 f18 z2 f19 z3 f20 z4 = 0 then 0 else 1 := fun x hx => (hcj x hx).trans (pz_G x f17 z1 f18 z2 f19 z3 f20 z4)
            have hlen := own_len hcj
            have cq0 := hC z1 nz_z1
            have cq1 := hC z2 nz_z2
            have cq2 := hC z3 nz_z3
            have cq3 := hC z4 nz_z4
            have Vo : Avf Z h13 r13 kr13 .long (pre fj 16).length (fun jj => (.long ((fun t => (pre fj 16).getD t 0) jj))) := by have z := V13; rw [hszj] at z; exact z
            have ho3 : (pre fj 16).length ≤ 3 := by rw [← hszj]; exact hsle
            refine Go.by (fun _ => XS.astore X13.here hx rfl (hb hby at_158) rfl rfl (l' := #[.val (.long p0), .second, .val (.long p1), .second, .val (.long p2), .second, .val (.long p3), .second, .val (.int p4), .val (.long z1), .second, .val (.long z2), .second, .val (.long z3), .second, .val (.long z4), .second, .val (.int f17), .val (.int f18), .val (.int f19), .val (.int f20), .val (.ref b9), .val (.ref r13), .unset, .unset, .unset, .unset, .unset]) rfl) ?_
            show Go p.tables e below _ (T13.setTop (mkF m 160 #[.val (.long p0), .second, .val (.long p1), .second, .val (.long p2), .second, .val (.long p3), .second, .val (.int p4), .val (.long z1), .second, .val (.long z2), .second, .val (.long z3), .second, .val (.long z4), .second, .val (.int f17), .val (.int f18), .val (.int f19), .val (.int f20), .val (.ref b9), .val (.ref r13), .unset, .unset, .unset, .unset, .unset] []))
            refine Go.by (fun _ => XS.lload X13.here hx rfl (hb hby at_160) rfl) ?_
            show Go p.tables e below _ (T13.setTop (mkF m 162 #[.val (.long p0), .second, .val (.long p1), .second, .val (.long p2), .second, .val (.long p3), .second, .val (.int p4), .val (.long z1), .second, .val (.long z2), .second, .val (.long z3), .second, .val (.long z4), .second, .val (.int f17), .val (.int f18), .val (.int f19), .val (.int f20), .val (.ref b9), .val (.ref r13), .unset, .unset, .unset, .unset, .unset] [(.long z1)]))
            refine Go.by (fun _ => XS.iload X13.here hx rfl (hb hby at_162) rfl) ?_
            show Go p.tables e below _ (T13.setTop (mkF m 164 #[.val (.long p0), .second, .val (.long p1), .second, .val (.long p2), .second, .val (.long p3), .second, .val (.int p4), .val (.long z1), .second, .val (.long z2), .second, .val (.long z3), .second, .val (.long z4), .second, .val (.int f17), .val (.int f18), .val (.int f19), .val (.int f20), .val (.ref b9), .val (.ref r13), .unset, .unset, .unset, .unset, .unset] [(.int f17), (.long z1)]))
            refine Go.by (fun _ => XS.lload X13.here hx rfl (hb hby at_164) rfl) ?_
            show Go p.tables e below _ (T13.setTop (mkF m 166 #[.val (.long p0), .second, .val (.long p1), .second, .val (.long p2), .second, .val (.long p3), .second, .val (.int p4), .val (.long z1), .second, .val (.long z2), .second, .val (.long z3), .second, .val (.long z4), .second, .val (.int f17), .val (.int f18), .val (.int f19), .val (.int f20), .val (.ref b9), .val (.ref r13), .unset, .unset, .unset, .unset, .unset] [(.long z1), (.int f17), (.long z1)]))
            refine Go.by (fun _ => XS.iload X13.here hx rfl (hb hby at_166) rfl) ?_
            show Go p.tables e below _ (T13.setTop (mkF m 168 #[.val (.long p0), .second, .val (.long p1), .second, .val (.long p2), .second, .val (.long p3), .second, .val (.int p4), .val (.long z1), .second, .val (.long z2), .second, .val (.long z3), .second, .val (.long z4), .second, .val (.int f17), .val (.int f18), .val (.int f19), .val (.int f20), .val (.ref b9), .val (.ref r13), .unset, .unset, .unset, .unset, .unset] [(.int f18), (.long z1), (.int f17), (.long z1)]))
            refine Go.by (fun _ => XS.lload X13.here hx rfl (hb hby at_168) rfl) ?_
            show Go p.tables e below _ (T13.setTop (mkF m 170 #[.val (.long p0), .second, .val (.long p1), .second, .val (.long p2), .second, .val (.long p3), .second, .val (.int p4), .val (.long z1), .second, .val (.long z2), .second, .val (.long z3), .second, .val (.long z4), .second, .val (.int f17), .val (.int f18), .val (.int f19), .val (.int f20), .val (.ref b9), .val (.ref r13), .unset, .unset, .unset, .unset, .unset] [(.long z2), (.int f18), (.long z1), (.int f17), (.long z1)]))
            refine Go.by (fun _ => XS.iload X13.here hx rfl (hb hby at_170) rfl) ?_
            show Go p.tables e below _ (T13.setTop (mkF m 172 #[.val (.long p0), .second, .val (.long p1), .second, .val (.long p2), .second, .val (.long p3), .second, .val (.int p4), .val (.long z1), .second, .val (.long z2), .second, .val (.long z3), .second, .val (.long z4), .second, .val (.int f17), .val (.int f18), .val (.int f19), .val (.int f20), .val (.ref b9), .val (.ref r13), .unset, .unset, .unset, .unset, .unset] [(.int f19), (.long z2), (.int f18), (.long z1), (.int f17), (.long z1)]))
            refine Go.by (fun _ => XS.lload X13.here hx rfl (hb hby at_172) rfl) ?_
            show Go p.tables e below _ (T13.setTop (mkF m 174 #[.val (.long p0), .second, .val (.long p1), .second, .val (.long p2), .second, .val (.long p3), .second, .val (.int p4), .val (.long z1), .second, .val (.long z2), .second, .val (.long z3), .second, .val (.long z4), .second, .val (.int f17), .val (.int f18), .val (.int f19), .val (.int f20), .val (.ref b9), .val (.ref r13), .unset, .unset, .unset, .unset, .unset] [(.long z3), (.int f19), (.long z2), (.int f18), (.long z1), (.int f17), (.long z1)]))
            refine Go.by (fun _ => XS.iload X13.here hx rfl (hb hby at_174) rfl) ?_
            show Go p.tables e below _ (T13.setTop (mkF m 176 #[.val (.long p0), .second, .val (.long p1), .second, .val (.long p2), .second, .val (.long p3), .second, .val (.int p4), .val (.long z1), .second, .val (.long z2), .second, .val (.long z3), .second, .val (.long z4), .second, .val (.int f17), .val (.int f18), .val (.int f19), .val (.int f20), .val (.ref b9), .val (.ref r13), .unset, .unset, .unset, .unset, .unset] [(.int f20), (.long z3), (.int f19), (.long z2), (.int f18), (.long z1), (.int f17), (.long z1)]))
            refine Go.by (fun _ => XS.lload X13.here hx rfl (hb hby at_176) rfl) ?_
            show Go p.tables e below _ (T13.setTop (mkF m 178 #[.val (.long p0), .second, .val (.long p1), .second, .val (.long p2), .second, .val (.long p3), .second, .val (.int p4), .val (.long z1), .second, .val (.long z2), .second, .val (.long z3), .second, .val (.long z4), .second, .val (.int f17), .val (.int f18), .val (.int f19), .val (.int f20), .val (.ref b9), .val (.ref r13), .unset, .unset, .unset, .unset, .unset] [(.long z4), (.int f20), (.long z3), (.int f19), (.long z2), (.int f18), (.long z1), (.int f17), (.long z1)]))
            obtain ⟨v15, T15, h15, X15, q15, st15⟩ := X13.callS hx hZ (y := (⟨"com/example/shrike/shrike/store/LongMapKeysPinLaw", "present", "(JZJZJZJZJ)Z"⟩ : MethodName)) hown (tw hw 43 rfl) (tw hw 44 rfl) (tw hw 2 rfl) (tw hw 45 rfl) (by decide) (rm9 l Z a0 hw [] z1 f17 z1 f18 z2 f19 z3 f20 z4 h13 n0 Zs14) (g := (mkF m 178 #[.val (.long p0), .second, .val (.long p1), .second, .val (.long p2), .second, .val (.long p3), .second, .val (.int p4), .val (.long z1), .second, .val (.long z2), .second, .val (.long z3), .second, .val (.long z4), .second, .val (.int f17), .val (.int f18), .val (.int f19), .val (.int f20), .val (.ref b9), .val (.ref r13), .unset, .unset, .unset, .unset, .unset] [(.long z4), (.int f20), (.long z3), (.int f19), (.long z2), (.int f18), (.long z1), (.int f17), (.long z1)])) rfl (by rw [hml]; rfl) (argsL := [(.long z1), (.int f17), (.long z1), (.int f18), (.long z2), (.int f19), (.long z3), (.int f20), (.long z4)]) (rest := []) (lenOf pd8 rfl) rfl (hb hby at_178) rfl (by decide) (Nat.le_of_ble_eq_true rfl) (k' := 3) (n' := 38) rfl rfl (by decide) (by decide)
            refine Go.by st15 ?_
            obtain ⟨rfl, rfl⟩ := q15
            show Go p.tables e below _ (T15.setTop (mkF m 181 #[.val (.long p0), .second, .val (.long p1), .second, .val (.long p2), .second, .val (.long p3), .second, .val (.int p4), .val (.long z1), .second, .val (.long z2), .second, .val (.long z3), .second, .val (.long z4), .second, .val (.int f17), .val (.int f18), .val (.int f19), .val (.int f20), .val (.ref b9), .val (.ref r13), .unset, .unset, .unset, .unset, .unset] [(.int (pz z1 f17 z1 f18 z2 f19 z3 f20 z4))]))
            refine Go.by (fun _ => XS.istore X15.here hx rfl (hb hby at_181) rfl (l' := #[.val (.long p0), .second, .val (.long p1), .second, .val (.long p2), .second, .val (.long p3), .second, .val (.int p4), .val (.long z1), .second, .val (.long z2), .second, .val (.long z3), .second, .val (.long z4), .second, .val (.int f17), .val (.int f18), .val (.int f19), .val (.int f20), .val (.ref b9), .val (.ref r13), .val (.int (pz z1 f17 z1 f18 z2 f19 z3 f20 z4)), .unset, .unset, .unset, .unset]) rfl) ?_
            show Go p.tables e below _ (T15.setTop (mkF m 183 #[.val (.long p0), .second, .val (.long p1), .second, .val (.long p2), .second, .val (.long p3), .second, .val (.int p4), .val (.long z1), .second, .val (.long z2), .second, .val (.long z3), .second, .val (.long z4), .second, .val (.int f17), .val (.int f18), .val (.int f19), .val (.int f20), .val (.ref b9), .val (.ref r13), .val (.int (pz z1 f17 z1 f18 z2 f19 z3 f20 z4)), .unset, .unset, .unset, .unset] []))
            refine Go.by (fun _ => XS.lload X15.here hx rfl (hb hby at_183) rfl) ?_
            show Go p.tables e below _ (T15.setTop (mkF m 185 #[.val (.long p0), .second, .val (.long p1), .second, .val (.long p2), .second, .val (.long p3), .second, .val (.int p4), .val (.long z1), .second, .val (.long z2), .second, .val (.long z3), .second, .val (.long z4), .second, .val (.int f17), .val (.int f18), .val (.int f19), .val (.int f20), .val (.ref b9), .val (.ref r13), .val (.int (pz z1 f17 z1 f18 z2 f19 z3 f20 z4)), .unset, .unset, .unset, .unset] [(.long z2)]))
            refine Go.by (fun _ => XS.iload X15.here hx rfl (hb hby at_185) rfl) ?_
            show Go p.tables e below _ (T15.setTop (mkF m 187 #[.val (.long p0), .second, .val (.long p1), .second, .val (.long p2), .second, .val (.long p3), .second, .val (.int p4), .val (.long z1), .second, .val (.long z2), .second, .val (.long z3), .second, .val (.long z4), .second, .val (.int f17), .val (.int f18), .val (.int f19), .val (.int f20), .val (.ref b9), .val (.ref r13), .val (.int (pz z1 f17 z1 f18 z2 f19 z3 f20 z4)), .unset, .unset, .unset, .unset] [(.int f17), (.long z2)]))
            refine Go.by (fun _ => XS.lload X15.here hx rfl (hb hby at_187) rfl) ?_
            show Go p.tables e below _ (T15.setTop (mkF m 189 #[.val (.long p0), .second, .val (.long p1), .second, .val (.long p2), .second, .val (.long p3), .second, .val (.int p4), .val (.long z1), .second, .val (.long z2), .second, .val (.long z3), .second, .val (.long z4), .second, .val (.int f17), .val (.int f18), .val (.int f19), .val (.int f20), .val (.ref b9), .val (.ref r13), .val (.int (pz z1 f17 z1 f18 z2 f19 z3 f20 z4)), .unset, .unset, .unset, .unset] [(.long z1), (.int f17), (.long z2)]))
            refine Go.by (fun _ => XS.iload X15.here hx rfl (hb hby at_189) rfl) ?_
            show Go p.tables e below _ (T15.setTop (mkF m 191 #[.val (.long p0), .second, .val (.long p1), .second, .val (.long p2), .second, .val (.long p3), .second, .val (.int p4), .val (.long z1), .second, .val (.long z2), .second, .val (.long z3), .second, .val (.long z4), .second, .val (.int f17), .val (.int f18), .val (.int f19), .val (.int f20), .val (.ref b9), .val (.ref r13), .val (.int (pz z1 f17 z1 f18 z2 f19 z3 f20 z4)), .unset, .unset, .unset, .unset] [(.int f18), (.long z1), (.int f17), (.long z2)]))
            refine Go.by (fun _ => XS.lload X15.here hx rfl (hb hby at_191) rfl) ?_
            show Go p.tables e below _ (T15.setTop (mkF m 193 #[.val (.long p0), .second, .val (.long p1), .second, .val (.long p2), .second, .val (.long p3), .second, .val (.int p4), .val (.long z1), .second, .val (.long z2), .second, .val (.long z3), .second, .val (.long z4), .second, .val (.int f17), .val (.int f18), .val (.int f19), .val (.int f20), .val (.ref b9), .val (.ref r13), .val (.int (pz z1 f17 z1 f18 z2 f19 z3 f20 z4)), .unset, .unset, .unset, .unset] [(.long z2), (.int f18), (.long z1), (.int f17), (.long z2)]))
            refine Go.by (fun _ => XS.iload X15.here hx rfl (hb hby at_193) rfl) ?_
            show Go p.tables e below _ (T15.setTop (mkF m 195 #[.val (.long p0), .second, .val (.long p1), .second, .val (.long p2), .second, .val (.long p3), .second, .val (.int p4), .val (.long z1), .second, .val (.long z2), .second, .val (.long z3), .second, .val (.long z4), .second, .val (.int f17), .val (.int f18), .val (.int f19), .val (.int f20), .val (.ref b9), .val (.ref r13), .val (.int (pz z1 f17 z1 f18 z2 f19 z3 f20 z4)), .unset, .unset, .unset, .unset] [(.int f19), (.long z2), (.int f18), (.long z1), (.int f17), (.long z2)]))
            refine Go.by (fun _ => XS.lload X15.here hx rfl (hb hby at_195) rfl) ?_
            show Go p.tables e below _ (T15.setTop (mkF m 197 #[.val (.long p0), .second, .val (.long p1), .second, .val (.long p2), .second, .val (.long p3), .second, .val (.int p4), .val (.long z1), .second, .val (.long z2), .second, .val (.long z3), .second, .val (.long z4), .second, .val (.int f17), .val (.int f18), .val (.int f19), .val (.int f20), .val (.ref b9), .val (.ref r13), .val (.int (pz z1 f17 z1 f18 z2 f19 z3 f20 z4)), .unset, .unset, .unset, .unset] [(.long z3), (.int f19), (.long z2), (.int f18), (.long z1), (.int f17), (.long z2)]))
            refine Go.by (fun _ => XS.iload X15.here hx rfl (hb hby at_197) rfl) ?_
            show Go p.tables e below _ (T15.setTop (mkF m 199 #[.val (.long p0), .second, .val (.long p1), .second, .val (.long p2), .second, .val (.long p3), .second, .val (.int p4), .val (.long z1), .second, .val (.long z2), .second, .val (.long z3), .second, .val (.long z4), .second, .val (.int f17), .val (.int f18), .val (.int f19), .val (.int f20), .val (.ref b9), .val (.ref r13), .val (.int (pz z1 f17 z1 f18 z2 f19 z3 f20 z4)), .unset, .unset, .unset, .unset] [(.int f20), (.long z3), (.int f19), (.long z2), (.int f18), (.long z1), (.int f17), (.long z2)]))
            refine Go.by (fun _ => XS.lload X15.here hx rfl (hb hby at_199) rfl) ?_
            show Go p.tables e below _ (T15.setTop (mkF m 201 #[.val (.long p0), .second, .val (.long p1), .second, .val (.long p2), .second, .val (.long p3), .second, .val (.int p4), .val (.long z1), .second, .val (.long z2), .second, .val (.long z3), .second, .val (.long z4), .second, .val (.int f17), .val (.int f18), .val (.int f19), .val (.int f20), .val (.ref b9), .val (.ref r13), .val (.int (pz z1 f17 z1 f18 z2 f19 z3 f20 z4)), .unset, .unset, .unset, .unset] [(.long z4), (.int f20), (.long z3), (.int f19), (.long z2), (.int f18), (.long z1), (.int f17), (.long z2)]))
            obtain ⟨v16, T16, h16, X16, q16, st16⟩ := X15.callS hx hZ (y := (⟨"com/example/shrike/shrike/store/LongMapKeysPinLaw", "present", "(JZJZJZJZJ)Z"⟩ : MethodName)) hown (tw hw 43 rfl) (tw hw 44 rfl) (tw hw 2 rfl) (tw hw 45 rfl) (by decide) (rm9 l Z a0 hw [] z2 f17 z1 f18 z2 f19 z3 f20 z4 h13 n0 Zs14) (g := (mkF m 201 #[.val (.long p0), .second, .val (.long p1), .second, .val (.long p2), .second, .val (.long p3), .second, .val (.int p4), .val (.long z1), .second, .val (.long z2), .second, .val (.long z3), .second, .val (.long z4), .second, .val (.int f17), .val (.int f18), .val (.int f19), .val (.int f20), .val (.ref b9), .val (.ref r13), .val (.int (pz z1 f17 z1 f18 z2 f19 z3 f20 z4)), .unset, .unset, .unset, .unset] [(.long z4), (.int f20), (.long z3), (.int f19), (.long z2), (.int f18), (.long z1), (.int f17), (.long z2)])) rfl (by rw [hml]; rfl) (argsL := [(.long z2), (.int f17), (.long z1), (.int f18), (.long z2), (.int f19), (.long z3), (.int f20), (.long z4)]) (rest := []) (lenOf pd8 rfl) rfl (hb hby at_201) rfl (by decide) (Nat.le_of_ble_eq_true rfl) (k' := 3) (n' := 38) rfl rfl (by decide) (by decide)
            refine Go.by st16 ?_
            obtain ⟨rfl, rfl⟩ := q16
            show Go p.tables e below _ (T16.setTop (mkF m 204 #[.val (.long p0), .second, .val (.long p1), .second, .val (.long p2), .second, .val (.long p3), .second, .val (.int p4), .val (.long z1), .second, .val (.long z2), .second, .val (.long z3), .second, .val (.long z4), .second, .val (.int f17), .val (.int f18), .val (.int f19), .val (.int f20), .val (.ref b9), .val (.ref r13), .val (.int (pz z1 f17 z1 f18 z2 f19 z3 f20 z4)), .unset, .unset, .unset, .unset] [(.int (pz z2 f17 z1 f18 z2 f19 z3 f20 z4))]))
            refine Go.by (fun _ => XS.istore X16.here hx rfl (hb hby at_204) rfl (l' := #[.val (.long p0), .second, .val (.long p1), .second, .val (.long p2), .second, .val (.long p3), .second, .val (.int p4), .val (.long z1), .second, .val (.long z2), .second, .val (.long z3), .second, .val (.long z4), .second, .val (.int f17), .val (.int f18), .val (.int f19), .val (.int f20), .val (.ref b9), .val (.ref r13), .val (.int (pz z1 f17 z1 f18 z2 f19 z3 f20 z4)), .val (.int (pz z2 f17 z1 f18 z2 f19 z3 f20 z4)), .unset, .unset, .unset]) rfl) ?_
            show Go p.tables e below _ (T16.setTop (mkF m 206 #[.val (.long p0), .second, .val (.long p1), .second, .val (.long p2), .second, .val (.long p3), .second, .val (.int p4), .val (.long z1), .second, .val (.long z2), .second, .val (.long z3), .second, .val (.long z4), .second, .val (.int f17), .val (.int f18), .val (.int f19), .val (.int f20), .val (.ref b9), .val (.ref r13), .val (.int (pz z1 f17 z1 f18 z2 f19 z3 f20 z4)), .val (.int (pz z2 f17 z1 f18 z2 f19 z3 f20 z4)), .unset, .unset, .unset] []))
            refine Go.by (fun _ => XS.lload X16.here hx rfl (hb hby at_206) rfl) ?_
            show Go p.tables e below _ (T16.setTop (mkF m 208 #[.val (.long p0), .second, .val (.long p1), .second, .val (.long p2), .second, .val (.long p3), .second, .val (.int p4), .val (.long z1), .second, .val (.long z2), .second, .val (.long z3), .second, .val (.long z4), .second, .val (.int f17), .val (.int f18), .val (.int f19), .val (.int f20), .val (.ref b9), .val (.ref r13), .val (.int (pz z1 f17 z1 f18 z2 f19 z3 f20 z4)), .val (.int (pz z2 f17 z1 f18 z2 f19 z3 f20 z4)), .unset, .unset, .unset] [(.long z3)]))
            refine Go.by (fun _ => XS.iload X16.here hx rfl (hb hby at_208) rfl) ?_
            show Go p.tables e below _ (T16.setTop (mkF m 210 #[.val (.long p0), .second, .val (.long p1), .second, .val (.long p2), .second, .val (.long p3), .second, .val (.int p4), .val (.long z1), .second, .val (.long z2), .second, .val (.long z3), .second, .val (.long z4), .second, .val (.int f17), .val (.int f18), .val (.int f19), .val (.int f20), .val (.ref b9), .val (.ref r13), .val (.int (pz z1 f17 z1 f18 z2 f19 z3 f20 z4)), .val (.int (pz z2 f17 z1 f18 z2 f19 z3 f20 z4)), .unset, .unset, .unset] [(.int f17), (.long z3)]))
            refine Go.by (fun _ => XS.lload X16.here hx rfl (hb hby at_210) rfl) ?_
            show Go p.tables e below _ (T16.setTop (mkF m 212 #[.val (.long p0), .second, .val (.long p1), .second, .val (.long p2), .second, .val (.long p3), .second, .val (.int p4), .val (.long z1), .second, .val (.long z2), .second, .val (.long z3), .second, .val (.long z4), .second, .val (.int f17), .val (.int f18), .val (.int f19), .val (.int f20), .val (.ref b9), .val (.ref r13), .val (.int (pz z1 f17 z1 f18 z2 f19 z3 f20 z4)), .val (.int (pz z2 f17 z1 f18 z2 f19 z3 f20 z4)), .unset, .unset, .unset] [(.long z1), (.int f17), (.long z3)]))
            refine Go.by (fun _ => XS.iload X16.here hx rfl (hb hby at_212) rfl) ?_
            show Go p.tables e below _ (T16.setTop (mkF m 214 #[.val (.long p0), .second, .val (.long p1), .second, .val (.long p2), .second, .val (.long p3), .second, .val (.int p4), .val (.long z1), .second, .val (.long z2), .second, .val (.long z3), .second, .val (.long z4), .second, .val (.int f17), .val (.int f18), .val (.int f19), .val (.int f20), .val (.ref b9), .val (.ref r13), .val (.int (pz z1 f17 z1 f18 z2 f19 z3 f20 z4)), .val (.int (pz z2 f17 z1 f18 z2 f19 z3 f20 z4)), .unset, .unset, .unset] [(.int f18), (.long z1), (.int f17), (.long z3)]))
            refine Go.by (fun _ => XS.lload X16.here hx rfl (hb hby at_214) rfl) ?_
            show Go p.tables e below _ (T16.setTop (mkF m 216 #[.val (.long p0), .second, .val (.long p1), .second, .val (.long p2), .second, .val (.long p3), .second, .val (.int p4), .val (.long z1), .second, .val (.long z2), .second, .val (.long z3), .second, .val (.long z4), .second, .val (.int f17), .val (.int f18), .val (.int f19), .val (.int f20), .val (.ref b9), .val (.ref r13), .val (.int (pz z1 f17 z1 f18 z2 f19 z3 f20 z4)), .val (.int (pz z2 f17 z1 f18 z2 f19 z3 f20 z4)), .unset, .unset, .unset] [(.long z2), (.int f18), (.long z1), (.int f17), (.long z3)]))
            refine Go.by (fun _ => XS.iload X16.here hx rfl (hb hby at_216) rfl) ?_
            show Go p.tables e below _ (T16.setTop (mkF m 218 #[.val (.long p0), .second, .val (.long p1), .second, .val (.long p2), .second, .val (.long p3), .second, .val (.int p4), .val (.long z1), .second, .val (.long z2), .second, .val (.long z3), .second, .val (.long z4), .second, .val (.int f17), .val (.int f18), .val (.int f19), .val (.int f20), .val (.ref b9), .val (.ref r13), .val (.int (pz z1 f17 z1 f18 z2 f19 z3 f20 z4)), .val (.int (pz z2 f17 z1 f18 z2 f19 z3 f20 z4)), .unset, .unset, .unset] [(.int f19), (.long z2), (.int f18), (.long z1), (.int f17), (.long z3)]))
            refine Go.by (fun _ => XS.lload X16.here hx rfl (hb hby at_218) rfl) ?_
            show Go p.tables e below _ (T16.setTop (mkF m 220 #[.val (.long p0), .second, .val (.long p1), .second, .val (.long p2), .second, .val (.long p3), .second, .val (.int p4), .val (.long z1), .second, .val (.long z2), .second, .val (.long z3), .second, .val (.long z4), .second, .val (.int f17), .val (.int f18), .val (.int f19), .val (.int f20), .val (.ref b9), .val (.ref r13), .val (.int (pz z1 f17 z1 f18 z2 f19 z3 f20 z4)), .val (.int (pz z2 f17 z1 f18 z2 f19 z3 f20 z4)), .unset, .unset, .unset] [(.long z3), (.int f19), (.long z2), (.int f18), (.long z1), (.int f17), (.long z3)]))
            refine Go.by (fun _ => XS.iload X16.here hx rfl (hb hby at_220) rfl) ?_
            show Go p.tables e below _ (T16.setTop (mkF m 222 #[.val (.long p0), .second, .val (.long p1), .second, .val (.long p2), .second, .val (.long p3), .second, .val (.int p4), .val (.long z1), .second, .val (.long z2), .second, .val (.long z3), .second, .val (.long z4), .second, .val (.int f17), .val (.int f18), .val (.int f19), .val (.int f20), .val (.ref b9), .val (.ref r13), .val (.int (pz z1 f17 z1 f18 z2 f19 z3 f20 z4)), .val (.int (pz z2 f17 z1 f18 z2 f19 z3 f20 z4)), .unset, .unset, .unset] [(.int f20), (.long z3), (.int f19), (.long z2), (.int f18), (.long z1), (.int f17), (.long z3)]))
            refine Go.by (fun _ => XS.lload X16.here hx rfl (hb hby at_222) rfl) ?_
            show Go p.tables e below _ (T16.setTop (mkF m 224 #[.val (.long p0), .second, .val (.long p1), .second, .val (.long p2), .second, .val (.long p3), .second, .val (.int p4), .val (.long z1), .second, .val (.long z2), .second, .val (.long z3), .second, .val (.long z4), .second, .val (.int f17), .val (.int f18), .val (.int f19), .val (.int f20), .val (.ref b9), .val (.ref r13), .val (.int (pz z1 f17 z1 f18 z2 f19 z3 f20 z4)), .val (.int (pz z2 f17 z1 f18 z2 f19 z3 f20 z4)), .unset, .unset, .unset] [(.long z4), (.int f20), (.long z3), (.int f19), (.long z2), (.int f18), (.long z1), (.int f17), (.long z3)]))
            obtain ⟨v17, T17, h17, X17, q17, st17⟩ := X16.callS hx hZ (y := (⟨"com/example/shrike/shrike/store/LongMapKeysPinLaw", "present", "(JZJZJZJZJ)Z"⟩ : MethodName)) hown (tw hw 43 rfl) (tw hw 44 rfl) (tw hw 2 rfl) (tw hw 45 rfl) (by decide) (rm9 l Z a0 hw [] z3 f17 z1 f18 z2 f19 z3 f20 z4 h13 n0 Zs14) (g := (mkF m 224 #[.val (.long p0), .second, .val (.long p1), .second, .val (.long p2), .second, .val (.long p3), .second, .val (.int p4), .val (.long z1), .second, .val (.long z2), .second, .val (.long z3), .second, .val (.long z4), .second, .val (.int f17), .val (.int f18), .val (.int f19), .val (.int f20), .val (.ref b9), .val (.ref r13), .val (.int (pz z1 f17 z1 f18 z2 f19 z3 f20 z4)), .val (.int (pz z2 f17 z1 f18 z2 f19 z3 f20 z4)), .unset, .unset, .unset] [(.long z4), (.int f20), (.long z3), (.int f19), (.long z2), (.int f18), (.long z1), (.int f17), (.long z3)])) rfl (by rw [hml]; rfl) (argsL := [(.long z3), (.int f17), (.long z1), (.int f18), (.long z2), (.int f19), (.long z3), (.int f20), (.long z4)]) (rest := []) (lenOf pd8 rfl) rfl (hb hby at_224) rfl (by decide) (Nat.le_of_ble_eq_true rfl) (k' := 3) (n' := 38) rfl rfl (by decide) (by decide)
            refine Go.by st17 ?_
            obtain ⟨rfl, rfl⟩ := q17
            show Go p.tables e below _ (T17.setTop (mkF m 227 #[.val (.long p0), .second, .val (.long p1), .second, .val (.long p2), .second, .val (.long p3), .second, .val (.int p4), .val (.long z1), .second, .val (.long z2), .second, .val (.long z3), .second, .val (.long z4), .second, .val (.int f17), .val (.int f18), .val (.int f19), .val (.int f20), .val (.ref b9), .val (.ref r13), .val (.int (pz z1 f17 z1 f18 z2 f19 z3 f20 z4)), .val (.int (pz z2 f17 z1 f18 z2 f19 z3 f20 z4)), .unset, .unset, .unset] [(.int (pz z3 f17 z1 f18 z2 f19 z3 f20 z4))]))
            refine Go.by (fun _ => XS.istore X17.here hx rfl (hb hby at_227) rfl (l' := #[.val (.long p0), .second, .val (.long p1), .second, .val (.long p2), .second, .val (.long p3), .second, .val (.int p4), .val (.long z1), .second, .val (.long z2), .second, .val (.long z3), .second, .val (.long z4), .second, .val (.int f17), .val (.int f18), .val (.int f19), .val (.int f20), .val (.ref b9), .val (.ref r13), .val (.int (pz z1 f17 z1 f18 z2 f19 z3 f20 z4)), .val (.int (pz z2 f17 z1 f18 z2 f19 z3 f20 z4)), .val (.int (pz z3 f17 z1 f18 z2 f19 z3 f20 z4)), .unset, .unset]) rfl) ?_
            show Go p.tables e below _ (T17.setTop (mkF m 229 #[.val (.long p0), .second, .val (.long p1), .second, .val (.long p2), .second, .val (.long p3), .second, .val (.int p4), .val (.long z1), .second, .val (.long z2), .second, .val (.long z3), .second, .val (.long z4), .second, .val (.int f17), .val (.int f18), .val (.int f19), .val (.int f20), .val (.ref b9), .val (.ref r13), .val (.int (pz z1 f17 z1 f18 z2 f19 z3 f20 z4)), .val (.int (pz z2 f17 z1 f18 z2 f19 z3 f20 z4)), .val (.int (pz z3 f17 z1 f18 z2 f19 z3 f20 z4)), .unset, .unset] []))
            refine Go.by (fun _ => XS.lload X17.here hx rfl (hb hby at_229) rfl) ?_
            show Go p.tables e below _ (T17.setTop (mkF m 231 #[.val (.long p0), .second, .val (.long p1), .second, .val (.long p2), .second, .val (.long p3), .second, .val (.int p4), .val (.long z1), .second, .val (.long z2), .second, .val (.long z3), .second, .val (.long z4), .second, .val (.int f17), .val (.int f18), .val (.int f19), .val (.int f20), .val (.ref b9), .val (.ref r13), .val (.int (pz z1 f17 z1 f18 z2 f19 z3 f20 z4)), .val (.int (pz z2 f17 z1 f18 z2 f19 z3 f20 z4)), .val (.int (pz z3 f17 z1 f18 z2 f19 z3 f20 z4)), .unset, .unset] [(.long z4)]))
            refine Go.by (fun _ => XS.iload X17.here hx rfl (hb hby at_231) rfl) ?_
            show Go p.tables e below _ (T17.setTop (mkF m 233 #[.val (.long p0), .second, .val (.long p1), .second, .val (.long p2), .second, .val (.long p3), .second, .val (.int p4), .val (.long z1), .second, .val (.long z2), .second, .val (.long z3), .second, .val (.long z4), .second, .val (.int f17), .val (.int f18), .val (.int f19), .val (.int f20), .val (.ref b9), .val (.ref r13), .val (.int (pz z1 f17 z1 f18 z2 f19 z3 f20 z4)), .val (.int (pz z2 f17 z1 f18 z2 f19 z3 f20 z4)), .val (.int (pz z3 f17 z1 f18 z2 f19 z3 f20 z4)), .unset, .unset] [(.int f17), (.long z4)]))
            refine Go.by (fun _ => XS.lload X17.here hx rfl (hb hby at_233) rfl) ?_
            show Go p.tables e below _ (T17.setTop (mkF m 235 #[.val (.long p0), .second, .val (.long p1), .second, .val (.long p2), .second, .val (.long p3), .second, .val (.int p4), .val (.long z1), .second, .val (.long z2), .second, .val (.long z3), .second, .val (.long z4), .second, .val (.int f17), .val (.int f18), .val (.int f19), .val (.int f20), .val (.ref b9), .val (.ref r13), .val (.int (pz z1 f17 z1 f18 z2 f19 z3 f20 z4)), .val (.int (pz z2 f17 z1 f18 z2 f19 z3 f20 z4)), .val (.int (pz z3 f17 z1 f18 z2 f19 z3 f20 z4)), .unset, .unset] [(.long z1), (.int f17), (.long z4)]))
            refine Go.by (fun _ => XS.iload X17.here hx rfl (hb hby at_235) rfl) ?_
            show Go p.tables e below _ (T17.setTop (mkF m 237 #[.val (.long p0), .second, .val (.long p1), .second, .val (.long p2), .second, .val (.long p3), .second, .val (.int p4), .val (.long z1), .second, .val (.long z2), .second, .val (.long z3), .second, .val (.long z4), .second, .val (.int f17), .val (.int f18), .val (.int f19), .val (.int f20), .val (.ref b9), .val (.ref r13), .val (.int (pz z1 f17 z1 f18 z2 f19 z3 f20 z4)), .val (.int (pz z2 f17 z1 f18 z2 f19 z3 f20 z4)), .val (.int (pz z3 f17 z1 f18 z2 f19 z3 f20 z4)), .unset, .unset] [(.int f18), (.long z1), (.int f17), (.long z4)]))
            refine Go.by (fun _ => XS.lload X17.here hx rfl (hb hby at_237) rfl) ?_
            show Go p.tables e below _ (T17.setTop (mkF m 239 #[.val (.long p0), .second, .val (.long p1), .second, .val (.long p2), .second, .val (.long p3), .second, .val (.int p4), .val (.long z1), .second, .val (.long z2), .second, .val (.long z3), .second, .val (.long z4), .second, .val (.int f17), .val (.int f18), .val (.int f19), .val (.int f20), .val (.ref b9), .val (.ref r13), .val (.int (pz z1 f17 z1 f18 z2 f19 z3 f20 z4)), .val (.int (pz z2 f17 z1 f18 z2 f19 z3 f20 z4)), .val (.int (pz z3 f17 z1 f18 z2 f19 z3 f20 z4)), .unset, .unset] [(.long z2), (.int f18), (.long z1), (.int f17), (.long z4)]))
            refine Go.by (fun _ => XS.iload X17.here hx rfl (hb hby at_239) rfl) ?_
            show Go p.tables e below _ (T17.setTop (mkF m 241 #[.val (.long p0), .second, .val (.long p1), .second, .val (.long p2), .second, .val (.long p3), .second, .val (.int p4), .val (.long z1), .second, .val (.long z2), .second, .val (.long z3), .second, .val (.long z4), .second, .val (.int f17), .val (.int f18), .val (.int f19), .val (.int f20), .val (.ref b9), .val (.ref r13), .val (.int (pz z1 f17 z1 f18 z2 f19 z3 f20 z4)), .val (.int (pz z2 f17 z1 f18 z2 f19 z3 f20 z4)), .val (.int (pz z3 f17 z1 f18 z2 f19 z3 f20 z4)), .unset, .unset] [(.int f19), (.long z2), (.int f18), (.long z1), (.int f17), (.long z4)]))
            refine Go.by (fun _ => XS.lload X17.here hx rfl (hb hby at_241) rfl) ?_
            show Go p.tables e below _ (T17.setTop (mkF m 243 #[.val (.long p0), .second, .val (.long p1), .second, .val (.long p2), .second, .val (.long p3), .second, .val (.int p4), .val (.long z1), .second, .val (.long z2), .second, .val (.long z3), .second, .val (.long z4), .second, .val (.int f17), .val (.int f18), .val (.int f19), .val (.int f20), .val (.ref b9), .val (.ref r13), .val (.int (pz z1 f17 z1 f18 z2 f19 z3 f20 z4)), .val (.int (pz z2 f17 z1 f18 z2 f19 z3 f20 z4)), .val (.int (pz z3 f17 z1 f18 z2 f19 z3 f20 z4)), .unset, .unset] [(.long z3), (.int f19), (.long z2), (.int f18), (.long z1), (.int f17), (.long z4)]))
            refine Go.by (fun _ => XS.iload X17.here hx rfl (hb hby at_243) rfl) ?_
            show Go p.tables e below _ (T17.setTop (mkF m 245 #[.val (.long p0), .second, .val (.long p1), .second, .val (.long p2), .second, .val (.long p3), .second, .val (.int p4), .val (.long z1), .second, .val (.long z2), .second, .val (.long z3), .second, .val (.long z4), .second, .val (.int f17), .val (.int f18), .val (.int f19), .val (.int f20), .val (.ref b9), .val (.ref r13), .val (.int (pz z1 f17 z1 f18 z2 f19 z3 f20 z4)), .val (.int (pz z2 f17 z1 f18 z2 f19 z3 f20 z4)), .val (.int (pz z3 f17 z1 f18 z2 f19 z3 f20 z4)), .unset, .unset] [(.int f20), (.long z3), (.int f19), (.long z2), (.int f18), (.long z1), (.int f17), (.long z4)]))
            refine Go.by (fun _ => XS.lload X17.here hx rfl (hb hby at_245) rfl) ?_
            show Go p.tables e below _ (T17.setTop (mkF m 247 #[.val (.long p0), .second, .val (.long p1), .second, .val (.long p2), .second, .val (.long p3), .second, .val (.int p4), .val (.long z1), .second, .val (.long z2), .second, .val (.long z3), .second, .val (.long z4), .second, .val (.int f17), .val (.int f18), .val (.int f19), .val (.int f20), .val (.ref b9), .val (.ref r13), .val (.int (pz z1 f17 z1 f18 z2 f19 z3 f20 z4)), .val (.int (pz z2 f17 z1 f18 z2 f19 z3 f20 z4)), .val (.int (pz z3 f17 z1 f18 z2 f19 z3 f20 z4)), .unset, .unset] [(.long z4), (.int f20), (.long z3), (.int f19), (.long z2), (.int f18), (.long z1), (.int f17), (.long z4)]))
            obtain ⟨v18, T18, h18, X18, q18, st18⟩ := X17.callS hx hZ (y := (⟨"com/example/shrike/shrike/store/LongMapKeysPinLaw", "present", "(JZJZJZJZJ)Z"⟩ : MethodName)) hown (tw hw 43 rfl) (tw hw 44 rfl) (tw hw 2 rfl) (tw hw 45 rfl) (by decide) (rm9 l Z a0 hw [] z4 f17 z1 f18 z2 f19 z3 f20 z4 h13 n0 Zs14) (g := (mkF m 247 #[.val (.long p0), .second, .val (.long p1), .second, .val (.long p2), .second, .val (.long p3), .second, .val (.int p4), .val (.long z1), .second, .val (.long z2), .second, .val (.long z3), .second, .val (.long z4), .second, .val (.int f17), .val (.int f18), .val (.int f19), .val (.int f20), .val (.ref b9), .val (.ref r13), .val (.int (pz z1 f17 z1 f18 z2 f19 z3 f20 z4)), .val (.int (pz z2 f17 z1 f18 z2 f19 z3 f20 z4)), .val (.int (pz z3 f17 z1 f18 z2 f19 z3 f20 z4)), .unset, .unset] [(.long z4), (.int f20), (.long z3), (.int f19), (.long z2), (.int f18), (.long z1), (.int f17), (.long z4)])) rfl (by rw [hml]; rfl) (argsL := [(.long z4), (.int f17), (.long z1), (.int f18), (.long z2), (.int f19), (.long z3), (.int f20), (.long z4)]) (rest := []) (lenOf pd8 rfl) rfl (hb hby at_247) rfl (by decide) (Nat.le_of_ble_eq_true rfl) (k' := 3) (n' := 38) rfl rfl (by decide) (by decide)
            refine Go.by st18 ?_
            obtain ⟨rfl, rfl⟩ := q18
            show Go p.tables e below _ (T18.setTop (mkF m 250 #[.val (.long p0), .second, .val (.long p1), .second, .val (.long p2), .second, .val (.long p3), .second, .val (.int p4), .val (.long z1), .second, .val (.long z2), .second, .val (.long z3), .second, .val (.long z4), .second, .val (.int f17), .val (.int f18), .val (.int f19), .val (.int f20), .val (.ref b9), .val (.ref r13), .val (.int (pz z1 f17 z1 f18 z2 f19 z3 f20 z4)), .val (.int (pz z2 f17 z1 f18 z2 f19 z3 f20 z4)), .val (.int (pz z3 f17 z1 f18 z2 f19 z3 f20 z4)), .unset, .unset] [(.int (pz z4 f17 z1 f18 z2 f19 z3 f20 z4))]))
            refine Go.by (fun _ => XS.istore X18.here hx rfl (hb hby at_250) rfl (l' := #[.val (.long p0), .second, .val (.long p1), .second, .val (.long p2), .second, .val (.long p3), .second, .val (.int p4), .val (.long z1), .second, .val (.long z2), .second, .val (.long z3), .second, .val (.long z4), .second, .val (.int f17), .val (.int f18), .val (.int f19), .val (.int f20), .val (.ref b9), .val (.ref r13), .val (.int (pz z1 f17 z1 f18 z2 f19 z3 f20 z4)), .val (.int (pz z2 f17 z1 f18 z2 f19 z3 f20 z4)), .val (.int (pz z3 f17 z1 f18 z2 f19 z3 f20 z4)), .val (.int (pz z4 f17 z1 f18 z2 f19 z3 f20 z4)), .unset]) rfl) ?_
            show Go p.tables e below _ (T18.setTop (mkF m 252 #[.val (.long p0), .second, .val (.long p1), .second, .val (.long p2), .second, .val (.long p3), .second, .val (.int p4), .val (.long z1), .second, .val (.long z2), .second, .val (.long z3), .second, .val (.long z4), .second, .val (.int f17), .val (.int f18), .val (.int f19), .val (.int f20), .val (.ref b9), .val (.ref r13), .val (.int (pz z1 f17 z1 f18 z2 f19 z3 f20 z4)), .val (.int (pz z2 f17 z1 f18 z2 f19 z3 f20 z4)), .val (.int (pz z3 f17 z1 f18 z2 f19 z3 f20 z4)), .val (.int (pz z4 f17 z1 f18 z2 f19 z3 f20 z4)), .unset] []))
            have J19 : ∀ (Tj19 : State), Sd n0 p l e room_1 s m #[(.long p0), (.long p1), (.long p2), (.long p3), (.int p4)] below meth c Tj19 h13 3 38 → ∀ (e27 : Int32), e27 = Int32.ofNat (pre fj 16).length → Go p.tables e below (Ret s n0 (fun v h => v = some (.int 1)) room_1.cells room_1.slots) (Tj19.setTop (mkF m 308 #[.val (.long p0), .second, .val (.long p1), .second, .val (.long p2), .second, .val (.long p3), .second, .val (.int p4), .val (.long z1), .second, .val (.long z2), .second, .val (.long z3), .second, .val (.long z4), .second, .val (.int f17), .val (.int f18), .val (.int f19), .val (.int f20), .val (.ref b9), .val (.ref r13), .val (.int (pz z1 f17 z1 f18 z2 f19 z3 f20 z4)), .val (.int (pz z2 f17 z1 f18 z2 f19 z3 f20 z4)), .val (.int (pz z3 f17 z1 f18 z2 f19 z3 f20 z4)), .val (.int (pz z4 f17 z1 f18 z2 f19 z3 f20 z4)), .unset] [(.int e27)])) := by
              intro Tj19 Xj19 e27 hj19
              refine Go.by (fun _ => XS.istore Xj19.here hx rfl (hb hby at_308) rfl (l' := #[.val (.long p0), .second, .val (.long p1), .second, .val (.long p2), .second, .val (.long p3), .second, .val (.int p4), .val (.long z1), .second, .val (.long z2), .second, .val (.long z3), .second, .val (.long z4), .second, .val (.int f17), .val (.int f18), .val (.int f19), .val (.int f20), .val (.ref b9), .val (.ref r13), .val (.int (pz z1 f17 z1 f18 z2 f19 z3 f20 z4)), .val (.int (pz z2 f17 z1 f18 z2 f19 z3 f20 z4)), .val (.int (pz z3 f17 z1 f18 z2 f19 z3 f20 z4)), .val (.int (pz z4 f17 z1 f18 z2 f19 z3 f20 z4)), .val (.int e27)]) rfl) ?_
              show Go p.tables e below _ (Tj19.setTop (mkF m 310 #[.val (.long p0), .second, .val (.long p1), .second, .val (.long p2), .second, .val (.long p3), .second, .val (.int p4), .val (.long z1), .second, .val (.long z2), .second, .val (.long z3), .second, .val (.long z4), .second, .val (.int f17), .val (.int f18), .val (.int f19), .val (.int f20), .val (.ref b9), .val (.ref r13), .val (.int (pz z1 f17 z1 f18 z2 f19 z3 f20 z4)), .val (.int (pz z2 f17 z1 f18 z2 f19 z3 f20 z4)), .val (.int (pz z3 f17 z1 f18 z2 f19 z3 f20 z4)), .val (.int (pz z4 f17 z1 f18 z2 f19 z3 f20 z4)), .val (.int e27)] []))
              refine Go.by (fun _ => XS.aload Xj19.here hx rfl (hb hby at_310) rfl rfl) ?_
              show Go p.tables e below _ (Tj19.setTop (mkF m 312 #[.val (.long p0), .second, .val (.long p1), .second, .val (.long p2), .second, .val (.long p3), .second, .val (.int p4), .val (.long z1), .second, .val (.long z2), .second, .val (.long z3), .second, .val (.long z4), .second, .val (.int f17), .val (.int f18), .val (.int f19), .val (.int f20), .val (.ref b9), .val (.ref r13), .val (.int (pz z1 f17 z1 f18 z2 f19 z3 f20 z4)), .val (.int (pz z2 f17 z1 f18 z2 f19 z3 f20 z4)), .val (.int (pz z3 f17 z1 f18 z2 f19 z3 f20 z4)), .val (.int (pz z4 f17 z1 f18 z2 f19 z3 f20 z4)), .val (.int e27)] [(.ref r13)]))
              refine Go.by (Xj19.len hx hZ V13 (z := (sz.toInt32)) rfl (g := (mkF m 312 #[.val (.long p0), .second, .val (.long p1), .second, .val (.long p2), .second, .val (.long p3), .second, .val (.int p4), .val (.long z1), .second, .val (.long z2), .second, .val (.long z3), .second, .val (.long z4), .second, .val (.int f17), .val (.int f18), .val (.int f19), .val (.int f20), .val (.ref b9), .val (.ref r13), .val (.int (pz z1 f17 z1 f18 z2 f19 z3 f20 z4)), .val (.int (pz z2 f17 z1 f18 z2 f19 z3 f20 z4)), .val (.int (pz z3 f17 z1 f18 z2 f19 z3 f20 z4)), .val (.int (pz z4 f17 z1 f18 z2 f19 z3 f20 z4)), .val (.int e27)] [(.ref r13)])) rfl rfl (hb hby at_312)) ?_
              show Go p.tables e below _ (Tj19.setTop (mkF m 313 #[.val (.long p0), .second, .val (.long p1), .second, .val (.long p2), .second, .val (.long p3), .second, .val (.int p4), .val (.long z1), .second, .val (.long z2), .second, .val (.long z3), .second, .val (.long z4), .second, .val (.int f17), .val (.int f18), .val (.int f19), .val (.int f20), .val (.ref b9), .val (.ref r13), .val (.int (pz z1 f17 z1 f18 z2 f19 z3 f20 z4)), .val (.int (pz z2 f17 z1 f18 z2 f19 z3 f20 z4)), .val (.int (pz z3 f17 z1 f18 z2 f19 z3 f20 z4)), .val (.int (pz z4 f17 z1 f18 z2 f19 z3 f20 z4)), .val (.int e27)] [(.int (sz.toInt32))]))
              refine Go.by (fun _ => XS.iload Xj19.here hx rfl (hb hby at_313) rfl) ?_
              show Go p.tables e below _ (Tj19.setTop (mkF m 315 #[.val (.long p0), .second, .val (.long p1), .second, .val (.long p2), .second, .val (.long p3), .second, .val (.int p4), .val (.long z1), .second, .val (.long z2), .second, .val (.long z3), .second, .val (.long z4), .second, .val (.int f17), .val (.int f18), .val (.int f19), .val (.int f20), .val (.ref b9), .val (.ref r13), .val (.int (pz z1 f17 z1 f18 z2 f19 z3 f20 z4)), .val (.int (pz z2 f17 z1 f18 z2 f19 z3 f20 z4)), .val (.int (pz z3 f17 z1 f18 z2 f19 z3 f20 z4)), .val (.int (pz z4 f17 z1 f18 z2 f19 z3 f20 z4)), .val (.int e27)] [(.int e27), (.int (sz.toInt32))]))
              refine Go.by (fun _ => XS.icmpYes Xj19.here hx rfl (pc0 := 315) (pc' := 320) rfl (hb hby at_315) rfl (teq ((by rw [hj19, hszj]))).1 (by decide) (by decide)) ?_
              show Go p.tables e below _ (Tj19.setTop (mkF m 320 #[.val (.long p0), .second, .val (.long p1), .second, .val (.long p2), .second, .val (.long p3), .second, .val (.int p4), .val (.long z1), .second, .val (.long z2), .second, .val (.long z3), .second, .val (.long z4), .second, .val (.int f17), .val (.int f18), .val (.int f19), .val (.int f20), .val (.ref b9), .val (.ref r13), .val (.int (pz z1 f17 z1 f18 z2 f19 z3 f20 z4)), .val (.int (pz z2 f17 z1 f18 z2 f19 z3 f20 z4)), .val (.int (pz z3 f17 z1 f18 z2 f19 z3 f20 z4)), .val (.int (pz z4 f17 z1 f18 z2 f19 z3 f20 z4)), .val (.int e27)] []))
              have J20 : ∀ (Tj20 : State), Sd n0 p l e room_1 s m #[(.long p0), (.long p1), (.long p2), (.long p3), (.int p4)] below meth c Tj20 h13 3 38 → ∀ (u : Unit), True → Go p.tables e below (Ret s n0 (fun v h => v = some (.int 1)) room_1.cells room_1.slots) (Tj20.setTop (mkF m 340 #[.val (.long p0), .second, .val (.long p1), .second, .val (.long p2), .second, .val (.long p3), .second, .val (.int p4), .val (.long z1), .second, .val (.long z2), .second, .val (.long z3), .second, .val (.long z4), .second, .val (.int f17), .val (.int f18), .val (.int f19), .val (.int f20), .val (.ref b9), .val (.ref r13), .val (.int (pz z1 f17 z1 f18 z2 f19 z3 f20 z4)), .val (.int (pz z2 f17 z1 f18 z2 f19 z3 f20 z4)), .val (.int (pz z3 f17 z1 f18 z2 f19 z3 f20 z4)), .val (.int (pz z4 f17 z1 f18 z2 f19 z3 f20 z4)), .val (.int e27)] [])) := by
                intro Tj20 Xj20 u hj20
                have J21 : ∀ (Tj21 : State), Sd n0 p l e room_1 s m #[(.long p0), (.long p1), (.long p2), (.long p3), (.int p4)] below meth c Tj21 h13 3 38 → ∀ (u : Unit), True → Go p.tables e below (Ret s n0 (fun v h => v = some (.int 1)) room_1.cells room_1.slots) (Tj21.setTop (mkF m 360 #[.val (.long p0), .second, .val (.long p1), .second, .val (.long p2), .second, .val (.long p3), .second, .val (.int p4), .val (.long z1), .second, .val (.long z2), .second, .val (.long z3), .second, .val (.long z4), .second, .val (.int f17), .val (.int f18), .val (.int f19), .val (.int f20), .val (.ref b9), .val (.ref r13), .val (.int (pz z1 f17 z1 f18 z2 f19 z3 f20 z4)), .val (.int (pz z2 f17 z1 f18 z2 f19 z3 f20 z4)), .val (.int (pz z3 f17 z1 f18 z2 f19 z3 f20 z4)), .val (.int (pz z4 f17 z1 f18 z2 f19 z3 f20 z4)), .val (.int e27)] [])) := by
                  intro Tj21 Xj21 u hj21
                  have J22 : ∀ (Tj22 : State), Sd n0 p l e room_1 s m #[(.long p0), (.long p1), (.long p2), (.long p3), (.int p4)] below meth c Tj22 h13 3 38 → ∀ (u : Unit), True → Go p.tables e below (Ret s n0 (fun v h => v = some (.int 1)) room_1.cells room_1.slots) (Tj22.setTop (mkF m 380 #[.val (.long p0), .second, .val (.long p1), .second, .val (.long p2), .second, .val (.long p3), .second, .val (.int p4), .val (.long z1), .second, .val (.long z2), .second, .val (.long z3), .second, .val (.long z4), .second, .val (.int f17), .val (.int f18), .val (.int f19), .val (.int f20), .val (.ref b9), .val (.ref r13), .val (.int (pz z1 f17 z1 f18 z2 f19 z3 f20 z4)), .val (.int (pz z2 f17 z1 f18 z2 f19 z3 f20 z4)), .val (.int (pz z3 f17 z1 f18 z2 f19 z3 f20 z4)), .val (.int (pz z4 f17 z1 f18 z2 f19 z3 f20 z4)), .val (.int e27)] [])) := by
                    intro Tj22 Xj22 u hj22
                    have J23 : ∀ (Tj23 : State), Sd n0 p l e room_1 s m #[(.long p0), (.long p1), (.long p2), (.long p3), (.int p4)] below meth c Tj23 h13 3 38 → ∀ (u : Unit), True → Go p.tables e below (Ret s n0 (fun v h => v = some (.int 1)) room_1.cells room_1.slots) (Tj23.setTop (mkF m 400 #[.val (.long p0), .second, .val (.long p1), .second, .val (.long p2), .second, .val (.long p3), .second, .val (.int p4), .val (.long z1), .second, .val (.long z2), .second, .val (.long z3), .second, .val (.long z4), .second, .val (.int f17), .val (.int f18), .val (.int f19), .val (.int f20), .val (.ref b9), .val (.ref r13), .val (.int (pz z1 f17 z1 f18 z2 f19 z3 f20 z4)), .val (.int (pz z2 f17 z1 f18 z2 f19 z3 f20 z4)), .val (.int (pz z3 f17 z1 f18 z2 f19 z3 f20 z4)), .val (.int (pz z4 f17 z1 f18 z2 f19 z3 f20 z4)), .val (.int e27)] [])) := by
                      intro Tj23 Xj23 u hj23
                      refine Go.by (fun _ => XS.iconst Xj23.here hx rfl (hb hby at_400)) ?_
                      show Go p.tables e below _ (Tj23.setTop (mkF m 401 #[.val (.long p0), .second, .val (.long p1), .second, .val (.long p2), .second, .val (.long p3), .second, .val (.int p4), .val (.long z1), .second, .val (.long z2), .second, .val (.long z3), .second, .val (.long z4), .second, .val (.int f17), .val (.int f18), .val (.int f19), .val (.int f20), .val (.ref b9), .val (.ref r13), .val (.int (pz z1 f17 z1 f18 z2 f19 z3 f20 z4)), .val (.int (pz z2 f17 z1 f18 z2 f19 z3 f20 z4)), .val (.int (pz z3 f17 z1 f18 z2 f19 z3 f20 z4)), .val (.int (pz z4 f17 z1 f18 z2 f19 z3 f20 z4)), .val (.int e27)] [(.int (1 : Int32))]))
                      refine Go.by (fun _ => XS.goto Xj23.here hx rfl (pc0 := 401) (pc' := 405) rfl (hb hby at_401) (by decide) (by decide)) ?_
                      show Go p.tables e below _ (Tj23.setTop (mkF m 405 #[.val (.long p0), .second, .val (.long p1), .second, .val (.long p2), .second, .val (.long p3), .second, .val (.int p4), .val (.long z1), .second, .val (.long z2), .second, .val (.long z3), .second, .val (.long z4), .second, .val (.int f17), .val (.int f18), .val (.int f19), .val (.int f20), .val (.ref b9), .val (.ref r13), .val (.int (pz z1 f17 z1 f18 z2 f19 z3 f20 z4)), .val (.int (pz z2 f17 z1 f18 z2 f19 z3 f20 z4)), .val (.int (pz z3 f17 z1 f18 z2 f19 z3 f20 z4)), .val (.int (pz z4 f17 z1 f18 z2 f19 z3 f20 z4)), .val (.int e27)] [(.int (1 : Int32))]))
                      exact Go.retN Xj23 hx hlk (z' := (1 : Int32)) hret (by simp) (hb hby at_405) rfl (by decide) (by decide) rfl
                    refine Go.by (fun _ => XS.aload Xj22.here hx rfl (hb hby at_380) rfl rfl) ?_
                    show Go p.tables e below _ (Tj22.setTop (mkF m 382 #[.val (.long p0), .second, .val (.long p1), .second, .val (.long p2), .second, .val (.long p3), .second, .val (.int p4), .val (.long z1), .second, .val (.long z2), .second, .val (.long z3), .second, .val (.long z4), .second, .val (.int f17), .val (.int f18), .val (.int f19), .val (.int f20), .val (.ref b9), .val (.ref r13), .val (.int (pz z1 f17 z1 f18 z2 f19 z3 f20 z4)), .val (.int (pz z2 f17 z1 f18 z2 f19 z3 f20 z4)), .val (.int (pz z3 f17 z1 f18 z2 f19 z3 f20 z4)), .val (.int (pz z4 f17 z1 f18 z2 f19 z3 f20 z4)), .val (.int e27)] [(.ref r13)]))
                    refine Go.by (fun _ => XS.lload Xj22.here hx rfl (hb hby at_382) rfl) ?_
                    show Go p.tables e below _ (Tj22.setTop (mkF m 384 #[.val (.long p0), .second, .val (.long p1), .second, .val (.long p2), .second, .val (.long p3), .second, .val (.int p4), .val (.long z1), .second, .val (.long z2), .second, .val (.long z3), .second, .val (.long z4), .second, .val (.int f17), .val (.int f18), .val (.int f19), .val (.int f20), .val (.ref b9), .val (.ref r13), .val (.int (pz z1 f17 z1 f18 z2 f19 z3 f20 z4)), .val (.int (pz z2 f17 z1 f18 z2 f19 z3 f20 z4)), .val (.int (pz z3 f17 z1 f18 z2 f19 z3 f20 z4)), .val (.int (pz z4 f17 z1 f18 z2 f19 z3 f20 z4)), .val (.int e27)] [(.long z4), (.ref r13)]))
                    obtain ⟨v24, T24, h24, X24, q24, st24⟩ := Xj22.callS hx hZ (y := (⟨"com/example/shrike/shrike/store/LongMapKeysPinLaw", "occ", "([JJ)I"⟩ : MethodName)) hown (tw hw 46 rfl) (tw hw 47 rfl) (tw hw 2 rfl) (tw hw 48 rfl) (by decide) (rm10 l Z a0 hw [] r13 z4 kr13 (pre fj 16) h13 n0 Zs14 Vo ho3) (g := (mkF m 384 #[.val (.long p0), .second, .val (.long p1), .second, .val (.long p2), .second, .val (.long p3), .second, .val (.int p4), .val (.long z1), .second, .val (.long z2), .second, .val (.long z3), .second, .val (.long z4), .second, .val (.int f17), .val (.int f18), .val (.int f19), .val (.int f20), .val (.ref b9), .val (.ref r13), .val (.int (pz z1 f17 z1 f18 z2 f19 z3 f20 z4)), .val (.int (pz z2 f17 z1 f18 z2 f19 z3 f20 z4)), .val (.int (pz z3 f17 z1 f18 z2 f19 z3 f20 z4)), .val (.int (pz z4 f17 z1 f18 z2 f19 z3 f20 z4)), .val (.int e27)] [(.long z4), (.ref r13)])) rfl (by rw [hml]; rfl) (argsL := [(.ref r13), (.long z4)]) (rest := []) (lenOf pd9 rfl) rfl (hb hby at_384) rfl (by decide) (Nat.le_of_ble_eq_true rfl) (k' := 3) (n' := 38) rfl rfl (by decide) (by decide)
                    refine Go.by st24 ?_
                    obtain ⟨rfl, rfl⟩ := q24
                    show Go p.tables e below _ (T24.setTop (mkF m 387 #[.val (.long p0), .second, .val (.long p1), .second, .val (.long p2), .second, .val (.long p3), .second, .val (.int p4), .val (.long z1), .second, .val (.long z2), .second, .val (.long z3), .second, .val (.long z4), .second, .val (.int f17), .val (.int f18), .val (.int f19), .val (.int f20), .val (.ref b9), .val (.ref r13), .val (.int (pz z1 f17 z1 f18 z2 f19 z3 f20 z4)), .val (.int (pz z2 f17 z1 f18 z2 f19 z3 f20 z4)), .val (.int (pz z3 f17 z1 f18 z2 f19 z3 f20 z4)), .val (.int (pz z4 f17 z1 f18 z2 f19 z3 f20 z4)), .val (.int e27)] [(.int (Int32.ofNat ((pre fj 16).count z4)))]))
                    refine Go.by (fun _ => XS.iload X24.here hx rfl (hb hby at_387) rfl) ?_
                    show Go p.tables e below _ (T24.setTop (mkF m 389 #[.val (.long p0), .second, .val (.long p1), .second, .val (.long p2), .second, .val (.long p3), .second, .val (.int p4), .val (.long z1), .second, .val (.long z2), .second, .val (.long z3), .second, .val (.long z4), .second, .val (.int f17), .val (.int f18), .val (.int f19), .val (.int f20), .val (.ref b9), .val (.ref r13), .val (.int (pz z1 f17 z1 f18 z2 f19 z3 f20 z4)), .val (.int (pz z2 f17 z1 f18 z2 f19 z3 f20 z4)), .val (.int (pz z3 f17 z1 f18 z2 f19 z3 f20 z4)), .val (.int (pz z4 f17 z1 f18 z2 f19 z3 f20 z4)), .val (.int e27)] [(.int (pz z4 f17 z1 f18 z2 f19 z3 f20 z4)), (.int (Int32.ofNat ((pre fj 16).count z4)))]))
                    by_cases hc389_25 : (pz z4 f17 z1 f18 z2 f19 z3 f20 z4) = (0 : Int32)
                    · skip
                      refine Go.by (fun _ => XS.ifYes X24.here hx rfl (pc0 := 389) (pc' := 396) rfl (hb hby at_389) rfl ((if0 _ _).trans (teq hc389_25).1) (by decide) (by decide)) ?_
                      show Go p.tables e below _ (T24.setTop (mkF m 396 #[.val (.long p0), .second, .val (.long p1), .second, .val (.long p2), .second, .val (.long p3), .second, .val (.int p4), .val (.long z1), .second, .val (.long z2), .second, .val (.long z3), .second, .val (.long z4), .second, .val (.int f17), .val (.int f18), .val (.int f19), .val (.int f20), .val (.ref b9), .val (.ref r13), .val (.int (pz z1 f17 z1 f18 z2 f19 z3 f20 z4)), .val (.int (pz z2 f17 z1 f18 z2 f19 z3 f20 z4)), .val (.int (pz z3 f17 z1 f18 z2 f19 z3 f20 z4)), .val (.int (pz z4 f17 z1 f18 z2 f19 z3 f20 z4)), .val (.int e27)] [(.int (Int32.ofNat ((pre fj 16).count z4)))]))
                      refine Go.by (fun _ => XS.iconst X24.here hx rfl (hb hby at_396)) ?_
                      show Go p.tables e below _ (T24.setTop (mkF m 397 #[.val (.long p0), .second, .val (.long p1), .second, .val (.long p2), .second, .val (.long p3), .second, .val (.int p4), .val (.long z1), .second, .val (.long z2), .second, .val (.long z3), .second, .val (.long z4), .second, .val (.int f17), .val (.int f18), .val (.int f19), .val (.int f20), .val (.ref b9), .val (.ref r13), .val (.int (pz z1 f17 z1 f18 z2 f19 z3 f20 z4)), .val (.int (pz z2 f17 z1 f18 z2 f19 z3 f20 z4)), .val (.int (pz z3 f17 z1 f18 z2 f19 z3 f20 z4)), .val (.int (pz z4 f17 z1 f18 z2 f19 z3 f20 z4)), .val (.int e27)] [(.int (0 : Int32)), (.int (Int32.ofNat ((pre fj 16).count z4)))]))
                      refine Go.by (fun _ => XS.icmpNo X24.here hx rfl (hb hby at_397) rfl (teq ((by rw [cq3, if_pos hc389_25]; rfl))).2) ?_
                      show Go p.tables e below _ (T24.setTop (mkF m 400 #[.val (.long p0), .second, .val (.long p1), .second, .val (.long p2), .second, .val (.long p3), .second, .val (.int p4), .val (.long z1), .second, .val (.long z2), .second, .val (.long z3), .second, .val (.long z4), .second, .val (.int f17), .val (.int f18), .val (.int f19), .val (.int f20), .val (.ref b9), .val (.ref r13), .val (.int (pz z1 f17 z1 f18 z2 f19 z3 f20 z4)), .val (.int (pz z2 f17 z1 f18 z2 f19 z3 f20 z4)), .val (.int (pz z3 f17 z1 f18 z2 f19 z3 f20 z4)), .val (.int (pz z4 f17 z1 f18 z2 f19 z3 f20 z4)), .val (.int e27)] []))
                      exact J23 _ X24 () trivial
                    · skip
                      refine Go.by (fun _ => XS.ifNo X24.here hx rfl (hb hby at_389) rfl ((if0 _ _).trans (feq hc389_25).1)) ?_
                      show Go p.tables e below _ (T24.setTop (mkF m 392 #[.val (.long p0), .second, .val (.long p1), .second, .val (.long p2), .second, .val (.long p3), .second, .val (.int p4), .val (.long z1), .second, .val (.long z2), .second, .val (.long z3), .second, .val (.long z4), .second, .val (.int f17), .val (.int f18), .val (.int f19), .val (.int f20), .val (.ref b9), .val (.ref r13), .val (.int (pz z1 f17 z1 f18 z2 f19 z3 f20 z4)), .val (.int (pz z2 f17 z1 f18 z2 f19 z3 f20 z4)), .val (.int (pz z3 f17 z1 f18 z2 f19 z3 f20 z4)), .val (.int (pz z4 f17 z1 f18 z2 f19 z3 f20 z4)), .val (.int e27)] [(.int (Int32.ofNat ((pre fj 16).count z4)))]))
                      refine Go.by (fun _ => XS.iconst X24.here hx rfl (hb hby at_392)) ?_
                      show Go p.tables e below _ (T24.setTop (mkF m 393 #[.val (.long p0), .second, .val (.long p1), .second, .val (.long p2), .second, .val (.long p3), .second, .val (.int p4), .val (.long z1), .second, .val (.long z2), .second, .val (.long z3), .second, .val (.long z4), .second, .val (.int f17), .val (.int f18), .val (.int f19), .val (.int f20), .val (.ref b9), .val (.ref r13), .val (.int (pz z1 f17 z1 f18 z2 f19 z3 f20 z4)), .val (.int (pz z2 f17 z1 f18 z2 f19 z3 f20 z4)), .val (.int (pz z3 f17 z1 f18 z2 f19 z3 f20 z4)), .val (.int (pz z4 f17 z1 f18 z2 f19 z3 f20 z4)), .val (.int e27)] [(.int (1 : Int32)), (.int (Int32.ofNat ((pre fj 16).count z4)))]))
                      refine Go.by (fun _ => XS.goto X24.here hx rfl (pc0 := 393) (pc' := 397) rfl (hb hby at_393) (by decide) (by decide)) ?_
                      show Go p.tables e below _ (T24.setTop (mkF m 397 #[.val (.long p0), .second, .val (.long p1), .second, .val (.long p2), .second, .val (.long p3), .second, .val (.int p4), .val (.long z1), .second, .val (.long z2), .second, .val (.long z3), .second, .val (.long z4), .second, .val (.int f17), .val (.int f18), .val (.int f19), .val (.int f20), .val (.ref b9), .val (.ref r13), .val (.int (pz z1 f17 z1 f18 z2 f19 z3 f20 z4)), .val (.int (pz z2 f17 z1 f18 z2 f19 z3 f20 z4)), .val (.int (pz z3 f17 z1 f18 z2 f19 z3 f20 z4)), .val (.int (pz z4 f17 z1 f18 z2 f19 z3 f20 z4)), .val (.int e27)] [(.int (1 : Int32)), (.int (Int32.ofNat ((pre fj 16).count z4)))]))
                      refine Go.by (fun _ => XS.icmpNo X24.here hx rfl (hb hby at_397) rfl (teq ((by rw [cq3, if_neg hc389_25]; rfl))).2) ?_
                      show Go p.tables e below _ (T24.setTop (mkF m 400 #[.val (.long p0), .second, .val (.long p1), .second, .val (.long p2), .second, .val (.long p3), .second, .val (.int p4), .val (.long z1), .second, .val (.long z2), .second, .val (.long z3), .second, .val (.long z4), .second, .val (.int f17), .val (.int f18), .val (.int f19), .val (.int f20), .val (.ref b9), .val (.ref r13), .val (.int (pz z1 f17 z1 f18 z2 f19 z3 f20 z4)), .val (.int (pz z2 f17 z1 f18 z2 f19 z3 f20 z4)), .val (.int (pz z3 f17 z1 f18 z2 f19 z3 f20 z4)), .val (.int (pz z4 f17 z1 f18 z2 f19 z3 f20 z4)), .val (.int e27)] []))
                      exact J23 _ X24 () trivial
                  refine Go.by (fun _ => XS.aload Xj21.here hx rfl (hb hby at_360) rfl rfl) ?_
                  show Go p.tables e below _ (Tj21.setTop (mkF m 362 #[.val (.long p0), .second, .val (.long p1), .second, .val (.long p2), .second, .val (.long p3), .second, .val (.int p4), .val (.long z1), .second, .val (.long z2), .second, .val (.long z3), .second, .val (.long z4), .second, .val (.int f17), .val (.int f18), .val (.int f19), .val (.int f20), .val (.ref b9), .val (.ref r13), .val (.int (pz z1 f17 z1 f18 z2 f19 z3 f20 z4)), .val (.int (pz z2 f17 z1 f18 z2 f19 z3 f20 z4)), .val (.int (pz z3 f17 z1 f18 z2 f19 z3 f20 z4)), .val (.int (pz z4 f17 z1 f18 z2 f19 z3 f20 z4)), .val (.int e27)] [(.ref r13)]))
                  refine Go.by (fun _ => XS.lload Xj21.here hx rfl (hb hby at_362) rfl) ?_
                  show Go p.tables e below _ (Tj21.setTop (mkF m 364 #[.val (.long p0), .second, .val (.long p1), .second, .val (.long p2), .second, .val (.long p3), .second, .val (.int p4), .val (.long z1), .second, .val (.long z2), .second, .val (.long z3), .second, .val (.long z4), .second, .val (.int f17), .val (.int f18), .val (.int f19), .val (.int f20), .val (.ref b9), .val (.ref r13), .val (.int (pz z1 f17 z1 f18 z2 f19 z3 f20 z4)), .val (.int (pz z2 f17 z1 f18 z2 f19 z3 f20 z4)), .val (.int (pz z3 f17 z1 f18 z2 f19 z3 f20 z4)), .val (.int (pz z4 f17 z1 f18 z2 f19 z3 f20 z4)), .val (.int e27)] [(.long z3), (.ref r13)]))
                  obtain ⟨v26, T26, h26, X26, q26, st26⟩ := Xj21.callS hx hZ (y := (⟨"com/example/shrike/shrike/store/LongMapKeysPinLaw", "occ", "([JJ)I"⟩ : MethodName)) hown (tw hw 46 rfl) (tw hw 47 rfl) (tw hw 2 rfl) (tw hw 48 rfl) (by decide) (rm10 l Z a0 hw [] r13 z3 kr13 (pre fj 16) h13 n0 Zs14 Vo ho3) (g := (mkF m 364 #[.val (.long p0), .second, .val (.long p1), .second, .val (.long p2), .second, .val (.long p3), .second, .val (.int p4), .val (.long z1), .second, .val (.long z2), .second, .val (.long z3), .second, .val (.long z4), .second, .val (.int f17), .val (.int f18), .val (.int f19), .val (.int f20), .val (.ref b9), .val (.ref r13), .val (.int (pz z1 f17 z1 f18 z2 f19 z3 f20 z4)), .val (.int (pz z2 f17 z1 f18 z2 f19 z3 f20 z4)), .val (.int (pz z3 f17 z1 f18 z2 f19 z3 f20 z4)), .val (.int (pz z4 f17 z1 f18 z2 f19 z3 f20 z4)), .val (.int e27)] [(.long z3), (.ref r13)])) rfl (by rw [hml]; rfl) (argsL := [(.ref r13), (.long z3)]) (rest := []) (lenOf pd9 rfl) rfl (hb hby at_364) rfl (by decide) (Nat.le_of_ble_eq_true rfl) (k' := 3) (n' := 38) rfl rfl (by decide) (by decide)
                  refine Go.by st26 ?_
                  obtain ⟨rfl, rfl⟩ := q26
                  show Go p.tables e below _ (T26.setTop (mkF m 367 #[.val (.long p0), .second, .val (.long p1), .second, .val (.long p2), .second, .val (.long p3), .second, .val (.int p4), .val (.long z1), .second, .val (.long z2), .second, .val (.long z3), .second, .val (.long z4), .second, .val (.int f17), .val (.int f18), .val (.int f19), .val (.int f20), .val (.ref b9), .val (.ref r13), .val (.int (pz z1 f17 z1 f18 z2 f19 z3 f20 z4)), .val (.int (pz z2 f17 z1 f18 z2 f19 z3 f20 z4)), .val (.int (pz z3 f17 z1 f18 z2 f19 z3 f20 z4)), .val (.int (pz z4 f17 z1 f18 z2 f19 z3 f20 z4)), .val (.int e27)] [(.int (Int32.ofNat ((pre fj 16).count z3)))]))
                  refine Go.by (fun _ => XS.iload X26.here hx rfl (hb hby at_367) rfl) ?_
                  show Go p.tables e below _ (T26.setTop (mkF m 369 #[.val (.long p0), .second, .val (.long p1), .second, .val (.long p2), .second, .val (.long p3), .second, .val (.int p4), .val (.long z1), .second, .val (.long z2), .second, .val (.long z3), .second, .val (.long z4), .second, .val (.int f17), .val (.int f18), .val (.int f19), .val (.int f20), .val (.ref b9), .val (.ref r13), .val (.int (pz z1 f17 z1 f18 z2 f19 z3 f20 z4)), .val (.int (pz z2 f17 z1 f18 z2 f19 z3 f20 z4)), .val (.int (pz z3 f17 z1 f18 z2 f19 z3 f20 z4)), .val (.int (pz z4 f17 z1 f18 z2 f19 z3 f20 z4)), .val (.int e27)] [(.int (pz z3 f17 z1 f18 z2 f19 z3 f20 z4)), (.int (Int32.ofNat ((pre fj 16).count z3)))]))
                  by_cases hc369_27 : (pz z3 f17 z1 f18 z2 f19 z3 f20 z4) = (0 : Int32)
                  · skip
                    refine Go.by (fun _ => XS.ifYes X26.here hx rfl (pc0 := 369) (pc' := 376) rfl (hb hby at_369) rfl ((if0 _ _).trans (teq hc369_27).1) (by decide) (by decide)) ?_
                    show Go p.tables e below _ (T26.setTop (mkF m 376 #[.val (.long p0), .second, .val (.long p1), .second, .val (.long p2), .second, .val (.long p3), .second, .val (.int p4), .val (.long z1), .second, .val (.long z2), .second, .val (.long z3), .second, .val (.long z4), .second, .val (.int f17), .val (.int f18), .val (.int f19), .val (.int f20), .val (.ref b9), .val (.ref r13), .val (.int (pz z1 f17 z1 f18 z2 f19 z3 f20 z4)), .val (.int (pz z2 f17 z1 f18 z2 f19 z3 f20 z4)), .val (.int (pz z3 f17 z1 f18 z2 f19 z3 f20 z4)), .val (.int (pz z4 f17 z1 f18 z2 f19 z3 f20 z4)), .val (.int e27)] [(.int (Int32.ofNat ((pre fj 16).count z3)))]))
                    refine Go.by (fun _ => XS.iconst X26.here hx rfl (hb hby at_376)) ?_
                    show Go p.tables e below _ (T26.setTop (mkF m 377 #[.val (.long p0), .second, .val (.long p1), .second, .val (.long p2), .second, .val (.long p3), .second, .val (.int p4), .val (.long z1), .second, .val (.long z2), .second, .val (.long z3), .second, .val (.long z4), .second, .val (.int f17), .val (.int f18), .val (.int f19), .val (.int f20), .val (.ref b9), .val (.ref r13), .val (.int (pz z1 f17 z1 f18 z2 f19 z3 f20 z4)), .val (.int (pz z2 f17 z1 f18 z2 f19 z3 f20 z4)), .val (.int (pz z3 f17 z1 f18 z2 f19 z3 f20 z4)), .val (.int (pz z4 f17 z1 f18 z2 f19 z3 f20 z4)), .val (.int e27)] [(.int (0 : Int32)), (.int (Int32.ofNat ((pre fj 16).count z3)))]))
                    refine Go.by (fun _ => XS.icmpNo X26.here hx rfl (hb hby at_377) rfl (teq ((by rw [cq2, if_pos hc369_27]; rfl))).2) ?_
                    show Go p.tables e below _ (T26.setTop (mkF m 380 #[.val (.long p0), .second, .val (.long p1), .second, .val (.long p2), .second, .val (.long p3), .second, .val (.int p4), .val (.long z1), .second, .val (.long z2), .second, .val (.long z3), .second, .val (.long z4), .second, .val (.int f17), .val (.int f18), .val (.int f19), .val (.int f20), .val (.ref b9), .val (.ref r13), .val (.int (pz z1 f17 z1 f18 z2 f19 z3 f20 z4)), .val (.int (pz z2 f17 z1 f18 z2 f19 z3 f20 z4)), .val (.int (pz z3 f17 z1 f18 z2 f19 z3 f20 z4)), .val (.int (pz z4 f17 z1 f18 z2 f19 z3 f20 z4)), .val (.int e27)] []))
                    exact J22 _ X26 () trivial
                  · skip
                    refine Go.by (fun _ => XS.ifNo X26.here hx rfl (hb hby at_369) rfl ((if0 _ _).trans (feq hc369_27).1)) ?_
                    show Go p.tables e below _ (T26.setTop (mkF m 372 #[.val (.long p0), .second, .val (.long p1), .second, .val (.long p2), .second, .val (.long p3), .second, .val (.int p4), .val (.long z1), .second, .val (.long z2), .second, .val (.long z3), .second, .val (.long z4), .second, .val (.int f17), .val (.int f18), .val (.int f19), .val (.int f20), .val (.ref b9), .val (.ref r13), .val (.int (pz z1 f17 z1 f18 z2 f19 z3 f20 z4)), .val (.int (pz z2 f17 z1 f18 z2 f19 z3 f20 z4)), .val (.int (pz z3 f17 z1 f18 z2 f19 z3 f20 z4)), .val (.int (pz z4 f17 z1 f18 z2 f19 z3 f20 z4)), .val (.int e27)] [(.int (Int32.ofNat ((pre fj 16).count z3)))]))
                    refine Go.by (fun _ => XS.iconst X26.here hx rfl (hb hby at_372)) ?_
                    show Go p.tables e below _ (T26.setTop (mkF m 373 #[.val (.long p0), .second, .val (.long p1), .second, .val (.long p2), .second, .val (.long p3), .second, .val (.int p4), .val (.long z1), .second, .val (.long z2), .second, .val (.long z3), .second, .val (.long z4), .second, .val (.int f17), .val (.int f18), .val (.int f19), .val (.int f20), .val (.ref b9), .val (.ref r13), .val (.int (pz z1 f17 z1 f18 z2 f19 z3 f20 z4)), .val (.int (pz z2 f17 z1 f18 z2 f19 z3 f20 z4)), .val (.int (pz z3 f17 z1 f18 z2 f19 z3 f20 z4)), .val (.int (pz z4 f17 z1 f18 z2 f19 z3 f20 z4)), .val (.int e27)] [(.int (1 : Int32)), (.int (Int32.ofNat ((pre fj 16).count z3)))]))
                    refine Go.by (fun _ => XS.goto X26.here hx rfl (pc0 := 373) (pc' := 377) rfl (hb hby at_373) (by decide) (by decide)) ?_
                    show Go p.tables e below _ (T26.setTop (mkF m 377 #[.val (.long p0), .second, .val (.long p1), .second, .val (.long p2), .second, .val (.long p3), .second, .val (.int p4), .val (.long z1), .second, .val (.long z2), .second, .val (.long z3), .second, .val (.long z4), .second, .val (.int f17), .val (.int f18), .val (.int f19), .val (.int f20), .val (.ref b9), .val (.ref r13), .val (.int (pz z1 f17 z1 f18 z2 f19 z3 f20 z4)), .val (.int (pz z2 f17 z1 f18 z2 f19 z3 f20 z4)), .val (.int (pz z3 f17 z1 f18 z2 f19 z3 f20 z4)), .val (.int (pz z4 f17 z1 f18 z2 f19 z3 f20 z4)), .val (.int e27)] [(.int (1 : Int32)), (.int (Int32.ofNat ((pre fj 16).count z3)))]))
                    refine Go.by (fun _ => XS.icmpNo X26.here hx rfl (hb hby at_377) rfl (teq ((by rw [cq2, if_neg hc369_27]; rfl))).2) ?_
                    show Go p.tables e below _ (T26.setTop (mkF m 380 #[.val (.long p0), .second, .val (.long p1), .second, .val (.long p2), .second, .val (.long p3), .second, .val (.int p4), .val (.long z1), .second, .val (.long z2), .second, .val (.long z3), .second, .val (.long z4), .second, .val (.int f17), .val (.int f18), .val (.int f19), .val (.int f20), .val (.ref b9), .val (.ref r13), .val (.int (pz z1 f17 z1 f18 z2 f19 z3 f20 z4)), .val (.int (pz z2 f17 z1 f18 z2 f19 z3 f20 z4)), .val (.int (pz z3 f17 z1 f18 z2 f19 z3 f20 z4)), .val (.int (pz z4 f17 z1 f18 z2 f19 z3 f20 z4)), .val (.int e27)] []))
                    exact J22 _ X26 () trivial
                refine Go.by (fun _ => XS.aload Xj20.here hx rfl (hb hby at_340) rfl rfl) ?_
                show Go p.tables e below _ (Tj20.setTop (mkF m 342 #[.val (.long p0), .second, .val (.long p1), .second, .val (.long p2), .second, .val (.long p3), .second, .val (.int p4), .val (.long z1), .second, .val (.long z2), .second, .val (.long z3), .second, .val (.long z4), .second, .val (.int f17), .val (.int f18), .val (.int f19), .val (.int f20), .val (.ref b9), .val (.ref r13), .val (.int (pz z1 f17 z1 f18 z2 f19 z3 f20 z4)), .val (.int (pz z2 f17 z1 f18 z2 f19 z3 f20 z4)), .val (.int (pz z3 f17 z1 f18 z2 f19 z3 f20 z4)), .val (.int (pz z4 f17 z1 f18 z2 f19 z3 f20 z4)), .val (.int e27)] [(.ref r13)]))
                refine Go.by (fun _ => XS.lload Xj20.here hx rfl (hb hby at_342) rfl) ?_
                show Go p.tables e below _ (Tj20.setTop (mkF m 344 #[.val (.long p0), .second, .val (.long p1), .second, .val (.long p2), .second, .val (.long p3), .second, .val (.int p4), .val (.long z1), .second, .val (.long z2), .second, .val (.long z3), .second, .val (.long z4), .second, .val (.int f17), .val (.int f18), .val (.int f19), .val (.int f20), .val (.ref b9), .val (.ref r13), .val (.int (pz z1 f17 z1 f18 z2 f19 z3 f20 z4)), .val (.int (pz z2 f17 z1 f18 z2 f19 z3 f20 z4)), .val (.int (pz z3 f17 z1 f18 z2 f19 z3 f20 z4)), .val (.int (pz z4 f17 z1 f18 z2 f19 z3 f20 z4)), .val (.int e27)] [(.long z2), (.ref r13)]))
                obtain ⟨v28, T28, h28, X28, q28, st28⟩ := Xj20.callS hx hZ (y := (⟨"com/example/shrike/shrike/store/LongMapKeysPinLaw", "occ", "([JJ)I"⟩ : MethodName)) hown (tw hw 46 rfl) (tw hw 47 rfl) (tw hw 2 rfl) (tw hw 48 rfl) (by decide) (rm10 l Z a0 hw [] r13 z2 kr13 (pre fj 16) h13 n0 Zs14 Vo ho3) (g := (mkF m 344 #[.val (.long p0), .second, .val (.long p1), .second, .val (.long p2), .second, .val (.long p3), .second, .val (.int p4), .val (.long z1), .second, .val (.long z2), .second, .val (.long z3), .second, .val (.long z4), .second, .val (.int f17), .val (.int f18), .val (.int f19), .val (.int f20), .val (.ref b9), .val (.ref r13), .val (.int (pz z1 f17 z1 f18 z2 f19 z3 f20 z4)), .val (.int (pz z2 f17 z1 f18 z2 f19 z3 f20 z4)), .val (.int (pz z3 f17 z1 f18 z2 f19 z3 f20 z4)), .val (.int (pz z4 f17 z1 f18 z2 f19 z3 f20 z4)), .val (.int e27)] [(.long z2), (.ref r13)])) rfl (by rw [hml]; rfl) (argsL := [(.ref r13), (.long z2)]) (rest := []) (lenOf pd9 rfl) rfl (hb hby at_344) rfl (by decide) (Nat.le_of_ble_eq_true rfl) (k' := 3) (n' := 38) rfl rfl (by decide) (by decide)
                refine Go.by st28 ?_
                obtain ⟨rfl, rfl⟩ := q28
                show Go p.tables e below _ (T28.setTop (mkF m 347 #[.val (.long p0), .second, .val (.long p1), .second, .val (.long p2), .second, .val (.long p3), .second, .val (.int p4), .val (.long z1), .second, .val (.long z2), .second, .val (.long z3), .second, .val (.long z4), .second, .val (.int f17), .val (.int f18), .val (.int f19), .val (.int f20), .val (.ref b9), .val (.ref r13), .val (.int (pz z1 f17 z1 f18 z2 f19 z3 f20 z4)), .val (.int (pz z2 f17 z1 f18 z2 f19 z3 f20 z4)), .val (.int (pz z3 f17 z1 f18 z2 f19 z3 f20 z4)), .val (.int (pz z4 f17 z1 f18 z2 f19 z3 f20 z4)), .val (.int e27)] [(.int (Int32.ofNat ((pre fj 16).count z2)))]))
                refine Go.by (fun _ => XS.iload X28.here hx rfl (hb hby at_347) rfl) ?_
                show Go p.tables e below _ (T28.setTop (mkF m 349 #[.val (.long p0), .second, .val (.long p1), .second, .val (.long p2), .second, .val (.long p3), .second, .val (.int p4), .val (.long z1), .second, .val (.long z2), .second, .val (.long z3), .second, .val (.long z4), .second, .val (.int f17), .val (.int f18), .val (.int f19), .val (.int f20), .val (.ref b9), .val (.ref r13), .val (.int (pz z1 f17 z1 f18 z2 f19 z3 f20 z4)), .val (.int (pz z2 f17 z1 f18 z2 f19 z3 f20 z4)), .val (.int (pz z3 f17 z1 f18 z2 f19 z3 f20 z4)), .val (.int (pz z4 f17 z1 f18 z2 f19 z3 f20 z4)), .val (.int e27)] [(.int (pz z2 f17 z1 f18 z2 f19 z3 f20 z4)), (.int (Int32.ofNat ((pre fj 16).count z2)))]))
                by_cases hc349_29 : (pz z2 f17 z1 f18 z2 f19 z3 f20 z4) = (0 : Int32)
                · skip
                  refine Go.by (fun _ => XS.ifYes X28.here hx rfl (pc0 := 349) (pc' := 356) rfl (hb hby at_349) rfl ((if0 _ _).trans (teq hc349_29).1) (by decide) (by decide)) ?_
                  show Go p.tables e below _ (T28.setTop (mkF m 356 #[.val (.long p0), .second, .val (.long p1), .second, .val (.long p2), .second, .val (.long p3), .second, .val (.int p4), .val (.long z1), .second, .val (.long z2), .second, .val (.long z3), .second, .val (.long z4), .second, .val (.int f17), .val (.int f18), .val (.int f19), .val (.int f20), .val (.ref b9), .val (.ref r13), .val (.int (pz z1 f17 z1 f18 z2 f19 z3 f20 z4)), .val (.int (pz z2 f17 z1 f18 z2 f19 z3 f20 z4)), .val (.int (pz z3 f17 z1 f18 z2 f19 z3 f20 z4)), .val (.int (pz z4 f17 z1 f18 z2 f19 z3 f20 z4)), .val (.int e27)] [(.int (Int32.ofNat ((pre fj 16).count z2)))]))
                  refine Go.by (fun _ => XS.iconst X28.here hx rfl (hb hby at_356)) ?_
                  show Go p.tables e below _ (T28.setTop (mkF m 357 #[.val (.long p0), .second, .val (.long p1), .second, .val (.long p2), .second, .val (.long p3), .second, .val (.int p4), .val (.long z1), .second, .val (.long z2), .second, .val (.long z3), .second, .val (.long z4), .second, .val (.int f17), .val (.int f18), .val (.int f19), .val (.int f20), .val (.ref b9), .val (.ref r13), .val (.int (pz z1 f17 z1 f18 z2 f19 z3 f20 z4)), .val (.int (pz z2 f17 z1 f18 z2 f19 z3 f20 z4)), .val (.int (pz z3 f17 z1 f18 z2 f19 z3 f20 z4)), .val (.int (pz z4 f17 z1 f18 z2 f19 z3 f20 z4)), .val (.int e27)] [(.int (0 : Int32)), (.int (Int32.ofNat ((pre fj 16).count z2)))]))
                  refine Go.by (fun _ => XS.icmpNo X28.here hx rfl (hb hby at_357) rfl (teq ((by rw [cq1, if_pos hc349_29]; rfl))).2) ?_
                  show Go p.tables e below _ (T28.setTop (mkF m 360 #[.val (.long p0), .second, .val (.long p1), .second, .val (.long p2), .second, .val (.long p3), .second, .val (.int p4), .val (.long z1), .second, .val (.long z2), .second, .val (.long z3), .second, .val (.long z4), .second, .val (.int f17), .val (.int f18), .val (.int f19), .val (.int f20), .val (.ref b9), .val (.ref r13), .val (.int (pz z1 f17 z1 f18 z2 f19 z3 f20 z4)), .val (.int (pz z2 f17 z1 f18 z2 f19 z3 f20 z4)), .val (.int (pz z3 f17 z1 f18 z2 f19 z3 f20 z4)), .val (.int (pz z4 f17 z1 f18 z2 f19 z3 f20 z4)), .val (.int e27)] []))
                  exact J21 _ X28 () trivial
                · skip
                  refine Go.by (fun _ => XS.ifNo X28.here hx rfl (hb hby at_349) rfl ((if0 _ _).trans (feq hc349_29).1)) ?_
                  show Go p.tables e below _ (T28.setTop (mkF m 352 #[.val (.long p0), .second, .val (.long p1), .second, .val (.long p2), .second, .val (.long p3), .second, .val (.int p4), .val (.long z1), .second, .val (.long z2), .second, .val (.long z3), .second, .val (.long z4), .second, .val (.int f17), .val (.int f18), .val (.int f19), .val (.int f20), .val (.ref b9), .val (.ref r13), .val (.int (pz z1 f17 z1 f18 z2 f19 z3 f20 z4)), .val (.int (pz z2 f17 z1 f18 z2 f19 z3 f20 z4)), .val (.int (pz z3 f17 z1 f18 z2 f19 z3 f20 z4)), .val (.int (pz z4 f17 z1 f18 z2 f19 z3 f20 z4)), .val (.int e27)] [(.int (Int32.ofNat ((pre fj 16).count z2)))]))
                  refine Go.by (fun _ => XS.iconst X28.here hx rfl (hb hby at_352)) ?_
                  show Go p.tables e below _ (T28.setTop (mkF m 353 #[.val (.long p0), .second, .val (.long p1), .second, .val (.long p2), .second, .val (.long p3), .second, .val (.int p4), .val (.long z1), .second, .val (.long z2), .second, .val (.long z3), .second, .val (.long z4), .second, .val (.int f17), .val (.int f18), .val (.int f19), .val (.int f20), .val (.ref b9), .val (.ref r13), .val (.int (pz z1 f17 z1 f18 z2 f19 z3 f20 z4)), .val (.int (pz z2 f17 z1 f18 z2 f19 z3 f20 z4)), .val (.int (pz z3 f17 z1 f18 z2 f19 z3 f20 z4)), .val (.int (pz z4 f17 z1 f18 z2 f19 z3 f20 z4)), .val (.int e27)] [(.int (1 : Int32)), (.int (Int32.ofNat ((pre fj 16).count z2)))]))
                  refine Go.by (fun _ => XS.goto X28.here hx rfl (pc0 := 353) (pc' := 357) rfl (hb hby at_353) (by decide) (by decide)) ?_
                  show Go p.tables e below _ (T28.setTop (mkF m 357 #[.val (.long p0), .second, .val (.long p1), .second, .val (.long p2), .second, .val (.long p3), .second, .val (.int p4), .val (.long z1), .second, .val (.long z2), .second, .val (.long z3), .second, .val (.long z4), .second, .val (.int f17), .val (.int f18), .val (.int f19), .val (.int f20), .val (.ref b9), .val (.ref r13), .val (.int (pz z1 f17 z1 f18 z2 f19 z3 f20 z4)), .val (.int (pz z2 f17 z1 f18 z2 f19 z3 f20 z4)), .val (.int (pz z3 f17 z1 f18 z2 f19 z3 f20 z4)), .val (.int (pz z4 f17 z1 f18 z2 f19 z3 f20 z4)), .val (.int e27)] [(.int (1 : Int32)), (.int (Int32.ofNat ((pre fj 16).count z2)))]))
                  refine Go.by (fun _ => XS.icmpNo X28.here hx rfl (hb hby at_357) rfl (teq ((by rw [cq1, if_neg hc349_29]; rfl))).2) ?_
                  show Go p.tables e below _ (T28.setTop (mkF m 360 #[.val (.long p0), .second, .val (.long p1), .second, .val (.long p2), .second, .val (.long p3), .second, .val (.int p4), .val (.long z1), .second, .val (.long z2), .second, .val (.long z3), .second, .val (.long z4), .second, .val (.int f17), .val (.int f18), .val (.int f19), .val (.int f20), .val (.ref b9), .val (.ref r13), .val (.int (pz z1 f17 z1 f18 z2 f19 z3 f20 z4)), .val (.int (pz z2 f17 z1 f18 z2 f19 z3 f20 z4)), .val (.int (pz z3 f17 z1 f18 z2 f19 z3 f20 z4)), .val (.int (pz z4 f17 z1 f18 z2 f19 z3 f20 z4)), .val (.int e27)] []))
                  exact J21 _ X28 () trivial
              refine Go.by (fun _ => XS.aload Xj19.here hx rfl (hb hby at_320) rfl rfl) ?_
              show Go p.tables e below _ (Tj19.setTop (mkF m 322 #[.val (.long p0), .second, .val (.long p1), .second, .val (.long p2), .second, .val (.long p3), .second, .val (.int p4), .val (.long z1), .second, .val (.long z2), .second, .val (.long z3), .second, .val (.long z4), .second, .val (.int f17), .val (.int f18), .val (.int f19), .val (.int f20), .val (.ref b9), .val (.ref r13), .val (.int (pz z1 f17 z1 f18 z2 f19 z3 f20 z4)), .val (.int (pz z2 f17 z1 f18 z2 f19 z3 f20 z4)), .val (.int (pz z3 f17 z1 f18 z2 f19 z3 f20 z4)), .val (.int (pz z4 f17 z1 f18 z2 f19 z3 f20 z4)), .val (.int e27)] [(.ref r13)]))
              refine Go.by (fun _ => XS.lload Xj19.here hx rfl (hb hby at_322) rfl) ?_
              show Go p.tables e below _ (Tj19.setTop (mkF m 324 #[.val (.long p0), .second, .val (.long p1), .second, .val (.long p2), .second, .val (.long p3), .second, .val (.int p4), .val (.long z1), .second, .val (.long z2), .second, .val (.long z3), .second, .val (.long z4), .second, .val (.int f17), .val (.int f18), .val (.int f19), .val (.int f20), .val (.ref b9), .val (.ref r13), .val (.int (pz z1 f17 z1 f18 z2 f19 z3 f20 z4)), .val (.int (pz z2 f17 z1 f18 z2 f19 z3 f20 z4)), .val (.int (pz z3 f17 z1 f18 z2 f19 z3 f20 z4)), .val (.int (pz z4 f17 z1 f18 z2 f19 z3 f20 z4)), .val (.int e27)] [(.long z1), (.ref r13)]))
              obtain ⟨v30, T30, h30, X30, q30, st30⟩ := Xj19.callS hx hZ (y := (⟨"com/example/shrike/shrike/store/LongMapKeysPinLaw", "occ", "([JJ)I"⟩ : MethodName)) hown (tw hw 46 rfl) (tw hw 47 rfl) (tw hw 2 rfl) (tw hw 48 rfl) (by decide) (rm10 l Z a0 hw [] r13 z1 kr13 (pre fj 16) h13 n0 Zs14 Vo ho3) (g := (mkF m 324 #[.val (.long p0), .second, .val (.long p1), .second, .val (.long p2), .second, .val (.long p3), .second, .val (.int p4), .val (.long z1), .second, .val (.long z2), .second, .val (.long z3), .second, .val (.long z4), .second, .val (.int f17), .val (.int f18), .val (.int f19), .val (.int f20), .val (.ref b9), .val (.ref r13), .val (.int (pz z1 f17 z1 f18 z2 f19 z3 f20 z4)), .val (.int (pz z2 f17 z1 f18 z2 f19 z3 f20 z4)), .val (.int (pz z3 f17 z1 f18 z2 f19 z3 f20 z4)), .val (.int (pz z4 f17 z1 f18 z2 f19 z3 f20 z4)), .val (.int e27)] [(.long z1), (.ref r13)])) rfl (by rw [hml]; rfl) (argsL := [(.ref r13), (.long z1)]) (rest := []) (lenOf pd9 rfl) rfl (hb hby at_324) rfl (by decide) (Nat.le_of_ble_eq_true rfl) (k' := 3) (n' := 38) rfl rfl (by decide) (by decide)
              refine Go.by st30 ?_
              obtain ⟨rfl, rfl⟩ := q30
              show Go p.tables e below _ (T30.setTop (mkF m 327 #[.val (.long p0), .second, .val (.long p1), .second, .val (.long p2), .second, .val (.long p3), .second, .val (.int p4), .val (.long z1), .second, .val (.long z2), .second, .val (.long z3), .second, .val (.long z4), .second, .val (.int f17), .val (.int f18), .val (.int f19), .val (.int f20), .val (.ref b9), .val (.ref r13), .val (.int (pz z1 f17 z1 f18 z2 f19 z3 f20 z4)), .val (.int (pz z2 f17 z1 f18 z2 f19 z3 f20 z4)), .val (.int (pz z3 f17 z1 f18 z2 f19 z3 f20 z4)), .val (.int (pz z4 f17 z1 f18 z2 f19 z3 f20 z4)), .val (.int e27)] [(.int (Int32.ofNat ((pre fj 16).count z1)))]))
              refine Go.by (fun _ => XS.iload X30.here hx rfl (hb hby at_327) rfl) ?_
              show Go p.tables e below _ (T30.setTop (mkF m 329 #[.val (.long p0), .second, .val (.long p1), .second, .val (.long p2), .second, .val (.long p3), .second, .val (.int p4), .val (.long z1), .second, .val (.long z2), .second, .val (.long z3), .second, .val (.long z4), .second, .val (.int f17), .val (.int f18), .val (.int f19), .val (.int f20), .val (.ref b9), .val (.ref r13), .val (.int (pz z1 f17 z1 f18 z2 f19 z3 f20 z4)), .val (.int (pz z2 f17 z1 f18 z2 f19 z3 f20 z4)), .val (.int (pz z3 f17 z1 f18 z2 f19 z3 f20 z4)), .val (.int (pz z4 f17 z1 f18 z2 f19 z3 f20 z4)), .val (.int e27)] [(.int (pz z1 f17 z1 f18 z2 f19 z3 f20 z4)), (.int (Int32.ofNat ((pre fj 16).count z1)))]))
              by_cases hc329_31 : (pz z1 f17 z1 f18 z2 f19 z3 f20 z4) = (0 : Int32)
              · skip
                refine Go.by (fun _ => XS.ifYes X30.here hx rfl (pc0 := 329) (pc' := 336) rfl (hb hby at_329) rfl ((if0 _ _).trans (teq hc329_31).1) (by decide) (by decide)) ?_
                show Go p.tables e below _ (T30.setTop (mkF m 336 #[.val (.long p0), .second, .val (.long p1), .second, .val (.long p2), .second, .val (.long p3), .second, .val (.int p4), .val (.long z1), .second, .val (.long z2), .second, .val (.long z3), .second, .val (.long z4), .second, .val (.int f17), .val (.int f18), .val (.int f19), .val (.int f20), .val (.ref b9), .val (.ref r13), .val (.int (pz z1 f17 z1 f18 z2 f19 z3 f20 z4)), .val (.int (pz z2 f17 z1 f18 z2 f19 z3 f20 z4)), .val (.int (pz z3 f17 z1 f18 z2 f19 z3 f20 z4)), .val (.int (pz z4 f17 z1 f18 z2 f19 z3 f20 z4)), .val (.int e27)] [(.int (Int32.ofNat ((pre fj 16).count z1)))]))
                refine Go.by (fun _ => XS.iconst X30.here hx rfl (hb hby at_336)) ?_
                show Go p.tables e below _ (T30.setTop (mkF m 337 #[.val (.long p0), .second, .val (.long p1), .second, .val (.long p2), .second, .val (.long p3), .second, .val (.int p4), .val (.long z1), .second, .val (.long z2), .second, .val (.long z3), .second, .val (.long z4), .second, .val (.int f17), .val (.int f18), .val (.int f19), .val (.int f20), .val (.ref b9), .val (.ref r13), .val (.int (pz z1 f17 z1 f18 z2 f19 z3 f20 z4)), .val (.int (pz z2 f17 z1 f18 z2 f19 z3 f20 z4)), .val (.int (pz z3 f17 z1 f18 z2 f19 z3 f20 z4)), .val (.int (pz z4 f17 z1 f18 z2 f19 z3 f20 z4)), .val (.int e27)] [(.int (0 : Int32)), (.int (Int32.ofNat ((pre fj 16).count z1)))]))
                refine Go.by (fun _ => XS.icmpNo X30.here hx rfl (hb hby at_337) rfl (teq ((by rw [cq0, if_pos hc329_31]; rfl))).2) ?_
                show Go p.tables e below _ (T30.setTop (mkF m 340 #[.val (.long p0), .second, .val (.long p1), .second, .val (.long p2), .second, .val (.long p3), .second, .val (.int p4), .val (.long z1), .second, .val (.long z2), .second, .val (.long z3), .second, .val (.long z4), .second, .val (.int f17), .val (.int f18), .val (.int f19), .val (.int f20), .val (.ref b9), .val (.ref r13), .val (.int (pz z1 f17 z1 f18 z2 f19 z3 f20 z4)), .val (.int (pz z2 f17 z1 f18 z2 f19 z3 f20 z4)), .val (.int (pz z3 f17 z1 f18 z2 f19 z3 f20 z4)), .val (.int (pz z4 f17 z1 f18 z2 f19 z3 f20 z4)), .val (.int e27)] []))
                exact J20 _ X30 () trivial
              · skip
                refine Go.by (fun _ => XS.ifNo X30.here hx rfl (hb hby at_329) rfl ((if0 _ _).trans (feq hc329_31).1)) ?_
                show Go p.tables e below _ (T30.setTop (mkF m 332 #[.val (.long p0), .second, .val (.long p1), .second, .val (.long p2), .second, .val (.long p3), .second, .val (.int p4), .val (.long z1), .second, .val (.long z2), .second, .val (.long z3), .second, .val (.long z4), .second, .val (.int f17), .val (.int f18), .val (.int f19), .val (.int f20), .val (.ref b9), .val (.ref r13), .val (.int (pz z1 f17 z1 f18 z2 f19 z3 f20 z4)), .val (.int (pz z2 f17 z1 f18 z2 f19 z3 f20 z4)), .val (.int (pz z3 f17 z1 f18 z2 f19 z3 f20 z4)), .val (.int (pz z4 f17 z1 f18 z2 f19 z3 f20 z4)), .val (.int e27)] [(.int (Int32.ofNat ((pre fj 16).count z1)))]))
                refine Go.by (fun _ => XS.iconst X30.here hx rfl (hb hby at_332)) ?_
                show Go p.tables e below _ (T30.setTop (mkF m 333 #[.val (.long p0), .second, .val (.long p1), .second, .val (.long p2), .second, .val (.long p3), .second, .val (.int p4), .val (.long z1), .second, .val (.long z2), .second, .val (.long z3), .second, .val (.long z4), .second, .val (.int f17), .val (.int f18), .val (.int f19), .val (.int f20), .val (.ref b9), .val (.ref r13), .val (.int (pz z1 f17 z1 f18 z2 f19 z3 f20 z4)), .val (.int (pz z2 f17 z1 f18 z2 f19 z3 f20 z4)), .val (.int (pz z3 f17 z1 f18 z2 f19 z3 f20 z4)), .val (.int (pz z4 f17 z1 f18 z2 f19 z3 f20 z4)), .val (.int e27)] [(.int (1 : Int32)), (.int (Int32.ofNat ((pre fj 16).count z1)))]))
                refine Go.by (fun _ => XS.goto X30.here hx rfl (pc0 := 333) (pc' := 337) rfl (hb hby at_333) (by decide) (by decide)) ?_
                show Go p.tables e below _ (T30.setTop (mkF m 337 #[.val (.long p0), .second, .val (.long p1), .second, .val (.long p2), .second, .val (.long p3), .second, .val (.int p4), .val (.long z1), .second, .val (.long z2), .second, .val (.long z3), .second, .val (.long z4), .second, .val (.int f17), .val (.int f18), .val (.int f19), .val (.int f20), .val (.ref b9), .val (.ref r13), .val (.int (pz z1 f17 z1 f18 z2 f19 z3 f20 z4)), .val (.int (pz z2 f17 z1 f18 z2 f19 z3 f20 z4)), .val (.int (pz z3 f17 z1 f18 z2 f19 z3 f20 z4)), .val (.int (pz z4 f17 z1 f18 z2 f19 z3 f20 z4)), .val (.int e27)] [(.int (1 : Int32)), (.int (Int32.ofNat ((pre fj 16).count z1)))]))
                refine Go.by (fun _ => XS.icmpNo X30.here hx rfl (hb hby at_337) rfl (teq ((by rw [cq0, if_neg hc329_31]; rfl))).2) ?_
                show Go p.tables e below _ (T30.setTop (mkF m 340 #[.val (.long p0), .second, .val (.long p1), .second, .val (.long p2), .second, .val (.long p3), .second, .val (.int p4), .val (.long z1), .second, .val (.long z2), .second, .val (.long z3), .second, .val (.long z4), .second, .val (.int f17), .val (.int f18), .val (.int f19), .val (.int f20), .val (.ref b9), .val (.ref r13), .val (.int (pz z1 f17 z1 f18 z2 f19 z3 f20 z4)), .val (.int (pz z2 f17 z1 f18 z2 f19 z3 f20 z4)), .val (.int (pz z3 f17 z1 f18 z2 f19 z3 f20 z4)), .val (.int (pz z4 f17 z1 f18 z2 f19 z3 f20 z4)), .val (.int e27)] []))
                exact J20 _ X30 () trivial
            refine Go.by (fun _ => XS.iload X18.here hx rfl (hb hby at_252) rfl) ?_
            show Go p.tables e below _ (T18.setTop (mkF m 254 #[.val (.long p0), .second, .val (.long p1), .second, .val (.long p2), .second, .val (.long p3), .second, .val (.int p4), .val (.long z1), .second, .val (.long z2), .second, .val (.long z3), .second, .val (.long z4), .second, .val (.int f17), .val (.int f18), .val (.int f19), .val (.int f20), .val (.ref b9), .val (.ref r13), .val (.int (pz z1 f17 z1 f18 z2 f19 z3 f20 z4)), .val (.int (pz z2 f17 z1 f18 z2 f19 z3 f20 z4)), .val (.int (pz z3 f17 z1 f18 z2 f19 z3 f20 z4)), .val (.int (pz z4 f17 z1 f18 z2 f19 z3 f20 z4)), .unset] [(.int (pz z1 f17 z1 f18 z2 f19 z3 f20 z4))]))
            by_cases hc254_32 : (pz z1 f17 z1 f18 z2 f19 z3 f20 z4) = (0 : Int32)
            · skip
              refine Go.by (fun _ => XS.ifYes X18.here hx rfl (pc0 := 254) (pc' := 261) rfl (hb hby at_254) rfl ((if0 _ _).trans (teq hc254_32).1) (by decide) (by decide)) ?_
              show Go p.tables e below _ (T18.setTop (mkF m 261 #[.val (.long p0), .second, .val (.long p1), .second, .val (.long p2), .second, .val (.long p3), .second, .val (.int p4), .val (.long z1), .second, .val (.long z2), .second, .val (.long z3), .second, .val (.long z4), .second, .val (.int f17), .val (.int f18), .val (.int f19), .val (.int f20), .val (.ref b9), .val (.ref r13), .val (.int (pz z1 f17 z1 f18 z2 f19 z3 f20 z4)), .val (.int (pz z2 f17 z1 f18 z2 f19 z3 f20 z4)), .val (.int (pz z3 f17 z1 f18 z2 f19 z3 f20 z4)), .val (.int (pz z4 f17 z1 f18 z2 f19 z3 f20 z4)), .unset] []))
              refine Go.by (fun _ => XS.iconst X18.here hx rfl (hb hby at_261)) ?_
              show Go p.tables e below _ (T18.setTop (mkF m 262 #[.val (.long p0), .second, .val (.long p1), .second, .val (.long p2), .second, .val (.long p3), .second, .val (.int p4), .val (.long z1), .second, .val (.long z2), .second, .val (.long z3), .second, .val (.long z4), .second, .val (.int f17), .val (.int f18), .val (.int f19), .val (.int f20), .val (.ref b9), .val (.ref r13), .val (.int (pz z1 f17 z1 f18 z2 f19 z3 f20 z4)), .val (.int (pz z2 f17 z1 f18 z2 f19 z3 f20 z4)), .val (.int (pz z3 f17 z1 f18 z2 f19 z3 f20 z4)), .val (.int (pz z4 f17 z1 f18 z2 f19 z3 f20 z4)), .unset] [(.int (0 : Int32))]))
              refine Go.by (fun _ => XS.iload X18.here hx rfl (hb hby at_262) rfl) ?_
              show Go p.tables e below _ (T18.setTop (mkF m 264 #[.val (.long p0), .second, .val (.long p1), .second, .val (.long p2), .second, .val (.long p3), .second, .val (.int p4), .val (.long z1), .second, .val (.long z2), .second, .val (.long z3), .second, .val (.long z4), .second, .val (.int f17), .val (.int f18), .val (.int f19), .val (.int f20), .val (.ref b9), .val (.ref r13), .val (.int (pz z1 f17 z1 f18 z2 f19 z3 f20 z4)), .val (.int (pz z2 f17 z1 f18 z2 f19 z3 f20 z4)), .val (.int (pz z3 f17 z1 f18 z2 f19 z3 f20 z4)), .val (.int (pz z4 f17 z1 f18 z2 f19 z3 f20 z4)), .unset] [(.int (pz z2 f17 z1 f18 z2 f19 z3 f20 z4)), (.int (0 : Int32))]))
              by_cases hc264_33 : (pz z2 f17 z1 f18 z2 f19 z3 f20 z4) = (0 : Int32)
              · skip
                refine Go.by (fun _ => XS.ifYes X18.here hx rfl (pc0 := 264) (pc' := 279) rfl (hb hby at_264) rfl ((if0 _ _).trans (teq hc264_33).1) (by decide) (by decide)) ?_
                show Go p.tables e below _ (T18.setTop (mkF m 279 #[.val (.long p0), .second, .val (.long p1), .second, .val (.long p2), .second, .val (.long p3), .second, .val (.int p4), .val (.long z1), .second, .val (.long z2), .second, .val (.long z3), .second, .val (.long z4), .second, .val (.int f17), .val (.int f18), .val (.int f19), .val (.int f20), .val (.ref b9), .val (.ref r13), .val (.int (pz z1 f17 z1 f18 z2 f19 z3 f20 z4)), .val (.int (pz z2 f17 z1 f18 z2 f19 z3 f20 z4)), .val (.int (pz z3 f17 z1 f18 z2 f19 z3 f20 z4)), .val (.int (pz z4 f17 z1 f18 z2 f19 z3 f20 z4)), .unset] [(.int (0 : Int32))]))
                refine Go.by (fun _ => XS.iconst X18.here hx rfl (hb hby at_279)) ?_
                show Go p.tables e below _ (T18.setTop (mkF m 280 #[.val (.long p0), .second, .val (.long p1), .second, .val (.long p2), .second, .val (.long p3), .second, .val (.int p4), .val (.long z1), .second, .val (.long z2), .second, .val (.long z3), .second, .val (.long z4), .second, .val (.int f17), .val (.int f18), .val (.int f19), .val (.int f20), .val (.ref b9), .val (.ref r13), .val (.int (pz z1 f17 z1 f18 z2 f19 z3 f20 z4)), .val (.int (pz z2 f17 z1 f18 z2 f19 z3 f20 z4)), .val (.int (pz z3 f17 z1 f18 z2 f19 z3 f20 z4)), .val (.int (pz z4 f17 z1 f18 z2 f19 z3 f20 z4)), .unset] [(.int (0 : Int32)), (.int (0 : Int32))]))
                refine Go.by (fun _ => XS.iadd X18.here hx rfl (hb hby at_280) rfl) ?_
                show Go p.tables e below _ (T18.setTop (mkF m 281 #[.val (.long p0), .second, .val (.long p1), .second, .val (.long p2), .second, .val (.long p3), .second, .val (.int p4), .val (.long z1), .second, .val (.long z2), .second, .val (.long z3), .second, .val (.long z4), .second, .val (.int f17), .val (.int f18), .val (.int f19), .val (.int f20), .val (.ref b9), .val (.ref r13), .val (.int (pz z1 f17 z1 f18 z2 f19 z3 f20 z4)), .val (.int (pz z2 f17 z1 f18 z2 f19 z3 f20 z4)), .val (.int (pz z3 f17 z1 f18 z2 f19 z3 f20 z4)), .val (.int (pz z4 f17 z1 f18 z2 f19 z3 f20 z4)), .unset] [(.int (0 : Int32))]))
                refine Go.by (fun _ => XS.iload X18.here hx rfl (hb hby at_281) rfl) ?_
                show Go p.tables e below _ (T18.setTop (mkF m 283 #[.val (.long p0), .second, .val (.long p1), .second, .val (.long p2), .second, .val (.long p3), .second, .val (.int p4), .val (.long z1), .second, .val (.long z2), .second, .val (.long z3), .second, .val (.long z4), .second, .val (.int f17), .val (.int f18), .val (.int f19), .val (.int f20), .val (.ref b9), .val (.ref r13), .val (.int (pz z1 f17 z1 f18 z2 f19 z3 f20 z4)), .val (.int (pz z2 f17 z1 f18 z2 f19 z3 f20 z4)), .val (.int (pz z3 f17 z1 f18 z2 f19 z3 f20 z4)), .val (.int (pz z4 f17 z1 f18 z2 f19 z3 f20 z4)), .unset] [(.int (pz z3 f17 z1 f18 z2 f19 z3 f20 z4)), (.int (0 : Int32))]))
                by_cases hc283_34 : (pz z3 f17 z1 f18 z2 f19 z3 f20 z4) = (0 : Int32)
                · skip
                  refine Go.by (fun _ => XS.ifYes X18.here hx rfl (pc0 := 283) (pc' := 306) rfl (hb hby at_283) rfl ((if0 _ _).trans (teq hc283_34).1) (by decide) (by decide)) ?_
                  show Go p.tables e below _ (T18.setTop (mkF m 306 #[.val (.long p0), .second, .val (.long p1), .second, .val (.long p2), .second, .val (.long p3), .second, .val (.int p4), .val (.long z1), .second, .val (.long z2), .second, .val (.long z3), .second, .val (.long z4), .second, .val (.int f17), .val (.int f18), .val (.int f19), .val (.int f20), .val (.ref b9), .val (.ref r13), .val (.int (pz z1 f17 z1 f18 z2 f19 z3 f20 z4)), .val (.int (pz z2 f17 z1 f18 z2 f19 z3 f20 z4)), .val (.int (pz z3 f17 z1 f18 z2 f19 z3 f20 z4)), .val (.int (pz z4 f17 z1 f18 z2 f19 z3 f20 z4)), .unset] [(.int (0 : Int32))]))
                  refine Go.by (fun _ => XS.iconst X18.here hx rfl (hb hby at_306)) ?_
                  show Go p.tables e below _ (T18.setTop (mkF m 307 #[.val (.long p0), .second, .val (.long p1), .second, .val (.long p2), .second, .val (.long p3), .second, .val (.int p4), .val (.long z1), .second, .val (.long z2), .second, .val (.long z3), .second, .val (.long z4), .second, .val (.int f17), .val (.int f18), .val (.int f19), .val (.int f20), .val (.ref b9), .val (.ref r13), .val (.int (pz z1 f17 z1 f18 z2 f19 z3 f20 z4)), .val (.int (pz z2 f17 z1 f18 z2 f19 z3 f20 z4)), .val (.int (pz z3 f17 z1 f18 z2 f19 z3 f20 z4)), .val (.int (pz z4 f17 z1 f18 z2 f19 z3 f20 z4)), .unset] [(.int (0 : Int32)), (.int (0 : Int32))]))
                  refine Go.by (fun _ => XS.iadd X18.here hx rfl (hb hby at_307) rfl) ?_
                  show Go p.tables e below _ (T18.setTop (mkF m 308 #[.val (.long p0), .second, .val (.long p1), .second, .val (.long p2), .second, .val (.long p3), .second, .val (.int p4), .val (.long z1), .second, .val (.long z2), .second, .val (.long z3), .second, .val (.long z4), .second, .val (.int f17), .val (.int f18), .val (.int f19), .val (.int f20), .val (.ref b9), .val (.ref r13), .val (.int (pz z1 f17 z1 f18 z2 f19 z3 f20 z4)), .val (.int (pz z2 f17 z1 f18 z2 f19 z3 f20 z4)), .val (.int (pz z3 f17 z1 f18 z2 f19 z3 f20 z4)), .val (.int (pz z4 f17 z1 f18 z2 f19 z3 f20 z4)), .unset] [(.int (0 : Int32))]))
                  have hs35 : (pre fj 16).length = 0 + 0 + 0 := by
                    rw [if_pos hc254_32] at cq0
                    rw [if_pos hc264_33] at cq1
                    rw [if_pos hc283_34] at cq2
                    have e2 : (if z2 = z1 then 0 else (pre fj 16).count z2) = 0 := by rw [cq1]; rw [ite_self]
                    have e3 : (if z3 = z1 then 0 else if z3 = z2 then 0 else (pre fj 16).count z3) = 0 := by rw [cq2]; rw [ite_self, ite_self]
                    rw [hlen, cq0, e2, e3]
                  exact J19 _ X18 (0 : Int32) (by rw [hs35]; rfl)
                · skip
                  refine Go.by (fun _ => XS.ifNo X18.here hx rfl (hb hby at_283) rfl ((if0 _ _).trans (feq hc283_34).1)) ?_
                  show Go p.tables e below _ (T18.setTop (mkF m 286 #[.val (.long p0), .second, .val (.long p1), .second, .val (.long p2), .second, .val (.long p3), .second, .val (.int p4), .val (.long z1), .second, .val (.long z2), .second, .val (.long z3), .second, .val (.long z4), .second, .val (.int f17), .val (.int f18), .val (.int f19), .val (.int f20), .val (.ref b9), .val (.ref r13), .val (.int (pz z1 f17 z1 f18 z2 f19 z3 f20 z4)), .val (.int (pz z2 f17 z1 f18 z2 f19 z3 f20 z4)), .val (.int (pz z3 f17 z1 f18 z2 f19 z3 f20 z4)), .val (.int (pz z4 f17 z1 f18 z2 f19 z3 f20 z4)), .unset] [(.int (0 : Int32))]))
                  refine Go.by (fun _ => XS.lload X18.here hx rfl (hb hby at_286) rfl) ?_
                  show Go p.tables e below _ (T18.setTop (mkF m 288 #[.val (.long p0), .second, .val (.long p1), .second, .val (.long p2), .second, .val (.long p3), .second, .val (.int p4), .val (.long z1), .second, .val (.long z2), .second, .val (.long z3), .second, .val (.long z4), .second, .val (.int f17), .val (.int f18), .val (.int f19), .val (.int f20), .val (.ref b9), .val (.ref r13), .val (.int (pz z1 f17 z1 f18 z2 f19 z3 f20 z4)), .val (.int (pz z2 f17 z1 f18 z2 f19 z3 f20 z4)), .val (.int (pz z3 f17 z1 f18 z2 f19 z3 f20 z4)), .val (.int (pz z4 f17 z1 f18 z2 f19 z3 f20 z4)), .unset] [(.long z3), (.int (0 : Int32))]))
                  refine Go.by (fun _ => XS.lload X18.here hx rfl (hb hby at_288) rfl) ?_
                  show Go p.tables e below _ (T18.setTop (mkF m 290 #[.val (.long p0), .second, .val (.long p1), .second, .val (.long p2), .second, .val (.long p3), .second, .val (.int p4), .val (.long z1), .second, .val (.long z2), .second, .val (.long z3), .second, .val (.long z4), .second, .val (.int f17), .val (.int f18), .val (.int f19), .val (.int f20), .val (.ref b9), .val (.ref r13), .val (.int (pz z1 f17 z1 f18 z2 f19 z3 f20 z4)), .val (.int (pz z2 f17 z1 f18 z2 f19 z3 f20 z4)), .val (.int (pz z3 f17 z1 f18 z2 f19 z3 f20 z4)), .val (.int (pz z4 f17 z1 f18 z2 f19 z3 f20 z4)), .unset] [(.long z1), (.long z3), (.int (0 : Int32))]))
                  refine Go.by (fun _ => XS.lcmp X18.here hx rfl (hb hby at_290) rfl) ?_
                  show Go p.tables e below _ (T18.setTop (mkF m 291 #[.val (.long p0), .second, .val (.long p1), .second, .val (.long p2), .second, .val (.long p3), .second, .val (.int p4), .val (.long z1), .second, .val (.long z2), .second, .val (.long z3), .second, .val (.long z4), .second, .val (.int f17), .val (.int f18), .val (.int f19), .val (.int f20), .val (.ref b9), .val (.ref r13), .val (.int (pz z1 f17 z1 f18 z2 f19 z3 f20 z4)), .val (.int (pz z2 f17 z1 f18 z2 f19 z3 f20 z4)), .val (.int (pz z3 f17 z1 f18 z2 f19 z3 f20 z4)), .val (.int (pz z4 f17 z1 f18 z2 f19 z3 f20 z4)), .unset] [(.int (lcmpW z3 z1)), (.int (0 : Int32))]))
                  by_cases hc291_36 : (lcmpW z3 z1) = (0 : Int32)
                  · skip
                    refine Go.by (fun _ => XS.ifYes X18.here hx rfl (pc0 := 291) (pc' := 306) rfl (hb hby at_291) rfl ((if0 _ _).trans (teq hc291_36).1) (by decide) (by decide)) ?_
                    show Go p.tables e below _ (T18.setTop (mkF m 306 #[.val (.long p0), .second, .val (.long p1), .second, .val (.long p2), .second, .val (.long p3), .second, .val (.int p4), .val (.long z1), .second, .val (.long z2), .second, .val (.long z3), .second, .val (.long z4), .second, .val (.int f17), .val (.int f18), .val (.int f19), .val (.int f20), .val (.ref b9), .val (.ref r13), .val (.int (pz z1 f17 z1 f18 z2 f19 z3 f20 z4)), .val (.int (pz z2 f17 z1 f18 z2 f19 z3 f20 z4)), .val (.int (pz z3 f17 z1 f18 z2 f19 z3 f20 z4)), .val (.int (pz z4 f17 z1 f18 z2 f19 z3 f20 z4)), .unset] [(.int (0 : Int32))]))
                    refine Go.by (fun _ => XS.iconst X18.here hx rfl (hb hby at_306)) ?_
                    show Go p.tables e below _ (T18.setTop (mkF m 307 #[.val (.long p0), .second, .val (.long p1), .second, .val (.long p2), .second, .val (.long p3), .second, .val (.int p4), .val (.long z1), .second, .val (.long z2), .second, .val (.long z3), .second, .val (.long z4), .second, .val (.int f17), .val (.int f18), .val (.int f19), .val (.int f20), .val (.ref b9), .val (.ref r13), .val (.int (pz z1 f17 z1 f18 z2 f19 z3 f20 z4)), .val (.int (pz z2 f17 z1 f18 z2 f19 z3 f20 z4)), .val (.int (pz z3 f17 z1 f18 z2 f19 z3 f20 z4)), .val (.int (pz z4 f17 z1 f18 z2 f19 z3 f20 z4)), .unset] [(.int (0 : Int32)), (.int (0 : Int32))]))
                    refine Go.by (fun _ => XS.iadd X18.here hx rfl (hb hby at_307) rfl) ?_
                    show Go p.tables e below _ (T18.setTop (mkF m 308 #[.val (.long p0), .second, .val (.long p1), .second, .val (.long p2), .second, .val (.long p3), .second, .val (.int p4), .val (.long z1), .second, .val (.long z2), .second, .val (.long z3), .second, .val (.long z4), .second, .val (.int f17), .val (.int f18), .val (.int f19), .val (.int f20), .val (.ref b9), .val (.ref r13), .val (.int (pz z1 f17 z1 f18 z2 f19 z3 f20 z4)), .val (.int (pz z2 f17 z1 f18 z2 f19 z3 f20 z4)), .val (.int (pz z3 f17 z1 f18 z2 f19 z3 f20 z4)), .val (.int (pz z4 f17 z1 f18 z2 f19 z3 f20 z4)), .unset] [(.int (0 : Int32))]))
                    have hs37 : (pre fj 16).length = 0 + 0 + 0 := by
                      rw [if_pos hc254_32] at cq0
                      rw [if_pos hc264_33] at cq1
                      rw [if_neg hc283_34] at cq2
                      have e2 : (if z2 = z1 then 0 else (pre fj 16).count z2) = 0 := by rw [cq1]; rw [ite_self]
                      have e3 : (if z3 = z1 then 0 else if z3 = z2 then 0 else (pre fj 16).count z3) = 0 := by rw [cq2]; rw [if_pos ((lw_eq _ _).mp hc291_36)]
                      rw [hlen, cq0, e2, e3]
                    exact J19 _ X18 (0 : Int32) (by rw [hs37]; rfl)
                  · skip
                    refine Go.by (fun _ => XS.ifNo X18.here hx rfl (hb hby at_291) rfl ((if0 _ _).trans (feq hc291_36).1)) ?_
                    show Go p.tables e below _ (T18.setTop (mkF m 294 #[.val (.long p0), .second, .val (.long p1), .second, .val (.long p2), .second, .val (.long p3), .second, .val (.int p4), .val (.long z1), .second, .val (.long z2), .second, .val (.long z3), .second, .val (.long z4), .second, .val (.int f17), .val (.int f18), .val (.int f19), .val (.int f20), .val (.ref b9), .val (.ref r13), .val (.int (pz z1 f17 z1 f18 z2 f19 z3 f20 z4)), .val (.int (pz z2 f17 z1 f18 z2 f19 z3 f20 z4)), .val (.int (pz z3 f17 z1 f18 z2 f19 z3 f20 z4)), .val (.int (pz z4 f17 z1 f18 z2 f19 z3 f20 z4)), .unset] [(.int (0 : Int32))]))
                    refine Go.by (fun _ => XS.lload X18.here hx rfl (hb hby at_294) rfl) ?_
                    show Go p.tables e below _ (T18.setTop (mkF m 296 #[.val (.long p0), .second, .val (.long p1), .second, .val (.long p2), .second, .val (.long p3), .second, .val (.int p4), .val (.long z1), .second, .val (.long z2), .second, .val (.long z3), .second, .val (.long z4), .second, .val (.int f17), .val (.int f18), .val (.int f19), .val (.int f20), .val (.ref b9), .val (.ref r13), .val (.int (pz z1 f17 z1 f18 z2 f19 z3 f20 z4)), .val (.int (pz z2 f17 z1 f18 z2 f19 z3 f20 z4)), .val (.int (pz z3 f17 z1 f18 z2 f19 z3 f20 z4)), .val (.int (pz z4 f17 z1 f18 z2 f19 z3 f20 z4)), .unset] [(.long z3), (.int (0 : Int32))]))
                    refine Go.by (fun _ => XS.lload X18.here hx rfl (hb hby at_296) rfl) ?_
                    show Go p.tables e below _ (T18.setTop (mkF m 298 #[.val (.long p0), .second, .val (.long p1), .second, .val (.long p2), .second, .val (.long p3), .second, .val (.int p4), .val (.long z1), .second, .val (.long z2), .second, .val (.long z3), .second, .val (.long z4), .second, .val (.int f17), .val (.int f18), .val (.int f19), .val (.int f20), .val (.ref b9), .val (.ref r13), .val (.int (pz z1 f17 z1 f18 z2 f19 z3 f20 z4)), .val (.int (pz z2 f17 z1 f18 z2 f19 z3 f20 z4)), .val (.int (pz z3 f17 z1 f18 z2 f19 z3 f20 z4)), .val (.int (pz z4 f17 z1 f18 z2 f19 z3 f20 z4)), .unset] [(.long z2), (.long z3), (.int (0 : Int32))]))
                    refine Go.by (fun _ => XS.lcmp X18.here hx rfl (hb hby at_298) rfl) ?_
                    show Go p.tables e below _ (T18.setTop (mkF m 299 #[.val (.long p0), .second, .val (.long p1), .second, .val (.long p2), .second, .val (.long p3), .second, .val (.int p4), .val (.long z1), .second, .val (.long z2), .second, .val (.long z3), .second, .val (.long z4), .second, .val (.int f17), .val (.int f18), .val (.int f19), .val (.int f20), .val (.ref b9), .val (.ref r13), .val (.int (pz z1 f17 z1 f18 z2 f19 z3 f20 z4)), .val (.int (pz z2 f17 z1 f18 z2 f19 z3 f20 z4)), .val (.int (pz z3 f17 z1 f18 z2 f19 z3 f20 z4)), .val (.int (pz z4 f17 z1 f18 z2 f19 z3 f20 z4)), .unset] [(.int (lcmpW z3 z2)), (.int (0 : Int32))]))
                    by_cases hc299_38 : (lcmpW z3 z2) = (0 : Int32)
                    · skip
                      refine Go.by (fun _ => XS.ifYes X18.here hx rfl (pc0 := 299) (pc' := 306) rfl (hb hby at_299) rfl ((if0 _ _).trans (teq hc299_38).1) (by decide) (by decide)) ?_
                      show Go p.tables e below _ (T18.setTop (mkF m 306 #[.val (.long p0), .second, .val (.long p1), .second, .val (.long p2), .second, .val (.long p3), .second, .val (.int p4), .val (.long z1), .second, .val (.long z2), .second, .val (.long z3), .second, .val (.long z4), .second, .val (.int f17), .val (.int f18), .val (.int f19), .val (.int f20), .val (.ref b9), .val (.ref r13), .val (.int (pz z1 f17 z1 f18 z2 f19 z3 f20 z4)), .val (.int (pz z2 f17 z1 f18 z2 f19 z3 f20 z4)), .val (.int (pz z3 f17 z1 f18 z2 f19 z3 f20 z4)), .val (.int (pz z4 f17 z1 f18 z2 f19 z3 f20 z4)), .unset] [(.int (0 : Int32))]))
                      refine Go.by (fun _ => XS.iconst X18.here hx rfl (hb hby at_306)) ?_
                      show Go p.tables e below _ (T18.setTop (mkF m 307 #[.val (.long p0), .second, .val (.long p1), .second, .val (.long p2), .second, .val (.long p3), .second, .val (.int p4), .val (.long z1), .second, .val (.long z2), .second, .val (.long z3), .second, .val (.long z4), .second, .val (.int f17), .val (.int f18), .val (.int f19), .val (.int f20), .val (.ref b9), .val (.ref r13), .val (.int (pz z1 f17 z1 f18 z2 f19 z3 f20 z4)), .val (.int (pz z2 f17 z1 f18 z2 f19 z3 f20 z4)), .val (.int (pz z3 f17 z1 f18 z2 f19 z3 f20 z4)), .val (.int (pz z4 f17 z1 f18 z2 f19 z3 f20 z4)), .unset] [(.int (0 : Int32)), (.int (0 : Int32))]))
                      refine Go.by (fun _ => XS.iadd X18.here hx rfl (hb hby at_307) rfl) ?_
                      show Go p.tables e below _ (T18.setTop (mkF m 308 #[.val (.long p0), .second, .val (.long p1), .second, .val (.long p2), .second, .val (.long p3), .second, .val (.int p4), .val (.long z1), .second, .val (.long z2), .second, .val (.long z3), .second, .val (.long z4), .second, .val (.int f17), .val (.int f18), .val (.int f19), .val (.int f20), .val (.ref b9), .val (.ref r13), .val (.int (pz z1 f17 z1 f18 z2 f19 z3 f20 z4)), .val (.int (pz z2 f17 z1 f18 z2 f19 z3 f20 z4)), .val (.int (pz z3 f17 z1 f18 z2 f19 z3 f20 z4)), .val (.int (pz z4 f17 z1 f18 z2 f19 z3 f20 z4)), .unset] [(.int (0 : Int32))]))
                      have hs39 : (pre fj 16).length = 0 + 0 + 0 := by
                        rw [if_pos hc254_32] at cq0
                        rw [if_pos hc264_33] at cq1
                        rw [if_neg hc283_34] at cq2
                        have e2 : (if z2 = z1 then 0 else (pre fj 16).count z2) = 0 := by rw [cq1]; rw [ite_self]
                        have e3 : (if z3 = z1 then 0 else if z3 = z2 then 0 else (pre fj 16).count z3) = 0 := by rw [cq2]; rw [if_neg (mt (lw_eq _ _).mpr hc291_36), if_pos ((lw_eq _ _).mp hc299_38)]
                        rw [hlen, cq0, e2, e3]
                      exact J19 _ X18 (0 : Int32) (by rw [hs39]; rfl)
                    · skip
                      refine Go.by (fun _ => XS.ifNo X18.here hx rfl (hb hby at_299) rfl ((if0 _ _).trans (feq hc299_38).1)) ?_
                      show Go p.tables e below _ (T18.setTop (mkF m 302 #[.val (.long p0), .second, .val (.long p1), .second, .val (.long p2), .second, .val (.long p3), .second, .val (.int p4), .val (.long z1), .second, .val (.long z2), .second, .val (.long z3), .second, .val (.long z4), .second, .val (.int f17), .val (.int f18), .val (.int f19), .val (.int f20), .val (.ref b9), .val (.ref r13), .val (.int (pz z1 f17 z1 f18 z2 f19 z3 f20 z4)), .val (.int (pz z2 f17 z1 f18 z2 f19 z3 f20 z4)), .val (.int (pz z3 f17 z1 f18 z2 f19 z3 f20 z4)), .val (.int (pz z4 f17 z1 f18 z2 f19 z3 f20 z4)), .unset] [(.int (0 : Int32))]))
                      refine Go.by (fun _ => XS.iconst X18.here hx rfl (hb hby at_302)) ?_
                      show Go p.tables e below _ (T18.setTop (mkF m 303 #[.val (.long p0), .second, .val (.long p1), .second, .val (.long p2), .second, .val (.long p3), .second, .val (.int p4), .val (.long z1), .second, .val (.long z2), .second, .val (.long z3), .second, .val (.long z4), .second, .val (.int f17), .val (.int f18), .val (.int f19), .val (.int f20), .val (.ref b9), .val (.ref r13), .val (.int (pz z1 f17 z1 f18 z2 f19 z3 f20 z4)), .val (.int (pz z2 f17 z1 f18 z2 f19 z3 f20 z4)), .val (.int (pz z3 f17 z1 f18 z2 f19 z3 f20 z4)), .val (.int (pz z4 f17 z1 f18 z2 f19 z3 f20 z4)), .unset] [(.int (1 : Int32)), (.int (0 : Int32))]))
                      refine Go.by (fun _ => XS.goto X18.here hx rfl (pc0 := 303) (pc' := 307) rfl (hb hby at_303) (by decide) (by decide)) ?_
                      show Go p.tables e below _ (T18.setTop (mkF m 307 #[.val (.long p0), .second, .val (.long p1), .second, .val (.long p2), .second, .val (.long p3), .second, .val (.int p4), .val (.long z1), .second, .val (.long z2), .second, .val (.long z3), .second, .val (.long z4), .second, .val (.int f17), .val (.int f18), .val (.int f19), .val (.int f20), .val (.ref b9), .val (.ref r13), .val (.int (pz z1 f17 z1 f18 z2 f19 z3 f20 z4)), .val (.int (pz z2 f17 z1 f18 z2 f19 z3 f20 z4)), .val (.int (pz z3 f17 z1 f18 z2 f19 z3 f20 z4)), .val (.int (pz z4 f17 z1 f18 z2 f19 z3 f20 z4)), .unset] [(.int (1 : Int32)), (.int (0 : Int32))]))
                      refine Go.by (fun _ => XS.iadd X18.here hx rfl (hb hby at_307) rfl) ?_
                      show Go p.tables e below _ (T18.setTop (mkF m 308 #[.val (.long p0), .second, .val (.long p1), .second, .val (.long p2), .second, .val (.long p3), .second, .val (.int p4), .val (.long z1), .second, .val (.long z2), .second, .val (.long z3), .second, .val (.long z4), .second, .val (.int f17), .val (.int f18), .val (.int f19), .val (.int f20), .val (.ref b9), .val (.ref r13), .val (.int (pz z1 f17 z1 f18 z2 f19 z3 f20 z4)), .val (.int (pz z2 f17 z1 f18 z2 f19 z3 f20 z4)), .val (.int (pz z3 f17 z1 f18 z2 f19 z3 f20 z4)), .val (.int (pz z4 f17 z1 f18 z2 f19 z3 f20 z4)), .unset] [(.int (1 : Int32))]))
                      have hs40 : (pre fj 16).length = 0 + 0 + 1 := by
                        rw [if_pos hc254_32] at cq0
                        rw [if_pos hc264_33] at cq1
                        rw [if_neg hc283_34] at cq2
                        have e2 : (if z2 = z1 then 0 else (pre fj 16).count z2) = 0 := by rw [cq1]; rw [ite_self]
                        have e3 : (if z3 = z1 then 0 else if z3 = z2 then 0 else (pre fj 16).count z3) = 1 := by rw [cq2]; rw [if_neg (mt (lw_eq _ _).mpr hc291_36), if_neg (mt (lw_eq _ _).mpr hc299_38)]
                        rw [hlen, cq0, e2, e3]
                      exact J19 _ X18 (1 : Int32) (by rw [hs40]; rfl)
              · skip
                refine Go.by (fun _ => XS.ifNo X18.here hx rfl (hb hby at_264) rfl ((if0 _ _).trans (feq hc264_33).1)) ?_
                show Go p.tables e below _ (T18.setTop (mkF m 267 #[.val (.long p0), .second, .val (.long p1), .second, .val (.long p2), .second, .val (.long p3), .second, .val (.int p4), .val (.long z1), .second, .val (.long z2), .second, .val (.long z3), .second, .val (.long z4), .second, .val (.int f17), .val (.int f18), .val (.int f19), .val (.int f20), .val (.ref b9), .val (.ref r13), .val (.int (pz z1 f17 z1 f18 z2 f19 z3 f20 z4)), .val (.int (pz z2 f17 z1 f18 z2 f19 z3 f20 z4)), .val (.int (pz z3 f17 z1 f18 z2 f19 z3 f20 z4)), .val (.int (pz z4 f17 z1 f18 z2 f19 z3 f20 z4)), .unset] [(.int (0 : Int32))]))
                refine Go.by (fun _ => XS.lload X18.here hx rfl (hb hby at_267) rfl) ?_
                show Go p.tables e below _ (T18.setTop (mkF m 269 #[.val (.long p0), .second, .val (.long p1), .second, .val (.long p2), .second, .val (.long p3), .second, .val (.int p4), .val (.long z1), .second, .val (.long z2), .second, .val (.long z3), .second, .val (.long z4), .second, .val (.int f17), .val (.int f18), .val (.int f19), .val (.int f20), .val (.ref b9), .val (.ref r13), .val (.int (pz z1 f17 z1 f18 z2 f19 z3 f20 z4)), .val (.int (pz z2 f17 z1 f18 z2 f19 z3 f20 z4)), .val (.int (pz z3 f17 z1 f18 z2 f19 z3 f20 z4)), .val (.int (pz z4 f17 z1 f18 z2 f19 z3 f20 z4)), .unset] [(.long z2), (.int (0 : Int32))]))
                refine Go.by (fun _ => XS.lload X18.here hx rfl (hb hby at_269) rfl) ?_
                show Go p.tables e below _ (T18.setTop (mkF m 271 #[.val (.long p0), .second, .val (.long p1), .second, .val (.long p2), .second, .val (.long p3), .second, .val (.int p4), .val (.long z1), .second, .val (.long z2), .second, .val (.long z3), .second, .val (.long z4), .second, .val (.int f17), .val (.int f18), .val (.int f19), .val (.int f20), .val (.ref b9), .val (.ref r13), .val (.int (pz z1 f17 z1 f18 z2 f19 z3 f20 z4)), .val (.int (pz z2 f17 z1 f18 z2 f19 z3 f20 z4)), .val (.int (pz z3 f17 z1 f18 z2 f19 z3 f20 z4)), .val (.int (pz z4 f17 z1 f18 z2 f19 z3 f20 z4)), .unset] [(.long z1), (.long z2), (.int (0 : Int32))]))
                refine Go.by (fun _ => XS.lcmp X18.here hx rfl (hb hby at_271) rfl) ?_
                show Go p.tables e below _ (T18.setTop (mkF m 272 #[.val (.long p0), .second, .val (.long p1), .second, .val (.long p2), .second, .val (.long p3), .second, .val (.int p4), .val (.long z1), .second, .val (.long z2), .second, .val (.long z3), .second, .val (.long z4), .second, .val (.int f17), .val (.int f18), .val (.int f19), .val (.int f20), .val (.ref b9), .val (.ref r13), .val (.int (pz z1 f17 z1 f18 z2 f19 z3 f20 z4)), .val (.int (pz z2 f17 z1 f18 z2 f19 z3 f20 z4)), .val (.int (pz z3 f17 z1 f18 z2 f19 z3 f20 z4)), .val (.int (pz z4 f17 z1 f18 z2 f19 z3 f20 z4)), .unset] [(.int (lcmpW z2 z1)), (.int (0 : Int32))]))
                by_cases hc272_41 : (lcmpW z2 z1) = (0 : Int32)
                · skip
                  refine Go.by (fun _ => XS.ifYes X18.here hx rfl (pc0 := 272) (pc' := 279) rfl (hb hby at_272) rfl ((if0 _ _).trans (teq hc272_41).1) (by decide) (by decide)) ?_
                  show Go p.tables e below _ (T18.setTop (mkF m 279 #[.val (.long p0), .second, .val (.long p1), .second, .val (.long p2), .second, .val (.long p3), .second, .val (.int p4), .val (.long z1), .second, .val (.long z2), .second, .val (.long z3), .second, .val (.long z4), .second, .val (.int f17), .val (.int f18), .val (.int f19), .val (.int f20), .val (.ref b9), .val (.ref r13), .val (.int (pz z1 f17 z1 f18 z2 f19 z3 f20 z4)), .val (.int (pz z2 f17 z1 f18 z2 f19 z3 f20 z4)), .val (.int (pz z3 f17 z1 f18 z2 f19 z3 f20 z4)), .val (.int (pz z4 f17 z1 f18 z2 f19 z3 f20 z4)), .unset] [(.int (0 : Int32))]))
                  refine Go.by (fun _ => XS.iconst X18.here hx rfl (hb hby at_279)) ?_
                  show Go p.tables e below _ (T18.setTop (mkF m 280 #[.val (.long p0), .second, .val (.long p1), .second, .val (.long p2), .second, .val (.long p3), .second, .val (.int p4), .val (.long z1), .second, .val (.long z2), .second, .val (.long z3), .second, .val (.long z4), .second, .val (.int f17), .val (.int f18), .val (.int f19), .val (.int f20), .val (.ref b9), .val (.ref r13), .val (.int (pz z1 f17 z1 f18 z2 f19 z3 f20 z4)), .val (.int (pz z2 f17 z1 f18 z2 f19 z3 f20 z4)), .val (.int (pz z3 f17 z1 f18 z2 f19 z3 f20 z4)), .val (.int (pz z4 f17 z1 f18 z2 f19 z3 f20 z4)), .unset] [(.int (0 : Int32)), (.int (0 : Int32))]))
                  refine Go.by (fun _ => XS.iadd X18.here hx rfl (hb hby at_280) rfl) ?_
                  show Go p.tables e below _ (T18.setTop (mkF m 281 #[.val (.long p0), .second, .val (.long p1), .second, .val (.long p2), .second, .val (.long p3), .second, .val (.int p4), .val (.long z1), .second, .val (.long z2), .second, .val (.long z3), .second, .val (.long z4), .second, .val (.int f17), .val (.int f18), .val (.int f19), .val (.int f20), .val (.ref b9), .val (.ref r13), .val (.int (pz z1 f17 z1 f18 z2 f19 z3 f20 z4)), .val (.int (pz z2 f17 z1 f18 z2 f19 z3 f20 z4)), .val (.int (pz z3 f17 z1 f18 z2 f19 z3 f20 z4)), .val (.int (pz z4 f17 z1 f18 z2 f19 z3 f20 z4)), .unset] [(.int (0 : Int32))]))
                  refine Go.by (fun _ => XS.iload X18.here hx rfl (hb hby at_281) rfl) ?_
                  show Go p.tables e below _ (T18.setTop (mkF m 283 #[.val (.long p0), .second, .val (.long p1), .second, .val (.long p2), .second, .val (.long p3), .second, .val (.int p4), .val (.long z1), .second, .val (.long z2), .second, .val (.long z3), .second, .val (.long z4), .second, .val (.int f17), .val (.int f18), .val (.int f19), .val (.int f20), .val (.ref b9), .val (.ref r13), .val (.int (pz z1 f17 z1 f18 z2 f19 z3 f20 z4)), .val (.int (pz z2 f17 z1 f18 z2 f19 z3 f20 z4)), .val (.int (pz z3 f17 z1 f18 z2 f19 z3 f20 z4)), .val (.int (pz z4 f17 z1 f18 z2 f19 z3 f20 z4)), .unset] [(.int (pz z3 f17 z1 f18 z2 f19 z3 f20 z4)), (.int (0 : Int32))]))
                  by_cases hc283_42 : (pz z3 f17 z1 f18 z2 f19 z3 f20 z4) = (0 : Int32)
                  · skip
                    refine Go.by (fun _ => XS.ifYes X18.here hx rfl (pc0 := 283) (pc' := 306) rfl (hb hby at_283) rfl ((if0 _ _).trans (teq hc283_42).1) (by decide) (by decide)) ?_
                    show Go p.tables e below _ (T18.setTop (mkF m 306 #[.val (.long p0), .second, .val (.long p1), .second, .val (.long p2), .second, .val (.long p3), .second, .val (.int p4), .val (.long z1), .second, .val (.long z2), .second, .val (.long z3), .second, .val (.long z4), .second, .val (.int f17), .val (.int f18), .val (.int f19), .val (.int f20), .val (.ref b9), .val (.ref r13), .val (.int (pz z1 f17 z1 f18 z2 f19 z3 f20 z4)), .val (.int (pz z2 f17 z1 f18 z2 f19 z3 f20 z4)), .val (.int (pz z3 f17 z1 f18 z2 f19 z3 f20 z4)), .val (.int (pz z4 f17 z1 f18 z2 f19 z3 f20 z4)), .unset] [(.int (0 : Int32))]))
                    refine Go.by (fun _ => XS.iconst X18.here hx rfl (hb hby at_306)) ?_
                    show Go p.tables e below _ (T18.setTop (mkF m 307 #[.val (.long p0), .second, .val (.long p1), .second, .val (.long p2), .second, .val (.long p3), .second, .val (.int p4), .val (.long z1), .second, .val (.long z2), .second, .val (.long z3), .second, .val (.long z4), .second, .val (.int f17), .val (.int f18), .val (.int f19), .val (.int f20), .val (.ref b9), .val (.ref r13), .val (.int (pz z1 f17 z1 f18 z2 f19 z3 f20 z4)), .val (.int (pz z2 f17 z1 f18 z2 f19 z3 f20 z4)), .val (.int (pz z3 f17 z1 f18 z2 f19 z3 f20 z4)), .val (.int (pz z4 f17 z1 f18 z2 f19 z3 f20 z4)), .unset] [(.int (0 : Int32)), (.int (0 : Int32))]))
                    refine Go.by (fun _ => XS.iadd X18.here hx rfl (hb hby at_307) rfl) ?_
                    show Go p.tables e below _ (T18.setTop (mkF m 308 #[.val (.long p0), .second, .val (.long p1), .second, .val (.long p2), .second, .val (.long p3), .second, .val (.int p4), .val (.long z1), .second, .val (.long z2), .second, .val (.long z3), .second, .val (.long z4), .second, .val (.int f17), .val (.int f18), .val (.int f19), .val (.int f20), .val (.ref b9), .val (.ref r13), .val (.int (pz z1 f17 z1 f18 z2 f19 z3 f20 z4)), .val (.int (pz z2 f17 z1 f18 z2 f19 z3 f20 z4)), .val (.int (pz z3 f17 z1 f18 z2 f19 z3 f20 z4)), .val (.int (pz z4 f17 z1 f18 z2 f19 z3 f20 z4)), .unset] [(.int (0 : Int32))]))
                    have hs43 : (pre fj 16).length = 0 + 0 + 0 := by
                      rw [if_pos hc254_32] at cq0
                      rw [if_neg hc264_33] at cq1
                      rw [if_pos hc283_42] at cq2
                      have e2 : (if z2 = z1 then 0 else (pre fj 16).count z2) = 0 := by rw [cq1]; rw [if_pos ((lw_eq _ _).mp hc272_41)]
                      have e3 : (if z3 = z1 then 0 else if z3 = z2 then 0 else (pre fj 16).count z3) = 0 := by rw [cq2]; rw [ite_self, ite_self]
                      rw [hlen, cq0, e2, e3]
                    exact J19 _ X18 (0 : Int32) (by rw [hs43]; rfl)
                  · skip
                    refine Go.by (fun _ => XS.ifNo X18.here hx rfl (hb hby at_283) rfl ((if0 _ _).trans (feq hc283_42).1)) ?_
                    show Go p.tables e below _ (T18.setTop (mkF m 286 #[.val (.long p0), .second, .val (.long p1), .second, .val (.long p2), .second, .val (.long p3), .second, .val (.int p4), .val (.long z1), .second, .val (.long z2), .second, .val (.long z3), .second, .val (.long z4), .second, .val (.int f17), .val (.int f18), .val (.int f19), .val (.int f20), .val (.ref b9), .val (.ref r13), .val (.int (pz z1 f17 z1 f18 z2 f19 z3 f20 z4)), .val (.int (pz z2 f17 z1 f18 z2 f19 z3 f20 z4)), .val (.int (pz z3 f17 z1 f18 z2 f19 z3 f20 z4)), .val (.int (pz z4 f17 z1 f18 z2 f19 z3 f20 z4)), .unset] [(.int (0 : Int32))]))
                    refine Go.by (fun _ => XS.lload X18.here hx rfl (hb hby at_286) rfl) ?_
                    show Go p.tables e below _ (T18.setTop (mkF m 288 #[.val (.long p0), .second, .val (.long p1), .second, .val (.long p2), .second, .val (.long p3), .second, .val (.int p4), .val (.long z1), .second, .val (.long z2), .second, .val (.long z3), .second, .val (.long z4), .second, .val (.int f17), .val (.int f18), .val (.int f19), .val (.int f20), .val (.ref b9), .val (.ref r13), .val (.int (pz z1 f17 z1 f18 z2 f19 z3 f20 z4)), .val (.int (pz z2 f17 z1 f18 z2 f19 z3 f20 z4)), .val (.int (pz z3 f17 z1 f18 z2 f19 z3 f20 z4)), .val (.int (pz z4 f17 z1 f18 z2 f19 z3 f20 z4)), .unset] [(.long z3), (.int (0 : Int32))]))
                    refine Go.by (fun _ => XS.lload X18.here hx rfl (hb hby at_288) rfl) ?_
                    show Go p.tables e below _ (T18.setTop (mkF m 290 #[.val (.long p0), .second, .val (.long p1), .second, .val (.long p2), .second, .val (.long p3), .second, .val (.int p4), .val (.long z1), .second, .val (.long z2), .second, .val (.long z3), .second, .val (.long z4), .second, .val (.int f17), .val (.int f18), .val (.int f19), .val (.int f20), .val (.ref b9), .val (.ref r13), .val (.int (pz z1 f17 z1 f18 z2 f19 z3 f20 z4)), .val (.int (pz z2 f17 z1 f18 z2 f19 z3 f20 z4)), .val (.int (pz z3 f17 z1 f18 z2 f19 z3 f20 z4)), .val (.int (pz z4 f17 z1 f18 z2 f19 z3 f20 z4)), .unset] [(.long z1), (.long z3), (.int (0 : Int32))]))
                    refine Go.by (fun _ => XS.lcmp X18.here hx rfl (hb hby at_290) rfl) ?_
                    show Go p.tables e below _ (T18.setTop (mkF m 291 #[.val (.long p0), .second, .val (.long p1), .second, .val (.long p2), .second, .val (.long p3), .second, .val (.int p4), .val (.long z1), .second, .val (.long z2), .second, .val (.long z3), .second, .val (.long z4), .second, .val (.int f17), .val (.int f18), .val (.int f19), .val (.int f20), .val (.ref b9), .val (.ref r13), .val (.int (pz z1 f17 z1 f18 z2 f19 z3 f20 z4)), .val (.int (pz z2 f17 z1 f18 z2 f19 z3 f20 z4)), .val (.int (pz z3 f17 z1 f18 z2 f19 z3 f20 z4)), .val (.int (pz z4 f17 z1 f18 z2 f19 z3 f20 z4)), .unset] [(.int (lcmpW z3 z1)), (.int (0 : Int32))]))
                    by_cases hc291_44 : (lcmpW z3 z1) = (0 : Int32)
                    · skip
                      refine Go.by (fun _ => XS.ifYes X18.here hx rfl (pc0 := 291) (pc' := 306) rfl (hb hby at_291) rfl ((if0 _ _).trans (teq hc291_44).1) (by decide) (by decide)) ?_
                      show Go p.tables e below _ (T18.setTop (mkF m 306 #[.val (.long p0), .second, .val (.long p1), .second, .val (.long p2), .second, .val (.long p3), .second, .val (.int p4), .val (.long z1), .second, .val (.long z2), .second, .val (.long z3), .second, .val (.long z4), .second, .val (.int f17), .val (.int f18), .val (.int f19), .val (.int f20), .val (.ref b9), .val (.ref r13), .val (.int (pz z1 f17 z1 f18 z2 f19 z3 f20 z4)), .val (.int (pz z2 f17 z1 f18 z2 f19 z3 f20 z4)), .val (.int (pz z3 f17 z1 f18 z2 f19 z3 f20 z4)), .val (.int (pz z4 f17 z1 f18 z2 f19 z3 f20 z4)), .unset] [(.int (0 : Int32))]))
                      refine Go.by (fun _ => XS.iconst X18.here hx rfl (hb hby at_306)) ?_
                      show Go p.tables e below _ (T18.setTop (mkF m 307 #[.val (.long p0), .second, .val (.long p1), .second, .val (.long p2), .second, .val (.long p3), .second, .val (.int p4), .val (.long z1), .second, .val (.long z2), .second, .val (.long z3), .second, .val (.long z4), .second, .val (.int f17), .val (.int f18), .val (.int f19), .val (.int f20), .val (.ref b9), .val (.ref r13), .val (.int (pz z1 f17 z1 f18 z2 f19 z3 f20 z4)), .val (.int (pz z2 f17 z1 f18 z2 f19 z3 f20 z4)), .val (.int (pz z3 f17 z1 f18 z2 f19 z3 f20 z4)), .val (.int (pz z4 f17 z1 f18 z2 f19 z3 f20 z4)), .unset] [(.int (0 : Int32)), (.int (0 : Int32))]))
                      refine Go.by (fun _ => XS.iadd X18.here hx rfl (hb hby at_307) rfl) ?_
                      show Go p.tables e below _ (T18.setTop (mkF m 308 #[.val (.long p0), .second, .val (.long p1), .second, .val (.long p2), .second, .val (.long p3), .second, .val (.int p4), .val (.long z1), .second, .val (.long z2), .second, .val (.long z3), .second, .val (.long z4), .second, .val (.int f17), .val (.int f18), .val (.int f19), .val (.int f20), .val (.ref b9), .val (.ref r13), .val (.int (pz z1 f17 z1 f18 z2 f19 z3 f20 z4)), .val (.int (pz z2 f17 z1 f18 z2 f19 z3 f20 z4)), .val (.int (pz z3 f17 z1 f18 z2 f19 z3 f20 z4)), .val (.int (pz z4 f17 z1 f18 z2 f19 z3 f20 z4)), .unset] [(.int (0 : Int32))]))
                      have hs45 : (pre fj 16).length = 0 + 0 + 0 := by
                        rw [if_pos hc254_32] at cq0
                        rw [if_neg hc264_33] at cq1
                        rw [if_neg hc283_42] at cq2
                        have e2 : (if z2 = z1 then 0 else (pre fj 16).count z2) = 0 := by rw [cq1]; rw [if_pos ((lw_eq _ _).mp hc272_41)]
                        have e3 : (if z3 = z1 then 0 else if z3 = z2 then 0 else (pre fj 16).count z3) = 0 := by rw [cq2]; rw [if_pos ((lw_eq _ _).mp hc291_44)]
                        rw [hlen, cq0, e2, e3]
                      exact J19 _ X18 (0 : Int32) (by rw [hs45]; rfl)
                    · skip
                      refine Go.by (fun _ => XS.ifNo X18.here hx rfl (hb hby at_291) rfl ((if0 _ _).trans (feq hc291_44).1)) ?_
                      show Go p.tables e below _ (T18.setTop (mkF m 294 #[.val (.long p0), .second, .val (.long p1), .second, .val (.long p2), .second, .val (.long p3), .second, .val (.int p4), .val (.long z1), .second, .val (.long z2), .second, .val (.long z3), .second, .val (.long z4), .second, .val (.int f17), .val (.int f18), .val (.int f19), .val (.int f20), .val (.ref b9), .val (.ref r13), .val (.int (pz z1 f17 z1 f18 z2 f19 z3 f20 z4)), .val (.int (pz z2 f17 z1 f18 z2 f19 z3 f20 z4)), .val (.int (pz z3 f17 z1 f18 z2 f19 z3 f20 z4)), .val (.int (pz z4 f17 z1 f18 z2 f19 z3 f20 z4)), .unset] [(.int (0 : Int32))]))
                      refine Go.by (fun _ => XS.lload X18.here hx rfl (hb hby at_294) rfl) ?_
                      show Go p.tables e below _ (T18.setTop (mkF m 296 #[.val (.long p0), .second, .val (.long p1), .second, .val (.long p2), .second, .val (.long p3), .second, .val (.int p4), .val (.long z1), .second, .val (.long z2), .second, .val (.long z3), .second, .val (.long z4), .second, .val (.int f17), .val (.int f18), .val (.int f19), .val (.int f20), .val (.ref b9), .val (.ref r13), .val (.int (pz z1 f17 z1 f18 z2 f19 z3 f20 z4)), .val (.int (pz z2 f17 z1 f18 z2 f19 z3 f20 z4)), .val (.int (pz z3 f17 z1 f18 z2 f19 z3 f20 z4)), .val (.int (pz z4 f17 z1 f18 z2 f19 z3 f20 z4)), .unset] [(.long z3), (.int (0 : Int32))]))
                      refine Go.by (fun _ => XS.lload X18.here hx rfl (hb hby at_296) rfl) ?_
                      show Go p.tables e below _ (T18.setTop (mkF m 298 #[.val (.long p0), .second, .val (.long p1), .second, .val (.long p2), .second, .val (.long p3), .second, .val (.int p4), .val (.long z1), .second, .val (.long z2), .second, .val (.long z3), .second, .val (.long z4), .second, .val (.int f17), .val (.int f18), .val (.int f19), .val (.int f20), .val (.ref b9), .val (.ref r13), .val (.int (pz z1 f17 z1 f18 z2 f19 z3 f20 z4)), .val (.int (pz z2 f17 z1 f18 z2 f19 z3 f20 z4)), .val (.int (pz z3 f17 z1 f18 z2 f19 z3 f20 z4)), .val (.int (pz z4 f17 z1 f18 z2 f19 z3 f20 z4)), .unset] [(.long z2), (.long z3), (.int (0 : Int32))]))
                      refine Go.by (fun _ => XS.lcmp X18.here hx rfl (hb hby at_298) rfl) ?_
                      show Go p.tables e below _ (T18.setTop (mkF m 299 #[.val (.long p0), .second, .val (.long p1), .second, .val (.long p2), .second, .val (.long p3), .second, .val (.int p4), .val (.long z1), .second, .val (.long z2), .second, .val (.long z3), .second, .val (.long z4), .second, .val (.int f17), .val (.int f18), .val (.int f19), .val (.int f20), .val (.ref b9), .val (.ref r13), .val (.int (pz z1 f17 z1 f18 z2 f19 z3 f20 z4)), .val (.int (pz z2 f17 z1 f18 z2 f19 z3 f20 z4)), .val (.int (pz z3 f17 z1 f18 z2 f19 z3 f20 z4)), .val (.int (pz z4 f17 z1 f18 z2 f19 z3 f20 z4)), .unset] [(.int (lcmpW z3 z2)), (.int (0 : Int32))]))
                      by_cases hc299_46 : (lcmpW z3 z2) = (0 : Int32)
                      · skip
                        refine Go.by (fun _ => XS.ifYes X18.here hx rfl (pc0 := 299) (pc' := 306) rfl (hb hby at_299) rfl ((if0 _ _).trans (teq hc299_46).1) (by decide) (by decide)) ?_
                        show Go p.tables e below _ (T18.setTop (mkF m 306 #[.val (.long p0), .second, .val (.long p1), .second, .val (.long p2), .second, .val (.long p3), .second, .val (.int p4), .val (.long z1), .second, .val (.long z2), .second, .val (.long z3), .second, .val (.long z4), .second, .val (.int f17), .val (.int f18), .val (.int f19), .val (.int f20), .val (.ref b9), .val (.ref r13), .val (.int (pz z1 f17 z1 f18 z2 f19 z3 f20 z4)), .val (.int (pz z2 f17 z1 f18 z2 f19 z3 f20 z4)), .val (.int (pz z3 f17 z1 f18 z2 f19 z3 f20 z4)), .val (.int (pz z4 f17 z1 f18 z2 f19 z3 f20 z4)), .unset] [(.int (0 : Int32))]))
                        refine Go.by (fun _ => XS.iconst X18.here hx rfl (hb hby at_306)) ?_
                        show Go p.tables e below _ (T18.setTop (mkF m 307 #[.val (.long p0), .second, .val (.long p1), .second, .val (.long p2), .second, .val (.long p3), .second, .val (.int p4), .val (.long z1), .second, .val (.long z2), .second, .val (.long z3), .second, .val (.long z4), .second, .val (.int f17), .val (.int f18), .val (.int f19), .val (.int f20), .val (.ref b9), .val (.ref r13), .val (.int (pz z1 f17 z1 f18 z2 f19 z3 f20 z4)), .val (.int (pz z2 f17 z1 f18 z2 f19 z3 f20 z4)), .val (.int (pz z3 f17 z1 f18 z2 f19 z3 f20 z4)), .val (.int (pz z4 f17 z1 f18 z2 f19 z3 f20 z4)), .unset] [(.int (0 : Int32)), (.int (0 : Int32))]))
                        refine Go.by (fun _ => XS.iadd X18.here hx rfl (hb hby at_307) rfl) ?_
                        show Go p.tables e below _ (T18.setTop (mkF m 308 #[.val (.long p0), .second, .val (.long p1), .second, .val (.long p2), .second, .val (.long p3), .second, .val (.int p4), .val (.long z1), .second, .val (.long z2), .second, .val (.long z3), .second, .val (.long z4), .second, .val (.int f17), .val (.int f18), .val (.int f19), .val (.int f20), .val (.ref b9), .val (.ref r13), .val (.int (pz z1 f17 z1 f18 z2 f19 z3 f20 z4)), .val (.int (pz z2 f17 z1 f18 z2 f19 z3 f20 z4)), .val (.int (pz z3 f17 z1 f18 z2 f19 z3 f20 z4)), .val (.int (pz z4 f17 z1 f18 z2 f19 z3 f20 z4)), .unset] [(.int (0 : Int32))]))
                        have hs47 : (pre fj 16).length = 0 + 0 + 0 := by
                          rw [if_pos hc254_32] at cq0
                          rw [if_neg hc264_33] at cq1
                          rw [if_neg hc283_42] at cq2
                          have e2 : (if z2 = z1 then 0 else (pre fj 16).count z2) = 0 := by rw [cq1]; rw [if_pos ((lw_eq _ _).mp hc272_41)]
                          have e3 : (if z3 = z1 then 0 else if z3 = z2 then 0 else (pre fj 16).count z3) = 0 := by rw [cq2]; rw [if_neg (mt (lw_eq _ _).mpr hc291_44), if_pos ((lw_eq _ _).mp hc299_46)]
                          rw [hlen, cq0, e2, e3]
                        exact J19 _ X18 (0 : Int32) (by rw [hs47]; rfl)
                      · skip
                        refine Go.by (fun _ => XS.ifNo X18.here hx rfl (hb hby at_299) rfl ((if0 _ _).trans (feq hc299_46).1)) ?_
                        show Go p.tables e below _ (T18.setTop (mkF m 302 #[.val (.long p0), .second, .val (.long p1), .second, .val (.long p2), .second, .val (.long p3), .second, .val (.int p4), .val (.long z1), .second, .val (.long z2), .second, .val (.long z3), .second, .val (.long z4), .second, .val (.int f17), .val (.int f18), .val (.int f19), .val (.int f20), .val (.ref b9), .val (.ref r13), .val (.int (pz z1 f17 z1 f18 z2 f19 z3 f20 z4)), .val (.int (pz z2 f17 z1 f18 z2 f19 z3 f20 z4)), .val (.int (pz z3 f17 z1 f18 z2 f19 z3 f20 z4)), .val (.int (pz z4 f17 z1 f18 z2 f19 z3 f20 z4)), .unset] [(.int (0 : Int32))]))
                        refine Go.by (fun _ => XS.iconst X18.here hx rfl (hb hby at_302)) ?_
                        show Go p.tables e below _ (T18.setTop (mkF m 303 #[.val (.long p0), .second, .val (.long p1), .second, .val (.long p2), .second, .val (.long p3), .second, .val (.int p4), .val (.long z1), .second, .val (.long z2), .second, .val (.long z3), .second, .val (.long z4), .second, .val (.int f17), .val (.int f18), .val (.int f19), .val (.int f20), .val (.ref b9), .val (.ref r13), .val (.int (pz z1 f17 z1 f18 z2 f19 z3 f20 z4)), .val (.int (pz z2 f17 z1 f18 z2 f19 z3 f20 z4)), .val (.int (pz z3 f17 z1 f18 z2 f19 z3 f20 z4)), .val (.int (pz z4 f17 z1 f18 z2 f19 z3 f20 z4)), .unset] [(.int (1 : Int32)), (.int (0 : Int32))]))
                        refine Go.by (fun _ => XS.goto X18.here hx rfl (pc0 := 303) (pc' := 307) rfl (hb hby at_303) (by decide) (by decide)) ?_
                        show Go p.tables e below _ (T18.setTop (mkF m 307 #[.val (.long p0), .second, .val (.long p1), .second, .val (.long p2), .second, .val (.long p3), .second, .val (.int p4), .val (.long z1), .second, .val (.long z2), .second, .val (.long z3), .second, .val (.long z4), .second, .val (.int f17), .val (.int f18), .val (.int f19), .val (.int f20), .val (.ref b9), .val (.ref r13), .val (.int (pz z1 f17 z1 f18 z2 f19 z3 f20 z4)), .val (.int (pz z2 f17 z1 f18 z2 f19 z3 f20 z4)), .val (.int (pz z3 f17 z1 f18 z2 f19 z3 f20 z4)), .val (.int (pz z4 f17 z1 f18 z2 f19 z3 f20 z4)), .unset] [(.int (1 : Int32)), (.int (0 : Int32))]))
                        refine Go.by (fun _ => XS.iadd X18.here hx rfl (hb hby at_307) rfl) ?_
                        show Go p.tables e below _ (T18.setTop (mkF m 308 #[.val (.long p0), .second, .val (.long p1), .second, .val (.long p2), .second, .val (.long p3), .second, .val (.int p4), .val (.long z1), .second, .val (.long z2), .second, .val (.long z3), .second, .val (.long z4), .second, .val (.int f17), .val (.int f18), .val (.int f19), .val (.int f20), .val (.ref b9), .val (.ref r13), .val (.int (pz z1 f17 z1 f18 z2 f19 z3 f20 z4)), .val (.int (pz z2 f17 z1 f18 z2 f19 z3 f20 z4)), .val (.int (pz z3 f17 z1 f18 z2 f19 z3 f20 z4)), .val (.int (pz z4 f17 z1 f18 z2 f19 z3 f20 z4)), .unset] [(.int (1 : Int32))]))
                        have hs48 : (pre fj 16).length = 0 + 0 + 1 := by
                          rw [if_pos hc254_32] at cq0
                          rw [if_neg hc264_33] at cq1
                          rw [if_neg hc283_42] at cq2
                          have e2 : (if z2 = z1 then 0 else (pre fj 16).count z2) = 0 := by rw [cq1]; rw [if_pos ((lw_eq _ _).mp hc272_41)]
                          have e3 : (if z3 = z1 then 0 else if z3 = z2 then 0 else (pre fj 16).count z3) = 1 := by rw [cq2]; rw [if_neg (mt (lw_eq _ _).mpr hc291_44), if_neg (mt (lw_eq _ _).mpr hc299_46)]
                          rw [hlen, cq0, e2, e3]
                        exact J19 _ X18 (1 : Int32) (by rw [hs48]; rfl)
                · skip
                  refine Go.by (fun _ => XS.ifNo X18.here hx rfl (hb hby at_272) rfl ((if0 _ _).trans (feq hc272_41).1)) ?_
                  show Go p.tables e below _ (T18.setTop (mkF m 275 #[.val (.long p0), .second, .val (.long p1), .second, .val (.long p2), .second, .val (.long p3), .second, .val (.int p4), .val (.long z1), .second, .val (.long z2), .second, .val (.long z3), .second, .val (.long z4), .second, .val (.int f17), .val (.int f18), .val (.int f19), .val (.int f20), .val (.ref b9), .val (.ref r13), .val (.int (pz z1 f17 z1 f18 z2 f19 z3 f20 z4)), .val (.int (pz z2 f17 z1 f18 z2 f19 z3 f20 z4)), .val (.int (pz z3 f17 z1 f18 z2 f19 z3 f20 z4)), .val (.int (pz z4 f17 z1 f18 z2 f19 z3 f20 z4)), .unset] [(.int (0 : Int32))]))
                  refine Go.by (fun _ => XS.iconst X18.here hx rfl (hb hby at_275)) ?_
                  show Go p.tables e below _ (T18.setTop (mkF m 276 #[.val (.long p0), .second, .val (.long p1), .second, .val (.long p2), .second, .val (.long p3), .second, .val (.int p4), .val (.long z1), .second, .val (.long z2), .second, .val (.long z3), .second, .val (.long z4), .second, .val (.int f17), .val (.int f18), .val (.int f19), .val (.int f20), .val (.ref b9), .val (.ref r13), .val (.int (pz z1 f17 z1 f18 z2 f19 z3 f20 z4)), .val (.int (pz z2 f17 z1 f18 z2 f19 z3 f20 z4)), .val (.int (pz z3 f17 z1 f18 z2 f19 z3 f20 z4)), .val (.int (pz z4 f17 z1 f18 z2 f19 z3 f20 z4)), .unset] [(.int (1 : Int32)), (.int (0 : Int32))]))
                  refine Go.by (fun _ => XS.goto X18.here hx rfl (pc0 := 276) (pc' := 280) rfl (hb hby at_276) (by decide) (by decide)) ?_
                  show Go p.tables e below _ (T18.setTop (mkF m 280 #[.val (.long p0), .second, .val (.long p1), .second, .val (.long p2), .second, .val (.long p3), .second, .val (.int p4), .val (.long z1), .second, .val (.long z2), .second, .val (.long z3), .second, .val (.long z4), .second, .val (.int f17), .val (.int f18), .val (.int f19), .val (.int f20), .val (.ref b9), .val (.ref r13), .val (.int (pz z1 f17 z1 f18 z2 f19 z3 f20 z4)), .val (.int (pz z2 f17 z1 f18 z2 f19 z3 f20 z4)), .val (.int (pz z3 f17 z1 f18 z2 f19 z3 f20 z4)), .val (.int (pz z4 f17 z1 f18 z2 f19 z3 f20 z4)), .unset] [(.int (1 : Int32)), (.int (0 : Int32))]))
                  refine Go.by (fun _ => XS.iadd X18.here hx rfl (hb hby at_280) rfl) ?_
                  show Go p.tables e below _ (T18.setTop (mkF m 281 #[.val (.long p0), .second, .val (.long p1), .second, .val (.long p2), .second, .val (.long p3), .second, .val (.int p4), .val (.long z1), .second, .val (.long z2), .second, .val (.long z3), .second, .val (.long z4), .second, .val (.int f17), .val (.int f18), .val (.int f19), .val (.int f20), .val (.ref b9), .val (.ref r13), .val (.int (pz z1 f17 z1 f18 z2 f19 z3 f20 z4)), .val (.int (pz z2 f17 z1 f18 z2 f19 z3 f20 z4)), .val (.int (pz z3 f17 z1 f18 z2 f19 z3 f20 z4)), .val (.int (pz z4 f17 z1 f18 z2 f19 z3 f20 z4)), .unset] [(.int (1 : Int32))]))
                  refine Go.by (fun _ => XS.iload X18.here hx rfl (hb hby at_281) rfl) ?_
                  show Go p.tables e below _ (T18.setTop (mkF m 283 #[.val (.long p0), .second, .val (.long p1), .second, .val (.long p2), .second, .val (.long p3), .second, .val (.int p4), .val (.long z1), .second, .val (.long z2), .second, .val (.long z3), .second, .val (.long z4), .second, .val (.int f17), .val (.int f18), .val (.int f19), .val (.int f20), .val (.ref b9), .val (.ref r13), .val (.int (pz z1 f17 z1 f18 z2 f19 z3 f20 z4)), .val (.int (pz z2 f17 z1 f18 z2 f19 z3 f20 z4)), .val (.int (pz z3 f17 z1 f18 z2 f19 z3 f20 z4)), .val (.int (pz z4 f17 z1 f18 z2 f19 z3 f20 z4)), .unset] [(.int (pz z3 f17 z1 f18 z2 f19 z3 f20 z4)), (.int (1 : Int32))]))
                  by_cases hc283_49 : (pz z3 f17 z1 f18 z2 f19 z3 f20 z4) = (0 : Int32)
                  · skip
                    refine Go.by (fun _ => XS.ifYes X18.here hx rfl (pc0 := 283) (pc' := 306) rfl (hb hby at_283) rfl ((if0 _ _).trans (teq hc283_49).1) (by decide) (by decide)) ?_
                    show Go p.tables e below _ (T18.setTop (mkF m 306 #[.val (.long p0), .second, .val (.long p1), .second, .val (.long p2), .second, .val (.long p3), .second, .val (.int p4), .val (.long z1), .second, .val (.long z2), .second, .val (.long z3), .second, .val (.long z4), .second, .val (.int f17), .val (.int f18), .val (.int f19), .val (.int f20), .val (.ref b9), .val (.ref r13), .val (.int (pz z1 f17 z1 f18 z2 f19 z3 f20 z4)), .val (.int (pz z2 f17 z1 f18 z2 f19 z3 f20 z4)), .val (.int (pz z3 f17 z1 f18 z2 f19 z3 f20 z4)), .val (.int (pz z4 f17 z1 f18 z2 f19 z3 f20 z4)), .unset] [(.int (1 : Int32))]))
                    refine Go.by (fun _ => XS.iconst X18.here hx rfl (hb hby at_306)) ?_
                    show Go p.tables e below _ (T18.setTop (mkF m 307 #[.val (.long p0), .second, .val (.long p1), .second, .val (.long p2), .second, .val (.long p3), .second, .val (.int p4), .val (.long z1), .second, .val (.long z2), .second, .val (.long z3), .second, .val (.long z4), .second, .val (.int f17), .val (.int f18), .val (.int f19), .val (.int f20), .val (.ref b9), .val (.ref r13), .val (.int (pz z1 f17 z1 f18 z2 f19 z3 f20 z4)), .val (.int (pz z2 f17 z1 f18 z2 f19 z3 f20 z4)), .val (.int (pz z3 f17 z1 f18 z2 f19 z3 f20 z4)), .val (.int (pz z4 f17 z1 f18 z2 f19 z3 f20 z4)), .unset] [(.int (0 : Int32)), (.int (1 : Int32))]))
                    refine Go.by (fun _ => XS.iadd X18.here hx rfl (hb hby at_307) rfl) ?_
                    show Go p.tables e below _ (T18.setTop (mkF m 308 #[.val (.long p0), .second, .val (.long p1), .second, .val (.long p2), .second, .val (.long p3), .second, .val (.int p4), .val (.long z1), .second, .val (.long z2), .second, .val (.long z3), .second, .val (.long z4), .second, .val (.int f17), .val (.int f18), .val (.int f19), .val (.int f20), .val (.ref b9), .val (.ref r13), .val (.int (pz z1 f17 z1 f18 z2 f19 z3 f20 z4)), .val (.int (pz z2 f17 z1 f18 z2 f19 z3 f20 z4)), .val (.int (pz z3 f17 z1 f18 z2 f19 z3 f20 z4)), .val (.int (pz z4 f17 z1 f18 z2 f19 z3 f20 z4)), .unset] [(.int (1 : Int32))]))
                    have hs50 : (pre fj 16).length = 0 + 1 + 0 := by
                      rw [if_pos hc254_32] at cq0
                      rw [if_neg hc264_33] at cq1
                      rw [if_pos hc283_49] at cq2
                      have e2 : (if z2 = z1 then 0 else (pre fj 16).count z2) = 1 := by rw [cq1]; rw [if_neg (mt (lw_eq _ _).mpr hc272_41)]
                      have e3 : (if z3 = z1 then 0 else if z3 = z2 then 0 else (pre fj 16).count z3) = 0 := by rw [cq2]; rw [ite_self, ite_self]
                      rw [hlen, cq0, e2, e3]
                    exact J19 _ X18 (1 : Int32) (by rw [hs50]; rfl)
                  · skip
                    refine Go.by (fun _ => XS.ifNo X18.here hx rfl (hb hby at_283) rfl ((if0 _ _).trans (feq hc283_49).1)) ?_
                    show Go p.tables e below _ (T18.setTop (mkF m 286 #[.val (.long p0), .second, .val (.long p1), .second, .val (.long p2), .second, .val (.long p3), .second, .val (.int p4), .val (.long z1), .second, .val (.long z2), .second, .val (.long z3), .second, .val (.long z4), .second, .val (.int f17), .val (.int f18), .val (.int f19), .val (.int f20), .val (.ref b9), .val (.ref r13), .val (.int (pz z1 f17 z1 f18 z2 f19 z3 f20 z4)), .val (.int (pz z2 f17 z1 f18 z2 f19 z3 f20 z4)), .val (.int (pz z3 f17 z1 f18 z2 f19 z3 f20 z4)), .val (.int (pz z4 f17 z1 f18 z2 f19 z3 f20 z4)), .unset] [(.int (1 : Int32))]))
                    refine Go.by (fun _ => XS.lload X18.here hx rfl (hb hby at_286) rfl) ?_
                    show Go p.tables e below _ (T18.setTop (mkF m 288 #[.val (.long p0), .second, .val (.long p1), .second, .val (.long p2), .second, .val (.long p3), .second, .val (.int p4), .val (.long z1), .second, .val (.long z2), .second, .val (.long z3), .second, .val (.long z4), .second, .val (.int f17), .val (.int f18), .val (.int f19), .val (.int f20), .val (.ref b9), .val (.ref r13), .val (.int (pz z1 f17 z1 f18 z2 f19 z3 f20 z4)), .val (.int (pz z2 f17 z1 f18 z2 f19 z3 f20 z4)), .val (.int (pz z3 f17 z1 f18 z2 f19 z3 f20 z4)), .val (.int (pz z4 f17 z1 f18 z2 f19 z3 f20 z4)), .unset] [(.long z3), (.int (1 : Int32))]))
                    refine Go.by (fun _ => XS.lload X18.here hx rfl (hb hby at_288) rfl) ?_
                    show Go p.tables e below _ (T18.setTop (mkF m 290 #[.val (.long p0), .second, .val (.long p1), .second, .val (.long p2), .second, .val (.long p3), .second, .val (.int p4), .val (.long z1), .second, .val (.long z2), .second, .val (.long z3), .second, .val (.long z4), .second, .val (.int f17), .val (.int f18), .val (.int f19), .val (.int f20), .val (.ref b9), .val (.ref r13), .val (.int (pz z1 f17 z1 f18 z2 f19 z3 f20 z4)), .val (.int (pz z2 f17 z1 f18 z2 f19 z3 f20 z4)), .val (.int (pz z3 f17 z1 f18 z2 f19 z3 f20 z4)), .val (.int (pz z4 f17 z1 f18 z2 f19 z3 f20 z4)), .unset] [(.long z1), (.long z3), (.int (1 : Int32))]))
                    refine Go.by (fun _ => XS.lcmp X18.here hx rfl (hb hby at_290) rfl) ?_
                    show Go p.tables e below _ (T18.setTop (mkF m 291 #[.val (.long p0), .second, .val (.long p1), .second, .val (.long p2), .second, .val (.long p3), .second, .val (.int p4), .val (.long z1), .second, .val (.long z2), .second, .val (.long z3), .second, .val (.long z4), .second, .val (.int f17), .val (.int f18), .val (.int f19), .val (.int f20), .val (.ref b9), .val (.ref r13), .val (.int (pz z1 f17 z1 f18 z2 f19 z3 f20 z4)), .val (.int (pz z2 f17 z1 f18 z2 f19 z3 f20 z4)), .val (.int (pz z3 f17 z1 f18 z2 f19 z3 f20 z4)), .val (.int (pz z4 f17 z1 f18 z2 f19 z3 f20 z4)), .unset] [(.int (lcmpW z3 z1)), (.int (1 : Int32))]))
                    by_cases hc291_51 : (lcmpW z3 z1) = (0 : Int32)
                    · skip
                      refine Go.by (fun _ => XS.ifYes X18.here hx rfl (pc0 := 291) (pc' := 306) rfl (hb hby at_291) rfl ((if0 _ _).trans (teq hc291_51).1) (by decide) (by decide)) ?_
                      show Go p.tables e below _ (T18.setTop (mkF m 306 #[.val (.long p0), .second, .val (.long p1), .second, .val (.long p2), .second, .val (.long p3), .second, .val (.int p4), .val (.long z1), .second, .val (.long z2), .second, .val (.long z3), .second, .val (.long z4), .second, .val (.int f17), .val (.int f18), .val (.int f19), .val (.int f20), .val (.ref b9), .val (.ref r13), .val (.int (pz z1 f17 z1 f18 z2 f19 z3 f20 z4)), .val (.int (pz z2 f17 z1 f18 z2 f19 z3 f20 z4)), .val (.int (pz z3 f17 z1 f18 z2 f19 z3 f20 z4)), .val (.int (pz z4 f17 z1 f18 z2 f19 z3 f20 z4)), .unset] [(.int (1 : Int32))]))
                      refine Go.by (fun _ => XS.iconst X18.here hx rfl (hb hby at_306)) ?_
                      show Go p.tables e below _ (T18.setTop (mkF m 307 #[.val (.long p0), .second, .val (.long p1), .second, .val (.long p2), .second, .val (.long p3), .second, .val (.int p4), .val (.long z1), .second, .val (.long z2), .second, .val (.long z3), .second, .val (.long z4), .second, .val (.int f17), .val (.int f18), .val (.int f19), .val (.int f20), .val (.ref b9), .val (.ref r13), .val (.int (pz z1 f17 z1 f18 z2 f19 z3 f20 z4)), .val (.int (pz z2 f17 z1 f18 z2 f19 z3 f20 z4)), .val (.int (pz z3 f17 z1 f18 z2 f19 z3 f20 z4)), .val (.int (pz z4 f17 z1 f18 z2 f19 z3 f20 z4)), .unset] [(.int (0 : Int32)), (.int (1 : Int32))]))
                      refine Go.by (fun _ => XS.iadd X18.here hx rfl (hb hby at_307) rfl) ?_
                      show Go p.tables e below _ (T18.setTop (mkF m 308 #[.val (.long p0), .second, .val (.long p1), .second, .val (.long p2), .second, .val (.long p3), .second, .val (.int p4), .val (.long z1), .second, .val (.long z2), .second, .val (.long z3), .second, .val (.long z4), .second, .val (.int f17), .val (.int f18), .val (.int f19), .val (.int f20), .val (.ref b9), .val (.ref r13), .val (.int (pz z1 f17 z1 f18 z2 f19 z3 f20 z4)), .val (.int (pz z2 f17 z1 f18 z2 f19 z3 f20 z4)), .val (.int (pz z3 f17 z1 f18 z2 f19 z3 f20 z4)), .val (.int (pz z4 f17 z1 f18 z2 f19 z3 f20 z4)), .unset] [(.int (1 : Int32))]))
                      have hs52 : (pre fj 16).length = 0 + 1 + 0 := by
                        rw [if_pos hc254_32] at cq0
                        rw [if_neg hc264_33] at cq1
                        rw [if_neg hc283_49] at cq2
                        have e2 : (if z2 = z1 then 0 else (pre fj 16).count z2) = 1 := by rw [cq1]; rw [if_neg (mt (lw_eq _ _).mpr hc272_41)]
                        have e3 : (if z3 = z1 then 0 else if z3 = z2 then 0 else (pre fj 16).count z3) = 0 := by rw [cq2]; rw [if_pos ((lw_eq _ _).mp hc291_51)]
                        rw [hlen, cq0, e2, e3]
                      exact J19 _ X18 (1 : Int32) (by rw [hs52]; rfl)
                    · skip
                      refine Go.by (fun _ => XS.ifNo X18.here hx rfl (hb hby at_291) rfl ((if0 _ _).trans (feq hc291_51).1)) ?_
                      show Go p.tables e below _ (T18.setTop (mkF m 294 #[.val (.long p0), .second, .val (.long p1), .second, .val (.long p2), .second, .val (.long p3), .second, .val (.int p4), .val (.long z1), .second, .val (.long z2), .second, .val (.long z3), .second, .val (.long z4), .second, .val (.int f17), .val (.int f18), .val (.int f19), .val (.int f20), .val (.ref b9), .val (.ref r13), .val (.int (pz z1 f17 z1 f18 z2 f19 z3 f20 z4)), .val (.int (pz z2 f17 z1 f18 z2 f19 z3 f20 z4)), .val (.int (pz z3 f17 z1 f18 z2 f19 z3 f20 z4)), .val (.int (pz z4 f17 z1 f18 z2 f19 z3 f20 z4)), .unset] [(.int (1 : Int32))]))
                      refine Go.by (fun _ => XS.lload X18.here hx rfl (hb hby at_294) rfl) ?_
                      show Go p.tables e below _ (T18.setTop (mkF m 296 #[.val (.long p0), .second, .val (.long p1), .second, .val (.long p2), .second, .val (.long p3), .second, .val (.int p4), .val (.long z1), .second, .val (.long z2), .second, .val (.long z3), .second, .val (.long z4), .second, .val (.int f17), .val (.int f18), .val (.int f19), .val (.int f20), .val (.ref b9), .val (.ref r13), .val (.int (pz z1 f17 z1 f18 z2 f19 z3 f20 z4)), .val (.int (pz z2 f17 z1 f18 z2 f19 z3 f20 z4)), .val (.int (pz z3 f17 z1 f18 z2 f19 z3 f20 z4)), .val (.int (pz z4 f17 z1 f18 z2 f19 z3 f20 z4)), .unset] [(.long z3), (.int (1 : Int32))]))
                      refine Go.by (fun _ => XS.lload X18.here hx rfl (hb hby at_296) rfl) ?_
                      show Go p.tables e below _ (T18.setTop (mkF m 298 #[.val (.long p0), .second, .val (.long p1), .second, .val (.long p2), .second, .val (.long p3), .second, .val (.int p4), .val (.long z1), .second, .val (.long z2), .second, .val (.long z3), .second, .val (.long z4), .second, .val (.int f17), .val (.int f18), .val (.int f19), .val (.int f20), .val (.ref b9), .val (.ref r13), .val (.int (pz z1 f17 z1 f18 z2 f19 z3 f20 z4)), .val (.int (pz z2 f17 z1 f18 z2 f19 z3 f20 z4)), .val (.int (pz z3 f17 z1 f18 z2 f19 z3 f20 z4)), .val (.int (pz z4 f17 z1 f18 z2 f19 z3 f20 z4)), .unset] [(.long z2), (.long z3), (.int (1 : Int32))]))
                      refine Go.by (fun _ => XS.lcmp X18.here hx rfl (hb hby at_298) rfl) ?_
                      show Go p.tables e below _ (T18.setTop (mkF m 299 #[.val (.long p0), .second, .val (.long p1), .second, .val (.long p2), .second, .val (.long p3), .second, .val (.int p4), .val (.long z1), .second, .val (.long z2), .second, .val (.long z3), .second, .val (.long z4), .second, .val (.int f17), .val (.int f18), .val (.int f19), .val (.int f20), .val (.ref b9), .val (.ref r13), .val (.int (pz z1 f17 z1 f18 z2 f19 z3 f20 z4)), .val (.int (pz z2 f17 z1 f18 z2 f19 z3 f20 z4)), .val (.int (pz z3 f17 z1 f18 z2 f19 z3 f20 z4)), .val (.int (pz z4 f17 z1 f18 z2 f19 z3 f20 z4)), .unset] [(.int (lcmpW z3 z2)), (.int (1 : Int32))]))
                      by_cases hc299_53 : (lcmpW z3 z2) = (0 : Int32)
                      · skip
                        refine Go.by (fun _ => XS.ifYes X18.here hx rfl (pc0 := 299) (pc' := 306) rfl (hb hby at_299) rfl ((if0 _ _).trans (teq hc299_53).1) (by decide) (by decide)) ?_
                        show Go p.tables e below _ (T18.setTop (mkF m 306 #[.val (.long p0), .second, .val (.long p1), .second, .val (.long p2), .second, .val (.long p3), .second, .val (.int p4), .val (.long z1), .second, .val (.long z2), .second, .val (.long z3), .second, .val (.long z4), .second, .val (.int f17), .val (.int f18), .val (.int f19), .val (.int f20), .val (.ref b9), .val (.ref r13), .val (.int (pz z1 f17 z1 f18 z2 f19 z3 f20 z4)), .val (.int (pz z2 f17 z1 f18 z2 f19 z3 f20 z4)), .val (.int (pz z3 f17 z1 f18 z2 f19 z3 f20 z4)), .val (.int (pz z4 f17 z1 f18 z2 f19 z3 f20 z4)), .unset] [(.int (1 : Int32))]))
                        refine Go.by (fun _ => XS.iconst X18.here hx rfl (hb hby at_306)) ?_
                        show Go p.tables e below _ (T18.setTop (mkF m 307 #[.val (.long p0), .second, .val (.long p1), .second, .val (.long p2), .second, .val (.long p3), .second, .val (.int p4), .val (.long z1), .second, .val (.long z2), .second, .val (.long z3), .second, .val (.long z4), .second, .val (.int f17), .val (.int f18), .val (.int f19), .val (.int f20), .val (.ref b9), .val (.ref r13), .val (.int (pz z1 f17 z1 f18 z2 f19 z3 f20 z4)), .val (.int (pz z2 f17 z1 f18 z2 f19 z3 f20 z4)), .val (.int (pz z3 f17 z1 f18 z2 f19 z3 f20 z4)), .val (.int (pz z4 f17 z1 f18 z2 f19 z3 f20 z4)), .unset] [(.int (0 : Int32)), (.int (1 : Int32))]))
                        refine Go.by (fun _ => XS.iadd X18.here hx rfl (hb hby at_307) rfl) ?_
                        show Go p.tables e below _ (T18.setTop (mkF m 308 #[.val (.long p0), .second, .val (.long p1), .second, .val (.long p2), .second, .val (.long p3), .second, .val (.int p4), .val (.long z1), .second, .val (.long z2), .second, .val (.long z3), .second, .val (.long z4), .second, .val (.int f17), .val (.int f18), .val (.int f19), .val (.int f20), .val (.ref b9), .val (.ref r13), .val (.int (pz z1 f17 z1 f18 z2 f19 z3 f20 z4)), .val (.int (pz z2 f17 z1 f18 z2 f19 z3 f20 z4)), .val (.int (pz z3 f17 z1 f18 z2 f19 z3 f20 z4)), .val (.int (pz z4 f17 z1 f18 z2 f19 z3 f20 z4)), .unset] [(.int (1 : Int32))]))
                        have hs54 : (pre fj 16).length = 0 + 1 + 0 := by
                          rw [if_pos hc254_32] at cq0
                          rw [if_neg hc264_33] at cq1
                          rw [if_neg hc283_49] at cq2
                          have e2 : (if z2 = z1 then 0 else (pre fj 16).count z2) = 1 := by rw [cq1]; rw [if_neg (mt (lw_eq _ _).mpr hc272_41)]
                          have e3 : (if z3 = z1 then 0 else if z3 = z2 then 0 else (pre fj 16).count z3) = 0 := by rw [cq2]; rw [if_neg (mt (lw_eq _ _).mpr hc291_51), if_pos ((lw_eq _ _).mp hc299_53)]
                          rw [hlen, cq0, e2, e3]
                        exact J19 _ X18 (1 : Int32) (by rw [hs54]; rfl)
                      · skip
                        refine Go.by (fun _ => XS.ifNo X18.here hx rfl (hb hby at_299) rfl ((if0 _ _).trans (feq hc299_53).1)) ?_
                        show Go p.tables e below _ (T18.setTop (mkF m 302 #[.val (.long p0), .second, .val (.long p1), .second, .val (.long p2), .second, .val (.long p3), .second, .val (.int p4), .val (.long z1), .second, .val (.long z2), .second, .val (.long z3), .second, .val (.long z4), .second, .val (.int f17), .val (.int f18), .val (.int f19), .val (.int f20), .val (.ref b9), .val (.ref r13), .val (.int (pz z1 f17 z1 f18 z2 f19 z3 f20 z4)), .val (.int (pz z2 f17 z1 f18 z2 f19 z3 f20 z4)), .val (.int (pz z3 f17 z1 f18 z2 f19 z3 f20 z4)), .val (.int (pz z4 f17 z1 f18 z2 f19 z3 f20 z4)), .unset] [(.int (1 : Int32))]))
                        refine Go.by (fun _ => XS.iconst X18.here hx rfl (hb hby at_302)) ?_
                        show Go p.tables e below _ (T18.setTop (mkF m 303 #[.val (.long p0), .second, .val (.long p1), .second, .val (.long p2), .second, .val (.long p3), .second, .val (.int p4), .val (.long z1), .second, .val (.long z2), .second, .val (.long z3), .second, .val (.long z4), .second, .val (.int f17), .val (.int f18), .val (.int f19), .val (.int f20), .val (.ref b9), .val (.ref r13), .val (.int (pz z1 f17 z1 f18 z2 f19 z3 f20 z4)), .val (.int (pz z2 f17 z1 f18 z2 f19 z3 f20 z4)), .val (.int (pz z3 f17 z1 f18 z2 f19 z3 f20 z4)), .val (.int (pz z4 f17 z1 f18 z2 f19 z3 f20 z4)), .unset] [(.int (1 : Int32)), (.int (1 : Int32))]))
                        refine Go.by (fun _ => XS.goto X18.here hx rfl (pc0 := 303) (pc' := 307) rfl (hb hby at_303) (by decide) (by decide)) ?_
                        show Go p.tables e below _ (T18.setTop (mkF m 307 #[.val (.long p0), .second, .val (.long p1), .second, .val (.long p2), .second, .val (.long p3), .second, .val (.int p4), .val (.long z1), .second, .val (.long z2), .second, .val (.long z3), .second, .val (.long z4), .second, .val (.int f17), .val (.int f18), .val (.int f19), .val (.int f20), .val (.ref b9), .val (.ref r13), .val (.int (pz z1 f17 z1 f18 z2 f19 z3 f20 z4)), .val (.int (pz z2 f17 z1 f18 z2 f19 z3 f20 z4)), .val (.int (pz z3 f17 z1 f18 z2 f19 z3 f20 z4)), .val (.int (pz z4 f17 z1 f18 z2 f19 z3 f20 z4)), .unset] [(.int (1 : Int32)), (.int (1 : Int32))]))
                        refine Go.by (fun _ => XS.iadd X18.here hx rfl (hb hby at_307) rfl) ?_
                        show Go p.tables e below _ (T18.setTop (mkF m 308 #[.val (.long p0), .second, .val (.long p1), .second, .val (.long p2), .second, .val (.long p3), .second, .val (.int p4), .val (.long z1), .second, .val (.long z2), .second, .val (.long z3), .second, .val (.long z4), .second, .val (.int f17), .val (.int f18), .val (.int f19), .val (.int f20), .val (.ref b9), .val (.ref r13), .val (.int (pz z1 f17 z1 f18 z2 f19 z3 f20 z4)), .val (.int (pz z2 f17 z1 f18 z2 f19 z3 f20 z4)), .val (.int (pz z3 f17 z1 f18 z2 f19 z3 f20 z4)), .val (.int (pz z4 f17 z1 f18 z2 f19 z3 f20 z4)), .unset] [(.int (2 : Int32))]))
                        have hs55 : (pre fj 16).length = 0 + 1 + 1 := by
                          rw [if_pos hc254_32] at cq0
                          rw [if_neg hc264_33] at cq1
                          rw [if_neg hc283_49] at cq2
                          have e2 : (if z2 = z1 then 0 else (pre fj 16).count z2) = 1 := by rw [cq1]; rw [if_neg (mt (lw_eq _ _).mpr hc272_41)]
                          have e3 : (if z3 = z1 then 0 else if z3 = z2 then 0 else (pre fj 16).count z3) = 1 := by rw [cq2]; rw [if_neg (mt (lw_eq _ _).mpr hc291_51), if_neg (mt (lw_eq _ _).mpr hc299_53)]
                          rw [hlen, cq0, e2, e3]
                        exact J19 _ X18 (2 : Int32) (by rw [hs55]; rfl)
            · skip
              refine Go.by (fun _ => XS.ifNo X18.here hx rfl (hb hby at_254) rfl ((if0 _ _).trans (feq hc254_32).1)) ?_
              show Go p.tables e below _ (T18.setTop (mkF m 257 #[.val (.long p0), .second, .val (.long p1), .second, .val (.long p2), .second, .val (.long p3), .second, .val (.int p4), .val (.long z1), .second, .val (.long z2), .second, .val (.long z3), .second, .val (.long z4), .second, .val (.int f17), .val (.int f18), .val (.int f19), .val (.int f20), .val (.ref b9), .val (.ref r13), .val (.int (pz z1 f17 z1 f18 z2 f19 z3 f20 z4)), .val (.int (pz z2 f17 z1 f18 z2 f19 z3 f20 z4)), .val (.int (pz z3 f17 z1 f18 z2 f19 z3 f20 z4)), .val (.int (pz z4 f17 z1 f18 z2 f19 z3 f20 z4)), .unset] []))
              refine Go.by (fun _ => XS.iconst X18.here hx rfl (hb hby at_257)) ?_
              show Go p.tables e below _ (T18.setTop (mkF m 258 #[.val (.long p0), .second, .val (.long p1), .second, .val (.long p2), .second, .val (.long p3), .second, .val (.int p4), .val (.long z1), .second, .val (.long z2), .second, .val (.long z3), .second, .val (.long z4), .second, .val (.int f17), .val (.int f18), .val (.int f19), .val (.int f20), .val (.ref b9), .val (.ref r13), .val (.int (pz z1 f17 z1 f18 z2 f19 z3 f20 z4)), .val (.int (pz z2 f17 z1 f18 z2 f19 z3 f20 z4)), .val (.int (pz z3 f17 z1 f18 z2 f19 z3 f20 z4)), .val (.int (pz z4 f17 z1 f18 z2 f19 z3 f20 z4)), .unset] [(.int (1 : Int32))]))
              refine Go.by (fun _ => XS.goto X18.here hx rfl (pc0 := 258) (pc' := 262) rfl (hb hby at_258) (by decide) (by decide)) ?_
              show Go p.tables e below _ (T18.setTop (mkF m 262 #[.val (.long p0), .second, .val (.long p1), .second, .val (.long p2), .second, .val (.long p3), .second, .val (.int p4), .val (.long z1), .second, .val (.long z2), .second, .val (.long z3), .second, .val (.long z4), .second, .val (.int f17), .val (.int f18), .val (.int f19), .val (.int f20), .val (.ref b9), .val (.ref r13), .val (.int (pz z1 f17 z1 f18 z2 f19 z3 f20 z4)), .val (.int (pz z2 f17 z1 f18 z2 f19 z3 f20 z4)), .val (.int (pz z3 f17 z1 f18 z2 f19 z3 f20 z4)), .val (.int (pz z4 f17 z1 f18 z2 f19 z3 f20 z4)), .unset] [(.int (1 : Int32))]))
              refine Go.by (fun _ => XS.iload X18.here hx rfl (hb hby at_262) rfl) ?_
              show Go p.tables e below _ (T18.setTop (mkF m 264 #[.val (.long p0), .second, .val (.long p1), .second, .val (.long p2), .second, .val (.long p3), .second, .val (.int p4), .val (.long z1), .second, .val (.long z2), .second, .val (.long z3), .second, .val (.long z4), .second, .val (.int f17), .val (.int f18), .val (.int f19), .val (.int f20), .val (.ref b9), .val (.ref r13), .val (.int (pz z1 f17 z1 f18 z2 f19 z3 f20 z4)), .val (.int (pz z2 f17 z1 f18 z2 f19 z3 f20 z4)), .val (.int (pz z3 f17 z1 f18 z2 f19 z3 f20 z4)), .val (.int (pz z4 f17 z1 f18 z2 f19 z3 f20 z4)), .unset] [(.int (pz z2 f17 z1 f18 z2 f19 z3 f20 z4)), (.int (1 : Int32))]))
              by_cases hc264_56 : (pz z2 f17 z1 f18 z2 f19 z3 f20 z4) = (0 : Int32)
              · skip
                refine Go.by (fun _ => XS.ifYes X18.here hx rfl (pc0 := 264) (pc' := 279) rfl (hb hby at_264) rfl ((if0 _ _).trans (teq hc264_56).1) (by decide) (by decide)) ?_
                show Go p.tables e below _ (T18.setTop (mkF m 279 #[.val (.long p0), .second, .val (.long p1), .second, .val (.long p2), .second, .val (.long p3), .second, .val (.int p4), .val (.long z1), .second, .val (.long z2), .second, .val (.long z3), .second, .val (.long z4), .second, .val (.int f17), .val (.int f18), .val (.int f19), .val (.int f20), .val (.ref b9), .val (.ref r13), .val (.int (pz z1 f17 z1 f18 z2 f19 z3 f20 z4)), .val (.int (pz z2 f17 z1 f18 z2 f19 z3 f20 z4)), .val (.int (pz z3 f17 z1 f18 z2 f19 z3 f20 z4)), .val (.int (pz z4 f17 z1 f18 z2 f19 z3 f20 z4)), .unset] [(.int (1 : Int32))]))
                refine Go.by (fun _ => XS.iconst X18.here hx rfl (hb hby at_279)) ?_
                show Go p.tables e below _ (T18.setTop (mkF m 280 #[.val (.long p0), .second, .val (.long p1), .second, .val (.long p2), .second, .val (.long p3), .second, .val (.int p4), .val (.long z1), .second, .val (.long z2), .second, .val (.long z3), .second, .val (.long z4), .second, .val (.int f17), .val (.int f18), .val (.int f19), .val (.int f20), .val (.ref b9), .val (.ref r13), .val (.int (pz z1 f17 z1 f18 z2 f19 z3 f20 z4)), .val (.int (pz z2 f17 z1 f18 z2 f19 z3 f20 z4)), .val (.int (pz z3 f17 z1 f18 z2 f19 z3 f20 z4)), .val (.int (pz z4 f17 z1 f18 z2 f19 z3 f20 z4)), .unset] [(.int (0 : Int32)), (.int (1 : Int32))]))
                refine Go.by (fun _ => XS.iadd X18.here hx rfl (hb hby at_280) rfl) ?_
                show Go p.tables e below _ (T18.setTop (mkF m 281 #[.val (.long p0), .second, .val (.long p1), .second, .val (.long p2), .second, .val (.long p3), .second, .val (.int p4), .val (.long z1), .second, .val (.long z2), .second, .val (.long z3), .second, .val (.long z4), .second, .val (.int f17), .val (.int f18), .val (.int f19), .val (.int f20), .val (.ref b9), .val (.ref r13), .val (.int (pz z1 f17 z1 f18 z2 f19 z3 f20 z4)), .val (.int (pz z2 f17 z1 f18 z2 f19 z3 f20 z4)), .val (.int (pz z3 f17 z1 f18 z2 f19 z3 f20 z4)), .val (.int (pz z4 f17 z1 f18 z2 f19 z3 f20 z4)), .unset] [(.int (1 : Int32))]))
                refine Go.by (fun _ => XS.iload X18.here hx rfl (hb hby at_281) rfl) ?_
                show Go p.tables e below _ (T18.setTop (mkF m 283 #[.val (.long p0), .second, .val (.long p1), .second, .val (.long p2), .second, .val (.long p3), .second, .val (.int p4), .val (.long z1), .second, .val (.long z2), .second, .val (.long z3), .second, .val (.long z4), .second, .val (.int f17), .val (.int f18), .val (.int f19), .val (.int f20), .val (.ref b9), .val (.ref r13), .val (.int (pz z1 f17 z1 f18 z2 f19 z3 f20 z4)), .val (.int (pz z2 f17 z1 f18 z2 f19 z3 f20 z4)), .val (.int (pz z3 f17 z1 f18 z2 f19 z3 f20 z4)), .val (.int (pz z4 f17 z1 f18 z2 f19 z3 f20 z4)), .unset] [(.int (pz z3 f17 z1 f18 z2 f19 z3 f20 z4)), (.int (1 : Int32))]))
                by_cases hc283_57 : (pz z3 f17 z1 f18 z2 f19 z3 f20 z4) = (0 : Int32)
                · skip
                  refine Go.by (fun _ => XS.ifYes X18.here hx rfl (pc0 := 283) (pc' := 306) rfl (hb hby at_283) rfl ((if0 _ _).trans (teq hc283_57).1) (by decide) (by decide)) ?_
                  show Go p.tables e below _ (T18.setTop (mkF m 306 #[.val (.long p0), .second, .val (.long p1), .second, .val (.long p2), .second, .val (.long p3), .second, .val (.int p4), .val (.long z1), .second, .val (.long z2), .second, .val (.long z3), .second, .val (.long z4), .second, .val (.int f17), .val (.int f18), .val (.int f19), .val (.int f20), .val (.ref b9), .val (.ref r13), .val (.int (pz z1 f17 z1 f18 z2 f19 z3 f20 z4)), .val (.int (pz z2 f17 z1 f18 z2 f19 z3 f20 z4)), .val (.int (pz z3 f17 z1 f18 z2 f19 z3 f20 z4)), .val (.int (pz z4 f17 z1 f18 z2 f19 z3 f20 z4)), .unset] [(.int (1 : Int32))]))
                  refine Go.by (fun _ => XS.iconst X18.here hx rfl (hb hby at_306)) ?_
                  show Go p.tables e below _ (T18.setTop (mkF m 307 #[.val (.long p0), .second, .val (.long p1), .second, .val (.long p2), .second, .val (.long p3), .second, .val (.int p4), .val (.long z1), .second, .val (.long z2), .second, .val (.long z3), .second, .val (.long z4), .second, .val (.int f17), .val (.int f18), .val (.int f19), .val (.int f20), .val (.ref b9), .val (.ref r13), .val (.int (pz z1 f17 z1 f18 z2 f19 z3 f20 z4)), .val (.int (pz z2 f17 z1 f18 z2 f19 z3 f20 z4)), .val (.int (pz z3 f17 z1 f18 z2 f19 z3 f20 z4)), .val (.int (pz z4 f17 z1 f18 z2 f19 z3 f20 z4)), .unset] [(.int (0 : Int32)), (.int (1 : Int32))]))
                  refine Go.by (fun _ => XS.iadd X18.here hx rfl (hb hby at_307) rfl) ?_
                  show Go p.tables e below _ (T18.setTop (mkF m 308 #[.val (.long p0), .second, .val (.long p1), .second, .val (.long p2), .second, .val (.long p3), .second, .val (.int p4), .val (.long z1), .second, .val (.long z2), .second, .val (.long z3), .second, .val (.long z4), .second, .val (.int f17), .val (.int f18), .val (.int f19), .val (.int f20), .val (.ref b9), .val (.ref r13), .val (.int (pz z1 f17 z1 f18 z2 f19 z3 f20 z4)), .val (.int (pz z2 f17 z1 f18 z2 f19 z3 f20 z4)), .val (.int (pz z3 f17 z1 f18 z2 f19 z3 f20 z4)), .val (.int (pz z4 f17 z1 f18 z2 f19 z3 f20 z4)), .unset] [(.int (1 : Int32))]))
                  have hs58 : (pre fj 16).length = 1 + 0 + 0 := by
                    rw [if_neg hc254_32] at cq0
                    rw [if_pos hc264_56] at cq1
                    rw [if_pos hc283_57] at cq2
                    have e2 : (if z2 = z1 then 0 else (pre fj 16).count z2) = 0 := by rw [cq1]; rw [ite_self]
                    have e3 : (if z3 = z1 then 0 else if z3 = z2 then 0 else (pre fj 16).count z3) = 0 := by rw [cq2]; rw [ite_self, ite_self]
                    rw [hlen, cq0, e2, e3]
                  exact J19 _ X18 (1 : Int32) (by rw [hs58]; rfl)
                · skip
                  refine Go.by (fun _ => XS.ifNo X18.here hx rfl (hb hby at_283) rfl ((if0 _ _).trans (feq hc283_57).1)) ?_
                  show Go p.tables e below _ (T18.setTop (mkF m 286 #[.val (.long p0), .second, .val (.long p1), .second, .val (.long p2), .second, .val (.long p3), .second, .val (.int p4), .val (.long z1), .second, .val (.long z2), .second, .val (.long z3), .second, .val (.long z4), .second, .val (.int f17), .val (.int f18), .val (.int f19), .val (.int f20), .val (.ref b9), .val (.ref r13), .val (.int (pz z1 f17 z1 f18 z2 f19 z3 f20 z4)), .val (.int (pz z2 f17 z1 f18 z2 f19 z3 f20 z4)), .val (.int (pz z3 f17 z1 f18 z2 f19 z3 f20 z4)), .val (.int (pz z4 f17 z1 f18 z2 f19 z3 f20 z4)), .unset] [(.int (1 : Int32))]))
                  refine Go.by (fun _ => XS.lload X18.here hx rfl (hb hby at_286) rfl) ?_
                  show Go p.tables e below _ (T18.setTop (mkF m 288 #[.val (.long p0), .second, .val (.long p1), .second, .val (.long p2), .second, .val (.long p3), .second, .val (.int p4), .val (.long z1), .second, .val (.long z2), .second, .val (.long z3), .second, .val (.long z4), .second, .val (.int f17), .val (.int f18), .val (.int f19), .val (.int f20), .val (.ref b9), .val (.ref r13), .val (.int (pz z1 f17 z1 f18 z2 f19 z3 f20 z4)), .val (.int (pz z2 f17 z1 f18 z2 f19 z3 f20 z4)), .val (.int (pz z3 f17 z1 f18 z2 f19 z3 f20 z4)), .val (.int (pz z4 f17 z1 f18 z2 f19 z3 f20 z4)), .unset] [(.long z3), (.int (1 : Int32))]))
                  refine Go.by (fun _ => XS.lload X18.here hx rfl (hb hby at_288) rfl) ?_
                  show Go p.tables e below _ (T18.setTop (mkF m 290 #[.val (.long p0), .second, .val (.long p1), .second, .val (.long p2), .second, .val (.long p3), .second, .val (.int p4), .val (.long z1), .second, .val (.long z2), .second, .val (.long z3), .second, .val (.long z4), .second, .val (.int f17), .val (.int f18), .val (.int f19), .val (.int f20), .val (.ref b9), .val (.ref r13), .val (.int (pz z1 f17 z1 f18 z2 f19 z3 f20 z4)), .val (.int (pz z2 f17 z1 f18 z2 f19 z3 f20 z4)), .val (.int (pz z3 f17 z1 f18 z2 f19 z3 f20 z4)), .val (.int (pz z4 f17 z1 f18 z2 f19 z3 f20 z4)), .unset] [(.long z1), (.long z3), (.int (1 : Int32))]))
                  refine Go.by (fun _ => XS.lcmp X18.here hx rfl (hb hby at_290) rfl) ?_
                  show Go p.tables e below _ (T18.setTop (mkF m 291 #[.val (.long p0), .second, .val (.long p1), .second, .val (.long p2), .second, .val (.long p3), .second, .val (.int p4), .val (.long z1), .second, .val (.long z2), .second, .val (.long z3), .second, .val (.long z4), .second, .val (.int f17), .val (.int f18), .val (.int f19), .val (.int f20), .val (.ref b9), .val (.ref r13), .val (.int (pz z1 f17 z1 f18 z2 f19 z3 f20 z4)), .val (.int (pz z2 f17 z1 f18 z2 f19 z3 f20 z4)), .val (.int (pz z3 f17 z1 f18 z2 f19 z3 f20 z4)), .val (.int (pz z4 f17 z1 f18 z2 f19 z3 f20 z4)), .unset] [(.int (lcmpW z3 z1)), (.int (1 : Int32))]))
                  by_cases hc291_59 : (lcmpW z3 z1) = (0 : Int32)
                  · skip
                    refine Go.by (fun _ => XS.ifYes X18.here hx rfl (pc0 := 291) (pc' := 306) rfl (hb hby at_291) rfl ((if0 _ _).trans (teq hc291_59).1) (by decide) (by decide)) ?_
                    show Go p.tables e below _ (T18.setTop (mkF m 306 #[.val (.long p0), .second, .val (.long p1), .second, .val (.long p2), .second, .val (.long p3), .second, .val (.int p4), .val (.long z1), .second, .val (.long z2), .second, .val (.long z3), .second, .val (.long z4), .second, .val (.int f17), .val (.int f18), .val (.int f19), .val (.int f20), .val (.ref b9), .val (.ref r13), .val (.int (pz z1 f17 z1 f18 z2 f19 z3 f20 z4)), .val (.int (pz z2 f17 z1 f18 z2 f19 z3 f20 z4)), .val (.int (pz z3 f17 z1 f18 z2 f19 z3 f20 z4)), .val (.int (pz z4 f17 z1 f18 z2 f19 z3 f20 z4)), .unset] [(.int (1 : Int32))]))
                    refine Go.by (fun _ => XS.iconst X18.here hx rfl (hb hby at_306)) ?_
                    show Go p.tables e below _ (T18.setTop (mkF m 307 #[.val (.long p0), .second, .val (.long p1), .second, .val (.long p2), .second, .val (.long p3), .second, .val (.int p4), .val (.long z1), .second, .val (.long z2), .second, .val (.long z3), .second, .val (.long z4), .second, .val (.int f17), .val (.int f18), .val (.int f19), .val (.int f20), .val (.ref b9), .val (.ref r13), .val (.int (pz z1 f17 z1 f18 z2 f19 z3 f20 z4)), .val (.int (pz z2 f17 z1 f18 z2 f19 z3 f20 z4)), .val (.int (pz z3 f17 z1 f18 z2 f19 z3 f20 z4)), .val (.int (pz z4 f17 z1 f18 z2 f19 z3 f20 z4)), .unset] [(.int (0 : Int32)), (.int (1 : Int32))]))
                    refine Go.by (fun _ => XS.iadd X18.here hx rfl (hb hby at_307) rfl) ?_
                    show Go p.tables e below _ (T18.setTop (mkF m 308 #[.val (.long p0), .second, .val (.long p1), .second, .val (.long p2), .second, .val (.long p3), .second, .val (.int p4), .val (.long z1), .second, .val (.long z2), .second, .val (.long z3), .second, .val (.long z4), .second, .val (.int f17), .val (.int f18), .val (.int f19), .val (.int f20), .val (.ref b9), .val (.ref r13), .val (.int (pz z1 f17 z1 f18 z2 f19 z3 f20 z4)), .val (.int (pz z2 f17 z1 f18 z2 f19 z3 f20 z4)), .val (.int (pz z3 f17 z1 f18 z2 f19 z3 f20 z4)), .val (.int (pz z4 f17 z1 f18 z2 f19 z3 f20 z4)), .unset] [(.int (1 : Int32))]))
                    have hs60 : (pre fj 16).length = 1 + 0 + 0 := by
                      rw [if_neg hc254_32] at cq0
                      rw [if_pos hc264_56] at cq1
                      rw [if_neg hc283_57] at cq2
                      have e2 : (if z2 = z1 then 0 else (pre fj 16).count z2) = 0 := by rw [cq1]; rw [ite_self]
                      have e3 : (if z3 = z1 then 0 else if z3 = z2 then 0 else (pre fj 16).count z3) = 0 := by rw [cq2]; rw [if_pos ((lw_eq _ _).mp hc291_59)]
                      rw [hlen, cq0, e2, e3]
                    exact J19 _ X18 (1 : Int32) (by rw [hs60]; rfl)
                  · skip
                    refine Go.by (fun _ => XS.ifNo X18.here hx rfl (hb hby at_291) rfl ((if0 _ _).trans (feq hc291_59).1)) ?_
                    show Go p.tables e below _ (T18.setTop (mkF m 294 #[.val (.long p0), .second, .val (.long p1), .second, .val (.long p2), .second, .val (.long p3), .second, .val (.int p4), .val (.long z1), .second, .val (.long z2), .second, .val (.long z3), .second, .val (.long z4), .second, .val (.int f17), .val (.int f18), .val (.int f19), .val (.int f20), .val (.ref b9), .val (.ref r13), .val (.int (pz z1 f17 z1 f18 z2 f19 z3 f20 z4)), .val (.int (pz z2 f17 z1 f18 z2 f19 z3 f20 z4)), .val (.int (pz z3 f17 z1 f18 z2 f19 z3 f20 z4)), .val (.int (pz z4 f17 z1 f18 z2 f19 z3 f20 z4)), .unset] [(.int (1 : Int32))]))
                    refine Go.by (fun _ => XS.lload X18.here hx rfl (hb hby at_294) rfl) ?_
                    show Go p.tables e below _ (T18.setTop (mkF m 296 #[.val (.long p0), .second, .val (.long p1), .second, .val (.long p2), .second, .val (.long p3), .second, .val (.int p4), .val (.long z1), .second, .val (.long z2), .second, .val (.long z3), .second, .val (.long z4), .second, .val (.int f17), .val (.int f18), .val (.int f19), .val (.int f20), .val (.ref b9), .val (.ref r13), .val (.int (pz z1 f17 z1 f18 z2 f19 z3 f20 z4)), .val (.int (pz z2 f17 z1 f18 z2 f19 z3 f20 z4)), .val (.int (pz z3 f17 z1 f18 z2 f19 z3 f20 z4)), .val (.int (pz z4 f17 z1 f18 z2 f19 z3 f20 z4)), .unset] [(.long z3), (.int (1 : Int32))]))
                    refine Go.by (fun _ => XS.lload X18.here hx rfl (hb hby at_296) rfl) ?_
                    show Go p.tables e below _ (T18.setTop (mkF m 298 #[.val (.long p0), .second, .val (.long p1), .second, .val (.long p2), .second, .val (.long p3), .second, .val (.int p4), .val (.long z1), .second, .val (.long z2), .second, .val (.long z3), .second, .val (.long z4), .second, .val (.int f17), .val (.int f18), .val (.int f19), .val (.int f20), .val (.ref b9), .val (.ref r13), .val (.int (pz z1 f17 z1 f18 z2 f19 z3 f20 z4)), .val (.int (pz z2 f17 z1 f18 z2 f19 z3 f20 z4)), .val (.int (pz z3 f17 z1 f18 z2 f19 z3 f20 z4)), .val (.int (pz z4 f17 z1 f18 z2 f19 z3 f20 z4)), .unset] [(.long z2), (.long z3), (.int (1 : Int32))]))
                    refine Go.by (fun _ => XS.lcmp X18.here hx rfl (hb hby at_298) rfl) ?_
                    show Go p.tables e below _ (T18.setTop (mkF m 299 #[.val (.long p0), .second, .val (.long p1), .second, .val (.long p2), .second, .val (.long p3), .second, .val (.int p4), .val (.long z1), .second, .val (.long z2), .second, .val (.long z3), .second, .val (.long z4), .second, .val (.int f17), .val (.int f18), .val (.int f19), .val (.int f20), .val (.ref b9), .val (.ref r13), .val (.int (pz z1 f17 z1 f18 z2 f19 z3 f20 z4)), .val (.int (pz z2 f17 z1 f18 z2 f19 z3 f20 z4)), .val (.int (pz z3 f17 z1 f18 z2 f19 z3 f20 z4)), .val (.int (pz z4 f17 z1 f18 z2 f19 z3 f20 z4)), .unset] [(.int (lcmpW z3 z2)), (.int (1 : Int32))]))
                    by_cases hc299_61 : (lcmpW z3 z2) = (0 : Int32)
                    · skip
                      refine Go.by (fun _ => XS.ifYes X18.here hx rfl (pc0 := 299) (pc' := 306) rfl (hb hby at_299) rfl ((if0 _ _).trans (teq hc299_61).1) (by decide) (by decide)) ?_
                      show Go p.tables e below _ (T18.setTop (mkF m 306 #[.val (.long p0), .second, .val (.long p1), .second, .val (.long p2), .second, .val (.long p3), .second, .val (.int p4), .val (.long z1), .second, .val (.long z2), .second, .val (.long z3), .second, .val (.long z4), .second, .val (.int f17), .val (.int f18), .val (.int f19), .val (.int f20), .val (.ref b9), .val (.ref r13), .val (.int (pz z1 f17 z1 f18 z2 f19 z3 f20 z4)), .val (.int (pz z2 f17 z1 f18 z2 f19 z3 f20 z4)), .val (.int (pz z3 f17 z1 f18 z2 f19 z3 f20 z4)), .val (.int (pz z4 f17 z1 f18 z2 f19 z3 f20 z4)), .unset] [(.int (1 : Int32))]))
                      refine Go.by (fun _ => XS.iconst X18.here hx rfl (hb hby at_306)) ?_
                      show Go p.tables e below _ (T18.setTop (mkF m 307 #[.val (.long p0), .second, .val (.long p1), .second, .val (.long p2), .second, .val (.long p3), .second, .val (.int p4), .val (.long z1), .second, .val (.long z2), .second, .val (.long z3), .second, .val (.long z4), .second, .val (.int f17), .val (.int f18), .val (.int f19), .val (.int f20), .val (.ref b9), .val (.ref r13), .val (.int (pz z1 f17 z1 f18 z2 f19 z3 f20 z4)), .val (.int (pz z2 f17 z1 f18 z2 f19 z3 f20 z4)), .val (.int (pz z3 f17 z1 f18 z2 f19 z3 f20 z4)), .val (.int (pz z4 f17 z1 f18 z2 f19 z3 f20 z4)), .unset] [(.int (0 : Int32)), (.int (1 : Int32))]))
                      refine Go.by (fun _ => XS.iadd X18.here hx rfl (hb hby at_307) rfl) ?_
                      show Go p.tables e below _ (T18.setTop (mkF m 308 #[.val (.long p0), .second, .val (.long p1), .second, .val (.long p2), .second, .val (.long p3), .second, .val (.int p4), .val (.long z1), .second, .val (.long z2), .second, .val (.long z3), .second, .val (.long z4), .second, .val (.int f17), .val (.int f18), .val (.int f19), .val (.int f20), .val (.ref b9), .val (.ref r13), .val (.int (pz z1 f17 z1 f18 z2 f19 z3 f20 z4)), .val (.int (pz z2 f17 z1 f18 z2 f19 z3 f20 z4)), .val (.int (pz z3 f17 z1 f18 z2 f19 z3 f20 z4)), .val (.int (pz z4 f17 z1 f18 z2 f19 z3 f20 z4)), .unset] [(.int (1 : Int32))]))
                      have hs62 : (pre fj 16).length = 1 + 0 + 0 := by
                        rw [if_neg hc254_32] at cq0
                        rw [if_pos hc264_56] at cq1
                        rw [if_neg hc283_57] at cq2
                        have e2 : (if z2 = z1 then 0 else (pre fj 16).count z2) = 0 := by rw [cq1]; rw [ite_self]
                        have e3 : (if z3 = z1 then 0 else if z3 = z2 then 0 else (pre fj 16).count z3) = 0 := by rw [cq2]; rw [if_neg (mt (lw_eq _ _).mpr hc291_59), if_pos ((lw_eq _ _).mp hc299_61)]
                        rw [hlen, cq0, e2, e3]
                      exact J19 _ X18 (1 : Int32) (by rw [hs62]; rfl)
                    · skip
                      refine Go.by (fun _ => XS.ifNo X18.here hx rfl (hb hby at_299) rfl ((if0 _ _).trans (feq hc299_61).1)) ?_
                      show Go p.tables e below _ (T18.setTop (mkF m 302 #[.val (.long p0), .second, .val (.long p1), .second, .val (.long p2), .second, .val (.long p3), .second, .val (.int p4), .val (.long z1), .second, .val (.long z2), .second, .val (.long z3), .second, .val (.long z4), .second, .val (.int f17), .val (.int f18), .val (.int f19), .val (.int f20), .val (.ref b9), .val (.ref r13), .val (.int (pz z1 f17 z1 f18 z2 f19 z3 f20 z4)), .val (.int (pz z2 f17 z1 f18 z2 f19 z3 f20 z4)), .val (.int (pz z3 f17 z1 f18 z2 f19 z3 f20 z4)), .val (.int (pz z4 f17 z1 f18 z2 f19 z3 f20 z4)), .unset] [(.int (1 : Int32))]))
                      refine Go.by (fun _ => XS.iconst X18.here hx rfl (hb hby at_302)) ?_
                      show Go p.tables e below _ (T18.setTop (mkF m 303 #[.val (.long p0), .second, .val (.long p1), .second, .val (.long p2), .second, .val (.long p3), .second, .val (.int p4), .val (.long z1), .second, .val (.long z2), .second, .val (.long z3), .second, .val (.long z4), .second, .val (.int f17), .val (.int f18), .val (.int f19), .val (.int f20), .val (.ref b9), .val (.ref r13), .val (.int (pz z1 f17 z1 f18 z2 f19 z3 f20 z4)), .val (.int (pz z2 f17 z1 f18 z2 f19 z3 f20 z4)), .val (.int (pz z3 f17 z1 f18 z2 f19 z3 f20 z4)), .val (.int (pz z4 f17 z1 f18 z2 f19 z3 f20 z4)), .unset] [(.int (1 : Int32)), (.int (1 : Int32))]))
                      refine Go.by (fun _ => XS.goto X18.here hx rfl (pc0 := 303) (pc' := 307) rfl (hb hby at_303) (by decide) (by decide)) ?_
                      show Go p.tables e below _ (T18.setTop (mkF m 307 #[.val (.long p0), .second, .val (.long p1), .second, .val (.long p2), .second, .val (.long p3), .second, .val (.int p4), .val (.long z1), .second, .val (.long z2), .second, .val (.long z3), .second, .val (.long z4), .second, .val (.int f17), .val (.int f18), .val (.int f19), .val (.int f20), .val (.ref b9), .val (.ref r13), .val (.int (pz z1 f17 z1 f18 z2 f19 z3 f20 z4)), .val (.int (pz z2 f17 z1 f18 z2 f19 z3 f20 z4)), .val (.int (pz z3 f17 z1 f18 z2 f19 z3 f20 z4)), .val (.int (pz z4 f17 z1 f18 z2 f19 z3 f20 z4)), .unset] [(.int (1 : Int32)), (.int (1 : Int32))]))
                      refine Go.by (fun _ => XS.iadd X18.here hx rfl (hb hby at_307) rfl) ?_
                      show Go p.tables e below _ (T18.setTop (mkF m 308 #[.val (.long p0), .second, .val (.long p1), .second, .val (.long p2), .second, .val (.long p3), .second, .val (.int p4), .val (.long z1), .second, .val (.long z2), .second, .val (.long z3), .second, .val (.long z4), .second, .val (.int f17), .val (.int f18), .val (.int f19), .val (.int f20), .val (.ref b9), .val (.ref r13), .val (.int (pz z1 f17 z1 f18 z2 f19 z3 f20 z4)), .val (.int (pz z2 f17 z1 f18 z2 f19 z3 f20 z4)), .val (.int (pz z3 f17 z1 f18 z2 f19 z3 f20 z4)), .val (.int (pz z4 f17 z1 f18 z2 f19 z3 f20 z4)), .unset] [(.int (2 : Int32))]))
                      have hs63 : (pre fj 16).length = 1 + 0 + 1 := by
                        rw [if_neg hc254_32] at cq0
                        rw [if_pos hc264_56] at cq1
                        rw [if_neg hc283_57] at cq2
                        have e2 : (if z2 = z1 then 0 else (pre fj 16).count z2) = 0 := by rw [cq1]; rw [ite_self]
                        have e3 : (if z3 = z1 then 0 else if z3 = z2 then 0 else (pre fj 16).count z3) = 1 := by rw [cq2]; rw [if_neg (mt (lw_eq _ _).mpr hc291_59), if_neg (mt (lw_eq _ _).mpr hc299_61)]
                        rw [hlen, cq0, e2, e3]
                      exact J19 _ X18 (2 : Int32) (by rw [hs63]; rfl)
              · skip
                refine Go.by (fun _ => XS.ifNo X18.here hx rfl (hb hby at_264) rfl ((if0 _ _).trans (feq hc264_56).1)) ?_
                show Go p.tables e below _ (T18.setTop (mkF m 267 #[.val (.long p0), .second, .val (.long p1), .second, .val (.long p2), .second, .val (.long p3), .second, .val (.int p4), .val (.long z1), .second, .val (.long z2), .second, .val (.long z3), .second, .val (.long z4), .second, .val (.int f17), .val (.int f18), .val (.int f19), .val (.int f20), .val (.ref b9), .val (.ref r13), .val (.int (pz z1 f17 z1 f18 z2 f19 z3 f20 z4)), .val (.int (pz z2 f17 z1 f18 z2 f19 z3 f20 z4)), .val (.int (pz z3 f17 z1 f18 z2 f19 z3 f20 z4)), .val (.int (pz z4 f17 z1 f18 z2 f19 z3 f20 z4)), .unset] [(.int (1 : Int32))]))
                refine Go.by (fun _ => XS.lload X18.here hx rfl (hb hby at_267) rfl) ?_
                show Go p.tables e below _ (T18.setTop (mkF m 269 #[.val (.long p0), .second, .val (.long p1), .second, .val (.long p2), .second, .val (.long p3), .second, .val (.int p4), .val (.long z1), .second, .val (.long z2), .second, .val (.long z3), .second, .val (.long z4), .second, .val (.int f17), .val (.int f18), .val (.int f19), .val (.int f20), .val (.ref b9), .val (.ref r13), .val (.int (pz z1 f17 z1 f18 z2 f19 z3 f20 z4)), .val (.int (pz z2 f17 z1 f18 z2 f19 z3 f20 z4)), .val (.int (pz z3 f17 z1 f18 z2 f19 z3 f20 z4)), .val (.int (pz z4 f17 z1 f18 z2 f19 z3 f20 z4)), .unset] [(.long z2), (.int (1 : Int32))]))
                refine Go.by (fun _ => XS.lload X18.here hx rfl (hb hby at_269) rfl) ?_
                show Go p.tables e below _ (T18.setTop (mkF m 271 #[.val (.long p0), .second, .val (.long p1), .second, .val (.long p2), .second, .val (.long p3), .second, .val (.int p4), .val (.long z1), .second, .val (.long z2), .second, .val (.long z3), .second, .val (.long z4), .second, .val (.int f17), .val (.int f18), .val (.int f19), .val (.int f20), .val (.ref b9), .val (.ref r13), .val (.int (pz z1 f17 z1 f18 z2 f19 z3 f20 z4)), .val (.int (pz z2 f17 z1 f18 z2 f19 z3 f20 z4)), .val (.int (pz z3 f17 z1 f18 z2 f19 z3 f20 z4)), .val (.int (pz z4 f17 z1 f18 z2 f19 z3 f20 z4)), .unset] [(.long z1), (.long z2), (.int (1 : Int32))]))
                refine Go.by (fun _ => XS.lcmp X18.here hx rfl (hb hby at_271) rfl) ?_
                show Go p.tables e below _ (T18.setTop (mkF m 272 #[.val (.long p0), .second, .val (.long p1), .second, .val (.long p2), .second, .val (.long p3), .second, .val (.int p4), .val (.long z1), .second, .val (.long z2), .second, .val (.long z3), .second, .val (.long z4), .second, .val (.int f17), .val (.int f18), .val (.int f19), .val (.int f20), .val (.ref b9), .val (.ref r13), .val (.int (pz z1 f17 z1 f18 z2 f19 z3 f20 z4)), .val (.int (pz z2 f17 z1 f18 z2 f19 z3 f20 z4)), .val (.int (pz z3 f17 z1 f18 z2 f19 z3 f20 z4)), .val (.int (pz z4 f17 z1 f18 z2 f19 z3 f20 z4)), .unset] [(.int (lcmpW z2 z1)), (.int (1 : Int32))]))
                by_cases hc272_64 : (lcmpW z2 z1) = (0 : Int32)
                · skip
                  refine Go.by (fun _ => XS.ifYes X18.here hx rfl (pc0 := 272) (pc' := 279) rfl (hb hby at_272) rfl ((if0 _ _).trans (teq hc272_64).1) (by decide) (by decide)) ?_
                  show Go p.tables e below _ (T18.setTop (mkF m 279 #[.val (.long p0), .second, .val (.long p1), .second, .val (.long p2), .second, .val (.long p3), .second, .val (.int p4), .val (.long z1), .second, .val (.long z2), .second, .val (.long z3), .second, .val (.long z4), .second, .val (.int f17), .val (.int f18), .val (.int f19), .val (.int f20), .val (.ref b9), .val (.ref r13), .val (.int (pz z1 f17 z1 f18 z2 f19 z3 f20 z4)), .val (.int (pz z2 f17 z1 f18 z2 f19 z3 f20 z4)), .val (.int (pz z3 f17 z1 f18 z2 f19 z3 f20 z4)), .val (.int (pz z4 f17 z1 f18 z2 f19 z3 f20 z4)), .unset] [(.int (1 : Int32))]))
                  refine Go.by (fun _ => XS.iconst X18.here hx rfl (hb hby at_279)) ?_
                  show Go p.tables e below _ (T18.setTop (mkF m 280 #[.val (.long p0), .second, .val (.long p1), .second, .val (.long p2), .second, .val (.long p3), .second, .val (.int p4), .val (.long z1), .second, .val (.long z2), .second, .val (.long z3), .second, .val (.long z4), .second, .val (.int f17), .val (.int f18), .val (.int f19), .val (.int f20), .val (.ref b9), .val (.ref r13), .val (.int (pz z1 f17 z1 f18 z2 f19 z3 f20 z4)), .val (.int (pz z2 f17 z1 f18 z2 f19 z3 f20 z4)), .val (.int (pz z3 f17 z1 f18 z2 f19 z3 f20 z4)), .val (.int (pz z4 f17 z1 f18 z2 f19 z3 f20 z4)), .unset] [(.int (0 : Int32)), (.int (1 : Int32))]))
                  refine Go.by (fun _ => XS.iadd X18.here hx rfl (hb hby at_280) rfl) ?_
                  show Go p.tables e below _ (T18.setTop (mkF m 281 #[.val (.long p0), .second, .val (.long p1), .second, .val (.long p2), .second, .val (.long p3), .second, .val (.int p4), .val (.long z1), .second, .val (.long z2), .second, .val (.long z3), .second, .val (.long z4), .second, .val (.int f17), .val (.int f18), .val (.int f19), .val (.int f20), .val (.ref b9), .val (.ref r13), .val (.int (pz z1 f17 z1 f18 z2 f19 z3 f20 z4)), .val (.int (pz z2 f17 z1 f18 z2 f19 z3 f20 z4)), .val (.int (pz z3 f17 z1 f18 z2 f19 z3 f20 z4)), .val (.int (pz z4 f17 z1 f18 z2 f19 z3 f20 z4)), .unset] [(.int (1 : Int32))]))
                  refine Go.by (fun _ => XS.iload X18.here hx rfl (hb hby at_281) rfl) ?_
                  show Go p.tables e below _ (T18.setTop (mkF m 283 #[.val (.long p0), .second, .val (.long p1), .second, .val (.long p2), .second, .val (.long p3), .second, .val (.int p4), .val (.long z1), .second, .val (.long z2), .second, .val (.long z3), .second, .val (.long z4), .second, .val (.int f17), .val (.int f18), .val (.int f19), .val (.int f20), .val (.ref b9), .val (.ref r13), .val (.int (pz z1 f17 z1 f18 z2 f19 z3 f20 z4)), .val (.int (pz z2 f17 z1 f18 z2 f19 z3 f20 z4)), .val (.int (pz z3 f17 z1 f18 z2 f19 z3 f20 z4)), .val (.int (pz z4 f17 z1 f18 z2 f19 z3 f20 z4)), .unset] [(.int (pz z3 f17 z1 f18 z2 f19 z3 f20 z4)), (.int (1 : Int32))]))
                  by_cases hc283_65 : (pz z3 f17 z1 f18 z2 f19 z3 f20 z4) = (0 : Int32)
                  · skip
                    refine Go.by (fun _ => XS.ifYes X18.here hx rfl (pc0 := 283) (pc' := 306) rfl (hb hby at_283) rfl ((if0 _ _).trans (teq hc283_65).1) (by decide) (by decide)) ?_
                    show Go p.tables e below _ (T18.setTop (mkF m 306 #[.val (.long p0), .second, .val (.long p1), .second, .val (.long p2), .second, .val (.long p3), .second, .val (.int p4), .val (.long z1), .second, .val (.long z2), .second, .val (.long z3), .second, .val (.long z4), .second, .val (.int f17), .val (.int f18), .val (.int f19), .val (.int f20), .val (.ref b9), .val (.ref r13), .val (.int (pz z1 f17 z1 f18 z2 f19 z3 f20 z4)), .val (.int (pz z2 f17 z1 f18 z2 f19 z3 f20 z4)), .val (.int (pz z3 f17 z1 f18 z2 f19 z3 f20 z4)), .val (.int (pz z4 f17 z1 f18 z2 f19 z3 f20 z4)), .unset] [(.int (1 : Int32))]))
                    refine Go.by (fun _ => XS.iconst X18.here hx rfl (hb hby at_306)) ?_
                    show Go p.tables e below _ (T18.setTop (mkF m 307 #[.val (.long p0), .second, .val (.long p1), .second, .val (.long p2), .second, .val (.long p3), .second, .val (.int p4), .val (.long z1), .second, .val (.long z2), .second, .val (.long z3), .second, .val (.long z4), .second, .val (.int f17), .val (.int f18), .val (.int f19), .val (.int f20), .val (.ref b9), .val (.ref r13), .val (.int (pz z1 f17 z1 f18 z2 f19 z3 f20 z4)), .val (.int (pz z2 f17 z1 f18 z2 f19 z3 f20 z4)), .val (.int (pz z3 f17 z1 f18 z2 f19 z3 f20 z4)), .val (.int (pz z4 f17 z1 f18 z2 f19 z3 f20 z4)), .unset] [(.int (0 : Int32)), (.int (1 : Int32))]))
                    refine Go.by (fun _ => XS.iadd X18.here hx rfl (hb hby at_307) rfl) ?_
                    show Go p.tables e below _ (T18.setTop (mkF m 308 #[.val (.long p0), .second, .val (.long p1), .second, .val (.long p2), .second, .val (.long p3), .second, .val (.int p4), .val (.long z1), .second, .val (.long z2), .second, .val (.long z3), .second, .val (.long z4), .second, .val (.int f17), .val (.int f18), .val (.int f19), .val (.int f20), .val (.ref b9), .val (.ref r13), .val (.int (pz z1 f17 z1 f18 z2 f19 z3 f20 z4)), .val (.int (pz z2 f17 z1 f18 z2 f19 z3 f20 z4)), .val (.int (pz z3 f17 z1 f18 z2 f19 z3 f20 z4)), .val (.int (pz z4 f17 z1 f18 z2 f19 z3 f20 z4)), .unset] [(.int (1 : Int32))]))
                    have hs66 : (pre fj 16).length = 1 + 0 + 0 := by
                      rw [if_neg hc254_32] at cq0
                      rw [if_neg hc264_56] at cq1
                      rw [if_pos hc283_65] at cq2
                      have e2 : (if z2 = z1 then 0 else (pre fj 16).count z2) = 0 := by rw [cq1]; rw [if_pos ((lw_eq _ _).mp hc272_64)]
                      have e3 : (if z3 = z1 then 0 else if z3 = z2 then 0 else (pre fj 16).count z3) = 0 := by rw [cq2]; rw [ite_self, ite_self]
                      rw [hlen, cq0, e2, e3]
                    exact J19 _ X18 (1 : Int32) (by rw [hs66]; rfl)
                  · skip
                    refine Go.by (fun _ => XS.ifNo X18.here hx rfl (hb hby at_283) rfl ((if0 _ _).trans (feq hc283_65).1)) ?_
                    show Go p.tables e below _ (T18.setTop (mkF m 286 #[.val (.long p0), .second, .val (.long p1), .second, .val (.long p2), .second, .val (.long p3), .second, .val (.int p4), .val (.long z1), .second, .val (.long z2), .second, .val (.long z3), .second, .val (.long z4), .second, .val (.int f17), .val (.int f18), .val (.int f19), .val (.int f20), .val (.ref b9), .val (.ref r13), .val (.int (pz z1 f17 z1 f18 z2 f19 z3 f20 z4)), .val (.int (pz z2 f17 z1 f18 z2 f19 z3 f20 z4)), .val (.int (pz z3 f17 z1 f18 z2 f19 z3 f20 z4)), .val (.int (pz z4 f17 z1 f18 z2 f19 z3 f20 z4)), .unset] [(.int (1 : Int32))]))
                    refine Go.by (fun _ => XS.lload X18.here hx rfl (hb hby at_286) rfl) ?_
                    show Go p.tables e below _ (T18.setTop (mkF m 288 #[.val (.long p0), .second, .val (.long p1), .second, .val (.long p2), .second, .val (.long p3), .second, .val (.int p4), .val (.long z1), .second, .val (.long z2), .second, .val (.long z3), .second, .val (.long z4), .second, .val (.int f17), .val (.int f18), .val (.int f19), .val (.int f20), .val (.ref b9), .val (.ref r13), .val (.int (pz z1 f17 z1 f18 z2 f19 z3 f20 z4)), .val (.int (pz z2 f17 z1 f18 z2 f19 z3 f20 z4)), .val (.int (pz z3 f17 z1 f18 z2 f19 z3 f20 z4)), .val (.int (pz z4 f17 z1 f18 z2 f19 z3 f20 z4)), .unset] [(.long z3), (.int (1 : Int32))]))
                    refine Go.by (fun _ => XS.lload X18.here hx rfl (hb hby at_288) rfl) ?_
                    show Go p.tables e below _ (T18.setTop (mkF m 290 #[.val (.long p0), .second, .val (.long p1), .second, .val (.long p2), .second, .val (.long p3), .second, .val (.int p4), .val (.long z1), .second, .val (.long z2), .second, .val (.long z3), .second, .val (.long z4), .second, .val (.int f17), .val (.int f18), .val (.int f19), .val (.int f20), .val (.ref b9), .val (.ref r13), .val (.int (pz z1 f17 z1 f18 z2 f19 z3 f20 z4)), .val (.int (pz z2 f17 z1 f18 z2 f19 z3 f20 z4)), .val (.int (pz z3 f17 z1 f18 z2 f19 z3 f20 z4)), .val (.int (pz z4 f17 z1 f18 z2 f19 z3 f20 z4)), .unset] [(.long z1), (.long z3), (.int (1 : Int32))]))
                    refine Go.by (fun _ => XS.lcmp X18.here hx rfl (hb hby at_290) rfl) ?_
                    show Go p.tables e below _ (T18.setTop (mkF m 291 #[.val (.long p0), .second, .val (.long p1), .second, .val (.long p2), .second, .val (.long p3), .second, .val (.int p4), .val (.long z1), .second, .val (.long z2), .second, .val (.long z3), .second, .val (.long z4), .second, .val (.int f17), .val (.int f18), .val (.int f19), .val (.int f20), .val (.ref b9), .val (.ref r13), .val (.int (pz z1 f17 z1 f18 z2 f19 z3 f20 z4)), .val (.int (pz z2 f17 z1 f18 z2 f19 z3 f20 z4)), .val (.int (pz z3 f17 z1 f18 z2 f19 z3 f20 z4)), .val (.int (pz z4 f17 z1 f18 z2 f19 z3 f20 z4)), .unset] [(.int (lcmpW z3 z1)), (.int (1 : Int32))]))
                    by_cases hc291_67 : (lcmpW z3 z1) = (0 : Int32)
                    · skip
                      refine Go.by (fun _ => XS.ifYes X18.here hx rfl (pc0 := 291) (pc' := 306) rfl (hb hby at_291) rfl ((if0 _ _).trans (teq hc291_67).1) (by decide) (by decide)) ?_
                      show Go p.tables e below _ (T18.setTop (mkF m 306 #[.val (.long p0), .second, .val (.long p1), .second, .val (.long p2), .second, .val (.long p3), .second, .val (.int p4), .val (.long z1), .second, .val (.long z2), .second, .val (.long z3), .second, .val (.long z4), .second, .val (.int f17), .val (.int f18), .val (.int f19), .val (.int f20), .val (.ref b9), .val (.ref r13), .val (.int (pz z1 f17 z1 f18 z2 f19 z3 f20 z4)), .val (.int (pz z2 f17 z1 f18 z2 f19 z3 f20 z4)), .val (.int (pz z3 f17 z1 f18 z2 f19 z3 f20 z4)), .val (.int (pz z4 f17 z1 f18 z2 f19 z3 f20 z4)), .unset] [(.int (1 : Int32))]))
                      refine Go.by (fun _ => XS.iconst X18.here hx rfl (hb hby at_306)) ?_
                      show Go p.tables e below _ (T18.setTop (mkF m 307 #[.val (.long p0), .second, .val (.long p1), .second, .val (.long p2), .second, .val (.long p3), .second, .val (.int p4), .val (.long z1), .second, .val (.long z2), .second, .val (.long z3), .second, .val (.long z4), .second, .val (.int f17), .val (.int f18), .val (.int f19), .val (.int f20), .val (.ref b9), .val (.ref r13), .val (.int (pz z1 f17 z1 f18 z2 f19 z3 f20 z4)), .val (.int (pz z2 f17 z1 f18 z2 f19 z3 f20 z4)), .val (.int (pz z3 f17 z1 f18 z2 f19 z3 f20 z4)), .val (.int (pz z4 f17 z1 f18 z2 f19 z3 f20 z4)), .unset] [(.int (0 : Int32)), (.int (1 : Int32))]))
                      refine Go.by (fun _ => XS.iadd X18.here hx rfl (hb hby at_307) rfl) ?_
                      show Go p.tables e below _ (T18.setTop (mkF m 308 #[.val (.long p0), .second, .val (.long p1), .second, .val (.long p2), .second, .val (.long p3), .second, .val (.int p4), .val (.long z1), .second, .val (.long z2), .second, .val (.long z3), .second, .val (.long z4), .second, .val (.int f17), .val (.int f18), .val (.int f19), .val (.int f20), .val (.ref b9), .val (.ref r13), .val (.int (pz z1 f17 z1 f18 z2 f19 z3 f20 z4)), .val (.int (pz z2 f17 z1 f18 z2 f19 z3 f20 z4)), .val (.int (pz z3 f17 z1 f18 z2 f19 z3 f20 z4)), .val (.int (pz z4 f17 z1 f18 z2 f19 z3 f20 z4)), .unset] [(.int (1 : Int32))]))
                      have hs68 : (pre fj 16).length = 1 + 0 + 0 := by
                        rw [if_neg hc254_32] at cq0
                        rw [if_neg hc264_56] at cq1
                        rw [if_neg hc283_65] at cq2
                        have e2 : (if z2 = z1 then 0 else (pre fj 16).count z2) = 0 := by rw [cq1]; rw [if_pos ((lw_eq _ _).mp hc272_64)]
                        have e3 : (if z3 = z1 then 0 else if z3 = z2 then 0 else (pre fj 16).count z3) = 0 := by rw [cq2]; rw [if_pos ((lw_eq _ _).mp hc291_67)]
                        rw [hlen, cq0, e2, e3]
                      exact J19 _ X18 (1 : Int32) (by rw [hs68]; rfl)
                    · skip
                      refine Go.by (fun _ => XS.ifNo X18.here hx rfl (hb hby at_291) rfl ((if0 _ _).trans (feq hc291_67).1)) ?_
                      show Go p.tables e below _ (T18.setTop (mkF m 294 #[.val (.long p0), .second, .val (.long p1), .second, .val (.long p2), .second, .val (.long p3), .second, .val (.int p4), .val (.long z1), .second, .val (.long z2), .second, .val (.long z3), .second, .val (.long z4), .second, .val (.int f17), .val (.int f18), .val (.int f19), .val (.int f20), .val (.ref b9), .val (.ref r13), .val (.int (pz z1 f17 z1 f18 z2 f19 z3 f20 z4)), .val (.int (pz z2 f17 z1 f18 z2 f19 z3 f20 z4)), .val (.int (pz z3 f17 z1 f18 z2 f19 z3 f20 z4)), .val (.int (pz z4 f17 z1 f18 z2 f19 z3 f20 z4)), .unset] [(.int (1 : Int32))]))
                      refine Go.by (fun _ => XS.lload X18.here hx rfl (hb hby at_294) rfl) ?_
                      show Go p.tables e below _ (T18.setTop (mkF m 296 #[.val (.long p0), .second, .val (.long p1), .second, .val (.long p2), .second, .val (.long p3), .second, .val (.int p4), .val (.long z1), .second, .val (.long z2), .second, .val (.long z3), .second, .val (.long z4), .second, .val (.int f17), .val (.int f18), .val (.int f19), .val (.int f20), .val (.ref b9), .val (.ref r13), .val (.int (pz z1 f17 z1 f18 z2 f19 z3 f20 z4)), .val (.int (pz z2 f17 z1 f18 z2 f19 z3 f20 z4)), .val (.int (pz z3 f17 z1 f18 z2 f19 z3 f20 z4)), .val (.int (pz z4 f17 z1 f18 z2 f19 z3 f20 z4)), .unset] [(.long z3), (.int (1 : Int32))]))
                      refine Go.by (fun _ => XS.lload X18.here hx rfl (hb hby at_296) rfl) ?_
                      show Go p.tables e below _ (T18.setTop (mkF m 298 #[.val (.long p0), .second, .val (.long p1), .second, .val (.long p2), .second, .val (.long p3), .second, .val (.int p4), .val (.long z1), .second, .val (.long z2), .second, .val (.long z3), .second, .val (.long z4), .second, .val (.int f17), .val (.int f18), .val (.int f19), .val (.int f20), .val (.ref b9), .val (.ref r13), .val (.int (pz z1 f17 z1 f18 z2 f19 z3 f20 z4)), .val (.int (pz z2 f17 z1 f18 z2 f19 z3 f20 z4)), .val (.int (pz z3 f17 z1 f18 z2 f19 z3 f20 z4)), .val (.int (pz z4 f17 z1 f18 z2 f19 z3 f20 z4)), .unset] [(.long z2), (.long z3), (.int (1 : Int32))]))
                      refine Go.by (fun _ => XS.lcmp X18.here hx rfl (hb hby at_298) rfl) ?_
                      show Go p.tables e below _ (T18.setTop (mkF m 299 #[.val (.long p0), .second, .val (.long p1), .second, .val (.long p2), .second, .val (.long p3), .second, .val (.int p4), .val (.long z1), .second, .val (.long z2), .second, .val (.long z3), .second, .val (.long z4), .second, .val (.int f17), .val (.int f18), .val (.int f19), .val (.int f20), .val (.ref b9), .val (.ref r13), .val (.int (pz z1 f17 z1 f18 z2 f19 z3 f20 z4)), .val (.int (pz z2 f17 z1 f18 z2 f19 z3 f20 z4)), .val (.int (pz z3 f17 z1 f18 z2 f19 z3 f20 z4)), .val (.int (pz z4 f17 z1 f18 z2 f19 z3 f20 z4)), .unset] [(.int (lcmpW z3 z2)), (.int (1 : Int32))]))
                      by_cases hc299_69 : (lcmpW z3 z2) = (0 : Int32)
                      · skip
                        refine Go.by (fun _ => XS.ifYes X18.here hx rfl (pc0 := 299) (pc' := 306) rfl (hb hby at_299) rfl ((if0 _ _).trans (teq hc299_69).1) (by decide) (by decide)) ?_
                        show Go p.tables e below _ (T18.setTop (mkF m 306 #[.val (.long p0), .second, .val (.long p1), .second, .val (.long p2), .second, .val (.long p3), .second, .val (.int p4), .val (.long z1), .second, .val (.long z2), .second, .val (.long z3), .second, .val (.long z4), .second, .val (.int f17), .val (.int f18), .val (.int f19), .val (.int f20), .val (.ref b9), .val (.ref r13), .val (.int (pz z1 f17 z1 f18 z2 f19 z3 f20 z4)), .val (.int (pz z2 f17 z1 f18 z2 f19 z3 f20 z4)), .val (.int (pz z3 f17 z1 f18 z2 f19 z3 f20 z4)), .val (.int (pz z4 f17 z1 f18 z2 f19 z3 f20 z4)), .unset] [(.int (1 : Int32))]))
                        refine Go.by (fun _ => XS.iconst X18.here hx rfl (hb hby at_306)) ?_
                        show Go p.tables e below _ (T18.setTop (mkF m 307 #[.val (.long p0), .second, .val (.long p1), .second, .val (.long p2), .second, .val (.long p3), .second, .val (.int p4), .val (.long z1), .second, .val (.long z2), .second, .val (.long z3), .second, .val (.long z4), .second, .val (.int f17), .val (.int f18), .val (.int f19), .val (.int f20), .val (.ref b9), .val (.ref r13), .val (.int (pz z1 f17 z1 f18 z2 f19 z3 f20 z4)), .val (.int (pz z2 f17 z1 f18 z2 f19 z3 f20 z4)), .val (.int (pz z3 f17 z1 f18 z2 f19 z3 f20 z4)), .val (.int (pz z4 f17 z1 f18 z2 f19 z3 f20 z4)), .unset] [(.int (0 : Int32)), (.int (1 : Int32))]))
                        refine Go.by (fun _ => XS.iadd X18.here hx rfl (hb hby at_307) rfl) ?_
                        show Go p.tables e below _ (T18.setTop (mkF m 308 #[.val (.long p0), .second, .val (.long p1), .second, .val (.long p2), .second, .val (.long p3), .second, .val (.int p4), .val (.long z1), .second, .val (.long z2), .second, .val (.long z3), .second, .val (.long z4), .second, .val (.int f17), .val (.int f18), .val (.int f19), .val (.int f20), .val (.ref b9), .val (.ref r13), .val (.int (pz z1 f17 z1 f18 z2 f19 z3 f20 z4)), .val (.int (pz z2 f17 z1 f18 z2 f19 z3 f20 z4)), .val (.int (pz z3 f17 z1 f18 z2 f19 z3 f20 z4)), .val (.int (pz z4 f17 z1 f18 z2 f19 z3 f20 z4)), .unset] [(.int (1 : Int32))]))
                        have hs70 : (pre fj 16).length = 1 + 0 + 0 := by
                          rw [if_neg hc254_32] at cq0
                          rw [if_neg hc264_56] at cq1
                          rw [if_neg hc283_65] at cq2
                          have e2 : (if z2 = z1 then 0 else (pre fj 16).count z2) = 0 := by rw [cq1]; rw [if_pos ((lw_eq _ _).mp hc272_64)]
                          have e3 : (if z3 = z1 then 0 else if z3 = z2 then 0 else (pre fj 16).count z3) = 0 := by rw [cq2]; rw [if_neg (mt (lw_eq _ _).mpr hc291_67), if_pos ((lw_eq _ _).mp hc299_69)]
                          rw [hlen, cq0, e2, e3]
                        exact J19 _ X18 (1 : Int32) (by rw [hs70]; rfl)
                      · skip
                        refine Go.by (fun _ => XS.ifNo X18.here hx rfl (hb hby at_299) rfl ((if0 _ _).trans (feq hc299_69).1)) ?_
                        show Go p.tables e below _ (T18.setTop (mkF m 302 #[.val (.long p0), .second, .val (.long p1), .second, .val (.long p2), .second, .val (.long p3), .second, .val (.int p4), .val (.long z1), .second, .val (.long z2), .second, .val (.long z3), .second, .val (.long z4), .second, .val (.int f17), .val (.int f18), .val (.int f19), .val (.int f20), .val (.ref b9), .val (.ref r13), .val (.int (pz z1 f17 z1 f18 z2 f19 z3 f20 z4)), .val (.int (pz z2 f17 z1 f18 z2 f19 z3 f20 z4)), .val (.int (pz z3 f17 z1 f18 z2 f19 z3 f20 z4)), .val (.int (pz z4 f17 z1 f18 z2 f19 z3 f20 z4)), .unset] [(.int (1 : Int32))]))
                        refine Go.by (fun _ => XS.iconst X18.here hx rfl (hb hby at_302)) ?_
                        show Go p.tables e below _ (T18.setTop (mkF m 303 #[.val (.long p0), .second, .val (.long p1), .second, .val (.long p2), .second, .val (.long p3), .second, .val (.int p4), .val (.long z1), .second, .val (.long z2), .second, .val (.long z3), .second, .val (.long z4), .second, .val (.int f17), .val (.int f18), .val (.int f19), .val (.int f20), .val (.ref b9), .val (.ref r13), .val (.int (pz z1 f17 z1 f18 z2 f19 z3 f20 z4)), .val (.int (pz z2 f17 z1 f18 z2 f19 z3 f20 z4)), .val (.int (pz z3 f17 z1 f18 z2 f19 z3 f20 z4)), .val (.int (pz z4 f17 z1 f18 z2 f19 z3 f20 z4)), .unset] [(.int (1 : Int32)), (.int (1 : Int32))]))
                        refine Go.by (fun _ => XS.goto X18.here hx rfl (pc0 := 303) (pc' := 307) rfl (hb hby at_303) (by decide) (by decide)) ?_
                        show Go p.tables e below _ (T18.setTop (mkF m 307 #[.val (.long p0), .second, .val (.long p1), .second, .val (.long p2), .second, .val (.long p3), .second, .val (.int p4), .val (.long z1), .second, .val (.long z2), .second, .val (.long z3), .second, .val (.long z4), .second, .val (.int f17), .val (.int f18), .val (.int f19), .val (.int f20), .val (.ref b9), .val (.ref r13), .val (.int (pz z1 f17 z1 f18 z2 f19 z3 f20 z4)), .val (.int (pz z2 f17 z1 f18 z2 f19 z3 f20 z4)), .val (.int (pz z3 f17 z1 f18 z2 f19 z3 f20 z4)), .val (.int (pz z4 f17 z1 f18 z2 f19 z3 f20 z4)), .unset] [(.int (1 : Int32)), (.int (1 : Int32))]))
                        refine Go.by (fun _ => XS.iadd X18.here hx rfl (hb hby at_307) rfl) ?_
                        show Go p.tables e below _ (T18.setTop (mkF m 308 #[.val (.long p0), .second, .val (.long p1), .second, .val (.long p2), .second, .val (.long p3), .second, .val (.int p4), .val (.long z1), .second, .val (.long z2), .second, .val (.long z3), .second, .val (.long z4), .second, .val (.int f17), .val (.int f18), .val (.int f19), .val (.int f20), .val (.ref b9), .val (.ref r13), .val (.int (pz z1 f17 z1 f18 z2 f19 z3 f20 z4)), .val (.int (pz z2 f17 z1 f18 z2 f19 z3 f20 z4)), .val (.int (pz z3 f17 z1 f18 z2 f19 z3 f20 z4)), .val (.int (pz z4 f17 z1 f18 z2 f19 z3 f20 z4)), .unset] [(.int (2 : Int32))]))
                        have hs71 : (pre fj 16).length = 1 + 0 + 1 := by
                          rw [if_neg hc254_32] at cq0
                          rw [if_neg hc264_56] at cq1
                          rw [if_neg hc283_65] at cq2
                          have e2 : (if z2 = z1 then 0 else (pre fj 16).count z2) = 0 := by rw [cq1]; rw [if_pos ((lw_eq _ _).mp hc272_64)]
                          have e3 : (if z3 = z1 then 0 else if z3 = z2 then 0 else (pre fj 16).count z3) = 1 := by rw [cq2]; rw [if_neg (mt (lw_eq _ _).mpr hc291_67), if_neg (mt (lw_eq _ _).mpr hc299_69)]
                          rw [hlen, cq0, e2, e3]
                        exact J19 _ X18 (2 : Int32) (by rw [hs71]; rfl)
                · skip
                  refine Go.by (fun _ => XS.ifNo X18.here hx rfl (hb hby at_272) rfl ((if0 _ _).trans (feq hc272_64).1)) ?_
                  show Go p.tables e below _ (T18.setTop (mkF m 275 #[.val (.long p0), .second, .val (.long p1), .second, .val (.long p2), .second, .val (.long p3), .second, .val (.int p4), .val (.long z1), .second, .val (.long z2), .second, .val (.long z3), .second, .val (.long z4), .second, .val (.int f17), .val (.int f18), .val (.int f19), .val (.int f20), .val (.ref b9), .val (.ref r13), .val (.int (pz z1 f17 z1 f18 z2 f19 z3 f20 z4)), .val (.int (pz z2 f17 z1 f18 z2 f19 z3 f20 z4)), .val (.int (pz z3 f17 z1 f18 z2 f19 z3 f20 z4)), .val (.int (pz z4 f17 z1 f18 z2 f19 z3 f20 z4)), .unset] [(.int (1 : Int32))]))
                  refine Go.by (fun _ => XS.iconst X18.here hx rfl (hb hby at_275)) ?_
                  show Go p.tables e below _ (T18.setTop (mkF m 276 #[.val (.long p0), .second, .val (.long p1), .second, .val (.long p2), .second, .val (.long p3), .second, .val (.int p4), .val (.long z1), .second, .val (.long z2), .second, .val (.long z3), .second, .val (.long z4), .second, .val (.int f17), .val (.int f18), .val (.int f19), .val (.int f20), .val (.ref b9), .val (.ref r13), .val (.int (pz z1 f17 z1 f18 z2 f19 z3 f20 z4)), .val (.int (pz z2 f17 z1 f18 z2 f19 z3 f20 z4)), .val (.int (pz z3 f17 z1 f18 z2 f19 z3 f20 z4)), .val (.int (pz z4 f17 z1 f18 z2 f19 z3 f20 z4)), .unset] [(.int (1 : Int32)), (.int (1 : Int32))]))
                  refine Go.by (fun _ => XS.goto X18.here hx rfl (pc0 := 276) (pc' := 280) rfl (hb hby at_276) (by decide) (by decide)) ?_
                  show Go p.tables e below _ (T18.setTop (mkF m 280 #[.val (.long p0), .second, .val (.long p1), .second, .val (.long p2), .second, .val (.long p3), .second, .val (.int p4), .val (.long z1), .second, .val (.long z2), .second, .val (.long z3), .second, .val (.long z4), .second, .val (.int f17), .val (.int f18), .val (.int f19), .val (.int f20), .val (.ref b9), .val (.ref r13), .val (.int (pz z1 f17 z1 f18 z2 f19 z3 f20 z4)), .val (.int (pz z2 f17 z1 f18 z2 f19 z3 f20 z4)), .val (.int (pz z3 f17 z1 f18 z2 f19 z3 f20 z4)), .val (.int (pz z4 f17 z1 f18 z2 f19 z3 f20 z4)), .unset] [(.int (1 : Int32)), (.int (1 : Int32))]))
                  refine Go.by (fun _ => XS.iadd X18.here hx rfl (hb hby at_280) rfl) ?_
                  show Go p.tables e below _ (T18.setTop (mkF m 281 #[.val (.long p0), .second, .val (.long p1), .second, .val (.long p2), .second, .val (.long p3), .second, .val (.int p4), .val (.long z1), .second, .val (.long z2), .second, .val (.long z3), .second, .val (.long z4), .second, .val (.int f17), .val (.int f18), .val (.int f19), .val (.int f20), .val (.ref b9), .val (.ref r13), .val (.int (pz z1 f17 z1 f18 z2 f19 z3 f20 z4)), .val (.int (pz z2 f17 z1 f18 z2 f19 z3 f20 z4)), .val (.int (pz z3 f17 z1 f18 z2 f19 z3 f20 z4)), .val (.int (pz z4 f17 z1 f18 z2 f19 z3 f20 z4)), .unset] [(.int (2 : Int32))]))
                  refine Go.by (fun _ => XS.iload X18.here hx rfl (hb hby at_281) rfl) ?_
                  show Go p.tables e below _ (T18.setTop (mkF m 283 #[.val (.long p0), .second, .val (.long p1), .second, .val (.long p2), .second, .val (.long p3), .second, .val (.int p4), .val (.long z1), .second, .val (.long z2), .second, .val (.long z3), .second, .val (.long z4), .second, .val (.int f17), .val (.int f18), .val (.int f19), .val (.int f20), .val (.ref b9), .val (.ref r13), .val (.int (pz z1 f17 z1 f18 z2 f19 z3 f20 z4)), .val (.int (pz z2 f17 z1 f18 z2 f19 z3 f20 z4)), .val (.int (pz z3 f17 z1 f18 z2 f19 z3 f20 z4)), .val (.int (pz z4 f17 z1 f18 z2 f19 z3 f20 z4)), .unset] [(.int (pz z3 f17 z1 f18 z2 f19 z3 f20 z4)), (.int (2 : Int32))]))
                  by_cases hc283_72 : (pz z3 f17 z1 f18 z2 f19 z3 f20 z4) = (0 : Int32)
                  · skip
                    refine Go.by (fun _ => XS.ifYes X18.here hx rfl (pc0 := 283) (pc' := 306) rfl (hb hby at_283) rfl ((if0 _ _).trans (teq hc283_72).1) (by decide) (by decide)) ?_
                    show Go p.tables e below _ (T18.setTop (mkF m 306 #[.val (.long p0), .second, .val (.long p1), .second, .val (.long p2), .second, .val (.long p3), .second, .val (.int p4), .val (.long z1), .second, .val (.long z2), .second, .val (.long z3), .second, .val (.long z4), .second, .val (.int f17), .val (.int f18), .val (.int f19), .val (.int f20), .val (.ref b9), .val (.ref r13), .val (.int (pz z1 f17 z1 f18 z2 f19 z3 f20 z4)), .val (.int (pz z2 f17 z1 f18 z2 f19 z3 f20 z4)), .val (.int (pz z3 f17 z1 f18 z2 f19 z3 f20 z4)), .val (.int (pz z4 f17 z1 f18 z2 f19 z3 f20 z4)), .unset] [(.int (2 : Int32))]))
                    refine Go.by (fun _ => XS.iconst X18.here hx rfl (hb hby at_306)) ?_
                    show Go p.tables e below _ (T18.setTop (mkF m 307 #[.val (.long p0), .second, .val (.long p1), .second, .val (.long p2), .second, .val (.long p3), .second, .val (.int p4), .val (.long z1), .second, .val (.long z2), .second, .val (.long z3), .second, .val (.long z4), .second, .val (.int f17), .val (.int f18), .val (.int f19), .val (.int f20), .val (.ref b9), .val (.ref r13), .val (.int (pz z1 f17 z1 f18 z2 f19 z3 f20 z4)), .val (.int (pz z2 f17 z1 f18 z2 f19 z3 f20 z4)), .val (.int (pz z3 f17 z1 f18 z2 f19 z3 f20 z4)), .val (.int (pz z4 f17 z1 f18 z2 f19 z3 f20 z4)), .unset] [(.int (0 : Int32)), (.int (2 : Int32))]))
                    refine Go.by (fun _ => XS.iadd X18.here hx rfl (hb hby at_307) rfl) ?_
                    show Go p.tables e below _ (T18.setTop (mkF m 308 #[.val (.long p0), .second, .val (.long p1), .second, .val (.long p2), .second, .val (.long p3), .second, .val (.int p4), .val (.long z1), .second, .val (.long z2), .second, .val (.long z3), .second, .val (.long z4), .second, .val (.int f17), .val (.int f18), .val (.int f19), .val (.int f20), .val (.ref b9), .val (.ref r13), .val (.int (pz z1 f17 z1 f18 z2 f19 z3 f20 z4)), .val (.int (pz z2 f17 z1 f18 z2 f19 z3 f20 z4)), .val (.int (pz z3 f17 z1 f18 z2 f19 z3 f20 z4)), .val (.int (pz z4 f17 z1 f18 z2 f19 z3 f20 z4)), .unset] [(.int (2 : Int32))]))
                    have hs73 : (pre fj 16).length = 1 + 1 + 0 := by
                      rw [if_neg hc254_32] at cq0
                      rw [if_neg hc264_56] at cq1
                      rw [if_pos hc283_72] at cq2
                      have e2 : (if z2 = z1 then 0 else (pre fj 16).count z2) = 1 := by rw [cq1]; rw [if_neg (mt (lw_eq _ _).mpr hc272_64)]
                      have e3 : (if z3 = z1 then 0 else if z3 = z2 then 0 else (pre fj 16).count z3) = 0 := by rw [cq2]; rw [ite_self, ite_self]
                      rw [hlen, cq0, e2, e3]
                    exact J19 _ X18 (2 : Int32) (by rw [hs73]; rfl)
                  · skip
                    refine Go.by (fun _ => XS.ifNo X18.here hx rfl (hb hby at_283) rfl ((if0 _ _).trans (feq hc283_72).1)) ?_
                    show Go p.tables e below _ (T18.setTop (mkF m 286 #[.val (.long p0), .second, .val (.long p1), .second, .val (.long p2), .second, .val (.long p3), .second, .val (.int p4), .val (.long z1), .second, .val (.long z2), .second, .val (.long z3), .second, .val (.long z4), .second, .val (.int f17), .val (.int f18), .val (.int f19), .val (.int f20), .val (.ref b9), .val (.ref r13), .val (.int (pz z1 f17 z1 f18 z2 f19 z3 f20 z4)), .val (.int (pz z2 f17 z1 f18 z2 f19 z3 f20 z4)), .val (.int (pz z3 f17 z1 f18 z2 f19 z3 f20 z4)), .val (.int (pz z4 f17 z1 f18 z2 f19 z3 f20 z4)), .unset] [(.int (2 : Int32))]))
                    refine Go.by (fun _ => XS.lload X18.here hx rfl (hb hby at_286) rfl) ?_
                    show Go p.tables e below _ (T18.setTop (mkF m 288 #[.val (.long p0), .second, .val (.long p1), .second, .val (.long p2), .second, .val (.long p3), .second, .val (.int p4), .val (.long z1), .second, .val (.long z2), .second, .val (.long z3), .second, .val (.long z4), .second, .val (.int f17), .val (.int f18), .val (.int f19), .val (.int f20), .val (.ref b9), .val (.ref r13), .val (.int (pz z1 f17 z1 f18 z2 f19 z3 f20 z4)), .val (.int (pz z2 f17 z1 f18 z2 f19 z3 f20 z4)), .val (.int (pz z3 f17 z1 f18 z2 f19 z3 f20 z4)), .val (.int (pz z4 f17 z1 f18 z2 f19 z3 f20 z4)), .unset] [(.long z3), (.int (2 : Int32))]))
                    refine Go.by (fun _ => XS.lload X18.here hx rfl (hb hby at_288) rfl) ?_
                    show Go p.tables e below _ (T18.setTop (mkF m 290 #[.val (.long p0), .second, .val (.long p1), .second, .val (.long p2), .second, .val (.long p3), .second, .val (.int p4), .val (.long z1), .second, .val (.long z2), .second, .val (.long z3), .second, .val (.long z4), .second, .val (.int f17), .val (.int f18), .val (.int f19), .val (.int f20), .val (.ref b9), .val (.ref r13), .val (.int (pz z1 f17 z1 f18 z2 f19 z3 f20 z4)), .val (.int (pz z2 f17 z1 f18 z2 f19 z3 f20 z4)), .val (.int (pz z3 f17 z1 f18 z2 f19 z3 f20 z4)), .val (.int (pz z4 f17 z1 f18 z2 f19 z3 f20 z4)), .unset] [(.long z1), (.long z3), (.int (2 : Int32))]))
                    refine Go.by (fun _ => XS.lcmp X18.here hx rfl (hb hby at_290) rfl) ?_
                    show Go p.tables e below _ (T18.setTop (mkF m 291 #[.val (.long p0), .second, .val (.long p1), .second, .val (.long p2), .second, .val (.long p3), .second, .val (.int p4), .val (.long z1), .second, .val (.long z2), .second, .val (.long z3), .second, .val (.long z4), .second, .val (.int f17), .val (.int f18), .val (.int f19), .val (.int f20), .val (.ref b9), .val (.ref r13), .val (.int (pz z1 f17 z1 f18 z2 f19 z3 f20 z4)), .val (.int (pz z2 f17 z1 f18 z2 f19 z3 f20 z4)), .val (.int (pz z3 f17 z1 f18 z2 f19 z3 f20 z4)), .val (.int (pz z4 f17 z1 f18 z2 f19 z3 f20 z4)), .unset] [(.int (lcmpW z3 z1)), (.int (2 : Int32))]))
                    by_cases hc291_74 : (lcmpW z3 z1) = (0 : Int32)
                    · skip
                      refine Go.by (fun _ => XS.ifYes X18.here hx rfl (pc0 := 291) (pc' := 306) rfl (hb hby at_291) rfl ((if0 _ _).trans (teq hc291_74).1) (by decide) (by decide)) ?_
                      show Go p.tables e below _ (T18.setTop (mkF m 306 #[.val (.long p0), .second, .val (.long p1), .second, .val (.long p2), .second, .val (.long p3), .second, .val (.int p4), .val (.long z1), .second, .val (.long z2), .second, .val (.long z3), .second, .val (.long z4), .second, .val (.int f17), .val (.int f18), .val (.int f19), .val (.int f20), .val (.ref b9), .val (.ref r13), .val (.int (pz z1 f17 z1 f18 z2 f19 z3 f20 z4)), .val (.int (pz z2 f17 z1 f18 z2 f19 z3 f20 z4)), .val (.int (pz z3 f17 z1 f18 z2 f19 z3 f20 z4)), .val (.int (pz z4 f17 z1 f18 z2 f19 z3 f20 z4)), .unset] [(.int (2 : Int32))]))
                      refine Go.by (fun _ => XS.iconst X18.here hx rfl (hb hby at_306)) ?_
                      show Go p.tables e below _ (T18.setTop (mkF m 307 #[.val (.long p0), .second, .val (.long p1), .second, .val (.long p2), .second, .val (.long p3), .second, .val (.int p4), .val (.long z1), .second, .val (.long z2), .second, .val (.long z3), .second, .val (.long z4), .second, .val (.int f17), .val (.int f18), .val (.int f19), .val (.int f20), .val (.ref b9), .val (.ref r13), .val (.int (pz z1 f17 z1 f18 z2 f19 z3 f20 z4)), .val (.int (pz z2 f17 z1 f18 z2 f19 z3 f20 z4)), .val (.int (pz z3 f17 z1 f18 z2 f19 z3 f20 z4)), .val (.int (pz z4 f17 z1 f18 z2 f19 z3 f20 z4)), .unset] [(.int (0 : Int32)), (.int (2 : Int32))]))
                      refine Go.by (fun _ => XS.iadd X18.here hx rfl (hb hby at_307) rfl) ?_
                      show Go p.tables e below _ (T18.setTop (mkF m 308 #[.val (.long p0), .second, .val (.long p1), .second, .val (.long p2), .second, .val (.long p3), .second, .val (.int p4), .val (.long z1), .second, .val (.long z2), .second, .val (.long z3), .second, .val (.long z4), .second, .val (.int f17), .val (.int f18), .val (.int f19), .val (.int f20), .val (.ref b9), .val (.ref r13), .val (.int (pz z1 f17 z1 f18 z2 f19 z3 f20 z4)), .val (.int (pz z2 f17 z1 f18 z2 f19 z3 f20 z4)), .val (.int (pz z3 f17 z1 f18 z2 f19 z3 f20 z4)), .val (.int (pz z4 f17 z1 f18 z2 f19 z3 f20 z4)), .unset] [(.int (2 : Int32))]))
                      have hs75 : (pre fj 16).length = 1 + 1 + 0 := by
                        rw [if_neg hc254_32] at cq0
                        rw [if_neg hc264_56] at cq1
                        rw [if_neg hc283_72] at cq2
                        have e2 : (if z2 = z1 then 0 else (pre fj 16).count z2) = 1 := by rw [cq1]; rw [if_neg (mt (lw_eq _ _).mpr hc272_64)]
                        have e3 : (if z3 = z1 then 0 else if z3 = z2 then 0 else (pre fj 16).count z3) = 0 := by rw [cq2]; rw [if_pos ((lw_eq _ _).mp hc291_74)]
                        rw [hlen, cq0, e2, e3]
                      exact J19 _ X18 (2 : Int32) (by rw [hs75]; rfl)
                    · skip
                      refine Go.by (fun _ => XS.ifNo X18.here hx rfl (hb hby at_291) rfl ((if0 _ _).trans (feq hc291_74).1)) ?_
                      show Go p.tables e below _ (T18.setTop (mkF m 294 #[.val (.long p0), .second, .val (.long p1), .second, .val (.long p2), .second, .val (.long p3), .second, .val (.int p4), .val (.long z1), .second, .val (.long z2), .second, .val (.long z3), .second, .val (.long z4), .second, .val (.int f17), .val (.int f18), .val (.int f19), .val (.int f20), .val (.ref b9), .val (.ref r13), .val (.int (pz z1 f17 z1 f18 z2 f19 z3 f20 z4)), .val (.int (pz z2 f17 z1 f18 z2 f19 z3 f20 z4)), .val (.int (pz z3 f17 z1 f18 z2 f19 z3 f20 z4)), .val (.int (pz z4 f17 z1 f18 z2 f19 z3 f20 z4)), .unset] [(.int (2 : Int32))]))
                      refine Go.by (fun _ => XS.lload X18.here hx rfl (hb hby at_294) rfl) ?_
                      show Go p.tables e below _ (T18.setTop (mkF m 296 #[.val (.long p0), .second, .val (.long p1), .second, .val (.long p2), .second, .val (.long p3), .second, .val (.int p4), .val (.long z1), .second, .val (.long z2), .second, .val (.long z3), .second, .val (.long z4), .second, .val (.int f17), .val (.int f18), .val (.int f19), .val (.int f20), .val (.ref b9), .val (.ref r13), .val (.int (pz z1 f17 z1 f18 z2 f19 z3 f20 z4)), .val (.int (pz z2 f17 z1 f18 z2 f19 z3 f20 z4)), .val (.int (pz z3 f17 z1 f18 z2 f19 z3 f20 z4)), .val (.int (pz z4 f17 z1 f18 z2 f19 z3 f20 z4)), .unset] [(.long z3), (.int (2 : Int32))]))
                      refine Go.by (fun _ => XS.lload X18.here hx rfl (hb hby at_296) rfl) ?_
                      show Go p.tables e below _ (T18.setTop (mkF m 298 #[.val (.long p0), .second, .val (.long p1), .second, .val (.long p2), .second, .val (.long p3), .second, .val (.int p4), .val (.long z1), .second, .val (.long z2), .second, .val (.long z3), .second, .val (.long z4), .second, .val (.int f17), .val (.int f18), .val (.int f19), .val (.int f20), .val (.ref b9), .val (.ref r13), .val (.int (pz z1 f17 z1 f18 z2 f19 z3 f20 z4)), .val (.int (pz z2 f17 z1 f18 z2 f19 z3 f20 z4)), .val (.int (pz z3 f17 z1 f18 z2 f19 z3 f20 z4)), .val (.int (pz z4 f17 z1 f18 z2 f19 z3 f20 z4)), .unset] [(.long z2), (.long z3), (.int (2 : Int32))]))
                      refine Go.by (fun _ => XS.lcmp X18.here hx rfl (hb hby at_298) rfl) ?_
                      show Go p.tables e below _ (T18.setTop (mkF m 299 #[.val (.long p0), .second, .val (.long p1), .second, .val (.long p2), .second, .val (.long p3), .second, .val (.int p4), .val (.long z1), .second, .val (.long z2), .second, .val (.long z3), .second, .val (.long z4), .second, .val (.int f17), .val (.int f18), .val (.int f19), .val (.int f20), .val (.ref b9), .val (.ref r13), .val (.int (pz z1 f17 z1 f18 z2 f19 z3 f20 z4)), .val (.int (pz z2 f17 z1 f18 z2 f19 z3 f20 z4)), .val (.int (pz z3 f17 z1 f18 z2 f19 z3 f20 z4)), .val (.int (pz z4 f17 z1 f18 z2 f19 z3 f20 z4)), .unset] [(.int (lcmpW z3 z2)), (.int (2 : Int32))]))
                      by_cases hc299_76 : (lcmpW z3 z2) = (0 : Int32)
                      · skip
                        refine Go.by (fun _ => XS.ifYes X18.here hx rfl (pc0 := 299) (pc' := 306) rfl (hb hby at_299) rfl ((if0 _ _).trans (teq hc299_76).1) (by decide) (by decide)) ?_
                        show Go p.tables e below _ (T18.setTop (mkF m 306 #[.val (.long p0), .second, .val (.long p1), .second, .val (.long p2), .second, .val (.long p3), .second, .val (.int p4), .val (.long z1), .second, .val (.long z2), .second, .val (.long z3), .second, .val (.long z4), .second, .val (.int f17), .val (.int f18), .val (.int f19), .val (.int f20), .val (.ref b9), .val (.ref r13), .val (.int (pz z1 f17 z1 f18 z2 f19 z3 f20 z4)), .val (.int (pz z2 f17 z1 f18 z2 f19 z3 f20 z4)), .val (.int (pz z3 f17 z1 f18 z2 f19 z3 f20 z4)), .val (.int (pz z4 f17 z1 f18 z2 f19 z3 f20 z4)), .unset] [(.int (2 : Int32))]))
                        refine Go.by (fun _ => XS.iconst X18.here hx rfl (hb hby at_306)) ?_
                        show Go p.tables e below _ (T18.setTop (mkF m 307 #[.val (.long p0), .second, .val (.long p1), .second, .val (.long p2), .second, .val (.long p3), .second, .val (.int p4), .val (.long z1), .second, .val (.long z2), .second, .val (.long z3), .second, .val (.long z4), .second, .val (.int f17), .val (.int f18), .val (.int f19), .val (.int f20), .val (.ref b9), .val (.ref r13), .val (.int (pz z1 f17 z1 f18 z2 f19 z3 f20 z4)), .val (.int (pz z2 f17 z1 f18 z2 f19 z3 f20 z4)), .val (.int (pz z3 f17 z1 f18 z2 f19 z3 f20 z4)), .val (.int (pz z4 f17 z1 f18 z2 f19 z3 f20 z4)), .unset] [(.int (0 : Int32)), (.int (2 : Int32))]))
                        refine Go.by (fun _ => XS.iadd X18.here hx rfl (hb hby at_307) rfl) ?_
                        show Go p.tables e below _ (T18.setTop (mkF m 308 #[.val (.long p0), .second, .val (.long p1), .second, .val (.long p2), .second, .val (.long p3), .second, .val (.int p4), .val (.long z1), .second, .val (.long z2), .second, .val (.long z3), .second, .val (.long z4), .second, .val (.int f17), .val (.int f18), .val (.int f19), .val (.int f20), .val (.ref b9), .val (.ref r13), .val (.int (pz z1 f17 z1 f18 z2 f19 z3 f20 z4)), .val (.int (pz z2 f17 z1 f18 z2 f19 z3 f20 z4)), .val (.int (pz z3 f17 z1 f18 z2 f19 z3 f20 z4)), .val (.int (pz z4 f17 z1 f18 z2 f19 z3 f20 z4)), .unset] [(.int (2 : Int32))]))
                        have hs77 : (pre fj 16).length = 1 + 1 + 0 := by
                          rw [if_neg hc254_32] at cq0
                          rw [if_neg hc264_56] at cq1
                          rw [if_neg hc283_72] at cq2
                          have e2 : (if z2 = z1 then 0 else (pre fj 16).count z2) = 1 := by rw [cq1]; rw [if_neg (mt (lw_eq _ _).mpr hc272_64)]
                          have e3 : (if z3 = z1 then 0 else if z3 = z2 then 0 else (pre fj 16).count z3) = 0 := by rw [cq2]; rw [if_neg (mt (lw_eq _ _).mpr hc291_74), if_pos ((lw_eq _ _).mp hc299_76)]
                          rw [hlen, cq0, e2, e3]
                        exact J19 _ X18 (2 : Int32) (by rw [hs77]; rfl)
                      · skip
                        refine Go.by (fun _ => XS.ifNo X18.here hx rfl (hb hby at_299) rfl ((if0 _ _).trans (feq hc299_76).1)) ?_
                        show Go p.tables e below _ (T18.setTop (mkF m 302 #[.val (.long p0), .second, .val (.long p1), .second, .val (.long p2), .second, .val (.long p3), .second, .val (.int p4), .val (.long z1), .second, .val (.long z2), .second, .val (.long z3), .second, .val (.long z4), .second, .val (.int f17), .val (.int f18), .val (.int f19), .val (.int f20), .val (.ref b9), .val (.ref r13), .val (.int (pz z1 f17 z1 f18 z2 f19 z3 f20 z4)), .val (.int (pz z2 f17 z1 f18 z2 f19 z3 f20 z4)), .val (.int (pz z3 f17 z1 f18 z2 f19 z3 f20 z4)), .val (.int (pz z4 f17 z1 f18 z2 f19 z3 f20 z4)), .unset] [(.int (2 : Int32))]))
                        refine Go.by (fun _ => XS.iconst X18.here hx rfl (hb hby at_302)) ?_
                        show Go p.tables e below _ (T18.setTop (mkF m 303 #[.val (.long p0), .second, .val (.long p1), .second, .val (.long p2), .second, .val (.long p3), .second, .val (.int p4), .val (.long z1), .second, .val (.long z2), .second, .val (.long z3), .second, .val (.long z4), .second, .val (.int f17), .val (.int f18), .val (.int f19), .val (.int f20), .val (.ref b9), .val (.ref r13), .val (.int (pz z1 f17 z1 f18 z2 f19 z3 f20 z4)), .val (.int (pz z2 f17 z1 f18 z2 f19 z3 f20 z4)), .val (.int (pz z3 f17 z1 f18 z2 f19 z3 f20 z4)), .val (.int (pz z4 f17 z1 f18 z2 f19 z3 f20 z4)), .unset] [(.int (1 : Int32)), (.int (2 : Int32))]))
                        refine Go.by (fun _ => XS.goto X18.here hx rfl (pc0 := 303) (pc' := 307) rfl (hb hby at_303) (by decide) (by decide)) ?_
                        show Go p.tables e below _ (T18.setTop (mkF m 307 #[.val (.long p0), .second, .val (.long p1), .second, .val (.long p2), .second, .val (.long p3), .second, .val (.int p4), .val (.long z1), .second, .val (.long z2), .second, .val (.long z3), .second, .val (.long z4), .second, .val (.int f17), .val (.int f18), .val (.int f19), .val (.int f20), .val (.ref b9), .val (.ref r13), .val (.int (pz z1 f17 z1 f18 z2 f19 z3 f20 z4)), .val (.int (pz z2 f17 z1 f18 z2 f19 z3 f20 z4)), .val (.int (pz z3 f17 z1 f18 z2 f19 z3 f20 z4)), .val (.int (pz z4 f17 z1 f18 z2 f19 z3 f20 z4)), .unset] [(.int (1 : Int32)), (.int (2 : Int32))]))
                        refine Go.by (fun _ => XS.iadd X18.here hx rfl (hb hby at_307) rfl) ?_
                        show Go p.tables e below _ (T18.setTop (mkF m 308 #[.val (.long p0), .second, .val (.long p1), .second, .val (.long p2), .second, .val (.long p3), .second, .val (.int p4), .val (.long z1), .second, .val (.long z2), .second, .val (.long z3), .second, .val (.long z4), .second, .val (.int f17), .val (.int f18), .val (.int f19), .val (.int f20), .val (.ref b9), .val (.ref r13), .val (.int (pz z1 f17 z1 f18 z2 f19 z3 f20 z4)), .val (.int (pz z2 f17 z1 f18 z2 f19 z3 f20 z4)), .val (.int (pz z3 f17 z1 f18 z2 f19 z3 f20 z4)), .val (.int (pz z4 f17 z1 f18 z2 f19 z3 f20 z4)), .unset] [(.int (3 : Int32))]))
                        have hs78 : (pre fj 16).length = 1 + 1 + 1 := by
                          rw [if_neg hc254_32] at cq0
                          rw [if_neg hc264_56] at cq1
                          rw [if_neg hc283_72] at cq2
                          have e2 : (if z2 = z1 then 0 else (pre fj 16).count z2) = 1 := by rw [cq1]; rw [if_neg (mt (lw_eq _ _).mpr hc272_64)]
                          have e3 : (if z3 = z1 then 0 else if z3 = z2 then 0 else (pre fj 16).count z3) = 1 := by rw [cq2]; rw [if_neg (mt (lw_eq _ _).mpr hc291_74), if_neg (mt (lw_eq _ _).mpr hc299_76)]
                          rw [hlen, cq0, e2, e3]
                        exact J19 _ X18 (3 : Int32) (by rw [hs78]; rfl)
          have J140 : ∀ (fj : Nat → Int64) (sz : Nat) (Tj : State) (hj : Heap), Sd n0 p l e room_1 s m #[(.long p0), (.long p1), (.long p2), (.long p3), (.int p4)] below meth c Tj hj 2 35 → n0 ≤ hj.size → Exa Z hj b9 "com/example/shrike/shrike/store/LongMap" → Fld Z hj b9 "com/example/shrike/shrike/store/LongMap" "slots" "[J" (.ref d11) → Fld Z hj b9 "com/example/shrike/shrike/store/LongMap" "mixed" "Z" (.int (0 : Int32)) → Avf Z hj d11 kd11 .long 32 (fun jj => (.long (fj jj))) → Fld Z hj b9 "com/example/shrike/shrike/store/LongMap" "size" "I" (.int (Int32.ofNat sz)) → sz = (pre fj 16).length → sz ≤ 3 → (∀ x, x ≠ 0 → (pre fj 16).count x = (addk f19 z3 (addk f18 z2 (addk f17 z1 (fun _ => 0)))) x) → Lf fj → Go p.tables e below (Ret s n0 (fun v h => v = some (.int 1)) room_1.cells room_1.slots) (Tj.setTop (mkF m 140 #[.val (.long p0), .second, .val (.long p1), .second, .val (.long p2), .second, .val (.long p3), .second, .val (.int p4), .val (.long z1), .second, .val (.long z2), .second, .val (.long z3), .second, .val (.long z4), .second, .val (.int f17), .val (.int f18), .val (.int f19), .val (.int f20), .val (.ref b9), .unset, .unset, .unset, .unset, .unset, .unset] [])) := by
            intro fj sz Tj hj Xj Zj Ej Fsj Fmj Vj Fzj hszj hsle hcj hLj
            refine Go.by (fun _ => XS.iload Xj.here hx rfl (hb hby at_140) rfl) ?_
            show Go p.tables e below _ (Tj.setTop (mkF m 142 #[.val (.long p0), .second, .val (.long p1), .second, .val (.long p2), .second, .val (.long p3), .second, .val (.int p4), .val (.long z1), .second, .val (.long z2), .second, .val (.long z3), .second, .val (.long z4), .second, .val (.int f17), .val (.int f18), .val (.int f19), .val (.int f20), .val (.ref b9), .unset, .unset, .unset, .unset, .unset, .unset] [(.int f20)]))
            by_cases hc142_79 : f20 = (0 : Int32)
            · skip
              refine Go.by (fun _ => XS.ifYes Xj.here hx rfl (pc0 := 142) (pc' := 153) rfl (hb hby at_142) rfl ((if0 _ _).trans (teq hc142_79).1) (by decide) (by decide)) ?_
              show Go p.tables e below _ (Tj.setTop (mkF m 153 #[.val (.long p0), .second, .val (.long p1), .second, .val (.long p2), .second, .val (.long p3), .second, .val (.int p4), .val (.long z1), .second, .val (.long z2), .second, .val (.long z3), .second, .val (.long z4), .second, .val (.int f17), .val (.int f18), .val (.int f19), .val (.int f20), .val (.ref b9), .unset, .unset, .unset, .unset, .unset, .unset] []))
              exact J153 fj sz _ _ Xj Zj Ej Fsj Fmj Vj Fzj hszj (by omega) (fun x hx => by rw [hcj x hx]; exact (if_neg (fun z => z.1 hc142_79)).symm)
            · skip
              refine Go.by (fun _ => XS.ifNo Xj.here hx rfl (hb hby at_142) rfl ((if0 _ _).trans (feq hc142_79).1)) ?_
              show Go p.tables e below _ (Tj.setTop (mkF m 145 #[.val (.long p0), .second, .val (.long p1), .second, .val (.long p2), .second, .val (.long p3), .second, .val (.int p4), .val (.long z1), .second, .val (.long z2), .second, .val (.long z3), .second, .val (.long z4), .second, .val (.int f17), .val (.int f18), .val (.int f19), .val (.int f20), .val (.ref b9), .unset, .unset, .unset, .unset, .unset, .unset] []))
              refine Go.by (fun _ => XS.aload Xj.here hx rfl (hb hby at_145) rfl rfl) ?_
              show Go p.tables e below _ (Tj.setTop (mkF m 147 #[.val (.long p0), .second, .val (.long p1), .second, .val (.long p2), .second, .val (.long p3), .second, .val (.int p4), .val (.long z1), .second, .val (.long z2), .second, .val (.long z3), .second, .val (.long z4), .second, .val (.int f17), .val (.int f18), .val (.int f19), .val (.int f20), .val (.ref b9), .unset, .unset, .unset, .unset, .unset, .unset] [(.ref b9)]))
              refine Go.by (fun _ => XS.lload Xj.here hx rfl (hb hby at_147) rfl) ?_
              show Go p.tables e below _ (Tj.setTop (mkF m 149 #[.val (.long p0), .second, .val (.long p1), .second, .val (.long p2), .second, .val (.long p3), .second, .val (.int p4), .val (.long z1), .second, .val (.long z2), .second, .val (.long z3), .second, .val (.long z4), .second, .val (.int f17), .val (.int f18), .val (.int f19), .val (.int f20), .val (.ref b9), .unset, .unset, .unset, .unset, .unset, .unset] [(.long z4), (.ref b9)]))
              obtain ⟨v80, T80, h80, X80, q80, st80⟩ := Xj.callV hx hZ (y := (⟨"com/example/shrike/shrike/store/LongMap", "remove", "(J)J"⟩ : MethodName)) (z := (⟨"com/example/shrike/shrike/store/LongMap", "remove", "(J)J"⟩ : MethodName)) hown (tw hw 49 rfl) (tw hw 50 rfl) (notFace_of_selects (args := #[]) (mvT hZ (tw hw 52 rfl))) (tw hw 52 rfl) (tw hw 51 rfl) (tw hw 6 rfl) (tw hw 53 rfl) (by decide) (rm11 l Z a0 hw [] b9 z4 d11 kd11 fj sz hj n0 Zj Ej Fsj Fmj Vj Fzj g_b9 g_d11 hszj (Nat.le_trans hsle (by decide)) hLj nz_z4) Ej (g := (mkF m 149 #[.val (.long p0), .second, .val (.long p1), .second, .val (.long p2), .second, .val (.long p3), .second, .val (.int p4), .val (.long z1), .second, .val (.long z2), .second, .val (.long z3), .second, .val (.long z4), .second, .val (.int f17), .val (.int f18), .val (.int f19), .val (.int f20), .val (.ref b9), .unset, .unset, .unset, .unset, .unset, .unset] [(.long z4), (.ref b9)])) rfl (by rw [hml]; rfl) (argsL := [(.long z4)]) (rest := []) (lenOf pd5 rfl) rfl (hb hby at_149) rfl (by decide) (Nat.le_of_ble_eq_true rfl) (k' := 2) (n' := 35) rfl rfl (by decide) (by decide)
              refine Go.by st80 ?_
              obtain ⟨z80, f80, sz80, rfl, K80, Ex80, Fs80, Fm80, V80, Fz80, hl80, hle80, hc80⟩ := q80
              have f81_950 := Ej.keep K80
              have Zs81 : n0 ≤ h80.size := Nat.le_trans Zj K80.1
              show Go p.tables e below _ (T80.setTop (mkF m 152 #[.val (.long p0), .second, .val (.long p1), .second, .val (.long p2), .second, .val (.long p3), .second, .val (.int p4), .val (.long z1), .second, .val (.long z2), .second, .val (.long z3), .second, .val (.long z4), .second, .val (.int f17), .val (.int f18), .val (.int f19), .val (.int f20), .val (.ref b9), .unset, .unset, .unset, .unset, .unset, .unset] [(.long z80)]))
              refine Go.by (S' := T80.setTop (mkF m 153 #[.val (.long p0), .second, .val (.long p1), .second, .val (.long p2), .second, .val (.long p3), .second, .val (.int p4), .val (.long z1), .second, .val (.long z2), .second, .val (.long z3), .second, .val (.long z4), .second, .val (.int f17), .val (.int f18), .val (.int f19), .val (.int f20), .val (.ref b9), .unset, .unset, .unset, .unset, .unset, .unset] [])) (fun _ kt => by
                jvm_step X80.here [X80.here.top, hx, (hb hby at_152), Value.category]
                exact kt) ?_
              exact J153 f80 sz80 _ _ X80 Zs81 Ex80 Fs80 Fm80 V80 Fz80 hl80 (by omega) (rem_G (fl := f20) (k := z4) (G := (addk f19 z3 (addk f18 z2 (addk f17 z1 (fun _ => 0))))) (c := fun x => (pre fj 16).count x) (c' := fun x => (pre f80 16).count x) hc142_79 nz_z4 (addk_le (addk_le (addk_le (fun _ => Nat.zero_le _)))) hcj hc80)
          have J124 : ∀ (fj : Nat → Int64) (sz : Nat) (Tj : State) (hj : Heap), Sd n0 p l e room_1 s m #[(.long p0), (.long p1), (.long p2), (.long p3), (.int p4)] below meth c Tj hj 2 35 → n0 ≤ hj.size → Exa Z hj b9 "com/example/shrike/shrike/store/LongMap" → Fld Z hj b9 "com/example/shrike/shrike/store/LongMap" "slots" "[J" (.ref d11) → Fld Z hj b9 "com/example/shrike/shrike/store/LongMap" "mixed" "Z" (.int (0 : Int32)) → Avf Z hj d11 kd11 .long 32 (fun jj => (.long (fj jj))) → Fld Z hj b9 "com/example/shrike/shrike/store/LongMap" "size" "I" (.int (Int32.ofNat sz)) → sz = (pre fj 16).length → sz ≤ 2 → (∀ x, x ≠ 0 → (pre fj 16).count x = (addk f18 z2 (addk f17 z1 (fun _ => 0))) x) → Lf fj → Go p.tables e below (Ret s n0 (fun v h => v = some (.int 1)) room_1.cells room_1.slots) (Tj.setTop (mkF m 124 #[.val (.long p0), .second, .val (.long p1), .second, .val (.long p2), .second, .val (.long p3), .second, .val (.int p4), .val (.long z1), .second, .val (.long z2), .second, .val (.long z3), .second, .val (.long z4), .second, .val (.int f17), .val (.int f18), .val (.int f19), .val (.int f20), .val (.ref b9), .unset, .unset, .unset, .unset, .unset, .unset] [])) := by
            intro fj sz Tj hj Xj Zj Ej Fsj Fmj Vj Fzj hszj hsle hcj hLj
            refine Go.by (fun _ => XS.iload Xj.here hx rfl (hb hby at_124) rfl) ?_
            show Go p.tables e below _ (Tj.setTop (mkF m 126 #[.val (.long p0), .second, .val (.long p1), .second, .val (.long p2), .second, .val (.long p3), .second, .val (.int p4), .val (.long z1), .second, .val (.long z2), .second, .val (.long z3), .second, .val (.long z4), .second, .val (.int f17), .val (.int f18), .val (.int f19), .val (.int f20), .val (.ref b9), .unset, .unset, .unset, .unset, .unset, .unset] [(.int f19)]))
            by_cases hc126_82 : f19 = (0 : Int32)
            · skip
              refine Go.by (fun _ => XS.ifYes Xj.here hx rfl (pc0 := 126) (pc' := 140) rfl (hb hby at_126) rfl ((if0 _ _).trans (teq hc126_82).1) (by decide) (by decide)) ?_
              show Go p.tables e below _ (Tj.setTop (mkF m 140 #[.val (.long p0), .second, .val (.long p1), .second, .val (.long p2), .second, .val (.long p3), .second, .val (.int p4), .val (.long z1), .second, .val (.long z2), .second, .val (.long z3), .second, .val (.long z4), .second, .val (.int f17), .val (.int f18), .val (.int f19), .val (.int f20), .val (.ref b9), .unset, .unset, .unset, .unset, .unset, .unset] []))
              exact J140 fj sz _ _ Xj Zj Ej Fsj Fmj Vj Fzj hszj (by omega) (fun x hx => by rw [hcj x hx]; exact (if_neg (fun z => z.1 hc126_82)).symm) hLj
            · skip
              refine Go.by (fun _ => XS.ifNo Xj.here hx rfl (hb hby at_126) rfl ((if0 _ _).trans (feq hc126_82).1)) ?_
              show Go p.tables e below _ (Tj.setTop (mkF m 129 #[.val (.long p0), .second, .val (.long p1), .second, .val (.long p2), .second, .val (.long p3), .second, .val (.int p4), .val (.long z1), .second, .val (.long z2), .second, .val (.long z3), .second, .val (.long z4), .second, .val (.int f17), .val (.int f18), .val (.int f19), .val (.int f20), .val (.ref b9), .unset, .unset, .unset, .unset, .unset, .unset] []))
              refine Go.by (fun _ => XS.aload Xj.here hx rfl (hb hby at_129) rfl rfl) ?_
              show Go p.tables e below _ (Tj.setTop (mkF m 131 #[.val (.long p0), .second, .val (.long p1), .second, .val (.long p2), .second, .val (.long p3), .second, .val (.int p4), .val (.long z1), .second, .val (.long z2), .second, .val (.long z3), .second, .val (.long z4), .second, .val (.int f17), .val (.int f18), .val (.int f19), .val (.int f20), .val (.ref b9), .unset, .unset, .unset, .unset, .unset, .unset] [(.ref b9)]))
              refine Go.by (fun _ => XS.lload Xj.here hx rfl (hb hby at_131) rfl) ?_
              show Go p.tables e below _ (Tj.setTop (mkF m 133 #[.val (.long p0), .second, .val (.long p1), .second, .val (.long p2), .second, .val (.long p3), .second, .val (.int p4), .val (.long z1), .second, .val (.long z2), .second, .val (.long z3), .second, .val (.long z4), .second, .val (.int f17), .val (.int f18), .val (.int f19), .val (.int f20), .val (.ref b9), .unset, .unset, .unset, .unset, .unset, .unset] [(.long z3), (.ref b9)]))
              refine Go.by (Xj.ldc2Long hx hZ hown (tw hw 16 rfl) (g := (mkF m 133 #[.val (.long p0), .second, .val (.long p1), .second, .val (.long p2), .second, .val (.long p3), .second, .val (.int p4), .val (.long z1), .second, .val (.long z2), .second, .val (.long z3), .second, .val (.long z4), .second, .val (.int f17), .val (.int f18), .val (.int f19), .val (.int f20), .val (.ref b9), .unset, .unset, .unset, .unset, .unset, .unset] [(.long z3), (.ref b9)])) rfl (hb hby at_133)) ?_
              show Go p.tables e below _ (Tj.setTop (mkF m 136 #[.val (.long p0), .second, .val (.long p1), .second, .val (.long p2), .second, .val (.long p3), .second, .val (.int p4), .val (.long z1), .second, .val (.long z2), .second, .val (.long z3), .second, .val (.long z4), .second, .val (.int f17), .val (.int f18), .val (.int f19), .val (.int f20), .val (.ref b9), .unset, .unset, .unset, .unset, .unset, .unset] [(.long (7 : Int64)), (.long z3), (.ref b9)]))
              obtain ⟨v83, T83, h83, X83, q83, st83⟩ := Xj.callV hx hZ (y := (⟨"com/example/shrike/shrike/store/LongMap", "put", "(JJ)J"⟩ : MethodName)) (z := (⟨"com/example/shrike/shrike/store/LongMap", "put", "(JJ)J"⟩ : MethodName)) hown (tw hw 17 rfl) (tw hw 18 rfl) (notFace_of_selects (args := #[]) (mvT hZ (tw hw 20 rfl))) (tw hw 20 rfl) (tw hw 19 rfl) (tw hw 6 rfl) (tw hw 21 rfl) (by decide) (rm4 l Z a0 hw [] b9 z3 d11 kd11 fj sz hj n0 Zj Ej Fsj Fmj Vj Fzj g_b9 g_d11 hszj (Nat.le_trans hsle (by decide)) hLj nz_z3) Ej (g := (mkF m 136 #[.val (.long p0), .second, .val (.long p1), .second, .val (.long p2), .second, .val (.long p3), .second, .val (.int p4), .val (.long z1), .second, .val (.long z2), .second, .val (.long z3), .second, .val (.long z4), .second, .val (.int f17), .val (.int f18), .val (.int f19), .val (.int f20), .val (.ref b9), .unset, .unset, .unset, .unset, .unset, .unset] [(.long (7 : Int64)), (.long z3), (.ref b9)])) rfl (by rw [hml]; rfl) (argsL := [(.long z3), (.long (7 : Int64))]) (rest := []) (lenOf pd10 rfl) rfl (hb hby at_136) rfl (by decide) (Nat.le_of_ble_eq_true rfl) (k' := 2) (n' := 35) rfl rfl (by decide) (by decide)
              refine Go.by st83 ?_
              obtain ⟨z83, f83, sz83, rfl, K83, Ex83, Fs83, Fm83, V83, Fz83, hl83, hle83, hc83, hL83⟩ := q83
              have f84_978 := Ej.keep K83
              have Zs84 : n0 ≤ h83.size := Nat.le_trans Zj K83.1
              show Go p.tables e below _ (T83.setTop (mkF m 139 #[.val (.long p0), .second, .val (.long p1), .second, .val (.long p2), .second, .val (.long p3), .second, .val (.int p4), .val (.long z1), .second, .val (.long z2), .second, .val (.long z3), .second, .val (.long z4), .second, .val (.int f17), .val (.int f18), .val (.int f19), .val (.int f20), .val (.ref b9), .unset, .unset, .unset, .unset, .unset, .unset] [(.long z83)]))
              refine Go.by (S' := T83.setTop (mkF m 140 #[.val (.long p0), .second, .val (.long p1), .second, .val (.long p2), .second, .val (.long p3), .second, .val (.int p4), .val (.long z1), .second, .val (.long z2), .second, .val (.long z3), .second, .val (.long z4), .second, .val (.int f17), .val (.int f18), .val (.int f19), .val (.int f20), .val (.ref b9), .unset, .unset, .unset, .unset, .unset, .unset] [])) (fun _ kt => by
                jvm_step X83.here [X83.here.top, hx, (hb hby at_139), Value.category]
                exact kt) ?_
              exact J140 f83 sz83 _ _ X83 Zs84 Ex83 Fs83 Fm83 V83 Fz83 hl83 (by omega) (put_G (fl := f19) (k := z3) (G := (addk f18 z2 (addk f17 z1 (fun _ => 0)))) (c := fun x => (pre fj 16).count x) (c' := fun x => (pre f83 16).count x) hc126_82 nz_z3 (addk_le (addk_le (fun _ => Nat.zero_le _))) hcj hc83) hL83
          have J108 : ∀ (fj : Nat → Int64) (sz : Nat) (Tj : State) (hj : Heap), Sd n0 p l e room_1 s m #[(.long p0), (.long p1), (.long p2), (.long p3), (.int p4)] below meth c Tj hj 2 35 → n0 ≤ hj.size → Exa Z hj b9 "com/example/shrike/shrike/store/LongMap" → Fld Z hj b9 "com/example/shrike/shrike/store/LongMap" "slots" "[J" (.ref d11) → Fld Z hj b9 "com/example/shrike/shrike/store/LongMap" "mixed" "Z" (.int (0 : Int32)) → Avf Z hj d11 kd11 .long 32 (fun jj => (.long (fj jj))) → Fld Z hj b9 "com/example/shrike/shrike/store/LongMap" "size" "I" (.int (Int32.ofNat sz)) → sz = (pre fj 16).length → sz ≤ 1 → (∀ x, x ≠ 0 → (pre fj 16).count x = (addk f17 z1 (fun _ => 0)) x) → Lf fj → Go p.tables e below (Ret s n0 (fun v h => v = some (.int 1)) room_1.cells room_1.slots) (Tj.setTop (mkF m 108 #[.val (.long p0), .second, .val (.long p1), .second, .val (.long p2), .second, .val (.long p3), .second, .val (.int p4), .val (.long z1), .second, .val (.long z2), .second, .val (.long z3), .second, .val (.long z4), .second, .val (.int f17), .val (.int f18), .val (.int f19), .val (.int f20), .val (.ref b9), .unset, .unset, .unset, .unset, .unset, .unset] [])) := by
            intro fj sz Tj hj Xj Zj Ej Fsj Fmj Vj Fzj hszj hsle hcj hLj
            refine Go.by (fun _ => XS.iload Xj.here hx rfl (hb hby at_108) rfl) ?_
            show Go p.tables e below _ (Tj.setTop (mkF m 110 #[.val (.long p0), .second, .val (.long p1), .second, .val (.long p2), .second, .val (.long p3), .second, .val (.int p4), .val (.long z1), .second, .val (.long z2), .second, .val (.long z3), .second, .val (.long z4), .second, .val (.int f17), .val (.int f18), .val (.int f19), .val (.int f20), .val (.ref b9), .unset, .unset, .unset, .unset, .unset, .unset] [(.int f18)]))
            by_cases hc110_85 : f18 = (0 : Int32)
            · skip
              refine Go.by (fun _ => XS.ifYes Xj.here hx rfl (pc0 := 110) (pc' := 124) rfl (hb hby at_110) rfl ((if0 _ _).trans (teq hc110_85).1) (by decide) (by decide)) ?_
              show Go p.tables e below _ (Tj.setTop (mkF m 124 #[.val (.long p0), .second, .val (.long p1), .second, .val (.long p2), .second, .val (.long p3), .second, .val (.int p4), .val (.long z1), .second, .val (.long z2), .second, .val (.long z3), .second, .val (.long z4), .second, .val (.int f17), .val (.int f18), .val (.int f19), .val (.int f20), .val (.ref b9), .unset, .unset, .unset, .unset, .unset, .unset] []))
              exact J124 fj sz _ _ Xj Zj Ej Fsj Fmj Vj Fzj hszj (by omega) (fun x hx => by rw [hcj x hx]; exact (if_neg (fun z => z.1 hc110_85)).symm) hLj
            · skip
              refine Go.by (fun _ => XS.ifNo Xj.here hx rfl (hb hby at_110) rfl ((if0 _ _).trans (feq hc110_85).1)) ?_
              show Go p.tables e below _ (Tj.setTop (mkF m 113 #[.val (.long p0), .second, .val (.long p1), .second, .val (.long p2), .second, .val (.long p3), .second, .val (.int p4), .val (.long z1), .second, .val (.long z2), .second, .val (.long z3), .second, .val (.long z4), .second, .val (.int f17), .val (.int f18), .val (.int f19), .val (.int f20), .val (.ref b9), .unset, .unset, .unset, .unset, .unset, .unset] []))
              refine Go.by (fun _ => XS.aload Xj.here hx rfl (hb hby at_113) rfl rfl) ?_
              show Go p.tables e below _ (Tj.setTop (mkF m 115 #[.val (.long p0), .second, .val (.long p1), .second, .val (.long p2), .second, .val (.long p3), .second, .val (.int p4), .val (.long z1), .second, .val (.long z2), .second, .val (.long z3), .second, .val (.long z4), .second, .val (.int f17), .val (.int f18), .val (.int f19), .val (.int f20), .val (.ref b9), .unset, .unset, .unset, .unset, .unset, .unset] [(.ref b9)]))
              refine Go.by (fun _ => XS.lload Xj.here hx rfl (hb hby at_115) rfl) ?_
              show Go p.tables e below _ (Tj.setTop (mkF m 117 #[.val (.long p0), .second, .val (.long p1), .second, .val (.long p2), .second, .val (.long p3), .second, .val (.int p4), .val (.long z1), .second, .val (.long z2), .second, .val (.long z3), .second, .val (.long z4), .second, .val (.int f17), .val (.int f18), .val (.int f19), .val (.int f20), .val (.ref b9), .unset, .unset, .unset, .unset, .unset, .unset] [(.long z2), (.ref b9)]))
              refine Go.by (Xj.ldc2Long hx hZ hown (tw hw 16 rfl) (g := (mkF m 117 #[.val (.long p0), .second, .val (.long p1), .second, .val (.long p2), .second, .val (.long p3), .second, .val (.int p4), .val (.long z1), .second, .val (.long z2), .second, .val (.long z3), .second, .val (.long z4), .second, .val (.int f17), .val (.int f18), .val (.int f19), .val (.int f20), .val (.ref b9), .unset, .unset, .unset, .unset, .unset, .unset] [(.long z2), (.ref b9)])) rfl (hb hby at_117)) ?_
              show Go p.tables e below _ (Tj.setTop (mkF m 120 #[.val (.long p0), .second, .val (.long p1), .second, .val (.long p2), .second, .val (.long p3), .second, .val (.int p4), .val (.long z1), .second, .val (.long z2), .second, .val (.long z3), .second, .val (.long z4), .second, .val (.int f17), .val (.int f18), .val (.int f19), .val (.int f20), .val (.ref b9), .unset, .unset, .unset, .unset, .unset, .unset] [(.long (7 : Int64)), (.long z2), (.ref b9)]))
              obtain ⟨v86, T86, h86, X86, q86, st86⟩ := Xj.callV hx hZ (y := (⟨"com/example/shrike/shrike/store/LongMap", "put", "(JJ)J"⟩ : MethodName)) (z := (⟨"com/example/shrike/shrike/store/LongMap", "put", "(JJ)J"⟩ : MethodName)) hown (tw hw 17 rfl) (tw hw 18 rfl) (notFace_of_selects (args := #[]) (mvT hZ (tw hw 20 rfl))) (tw hw 20 rfl) (tw hw 19 rfl) (tw hw 6 rfl) (tw hw 21 rfl) (by decide) (rm4 l Z a0 hw [] b9 z2 d11 kd11 fj sz hj n0 Zj Ej Fsj Fmj Vj Fzj g_b9 g_d11 hszj (Nat.le_trans hsle (by decide)) hLj nz_z2) Ej (g := (mkF m 120 #[.val (.long p0), .second, .val (.long p1), .second, .val (.long p2), .second, .val (.long p3), .second, .val (.int p4), .val (.long z1), .second, .val (.long z2), .second, .val (.long z3), .second, .val (.long z4), .second, .val (.int f17), .val (.int f18), .val (.int f19), .val (.int f20), .val (.ref b9), .unset, .unset, .unset, .unset, .unset, .unset] [(.long (7 : Int64)), (.long z2), (.ref b9)])) rfl (by rw [hml]; rfl) (argsL := [(.long z2), (.long (7 : Int64))]) (rest := []) (lenOf pd10 rfl) rfl (hb hby at_120) rfl (by decide) (Nat.le_of_ble_eq_true rfl) (k' := 2) (n' := 35) rfl rfl (by decide) (by decide)
              refine Go.by st86 ?_
              obtain ⟨z86, f86, sz86, rfl, K86, Ex86, Fs86, Fm86, V86, Fz86, hl86, hle86, hc86, hL86⟩ := q86
              have f87_1006 := Ej.keep K86
              have Zs87 : n0 ≤ h86.size := Nat.le_trans Zj K86.1
              show Go p.tables e below _ (T86.setTop (mkF m 123 #[.val (.long p0), .second, .val (.long p1), .second, .val (.long p2), .second, .val (.long p3), .second, .val (.int p4), .val (.long z1), .second, .val (.long z2), .second, .val (.long z3), .second, .val (.long z4), .second, .val (.int f17), .val (.int f18), .val (.int f19), .val (.int f20), .val (.ref b9), .unset, .unset, .unset, .unset, .unset, .unset] [(.long z86)]))
              refine Go.by (S' := T86.setTop (mkF m 124 #[.val (.long p0), .second, .val (.long p1), .second, .val (.long p2), .second, .val (.long p3), .second, .val (.int p4), .val (.long z1), .second, .val (.long z2), .second, .val (.long z3), .second, .val (.long z4), .second, .val (.int f17), .val (.int f18), .val (.int f19), .val (.int f20), .val (.ref b9), .unset, .unset, .unset, .unset, .unset, .unset] [])) (fun _ kt => by
                jvm_step X86.here [X86.here.top, hx, (hb hby at_123), Value.category]
                exact kt) ?_
              exact J124 f86 sz86 _ _ X86 Zs87 Ex86 Fs86 Fm86 V86 Fz86 hl86 (by omega) (put_G (fl := f18) (k := z2) (G := (addk f17 z1 (fun _ => 0))) (c := fun x => (pre fj 16).count x) (c' := fun x => (pre f86 16).count x) hc110_85 nz_z2 (addk_le (fun _ => Nat.zero_le _)) hcj hc86) hL86
          have hszj : 0 = (pre (fun _ => 0) 16).length := by rw [own_new]; rfl
          have hsle : (0 : Nat) ≤ 0 := Nat.le_refl _
          have hcj : ∀ x : Int64, x ≠ 0 → (pre (fun _ => 0) 16).count x = (fun _ => 0) x := fun x _ => by rw [own_new]; rfl
          have hLj := own_Lnew
          refine Go.by (fun _ => XS.iload X11.here hx rfl (hb hby at_92) rfl) ?_
          show Go p.tables e below _ (T11.setTop (mkF m 94 #[.val (.long p0), .second, .val (.long p1), .second, .val (.long p2), .second, .val (.long p3), .second, .val (.int p4), .val (.long z1), .second, .val (.long z2), .second, .val (.long z3), .second, .val (.long z4), .second, .val (.int f17), .val (.int f18), .val (.int f19), .val (.int f20), .val (.ref b9), .unset, .unset, .unset, .unset, .unset, .unset] [(.int f17)]))
          by_cases hc94_88 : f17 = (0 : Int32)
          · skip
            refine Go.by (fun _ => XS.ifYes X11.here hx rfl (pc0 := 94) (pc' := 108) rfl (hb hby at_94) rfl ((if0 _ _).trans (teq hc94_88).1) (by decide) (by decide)) ?_
            show Go p.tables e below _ (T11.setTop (mkF m 108 #[.val (.long p0), .second, .val (.long p1), .second, .val (.long p2), .second, .val (.long p3), .second, .val (.int p4), .val (.long z1), .second, .val (.long z2), .second, .val (.long z3), .second, .val (.long z4), .second, .val (.int f17), .val (.int f18), .val (.int f19), .val (.int f20), .val (.ref b9), .unset, .unset, .unset, .unset, .unset, .unset] []))
            exact J108 (fun _ => 0) 0 _ _ X11 Zs12 Ex11 Fs11 Fm11 V11 Fz11 hszj (by omega) (fun x hx => by rw [hcj x hx]; exact (if_neg (fun z => z.1 hc94_88)).symm) hLj
          · skip
            refine Go.by (fun _ => XS.ifNo X11.here hx rfl (hb hby at_94) rfl ((if0 _ _).trans (feq hc94_88).1)) ?_
            show Go p.tables e below _ (T11.setTop (mkF m 97 #[.val (.long p0), .second, .val (.long p1), .second, .val (.long p2), .second, .val (.long p3), .second, .val (.int p4), .val (.long z1), .second, .val (.long z2), .second, .val (.long z3), .second, .val (.long z4), .second, .val (.int f17), .val (.int f18), .val (.int f19), .val (.int f20), .val (.ref b9), .unset, .unset, .unset, .unset, .unset, .unset] []))
            refine Go.by (fun _ => XS.aload X11.here hx rfl (hb hby at_97) rfl rfl) ?_
            show Go p.tables e below _ (T11.setTop (mkF m 99 #[.val (.long p0), .second, .val (.long p1), .second, .val (.long p2), .second, .val (.long p3), .second, .val (.int p4), .val (.long z1), .second, .val (.long z2), .second, .val (.long z3), .second, .val (.long z4), .second, .val (.int f17), .val (.int f18), .val (.int f19), .val (.int f20), .val (.ref b9), .unset, .unset, .unset, .unset, .unset, .unset] [(.ref b9)]))
            refine Go.by (fun _ => XS.lload X11.here hx rfl (hb hby at_99) rfl) ?_
            show Go p.tables e below _ (T11.setTop (mkF m 101 #[.val (.long p0), .second, .val (.long p1), .second, .val (.long p2), .second, .val (.long p3), .second, .val (.int p4), .val (.long z1), .second, .val (.long z2), .second, .val (.long z3), .second, .val (.long z4), .second, .val (.int f17), .val (.int f18), .val (.int f19), .val (.int f20), .val (.ref b9), .unset, .unset, .unset, .unset, .unset, .unset] [(.long z1), (.ref b9)]))
            refine Go.by (X11.ldc2Long hx hZ hown (tw hw 16 rfl) (g := (mkF m 101 #[.val (.long p0), .second, .val (.long p1), .second, .val (.long p2), .second, .val (.long p3), .second, .val (.int p4), .val (.long z1), .second, .val (.long z2), .second, .val (.long z3), .second, .val (.long z4), .second, .val (.int f17), .val (.int f18), .val (.int f19), .val (.int f20), .val (.ref b9), .unset, .unset, .unset, .unset, .unset, .unset] [(.long z1), (.ref b9)])) rfl (hb hby at_101)) ?_
            show Go p.tables e below _ (T11.setTop (mkF m 104 #[.val (.long p0), .second, .val (.long p1), .second, .val (.long p2), .second, .val (.long p3), .second, .val (.int p4), .val (.long z1), .second, .val (.long z2), .second, .val (.long z3), .second, .val (.long z4), .second, .val (.int f17), .val (.int f18), .val (.int f19), .val (.int f20), .val (.ref b9), .unset, .unset, .unset, .unset, .unset, .unset] [(.long (7 : Int64)), (.long z1), (.ref b9)]))
            obtain ⟨v89, T89, h89, X89, q89, st89⟩ := X11.callV hx hZ (y := (⟨"com/example/shrike/shrike/store/LongMap", "put", "(JJ)J"⟩ : MethodName)) (z := (⟨"com/example/shrike/shrike/store/LongMap", "put", "(JJ)J"⟩ : MethodName)) hown (tw hw 17 rfl) (tw hw 18 rfl) (notFace_of_selects (args := #[]) (mvT hZ (tw hw 20 rfl))) (tw hw 20 rfl) (tw hw 19 rfl) (tw hw 6 rfl) (tw hw 21 rfl) (by decide) (rm4 l Z a0 hw [] b9 z1 d11 kd11 (fun _ => 0) 0 h11 n0 Zs12 Ex11 Fs11 Fm11 V11 Fz11 g_b9 g_d11 hszj (Nat.le_trans hsle (by decide)) hLj nz_z1) Ex11 (g := (mkF m 104 #[.val (.long p0), .second, .val (.long p1), .second, .val (.long p2), .second, .val (.long p3), .second, .val (.int p4), .val (.long z1), .second, .val (.long z2), .second, .val (.long z3), .second, .val (.long z4), .second, .val (.int f17), .val (.int f18), .val (.int f19), .val (.int f20), .val (.ref b9), .unset, .unset, .unset, .unset, .unset, .unset] [(.long (7 : Int64)), (.long z1), (.ref b9)])) rfl (by rw [hml]; rfl) (argsL := [(.long z1), (.long (7 : Int64))]) (rest := []) (lenOf pd10 rfl) rfl (hb hby at_104) rfl (by decide) (Nat.le_of_ble_eq_true rfl) (k' := 2) (n' := 35) rfl rfl (by decide) (by decide)
            refine Go.by st89 ?_
            obtain ⟨z89, f89, sz89, rfl, K89, Ex89, Fs89, Fm89, V89, Fz89, hl89, hle89, hc89, hL89⟩ := q89
            have f90_1036 := Ex11.keep K89
            have Zs90 : n0 ≤ h89.size := Nat.le_trans Zs12 K89.1
            show Go p.tables e below _ (T89.setTop (mkF m 107 #[.val (.long p0), .second, .val (.long p1), .second, .val (.long p2), .second, .val (.long p3), .second, .val (.int p4), .val (.long z1), .second, .val (.long z2), .second, .val (.long z3), .second, .val (.long z4), .second, .val (.int f17), .val (.int f18), .val (.int f19), .val (.int f20), .val (.ref b9), .unset, .unset, .unset, .unset, .unset, .unset] [(.long z89)]))
            refine Go.by (S' := T89.setTop (mkF m 108 #[.val (.long p0), .second, .val (.long p1), .second, .val (.long p2), .second, .val (.long p3), .second, .val (.int p4), .val (.long z1), .second, .val (.long z2), .second, .val (.long z3), .second, .val (.long z4), .second, .val (.int f17), .val (.int f18), .val (.int f19), .val (.int f20), .val (.ref b9), .unset, .unset, .unset, .unset, .unset, .unset] [])) (fun _ kt => by
              jvm_step X89.here [X89.here.top, hx, (hb hby at_107), Value.category]
              exact kt) ?_
            exact J108 f89 sz89 _ _ X89 Zs90 Ex89 Fs89 Fm89 V89 Fz89 hl89 (by omega) (put_G (fl := f17) (k := z1) (G := (fun _ => 0)) (c := fun x => (pre (fun _ => 0) 16).count x) (c' := fun x => (pre f89 16).count x) hc94_88 nz_z1 (fun _ => Nat.zero_le _) hcj hc89) hL89
        refine Go.by (fun _ => XS.iload Xj7.here hx rfl (hb hby at_68) rfl) ?_
        show Go p.tables e below _ (Tj7.setTop (mkF m 70 #[.val (.long p0), .second, .val (.long p1), .second, .val (.long p2), .second, .val (.long p3), .second, .val (.int p4), .val (.long z1), .second, .val (.long z2), .second, .val (.long z3), .second, .val (.long z4), .second, .val (.int f17), .val (.int f18), .val (.int f19), .unset, .unset, .unset, .unset, .unset, .unset, .unset, .unset] [(.int p4)]))
        refine Go.by (fun _ => XS.bipush Xj7.here hx rfl (hb hby at_70)) ?_
        show Go p.tables e below _ (Tj7.setTop (mkF m 72 #[.val (.long p0), .second, .val (.long p1), .second, .val (.long p2), .second, .val (.long p3), .second, .val (.int p4), .val (.long z1), .second, .val (.long z2), .second, .val (.long z3), .second, .val (.long z4), .second, .val (.int f17), .val (.int f18), .val (.int f19), .unset, .unset, .unset, .unset, .unset, .unset, .unset, .unset] [(.int (8 : Int32)), (.int p4)]))
        refine Go.by (fun _ => XS.iand Xj7.here hx rfl (hb hby at_72) rfl) ?_
        show Go p.tables e below _ (Tj7.setTop (mkF m 73 #[.val (.long p0), .second, .val (.long p1), .second, .val (.long p2), .second, .val (.long p3), .second, .val (.int p4), .val (.long z1), .second, .val (.long z2), .second, .val (.long z3), .second, .val (.long z4), .second, .val (.int f17), .val (.int f18), .val (.int f19), .unset, .unset, .unset, .unset, .unset, .unset, .unset, .unset] [(.int (p4 &&& (8 : Int32)))]))
        by_cases hc73_91 : (p4 &&& (8 : Int32)) = (0 : Int32)
        · skip
          refine Go.by (fun _ => XS.ifYes Xj7.here hx rfl (pc0 := 73) (pc' := 80) rfl (hb hby at_73) rfl ((if0 _ _).trans (teq hc73_91).1) (by decide) (by decide)) ?_
          show Go p.tables e below _ (Tj7.setTop (mkF m 80 #[.val (.long p0), .second, .val (.long p1), .second, .val (.long p2), .second, .val (.long p3), .second, .val (.int p4), .val (.long z1), .second, .val (.long z2), .second, .val (.long z3), .second, .val (.long z4), .second, .val (.int f17), .val (.int f18), .val (.int f19), .unset, .unset, .unset, .unset, .unset, .unset, .unset, .unset] []))
          refine Go.by (fun _ => XS.iconst Xj7.here hx rfl (hb hby at_80)) ?_
          show Go p.tables e below _ (Tj7.setTop (mkF m 81 #[.val (.long p0), .second, .val (.long p1), .second, .val (.long p2), .second, .val (.long p3), .second, .val (.int p4), .val (.long z1), .second, .val (.long z2), .second, .val (.long z3), .second, .val (.long z4), .second, .val (.int f17), .val (.int f18), .val (.int f19), .unset, .unset, .unset, .unset, .unset, .unset, .unset, .unset] [(.int (0 : Int32))]))
          exact J8 _ Xj7 (0 : Int32) trivial
        · skip
          refine Go.by (fun _ => XS.ifNo Xj7.here hx rfl (hb hby at_73) rfl ((if0 _ _).trans (feq hc73_91).1)) ?_
          show Go p.tables e below _ (Tj7.setTop (mkF m 76 #[.val (.long p0), .second, .val (.long p1), .second, .val (.long p2), .second, .val (.long p3), .second, .val (.int p4), .val (.long z1), .second, .val (.long z2), .second, .val (.long z3), .second, .val (.long z4), .second, .val (.int f17), .val (.int f18), .val (.int f19), .unset, .unset, .unset, .unset, .unset, .unset, .unset, .unset] []))
          refine Go.by (fun _ => XS.iconst Xj7.here hx rfl (hb hby at_76)) ?_
          show Go p.tables e below _ (Tj7.setTop (mkF m 77 #[.val (.long p0), .second, .val (.long p1), .second, .val (.long p2), .second, .val (.long p3), .second, .val (.int p4), .val (.long z1), .second, .val (.long z2), .second, .val (.long z3), .second, .val (.long z4), .second, .val (.int f17), .val (.int f18), .val (.int f19), .unset, .unset, .unset, .unset, .unset, .unset, .unset, .unset] [(.int (1 : Int32))]))
          refine Go.by (fun _ => XS.goto Xj7.here hx rfl (pc0 := 77) (pc' := 81) rfl (hb hby at_77) (by decide) (by decide)) ?_
          show Go p.tables e below _ (Tj7.setTop (mkF m 81 #[.val (.long p0), .second, .val (.long p1), .second, .val (.long p2), .second, .val (.long p3), .second, .val (.int p4), .val (.long z1), .second, .val (.long z2), .second, .val (.long z3), .second, .val (.long z4), .second, .val (.int f17), .val (.int f18), .val (.int f19), .unset, .unset, .unset, .unset, .unset, .unset, .unset, .unset] [(.int (1 : Int32))]))
          exact J8 _ Xj7 (1 : Int32) trivial
      refine Go.by (fun _ => XS.iload Xj6.here hx rfl (hb hby at_54) rfl) ?_
      show Go p.tables e below _ (Tj6.setTop (mkF m 56 #[.val (.long p0), .second, .val (.long p1), .second, .val (.long p2), .second, .val (.long p3), .second, .val (.int p4), .val (.long z1), .second, .val (.long z2), .second, .val (.long z3), .second, .val (.long z4), .second, .val (.int f17), .val (.int f18), .unset, .unset, .unset, .unset, .unset, .unset, .unset, .unset, .unset] [(.int p4)]))
      refine Go.by (fun _ => XS.iconst Xj6.here hx rfl (hb hby at_56)) ?_
      show Go p.tables e below _ (Tj6.setTop (mkF m 57 #[.val (.long p0), .second, .val (.long p1), .second, .val (.long p2), .second, .val (.long p3), .second, .val (.int p4), .val (.long z1), .second, .val (.long z2), .second, .val (.long z3), .second, .val (.long z4), .second, .val (.int f17), .val (.int f18), .unset, .unset, .unset, .unset, .unset, .unset, .unset, .unset, .unset] [(.int (4 : Int32)), (.int p4)]))
      refine Go.by (fun _ => XS.iand Xj6.here hx rfl (hb hby at_57) rfl) ?_
      show Go p.tables e below _ (Tj6.setTop (mkF m 58 #[.val (.long p0), .second, .val (.long p1), .second, .val (.long p2), .second, .val (.long p3), .second, .val (.int p4), .val (.long z1), .second, .val (.long z2), .second, .val (.long z3), .second, .val (.long z4), .second, .val (.int f17), .val (.int f18), .unset, .unset, .unset, .unset, .unset, .unset, .unset, .unset, .unset] [(.int (p4 &&& (4 : Int32)))]))
      by_cases hc58_92 : (p4 &&& (4 : Int32)) = (0 : Int32)
      · skip
        refine Go.by (fun _ => XS.ifYes Xj6.here hx rfl (pc0 := 58) (pc' := 65) rfl (hb hby at_58) rfl ((if0 _ _).trans (teq hc58_92).1) (by decide) (by decide)) ?_
        show Go p.tables e below _ (Tj6.setTop (mkF m 65 #[.val (.long p0), .second, .val (.long p1), .second, .val (.long p2), .second, .val (.long p3), .second, .val (.int p4), .val (.long z1), .second, .val (.long z2), .second, .val (.long z3), .second, .val (.long z4), .second, .val (.int f17), .val (.int f18), .unset, .unset, .unset, .unset, .unset, .unset, .unset, .unset, .unset] []))
        refine Go.by (fun _ => XS.iconst Xj6.here hx rfl (hb hby at_65)) ?_
        show Go p.tables e below _ (Tj6.setTop (mkF m 66 #[.val (.long p0), .second, .val (.long p1), .second, .val (.long p2), .second, .val (.long p3), .second, .val (.int p4), .val (.long z1), .second, .val (.long z2), .second, .val (.long z3), .second, .val (.long z4), .second, .val (.int f17), .val (.int f18), .unset, .unset, .unset, .unset, .unset, .unset, .unset, .unset, .unset] [(.int (0 : Int32))]))
        exact J7 _ Xj6 (0 : Int32) trivial
      · skip
        refine Go.by (fun _ => XS.ifNo Xj6.here hx rfl (hb hby at_58) rfl ((if0 _ _).trans (feq hc58_92).1)) ?_
        show Go p.tables e below _ (Tj6.setTop (mkF m 61 #[.val (.long p0), .second, .val (.long p1), .second, .val (.long p2), .second, .val (.long p3), .second, .val (.int p4), .val (.long z1), .second, .val (.long z2), .second, .val (.long z3), .second, .val (.long z4), .second, .val (.int f17), .val (.int f18), .unset, .unset, .unset, .unset, .unset, .unset, .unset, .unset, .unset] []))
        refine Go.by (fun _ => XS.iconst Xj6.here hx rfl (hb hby at_61)) ?_
        show Go p.tables e below _ (Tj6.setTop (mkF m 62 #[.val (.long p0), .second, .val (.long p1), .second, .val (.long p2), .second, .val (.long p3), .second, .val (.int p4), .val (.long z1), .second, .val (.long z2), .second, .val (.long z3), .second, .val (.long z4), .second, .val (.int f17), .val (.int f18), .unset, .unset, .unset, .unset, .unset, .unset, .unset, .unset, .unset] [(.int (1 : Int32))]))
        refine Go.by (fun _ => XS.goto Xj6.here hx rfl (pc0 := 62) (pc' := 66) rfl (hb hby at_62) (by decide) (by decide)) ?_
        show Go p.tables e below _ (Tj6.setTop (mkF m 66 #[.val (.long p0), .second, .val (.long p1), .second, .val (.long p2), .second, .val (.long p3), .second, .val (.int p4), .val (.long z1), .second, .val (.long z2), .second, .val (.long z3), .second, .val (.long z4), .second, .val (.int f17), .val (.int f18), .unset, .unset, .unset, .unset, .unset, .unset, .unset, .unset, .unset] [(.int (1 : Int32))]))
        exact J7 _ Xj6 (1 : Int32) trivial
    refine Go.by (fun _ => XS.iload Xj5.here hx rfl (hb hby at_40) rfl) ?_
    show Go p.tables e below _ (Tj5.setTop (mkF m 42 #[.val (.long p0), .second, .val (.long p1), .second, .val (.long p2), .second, .val (.long p3), .second, .val (.int p4), .val (.long z1), .second, .val (.long z2), .second, .val (.long z3), .second, .val (.long z4), .second, .val (.int f17), .unset, .unset, .unset, .unset, .unset, .unset, .unset, .unset, .unset, .unset] [(.int p4)]))
    refine Go.by (fun _ => XS.iconst Xj5.here hx rfl (hb hby at_42)) ?_
    show Go p.tables e below _ (Tj5.setTop (mkF m 43 #[.val (.long p0), .second, .val (.long p1), .second, .val (.long p2), .second, .val (.long p3), .second, .val (.int p4), .val (.long z1), .second, .val (.long z2), .second, .val (.long z3), .second, .val (.long z4), .second, .val (.int f17), .unset, .unset, .unset, .unset, .unset, .unset, .unset, .unset, .unset, .unset] [(.int (2 : Int32)), (.int p4)]))
    refine Go.by (fun _ => XS.iand Xj5.here hx rfl (hb hby at_43) rfl) ?_
    show Go p.tables e below _ (Tj5.setTop (mkF m 44 #[.val (.long p0), .second, .val (.long p1), .second, .val (.long p2), .second, .val (.long p3), .second, .val (.int p4), .val (.long z1), .second, .val (.long z2), .second, .val (.long z3), .second, .val (.long z4), .second, .val (.int f17), .unset, .unset, .unset, .unset, .unset, .unset, .unset, .unset, .unset, .unset] [(.int (p4 &&& (2 : Int32)))]))
    by_cases hc44_93 : (p4 &&& (2 : Int32)) = (0 : Int32)
    · skip
      refine Go.by (fun _ => XS.ifYes Xj5.here hx rfl (pc0 := 44) (pc' := 51) rfl (hb hby at_44) rfl ((if0 _ _).trans (teq hc44_93).1) (by decide) (by decide)) ?_
      show Go p.tables e below _ (Tj5.setTop (mkF m 51 #[.val (.long p0), .second, .val (.long p1), .second, .val (.long p2), .second, .val (.long p3), .second, .val (.int p4), .val (.long z1), .second, .val (.long z2), .second, .val (.long z3), .second, .val (.long z4), .second, .val (.int f17), .unset, .unset, .unset, .unset, .unset, .unset, .unset, .unset, .unset, .unset] []))
      refine Go.by (fun _ => XS.iconst Xj5.here hx rfl (hb hby at_51)) ?_
      show Go p.tables e below _ (Tj5.setTop (mkF m 52 #[.val (.long p0), .second, .val (.long p1), .second, .val (.long p2), .second, .val (.long p3), .second, .val (.int p4), .val (.long z1), .second, .val (.long z2), .second, .val (.long z3), .second, .val (.long z4), .second, .val (.int f17), .unset, .unset, .unset, .unset, .unset, .unset, .unset, .unset, .unset, .unset] [(.int (0 : Int32))]))
      exact J6 _ Xj5 (0 : Int32) trivial
    · skip
      refine Go.by (fun _ => XS.ifNo Xj5.here hx rfl (hb hby at_44) rfl ((if0 _ _).trans (feq hc44_93).1)) ?_
      show Go p.tables e below _ (Tj5.setTop (mkF m 47 #[.val (.long p0), .second, .val (.long p1), .second, .val (.long p2), .second, .val (.long p3), .second, .val (.int p4), .val (.long z1), .second, .val (.long z2), .second, .val (.long z3), .second, .val (.long z4), .second, .val (.int f17), .unset, .unset, .unset, .unset, .unset, .unset, .unset, .unset, .unset, .unset] []))
      refine Go.by (fun _ => XS.iconst Xj5.here hx rfl (hb hby at_47)) ?_
      show Go p.tables e below _ (Tj5.setTop (mkF m 48 #[.val (.long p0), .second, .val (.long p1), .second, .val (.long p2), .second, .val (.long p3), .second, .val (.int p4), .val (.long z1), .second, .val (.long z2), .second, .val (.long z3), .second, .val (.long z4), .second, .val (.int f17), .unset, .unset, .unset, .unset, .unset, .unset, .unset, .unset, .unset, .unset] [(.int (1 : Int32))]))
      refine Go.by (fun _ => XS.goto Xj5.here hx rfl (pc0 := 48) (pc' := 52) rfl (hb hby at_48) (by decide) (by decide)) ?_
      show Go p.tables e below _ (Tj5.setTop (mkF m 52 #[.val (.long p0), .second, .val (.long p1), .second, .val (.long p2), .second, .val (.long p3), .second, .val (.int p4), .val (.long z1), .second, .val (.long z2), .second, .val (.long z3), .second, .val (.long z4), .second, .val (.int f17), .unset, .unset, .unset, .unset, .unset, .unset, .unset, .unset, .unset, .unset] [(.int (1 : Int32))]))
      exact J6 _ Xj5 (1 : Int32) trivial
  refine Go.by (fun _ => XS.iload X4.here hx rfl (hb hby at_26) rfl) ?_
  show Go p.tables e below _ (T4.setTop (mkF m 28 #[.val (.long p0), .second, .val (.long p1), .second, .val (.long p2), .second, .val (.long p3), .second, .val (.int p4), .val (.long z1), .second, .val (.long z2), .second, .val (.long z3), .second, .val (.long z4), .second, .unset, .unset, .unset, .unset, .unset, .unset, .unset, .unset, .unset, .unset, .unset] [(.int p4)]))
  refine Go.by (fun _ => XS.iconst X4.here hx rfl (hb hby at_28)) ?_
  show Go p.tables e below _ (T4.setTop (mkF m 29 #[.val (.long p0), .second, .val (.long p1), .second, .val (.long p2), .second, .val (.long p3), .second, .val (.int p4), .val (.long z1), .second, .val (.long z2), .second, .val (.long z3), .second, .val (.long z4), .second, .unset, .unset, .unset, .unset, .unset, .unset, .unset, .unset, .unset, .unset, .unset] [(.int (1 : Int32)), (.int p4)]))
  refine Go.by (fun _ => XS.iand X4.here hx rfl (hb hby at_29) rfl) ?_
  show Go p.tables e below _ (T4.setTop (mkF m 30 #[.val (.long p0), .second, .val (.long p1), .second, .val (.long p2), .second, .val (.long p3), .second, .val (.int p4), .val (.long z1), .second, .val (.long z2), .second, .val (.long z3), .second, .val (.long z4), .second, .unset, .unset, .unset, .unset, .unset, .unset, .unset, .unset, .unset, .unset, .unset] [(.int (p4 &&& (1 : Int32)))]))
  by_cases hc30_94 : (p4 &&& (1 : Int32)) = (0 : Int32)
  · skip
    refine Go.by (fun _ => XS.ifYes X4.here hx rfl (pc0 := 30) (pc' := 37) rfl (hb hby at_30) rfl ((if0 _ _).trans (teq hc30_94).1) (by decide) (by decide)) ?_
    show Go p.tables e below _ (T4.setTop (mkF m 37 #[.val (.long p0), .second, .val (.long p1), .second, .val (.long p2), .second, .val (.long p3), .second, .val (.int p4), .val (.long z1), .second, .val (.long z2), .second, .val (.long z3), .second, .val (.long z4), .second, .unset, .unset, .unset, .unset, .unset, .unset, .unset, .unset, .unset, .unset, .unset] []))
    refine Go.by (fun _ => XS.iconst X4.here hx rfl (hb hby at_37)) ?_
    show Go p.tables e below _ (T4.setTop (mkF m 38 #[.val (.long p0), .second, .val (.long p1), .second, .val (.long p2), .second, .val (.long p3), .second, .val (.int p4), .val (.long z1), .second, .val (.long z2), .second, .val (.long z3), .second, .val (.long z4), .second, .unset, .unset, .unset, .unset, .unset, .unset, .unset, .unset, .unset, .unset, .unset] [(.int (0 : Int32))]))
    exact J5 _ X4 (0 : Int32) trivial
  · skip
    refine Go.by (fun _ => XS.ifNo X4.here hx rfl (hb hby at_30) rfl ((if0 _ _).trans (feq hc30_94).1)) ?_
    show Go p.tables e below _ (T4.setTop (mkF m 33 #[.val (.long p0), .second, .val (.long p1), .second, .val (.long p2), .second, .val (.long p3), .second, .val (.int p4), .val (.long z1), .second, .val (.long z2), .second, .val (.long z3), .second, .val (.long z4), .second, .unset, .unset, .unset, .unset, .unset, .unset, .unset, .unset, .unset, .unset, .unset] []))
    refine Go.by (fun _ => XS.iconst X4.here hx rfl (hb hby at_33)) ?_
    show Go p.tables e below _ (T4.setTop (mkF m 34 #[.val (.long p0), .second, .val (.long p1), .second, .val (.long p2), .second, .val (.long p3), .second, .val (.int p4), .val (.long z1), .second, .val (.long z2), .second, .val (.long z3), .second, .val (.long z4), .second, .unset, .unset, .unset, .unset, .unset, .unset, .unset, .unset, .unset, .unset, .unset] [(.int (1 : Int32))]))
    refine Go.by (fun _ => XS.goto X4.here hx rfl (pc0 := 34) (pc' := 38) rfl (hb hby at_34) (by decide) (by decide)) ?_
    show Go p.tables e below _ (T4.setTop (mkF m 38 #[.val (.long p0), .second, .val (.long p1), .second, .val (.long p2), .second, .val (.long p3), .second, .val (.int p4), .val (.long z1), .second, .val (.long z2), .second, .val (.long z3), .second, .val (.long z4), .second, .unset, .unset, .unset, .unset, .unset, .unset, .unset, .unset, .unset, .unset, .unset] [(.int (1 : Int32))]))
    exact J5 _ X4 (1 : Int32) trivial
set_option maxRecDepth 65536 in
set_option maxHeartbeats 40000000 in
theorem comes_1 {Post : Tables → Env → Array Value → State → Outcome → State → Prop} (hpost : ∀ tb e args s v u, (limb_1_1.after args s (.returned v) u = true ∧ limb_1_2.after args s (.returned v) u = true ∧ True) → FrameEnd s (.returned v) u (Jvm.fieldLocs frame_1_writes args s ++ Jvm.arrayLocs frame_1_arrays args s ++ Jvm.staticLocs frame_1_statics s) 16 192 → Post tb e args s (.returned v) u) :
    ArmFor flags0 classFile x code maxLocals ret World_1 tables_1 room_1 Calls_1 rest_1 Pre_1 Post := by
  intro l hfl _ _ p e ha hc hk s m args below hf hA hF happ hP
  obtain ⟨hcalls, hrest, hpre⟩ := hP
  obtain ⟨-, -, -, hnamed, -, -, -, hat⟩ := (Spec.applies_iff hf).mp happ
  obtain ⟨hg, hn⟩ := and_e (Cond.before_iff.mp (show (Jvm.Cond.and given_1 narrow_1).before args s = true from hpre))
  obtain ⟨gc, gr0⟩ := and_e hg
  obtain ⟨ga0, gr1⟩ := and_e gr0
  obtain ⟨ga1, gr2⟩ := and_e gr1
  obtain ⟨ga2, gr3⟩ := and_e gr2
  obtain ⟨ga3, ga4⟩ := and_e gr3
  obtain ⟨w0, w1, w2, w3, w4, rfl⟩ : ∃ w0 w1 w2 w3 w4 : Value, args = #[w0, w1, w2, w3, w4] := by
    have hs : args.size = 5 := by simpa [Cond.value, given_1] using gc
    obtain ⟨L⟩ := args
    match L, hs with
    | [w0, w1, w2, w3, w4], _ => exact ⟨w0, w1, w2, w3, w4, rfl⟩
  have hw := fun d (hd : d ∈ tables_1) => atoms_spec (ws := Jvm.Cond.code x code maxLocals ret :: tables_1) hat d (List.mem_cons_of_mem _ hd)
  have hfit : Fit s := fun {y c} hc i hi => by
    obtain ⟨ha, rfl⟩ := Array.getElem?_eq_some_iff.mp hc
    have q := List.all_eq_true.mp ((Array.all_eq_true_iff_forall_mem.mp hF) _ (Array.getElem_mem ha)) i (List.mem_range.mpr hi)
    simpa [Array.getElem?_eq_getElem hi] using q
  obtain ⟨i0, ei0⟩ := isL_v ga0
  obtain rfl : w0 = (.long i0) := Option.some.inj ei0
  obtain ⟨i1, ei1⟩ := isL_v ga1
  obtain rfl : w1 = (.long i1) := Option.some.inj ei1
  obtain ⟨i2, ei2⟩ := isL_v ga2
  obtain rfl : w2 = (.long i2) := Option.some.inj ei2
  obtain ⟨i3, ei3⟩ := isL_v ga3
  obtain rfl : w3 = (.long i3) := Option.some.inj ei3
  obtain ⟨i4, ei4⟩ := is_v ga4
  obtain rfl : w4 = (.int i4) := Option.some.inj ei4
  obtain ⟨n, o, h1, h2, h3, _, L, rfl, ⟨rfl, N⟩, hq⟩ := rm0 l s _ hw tables_1 i0 i1 i2 i3 i4 s.heap s.heap.size (Nat.le_refl _) p e ha hc hk s m _ below hf ((Spec.applies_iff_loose hf).mp happ).1 ⟨rfl, State.Warmed39.refl s, rfl⟩ trivial
  refine ⟨n, _, h1, h2, h3, hpost _ _ _ _ _ _ ⟨Cond.after_iff.mpr rfl, Cond.after_iff.mpr (eq_i res_at (Term.int_eval (1)) rfl), trivial⟩ ⟨hq.1, hq.2.1, (hq.2.2.sift fun y hy => Or.inr (N y hy)).mono (by decide) (by decide)⟩⟩
theorem main_1_1 : Claimed_1_1 := comes_1 fun _ _ _ _ _ _ h hF => ⟨h.1, hF⟩
theorem main_1_2 : Claimed_1_2 := comes_1 fun _ _ _ _ _ _ h hF => ⟨h.2.1, hF⟩
end Jvm.Pilot.@@N@@
namespace Jvm.Pilot.@@N@@
open Jvm Jvm.ClassFile Sem Op Lib Jvm.Free Jvm.Stand Jvm.Pilot.@@N@@.Jvm.D
/-! MADE BY PROGRAM (witnessworld.py) out of the Statement's table words and the real class files: 11 classes; the members and pool entries that the words name. The judged class is class 1, her method 4. -/
namespace start1
open Jvm.ClassFile
def u (s : String) : CpInfo := .utf8 (stringToUtf16 s)
/-- a pool by its gaps: so many unusable entries, then the entry; so many at the end -/
def gap : Nat → List CpInfo → List CpInfo
  | 0, r => r
  | n + 1, r => .unusable :: gap n r
def poolList (es : List (Nat × CpInfo)) (last : Nat) : List CpInfo := es.foldr (fun e r => gap e.1 (e.2 :: r)) (gap last [])
def pool (es : List (Nat × CpInfo)) (last : Nat) : Array CpInfo := ⟨poolList es last⟩
def fileOf (pool : Array CpInfo) (this : Nat) (attrs : Array Attribute := #[]) (ms : Array MethodInfo := #[]) (fl : Nat := 33) (sup : Nat := 0) (ifs : Array Nat := #[]) (fds : Array FieldInfo := #[]) : ClassFile where
  minorVersion := 0
  majorVersion := 65
  constantPool := pool
  accessFlags := fl
  thisClass := this
  superClass := sup
  interfaces := ifs
  fields := fds
  methods := ms
  attributes := attrs
def plain (name : String) (sup : Option ClassId) : Class where
  name := name
  kind := .ordinary
  loader := none
  accessFlags := 33
  super := sup
  interfaces := #[]
  cf := none
  fields := #[]
  methods := #[]
  instanceTypes := #[]
  staticTypes := #[]
  resolved := #[]
  callSites := []
  init := .initialized
  statics := none
  mirror := none

def pool0 : Array CpInfo := pool [(5, u "<init>"), (0, u "()V"), (1, .class_ 10), (1, u "java/lang/Object")] 113

def k0c0 : Code := { maxStack := 0, maxLocals := 1, code := object_method_1_code, exceptionTable := #[], attributes := #[] }
def k0m0 : Method := { name := "<init>", desc := "()V", sig := { parameters := [], returnType := none }, accessFlags := 1, code := some k0c0 }
/-- java/lang/Object -/
def k0 : Class := { plain "java/lang/Object" none with
  accessFlags := 33
  interfaces := #[]
  cf := some (fileOf pool0 8 #[] #[{ accessFlags := 1, nameIndex := 5, descriptorIndex := 6, attributes := #[] }] 33 0 #[] #[])
  fields := #[]
  methods := #[k0m0]
  instanceTypes := #[]
  staticTypes := #[]
  resolved := Array.replicate 124 none
  statics := none }

def pool1 : Array CpInfo := pool [(2, .class_ 4), (0, .nameAndType 5 6), (0, u "java/lang/Object"), (0, u "<init>"), (0, u "()V"), (0, .methodref 8 9), (0, .class_ 10), (0, .nameAndType 11 12), (0, u "com/example/shrike/shrike/store/LongMapKeysPinLaw"), (0, u "fix"), (0, u "(J)J"), (0, .class_ 14), (0, u "com/example/shrike/shrike/store/LongMap"), (0, .methodref 13 3), (0, .long 7), (1, .methodref 13 19), (0, .nameAndType 20 21), (0, u "put"), (0, u "(JJ)J"), (0, .methodref 13 23), (0, .nameAndType 24 12), (0, u "remove"), (0, .methodref 13 26), (0, .nameAndType 27 28), (0, u "keys"), (0, u "()[J"), (0, .methodref 8 30), (0, .nameAndType 31 32), (0, u "present"), (0, u "(JZJZJZJZJ)Z"), (0, .methodref 8 34), (0, .nameAndType 35 36), (0, u "occ"), (0, u "([JJ)I"), (3, u "law"), (0, u "(JJJJI)Z")] 4

def k1m0 : Method := { name := "<init>", desc := "()V", sig := { parameters := [], returnType := none }, accessFlags := 1, code := none }
def k1c1 : Code := { maxStack := 4, maxLocals := 2, code := method_2_code, exceptionTable := #[], attributes := #[] }
def k1m1 : Method := { name := "fix", desc := "(J)J", sig := { parameters := [.long], returnType := some .long }, accessFlags := 10, code := some k1c1 }
def k1c2 : Code := { maxStack := 4, maxLocals := 4, code := method_3_code, exceptionTable := #[], attributes := #[] }
def k1m2 : Method := { name := "occ", desc := "([JJ)I", sig := { parameters := [(.array .long), .long], returnType := some .int }, accessFlags := 10, code := some k1c2 }
def k1c3 : Code := { maxStack := 4, maxLocals := 15, code := method_4_code, exceptionTable := #[], attributes := #[] }
def k1m3 : Method := { name := "present", desc := "(JZJZJZJZJ)Z", sig := { parameters := [.long, .boolean, .long, .boolean, .long, .boolean, .long, .boolean, .long], returnType := some .boolean }, accessFlags := 10, code := some k1c3 }
def k1c4 : Code := { maxStack := 14, maxLocals := 28, code := code, exceptionTable := #[], attributes := #[] }
def k1m4 : Method := { name := "law", desc := "(JJJJI)Z", sig := { parameters := [.long, .long, .long, .long, .int], returnType := some .boolean }, accessFlags := 9, code := some k1c4 }
/-- com/example/shrike/shrike/store/LongMapKeysPinLaw -/
def k1 : Class := { plain "com/example/shrike/shrike/store/LongMapKeysPinLaw" (some 0) with
  accessFlags := 49
  interfaces := #[]
  cf := some (fileOf pool1 8 #[] #[{ accessFlags := 1, nameIndex := 5, descriptorIndex := 6, attributes := #[] }, { accessFlags := 10, nameIndex := 11, descriptorIndex := 12, attributes := #[] }, { accessFlags := 10, nameIndex := 35, descriptorIndex := 36, attributes := #[] }, { accessFlags := 10, nameIndex := 31, descriptorIndex := 32, attributes := #[] }, { accessFlags := 9, nameIndex := 40, descriptorIndex := 41, attributes := #[] }] 49 2 #[] #[])
  fields := #[]
  methods := #[k1m0, k1m1, k1m2, k1m3, k1m4]
  instanceTypes := #[]
  staticTypes := #[]
  resolved := Array.replicate 46 none
  statics := none }

def pool2 : Array CpInfo := pool [(1, .methodref 2 3), (0, .class_ 4), (0, .nameAndType 5 6), (0, u "java/lang/Object"), (0, u "<init>"), (0, u "()V"), (0, .class_ 8), (0, u "com/example/shrike/shrike/store/LongMap"), (0, .fieldref 7 10), (0, .nameAndType 11 12), (0, u "slots"), (0, u "[J"), (0, .methodref 7 14), (0, .nameAndType 15 16), (0, u "find"), (0, u "(J)I"), (7, .fieldref 7 25), (0, .nameAndType 26 27), (0, u "size"), (0, u "I"), (4, .methodref 7 33), (0, .nameAndType 34 35), (0, u "place"), (0, u "(JJ)V"), (0, .methodref 7 37), (0, .nameAndType 38 39), (0, u "isDisplaced"), (0, u "(II)Z"), (0, .fieldref 7 41), (0, .nameAndType 42 43), (0, u "mixed"), (0, u "Z"), (2, .methodref 7 47), (0, .nameAndType 48 49), (0, u "home"), (0, u "(JI)I"), (0, .methodref 7 51), (0, .nameAndType 52 53), (0, u "displacement"), (0, u "(II)I"), (0, .long 11400714819323198485), (1, u "MIN_CAPACITY"), (2, u "MOST_DISPLACED"), (4, u "(J)J"), (3, u "put"), (0, u "(JJ)J"), (0, u "remove"), (1, u "keys"), (0, u "()[J")] 4

def k2c0 : Code := { maxStack := 2, maxLocals := 1, code := prog_46_method_1_code, exceptionTable := #[], attributes := #[] }
def k2m0 : Method := { name := "<init>", desc := "()V", sig := { parameters := [], returnType := none }, accessFlags := 1, code := some k2c0 }
def k2c1 : Code := { maxStack := 5, maxLocals := 8, code := prog_46_method_4_code, exceptionTable := #[], attributes := #[] }
def k2m1 : Method := { name := "put", desc := "(JJ)J", sig := { parameters := [.long, .long], returnType := some .long }, accessFlags := 1, code := some k2c1 }
def k2c2 : Code := { maxStack := 5, maxLocals := 8, code := prog_46_method_5_code, exceptionTable := #[], attributes := #[] }
def k2m2 : Method := { name := "remove", desc := "(J)J", sig := { parameters := [.long], returnType := some .long }, accessFlags := 1, code := some k2c2 }
def k2c3 : Code := { maxStack := 4, maxLocals := 4, code := prog_46_method_7_code, exceptionTable := #[], attributes := #[] }
def k2m3 : Method := { name := "keys", desc := "()[J", sig := { parameters := [], returnType := some (.array .long) }, accessFlags := 1, code := some k2c3 }
def k2c4 : Code := { maxStack := 4, maxLocals := 6, code := prog_46_method_9_code, exceptionTable := #[], attributes := #[] }
def k2m4 : Method := { name := "find", desc := "(J)I", sig := { parameters := [.long], returnType := some .int }, accessFlags := 2, code := some k2c4 }
def k2c5 : Code := { maxStack := 5, maxLocals := 17, code := prog_46_method_10_code, exceptionTable := #[], attributes := #[] }
def k2m5 : Method := { name := "place", desc := "(JJ)V", sig := { parameters := [.long, .long], returnType := none }, accessFlags := 2, code := some k2c5 }
def k2c6 : Code := { maxStack := 4, maxLocals := 3, code := prog_46_method_12_code, exceptionTable := #[], attributes := #[] }
def k2m6 : Method := { name := "isDisplaced", desc := "(II)Z", sig := { parameters := [.int, .int], returnType := some .boolean }, accessFlags := 2, code := some k2c6 }
def k2c7 : Code := { maxStack := 5, maxLocals := 3, code := prog_46_method_13_code, exceptionTable := #[], attributes := #[] }
def k2m7 : Method := { name := "displacement", desc := "(II)I", sig := { parameters := [.int, .int], returnType := some .int }, accessFlags := 2, code := some k2c7 }
def k2c8 : Code := { maxStack := 5, maxLocals := 8, code := prog_46_method_14_code, exceptionTable := #[], attributes := #[] }
def k2m8 : Method := { name := "home", desc := "(JI)I", sig := { parameters := [.long, .int], returnType := some .int }, accessFlags := 2, code := some k2c8 }
/-- com/example/shrike/shrike/store/LongMap -/
def k2 : Class := { plain "com/example/shrike/shrike/store/LongMap" (some 0) with
  accessFlags := 33
  interfaces := #[]
  cf := some (fileOf pool2 7 #[] #[{ accessFlags := 1, nameIndex := 5, descriptorIndex := 6, attributes := #[] }, { accessFlags := 1, nameIndex := 68, descriptorIndex := 69, attributes := #[] }, { accessFlags := 1, nameIndex := 70, descriptorIndex := 64, attributes := #[] }, { accessFlags := 1, nameIndex := 72, descriptorIndex := 73, attributes := #[] }, { accessFlags := 2, nameIndex := 15, descriptorIndex := 16, attributes := #[] }, { accessFlags := 2, nameIndex := 34, descriptorIndex := 35, attributes := #[] }, { accessFlags := 2, nameIndex := 38, descriptorIndex := 39, attributes := #[] }, { accessFlags := 2, nameIndex := 52, descriptorIndex := 53, attributes := #[] }, { accessFlags := 2, nameIndex := 48, descriptorIndex := 49, attributes := #[] }] 33 2 #[] #[{ accessFlags := 26, nameIndex := 56, descriptorIndex := 27, attributes := #[] }, { accessFlags := 26, nameIndex := 59, descriptorIndex := 27, attributes := #[] }, { accessFlags := 2, nameIndex := 11, descriptorIndex := 12, attributes := #[] }, { accessFlags := 2, nameIndex := 26, descriptorIndex := 27, attributes := #[] }, { accessFlags := 2, nameIndex := 42, descriptorIndex := 43, attributes := #[] }])
  fields := #[{ name := "MIN_CAPACITY", type := .int, accessFlags := 26, slot := 0, constantValue := 0 }, { name := "MOST_DISPLACED", type := .int, accessFlags := 26, slot := 1, constantValue := 0 }, { name := "slots", type := (.array .long), accessFlags := 2, slot := 0, constantValue := 0 }, { name := "size", type := .int, accessFlags := 2, slot := 1, constantValue := 0 }, { name := "mixed", type := .boolean, accessFlags := 2, slot := 2, constantValue := 0 }]
  methods := #[k2m0, k2m1, k2m2, k2m3, k2m4, k2m5, k2m6, k2m7, k2m8]
  instanceTypes := #[(.array .long), .int, .boolean]
  staticTypes := #[.int, .int]
  resolved := Array.replicate 78 none
  statics := none }

def pool3 : Array CpInfo := pool [(1, u "java/lang/Cloneable"), (0, .class_ 1), (0, u "java/lang/Object"), (0, .class_ 3)] 3

/-- java/lang/Cloneable -/
def k3 : Class := { plain "java/lang/Cloneable" (some 0) with
  accessFlags := 1537
  interfaces := #[]
  cf := some (fileOf pool3 2 #[] #[] 1537 4 #[] #[])
  fields := #[]
  methods := #[]
  instanceTypes := #[]
  staticTypes := #[]
  resolved := Array.replicate 8 none
  statics := none }

def pool4 : Array CpInfo := pool [(1, u "java/io/Serializable"), (0, .class_ 1), (0, u "java/lang/Object"), (0, .class_ 3)] 3

/-- java/io/Serializable -/
def k4 : Class := { plain "java/io/Serializable" (some 0) with
  accessFlags := 1537
  interfaces := #[]
  cf := some (fileOf pool4 2 #[] #[] 1537 4 #[] #[])
  fields := #[]
  methods := #[]
  instanceTypes := #[]
  staticTypes := #[]
  resolved := Array.replicate 8 none
  statics := none }

/-- the primitive byte -/
def k5 : Class := { plain "byte" none with kind := .primitive 'B', accessFlags := 0x411 }
/-- [B -/
def k6 : Class := { plain "[B" (some 0) with kind := .array 5 .byte, interfaces := #[3, 4], accessFlags := 1041 }

/-- the primitive int -/
def k7 : Class := { plain "int" none with kind := .primitive 'I', accessFlags := 0x411 }
/-- [I -/
def k8 : Class := { plain "[I" (some 0) with kind := .array 7 .int, interfaces := #[3, 4], accessFlags := 1041 }

/-- the primitive long -/
def k9 : Class := { plain "long" none with kind := .primitive 'J', accessFlags := 0x411 }
/-- [J -/
def k10 : Class := { plain "[J" (some 0) with kind := .array 9 .long, interfaces := #[3, 4], accessFlags := 1041 }

def heap : Heap := #[]
def classes : Array Class := #[k0, k1, k2, k3, k4, k5, k6, k7, k8, k9, k10]
def interned : List (Array UInt16 × Addr) := []
def slotsUsed : Nat := 0
def theMethod : MethodId := ⟨1, 4⟩
def args0 : Array Value := #[.long 5, .long 21, .long 37, .long 21, .int 15]
def aboutOver (below : List Frame) : State where
  vm := { classes := classes, interned := interned.toArray }
  heap := heap
  slotsUsed := slotsUsed
  threads := #[{ frames := .invoking theMethod args0 :: below }]
def below0 : List Frame := [.native { method := ⟨0, 0⟩, args := #[] }]
def about1 : State := aboutOver below0
def p0 : Program := .bare "" "" ""
def e0 : Env := launch0.env 0 0 0
theorem w_frames : about1.frames = Frame.invoking theMethod args0 :: below0 := rfl
set_option maxRecDepth 65536 in
theorem w_args : argsFit about1.vm theMethod args0 = true := by decide +kernel
set_option maxRecDepth 65536 in
theorem w_heap : heapFits about1 = true := by decide +kernel
set_option maxRecDepth 65536 in
theorem w_runnable : about1.curStatus? = some .runnable := by decide +kernel
set_option maxRecDepth 65536 in
theorem w_alone : about1.alone = true := by decide +kernel
set_option maxRecDepth 65536 in
theorem w_named : about1.methodNamed? x = some theMethod := by decide +kernel
set_option maxRecDepth 65536 in
theorem w_hears : about1.hears theMethod below0 = true := by decide +kernel
set_option maxRecDepth 65536 in
theorem w_ripe : about1.ripe theMethod args0 below0 = true := by decide +kernel
theorem w_running : about1.status = .running := rfl
set_option maxRecDepth 65536 in
theorem w_room : about1.hasRoom e0.platform room_1 = true :=
  launch0.hasRoom_least _ room_1 (by decide +kernel) (by decide +kernel) (by decide +kernel) (by decide +kernel) (by decide +kernel) (by decide +kernel)
theorem allAtoms_all (ts : List Jvm.Cond) (a : Array Jvm.Value) (st : Jvm.State) : (allAtoms ts).before a st = ts.all (fun c => c.before a st) := by
  induction ts with
  | nil => rfl
  | cons c t ih =>
    show (Jvm.Cond.and c (allAtoms t)).before a st = _
    rw [Jvm.Cond.before_and, ih, List.all_cons]
def words1 : List Jvm.Cond := Jvm.Cond.code x code maxLocals ret :: tables_1
/-- a 'code' word, met by the world's own term for the bytes: nothing is compared byte by byte -/
theorem code_word {y : MethodName} {bytes : ByteArray} {mx : Nat} {rt : Option FieldType} {a : Array Value} {s : State} {m : MethodId} {meth : Method} {c : Code} (h1 : s.methodNamed? y = some m) (h2 : s.vm.method? m = some meth) (h3 : meth.code = some c) (h4 : c.code = bytes)
    (h5 : (c.maxLocals == mx && c.exceptionTable.isEmpty && decide (c.maxStack ≤ mostOperands) && decide (meth.sig.returnType = rt) && !meth.locks && decide (parseMethodDescriptor y.desc = some meth.sig)) = true) : (Jvm.Cond.code y bytes mx rt).before a s = true := by
  simp only [Bool.and_eq_true, beq_iff_eq, Bool.not_eq_true', decide_eq_true_eq] at h5
  obtain ⟨⟨⟨⟨⟨g1, g2⟩, g3⟩, g4⟩, g5⟩, g6⟩ := h5
  simp [Cond.before, Cond.holds, Cond.value, h1, h2, h3, h4, g1, g2, g3, g4, g5, g6]
def isCode : Jvm.Cond → Bool
  | .code _ _ _ _ => true
  | _ => false
theorem all_split {L : List Jvm.Cond} {P : Jvm.Cond → Bool} (h1 : L.all (fun c => isCode c || P c) = true) (h2 : ∀ c ∈ L.filter isCode, P c = true) : L.all P = true := by
  refine List.all_eq_true.mpr fun c hc => ?_
  have h := List.all_eq_true.mp h1 c hc
  rcases Bool.eq_false_or_eq_true (isCode c) with hi | hi
  · exact h2 c (List.mem_filter.mpr ⟨hc, hi⟩)
  · simpa [hi] using h
set_option maxRecDepth 65536 in
theorem w_c0 : (Jvm.Cond.code x code maxLocals ret).before args0 about1 = true := code_word (m := ⟨1, 4⟩) (meth := k1m4) (c := k1c4) (by decide +kernel) rfl rfl rfl (by decide +kernel)
set_option maxRecDepth 65536 in
theorem w_c1 : (Jvm.Cond.code ({ cls := "com/example/shrike/shrike/store/LongMapKeysPinLaw", name := "fix", desc := "(J)J" } : Jvm.MethodName) method_2_code (2 : Nat) (Option.some Jvm.ClassFile.FieldType.long)).before args0 about1 = true := code_word (m := ⟨1, 1⟩) (meth := k1m1) (c := k1c1) (by decide +kernel) rfl rfl rfl (by decide +kernel)
set_option maxRecDepth 65536 in
theorem w_c2 : (Jvm.Cond.code ({ cls := "com/example/shrike/shrike/store/LongMap", name := "<init>", desc := "()V" } : Jvm.MethodName) prog_46_method_1_code (1 : Nat) (Option.none : Option Jvm.ClassFile.FieldType)).before args0 about1 = true := code_word (m := ⟨2, 0⟩) (meth := k2m0) (c := k2c0) (by decide +kernel) rfl rfl rfl (by decide +kernel)
set_option maxRecDepth 65536 in
theorem w_c3 : (Jvm.Cond.code ({ cls := "java/lang/Object", name := "<init>", desc := "()V" } : Jvm.MethodName) object_method_1_code (1 : Nat) (Option.none : Option Jvm.ClassFile.FieldType)).before args0 about1 = true := code_word (m := ⟨0, 0⟩) (meth := k0m0) (c := k0c0) (by decide +kernel) rfl rfl rfl (by decide +kernel)
set_option maxRecDepth 65536 in
theorem w_c4 : (Jvm.Cond.code ({ cls := "com/example/shrike/shrike/store/LongMap", name := "put", desc := "(JJ)J" } : Jvm.MethodName) prog_46_method_4_code (8 : Nat) (Option.some Jvm.ClassFile.FieldType.long)).before args0 about1 = true := code_word (m := ⟨2, 1⟩) (meth := k2m1) (c := k2c1) (by decide +kernel) rfl rfl rfl (by decide +kernel)
set_option maxRecDepth 65536 in
theorem w_c5 : (Jvm.Cond.code ({ cls := "com/example/shrike/shrike/store/LongMap", name := "find", desc := "(J)I" } : Jvm.MethodName) prog_46_method_9_code (6 : Nat) (Option.some Jvm.ClassFile.FieldType.int)).before args0 about1 = true := code_word (m := ⟨2, 4⟩) (meth := k2m4) (c := k2c4) (by decide +kernel) rfl rfl rfl (by decide +kernel)
set_option maxRecDepth 65536 in
theorem w_c6 : (Jvm.Cond.code ({ cls := "com/example/shrike/shrike/store/LongMap", name := "home", desc := "(JI)I" } : Jvm.MethodName) prog_46_method_14_code (8 : Nat) (Option.some Jvm.ClassFile.FieldType.int)).before args0 about1 = true := code_word (m := ⟨2, 8⟩) (meth := k2m8) (c := k2c8) (by decide +kernel) rfl rfl rfl (by decide +kernel)
set_option maxRecDepth 65536 in
theorem w_c7 : (Jvm.Cond.code ({ cls := "com/example/shrike/shrike/store/LongMap", name := "place", desc := "(JJ)V" } : Jvm.MethodName) prog_46_method_10_code (17 : Nat) (Option.none : Option Jvm.ClassFile.FieldType)).before args0 about1 = true := code_word (m := ⟨2, 5⟩) (meth := k2m5) (c := k2c5) (by decide +kernel) rfl rfl rfl (by decide +kernel)
set_option maxRecDepth 65536 in
theorem w_c8 : (Jvm.Cond.code ({ cls := "com/example/shrike/shrike/store/LongMap", name := "keys", desc := "()[J" } : Jvm.MethodName) prog_46_method_7_code (4 : Nat) (Option.some (Jvm.ClassFile.FieldType.array Jvm.ClassFile.FieldType.long))).before args0 about1 = true := code_word (m := ⟨2, 3⟩) (meth := k2m3) (c := k2c3) (by decide +kernel) rfl rfl rfl (by decide +kernel)
set_option maxRecDepth 65536 in
theorem w_c9 : (Jvm.Cond.code ({ cls := "com/example/shrike/shrike/store/LongMapKeysPinLaw", name := "present", desc := "(JZJZJZJZJ)Z" } : Jvm.MethodName) method_4_code (15 : Nat) (Option.some Jvm.ClassFile.FieldType.boolean)).before args0 about1 = true := code_word (m := ⟨1, 3⟩) (meth := k1m3) (c := k1c3) (by decide +kernel) rfl rfl rfl (by decide +kernel)
set_option maxRecDepth 65536 in
theorem w_c10 : (Jvm.Cond.code ({ cls := "com/example/shrike/shrike/store/LongMapKeysPinLaw", name := "occ", desc := "([JJ)I" } : Jvm.MethodName) method_3_code (4 : Nat) (Option.some Jvm.ClassFile.FieldType.int)).before args0 about1 = true := code_word (m := ⟨1, 2⟩) (meth := k1m2) (c := k1c2) (by decide +kernel) rfl rfl rfl (by decide +kernel)
set_option maxRecDepth 65536 in
theorem w_c11 : (Jvm.Cond.code ({ cls := "com/example/shrike/shrike/store/LongMap", name := "remove", desc := "(J)J" } : Jvm.MethodName) prog_46_method_5_code (8 : Nat) (Option.some Jvm.ClassFile.FieldType.long)).before args0 about1 = true := code_word (m := ⟨2, 2⟩) (meth := k2m2) (c := k2c2) (by decide +kernel) rfl rfl rfl (by decide +kernel)
set_option maxRecDepth 65536 in
theorem w_c12 : (Jvm.Cond.code ({ cls := "com/example/shrike/shrike/store/LongMap", name := "isDisplaced", desc := "(II)Z" } : Jvm.MethodName) prog_46_method_12_code (3 : Nat) (Option.some Jvm.ClassFile.FieldType.boolean)).before args0 about1 = true := code_word (m := ⟨2, 6⟩) (meth := k2m6) (c := k2c6) (by decide +kernel) rfl rfl rfl (by decide +kernel)
set_option maxRecDepth 65536 in
theorem w_c13 : (Jvm.Cond.code ({ cls := "com/example/shrike/shrike/store/LongMap", name := "displacement", desc := "(II)I" } : Jvm.MethodName) prog_46_method_13_code (3 : Nat) (Option.some Jvm.ClassFile.FieldType.int)).before args0 about1 = true := code_word (m := ⟨2, 7⟩) (meth := k2m7) (c := k2c7) (by decide +kernel) rfl rfl rfl (by decide +kernel)
def codes1 : List Jvm.Cond := [Jvm.Cond.code x code maxLocals ret, Jvm.Cond.code ({ cls := "com/example/shrike/shrike/store/LongMapKeysPinLaw", name := "fix", desc := "(J)J" } : Jvm.MethodName) method_2_code (2 : Nat) (Option.some Jvm.ClassFile.FieldType.long), Jvm.Cond.code ({ cls := "com/example/shrike/shrike/store/LongMap", name := "<init>", desc := "()V" } : Jvm.MethodName) prog_46_method_1_code (1 : Nat) (Option.none : Option Jvm.ClassFile.FieldType), Jvm.Cond.code ({ cls := "java/lang/Object", name := "<init>", desc := "()V" } : Jvm.MethodName) object_method_1_code (1 : Nat) (Option.none : Option Jvm.ClassFile.FieldType), Jvm.Cond.code ({ cls := "com/example/shrike/shrike/store/LongMap", name := "put", desc := "(JJ)J" } : Jvm.MethodName) prog_46_method_4_code (8 : Nat) (Option.some Jvm.ClassFile.FieldType.long), Jvm.Cond.code ({ cls := "com/example/shrike/shrike/store/LongMap", name := "find", desc := "(J)I" } : Jvm.MethodName) prog_46_method_9_code (6 : Nat) (Option.some Jvm.ClassFile.FieldType.int), Jvm.Cond.code ({ cls := "com/example/shrike/shrike/store/LongMap", name := "home", desc := "(JI)I" } : Jvm.MethodName) prog_46_method_14_code (8 : Nat) (Option.some Jvm.ClassFile.FieldType.int), Jvm.Cond.code ({ cls := "com/example/shrike/shrike/store/LongMap", name := "place", desc := "(JJ)V" } : Jvm.MethodName) prog_46_method_10_code (17 : Nat) (Option.none : Option Jvm.ClassFile.FieldType), Jvm.Cond.code ({ cls := "com/example/shrike/shrike/store/LongMap", name := "keys", desc := "()[J" } : Jvm.MethodName) prog_46_method_7_code (4 : Nat) (Option.some (Jvm.ClassFile.FieldType.array Jvm.ClassFile.FieldType.long)), Jvm.Cond.code ({ cls := "com/example/shrike/shrike/store/LongMapKeysPinLaw", name := "present", desc := "(JZJZJZJZJ)Z" } : Jvm.MethodName) method_4_code (15 : Nat) (Option.some Jvm.ClassFile.FieldType.boolean), Jvm.Cond.code ({ cls := "com/example/shrike/shrike/store/LongMapKeysPinLaw", name := "occ", desc := "([JJ)I" } : Jvm.MethodName) method_3_code (4 : Nat) (Option.some Jvm.ClassFile.FieldType.int), Jvm.Cond.code ({ cls := "com/example/shrike/shrike/store/LongMap", name := "remove", desc := "(J)J" } : Jvm.MethodName) prog_46_method_5_code (8 : Nat) (Option.some Jvm.ClassFile.FieldType.long), Jvm.Cond.code ({ cls := "com/example/shrike/shrike/store/LongMap", name := "isDisplaced", desc := "(II)Z" } : Jvm.MethodName) prog_46_method_12_code (3 : Nat) (Option.some Jvm.ClassFile.FieldType.boolean), Jvm.Cond.code ({ cls := "com/example/shrike/shrike/store/LongMap", name := "displacement", desc := "(II)I" } : Jvm.MethodName) prog_46_method_13_code (3 : Nat) (Option.some Jvm.ClassFile.FieldType.int)]
set_option maxRecDepth 65536 in
theorem codes_eq : words1.filter isCode = codes1 := rfl
theorem w_codes : ∀ c ∈ words1.filter isCode, c.before args0 about1 = true := by
  rw [codes_eq]
  intro c hc
  simp only [codes1, List.mem_cons, List.not_mem_nil, or_false] at hc
  rcases hc with rfl | rfl | rfl | rfl | rfl | rfl | rfl | rfl | rfl | rfl | rfl | rfl | rfl | rfl
  · exact w_c0
  · exact w_c1
  · exact w_c2
  · exact w_c3
  · exact w_c4
  · exact w_c5
  · exact w_c6
  · exact w_c7
  · exact w_c8
  · exact w_c9
  · exact w_c10
  · exact w_c11
  · exact w_c12
  · exact w_c13
set_option maxRecDepth 65536 in
theorem w_t1 : (words1.take 24).all (fun c => isCode c || c.before args0 about1) = true := by decide +kernel
set_option maxRecDepth 65536 in
theorem w_t2 : ((words1.drop 24).take 24).all (fun c => isCode c || c.before args0 about1) = true := by decide +kernel
set_option maxRecDepth 65536 in
theorem w_t3 : ((words1.drop 24).drop 24).all (fun c => isCode c || c.before args0 about1) = true := by decide +kernel
theorem w_tables : (allAtoms (Jvm.Cond.code x code maxLocals ret :: tables_1)).before args0 about1 = true := by
  rw [allAtoms_all]
  show words1.all (fun c => c.before args0 about1) = true
  refine all_split ?_ w_codes
  rw [← List.take_append_drop 24 words1, List.all_append, w_t1, ← List.take_append_drop 24 (words1.drop 24), List.all_append, w_t2, w_t3]
  rfl
set_option maxRecDepth 65536 in
theorem w_case : (Jvm.Cond.and given_1 narrow_1).before args0 about1 = true := by decide +kernel
theorem w_applies : (headSpec (Jvm.Cond.code x code maxLocals ret :: tables_1) room_1).applies x e0.platform about1 = true :=
  (Spec.applies_iff w_frames).mpr ⟨w_running, w_runnable, w_alone, w_named, w_hears, w_ripe, w_room, w_tables⟩
theorem atStart : AtStart classFile x code maxLocals ret World_1 tables_1 room_1 Calls_1 rest_1 Pre_1 launch0 p0 e0 about1 theMethod args0 below0 :=
  ⟨lists_1, trivial, launch0.admits_env _ _ _, launch0.least_env, fairChoices_fair.cas, fairChoices_fair.clock, w_frames, w_args, w_heap, w_applies, trivial, trivial, w_case⟩
end start1
theorem witness_1 : WitnessClaimed_1 := ⟨start1.p0, start1.e0, start1.about1, start1.theMethod, start1.args0, start1.below0, start1.atStart⟩
end Jvm.Pilot.@@N@@
