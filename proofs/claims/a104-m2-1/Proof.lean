import JvmDerived
import JvmDerived.Pilot.@@N@@Statement
import JvmDerived.Pilot.@@N@@Code
set_option linter.unusedVariables false
set_option linter.unusedSimpArgs false
namespace Jvm.RoadKit
open Sem ClassFile Op Lib Jvm.Stand Jvm.Free Jvm.LawKit
/-- the run from S ends, and ends as Q says -/
def Go (tb : Tables) (e : Env) (below : List Frame) (Q : Outcome → State → Prop) (S : State) : Prop := ∃ s₂ o, Steps tb e below S s₂ ∧ s₂.status = .running ∧ Ended s₂ below o ∧ Q o s₂
theorem Go.by {tb : Tables} {e : Env} {below : List Frame} {Q : Outcome → State → Prop} {S S' : State} (h : ∀ t, Steps tb e below S' t → Steps tb e below S t) (k : Go tb e below Q S') : Go tb e below Q S := by
  obtain ⟨s₂, o, h1, r⟩ := k
  exact ⟨s₂, o, h _ h1, r⟩
/-- what a contract says of the end -/
def Ret (s : State) (n0 : Nat) (Q : Option Value → Heap → Prop) (C S : Nat) : Outcome → State → Prop := fun o U => ∃ v L, o = .returned v ∧ (Q v U.heap ∧ Fr n0 L) ∧ FrameEnd s o U L C S
def Met (l : Launch) (Z : State) (n0 : Nat) (y : MethodName) (bytes : ByteArray) (maxL : Nat) (ret : Option FieldType) (ws : List Cond) (rm : Room) (as : Array Value) (h0 : Heap) (Q : Option Value → Heap → Prop) : Prop :=
  MetFree l y (head1 (Cond.code y bytes maxL ret :: ws) rm) (fun a U => a = as ∧ Z.Warmed39 U.vm ∧ U.heap = h0) (fun _ _ _ _ _ => True) (fun _ U o U' => ∃ v L, o = .returned v ∧ (Q v U'.heap ∧ Fr n0 L) ∧ FrameEnd U o U' L rm.cells rm.slots)
/-- where the walk stands: the heap is h, k cells of n slots were made, nothing below n0 was written -/
def Sd (n0 : Nat) (p : Program) (l : Launch) (e : Env) (R : Room) (s : State) (m : MethodId) (args : Array Value) (below : List Frame) (meth : Method) (c : Code) (T : State) (h : Heap) (k n : Nat) : Prop :=
  ∃ locs, Stand p l e R s m args below meth c T locs k n ∧ Fr n0 locs ∧ T.heap = h
section Sds
variable {n0 : Nat} {p : Program} {l : Launch} {e : Env} {R : Room} {s : State} {m : MethodId} {args : Array Value} {below : List Frame} {meth : Method} {c : Code} {T : State} {h : Heap} {k n : Nat} {Z : State} {a0 : Array Value}
theorem catV {v : Value} (h : v.isRef = true) : v.category = 1 := by cases v <;> first | rfl | (cases h; done)
theorem Sd.here (X : Sd n0 p l e R s m args below meth c T h k n) : At T m c below := by obtain ⟨_, X, -⟩ := X; exact X.here
theorem Sd.more (X : Sd n0 p l e R s m args below meth c T h k n) {k' n' : Nat} (hk : k ≤ k') (hn : n ≤ n') : Sd n0 p l e R s m args below meth c T h k' n' := by
  obtain ⟨L, X, N, q⟩ := X; exact ⟨L, X.more hk hn, N, q⟩
theorem enter {y : MethodName} {bytes : ByteArray} {maxL : Nat} {ret : Option FieldType} {ws : List Cond} {rm : Room} {as : Array Value} {h0 : Heap} {Q : Option Value → Heap → Prop} {Ls : Array Slot}
    (hpl : plainFor y = true) (hef : ∀ m, entryFrame m as maxL = mkF m 0 Ls [])
    (body : ∀ (p : Program) (e : Env) (s : State) (m : MethodId) (below : List Frame) (meth : Method) (c : Code) (T0 : State), p.tables.exec = Jvm.exec → c.code = bytes → c.maxLocals = maxL → s.vm.findClass y.cls = some m.cls → meth.name = y.name → meth.sig.returnType = ret → meth.locks = false → Z.Warmed39 s.vm →
      Sd n0 p l e rm s m as below meth c T0 h0 0 0 → Go p.tables e below (Ret s n0 Q rm.cells rm.slots) (T0.setTop (mkF m 0 Ls []))) : Met l Z n0 y bytes maxL ret ws rm as h0 Q := by
  refine MetFree.of_bodySF hpl hisR ?_
  intro p e s m args below meth c s₁ Bd hml0 hP hK
  obtain ⟨rfl, hZ, hh⟩ := hP
  have X0 : Stand p l e rm s m args below meth c s₁ [] 0 0 := Stand.of_body Bd
  have e0 : s₁.heap = h0 := by rw [← hh, Bd.state]; rfl
  have hlk : meth.locks = false := BodyLoose.notSynchronized Bd
  have k := body p e s m below meth c s₁ Bd.exec Bd.bytes hml0 (findClass_of_methodNamed Bd.named) (name_of_methodNamed Bd.named Bd.method).1 Bd.returns hlk hZ ⟨[], X0, Fr.nil n0, e0⟩
  obtain ⟨s₂, o, h1, h2, h3, h4⟩ := k
  exact ⟨s₂, o, castTop (hef m) h1, h2, h3, h4⟩
/-! returns -/
theorem Go.leave (X : Sd n0 p l e R s m args below meth c T h k n) {Q : Option Value → Heap → Prop} {C S : Nat} {v : Option Value} {g : JFrame} (hlk : meth.locks = false) (hv : meth.sig.returnType = none → v = none)
    (hst : ∀ fs, (∀ (f : JFrame) (acts : List Action), f.method = m → f.locked = none → f.entered = [] → (doReturn e (T.setTop f) acts v).1 = T.setFrames fs) → Steps p.tables e below (T.setTop g) (T.setFrames fs))
    (hk : k ≤ C) (hn : n ≤ S) (hQ : Q v h) : Go p.tables e below (Ret s n0 Q C S) (T.setTop g) := by
  obtain ⟨L, X, N, q⟩ := X
  obtain ⟨fs, hr, hrun, hended, hW, hsame⟩ := X.leave (v := v) hv hlk
  refine ⟨_, _, hst fs hr, hrun, hended, _, L, rfl, ⟨?_, N⟩, ⟨_, rfl⟩, hW, hsame.mono hk hn⟩
  show Q v T.heap
  rw [q]; exact hQ
theorem Go.retN (X : Sd n0 p l e R s m args below meth c T h k n) (hx : p.tables.exec = Jvm.exec) (hlk : meth.locks = false) {Q : Option Value → Heap → Prop} {C S : Nat} {t : FieldType} {pc : Nat} {Ls : Array Slot} {z z' : Int32} {rest : List Value} (hret : meth.sig.returnType = some t) (ht : t = .boolean ∨ t = .byte ∨ t = .char ∨ t = .short)
    (hd : decode c.code pc = .ok (.ireturn, 1)) (hz : nar t z = z') (hk : k ≤ C) (hn : n ≤ S) (hQ : Q (some (.int z')) h) : Go p.tables e below (Ret s n0 Q C S) (T.setTop (mkF m pc Ls (.int z :: rest))) := by
  subst hz
  refine Go.leave X hlk (fun q => by rw [hret] at q; cases q) (fun fs hr => ?_) hk hn hQ
  obtain ⟨L, X, -⟩ := X
  exact Jvm.RoadKit.retN X hx hret ht hd hr
theorem Go.retI (X : Sd n0 p l e R s m args below meth c T h k n) (hx : p.tables.exec = Jvm.exec) (hlk : meth.locks = false) {Q : Option Value → Heap → Prop} {C S : Nat} {pc : Nat} {Ls : Array Slot} {z : Int32} {rest : List Value} (hret : meth.sig.returnType = some .int)
    (hd : decode c.code pc = .ok (.ireturn, 1)) (hk : k ≤ C) (hn : n ≤ S) (hQ : Q (some (.int z)) h) : Go p.tables e below (Ret s n0 Q C S) (T.setTop (mkF m pc Ls (.int z :: rest))) := by
  refine Go.leave X hlk (fun q => by rw [hret] at q; cases q) (fun fs hr => ?_) hk hn hQ
  obtain ⟨L, X, -⟩ := X
  exact retOut X hx hret rfl (Or.inl ⟨rfl, Or.inl rfl, _, rfl⟩) hd hr
theorem Go.retL (X : Sd n0 p l e R s m args below meth c T h k n) (hx : p.tables.exec = Jvm.exec) (hlk : meth.locks = false) {Q : Option Value → Heap → Prop} {C S : Nat} {pc : Nat} {Ls : Array Slot} {z : Int64} {rest : List Value} (hret : meth.sig.returnType = some .long)
    (hd : decode c.code pc = .ok (.lreturn, 1)) (hk : k ≤ C) (hn : n ≤ S) (hQ : Q (some (.long z)) h) : Go p.tables e below (Ret s n0 Q C S) (T.setTop (mkF m pc Ls (.long z :: rest))) := by
  refine Go.leave X hlk (fun q => by rw [hret] at q; cases q) (fun fs hr => ?_) hk hn hQ
  obtain ⟨L, X, -⟩ := X
  exact retOut X hx hret rfl (Or.inr (Or.inl ⟨rfl, rfl, _, rfl⟩)) hd hr
theorem Go.retA (X : Sd n0 p l e R s m args below meth c T h k n) (hx : p.tables.exec = Jvm.exec) (hlk : meth.locks = false) {Q : Option Value → Heap → Prop} {C S : Nat} {t : FieldType} {pc : Nat} {Ls : Array Slot} {w : Value} {rest : List Value} (hret : meth.sig.returnType = some t) (ht : t.isReference = true) (hw : w.isRef = true)
    (hd : decode c.code pc = .ok (.areturn, 1)) (hk : k ≤ C) (hn : n ≤ S) (hQ : Q (some w) h) : Go p.tables e below (Ret s n0 Q C S) (T.setTop (mkF m pc Ls (w :: rest))) := by
  refine Go.leave X hlk (fun q => by rw [hret] at q; cases q) (fun fs hr => ?_) hk hn hQ
  obtain ⟨L, X, -⟩ := X
  have hnar : narrow t w = w := by cases t <;> first | (cases ht; done) | (cases w <;> first | rfl | (cases hw; done))
  exact retOut X hx hret hnar (Or.inr (Or.inr (Or.inr (Or.inr ⟨rfl, ht, hw⟩)))) hd hr
theorem Go.ret0 (X : Sd n0 p l e R s m args below meth c T h k n) (hx : p.tables.exec = Jvm.exec) (hlk : meth.locks = false) {Q : Option Value → Heap → Prop} {C S : Nat} {pc : Nat} {Ls : Array Slot} (hret : meth.sig.returnType = none)
    (hd : decode c.code pc = .ok (.return_, 1)) (hk : k ≤ C) (hn : n ≤ S) (hQ : Q none h) : Go p.tables e below (Ret s n0 Q C S) (T.setTop (mkF m pc Ls [])) := by
  refine Go.leave X hlk (fun _ => rfl) (fun fs hr => ?_) hk hn hQ
  obtain ⟨L, X, -⟩ := X
  exact X.returnOut hx hret hd hr
/-! fields, statics, casts -/
theorem Sd.getF (X : Sd n0 p l e R s m args below meth c T h k n) (hx : p.tables.exec = Jvm.exec) (hZ : Z.Warmed39 s.vm) {own R0 O nm d host : String} {index : Nat} (hown : s.vm.findClass own = some m.cls) (w : (Cond.fieldLink own index R0 nm d).before a0 Z = true ∨ (Cond.fieldLinkNest own index R0 nm d host).before a0 Z = true) (via : Via Z R0 O nm d)
    {a : Addr} {v : Value} (F : Fld Z h a O nm d v) {g : JFrame} (hg : g.method = m) {rest : List Value} (hs : g.stack = .ref a :: rest) (hd : decode c.code g.pc = .ok (.getfield index, 3)) :
    ∃ T', Sd n0 p l e R s m args below meth c T' h k n ∧ ∀ target, Steps p.tables e below (T'.setTop { g with pc := g.pc + 3, stack := v :: rest }) target → Steps p.tables e below (T.setTop g) target := by
  obtain ⟨L, X, N, q⟩ := X
  obtain ⟨T', X', e', st⟩ := Jvm.RoadKit.getF X hx hZ hown w via q F hg hs hd
  exact ⟨T', ⟨L, X', N, e'⟩, st⟩
theorem Sd.getS (X : Sd n0 p l e R s m args below meth c T h k n) (hx : p.tables.exec = Jvm.exec) (hZ : Z.Warmed39 s.vm) {own R0 O nm d host : String} {index : Nat} (hown : s.vm.findClass own = some m.cls) (w : (Cond.fieldLink own index R0 nm d).before a0 Z = true ∨ (Cond.fieldLinkNest own index R0 nm d host).before a0 Z = true) (via : Via Z R0 O nm d)
    {v : Value} (F : Sta Z h O nm d v) {g : JFrame} (hg : g.method = m) (hd : decode c.code g.pc = .ok (.getstatic index, 3)) :
    ∃ T', Sd n0 p l e R s m args below meth c T' h k n ∧ ∀ target, Steps p.tables e below (T'.setTop { g with pc := g.pc + 3, stack := v :: g.stack }) target → Steps p.tables e below (T.setTop g) target := by
  obtain ⟨L, X, N, q⟩ := X
  obtain ⟨T', X', e', st⟩ := getS2 X hx hZ hown w via q F hg hd
  exact ⟨T', ⟨L, X', N, e'⟩, st⟩
theorem Sd.putF (X : Sd n0 p l e R s m args below meth c T h k n) (hx : p.tables.exec = Jvm.exec) (hZ : Z.Warmed39 s.vm) {own R0 O nm d host C : String} {index kk : Nat} {ty : FieldType} (hown : s.vm.findClass own = some m.cls) (w : (Cond.fieldLink own index R0 nm d).before a0 Z = true ∨ (Cond.fieldLinkNest own index R0 nm d host).before a0 Z = true) (via : Via Z R0 O nm d)
    {a : Addr} {v old : Value} (F : Fld Z h a O nm d old) (E : Exa Z h a C) (ga : n0 ≤ a) (L : (Cond.lays C O nm d).before a0 Z = true ∨ ((Cond.laysFinal C O nm d).before a0 Z = true ∧ own = O ∧ meth.name = "<init>")) (wi : (Cond.instantiable C kk).before a0 Z = true)
    (hty : parseFieldDescriptor d = some ty) (hnr : narrow ty v = v) (hf : fits ty v = true) {g : JFrame} (hg : g.method = m) {rest : List Value} (hs : g.stack = v :: .ref a :: rest) (hd : decode c.code g.pc = .ok (.putfield index, 3)) :
    ∃ T' h', Sd n0 p l e R s m args below meth c T' h' k n ∧ Wr h h' a (slotOf Z O nm d) v ∧ ∀ target, Steps p.tables e below (T'.setTop { g with pc := g.pc + 3, stack := rest }) target → Steps p.tables e below (T.setTop g) target := by
  obtain ⟨Lc, X, N, q⟩ := X
  obtain ⟨T', h', X', e', W, st⟩ := Jvm.RoadKit.putF X hx hZ hown w via q F E L wi hty hnr hf hg hs hd
  exact ⟨T', h', ⟨_, X', Fr.snoc X' N ga, e'⟩, W, st⟩
theorem Sd.putFN (X : Sd n0 p l e R s m args below meth c T h k n) (hx : p.tables.exec = Jvm.exec) (hZ : Z.Warmed39 s.vm) {own R0 O nm d C : String} {index kk : Nat} {ty : FieldType} (hown : s.vm.findClass own = some m.cls) (w : (Cond.fieldLink own index R0 nm d).before a0 Z = true) (via : Via Z R0 O nm d)
    {a : Addr} {v v' old : Value} (F : Fld Z h a O nm d old) (E : Exa Z h a C) (ga : n0 ≤ a) (L : (Cond.lays C O nm d).before a0 Z = true ∨ ((Cond.laysFinal C O nm d).before a0 Z = true ∧ own = O ∧ meth.name = "<init>")) (wi : (Cond.instantiable C kk).before a0 Z = true)
    (hty : parseFieldDescriptor d = some ty) (hnr : narrow ty v = v') (hf : fits ty v' = true) {g : JFrame} (hg : g.method = m) {rest : List Value} (hs : g.stack = v :: .ref a :: rest) (hd : decode c.code g.pc = .ok (.putfield index, 3)) :
    ∃ T' h', Sd n0 p l e R s m args below meth c T' h' k n ∧ Wr h h' a (slotOf Z O nm d) v' ∧ ∀ target, Steps p.tables e below (T'.setTop { g with pc := g.pc + 3, stack := rest }) target → Steps p.tables e below (T.setTop g) target := by
  obtain ⟨Lc, X, N, q⟩ := X
  obtain ⟨T', h', X', e', W, st⟩ := Jvm.RoadKit.putFN X hx hZ hown w via q F E L wi hty hnr hf hg hs hd
  exact ⟨T', h', ⟨_, X', Fr.snoc X' N ga, e'⟩, W, st⟩
theorem Sd.castY (X : Sd n0 p l e R s m args below meth c T h k n) (hx : p.tables.exec = Jvm.exec) (hZ : Z.Warmed39 s.vm) {own K : String} {index : Nat} (hown : s.vm.findClass own = some m.cls) (w : (Cond.classLink own index K).before a0 Z = true) {a : Addr} (F : Ins Z h a K true)
    {g : JFrame} (hg : g.method = m) {rest : List Value} (hs : g.stack = .ref a :: rest) (hd : decode c.code g.pc = .ok (.checkcast index, 3)) :
    ∃ T', Sd n0 p l e R s m args below meth c T' h k n ∧ ∀ target, Steps p.tables e below (T'.setTop { g with pc := g.pc + 3 }) target → Steps p.tables e below (T.setTop g) target := by
  obtain ⟨L, X, N, q⟩ := X
  obtain ⟨T', X', e', st⟩ := Jvm.RoadKit.castY X hx hZ hown w q F hg hs hd
  exact ⟨T', ⟨L, X', N, e'⟩, st⟩
theorem Sd.instY (X : Sd n0 p l e R s m args below meth c T h k n) (hx : p.tables.exec = Jvm.exec) (hZ : Z.Warmed39 s.vm) {own K : String} {index : Nat} (hown : s.vm.findClass own = some m.cls) (w : (Cond.classLink own index K).before a0 Z = true) {a : Addr} (F : Ins Z h a K true)
    {g : JFrame} (hg : g.method = m) {rest : List Value} (hs : g.stack = .ref a :: rest) (hd : decode c.code g.pc = .ok (.instanceof index, 3)) :
    ∃ T', Sd n0 p l e R s m args below meth c T' h k n ∧ ∀ target, Steps p.tables e below (T'.setTop { g with pc := g.pc + 3, stack := .int 1 :: rest }) target → Steps p.tables e below (T.setTop g) target := by
  obtain ⟨L, X, N, q⟩ := X
  obtain ⟨T', X', e', st⟩ := Jvm.RoadKit.instY X hx hZ hown w q F hg hs hd
  exact ⟨T', ⟨L, X', N, e'⟩, st⟩
theorem Sd.instNull (X : Sd n0 p l e R s m args below meth c T h k n) (hx : p.tables.exec = Jvm.exec) {index : Nat} {g : JFrame} (hg : g.method = m) {rest : List Value} (hs : g.stack = .null :: rest) (hd : decode c.code g.pc = .ok (.instanceof index, 3)) :
    ∀ target, Steps p.tables e below (T.setTop { g with pc := g.pc + 3, stack := .int 0 :: rest }) target → Steps p.tables e below (T.setTop g) target := by
  obtain ⟨L, X, -⟩ := X; exact X.instanceofNull hx hg hs hd
theorem Sd.ldcInt (X : Sd n0 p l e R s m args below meth c T h k n) (hx : p.tables.exec = Jvm.exec) (hZ : Z.Warmed39 s.vm) {own : String} {index : Nat} {v : Int32} (hown : s.vm.findClass own = some m.cls) (w : (Cond.constant own index v).before a0 Z = true) {g : JFrame} (hg : g.method = m) (hd : decode c.code g.pc = .ok (.ldc index, 2)) :
    ∀ target, Steps p.tables e below (T.setTop { g with pc := g.pc + 2, stack := .int v :: g.stack }) target → Steps p.tables e below (T.setTop g) target := by
  obtain ⟨L, X, -⟩ := X; exact X.ldcInt hx hown (mvT hZ w) hg hd
theorem Sd.ldc2Long (X : Sd n0 p l e R s m args below meth c T h k n) (hx : p.tables.exec = Jvm.exec) (hZ : Z.Warmed39 s.vm) {own : String} {index : Nat} {v : Int64} (hown : s.vm.findClass own = some m.cls) (w : (Cond.constantLong own index v).before a0 Z = true) {g : JFrame} (hg : g.method = m) (hd : decode c.code g.pc = .ok (.ldc2_w index, 3)) :
    ∀ target, Steps p.tables e below (T.setTop { g with pc := g.pc + 3, stack := .long v :: g.stack }) target → Steps p.tables e below (T.setTop g) target := by
  obtain ⟨L, X, -⟩ := X; exact X.ldc2Long hx hown (mvT hZ w) hg hd
theorem Sd.acmp {g : JFrame} (X : Sd n0 p l e R s m args below meth c T h k n) (hx : p.tables.exec = Jvm.exec) (hg : g.method = m) {cd : ACond} {x y : Value} (h1 : x.isRef = true) (h2 : y.isRef = true) {rest : List Value} {o : Int} {pc0 pc' : Nat} {same : Bool} (hpc : g.pc = pc0)
    (hd : decode c.code g.pc = .ok (.if_acmp cd o, 3)) (hs : g.stack = y :: x :: rest) (hq : decide (x = y) = same) (ho : 0 ≤ (pc0 : Int) + o) (hp : pc' = if acV cd same = true then ((pc0 : Int) + o).toNat else pc0 + 3) :
    ∀ target, Steps p.tables e below (T.setTop { g with pc := pc', stack := rest }) target → Steps p.tables e below (T.setTop g) target := by
  obtain ⟨L, X, -⟩ := X; exact fun _ => Jvm.RoadKit.acmp X hx hg h1 h2 hpc hd hs hq ho hp
theorem Sd.getFR (X : Sd n0 p l e R s m args below meth c T h k n) (hx : p.tables.exec = Jvm.exec) (hZ : Z.Warmed39 s.vm) {own O nm d : String} {index : Nat} (hown : s.vm.findClass own = some m.cls) (w : (Cond.fieldRef own index O nm d).before a0 Z = true)
    {a : Addr} {v : Value} (F : Fld Z h a O nm d v) {g : JFrame} (hg : g.method = m) {rest : List Value} (hs : g.stack = .ref a :: rest) (hd : decode c.code g.pc = .ok (.getfield index, 3)) :
    ∀ target, Steps p.tables e below (T.setTop { g with pc := g.pc + 3, stack := v :: rest }) target → Steps p.tables e below (T.setTop g) target := by
  obtain ⟨L, X, N, q⟩ := X
  obtain ⟨cell, cf, kk, i, f, h1, h2, h3, h4, h5, h6, h7⟩ := F
  have hT : Z.Warmed39 T.vm := wtrans hZ X.warmed
  have w' := Cond.fieldRef_warmed39 hT w
  have hcur : (Z.setVm T.vm).vm.findClass own = some m.cls := by show T.vm.findClass own = _; rw [X.warmed.alike.findClass]; exact hown
  obtain ⟨c', k', i', f', e1, e2⟩ := Cond.fieldRef_spec hcur w'
  obtain ⟨k2, hi, -⟩ := State.fieldFound?_setVm (s := Z) hT.alike h2
  cases e1.symm.trans hi
  intro target hrest
  subst hg
  jvm_step X.here [hx, hd, getfield.wp_ready (e := e) (s := T) (f := g) X.here.top e2 h3 hs (by rw [q]; exact h1) h4 h7]
  exact hrest
/-! making -/
theorem Sd.newO (X : Sd n0 p l e R s m args below meth c T h k n) (hx : p.tables.exec = Jvm.exec) (hZ : Z.Warmed39 s.vm) {own C : String} {index sz k' n' : Nat} (hown : s.vm.findClass own = some m.cls) (w : (Cond.classLink own index C).before a0 Z = true) (wi : (Cond.instantiable C sz).before a0 Z = true) (wz : (Cond.initialized C).before a0 Z = true)
    {g : JFrame} (hg : g.method = m) (hd : decode c.code g.pc = .ok (.new index, 3)) (hk : k + 1 = k') (hn : n + sz = n') (hc : k' ≤ R.cells) (hl : n' ≤ R.slots) :
    ∃ T' h' a, Sd n0 p l e R s m args below meth c T' h' k' n' ∧ a = h.size ∧ Ext h h' ∧ Exa Z h' a C ∧ (∀ {O nm d : String} {ty : FieldType}, Laid Z a0 C O nm d → parseFieldDescriptor d = some ty → Fld Z h' a O nm d (defaultValue ty)) ∧
      ∀ target, Steps p.tables e below (T'.setTop { g with pc := g.pc + 3, stack := .ref a :: g.stack }) target → Steps p.tables e below (T.setTop g) target := by
  subst hk hn
  obtain ⟨L, X, N, q⟩ := X
  obtain ⟨T', h', X', e', E, A, D, -, st⟩ := Jvm.RoadKit.newO X hx hZ hown w wi wz q hg hd hc hl
  exact ⟨T', h', _, ⟨L, X', N, e'⟩, rfl, E, A, D, st⟩
theorem Sd.initO (X : Sd n0 p l e R s m args below meth c T h k n) (hx : p.tables.exec = Jvm.exec) (hZ : Z.Warmed39 s.vm) {own : String} {idx : Nat} (hown : s.vm.findClass own = some m.cls) (w1 : (Cond.methodLink own idx Lib.objectInit).before a0 Z = true) (w2 : (Cond.instanceMethod Lib.objectInit).before a0 Z = true)
    (w3 : (Cond.code Lib.objectInit ⟨#[0xb1]⟩ 1 none).before a0 Z = true) {g : JFrame} (hg : g.method = m) (hsize : g.locals.size = c.maxLocals) {a : Addr} {rest : List Value} (hs : g.stack = .ref a :: rest) (hd : decode c.code g.pc = .ok (.invokespecial idx, 3))
    (hf : 1 ≤ R.frames) (hl : 2 * g.monitorRoom + (rest.map fun v => v.category).sum + 12 ≤ R.locals) :
    ∃ T', Sd n0 p l e R s m args below meth c T' h k n ∧ ∀ target, Steps p.tables e below (T'.setTop { g with pc := g.pc + 3, stack := rest }) target → Steps p.tables e below (T.setTop g) target := by
  obtain ⟨L, X, N, q⟩ := X
  obtain ⟨T', X', e', st⟩ := Jvm.RoadKit.initO X hx hZ hown w1 w2 w3 q hg hsize hs hd hf (W := 2 * g.monitorRoom + (rest.map fun v => v.category).sum) (Nat.le_refl _) hl
  exact ⟨T', ⟨L, X', N, e'⟩, st⟩
/-- an array of n' places, place i holds f i -/
def Avf (Z : State) (h : Heap) (a : Addr) (kc : ClassId) (ty : FieldType) (sz : Nat) (f : Nat → Value) : Prop := ∃ cl : Cell, Arr Z h a cl ty ∧ cl.cls = kc ∧ cl.slots.size = sz ∧ sz < 2 ^ 31 ∧ ∀ i, i < sz → cl.slots[i]? = some (f i) ∧ fits ty (f i) = true
theorem Avf.lt {h : Heap} {a : Addr} {kc : ClassId} {ty : FieldType} {sz : Nat} {f : Nat → Value} (F : Avf Z h a kc ty sz f) : a < h.size := by obtain ⟨_, A, -⟩ := F; exact A.lt
theorem Avf.ext {h h' : Heap} {a : Addr} {kc : ClassId} {ty : FieldType} {sz : Nat} {f : Nat → Value} (F : Avf Z h a kc ty sz f) (E : Ext h h') : Avf Z h' a kc ty sz f := by obtain ⟨cl, A, r⟩ := F; exact ⟨cl, A.ext E, r⟩
theorem Avf.other {h h' : Heap} {a b : Addr} {kc : ClassId} {ty : FieldType} {sz sl : Nat} {f : Nat → Value} {v : Value} (F : Avf Z h b kc ty sz f) (W : Wr h h' a sl v) (q : b ≠ a) : Avf Z h' b kc ty sz f := by obtain ⟨cl, A, r⟩ := F; exact ⟨cl, A.other W q, r⟩
theorem Avf.keep {h h' : Heap} {a : Addr} {kc : ClassId} {ty : FieldType} {sz : Nat} {f : Nat → Value} {ws : List Addr} (F : Avf Z h a kc ty sz f) (K : Keep h h' ws) (q : a ∉ ws) : Avf Z h' a kc ty sz f := by obtain ⟨cl, A, r⟩ := F; exact ⟨cl, ⟨K.2.1 a cl A.1 q, A.2⟩, r⟩
theorem Avf.cong {h : Heap} {a : Addr} {kc : ClassId} {ty : FieldType} {sz : Nat} {f g : Nat → Value} (F : Avf Z h a kc ty sz f) (q : ∀ i, i < sz → f i = g i) : Avf Z h a kc ty sz g := by
  obtain ⟨cl, A, r1, r2, r3, r4⟩ := F; exact ⟨cl, A, r1, r2, r3, fun i hi => by rw [← q i hi]; exact r4 i hi⟩
theorem Avf.set {h h' : Heap} {a : Addr} {kc : ClassId} {ty : FieldType} {sz : Nat} {f : Nat → Value} {v : Value} {j : Nat} (F : Avf Z h a kc ty sz f) (W : Wr h h' a j v) (hv : fits ty v = true) : Avf Z h' a kc ty sz (fun i => if i = j then v else f i) := by
  obtain ⟨cl, A, r1, r2, r3, r4⟩ := F
  refine ⟨_, A.same W, r1, by rw [sz_set]; exact r2, r3, fun i hi => ?_⟩
  by_cases q : i = j
  · subst q; simp [Cell.setSlot, r2, hi, hv]
  · simp [Cell.setSlot, q, r4 i hi, Array.getElem?_setIfInBounds_ne (Ne.symm q)]
theorem Avf.of_arv {h : Heap} {a : Addr} {kc : ClassId} {ty : FieldType} {z : Int32} {vs : List Value} {dv : Value} (F : Arv Z h a kc ty z vs dv) : Avf Z h a kc ty z.toNatClampNeg (fun i => vs.getD i dv) := by
  obtain ⟨cl, A, r1, r2, r3, H, G⟩ := F
  exact ⟨cl, A, r1, r2, (back32 r3).2, fun i hi => ⟨H i (by rw [r2]; exact hi), G i (by rw [r2]; exact hi)⟩⟩
theorem Sd.newP (X : Sd n0 p l e R s m args below meth c T h k n) (hx : p.tables.exec = Jvm.exec) (hZ : Z.Warmed39 s.vm) {aty : ArrayType} (w : (Cond.arrayClass (newarray.typeOf aty)).before a0 Z = true) {g : JFrame} (hg : g.method = m) (hd : decode c.code g.pc = .ok (.newarray aty, 2)) {z : Int32} {rest : List Value} (hs : g.stack = .int z :: rest)
    (hz : ¬ z < 0) {sz cap k' n' : Nat} (hsz : z.toNatClampNeg = sz) (hcap : sz ≤ cap) (hb : cap * 8 ≤ 536870912) (hk : k + 1 = k') (hn : n + cap = n') (hc : k' ≤ R.cells) (hl : n' ≤ R.slots) {ad : String} (had : "[" ++ (newarray.typeOf aty).toString = ad) :
    ∃ T' h' kc a, Sd n0 p l e R s m args below meth c T' h' k' n' ∧ a = h.size ∧ Ext h h' ∧ Exa Z h' a ad ∧ Avf Z h' a kc (newarray.typeOf aty) sz (fun _ => defaultValue (newarray.typeOf aty)) ∧
      ∀ target, Steps p.tables e below (T'.setTop { g with pc := g.pc + 2, stack := .ref a :: rest }) target → Steps p.tables e below (T.setTop g) target := by
  subst hk hn hsz
  obtain ⟨L, X, N, q⟩ := X
  obtain ⟨T', h', kc, X', e', E, A, Ex, st⟩ := Jvm.RoadKit.newPE X hx hZ w q hg hd hs hz hcap hb hc hl had
  refine ⟨T', h', kc, _, ⟨L, X', N, e'⟩, rfl, E, Ex, ⟨_, A, rfl, sz_new _ _ _, (back32 hz).2, fun i hi => ⟨by simp [newA, hi], ?_⟩⟩, st⟩
  cases aty <;> rfl
theorem Sd.newR (X : Sd n0 p l e R s m args below meth c T h k n) (hx : p.tables.exec = Jvm.exec) (hZ : Z.Warmed39 s.vm) {own C : String} {index : Nat} (hown : s.vm.findClass own = some m.cls) (w1 : (Cond.classLink own index C).before a0 Z = true) (w2 : (Cond.arrayOver (.object C)).before a0 Z = true)
    {g : JFrame} (hg : g.method = m) (hd : decode c.code g.pc = .ok (.anewarray index, 3)) {z : Int32} {rest : List Value} (hs : g.stack = .int z :: rest)
    (hz : ¬ z < 0) {sz cap k' n' : Nat} (hsz : z.toNatClampNeg = sz) (hcap : sz ≤ cap) (hb : cap * 8 ≤ 536870912) (hk : k + 1 = k') (hn : n + cap = n') (hc : k' ≤ R.cells) (hl : n' ≤ R.slots) {ad : String} (had : "[" ++ (FieldType.object C).toString = ad) :
    ∃ T' h' kc a, Sd n0 p l e R s m args below meth c T' h' k' n' ∧ a = h.size ∧ Ext h h' ∧ Exa Z h' a ad ∧ Avf Z h' a kc (.object C) sz (fun _ => .null) ∧ Ovr Z kc C ∧
      ∀ target, Steps p.tables e below (T'.setTop { g with pc := g.pc + 3, stack := .ref a :: rest }) target → Steps p.tables e below (T.setTop g) target := by
  subst hk hn hsz
  obtain ⟨L, X, N, q⟩ := X
  obtain ⟨T', h', kc, X', e', E, A, Ex, O, st⟩ := Jvm.RoadKit.newRE X hx hZ hown w1 w2 q hg hd hs hz hcap hb hc hl had
  exact ⟨T', h', kc, _, ⟨L, X', N, e'⟩, rfl, E, Ex, ⟨_, A, rfl, sz_new _ _ _, (back32 hz).2, fun i hi => ⟨by simp [newA, hi, defaultValue], rfl⟩⟩, O, st⟩
theorem Sd.clone (X : Sd n0 p l e R s m args below meth c T h k n) (hx : p.tables.exec = Jvm.exec) (hZ : Z.Warmed39 s.vm) {own ad : String} {index : Nat} (hown : s.vm.findClass own = some m.cls)
    (w1 : (Cond.methodLink own index ⟨ad, "clone", "()Ljava/lang/Object;"⟩).before a0 Z = true) (w2 : (Cond.sameMethod ad "java/lang/Object" "clone" "()Ljava/lang/Object;").before a0 Z = true) (w3 : (Cond.native ⟨"java/lang/Object", "clone", "()Ljava/lang/Object;"⟩).before a0 Z = true)
    (w4 : (Cond.instanceMethod ⟨"java/lang/Object", "clone", "()Ljava/lang/Object;"⟩).before a0 Z = true) (w5 : (Cond.selects ad ⟨ad, "clone", "()Ljava/lang/Object;"⟩ ⟨"java/lang/Object", "clone", "()Ljava/lang/Object;"⟩).before a0 Z = true) (w6 : (Cond.castable ad "java/lang/Cloneable").before a0 Z = true)
    {a : Addr} {kc : ClassId} {ty : FieldType} {sz : Nat} {f : Nat → Value} (F : Avf Z h a kc ty sz f) (E : Exa Z h a ad) {g : JFrame} (hg : g.method = m) (hsize : g.locals.size = c.maxLocals) {rest : List Value} (hst : g.stack = .ref a :: rest) (hd : decode c.code g.pc = .ok (.invokevirtual index, 3))
    (hf : 1 ≤ R.frames) (hl : 2 * g.monitorRoom + (rest.map fun v => v.category).sum + 14 ≤ R.locals) {cap k' n' : Nat} (hcap : sz ≤ cap) (hk : k + 1 = k') (hn : n + cap = n') (hc : k' ≤ R.cells) (hs : n' ≤ R.slots) :
    ∃ T' h' b, Sd n0 p l e R s m args below meth c T' h' k' n' ∧ b = h.size ∧ Ext h h' ∧ Exa Z h' b ad ∧ Avf Z h' b kc ty sz f ∧ ∀ target, Steps p.tables e below (T'.setTop { g with pc := g.pc + 3, stack := .ref b :: rest }) target → Steps p.tables e below (T.setTop g) target := by
  subst hk hn
  obtain ⟨L, X, N, q⟩ := X
  obtain ⟨cl, A, r1, r2, r3, r4⟩ := F
  have FC : FitC Z cl := fitC_of A fun i hi v hv => by rw [(r4 i (r2 ▸ hi)).1] at hv; cases hv; exact (r4 i (r2 ▸ hi)).2
  obtain ⟨T', h', X', e', ex, A', E', st⟩ := cloneA X hx hZ hown w1 w2 w3 w4 w5 w6 q A E FC hg hsize hst hd hf (W := 2 * g.monitorRoom + (rest.map fun v => v.category).sum) (Nat.le_refl _) hl (by rw [r2]; exact hcap) hc hs
  exact ⟨T', h', _, ⟨L, X', N, e'⟩, rfl, ex, E', ⟨cloneOf cl, A', r1, r2, r3, r4⟩, st⟩
/-! arrays: length, load, store -/
theorem Sd.len (X : Sd n0 p l e R s m args below meth c T h k n) (hx : p.tables.exec = Jvm.exec) (hZ : Z.Warmed39 s.vm) {a : Addr} {kc : ClassId} {ty : FieldType} {sz : Nat} {f : Nat → Value} (F : Avf Z h a kc ty sz f) {z : Int32} (hz : sz.toInt32 = z)
    {g : JFrame} (hg : g.method = m) {rest : List Value} (hs : g.stack = .ref a :: rest) (hd : decode c.code g.pc = .ok (.arraylength, 1)) :
    ∀ target, Steps p.tables e below (T.setTop { g with pc := g.pc + 1, stack := .int z :: rest }) target → Steps p.tables e below (T.setTop g) target := by
  obtain ⟨L, X, -, q⟩ := X
  obtain ⟨cl, A, r1, r2, r3, r4⟩ := F
  intro t kt
  refine X.arraylength hx (by rw [q]; exact A.1) (State.isArrayOf_alike hZ.alike A.2.1) hg hs hd _ ?_
  rw [r2, hz]; exact kt
theorem inb {cl : Cell} {sz i : Nat} {j : Int32} (r2 : cl.slots.size = sz) (hj : ¬ j < 0) (hi : j.toNatClampNeg = i) (hlt : i < sz) : ¬ (j < 0 ∨ cl.slots.size ≤ j.toNatClampNeg) := fun q => q.elim hj fun q => by omega
theorem Sd.ldI (X : Sd n0 p l e R s m args below meth c T h k n) (hx : p.tables.exec = Jvm.exec) (hZ : Z.Warmed39 s.vm) {a : Addr} {kc : ClassId} {sz : Nat} {f : Nat → Value} (F : Avf Z h a kc .int sz f) {j : Int32} (hj : ¬ j < 0) {i : Nat} (hi : j.toNatClampNeg = i) (hlt : i < sz) {v : Value} (hv : f i = v)
    {g : JFrame} (hg : g.method = m) {rest : List Value} (hs : g.stack = .int j :: .ref a :: rest) (hd : decode c.code g.pc = .ok (.iaload, 1)) :
    ∀ target, Steps p.tables e below (T.setTop { g with pc := g.pc + 1, stack := v :: rest }) target → Steps p.tables e below (T.setTop g) target := by
  subst hv
  obtain ⟨L, X, -, q⟩ := X
  obtain ⟨cl, A, r1, r2, r3, r4⟩ := F
  exact X.iaload hx (by rw [q]; exact A.1) (State.isArrayOf_alike hZ.alike A.2.1) A.2.2 (inb r2 hj hi hlt) (by rw [hi]; exact (r4 i hlt).1) hg hs hd
theorem Sd.ldJ (X : Sd n0 p l e R s m args below meth c T h k n) (hx : p.tables.exec = Jvm.exec) (hZ : Z.Warmed39 s.vm) {a : Addr} {kc : ClassId} {sz : Nat} {f : Nat → Value} (F : Avf Z h a kc .long sz f) {j : Int32} (hj : ¬ j < 0) {i : Nat} (hi : j.toNatClampNeg = i) (hlt : i < sz) {v : Value} (hv : f i = v)
    {g : JFrame} (hg : g.method = m) {rest : List Value} (hs : g.stack = .int j :: .ref a :: rest) (hd : decode c.code g.pc = .ok (.laload, 1)) :
    ∀ target, Steps p.tables e below (T.setTop { g with pc := g.pc + 1, stack := v :: rest }) target → Steps p.tables e below (T.setTop g) target := by
  subst hv
  obtain ⟨L, X, -, q⟩ := X
  obtain ⟨cl, A, r1, r2, r3, r4⟩ := F
  exact X.laload hx (by rw [q]; exact A.1) (State.isArrayOf_alike hZ.alike A.2.1) A.2.2 (inb r2 hj hi hlt) (by rw [hi]; exact (r4 i hlt).1) hg hs hd
theorem Sd.ldC (X : Sd n0 p l e R s m args below meth c T h k n) (hx : p.tables.exec = Jvm.exec) (hZ : Z.Warmed39 s.vm) {a : Addr} {kc : ClassId} {sz : Nat} {f : Nat → Value} (F : Avf Z h a kc .char sz f) {j : Int32} (hj : ¬ j < 0) {i : Nat} (hi : j.toNatClampNeg = i) (hlt : i < sz) {v : Value} (hv : f i = v)
    {g : JFrame} (hg : g.method = m) {rest : List Value} (hs : g.stack = .int j :: .ref a :: rest) (hd : decode c.code g.pc = .ok (.caload, 1)) :
    ∀ target, Steps p.tables e below (T.setTop { g with pc := g.pc + 1, stack := v :: rest }) target → Steps p.tables e below (T.setTop g) target := by
  subst hv
  obtain ⟨L, X, -, q⟩ := X
  obtain ⟨cl, A, r1, r2, r3, r4⟩ := F
  exact X.caload hx (by rw [q]; exact A.1) (State.isArrayOf_alike hZ.alike A.2.1) A.2.2 (inb r2 hj hi hlt) (by rw [hi]; exact (r4 i hlt).1) hg hs hd
theorem Sd.ldB (X : Sd n0 p l e R s m args below meth c T h k n) (hx : p.tables.exec = Jvm.exec) (hZ : Z.Warmed39 s.vm) {a : Addr} {kc : ClassId} {sz : Nat} {f : Nat → Value} (F : Avf Z h a kc .byte sz f) {j : Int32} (hj : ¬ j < 0) {i : Nat} (hi : j.toNatClampNeg = i) (hlt : i < sz) {v : Value} (hv : f i = v)
    {g : JFrame} (hg : g.method = m) {rest : List Value} (hs : g.stack = .int j :: .ref a :: rest) (hd : decode c.code g.pc = .ok (.baload, 1)) :
    ∀ target, Steps p.tables e below (T.setTop { g with pc := g.pc + 1, stack := v :: rest }) target → Steps p.tables e below (T.setTop g) target := by
  subst hv
  obtain ⟨L, X, -, q⟩ := X
  obtain ⟨cl, A, r1, r2, r3, r4⟩ := F
  exact X.baloadBytes hx (by rw [q]; exact A.1) (State.isArrayOf_alike hZ.alike A.2.1) A.2.2 (inb r2 hj hi hlt) (by rw [hi]; exact (r4 i hlt).1) hg hs hd
theorem Sd.ldA (X : Sd n0 p l e R s m args below meth c T h k n) (hx : p.tables.exec = Jvm.exec) (hZ : Z.Warmed39 s.vm) {a : Addr} {kc : ClassId} {ty : FieldType} {sz : Nat} {f : Nat → Value} (F : Avf Z h a kc ty sz f) (hty : ty.isReference = true) {j : Int32} (hj : ¬ j < 0) {i : Nat} (hi : j.toNatClampNeg = i) (hlt : i < sz) {v : Value} (hv : f i = v)
    {g : JFrame} (hg : g.method = m) {rest : List Value} (hs : g.stack = .int j :: .ref a :: rest) (hd : decode c.code g.pc = .ok (.aaload, 1)) :
    ∀ target, Steps p.tables e below (T.setTop { g with pc := g.pc + 1, stack := v :: rest }) target → Steps p.tables e below (T.setTop g) target := by
  subst hv
  obtain ⟨L, X, -, q⟩ := X
  obtain ⟨cl, A, r1, r2, r3, r4⟩ := F
  exact X.aaload hx (by rw [q]; exact A.1) (State.isArrayOf_alike hZ.alike A.2.1) hty A.2.2 (inb r2 hj hi hlt) (by rw [hi]; exact (r4 i hlt).1) hg hs hd
theorem Sd.stI (X : Sd n0 p l e R s m args below meth c T h k n) (hx : p.tables.exec = Jvm.exec) (hZ : Z.Warmed39 s.vm) {a : Addr} {kc : ClassId} {sz : Nat} {f : Nat → Value} (F : Avf Z h a kc .int sz f) (ga : n0 ≤ a) {j x : Int32} (hj : ¬ j < 0) {i : Nat} (hi : j.toNatClampNeg = i) (hlt : i < sz)
    {g : JFrame} (hg : g.method = m) {rest : List Value} (hs : g.stack = .int x :: .int j :: .ref a :: rest) (hd : decode c.code g.pc = .ok (.iastore, 1)) :
    ∃ T' h', Sd n0 p l e R s m args below meth c T' h' k n ∧ Wr h h' a i (.int x) ∧ Avf Z h' a kc .int sz (fun t => if t = i then .int x else f t) ∧ ∀ target, Steps p.tables e below (T'.setTop { g with pc := g.pc + 1, stack := rest }) target → Steps p.tables e below (T.setTop g) target := by
  obtain ⟨L, X, N, q⟩ := X
  obtain ⟨cl, A, r1, r2, r3, r4⟩ := F
  obtain ⟨T', h', X', e', W, st⟩ := Jvm.RoadKit.stI X hx hZ q A (inb r2 hj hi hlt) hg hs hd
  subst hi
  exact ⟨T', h', ⟨_, X', Fr.snoc X' N ga, e'⟩, W, Avf.set ⟨cl, A, r1, r2, r3, r4⟩ W rfl, st⟩
theorem Sd.stJ (X : Sd n0 p l e R s m args below meth c T h k n) (hx : p.tables.exec = Jvm.exec) (hZ : Z.Warmed39 s.vm) {a : Addr} {kc : ClassId} {sz : Nat} {f : Nat → Value} (F : Avf Z h a kc .long sz f) (ga : n0 ≤ a) {j : Int32} {x : Int64} (hj : ¬ j < 0) {i : Nat} (hi : j.toNatClampNeg = i) (hlt : i < sz)
    {g : JFrame} (hg : g.method = m) {rest : List Value} (hs : g.stack = .long x :: .int j :: .ref a :: rest) (hd : decode c.code g.pc = .ok (.lastore, 1)) :
    ∃ T' h', Sd n0 p l e R s m args below meth c T' h' k n ∧ Wr h h' a i (.long x) ∧ Avf Z h' a kc .long sz (fun t => if t = i then .long x else f t) ∧ ∀ target, Steps p.tables e below (T'.setTop { g with pc := g.pc + 1, stack := rest }) target → Steps p.tables e below (T.setTop g) target := by
  obtain ⟨L, X, N, q⟩ := X
  obtain ⟨cl, A, r1, r2, r3, r4⟩ := F
  obtain ⟨T', h', X', e', W, st⟩ := Jvm.RoadKit.stJ X hx hZ q A (inb r2 hj hi hlt) hg hs hd
  subst hi
  exact ⟨T', h', ⟨_, X', Fr.snoc X' N ga, e'⟩, W, Avf.set ⟨cl, A, r1, r2, r3, r4⟩ W rfl, st⟩
theorem Sd.stB (X : Sd n0 p l e R s m args below meth c T h k n) (hx : p.tables.exec = Jvm.exec) (hZ : Z.Warmed39 s.vm) {a : Addr} {kc : ClassId} {sz : Nat} {f : Nat → Value} (F : Avf Z h a kc .byte sz f) (ga : n0 ≤ a) {j x : Int32} (hj : ¬ j < 0) {i : Nat} (hi : j.toNatClampNeg = i) (hlt : i < sz)
    {g : JFrame} (hg : g.method = m) {rest : List Value} (hs : g.stack = .int x :: .int j :: .ref a :: rest) (hd : decode c.code g.pc = .ok (.bastore, 1)) :
    ∃ T' h', Sd n0 p l e R s m args below meth c T' h' k n ∧ Wr h h' a i (.int x.toInt8.toInt32) ∧ Avf Z h' a kc .byte sz (fun t => if t = i then .int x.toInt8.toInt32 else f t) ∧ ∀ target, Steps p.tables e below (T'.setTop { g with pc := g.pc + 1, stack := rest }) target → Steps p.tables e below (T.setTop g) target := by
  obtain ⟨L, X, N, q⟩ := X
  obtain ⟨cl, A, r1, r2, r3, r4⟩ := F
  obtain ⟨T', h', X', e', W, st⟩ := Jvm.RoadKit.stB X hx hZ q A (inb r2 hj hi hlt) hg hs hd
  subst hi
  exact ⟨T', h', ⟨_, X', Fr.snoc X' N ga, e'⟩, W, Avf.set ⟨cl, A, r1, r2, r3, r4⟩ W (fits_nar_byte _), st⟩
theorem Sd.stC (X : Sd n0 p l e R s m args below meth c T h k n) (hx : p.tables.exec = Jvm.exec) (hZ : Z.Warmed39 s.vm) {a : Addr} {kc : ClassId} {sz : Nat} {f : Nat → Value} (F : Avf Z h a kc .char sz f) (ga : n0 ≤ a) {j x : Int32} (hj : ¬ j < 0) {i : Nat} (hi : j.toNatClampNeg = i) (hlt : i < sz)
    {g : JFrame} (hg : g.method = m) {rest : List Value} (hs : g.stack = .int x :: .int j :: .ref a :: rest) (hd : decode c.code g.pc = .ok (.castore, 1)) :
    ∃ T' h', Sd n0 p l e R s m args below meth c T' h' k n ∧ Wr h h' a i (.int (nar .char x)) ∧ Avf Z h' a kc .char sz (fun t => if t = i then .int (nar .char x) else f t) ∧ ∀ target, Steps p.tables e below (T'.setTop { g with pc := g.pc + 1, stack := rest }) target → Steps p.tables e below (T.setTop g) target := by
  obtain ⟨L, X, N, q⟩ := X
  obtain ⟨cl, A, r1, r2, r3, r4⟩ := F
  obtain ⟨T', h', X', e', W, st⟩ := Jvm.RoadKit.stC X hx hZ q A (inb r2 hj hi hlt) hg hs hd
  subst hi
  exact ⟨T', h', ⟨_, X', Fr.snoc X' N ga, e'⟩, W, Avf.set ⟨cl, A, r1, r2, r3, r4⟩ W (fits_nar_char _), st⟩
theorem Sd.newRA (X : Sd n0 p l e R s m args below meth c T h k n) (hx : p.tables.exec = Jvm.exec) (hZ : Z.Warmed39 s.vm) {own C : String} {ty : FieldType} {index : Nat} (hown : s.vm.findClass own = some m.cls) (hC : (FieldType.array ty).toString = C) (w1 : (Cond.classLink own index C).before a0 Z = true) (w2 : (Cond.arrayOver (.array ty)).before a0 Z = true)
    {g : JFrame} (hg : g.method = m) (hd : decode c.code g.pc = .ok (.anewarray index, 3)) {z : Int32} {rest : List Value} (hs : g.stack = .int z :: rest)
    (hz : ¬ z < 0) {sz cap k' n' : Nat} (hsz : z.toNatClampNeg = sz) (hcap : sz ≤ cap) (hb : cap * 8 ≤ 536870912) (hk : k + 1 = k') (hn : n + cap = n') (hc : k' ≤ R.cells) (hl : n' ≤ R.slots) {ad : String} (had : "[" ++ C = ad) :
    ∃ T' h' kc a, Sd n0 p l e R s m args below meth c T' h' k' n' ∧ a = h.size ∧ Ext h h' ∧ Exa Z h' a ad ∧ Avf Z h' a kc (.array ty) sz (fun _ => .null) ∧ OvrA Z kc ty C ∧
      ∀ target, Steps p.tables e below (T'.setTop { g with pc := g.pc + 3, stack := .ref a :: rest }) target → Steps p.tables e below (T.setTop g) target := by
  subst hk hn hsz
  obtain ⟨L, X, N, q⟩ := X
  obtain ⟨T', h', kc, X', e', E, A, Ex, O, st⟩ := Jvm.RoadKit.newRA X hx hZ hown hC w1 w2 q hg hd hs hz hcap hb hc hl had
  exact ⟨T', h', kc, _, ⟨L, X', N, e'⟩, rfl, E, Ex, ⟨_, A, rfl, sz_new _ _ _, (back32 hz).2, fun i hi => ⟨by simp [newA, hi, defaultValue], rfl⟩⟩, O, st⟩
theorem Sd.stR (X : Sd n0 p l e R s m args below meth c T h k n) (hx : p.tables.exec = Jvm.exec) (hZ : Z.Warmed39 s.vm) {a : Addr} {kc : ClassId} {ty : FieldType} {sz : Nat} {f : Nat → Value} (F : Avf Z h a kc ty sz f) (ga : n0 ≤ a) (hty : ty.isReference = true) {j : Int32} {v : Value} (hv : v.isRef = true) (St : Sto Z h a v) (hj : ¬ j < 0) {i : Nat} (hi : j.toNatClampNeg = i) (hlt : i < sz)
    {g : JFrame} (hg : g.method = m) {rest : List Value} (hs : g.stack = v :: .int j :: .ref a :: rest) (hd : decode c.code g.pc = .ok (.aastore, 1)) :
    ∃ T' h', Sd n0 p l e R s m args below meth c T' h' k n ∧ Wr h h' a i v ∧ Avf Z h' a kc ty sz (fun t => if t = i then v else f t) ∧ ∀ target, Steps p.tables e below (T'.setTop { g with pc := g.pc + 1, stack := rest }) target → Steps p.tables e below (T.setTop g) target := by
  obtain ⟨L, X, N, q⟩ := X
  obtain ⟨cl, A, r1, r2, r3, r4⟩ := F
  obtain ⟨T', h', X', e', W, st⟩ := Jvm.RoadKit.stR X hx hZ q A (inb r2 hj hi hlt) hty St hg hs hd
  subst hi
  have hf : fits ty v = true := by cases ty <;> first | (cases hty; done) | (cases v <;> first | rfl | (cases hv; done))
  exact ⟨T', h', ⟨_, X', Fr.snoc X' N ga, e'⟩, W, Avf.set ⟨cl, A, r1, r2, r3, r4⟩ W hf, st⟩
/-! calls -/
theorem Sd.callS (X : Sd n0 p l e R s m args below meth c T h k n) (hx : p.tables.exec = Jvm.exec) (hZ : Z.Warmed39 s.vm) {own : String} {index : Nat} {y : MethodName} {bytes : ByteArray} {maxL : Nat} {ret : Option FieldType} {rm : Room} {as' : Array Value} {Q : Option Value → Heap → Prop}
    (hown : s.vm.findClass own = some m.cls) (w1 : (Cond.methodLink own index y).before a0 Z = true) (w2 : (Cond.static y).before a0 Z = true) (w3 : (Cond.initialized y.cls).before a0 Z = true) (w4 : (Cond.code y bytes maxL ret).before a0 Z = true) (hy : y.cls ≠ "java/lang/invoke/MethodHandle" ∧ y.cls ≠ "java/lang/invoke/VarHandle")
    (hM : Met l Z n0 y bytes maxL ret [] rm as' h Q) {g : JFrame} (hg : g.method = m) (hsize : g.locals.size = c.maxLocals) {argsL rest : List Value} (hlen : ∀ sig, parseMethodDescriptor y.desc = some sig → argsL.length = sig.parameters.length)
    (hstack : g.stack = argsL.reverse ++ rest) (hd : decode c.code g.pc = .ok (.invokestatic index, 3)) (has : argsL.toArray = as') (hf : rm.frames + 1 ≤ R.frames) (hl : 2 * g.monitorRoom + (rest.map fun v => v.category).sum + (maxL + 11) + rm.locals ≤ R.locals)
    {k' n' : Nat} (hk : k + rm.cells = k') (hn : n + rm.slots = n') (hc : k' ≤ R.cells) (hs : n' ≤ R.slots) :
    ∃ v T' h', Sd n0 p l e R s m args below meth c T' h' k' n' ∧ Q v h' ∧ ∀ target, Steps p.tables e below (T'.setTop { g with pc := g.pc + 3, stack := v.toList ++ rest }) target → Steps p.tables e below (T.setTop g) target := by
  subst hk hn
  obtain ⟨L, X, N, q⟩ := X
  obtain ⟨v, _, ⟨T', L', k1, n1⟩, -, X', ⟨Lc, hQ, q1, q2, q3⟩, st⟩ := Jvm.LawKit.callS X hx (y := y) hown (mvT hZ w1) (mvT hZ w2) (mvT hZ w3) (mvT hZ w4) hy (backOf (Q := fun v h L => Q v h ∧ Fr n0 L) hM hZ w4 w3 hf hl) hg hsize hlen hstack (Nat.le_refl _) hd (fun _ _ => ⟨has, q, hc, hs⟩)
  dsimp only [Pt.U, Pt.locs, Pt.cells, Pt.slots] at X' q1 q2 q3 st hQ
  subst q1 q2 q3
  exact ⟨v, T', _, ⟨_, X', Fr.app N hQ.2, rfl⟩, hQ.1, st⟩
theorem Sd.callI (X : Sd n0 p l e R s m args below meth c T h k n) (hx : p.tables.exec = Jvm.exec) (hZ : Z.Warmed39 s.vm) {own : String} {index : Nat} {y : MethodName} {bytes : ByteArray} {maxL : Nat} {rm : Room} {as' : Array Value} {Q : Option Value → Heap → Prop} (hy1 : y.name = "<init>")
    (hown : s.vm.findClass own = some m.cls) (w1 : (Cond.methodLink own index y).before a0 Z = true) (w2 : (Cond.instanceMethod y).before a0 Z = true) (w3 : (Cond.initialized y.cls).before a0 Z = true) (w4 : (Cond.code y bytes maxL none).before a0 Z = true) (hy : y.cls ≠ "java/lang/invoke/MethodHandle" ∧ y.cls ≠ "java/lang/invoke/VarHandle")
    (hM : Met l Z n0 y bytes maxL none [] rm as' h Q) {g : JFrame} (hg : g.method = m) (hsize : g.locals.size = c.maxLocals) {a : Addr} {argsL rest : List Value} (hlen : ∀ sig, parseMethodDescriptor y.desc = some sig → argsL.length = sig.parameters.length)
    (hstack : g.stack = argsL.reverse ++ .ref a :: rest) (hd : decode c.code g.pc = .ok (.invokespecial index, 3)) (has : (.ref a :: argsL).toArray = as') (hf : rm.frames + 1 ≤ R.frames) (hl : 2 * g.monitorRoom + (rest.map fun v => v.category).sum + (maxL + 11) + rm.locals ≤ R.locals)
    {k' n' : Nat} (hk : k + rm.cells = k') (hn : n + rm.slots = n') (hc : k' ≤ R.cells) (hs : n' ≤ R.slots) :
    ∃ v T' h', Sd n0 p l e R s m args below meth c T' h' k' n' ∧ Q v h' ∧ ∀ target, Steps p.tables e below (T'.setTop { g with pc := g.pc + 3, stack := v.toList ++ rest }) target → Steps p.tables e below (T.setTop g) target := by
  subst hk hn
  obtain ⟨L, X, N, q⟩ := X
  obtain ⟨v, _, ⟨T', L', k1, n1⟩, -, X', ⟨Lc, hQ, q1, q2, q3⟩, st⟩ := X.specialBack hx (y := y) hy1 hown (mvT hZ w1) (mvT hZ w2) (mvT hZ w4) hy (backOf (Q := fun v h L => Q v h ∧ Fr n0 L) hM hZ w4 w3 hf hl) hg hsize (Steps.refl _) hlen hstack (Nat.le_refl _) hd (fun _ _ => ⟨has, q, hc, hs⟩)
  dsimp only [Pt.U, Pt.locs, Pt.cells, Pt.slots] at X' q1 q2 q3 st hQ
  subst q1 q2 q3
  exact ⟨v, T', _, ⟨_, X', Fr.app N hQ.2, rfl⟩, hQ.1, fun _ kt => st.trans kt⟩
theorem Sd.callV (X : Sd n0 p l e R s m args below meth c T h k n) (hx : p.tables.exec = Jvm.exec) (hZ : Z.Warmed39 s.vm) {own C : String} {index : Nat} {y z : MethodName} {bytes : ByteArray} {maxL : Nat} {ret : Option FieldType} {rm : Room} {as' : Array Value} {Q : Option Value → Heap → Prop}
    (hown : s.vm.findClass own = some m.cls) (w1 : (Cond.methodLink own index y).before a0 Z = true) (w2 : (Cond.declares y).before a0 Z = true) (hnf : NotFace s y) (w5 : (Cond.selects C y z).before a0 Z = true) (w6 : (Cond.instanceMethod z).before a0 Z = true) (w3 : (Cond.initialized z.cls).before a0 Z = true) (w4 : (Cond.code z bytes maxL ret).before a0 Z = true) (hy : y.cls ≠ "java/lang/invoke/MethodHandle" ∧ y.cls ≠ "java/lang/invoke/VarHandle")
    (hM : Met l Z n0 z bytes maxL ret [] rm as' h Q) {a : Addr} (E : Exa Z h a C) {g : JFrame} (hg : g.method = m) (hsize : g.locals.size = c.maxLocals) {argsL rest : List Value} (hlen : ∀ sig, parseMethodDescriptor y.desc = some sig → argsL.length = sig.parameters.length)
    (hstack : g.stack = argsL.reverse ++ .ref a :: rest) (hd : decode c.code g.pc = .ok (.invokevirtual index, 3)) (has : (.ref a :: argsL).toArray = as') (hf : rm.frames + 1 ≤ R.frames) (hl : 2 * g.monitorRoom + (rest.map fun v => v.category).sum + (maxL + 11) + rm.locals ≤ R.locals)
    {k' n' : Nat} (hk : k + rm.cells = k') (hn : n + rm.slots = n') (hc : k' ≤ R.cells) (hs : n' ≤ R.slots) :
    ∃ v T' h', Sd n0 p l e R s m args below meth c T' h' k' n' ∧ Q v h' ∧ ∀ target, Steps p.tables e below (T'.setTop { g with pc := g.pc + 3, stack := v.toList ++ rest }) target → Steps p.tables e below (T.setTop g) target := by
  subst hk hn
  obtain ⟨L, X, N, q⟩ := X
  obtain ⟨cB, kB, b1, b2, b3⟩ := isOf (T := T) hZ q E
  obtain ⟨v, _, ⟨T', L', k1, n1⟩, -, X', ⟨Lc, hQ, q1, q2, q3⟩, st⟩ := X.virtualBack hx (y := y) (z := z) hown (mvT hZ w1) (mvT hZ w2) hnf (mvT hZ w5) (mvT hZ w6) hy (backOf (Q := fun v h L => Q v h ∧ Fr n0 L) hM hZ w4 w3 hf hl) b1 b3 hg hsize (Steps.refl _) hlen hstack (Nat.le_refl _) hd (fun _ _ => ⟨has, q, hc, hs⟩)
  dsimp only [Pt.U, Pt.locs, Pt.cells, Pt.slots] at X' q1 q2 q3 st hQ
  subst q1 q2 q3
  exact ⟨v, T', _, ⟨_, X', Fr.app N hQ.2, rfl⟩, hQ.1, fun _ kt => st.trans kt⟩
theorem Sd.callP (X : Sd n0 p l e R s m args below meth c T h k n) (hx : p.tables.exec = Jvm.exec) (hZ : Z.Warmed39 s.vm) {own C : String} {index : Nat} {y : MethodName} {bytes : ByteArray} {maxL : Nat} {ret : Option FieldType} {rm : Room} {as' : Array Value} {Q : Option Value → Heap → Prop}
    (hown : s.vm.findClass own = some m.cls) (w1 : (Cond.methodLink own index y).before a0 Z = true) (w6 : (Cond.instanceMethod y).before a0 Z = true) (w5 : (Cond.selects y.cls y y).before a0 Z = true) (w7 : (Cond.privateMethod y).before a0 Z = true) (w3 : (Cond.initialized y.cls).before a0 Z = true) (w4 : (Cond.code y bytes maxL ret).before a0 Z = true) (hy : y.cls ≠ "java/lang/invoke/MethodHandle" ∧ y.cls ≠ "java/lang/invoke/VarHandle")
    (hM : Met l Z n0 y bytes maxL ret [] rm as' h Q) {a : Addr} (E : Exa Z h a C) {g : JFrame} (hg : g.method = m) (hsize : g.locals.size = c.maxLocals) {argsL rest : List Value} (hlen : ∀ sig, parseMethodDescriptor y.desc = some sig → argsL.length = sig.parameters.length)
    (hstack : g.stack = argsL.reverse ++ .ref a :: rest) (hd : decode c.code g.pc = .ok (.invokevirtual index, 3)) (has : (.ref a :: argsL).toArray = as') (hf : rm.frames + 1 ≤ R.frames) (hl : 2 * g.monitorRoom + (rest.map fun v => v.category).sum + (maxL + 11) + rm.locals ≤ R.locals)
    {k' n' : Nat} (hk : k + rm.cells = k') (hn : n + rm.slots = n') (hc : k' ≤ R.cells) (hs : n' ≤ R.slots) :
    ∃ v T' h', Sd n0 p l e R s m args below meth c T' h' k' n' ∧ Q v h' ∧ ∀ target, Steps p.tables e below (T'.setTop { g with pc := g.pc + 3, stack := v.toList ++ rest }) target → Steps p.tables e below (T.setTop g) target := by
  subst hk hn
  obtain ⟨L, X, N, q⟩ := X
  obtain ⟨cl, b1, b2⟩ := E.cell
  obtain ⟨v, _, ⟨T', L', k1, n1⟩, -, X', ⟨Lc, hQ, q1, q2, q3⟩, st⟩ := X.privateBack hx (y := y) hown (mvT hZ w1) (mvT hZ w6) (mvT hZ w5) (Cond.privateMethod_at (mvP hZ w7 (args := #[]))) (mvT hZ w4) hy (backOf (Q := fun v h L => Q v h ∧ Fr n0 L) hM hZ w4 w3 hf hl) hg hsize (Steps.refl _) (a := a) (by rw [q]; exact b1) b2 hlen hstack (Nat.le_refl _) hd (fun _ _ => ⟨has, q, hc, hs⟩)
  dsimp only [Pt.U, Pt.locs, Pt.cells, Pt.slots] at X' q1 q2 q3 st hQ
  subst q1 q2 q3
  exact ⟨v, T', _, ⟨_, X', Fr.app N hQ.2, rfl⟩, hQ.1, fun _ kt => st.trans kt⟩
theorem Sd.callU (X : Sd n0 p l e R s m args below meth c T h k n) (hx : p.tables.exec = Jvm.exec) (hZ : Z.Warmed39 s.vm) {own C owner : String} {index : Nat} {y z : MethodName} {bytes : ByteArray} {maxL : Nat} {ret : Option FieldType} {rm : Room} {as' : Array Value} {Q : Option Value → Heap → Prop}
    (hown : s.vm.findClass own = some m.cls) (w1 : (Cond.methodLink own index y).before a0 Z = true) (w2 : (Cond.sameMethod y.cls owner y.name y.desc).before a0 Z = true) (w7 : (Cond.declares ⟨owner, y.name, y.desc⟩).before a0 Z = true) (ho : owner ≠ "java/lang/invoke/MethodHandle" ∧ owner ≠ "java/lang/invoke/VarHandle") (w5 : (Cond.selects C y z).before a0 Z = true) (w6 : (Cond.instanceMethod z).before a0 Z = true) (w3 : (Cond.initialized z.cls).before a0 Z = true) (w4 : (Cond.code z bytes maxL ret).before a0 Z = true)
    (hM : Met l Z n0 z bytes maxL ret [] rm as' h Q) {a : Addr} (E : Exa Z h a C) {g : JFrame} (hg : g.method = m) (hsize : g.locals.size = c.maxLocals) {argsL rest : List Value} (hlen : ∀ sig, parseMethodDescriptor y.desc = some sig → argsL.length = sig.parameters.length)
    (hstack : g.stack = argsL.reverse ++ .ref a :: rest) (hd : decode c.code g.pc = .ok (.invokevirtual index, 3)) (has : (.ref a :: argsL).toArray = as') (hf : rm.frames + 1 ≤ R.frames) (hl : 2 * g.monitorRoom + (rest.map fun v => v.category).sum + (maxL + 11) + rm.locals ≤ R.locals)
    {k' n' : Nat} (hk : k + rm.cells = k') (hn : n + rm.slots = n') (hc : k' ≤ R.cells) (hs : n' ≤ R.slots) :
    ∃ v T' h', Sd n0 p l e R s m args below meth c T' h' k' n' ∧ Q v h' ∧ ∀ target, Steps p.tables e below (T'.setTop { g with pc := g.pc + 3, stack := v.toList ++ rest }) target → Steps p.tables e below (T.setTop g) target := by
  subst hk hn
  obtain ⟨L, X, N, q⟩ := X
  obtain ⟨cB, kB, b1, b2, b3⟩ := isOf (T := T) hZ q E
  obtain ⟨v, _, ⟨T', L', k1, n1⟩, -, X', ⟨Lc, hQ, q1, q2, q3⟩, st⟩ := X.virtualBackUp hx (x := y) (y := z) hown (mvT hZ w1) (mvT hZ w2) (mvT hZ w7) ho (mvT hZ w5) (mvT hZ w6) (backOf (Q := fun v h L => Q v h ∧ Fr n0 L) hM hZ w4 w3 hf hl) b1 b3 hg hsize (Steps.refl _) hlen hstack (Nat.le_refl _) hd (fun _ _ => ⟨has, q, hc, hs⟩)
  dsimp only [Pt.U, Pt.locs, Pt.cells, Pt.slots] at X' q1 q2 q3 st hQ
  subst q1 q2 q3
  exact ⟨v, T', _, ⟨_, X', Fr.app N hQ.2, rfl⟩, hQ.1, fun _ kt => st.trans kt⟩
theorem Sd.instNo (X : Sd n0 p l e R s m args below meth c T h k n) (hx : p.tables.exec = Jvm.exec) (hZ : Z.Warmed39 s.vm) {own K C : String} {index : Nat} (hown : s.vm.findClass own = some m.cls) (w : (Cond.classLink own index K).before a0 Z = true) {a : Addr} (E : Exa Z h a C) (F : ∃ c t, Z.vm.findClass C = some c ∧ Z.vm.findClass K = some t ∧ Z.vm.assignable c t = false)
    {g : JFrame} (hg : g.method = m) {rest : List Value} (hs : g.stack = .ref a :: rest) (hd : decode c.code g.pc = .ok (.instanceof index, 3)) :
    ∃ T', Sd n0 p l e R s m args below meth c T' h k n ∧ ∀ target, Steps p.tables e below (T'.setTop { g with pc := g.pc + 3, stack := .int 0 :: rest }) target → Steps p.tables e below (T.setTop g) target := by
  obtain ⟨L, X, N, q⟩ := X
  obtain ⟨T', X', e', st⟩ := Jvm.RoadKit.instNo X hx hZ hown w q E F hg hs hd
  exact ⟨T', ⟨L, X', N, e'⟩, st⟩
theorem ns_root {O K : String} {kk : Nat} (w : (Cond.noSuperclass O).before a0 Z = true) (wk : (Cond.instantiable K kk).before a0 Z = true) (hn : O ≠ K) : NS Z O K := by
  obtain ⟨c, k, h1, h2, h3, -, -⟩ := Cond.noSuperclass_spec w
  obtain ⟨t, k2, g1, -⟩ := Cond.instantiable_spec wk
  have ne := ids_ne h1 g1 hn
  refine ⟨c, t, h1, g1, fun fuel => ?_⟩
  cases fuel with
  | zero => rfl
  | succ f => simp [Vm.isSubclassAux, ne, h2, h3]
theorem ns_no {C K : String} {k1 k2 : Nat} (w : (Cond.instantiable C k1).before a0 Z = true) (wk : (Cond.instantiable K k2).before a0 Z = true) (n : NS Z C K) (hn : C ≠ K) : ∃ c t, Z.vm.findClass C = some c ∧ Z.vm.findClass K = some t ∧ Z.vm.assignable c t = false := by
  obtain ⟨c, t, h0, g0, n3⟩ := n
  obtain ⟨c', kc, h1, h2, h3, h4, -⟩ := Cond.instantiable_spec w
  obtain ⟨t', kt, g1, g2, g3, g4, -⟩ := Cond.instantiable_spec wk
  cases h0.symm.trans h1
  cases g0.symm.trans g1
  have ne := ids_ne h0 g0 hn
  refine ⟨c, t, h0, g0, ?_⟩
  have g5 : kt.isInterface = false := by simp at g4; exact g4.1
  show Z.vm.assignableAux (255 + 1) c t = false
  simp [Vm.assignableAux, ne, h2, g2, h3, g3, g5, Vm.isSubclass, n3]
theorem keep_ext {h h' : Heap} (K : Keep h h' []) : Ext h h' := ⟨K.1, fun x c q => K.2.1 x c q nin0⟩
theorem Exa.plain {h : Heap} {a : Addr} {C : String} (F : Exa Z h a C) : ∀ cell : Cell, h[a]? = some cell → cell.vm.isStatics = false := fun cell hc => by
  obtain ⟨c, k, h1, -, -, h4, -⟩ := F
  cases h1.symm.trans hc; exact h4
theorem Avf.plain {h : Heap} {a : Addr} {kc : ClassId} {ty : FieldType} {sz : Nat} {f : Nat → Value} (F : Avf Z h a kc ty sz f) : ∀ cell : Cell, h[a]? = some cell → cell.vm.isStatics = false := fun cell hc => by
  obtain ⟨cl, A, -⟩ := F
  cases A.1.symm.trans hc; exact Arr.plain A
theorem Sta.keepN {h h' : Heap} {C f d : String} {v : Value} {ws : List Addr} (F : Sta Z h C f d v) (K : Keep h h' ws) (q : ∀ x ∈ ws, ∀ cell : Cell, h[x]? = some cell → cell.vm.isStatics = false) : Sta Z h' C f d v := by
  obtain ⟨cf, i, k, fl, st, cell, h1, h2, h3, h4, h5, h6, h7⟩ := F
  exact ⟨cf, i, k, fl, st, cell, h1, h2, h3, h4, K.2.1 st cell h5 (fun z => by rw [q st z cell h5] at h6; cases h6), h6, h7⟩
/-! at the start -/
theorem sta_exa {args : Array Value} {C f d K : String} (hx : (Cond.exactly (.static C f d) K).value args Z none Z [] = some true) (wi : (Cond.initialized C).before args Z = true) (wl : (Cond.laysStatic C f d).before args Z = true) : ∃ a, (Term.static C f d).eval args Z none [] Z = some (.ref a) ∧ Sta Z Z.heap C f d (.ref a) ∧ Exa Z Z.heap a K := by
  obtain ⟨a, ev⟩ := exa_v hx
  exact ⟨a, ev, Sta.start ev (Or.inr ⟨wi, wl⟩), Exa.start ev hx⟩
theorem sta_arr {args : Array Value} {C f d : String} {ty : FieldType} (hx : (Cond.arrayOf (.static C f d) ty).value args Z none Z [] = some true) (wi : (Cond.initialized C).before args Z = true) (wl : (Cond.laysStatic C f d).before args Z = true) : ∃ a cl, (Term.static C f d).eval args Z none [] Z = some (.ref a) ∧ Sta Z Z.heap C f d (.ref a) ∧ Arr Z Z.heap a cl ty := by
  obtain ⟨a, ev⟩ := arr_v hx
  obtain ⟨cl, A⟩ := Arr.start ev hx
  exact ⟨a, cl, ev, Sta.start ev (Or.inr ⟨wi, wl⟩), A⟩
theorem int_of_eq {args : Array Value} {t : Term} {kk : Int32} (h : (Cond.eq t (.int kk)).value args Z none Z [] = some true) : t.eval args Z none [] Z = some (.int kk) := by
  obtain ⟨x, y, h1, h2, k1, k2⟩ := cmp_v (Or.inl h)
  cases (Option.some.inj h2 : Value.int kk = y)
  obtain ⟨z, rfl⟩ : ∃ z, x = .int z := k2
  have q : z = kk := by simpa [Cond.value, h1, Term.eval] using h
  rw [h1, q]
theorem fld_eq {args : Array Value} {t : Term} {C f d : String} {a : Addr} {kk : Int32} (ht : t.eval args Z none [] Z = some (.ref a)) (h : (Cond.eq (.field t C f d) (.int kk)).value args Z none Z [] = some true) : Fld Z Z.heap a C f d (.int kk) :=
  Fld.start ((fld_at ht).symm.trans (int_of_eq h))
theorem ref_of_eq {args : Array Value} {t u : Term} {a : Addr} (hu : u.eval args Z none [] Z = some (.ref a)) (h : (Cond.eq t u).value args Z none Z [] = some true) : t.eval args Z none [] Z = some (.ref a) := by
  obtain ⟨x, y, h1, h2, k1, k2⟩ := cmp_v (Or.inl h)
  cases (Option.some.inj (hu.symm.trans h2) : Value.ref a = y)
  have kx : x.isRef = true := k2.2
  rw [h1, gotT (eq_R h1 hu kx rfl) h]
theorem avf_len {args : Array Value} {t : Term} {a : Addr} {cl : Cell} {ty : FieldType} {z : Int32} {sz : Nat} (A : Arr Z Z.heap a cl ty) (ev : t.eval args Z none [] Z = some (.ref a)) (h : (Term.length t).eval args Z none [] Z = some (.int z)) (hz : z.toNatClampNeg = sz) : cl.slots.size = sz := by
  have ha : Z.arrayAt? a = some cl := A.fin (Vm.Alike.refl _)
  simp only [Term.eval, ev, ha, Option.bind_eq_bind, Option.bind_some] at h
  split at h
  · rename_i hl
    have e : cl.slots.size.toInt32 = z := by simpa using h
    rw [← hz, ← e]
    have q := len_toInt hl
    simp only [Int32.toNatClampNeg, q]; omega
  · cases h
theorem iremS {g : JFrame} {target : State} (X : Sd n0 p l e R s m args below meth c T h k n) (hx : p.tables.exec = Jvm.exec) (hg : g.method = m) {x y : Int32} {rest : List Value} (hd : decode c.code g.pc = .ok (.irem, 1)) (hs : g.stack = .int y :: .int x :: rest) (hy : y ≠ 0)
    (hr : Steps p.tables e below (T.setTop { g with pc := g.pc + 1, stack := .int (x % y) :: rest }) target) : Steps p.tables e below (T.setTop g) target := by
  obtain ⟨L, X, -⟩ := X; exact iremM X hx hg hd hs hy hr
end Sds
end Jvm.RoadKit
namespace Jvm.Pilot.@@N@@
open Jvm Jvm.ClassFile Sem Op Lib Jvm.Free Jvm.Stand Jvm.LawKit Jvm.RoadKit Bundle Jvm.Pilot.@@N@@.Jvm.D
theorem tw {a0 : Array Value} {Z : State} (hw : ∀ d ∈ tables_1, d.before a0 Z = true) (i : Nat) {d : Jvm.Cond} (h : tables_1[i]? = some d) : d.before a0 Z = true := hw _ (List.mem_of_getElem? h)
def own_req (c : Int32) (a1 a2 a3 a4 a5 a6 a7 a8 a9 a10 a11 a12 a13 : Addr) : Value := if c = 1 then .ref a1 else if c = 2 then .ref a2 else if c = 3 then .ref a3 else if c = 4 then .ref a4 else if c = 5 then .ref a5 else if c = 6 then .ref a6 else if c = 7 then .ref a7 else if c = 8 then .ref a8 else if c = 9 then .ref a9 else if c = 10 then .ref a10 else if c = 11 then .ref a11 else if c = 12 then .ref a12 else if c = 13 then .ref a13 else .null
theorem own_ite {p : Prop} [Decidable p] {a b : Value} (h1 : a.isRef = true) (h2 : b.isRef = true) : (if p then a else b).isRef = true := by
  by_cases h : p
  · rw [if_pos h]; exact h1
  · rw [if_neg h]; exact h2
theorem own_isref (c : Int32) (a1 a2 a3 a4 a5 a6 a7 a8 a9 a10 a11 a12 a13 : Addr) : (own_req c a1 a2 a3 a4 a5 a6 a7 a8 a9 a10 a11 a12 a13).isRef = true := by
  unfold own_req
  repeat (refine own_ite rfl ?_)
  rfl
theorem own_null {c : Int32} {a1 a2 a3 a4 a5 a6 a7 a8 a9 a10 a11 a12 a13 : Addr} (h : ¬ (c = 1 ∨ c = 2 ∨ c = 3 ∨ c = 4 ∨ c = 5 ∨ c = 6 ∨ c = 7 ∨ c = 8 ∨ c = 9 ∨ c = 10 ∨ c = 11 ∨ c = 12 ∨ c = 13)) : own_req c a1 a2 a3 a4 a5 a6 a7 a8 a9 a10 a11 a12 a13 = .null := by
  simp only [not_or] at h
  simp [own_req, h]
theorem own_bit {c : Int32} (h : ¬ (c &&& 128 = 0)) : ¬ (c = 1 ∨ c = 2 ∨ c = 3 ∨ c = 4 ∨ c = 5 ∨ c = 6 ∨ c = 7 ∨ c = 8 ∨ c = 9 ∨ c = 10 ∨ c = 11 ∨ c = 12 ∨ c = 13) := by
  rintro (rfl | rfl | rfl | rfl | rfl | rfl | rfl | rfl | rfl | rfl | rfl | rfl | rfl) <;> exact h (by decide)
theorem d1_0 : decode prog_23_method_5_code 0 = .ok (.iload_n 0, 1) := by decide +kernel
theorem d1_1 : decode prog_23_method_5_code 1 = .ok (.sipush 128, 3) := by decide +kernel
theorem d1_4 : decode prog_23_method_5_code 4 = .ok (.iand, 1) := by decide +kernel
theorem d1_5 : decode prog_23_method_5_code 5 = .ok (.ifCond .eq 5, 3) := by decide +kernel
theorem d1_10 : decode prog_23_method_5_code 10 = .ok (.getstatic 78, 3) := by decide +kernel
theorem d1_13 : decode prog_23_method_5_code 13 = .ok (.astore_n 1, 1) := by decide +kernel
theorem d1_14 : decode prog_23_method_5_code 14 = .ok (.aload_n 1, 1) := by decide +kernel
theorem d1_15 : decode prog_23_method_5_code 15 = .ok (.arraylength, 1) := by decide +kernel
theorem d1_16 : decode prog_23_method_5_code 16 = .ok (.istore_n 2, 1) := by decide +kernel
theorem d1_17 : decode prog_23_method_5_code 17 = .ok (.iconst 0, 1) := by decide +kernel
theorem d1_18 : decode prog_23_method_5_code 18 = .ok (.istore_n 3, 1) := by decide +kernel
theorem d1_19 : decode prog_23_method_5_code 19 = .ok (.iload_n 3, 1) := by decide +kernel
theorem d1_20 : decode prog_23_method_5_code 20 = .ok (.iload_n 2, 1) := by decide +kernel
theorem d1_21 : decode prog_23_method_5_code 21 = .ok (.if_icmp .ge 26, 3) := by decide +kernel
theorem d1_24 : decode prog_23_method_5_code 24 = .ok (.aload_n 1, 1) := by decide +kernel
theorem d1_25 : decode prog_23_method_5_code 25 = .ok (.iload_n 3, 1) := by decide +kernel
theorem d1_26 : decode prog_23_method_5_code 26 = .ok (.aaload, 1) := by decide +kernel
theorem d1_27 : decode prog_23_method_5_code 27 = .ok (.astore 4, 2) := by decide +kernel
theorem d1_29 : decode prog_23_method_5_code 29 = .ok (.aload 4, 2) := by decide +kernel
theorem d1_31 : decode prog_23_method_5_code 31 = .ok (.getfield 74, 3) := by decide +kernel
theorem d1_34 : decode prog_23_method_5_code 34 = .ok (.iload_n 0, 1) := by decide +kernel
theorem d1_35 : decode prog_23_method_5_code 35 = .ok (.if_icmp .ne 6, 3) := by decide +kernel
theorem d1_38 : decode prog_23_method_5_code 38 = .ok (.aload 4, 2) := by decide +kernel
theorem d1_40 : decode prog_23_method_5_code 40 = .ok (.areturn, 1) := by decide +kernel
theorem d1_41 : decode prog_23_method_5_code 41 = .ok (.iinc 3 1, 3) := by decide +kernel
theorem d1_44 : decode prog_23_method_5_code 44 = .ok (.goto (-25), 3) := by decide +kernel
theorem d1_47 : decode prog_23_method_5_code 47 = .ok (.aconst_null, 1) := by decide +kernel
theorem d1_48 : decode prog_23_method_5_code 48 = .ok (.areturn, 1) := by decide +kernel
theorem d1_8 : decode prog_23_method_5_code 8 = .ok (.aconst_null, 1) := by decide +kernel
theorem d1_9 : decode prog_23_method_5_code 9 = .ok (.areturn, 1) := by decide +kernel
abbrev Rm1 : Room := { frames := 0, cells := 0, slots := 0, locals := 0 }
theorem pn0 : plainName "com/example/shrike/shrike/protocol/FrameType" = true := by first | (simp [plainName, overriddenIn]; done) | decide +kernel
set_option maxRecDepth 65536 in
set_option maxHeartbeats 40000000 in
theorem rm1 (l : Launch) (Z : State) (a0 : Array Value) (hw : ∀ d ∈ tables_1, d.before a0 Z = true) (ws : List Jvm.Cond) (p1 : Int32) (a_HELLO : Addr) (a_PUBLISH : Addr) (a_SUBSCRIBE : Addr) (a_CREDIT : Addr) (a_ACK : Addr) (a_REJECT : Addr) (a_UNSUBSCRIBE : Addr) (a_PING : Addr) (a_QUEUES : Addr) (a_BIND : Addr) (a_UNBIND : Addr) (a_FANOUT : Addr) (a_TOPICS : Addr) (a_OK : Addr) (a_ERR : Addr) (a_DELIVER : Addr) (a_PONG : Addr) (a_TYPES : Addr) (kT : ClassId) (h0 : Heap) (n0 : Nat) (Z0 : n0 ≤ h0.size) (S_HELLO : Sta Z h0 "com/example/shrike/shrike/protocol/FrameType" "HELLO" "Lcom/example/shrike/shrike/protocol/FrameType;" (.ref a_HELLO)) (E_HELLO : Exa Z h0 a_HELLO "com/example/shrike/shrike/protocol/FrameType") (S_PUBLISH : Sta Z h0 "com/example/shrike/shrike/protocol/FrameType" "PUBLISH" "Lcom/example/shrike/shrike/protocol/FrameType;" (.ref a_PUBLISH)) (E_PUBLISH : Exa Z h0 a_PUBLISH "com/example/shrike/shrike/protocol/FrameType") (S_SUBSCRIBE : Sta Z h0 "com/example/shrike/shrike/protocol/FrameType" "SUBSCRIBE" "Lcom/example/shrike/shrike/protocol/FrameType;" (.ref a_SUBSCRIBE)) (E_SUBSCRIBE : Exa Z h0 a_SUBSCRIBE "com/example/shrike/shrike/protocol/FrameType") (S_CREDIT : Sta Z h0 "com/example/shrike/shrike/protocol/FrameType" "CREDIT" "Lcom/example/shrike/shrike/protocol/FrameType;" (.ref a_CREDIT)) (E_CREDIT : Exa Z h0 a_CREDIT "com/example/shrike/shrike/protocol/FrameType") (S_ACK : Sta Z h0 "com/example/shrike/shrike/protocol/FrameType" "ACK" "Lcom/example/shrike/shrike/protocol/FrameType;" (.ref a_ACK)) (E_ACK : Exa Z h0 a_ACK "com/example/shrike/shrike/protocol/FrameType") (S_REJECT : Sta Z h0 "com/example/shrike/shrike/protocol/FrameType" "REJECT" "Lcom/example/shrike/shrike/protocol/FrameType;" (.ref a_REJECT)) (E_REJECT : Exa Z h0 a_REJECT "com/example/shrike/shrike/protocol/FrameType") (S_UNSUBSCRIBE : Sta Z h0 "com/example/shrike/shrike/protocol/FrameType" "UNSUBSCRIBE" "Lcom/example/shrike/shrike/protocol/FrameType;" (.ref a_UNSUBSCRIBE)) (E_UNSUBSCRIBE : Exa Z h0 a_UNSUBSCRIBE "com/example/shrike/shrike/protocol/FrameType") (S_PING : Sta Z h0 "com/example/shrike/shrike/protocol/FrameType" "PING" "Lcom/example/shrike/shrike/protocol/FrameType;" (.ref a_PING)) (E_PING : Exa Z h0 a_PING "com/example/shrike/shrike/protocol/FrameType") (S_QUEUES : Sta Z h0 "com/example/shrike/shrike/protocol/FrameType" "QUEUES" "Lcom/example/shrike/shrike/protocol/FrameType;" (.ref a_QUEUES)) (E_QUEUES : Exa Z h0 a_QUEUES "com/example/shrike/shrike/protocol/FrameType") (S_BIND : Sta Z h0 "com/example/shrike/shrike/protocol/FrameType" "BIND" "Lcom/example/shrike/shrike/protocol/FrameType;" (.ref a_BIND)) (E_BIND : Exa Z h0 a_BIND "com/example/shrike/shrike/protocol/FrameType") (S_UNBIND : Sta Z h0 "com/example/shrike/shrike/protocol/FrameType" "UNBIND" "Lcom/example/shrike/shrike/protocol/FrameType;" (.ref a_UNBIND)) (E_UNBIND : Exa Z h0 a_UNBIND "com/example/shrike/shrike/protocol/FrameType") (S_FANOUT : Sta Z h0 "com/example/shrike/shrike/protocol/FrameType" "FANOUT" "Lcom/example/shrike/shrike/protocol/FrameType;" (.ref a_FANOUT)) (E_FANOUT : Exa Z h0 a_FANOUT "com/example/shrike/shrike/protocol/FrameType") (S_TOPICS : Sta Z h0 "com/example/shrike/shrike/protocol/FrameType" "TOPICS" "Lcom/example/shrike/shrike/protocol/FrameType;" (.ref a_TOPICS)) (E_TOPICS : Exa Z h0 a_TOPICS "com/example/shrike/shrike/protocol/FrameType") (S_OK : Sta Z h0 "com/example/shrike/shrike/protocol/FrameType" "OK" "Lcom/example/shrike/shrike/protocol/FrameType;" (.ref a_OK)) (E_OK : Exa Z h0 a_OK "com/example/shrike/shrike/protocol/FrameType") (S_ERR : Sta Z h0 "com/example/shrike/shrike/protocol/FrameType" "ERR" "Lcom/example/shrike/shrike/protocol/FrameType;" (.ref a_ERR)) (E_ERR : Exa Z h0 a_ERR "com/example/shrike/shrike/protocol/FrameType") (S_DELIVER : Sta Z h0 "com/example/shrike/shrike/protocol/FrameType" "DELIVER" "Lcom/example/shrike/shrike/protocol/FrameType;" (.ref a_DELIVER)) (E_DELIVER : Exa Z h0 a_DELIVER "com/example/shrike/shrike/protocol/FrameType") (S_PONG : Sta Z h0 "com/example/shrike/shrike/protocol/FrameType" "PONG" "Lcom/example/shrike/shrike/protocol/FrameType;" (.ref a_PONG)) (E_PONG : Exa Z h0 a_PONG "com/example/shrike/shrike/protocol/FrameType") (F_HELLO_code : Fld Z h0 a_HELLO "com/example/shrike/shrike/protocol/FrameType" "code" "I" (.int (1 : Int32))) (F_PUBLISH_code : Fld Z h0 a_PUBLISH "com/example/shrike/shrike/protocol/FrameType" "code" "I" (.int (2 : Int32))) (F_SUBSCRIBE_code : Fld Z h0 a_SUBSCRIBE "com/example/shrike/shrike/protocol/FrameType" "code" "I" (.int (3 : Int32))) (F_CREDIT_code : Fld Z h0 a_CREDIT "com/example/shrike/shrike/protocol/FrameType" "code" "I" (.int (4 : Int32))) (F_ACK_code : Fld Z h0 a_ACK "com/example/shrike/shrike/protocol/FrameType" "code" "I" (.int (5 : Int32))) (F_REJECT_code : Fld Z h0 a_REJECT "com/example/shrike/shrike/protocol/FrameType" "code" "I" (.int (6 : Int32))) (F_UNSUBSCRIBE_code : Fld Z h0 a_UNSUBSCRIBE "com/example/shrike/shrike/protocol/FrameType" "code" "I" (.int (7 : Int32))) (F_PING_code : Fld Z h0 a_PING "com/example/shrike/shrike/protocol/FrameType" "code" "I" (.int (8 : Int32))) (F_QUEUES_code : Fld Z h0 a_QUEUES "com/example/shrike/shrike/protocol/FrameType" "code" "I" (.int (9 : Int32))) (F_BIND_code : Fld Z h0 a_BIND "com/example/shrike/shrike/protocol/FrameType" "code" "I" (.int (10 : Int32))) (F_UNBIND_code : Fld Z h0 a_UNBIND "com/example/shrike/shrike/protocol/FrameType" "code" "I" (.int (11 : Int32))) (F_FANOUT_code : Fld Z h0 a_FANOUT "com/example/shrike/shrike/protocol/FrameType" "code" "I" (.int (12 : Int32))) (F_TOPICS_code : Fld Z h0 a_TOPICS "com/example/shrike/shrike/protocol/FrameType" "code" "I" (.int (13 : Int32))) (F_OK_code : Fld Z h0 a_OK "com/example/shrike/shrike/protocol/FrameType" "code" "I" (.int (129 : Int32))) (F_ERR_code : Fld Z h0 a_ERR "com/example/shrike/shrike/protocol/FrameType" "code" "I" (.int (130 : Int32))) (F_DELIVER_code : Fld Z h0 a_DELIVER "com/example/shrike/shrike/protocol/FrameType" "code" "I" (.int (131 : Int32))) (F_PONG_code : Fld Z h0 a_PONG "com/example/shrike/shrike/protocol/FrameType" "code" "I" (.int (132 : Int32))) (S_TYPES : Sta Z h0 "com/example/shrike/shrike/protocol/FrameType" "TYPES" "[Lcom/example/shrike/shrike/protocol/FrameType;" (.ref a_TYPES)) (V_TYPES : Avf Z h0 a_TYPES kT (.object "com/example/shrike/shrike/protocol/FrameType") 17 (fun i => ([Value.ref a_HELLO, Value.ref a_PUBLISH, Value.ref a_SUBSCRIBE, Value.ref a_CREDIT, Value.ref a_ACK, Value.ref a_REJECT, Value.ref a_UNSUBSCRIBE, Value.ref a_PING, Value.ref a_QUEUES, Value.ref a_BIND, Value.ref a_UNBIND, Value.ref a_FANOUT, Value.ref a_TOPICS, Value.ref a_OK, Value.ref a_ERR, Value.ref a_DELIVER, Value.ref a_PONG] : List Value).getD i .null)) :
    Met l Z n0 (⟨"com/example/shrike/shrike/protocol/FrameType", "request", "(I)Lcom/example/shrike/shrike/protocol/FrameType;"⟩ : MethodName) prog_23_method_5_code 5 (some (.object "com/example/shrike/shrike/protocol/FrameType")) ws Rm1 #[(.int p1)] h0 (fun v h => v = some (own_req p1 a_HELLO a_PUBLISH a_SUBSCRIBE a_CREDIT a_ACK a_REJECT a_UNSUBSCRIBE a_PING a_QUEUES a_BIND a_UNBIND a_FANOUT a_TOPICS) ∧ h0 = h) := by
  refine enter (Ls := #[.val (.int p1), .unset, .unset, .unset, .unset]) (plainFor_of_name pn0) (fun m => by first | rfl | (simp [entryFrame, mkF, argsToLocals, Value.category]; done)) ?_
  intro p e s m below meth c T0 hx hby hml hown hnm hret hlk hZ X0
  show Go p.tables e below _ (T0.setTop (mkF m 0 #[.val (.int p1), .unset, .unset, .unset, .unset] []))
  refine Go.by (fun _ => XS.iloadN X0.here hx rfl (hb hby d1_0) rfl) ?_
  show Go p.tables e below _ (T0.setTop (mkF m 1 #[.val (.int p1), .unset, .unset, .unset, .unset] [(.int p1)]))
  refine Go.by (fun _ => XS.sipush X0.here hx rfl (hb hby d1_1)) ?_
  show Go p.tables e below _ (T0.setTop (mkF m 4 #[.val (.int p1), .unset, .unset, .unset, .unset] [(.int (128 : Int32)), (.int p1)]))
  refine Go.by (fun _ => XS.iand X0.here hx rfl (hb hby d1_4) rfl) ?_
  show Go p.tables e below _ (T0.setTop (mkF m 5 #[.val (.int p1), .unset, .unset, .unset, .unset] [(.int (p1 &&& (128 : Int32)))]))
  by_cases hc5_1 : (p1 &&& (128 : Int32)) = (0 : Int32)
  · skip
    refine Go.by (fun _ => XS.ifYes X0.here hx rfl (pc0 := 5) (pc' := 10) rfl (hb hby d1_5) rfl ((if0 _ _).trans (teq hc5_1).1) (by decide) (by decide)) ?_
    show Go p.tables e below _ (T0.setTop (mkF m 10 #[.val (.int p1), .unset, .unset, .unset, .unset] []))
    obtain ⟨T2, X2, st2⟩ := X0.getS hx hZ hown (host := "") (Or.inl (tw hw 4 rfl)) Via.refl S_TYPES (g := (mkF m 10 #[.val (.int p1), .unset, .unset, .unset, .unset] [])) rfl (hb hby d1_10)
    refine Go.by st2 ?_
    show Go p.tables e below _ (T2.setTop (mkF m 13 #[.val (.int p1), .unset, .unset, .unset, .unset] [(.ref a_TYPES)]))
    refine Go.by (fun _ => XS.astoreN X2.here hx rfl (hb hby d1_13) rfl rfl (l' := #[.val (.int p1), .val (.ref a_TYPES), .unset, .unset, .unset]) rfl) ?_
    show Go p.tables e below _ (T2.setTop (mkF m 14 #[.val (.int p1), .val (.ref a_TYPES), .unset, .unset, .unset] []))
    refine Go.by (fun _ => XS.aloadN X2.here hx rfl (hb hby d1_14) rfl rfl) ?_
    show Go p.tables e below _ (T2.setTop (mkF m 15 #[.val (.int p1), .val (.ref a_TYPES), .unset, .unset, .unset] [(.ref a_TYPES)]))
    refine Go.by (X2.len hx hZ V_TYPES (z := (17 : Int32)) rfl (g := (mkF m 15 #[.val (.int p1), .val (.ref a_TYPES), .unset, .unset, .unset] [(.ref a_TYPES)])) rfl rfl (hb hby d1_15)) ?_
    show Go p.tables e below _ (T2.setTop (mkF m 16 #[.val (.int p1), .val (.ref a_TYPES), .unset, .unset, .unset] [(.int (17 : Int32))]))
    refine Go.by (fun _ => XS.istoreN X2.here hx rfl (hb hby d1_16) rfl (l' := #[.val (.int p1), .val (.ref a_TYPES), .val (.int (17 : Int32)), .unset, .unset]) rfl) ?_
    show Go p.tables e below _ (T2.setTop (mkF m 17 #[.val (.int p1), .val (.ref a_TYPES), .val (.int (17 : Int32)), .unset, .unset] []))
    refine Go.by (fun _ => XS.iconst X2.here hx rfl (hb hby d1_17)) ?_
    show Go p.tables e below _ (T2.setTop (mkF m 18 #[.val (.int p1), .val (.ref a_TYPES), .val (.int (17 : Int32)), .unset, .unset] [(.int (0 : Int32))]))
    refine Go.by (fun _ => XS.istoreN X2.here hx rfl (hb hby d1_18) rfl (l' := #[.val (.int p1), .val (.ref a_TYPES), .val (.int (17 : Int32)), .val (.int (0 : Int32)), .unset]) rfl) ?_
    show Go p.tables e below _ (T2.setTop (mkF m 19 #[.val (.int p1), .val (.ref a_TYPES), .val (.int (17 : Int32)), .val (.int (0 : Int32)), .unset] []))
    refine Go.by (fun _ => XS.iloadN X2.here hx rfl (hb hby d1_19) rfl) ?_
    show Go p.tables e below _ (T2.setTop (mkF m 20 #[.val (.int p1), .val (.ref a_TYPES), .val (.int (17 : Int32)), .val (.int (0 : Int32)), .unset] [(.int (0 : Int32))]))
    refine Go.by (fun _ => XS.iloadN X2.here hx rfl (hb hby d1_20) rfl) ?_
    show Go p.tables e below _ (T2.setTop (mkF m 21 #[.val (.int p1), .val (.ref a_TYPES), .val (.int (17 : Int32)), .val (.int (0 : Int32)), .unset] [(.int (17 : Int32)), (.int (0 : Int32))]))
    refine Go.by (fun _ => XS.icmpNo X2.here hx rfl (hb hby d1_21) rfl (tlt (by decide)).2.1) ?_
    show Go p.tables e below _ (T2.setTop (mkF m 24 #[.val (.int p1), .val (.ref a_TYPES), .val (.int (17 : Int32)), .val (.int (0 : Int32)), .unset] []))
    refine Go.by (fun _ => XS.aloadN X2.here hx rfl (hb hby d1_24) rfl rfl) ?_
    show Go p.tables e below _ (T2.setTop (mkF m 25 #[.val (.int p1), .val (.ref a_TYPES), .val (.int (17 : Int32)), .val (.int (0 : Int32)), .unset] [(.ref a_TYPES)]))
    refine Go.by (fun _ => XS.iloadN X2.here hx rfl (hb hby d1_25) rfl) ?_
    show Go p.tables e below _ (T2.setTop (mkF m 26 #[.val (.int p1), .val (.ref a_TYPES), .val (.int (17 : Int32)), .val (.int (0 : Int32)), .unset] [(.int (0 : Int32)), (.ref a_TYPES)]))
    refine Go.by (X2.ldA hx hZ V_TYPES rfl (by decide) (i := 0) rfl (by decide) (v := (.ref a_HELLO)) rfl (g := (mkF m 26 #[.val (.int p1), .val (.ref a_TYPES), .val (.int (17 : Int32)), .val (.int (0 : Int32)), .unset] [(.int (0 : Int32)), (.ref a_TYPES)])) rfl rfl (hb hby d1_26)) ?_
    show Go p.tables e below _ (T2.setTop (mkF m 27 #[.val (.int p1), .val (.ref a_TYPES), .val (.int (17 : Int32)), .val (.int (0 : Int32)), .unset] [(.ref a_HELLO)]))
    refine Go.by (fun _ => XS.astore X2.here hx rfl (hb hby d1_27) rfl rfl (l' := #[.val (.int p1), .val (.ref a_TYPES), .val (.int (17 : Int32)), .val (.int (0 : Int32)), .val (.ref a_HELLO)]) rfl) ?_
    show Go p.tables e below _ (T2.setTop (mkF m 29 #[.val (.int p1), .val (.ref a_TYPES), .val (.int (17 : Int32)), .val (.int (0 : Int32)), .val (.ref a_HELLO)] []))
    refine Go.by (fun _ => XS.aload X2.here hx rfl (hb hby d1_29) rfl rfl) ?_
    show Go p.tables e below _ (T2.setTop (mkF m 31 #[.val (.int p1), .val (.ref a_TYPES), .val (.int (17 : Int32)), .val (.int (0 : Int32)), .val (.ref a_HELLO)] [(.ref a_HELLO)]))
    obtain ⟨T3, X3, st3⟩ := X2.getF hx hZ hown (host := "") (Or.inl (tw hw 7 rfl)) Via.refl F_HELLO_code (g := (mkF m 31 #[.val (.int p1), .val (.ref a_TYPES), .val (.int (17 : Int32)), .val (.int (0 : Int32)), .val (.ref a_HELLO)] [(.ref a_HELLO)])) rfl rfl (hb hby d1_31)
    refine Go.by st3 ?_
    show Go p.tables e below _ (T3.setTop (mkF m 34 #[.val (.int p1), .val (.ref a_TYPES), .val (.int (17 : Int32)), .val (.int (0 : Int32)), .val (.ref a_HELLO)] [(.int (1 : Int32))]))
    refine Go.by (fun _ => XS.iloadN X3.here hx rfl (hb hby d1_34) rfl) ?_
    show Go p.tables e below _ (T3.setTop (mkF m 35 #[.val (.int p1), .val (.ref a_TYPES), .val (.int (17 : Int32)), .val (.int (0 : Int32)), .val (.ref a_HELLO)] [(.int p1), (.int (1 : Int32))]))
    by_cases hc35_4 : (1 : Int32) = p1
    · skip
      refine Go.by (fun _ => XS.icmpNo X3.here hx rfl (hb hby d1_35) rfl (teq hc35_4).2) ?_
      show Go p.tables e below _ (T3.setTop (mkF m 38 #[.val (.int p1), .val (.ref a_TYPES), .val (.int (17 : Int32)), .val (.int (0 : Int32)), .val (.ref a_HELLO)] []))
      refine Go.by (fun _ => XS.aload X3.here hx rfl (hb hby d1_38) rfl rfl) ?_
      show Go p.tables e below _ (T3.setTop (mkF m 40 #[.val (.int p1), .val (.ref a_TYPES), .val (.int (17 : Int32)), .val (.int (0 : Int32)), .val (.ref a_HELLO)] [(.ref a_HELLO)]))
      refine Go.retA X3 hx hlk hret rfl rfl (hb hby d1_40) (by decide) (by decide) ?_
      subst hc35_4
      exact ⟨by simp [own_req], rfl⟩
    · skip
      refine Go.by (fun _ => XS.icmpYes X3.here hx rfl (pc0 := 35) (pc' := 41) rfl (hb hby d1_35) rfl (feq hc35_4).2 (by decide) (by decide)) ?_
      show Go p.tables e below _ (T3.setTop (mkF m 41 #[.val (.int p1), .val (.ref a_TYPES), .val (.int (17 : Int32)), .val (.int (0 : Int32)), .val (.ref a_HELLO)] []))
      refine Go.by (fun _ => XS.iinc X3.here hx rfl (hb hby d1_41) rfl (l' := #[.val (.int p1), .val (.ref a_TYPES), .val (.int (17 : Int32)), .val (.int (1 : Int32)), .val (.ref a_HELLO)]) rfl) ?_
      show Go p.tables e below _ (T3.setTop (mkF m 44 #[.val (.int p1), .val (.ref a_TYPES), .val (.int (17 : Int32)), .val (.int (1 : Int32)), .val (.ref a_HELLO)] []))
      refine Go.by (fun _ => XS.goto X3.here hx rfl (pc0 := 44) (pc' := 19) rfl (hb hby d1_44) (by decide) (by decide)) ?_
      show Go p.tables e below _ (T3.setTop (mkF m 19 #[.val (.int p1), .val (.ref a_TYPES), .val (.int (17 : Int32)), .val (.int (1 : Int32)), .val (.ref a_HELLO)] []))
      refine Go.by (fun _ => XS.iloadN X3.here hx rfl (hb hby d1_19) rfl) ?_
      show Go p.tables e below _ (T3.setTop (mkF m 20 #[.val (.int p1), .val (.ref a_TYPES), .val (.int (17 : Int32)), .val (.int (1 : Int32)), .val (.ref a_HELLO)] [(.int (1 : Int32))]))
      refine Go.by (fun _ => XS.iloadN X3.here hx rfl (hb hby d1_20) rfl) ?_
      show Go p.tables e below _ (T3.setTop (mkF m 21 #[.val (.int p1), .val (.ref a_TYPES), .val (.int (17 : Int32)), .val (.int (1 : Int32)), .val (.ref a_HELLO)] [(.int (17 : Int32)), (.int (1 : Int32))]))
      refine Go.by (fun _ => XS.icmpNo X3.here hx rfl (hb hby d1_21) rfl (tlt (by decide)).2.1) ?_
      show Go p.tables e below _ (T3.setTop (mkF m 24 #[.val (.int p1), .val (.ref a_TYPES), .val (.int (17 : Int32)), .val (.int (1 : Int32)), .val (.ref a_HELLO)] []))
      refine Go.by (fun _ => XS.aloadN X3.here hx rfl (hb hby d1_24) rfl rfl) ?_
      show Go p.tables e below _ (T3.setTop (mkF m 25 #[.val (.int p1), .val (.ref a_TYPES), .val (.int (17 : Int32)), .val (.int (1 : Int32)), .val (.ref a_HELLO)] [(.ref a_TYPES)]))
      refine Go.by (fun _ => XS.iloadN X3.here hx rfl (hb hby d1_25) rfl) ?_
      show Go p.tables e below _ (T3.setTop (mkF m 26 #[.val (.int p1), .val (.ref a_TYPES), .val (.int (17 : Int32)), .val (.int (1 : Int32)), .val (.ref a_HELLO)] [(.int (1 : Int32)), (.ref a_TYPES)]))
      refine Go.by (X3.ldA hx hZ V_TYPES rfl (by decide) (i := 1) rfl (by decide) (v := (.ref a_PUBLISH)) rfl (g := (mkF m 26 #[.val (.int p1), .val (.ref a_TYPES), .val (.int (17 : Int32)), .val (.int (1 : Int32)), .val (.ref a_HELLO)] [(.int (1 : Int32)), (.ref a_TYPES)])) rfl rfl (hb hby d1_26)) ?_
      show Go p.tables e below _ (T3.setTop (mkF m 27 #[.val (.int p1), .val (.ref a_TYPES), .val (.int (17 : Int32)), .val (.int (1 : Int32)), .val (.ref a_HELLO)] [(.ref a_PUBLISH)]))
      refine Go.by (fun _ => XS.astore X3.here hx rfl (hb hby d1_27) rfl rfl (l' := #[.val (.int p1), .val (.ref a_TYPES), .val (.int (17 : Int32)), .val (.int (1 : Int32)), .val (.ref a_PUBLISH)]) rfl) ?_
      show Go p.tables e below _ (T3.setTop (mkF m 29 #[.val (.int p1), .val (.ref a_TYPES), .val (.int (17 : Int32)), .val (.int (1 : Int32)), .val (.ref a_PUBLISH)] []))
      refine Go.by (fun _ => XS.aload X3.here hx rfl (hb hby d1_29) rfl rfl) ?_
      show Go p.tables e below _ (T3.setTop (mkF m 31 #[.val (.int p1), .val (.ref a_TYPES), .val (.int (17 : Int32)), .val (.int (1 : Int32)), .val (.ref a_PUBLISH)] [(.ref a_PUBLISH)]))
      obtain ⟨T5, X5, st5⟩ := X3.getF hx hZ hown (host := "") (Or.inl (tw hw 7 rfl)) Via.refl F_PUBLISH_code (g := (mkF m 31 #[.val (.int p1), .val (.ref a_TYPES), .val (.int (17 : Int32)), .val (.int (1 : Int32)), .val (.ref a_PUBLISH)] [(.ref a_PUBLISH)])) rfl rfl (hb hby d1_31)
      refine Go.by st5 ?_
      show Go p.tables e below _ (T5.setTop (mkF m 34 #[.val (.int p1), .val (.ref a_TYPES), .val (.int (17 : Int32)), .val (.int (1 : Int32)), .val (.ref a_PUBLISH)] [(.int (2 : Int32))]))
      refine Go.by (fun _ => XS.iloadN X5.here hx rfl (hb hby d1_34) rfl) ?_
      show Go p.tables e below _ (T5.setTop (mkF m 35 #[.val (.int p1), .val (.ref a_TYPES), .val (.int (17 : Int32)), .val (.int (1 : Int32)), .val (.ref a_PUBLISH)] [(.int p1), (.int (2 : Int32))]))
      by_cases hc35_6 : (2 : Int32) = p1
      · skip
        refine Go.by (fun _ => XS.icmpNo X5.here hx rfl (hb hby d1_35) rfl (teq hc35_6).2) ?_
        show Go p.tables e below _ (T5.setTop (mkF m 38 #[.val (.int p1), .val (.ref a_TYPES), .val (.int (17 : Int32)), .val (.int (1 : Int32)), .val (.ref a_PUBLISH)] []))
        refine Go.by (fun _ => XS.aload X5.here hx rfl (hb hby d1_38) rfl rfl) ?_
        show Go p.tables e below _ (T5.setTop (mkF m 40 #[.val (.int p1), .val (.ref a_TYPES), .val (.int (17 : Int32)), .val (.int (1 : Int32)), .val (.ref a_PUBLISH)] [(.ref a_PUBLISH)]))
        refine Go.retA X5 hx hlk hret rfl rfl (hb hby d1_40) (by decide) (by decide) ?_
        subst hc35_6
        exact ⟨by simp [own_req], rfl⟩
      · skip
        refine Go.by (fun _ => XS.icmpYes X5.here hx rfl (pc0 := 35) (pc' := 41) rfl (hb hby d1_35) rfl (feq hc35_6).2 (by decide) (by decide)) ?_
        show Go p.tables e below _ (T5.setTop (mkF m 41 #[.val (.int p1), .val (.ref a_TYPES), .val (.int (17 : Int32)), .val (.int (1 : Int32)), .val (.ref a_PUBLISH)] []))
        refine Go.by (fun _ => XS.iinc X5.here hx rfl (hb hby d1_41) rfl (l' := #[.val (.int p1), .val (.ref a_TYPES), .val (.int (17 : Int32)), .val (.int (2 : Int32)), .val (.ref a_PUBLISH)]) rfl) ?_
        show Go p.tables e below _ (T5.setTop (mkF m 44 #[.val (.int p1), .val (.ref a_TYPES), .val (.int (17 : Int32)), .val (.int (2 : Int32)), .val (.ref a_PUBLISH)] []))
        refine Go.by (fun _ => XS.goto X5.here hx rfl (pc0 := 44) (pc' := 19) rfl (hb hby d1_44) (by decide) (by decide)) ?_
        show Go p.tables e below _ (T5.setTop (mkF m 19 #[.val (.int p1), .val (.ref a_TYPES), .val (.int (17 : Int32)), .val (.int (2 : Int32)), .val (.ref a_PUBLISH)] []))
        refine Go.by (fun _ => XS.iloadN X5.here hx rfl (hb hby d1_19) rfl) ?_
        show Go p.tables e below _ (T5.setTop (mkF m 20 #[.val (.int p1), .val (.ref a_TYPES), .val (.int (17 : Int32)), .val (.int (2 : Int32)), .val (.ref a_PUBLISH)] [(.int (2 : Int32))]))
        refine Go.by (fun _ => XS.iloadN X5.here hx rfl (hb hby d1_20) rfl) ?_
        show Go p.tables e below _ (T5.setTop (mkF m 21 #[.val (.int p1), .val (.ref a_TYPES), .val (.int (17 : Int32)), .val (.int (2 : Int32)), .val (.ref a_PUBLISH)] [(.int (17 : Int32)), (.int (2 : Int32))]))
        refine Go.by (fun _ => XS.icmpNo X5.here hx rfl (hb hby d1_21) rfl (tlt (by decide)).2.1) ?_
        show Go p.tables e below _ (T5.setTop (mkF m 24 #[.val (.int p1), .val (.ref a_TYPES), .val (.int (17 : Int32)), .val (.int (2 : Int32)), .val (.ref a_PUBLISH)] []))
        refine Go.by (fun _ => XS.aloadN X5.here hx rfl (hb hby d1_24) rfl rfl) ?_
        show Go p.tables e below _ (T5.setTop (mkF m 25 #[.val (.int p1), .val (.ref a_TYPES), .val (.int (17 : Int32)), .val (.int (2 : Int32)), .val (.ref a_PUBLISH)] [(.ref a_TYPES)]))
        refine Go.by (fun _ => XS.iloadN X5.here hx rfl (hb hby d1_25) rfl) ?_
        show Go p.tables e below _ (T5.setTop (mkF m 26 #[.val (.int p1), .val (.ref a_TYPES), .val (.int (17 : Int32)), .val (.int (2 : Int32)), .val (.ref a_PUBLISH)] [(.int (2 : Int32)), (.ref a_TYPES)]))
        refine Go.by (X5.ldA hx hZ V_TYPES rfl (by decide) (i := 2) rfl (by decide) (v := (.ref a_SUBSCRIBE)) rfl (g := (mkF m 26 #[.val (.int p1), .val (.ref a_TYPES), .val (.int (17 : Int32)), .val (.int (2 : Int32)), .val (.ref a_PUBLISH)] [(.int (2 : Int32)), (.ref a_TYPES)])) rfl rfl (hb hby d1_26)) ?_
        show Go p.tables e below _ (T5.setTop (mkF m 27 #[.val (.int p1), .val (.ref a_TYPES), .val (.int (17 : Int32)), .val (.int (2 : Int32)), .val (.ref a_PUBLISH)] [(.ref a_SUBSCRIBE)]))
        refine Go.by (fun _ => XS.astore X5.here hx rfl (hb hby d1_27) rfl rfl (l' := #[.val (.int p1), .val (.ref a_TYPES), .val (.int (17 : Int32)), .val (.int (2 : Int32)), .val (.ref a_SUBSCRIBE)]) rfl) ?_
        show Go p.tables e below _ (T5.setTop (mkF m 29 #[.val (.int p1), .val (.ref a_TYPES), .val (.int (17 : Int32)), .val (.int (2 : Int32)), .val (.ref a_SUBSCRIBE)] []))
        refine Go.by (fun _ => XS.aload X5.here hx rfl (hb hby d1_29) rfl rfl) ?_
        show Go p.tables e below _ (T5.setTop (mkF m 31 #[.val (.int p1), .val (.ref a_TYPES), .val (.int (17 : Int32)), .val (.int (2 : Int32)), .val (.ref a_SUBSCRIBE)] [(.ref a_SUBSCRIBE)]))
        obtain ⟨T7, X7, st7⟩ := X5.getF hx hZ hown (host := "") (Or.inl (tw hw 7 rfl)) Via.refl F_SUBSCRIBE_code (g := (mkF m 31 #[.val (.int p1), .val (.ref a_TYPES), .val (.int (17 : Int32)), .val (.int (2 : Int32)), .val (.ref a_SUBSCRIBE)] [(.ref a_SUBSCRIBE)])) rfl rfl (hb hby d1_31)
        refine Go.by st7 ?_
        show Go p.tables e below _ (T7.setTop (mkF m 34 #[.val (.int p1), .val (.ref a_TYPES), .val (.int (17 : Int32)), .val (.int (2 : Int32)), .val (.ref a_SUBSCRIBE)] [(.int (3 : Int32))]))
        refine Go.by (fun _ => XS.iloadN X7.here hx rfl (hb hby d1_34) rfl) ?_
        show Go p.tables e below _ (T7.setTop (mkF m 35 #[.val (.int p1), .val (.ref a_TYPES), .val (.int (17 : Int32)), .val (.int (2 : Int32)), .val (.ref a_SUBSCRIBE)] [(.int p1), (.int (3 : Int32))]))
        by_cases hc35_8 : (3 : Int32) = p1
        · skip
          refine Go.by (fun _ => XS.icmpNo X7.here hx rfl (hb hby d1_35) rfl (teq hc35_8).2) ?_
          show Go p.tables e below _ (T7.setTop (mkF m 38 #[.val (.int p1), .val (.ref a_TYPES), .val (.int (17 : Int32)), .val (.int (2 : Int32)), .val (.ref a_SUBSCRIBE)] []))
          refine Go.by (fun _ => XS.aload X7.here hx rfl (hb hby d1_38) rfl rfl) ?_
          show Go p.tables e below _ (T7.setTop (mkF m 40 #[.val (.int p1), .val (.ref a_TYPES), .val (.int (17 : Int32)), .val (.int (2 : Int32)), .val (.ref a_SUBSCRIBE)] [(.ref a_SUBSCRIBE)]))
          refine Go.retA X7 hx hlk hret rfl rfl (hb hby d1_40) (by decide) (by decide) ?_
          subst hc35_8
          exact ⟨by simp [own_req], rfl⟩
        · skip
          refine Go.by (fun _ => XS.icmpYes X7.here hx rfl (pc0 := 35) (pc' := 41) rfl (hb hby d1_35) rfl (feq hc35_8).2 (by decide) (by decide)) ?_
          show Go p.tables e below _ (T7.setTop (mkF m 41 #[.val (.int p1), .val (.ref a_TYPES), .val (.int (17 : Int32)), .val (.int (2 : Int32)), .val (.ref a_SUBSCRIBE)] []))
          refine Go.by (fun _ => XS.iinc X7.here hx rfl (hb hby d1_41) rfl (l' := #[.val (.int p1), .val (.ref a_TYPES), .val (.int (17 : Int32)), .val (.int (3 : Int32)), .val (.ref a_SUBSCRIBE)]) rfl) ?_
          show Go p.tables e below _ (T7.setTop (mkF m 44 #[.val (.int p1), .val (.ref a_TYPES), .val (.int (17 : Int32)), .val (.int (3 : Int32)), .val (.ref a_SUBSCRIBE)] []))
          refine Go.by (fun _ => XS.goto X7.here hx rfl (pc0 := 44) (pc' := 19) rfl (hb hby d1_44) (by decide) (by decide)) ?_
          show Go p.tables e below _ (T7.setTop (mkF m 19 #[.val (.int p1), .val (.ref a_TYPES), .val (.int (17 : Int32)), .val (.int (3 : Int32)), .val (.ref a_SUBSCRIBE)] []))
          refine Go.by (fun _ => XS.iloadN X7.here hx rfl (hb hby d1_19) rfl) ?_
          show Go p.tables e below _ (T7.setTop (mkF m 20 #[.val (.int p1), .val (.ref a_TYPES), .val (.int (17 : Int32)), .val (.int (3 : Int32)), .val (.ref a_SUBSCRIBE)] [(.int (3 : Int32))]))
          refine Go.by (fun _ => XS.iloadN X7.here hx rfl (hb hby d1_20) rfl) ?_
          show Go p.tables e below _ (T7.setTop (mkF m 21 #[.val (.int p1), .val (.ref a_TYPES), .val (.int (17 : Int32)), .val (.int (3 : Int32)), .val (.ref a_SUBSCRIBE)] [(.int (17 : Int32)), (.int (3 : Int32))]))
          refine Go.by (fun _ => XS.icmpNo X7.here hx rfl (hb hby d1_21) rfl (tlt (by decide)).2.1) ?_
          show Go p.tables e below _ (T7.setTop (mkF m 24 #[.val (.int p1), .val (.ref a_TYPES), .val (.int (17 : Int32)), .val (.int (3 : Int32)), .val (.ref a_SUBSCRIBE)] []))
          refine Go.by (fun _ => XS.aloadN X7.here hx rfl (hb hby d1_24) rfl rfl) ?_
          show Go p.tables e below _ (T7.setTop (mkF m 25 #[.val (.int p1), .val (.ref a_TYPES), .val (.int (17 : Int32)), .val (.int (3 : Int32)), .val (.ref a_SUBSCRIBE)] [(.ref a_TYPES)]))
          refine Go.by (fun _ => XS.iloadN X7.here hx rfl (hb hby d1_25) rfl) ?_
          show Go p.tables e below _ (T7.setTop (mkF m 26 #[.val (.int p1), .val (.ref a_TYPES), .val (.int (17 : Int32)), .val (.int (3 : Int32)), .val (.ref a_SUBSCRIBE)] [(.int (3 : Int32)), (.ref a_TYPES)]))
          refine Go.by (X7.ldA hx hZ V_TYPES rfl (by decide) (i := 3) rfl (by decide) (v := (.ref a_CREDIT)) rfl (g := (mkF m 26 #[.val (.int p1), .val (.ref a_TYPES), .val (.int (17 : Int32)), .val (.int (3 : Int32)), .val (.ref a_SUBSCRIBE)] [(.int (3 : Int32)), (.ref a_TYPES)])) rfl rfl (hb hby d1_26)) ?_
          show Go p.tables e below _ (T7.setTop (mkF m 27 #[.val (.int p1), .val (.ref a_TYPES), .val (.int (17 : Int32)), .val (.int (3 : Int32)), .val (.ref a_SUBSCRIBE)] [(.ref a_CREDIT)]))
          refine Go.by (fun _ => XS.astore X7.here hx rfl (hb hby d1_27) rfl rfl (l' := #[.val (.int p1), .val (.ref a_TYPES), .val (.int (17 : Int32)), .val (.int (3 : Int32)), .val (.ref a_CREDIT)]) rfl) ?_
          show Go p.tables e below _ (T7.setTop (mkF m 29 #[.val (.int p1), .val (.ref a_TYPES), .val (.int (17 : Int32)), .val (.int (3 : Int32)), .val (.ref a_CREDIT)] []))
          refine Go.by (fun _ => XS.aload X7.here hx rfl (hb hby d1_29) rfl rfl) ?_
          show Go p.tables e below _ (T7.setTop (mkF m 31 #[.val (.int p1), .val (.ref a_TYPES), .val (.int (17 : Int32)), .val (.int (3 : Int32)), .val (.ref a_CREDIT)] [(.ref a_CREDIT)]))
          obtain ⟨T9, X9, st9⟩ := X7.getF hx hZ hown (host := "") (Or.inl (tw hw 7 rfl)) Via.refl F_CREDIT_code (g := (mkF m 31 #[.val (.int p1), .val (.ref a_TYPES), .val (.int (17 : Int32)), .val (.int (3 : Int32)), .val (.ref a_CREDIT)] [(.ref a_CREDIT)])) rfl rfl (hb hby d1_31)
          refine Go.by st9 ?_
          show Go p.tables e below _ (T9.setTop (mkF m 34 #[.val (.int p1), .val (.ref a_TYPES), .val (.int (17 : Int32)), .val (.int (3 : Int32)), .val (.ref a_CREDIT)] [(.int (4 : Int32))]))
          refine Go.by (fun _ => XS.iloadN X9.here hx rfl (hb hby d1_34) rfl) ?_
          show Go p.tables e below _ (T9.setTop (mkF m 35 #[.val (.int p1), .val (.ref a_TYPES), .val (.int (17 : Int32)), .val (.int (3 : Int32)), .val (.ref a_CREDIT)] [(.int p1), (.int (4 : Int32))]))
          by_cases hc35_10 : (4 : Int32) = p1
          · skip
            refine Go.by (fun _ => XS.icmpNo X9.here hx rfl (hb hby d1_35) rfl (teq hc35_10).2) ?_
            show Go p.tables e below _ (T9.setTop (mkF m 38 #[.val (.int p1), .val (.ref a_TYPES), .val (.int (17 : Int32)), .val (.int (3 : Int32)), .val (.ref a_CREDIT)] []))
            refine Go.by (fun _ => XS.aload X9.here hx rfl (hb hby d1_38) rfl rfl) ?_
            show Go p.tables e below _ (T9.setTop (mkF m 40 #[.val (.int p1), .val (.ref a_TYPES), .val (.int (17 : Int32)), .val (.int (3 : Int32)), .val (.ref a_CREDIT)] [(.ref a_CREDIT)]))
            refine Go.retA X9 hx hlk hret rfl rfl (hb hby d1_40) (by decide) (by decide) ?_
            subst hc35_10
            exact ⟨by simp [own_req], rfl⟩
          · skip
            refine Go.by (fun _ => XS.icmpYes X9.here hx rfl (pc0 := 35) (pc' := 41) rfl (hb hby d1_35) rfl (feq hc35_10).2 (by decide) (by decide)) ?_
            show Go p.tables e below _ (T9.setTop (mkF m 41 #[.val (.int p1), .val (.ref a_TYPES), .val (.int (17 : Int32)), .val (.int (3 : Int32)), .val (.ref a_CREDIT)] []))
            refine Go.by (fun _ => XS.iinc X9.here hx rfl (hb hby d1_41) rfl (l' := #[.val (.int p1), .val (.ref a_TYPES), .val (.int (17 : Int32)), .val (.int (4 : Int32)), .val (.ref a_CREDIT)]) rfl) ?_
            show Go p.tables e below _ (T9.setTop (mkF m 44 #[.val (.int p1), .val (.ref a_TYPES), .val (.int (17 : Int32)), .val (.int (4 : Int32)), .val (.ref a_CREDIT)] []))
            refine Go.by (fun _ => XS.goto X9.here hx rfl (pc0 := 44) (pc' := 19) rfl (hb hby d1_44) (by decide) (by decide)) ?_
            show Go p.tables e below _ (T9.setTop (mkF m 19 #[.val (.int p1), .val (.ref a_TYPES), .val (.int (17 : Int32)), .val (.int (4 : Int32)), .val (.ref a_CREDIT)] []))
            refine Go.by (fun _ => XS.iloadN X9.here hx rfl (hb hby d1_19) rfl) ?_
            show Go p.tables e below _ (T9.setTop (mkF m 20 #[.val (.int p1), .val (.ref a_TYPES), .val (.int (17 : Int32)), .val (.int (4 : Int32)), .val (.ref a_CREDIT)] [(.int (4 : Int32))]))
            refine Go.by (fun _ => XS.iloadN X9.here hx rfl (hb hby d1_20) rfl) ?_
            show Go p.tables e below _ (T9.setTop (mkF m 21 #[.val (.int p1), .val (.ref a_TYPES), .val (.int (17 : Int32)), .val (.int (4 : Int32)), .val (.ref a_CREDIT)] [(.int (17 : Int32)), (.int (4 : Int32))]))
            refine Go.by (fun _ => XS.icmpNo X9.here hx rfl (hb hby d1_21) rfl (tlt (by decide)).2.1) ?_
            show Go p.tables e below _ (T9.setTop (mkF m 24 #[.val (.int p1), .val (.ref a_TYPES), .val (.int (17 : Int32)), .val (.int (4 : Int32)), .val (.ref a_CREDIT)] []))
            refine Go.by (fun _ => XS.aloadN X9.here hx rfl (hb hby d1_24) rfl rfl) ?_
            show Go p.tables e below _ (T9.setTop (mkF m 25 #[.val (.int p1), .val (.ref a_TYPES), .val (.int (17 : Int32)), .val (.int (4 : Int32)), .val (.ref a_CREDIT)] [(.ref a_TYPES)]))
            refine Go.by (fun _ => XS.iloadN X9.here hx rfl (hb hby d1_25) rfl) ?_
            show Go p.tables e below _ (T9.setTop (mkF m 26 #[.val (.int p1), .val (.ref a_TYPES), .val (.int (17 : Int32)), .val (.int (4 : Int32)), .val (.ref a_CREDIT)] [(.int (4 : Int32)), (.ref a_TYPES)]))
            refine Go.by (X9.ldA hx hZ V_TYPES rfl (by decide) (i := 4) rfl (by decide) (v := (.ref a_ACK)) rfl (g := (mkF m 26 #[.val (.int p1), .val (.ref a_TYPES), .val (.int (17 : Int32)), .val (.int (4 : Int32)), .val (.ref a_CREDIT)] [(.int (4 : Int32)), (.ref a_TYPES)])) rfl rfl (hb hby d1_26)) ?_
            show Go p.tables e below _ (T9.setTop (mkF m 27 #[.val (.int p1), .val (.ref a_TYPES), .val (.int (17 : Int32)), .val (.int (4 : Int32)), .val (.ref a_CREDIT)] [(.ref a_ACK)]))
            refine Go.by (fun _ => XS.astore X9.here hx rfl (hb hby d1_27) rfl rfl (l' := #[.val (.int p1), .val (.ref a_TYPES), .val (.int (17 : Int32)), .val (.int (4 : Int32)), .val (.ref a_ACK)]) rfl) ?_
            show Go p.tables e below _ (T9.setTop (mkF m 29 #[.val (.int p1), .val (.ref a_TYPES), .val (.int (17 : Int32)), .val (.int (4 : Int32)), .val (.ref a_ACK)] []))
            refine Go.by (fun _ => XS.aload X9.here hx rfl (hb hby d1_29) rfl rfl) ?_
            show Go p.tables e below _ (T9.setTop (mkF m 31 #[.val (.int p1), .val (.ref a_TYPES), .val (.int (17 : Int32)), .val (.int (4 : Int32)), .val (.ref a_ACK)] [(.ref a_ACK)]))
            obtain ⟨T11, X11, st11⟩ := X9.getF hx hZ hown (host := "") (Or.inl (tw hw 7 rfl)) Via.refl F_ACK_code (g := (mkF m 31 #[.val (.int p1), .val (.ref a_TYPES), .val (.int (17 : Int32)), .val (.int (4 : Int32)), .val (.ref a_ACK)] [(.ref a_ACK)])) rfl rfl (hb hby d1_31)
            refine Go.by st11 ?_
            show Go p.tables e below _ (T11.setTop (mkF m 34 #[.val (.int p1), .val (.ref a_TYPES), .val (.int (17 : Int32)), .val (.int (4 : Int32)), .val (.ref a_ACK)] [(.int (5 : Int32))]))
            refine Go.by (fun _ => XS.iloadN X11.here hx rfl (hb hby d1_34) rfl) ?_
            show Go p.tables e below _ (T11.setTop (mkF m 35 #[.val (.int p1), .val (.ref a_TYPES), .val (.int (17 : Int32)), .val (.int (4 : Int32)), .val (.ref a_ACK)] [(.int p1), (.int (5 : Int32))]))
            by_cases hc35_12 : (5 : Int32) = p1
            · skip
              refine Go.by (fun _ => XS.icmpNo X11.here hx rfl (hb hby d1_35) rfl (teq hc35_12).2) ?_
              show Go p.tables e below _ (T11.setTop (mkF m 38 #[.val (.int p1), .val (.ref a_TYPES), .val (.int (17 : Int32)), .val (.int (4 : Int32)), .val (.ref a_ACK)] []))
              refine Go.by (fun _ => XS.aload X11.here hx rfl (hb hby d1_38) rfl rfl) ?_
              show Go p.tables e below _ (T11.setTop (mkF m 40 #[.val (.int p1), .val (.ref a_TYPES), .val (.int (17 : Int32)), .val (.int (4 : Int32)), .val (.ref a_ACK)] [(.ref a_ACK)]))
              refine Go.retA X11 hx hlk hret rfl rfl (hb hby d1_40) (by decide) (by decide) ?_
              subst hc35_12
              exact ⟨by simp [own_req], rfl⟩
            · skip
              refine Go.by (fun _ => XS.icmpYes X11.here hx rfl (pc0 := 35) (pc' := 41) rfl (hb hby d1_35) rfl (feq hc35_12).2 (by decide) (by decide)) ?_
              show Go p.tables e below _ (T11.setTop (mkF m 41 #[.val (.int p1), .val (.ref a_TYPES), .val (.int (17 : Int32)), .val (.int (4 : Int32)), .val (.ref a_ACK)] []))
              refine Go.by (fun _ => XS.iinc X11.here hx rfl (hb hby d1_41) rfl (l' := #[.val (.int p1), .val (.ref a_TYPES), .val (.int (17 : Int32)), .val (.int (5 : Int32)), .val (.ref a_ACK)]) rfl) ?_
              show Go p.tables e below _ (T11.setTop (mkF m 44 #[.val (.int p1), .val (.ref a_TYPES), .val (.int (17 : Int32)), .val (.int (5 : Int32)), .val (.ref a_ACK)] []))
              refine Go.by (fun _ => XS.goto X11.here hx rfl (pc0 := 44) (pc' := 19) rfl (hb hby d1_44) (by decide) (by decide)) ?_
              show Go p.tables e below _ (T11.setTop (mkF m 19 #[.val (.int p1), .val (.ref a_TYPES), .val (.int (17 : Int32)), .val (.int (5 : Int32)), .val (.ref a_ACK)] []))
              refine Go.by (fun _ => XS.iloadN X11.here hx rfl (hb hby d1_19) rfl) ?_
              show Go p.tables e below _ (T11.setTop (mkF m 20 #[.val (.int p1), .val (.ref a_TYPES), .val (.int (17 : Int32)), .val (.int (5 : Int32)), .val (.ref a_ACK)] [(.int (5 : Int32))]))
              refine Go.by (fun _ => XS.iloadN X11.here hx rfl (hb hby d1_20) rfl) ?_
              show Go p.tables e below _ (T11.setTop (mkF m 21 #[.val (.int p1), .val (.ref a_TYPES), .val (.int (17 : Int32)), .val (.int (5 : Int32)), .val (.ref a_ACK)] [(.int (17 : Int32)), (.int (5 : Int32))]))
              refine Go.by (fun _ => XS.icmpNo X11.here hx rfl (hb hby d1_21) rfl (tlt (by decide)).2.1) ?_
              show Go p.tables e below _ (T11.setTop (mkF m 24 #[.val (.int p1), .val (.ref a_TYPES), .val (.int (17 : Int32)), .val (.int (5 : Int32)), .val (.ref a_ACK)] []))
              refine Go.by (fun _ => XS.aloadN X11.here hx rfl (hb hby d1_24) rfl rfl) ?_
              show Go p.tables e below _ (T11.setTop (mkF m 25 #[.val (.int p1), .val (.ref a_TYPES), .val (.int (17 : Int32)), .val (.int (5 : Int32)), .val (.ref a_ACK)] [(.ref a_TYPES)]))
              refine Go.by (fun _ => XS.iloadN X11.here hx rfl (hb hby d1_25) rfl) ?_
              show Go p.tables e below _ (T11.setTop (mkF m 26 #[.val (.int p1), .val (.ref a_TYPES), .val (.int (17 : Int32)), .val (.int (5 : Int32)), .val (.ref a_ACK)] [(.int (5 : Int32)), (.ref a_TYPES)]))
              refine Go.by (X11.ldA hx hZ V_TYPES rfl (by decide) (i := 5) rfl (by decide) (v := (.ref a_REJECT)) rfl (g := (mkF m 26 #[.val (.int p1), .val (.ref a_TYPES), .val (.int (17 : Int32)), .val (.int (5 : Int32)), .val (.ref a_ACK)] [(.int (5 : Int32)), (.ref a_TYPES)])) rfl rfl (hb hby d1_26)) ?_
              show Go p.tables e below _ (T11.setTop (mkF m 27 #[.val (.int p1), .val (.ref a_TYPES), .val (.int (17 : Int32)), .val (.int (5 : Int32)), .val (.ref a_ACK)] [(.ref a_REJECT)]))
              refine Go.by (fun _ => XS.astore X11.here hx rfl (hb hby d1_27) rfl rfl (l' := #[.val (.int p1), .val (.ref a_TYPES), .val (.int (17 : Int32)), .val (.int (5 : Int32)), .val (.ref a_REJECT)]) rfl) ?_
              show Go p.tables e below _ (T11.setTop (mkF m 29 #[.val (.int p1), .val (.ref a_TYPES), .val (.int (17 : Int32)), .val (.int (5 : Int32)), .val (.ref a_REJECT)] []))
              refine Go.by (fun _ => XS.aload X11.here hx rfl (hb hby d1_29) rfl rfl) ?_
              show Go p.tables e below _ (T11.setTop (mkF m 31 #[.val (.int p1), .val (.ref a_TYPES), .val (.int (17 : Int32)), .val (.int (5 : Int32)), .val (.ref a_REJECT)] [(.ref a_REJECT)]))
              obtain ⟨T13, X13, st13⟩ := X11.getF hx hZ hown (host := "") (Or.inl (tw hw 7 rfl)) Via.refl F_REJECT_code (g := (mkF m 31 #[.val (.int p1), .val (.ref a_TYPES), .val (.int (17 : Int32)), .val (.int (5 : Int32)), .val (.ref a_REJECT)] [(.ref a_REJECT)])) rfl rfl (hb hby d1_31)
              refine Go.by st13 ?_
              show Go p.tables e below _ (T13.setTop (mkF m 34 #[.val (.int p1), .val (.ref a_TYPES), .val (.int (17 : Int32)), .val (.int (5 : Int32)), .val (.ref a_REJECT)] [(.int (6 : Int32))]))
              refine Go.by (fun _ => XS.iloadN X13.here hx rfl (hb hby d1_34) rfl) ?_
              show Go p.tables e below _ (T13.setTop (mkF m 35 #[.val (.int p1), .val (.ref a_TYPES), .val (.int (17 : Int32)), .val (.int (5 : Int32)), .val (.ref a_REJECT)] [(.int p1), (.int (6 : Int32))]))
              by_cases hc35_14 : (6 : Int32) = p1
              · skip
                refine Go.by (fun _ => XS.icmpNo X13.here hx rfl (hb hby d1_35) rfl (teq hc35_14).2) ?_
                show Go p.tables e below _ (T13.setTop (mkF m 38 #[.val (.int p1), .val (.ref a_TYPES), .val (.int (17 : Int32)), .val (.int (5 : Int32)), .val (.ref a_REJECT)] []))
                refine Go.by (fun _ => XS.aload X13.here hx rfl (hb hby d1_38) rfl rfl) ?_
                show Go p.tables e below _ (T13.setTop (mkF m 40 #[.val (.int p1), .val (.ref a_TYPES), .val (.int (17 : Int32)), .val (.int (5 : Int32)), .val (.ref a_REJECT)] [(.ref a_REJECT)]))
                refine Go.retA X13 hx hlk hret rfl rfl (hb hby d1_40) (by decide) (by decide) ?_
                subst hc35_14
                exact ⟨by simp [own_req], rfl⟩
              · skip
                refine Go.by (fun _ => XS.icmpYes X13.here hx rfl (pc0 := 35) (pc' := 41) rfl (hb hby d1_35) rfl (feq hc35_14).2 (by decide) (by decide)) ?_
                show Go p.tables e below _ (T13.setTop (mkF m 41 #[.val (.int p1), .val (.ref a_TYPES), .val (.int (17 : Int32)), .val (.int (5 : Int32)), .val (.ref a_REJECT)] []))
                refine Go.by (fun _ => XS.iinc X13.here hx rfl (hb hby d1_41) rfl (l' := #[.val (.int p1), .val (.ref a_TYPES), .val (.int (17 : Int32)), .val (.int (6 : Int32)), .val (.ref a_REJECT)]) rfl) ?_
                show Go p.tables e below _ (T13.setTop (mkF m 44 #[.val (.int p1), .val (.ref a_TYPES), .val (.int (17 : Int32)), .val (.int (6 : Int32)), .val (.ref a_REJECT)] []))
                refine Go.by (fun _ => XS.goto X13.here hx rfl (pc0 := 44) (pc' := 19) rfl (hb hby d1_44) (by decide) (by decide)) ?_
                show Go p.tables e below _ (T13.setTop (mkF m 19 #[.val (.int p1), .val (.ref a_TYPES), .val (.int (17 : Int32)), .val (.int (6 : Int32)), .val (.ref a_REJECT)] []))
                refine Go.by (fun _ => XS.iloadN X13.here hx rfl (hb hby d1_19) rfl) ?_
                show Go p.tables e below _ (T13.setTop (mkF m 20 #[.val (.int p1), .val (.ref a_TYPES), .val (.int (17 : Int32)), .val (.int (6 : Int32)), .val (.ref a_REJECT)] [(.int (6 : Int32))]))
                refine Go.by (fun _ => XS.iloadN X13.here hx rfl (hb hby d1_20) rfl) ?_
                show Go p.tables e below _ (T13.setTop (mkF m 21 #[.val (.int p1), .val (.ref a_TYPES), .val (.int (17 : Int32)), .val (.int (6 : Int32)), .val (.ref a_REJECT)] [(.int (17 : Int32)), (.int (6 : Int32))]))
                refine Go.by (fun _ => XS.icmpNo X13.here hx rfl (hb hby d1_21) rfl (tlt (by decide)).2.1) ?_
                show Go p.tables e below _ (T13.setTop (mkF m 24 #[.val (.int p1), .val (.ref a_TYPES), .val (.int (17 : Int32)), .val (.int (6 : Int32)), .val (.ref a_REJECT)] []))
                refine Go.by (fun _ => XS.aloadN X13.here hx rfl (hb hby d1_24) rfl rfl) ?_
                show Go p.tables e below _ (T13.setTop (mkF m 25 #[.val (.int p1), .val (.ref a_TYPES), .val (.int (17 : Int32)), .val (.int (6 : Int32)), .val (.ref a_REJECT)] [(.ref a_TYPES)]))
                refine Go.by (fun _ => XS.iloadN X13.here hx rfl (hb hby d1_25) rfl) ?_
                show Go p.tables e below _ (T13.setTop (mkF m 26 #[.val (.int p1), .val (.ref a_TYPES), .val (.int (17 : Int32)), .val (.int (6 : Int32)), .val (.ref a_REJECT)] [(.int (6 : Int32)), (.ref a_TYPES)]))
                refine Go.by (X13.ldA hx hZ V_TYPES rfl (by decide) (i := 6) rfl (by decide) (v := (.ref a_UNSUBSCRIBE)) rfl (g := (mkF m 26 #[.val (.int p1), .val (.ref a_TYPES), .val (.int (17 : Int32)), .val (.int (6 : Int32)), .val (.ref a_REJECT)] [(.int (6 : Int32)), (.ref a_TYPES)])) rfl rfl (hb hby d1_26)) ?_
                show Go p.tables e below _ (T13.setTop (mkF m 27 #[.val (.int p1), .val (.ref a_TYPES), .val (.int (17 : Int32)), .val (.int (6 : Int32)), .val (.ref a_REJECT)] [(.ref a_UNSUBSCRIBE)]))
                refine Go.by (fun _ => XS.astore X13.here hx rfl (hb hby d1_27) rfl rfl (l' := #[.val (.int p1), .val (.ref a_TYPES), .val (.int (17 : Int32)), .val (.int (6 : Int32)), .val (.ref a_UNSUBSCRIBE)]) rfl) ?_
                show Go p.tables e below _ (T13.setTop (mkF m 29 #[.val (.int p1), .val (.ref a_TYPES), .val (.int (17 : Int32)), .val (.int (6 : Int32)), .val (.ref a_UNSUBSCRIBE)] []))
                refine Go.by (fun _ => XS.aload X13.here hx rfl (hb hby d1_29) rfl rfl) ?_
                show Go p.tables e below _ (T13.setTop (mkF m 31 #[.val (.int p1), .val (.ref a_TYPES), .val (.int (17 : Int32)), .val (.int (6 : Int32)), .val (.ref a_UNSUBSCRIBE)] [(.ref a_UNSUBSCRIBE)]))
                obtain ⟨T15, X15, st15⟩ := X13.getF hx hZ hown (host := "") (Or.inl (tw hw 7 rfl)) Via.refl F_UNSUBSCRIBE_code (g := (mkF m 31 #[.val (.int p1), .val (.ref a_TYPES), .val (.int (17 : Int32)), .val (.int (6 : Int32)), .val (.ref a_UNSUBSCRIBE)] [(.ref a_UNSUBSCRIBE)])) rfl rfl (hb hby d1_31)
                refine Go.by st15 ?_
                show Go p.tables e below _ (T15.setTop (mkF m 34 #[.val (.int p1), .val (.ref a_TYPES), .val (.int (17 : Int32)), .val (.int (6 : Int32)), .val (.ref a_UNSUBSCRIBE)] [(.int (7 : Int32))]))
                refine Go.by (fun _ => XS.iloadN X15.here hx rfl (hb hby d1_34) rfl) ?_
                show Go p.tables e below _ (T15.setTop (mkF m 35 #[.val (.int p1), .val (.ref a_TYPES), .val (.int (17 : Int32)), .val (.int (6 : Int32)), .val (.ref a_UNSUBSCRIBE)] [(.int p1), (.int (7 : Int32))]))
                by_cases hc35_16 : (7 : Int32) = p1
                · skip
                  refine Go.by (fun _ => XS.icmpNo X15.here hx rfl (hb hby d1_35) rfl (teq hc35_16).2) ?_
                  show Go p.tables e below _ (T15.setTop (mkF m 38 #[.val (.int p1), .val (.ref a_TYPES), .val (.int (17 : Int32)), .val (.int (6 : Int32)), .val (.ref a_UNSUBSCRIBE)] []))
                  refine Go.by (fun _ => XS.aload X15.here hx rfl (hb hby d1_38) rfl rfl) ?_
                  show Go p.tables e below _ (T15.setTop (mkF m 40 #[.val (.int p1), .val (.ref a_TYPES), .val (.int (17 : Int32)), .val (.int (6 : Int32)), .val (.ref a_UNSUBSCRIBE)] [(.ref a_UNSUBSCRIBE)]))
                  refine Go.retA X15 hx hlk hret rfl rfl (hb hby d1_40) (by decide) (by decide) ?_
                  subst hc35_16
                  exact ⟨by simp [own_req], rfl⟩
                · skip
                  refine Go.by (fun _ => XS.icmpYes X15.here hx rfl (pc0 := 35) (pc' := 41) rfl (hb hby d1_35) rfl (feq hc35_16).2 (by decide) (by decide)) ?_
                  show Go p.tables e below _ (T15.setTop (mkF m 41 #[.val (.int p1), .val (.ref a_TYPES), .val (.int (17 : Int32)), .val (.int (6 : Int32)), .val (.ref a_UNSUBSCRIBE)] []))
                  refine Go.by (fun _ => XS.iinc X15.here hx rfl (hb hby d1_41) rfl (l' := #[.val (.int p1), .val (.ref a_TYPES), .val (.int (17 : Int32)), .val (.int (7 : Int32)), .val (.ref a_UNSUBSCRIBE)]) rfl) ?_
                  show Go p.tables e below _ (T15.setTop (mkF m 44 #[.val (.int p1), .val (.ref a_TYPES), .val (.int (17 : Int32)), .val (.int (7 : Int32)), .val (.ref a_UNSUBSCRIBE)] []))
                  refine Go.by (fun _ => XS.goto X15.here hx rfl (pc0 := 44) (pc' := 19) rfl (hb hby d1_44) (by decide) (by decide)) ?_
                  show Go p.tables e below _ (T15.setTop (mkF m 19 #[.val (.int p1), .val (.ref a_TYPES), .val (.int (17 : Int32)), .val (.int (7 : Int32)), .val (.ref a_UNSUBSCRIBE)] []))
                  refine Go.by (fun _ => XS.iloadN X15.here hx rfl (hb hby d1_19) rfl) ?_
                  show Go p.tables e below _ (T15.setTop (mkF m 20 #[.val (.int p1), .val (.ref a_TYPES), .val (.int (17 : Int32)), .val (.int (7 : Int32)), .val (.ref a_UNSUBSCRIBE)] [(.int (7 : Int32))]))
                  refine Go.by (fun _ => XS.iloadN X15.here hx rfl (hb hby d1_20) rfl) ?_
                  show Go p.tables e below _ (T15.setTop (mkF m 21 #[.val (.int p1), .val (.ref a_TYPES), .val (.int (17 : Int32)), .val (.int (7 : Int32)), .val (.ref a_UNSUBSCRIBE)] [(.int (17 : Int32)), (.int (7 : Int32))]))
                  refine Go.by (fun _ => XS.icmpNo X15.here hx rfl (hb hby d1_21) rfl (tlt (by decide)).2.1) ?_
                  show Go p.tables e below _ (T15.setTop (mkF m 24 #[.val (.int p1), .val (.ref a_TYPES), .val (.int (17 : Int32)), .val (.int (7 : Int32)), .val (.ref a_UNSUBSCRIBE)] []))
                  refine Go.by (fun _ => XS.aloadN X15.here hx rfl (hb hby d1_24) rfl rfl) ?_
                  show Go p.tables e below _ (T15.setTop (mkF m 25 #[.val (.int p1), .val (.ref a_TYPES), .val (.int (17 : Int32)), .val (.int (7 : Int32)), .val (.ref a_UNSUBSCRIBE)] [(.ref a_TYPES)]))
                  refine Go.by (fun _ => XS.iloadN X15.here hx rfl (hb hby d1_25) rfl) ?_
                  show Go p.tables e below _ (T15.setTop (mkF m 26 #[.val (.int p1), .val (.ref a_TYPES), .val (.int (17 : Int32)), .val (.int (7 : Int32)), .val (.ref a_UNSUBSCRIBE)] [(.int (7 : Int32)), (.ref a_TYPES)]))
                  refine Go.by (X15.ldA hx hZ V_TYPES rfl (by decide) (i := 7) rfl (by decide) (v := (.ref a_PING)) rfl (g := (mkF m 26 #[.val (.int p1), .val (.ref a_TYPES), .val (.int (17 : Int32)), .val (.int (7 : Int32)), .val (.ref a_UNSUBSCRIBE)] [(.int (7 : Int32)), (.ref a_TYPES)])) rfl rfl (hb hby d1_26)) ?_
                  show Go p.tables e below _ (T15.setTop (mkF m 27 #[.val (.int p1), .val (.ref a_TYPES), .val (.int (17 : Int32)), .val (.int (7 : Int32)), .val (.ref a_UNSUBSCRIBE)] [(.ref a_PING)]))
                  refine Go.by (fun _ => XS.astore X15.here hx rfl (hb hby d1_27) rfl rfl (l' := #[.val (.int p1), .val (.ref a_TYPES), .val (.int (17 : Int32)), .val (.int (7 : Int32)), .val (.ref a_PING)]) rfl) ?_
                  show Go p.tables e below _ (T15.setTop (mkF m 29 #[.val (.int p1), .val (.ref a_TYPES), .val (.int (17 : Int32)), .val (.int (7 : Int32)), .val (.ref a_PING)] []))
                  refine Go.by (fun _ => XS.aload X15.here hx rfl (hb hby d1_29) rfl rfl) ?_
                  show Go p.tables e below _ (T15.setTop (mkF m 31 #[.val (.int p1), .val (.ref a_TYPES), .val (.int (17 : Int32)), .val (.int (7 : Int32)), .val (.ref a_PING)] [(.ref a_PING)]))
                  obtain ⟨T17, X17, st17⟩ := X15.getF hx hZ hown (host := "") (Or.inl (tw hw 7 rfl)) Via.refl F_PING_code (g := (mkF m 31 #[.val (.int p1), .val (.ref a_TYPES), .val (.int (17 : Int32)), .val (.int (7 : Int32)), .val (.ref a_PING)] [(.ref a_PING)])) rfl rfl (hb hby d1_31)
                  refine Go.by st17 ?_
                  show Go p.tables e below _ (T17.setTop (mkF m 34 #[.val (.int p1), .val (.ref a_TYPES), .val (.int (17 : Int32)), .val (.int (7 : Int32)), .val (.ref a_PING)] [(.int (8 : Int32))]))
                  refine Go.by (fun _ => XS.iloadN X17.here hx rfl (hb hby d1_34) rfl) ?_
                  show Go p.tables e below _ (T17.setTop (mkF m 35 #[.val (.int p1), .val (.ref a_TYPES), .val (.int (17 : Int32)), .val (.int (7 : Int32)), .val (.ref a_PING)] [(.int p1), (.int (8 : Int32))]))
                  by_cases hc35_18 : (8 : Int32) = p1
                  · skip
                    refine Go.by (fun _ => XS.icmpNo X17.here hx rfl (hb hby d1_35) rfl (teq hc35_18).2) ?_
                    show Go p.tables e below _ (T17.setTop (mkF m 38 #[.val (.int p1), .val (.ref a_TYPES), .val (.int (17 : Int32)), .val (.int (7 : Int32)), .val (.ref a_PING)] []))
                    refine Go.by (fun _ => XS.aload X17.here hx rfl (hb hby d1_38) rfl rfl) ?_
                    show Go p.tables e below _ (T17.setTop (mkF m 40 #[.val (.int p1), .val (.ref a_TYPES), .val (.int (17 : Int32)), .val (.int (7 : Int32)), .val (.ref a_PING)] [(.ref a_PING)]))
                    refine Go.retA X17 hx hlk hret rfl rfl (hb hby d1_40) (by decide) (by decide) ?_
                    subst hc35_18
                    exact ⟨by simp [own_req], rfl⟩
                  · skip
                    refine Go.by (fun _ => XS.icmpYes X17.here hx rfl (pc0 := 35) (pc' := 41) rfl (hb hby d1_35) rfl (feq hc35_18).2 (by decide) (by decide)) ?_
                    show Go p.tables e below _ (T17.setTop (mkF m 41 #[.val (.int p1), .val (.ref a_TYPES), .val (.int (17 : Int32)), .val (.int (7 : Int32)), .val (.ref a_PING)] []))
                    refine Go.by (fun _ => XS.iinc X17.here hx rfl (hb hby d1_41) rfl (l' := #[.val (.int p1), .val (.ref a_TYPES), .val (.int (17 : Int32)), .val (.int (8 : Int32)), .val (.ref a_PING)]) rfl) ?_
                    show Go p.tables e below _ (T17.setTop (mkF m 44 #[.val (.int p1), .val (.ref a_TYPES), .val (.int (17 : Int32)), .val (.int (8 : Int32)), .val (.ref a_PING)] []))
                    refine Go.by (fun _ => XS.goto X17.here hx rfl (pc0 := 44) (pc' := 19) rfl (hb hby d1_44) (by decide) (by decide)) ?_
                    show Go p.tables e below _ (T17.setTop (mkF m 19 #[.val (.int p1), .val (.ref a_TYPES), .val (.int (17 : Int32)), .val (.int (8 : Int32)), .val (.ref a_PING)] []))
                    refine Go.by (fun _ => XS.iloadN X17.here hx rfl (hb hby d1_19) rfl) ?_
                    show Go p.tables e below _ (T17.setTop (mkF m 20 #[.val (.int p1), .val (.ref a_TYPES), .val (.int (17 : Int32)), .val (.int (8 : Int32)), .val (.ref a_PING)] [(.int (8 : Int32))]))
                    refine Go.by (fun _ => XS.iloadN X17.here hx rfl (hb hby d1_20) rfl) ?_
                    show Go p.tables e below _ (T17.setTop (mkF m 21 #[.val (.int p1), .val (.ref a_TYPES), .val (.int (17 : Int32)), .val (.int (8 : Int32)), .val (.ref a_PING)] [(.int (17 : Int32)), (.int (8 : Int32))]))
                    refine Go.by (fun _ => XS.icmpNo X17.here hx rfl (hb hby d1_21) rfl (tlt (by decide)).2.1) ?_
                    show Go p.tables e below _ (T17.setTop (mkF m 24 #[.val (.int p1), .val (.ref a_TYPES), .val (.int (17 : Int32)), .val (.int (8 : Int32)), .val (.ref a_PING)] []))
                    refine Go.by (fun _ => XS.aloadN X17.here hx rfl (hb hby d1_24) rfl rfl) ?_
                    show Go p.tables e below _ (T17.setTop (mkF m 25 #[.val (.int p1), .val (.ref a_TYPES), .val (.int (17 : Int32)), .val (.int (8 : Int32)), .val (.ref a_PING)] [(.ref a_TYPES)]))
                    refine Go.by (fun _ => XS.iloadN X17.here hx rfl (hb hby d1_25) rfl) ?_
                    show Go p.tables e below _ (T17.setTop (mkF m 26 #[.val (.int p1), .val (.ref a_TYPES), .val (.int (17 : Int32)), .val (.int (8 : Int32)), .val (.ref a_PING)] [(.int (8 : Int32)), (.ref a_TYPES)]))
                    refine Go.by (X17.ldA hx hZ V_TYPES rfl (by decide) (i := 8) rfl (by decide) (v := (.ref a_QUEUES)) rfl (g := (mkF m 26 #[.val (.int p1), .val (.ref a_TYPES), .val (.int (17 : Int32)), .val (.int (8 : Int32)), .val (.ref a_PING)] [(.int (8 : Int32)), (.ref a_TYPES)])) rfl rfl (hb hby d1_26)) ?_
                    show Go p.tables e below _ (T17.setTop (mkF m 27 #[.val (.int p1), .val (.ref a_TYPES), .val (.int (17 : Int32)), .val (.int (8 : Int32)), .val (.ref a_PING)] [(.ref a_QUEUES)]))
                    refine Go.by (fun _ => XS.astore X17.here hx rfl (hb hby d1_27) rfl rfl (l' := #[.val (.int p1), .val (.ref a_TYPES), .val (.int (17 : Int32)), .val (.int (8 : Int32)), .val (.ref a_QUEUES)]) rfl) ?_
                    show Go p.tables e below _ (T17.setTop (mkF m 29 #[.val (.int p1), .val (.ref a_TYPES), .val (.int (17 : Int32)), .val (.int (8 : Int32)), .val (.ref a_QUEUES)] []))
                    refine Go.by (fun _ => XS.aload X17.here hx rfl (hb hby d1_29) rfl rfl) ?_
                    show Go p.tables e below _ (T17.setTop (mkF m 31 #[.val (.int p1), .val (.ref a_TYPES), .val (.int (17 : Int32)), .val (.int (8 : Int32)), .val (.ref a_QUEUES)] [(.ref a_QUEUES)]))
                    obtain ⟨T19, X19, st19⟩ := X17.getF hx hZ hown (host := "") (Or.inl (tw hw 7 rfl)) Via.refl F_QUEUES_code (g := (mkF m 31 #[.val (.int p1), .val (.ref a_TYPES), .val (.int (17 : Int32)), .val (.int (8 : Int32)), .val (.ref a_QUEUES)] [(.ref a_QUEUES)])) rfl rfl (hb hby d1_31)
                    refine Go.by st19 ?_
                    show Go p.tables e below _ (T19.setTop (mkF m 34 #[.val (.int p1), .val (.ref a_TYPES), .val (.int (17 : Int32)), .val (.int (8 : Int32)), .val (.ref a_QUEUES)] [(.int (9 : Int32))]))
                    refine Go.by (fun _ => XS.iloadN X19.here hx rfl (hb hby d1_34) rfl) ?_
                    show Go p.tables e below _ (T19.setTop (mkF m 35 #[.val (.int p1), .val (.ref a_TYPES), .val (.int (17 : Int32)), .val (.int (8 : Int32)), .val (.ref a_QUEUES)] [(.int p1), (.int (9 : Int32))]))
                    by_cases hc35_20 : (9 : Int32) = p1
                    · skip
                      refine Go.by (fun _ => XS.icmpNo X19.here hx rfl (hb hby d1_35) rfl (teq hc35_20).2) ?_
                      show Go p.tables e below _ (T19.setTop (mkF m 38 #[.val (.int p1), .val (.ref a_TYPES), .val (.int (17 : Int32)), .val (.int (8 : Int32)), .val (.ref a_QUEUES)] []))
                      refine Go.by (fun _ => XS.aload X19.here hx rfl (hb hby d1_38) rfl rfl) ?_
                      show Go p.tables e below _ (T19.setTop (mkF m 40 #[.val (.int p1), .val (.ref a_TYPES), .val (.int (17 : Int32)), .val (.int (8 : Int32)), .val (.ref a_QUEUES)] [(.ref a_QUEUES)]))
                      refine Go.retA X19 hx hlk hret rfl rfl (hb hby d1_40) (by decide) (by decide) ?_
                      subst hc35_20
                      exact ⟨by simp [own_req], rfl⟩
                    · skip
                      refine Go.by (fun _ => XS.icmpYes X19.here hx rfl (pc0 := 35) (pc' := 41) rfl (hb hby d1_35) rfl (feq hc35_20).2 (by decide) (by decide)) ?_
                      show Go p.tables e below _ (T19.setTop (mkF m 41 #[.val (.int p1), .val (.ref a_TYPES), .val (.int (17 : Int32)), .val (.int (8 : Int32)), .val (.ref a_QUEUES)] []))
                      refine Go.by (fun _ => XS.iinc X19.here hx rfl (hb hby d1_41) rfl (l' := #[.val (.int p1), .val (.ref a_TYPES), .val (.int (17 : Int32)), .val (.int (9 : Int32)), .val (.ref a_QUEUES)]) rfl) ?_
                      show Go p.tables e below _ (T19.setTop (mkF m 44 #[.val (.int p1), .val (.ref a_TYPES), .val (.int (17 : Int32)), .val (.int (9 : Int32)), .val (.ref a_QUEUES)] []))
                      refine Go.by (fun _ => XS.goto X19.here hx rfl (pc0 := 44) (pc' := 19) rfl (hb hby d1_44) (by decide) (by decide)) ?_
                      show Go p.tables e below _ (T19.setTop (mkF m 19 #[.val (.int p1), .val (.ref a_TYPES), .val (.int (17 : Int32)), .val (.int (9 : Int32)), .val (.ref a_QUEUES)] []))
                      refine Go.by (fun _ => XS.iloadN X19.here hx rfl (hb hby d1_19) rfl) ?_
                      show Go p.tables e below _ (T19.setTop (mkF m 20 #[.val (.int p1), .val (.ref a_TYPES), .val (.int (17 : Int32)), .val (.int (9 : Int32)), .val (.ref a_QUEUES)] [(.int (9 : Int32))]))
                      refine Go.by (fun _ => XS.iloadN X19.here hx rfl (hb hby d1_20) rfl) ?_
                      show Go p.tables e below _ (T19.setTop (mkF m 21 #[.val (.int p1), .val (.ref a_TYPES), .val (.int (17 : Int32)), .val (.int (9 : Int32)), .val (.ref a_QUEUES)] [(.int (17 : Int32)), (.int (9 : Int32))]))
                      refine Go.by (fun _ => XS.icmpNo X19.here hx rfl (hb hby d1_21) rfl (tlt (by decide)).2.1) ?_
                      show Go p.tables e below _ (T19.setTop (mkF m 24 #[.val (.int p1), .val (.ref a_TYPES), .val (.int (17 : Int32)), .val (.int (9 : Int32)), .val (.ref a_QUEUES)] []))
                      refine Go.by (fun _ => XS.aloadN X19.here hx rfl (hb hby d1_24) rfl rfl) ?_
                      show Go p.tables e below _ (T19.setTop (mkF m 25 #[.val (.int p1), .val (.ref a_TYPES), .val (.int (17 : Int32)), .val (.int (9 : Int32)), .val (.ref a_QUEUES)] [(.ref a_TYPES)]))
                      refine Go.by (fun _ => XS.iloadN X19.here hx rfl (hb hby d1_25) rfl) ?_
                      show Go p.tables e below _ (T19.setTop (mkF m 26 #[.val (.int p1), .val (.ref a_TYPES), .val (.int (17 : Int32)), .val (.int (9 : Int32)), .val (.ref a_QUEUES)] [(.int (9 : Int32)), (.ref a_TYPES)]))
                      refine Go.by (X19.ldA hx hZ V_TYPES rfl (by decide) (i := 9) rfl (by decide) (v := (.ref a_BIND)) rfl (g := (mkF m 26 #[.val (.int p1), .val (.ref a_TYPES), .val (.int (17 : Int32)), .val (.int (9 : Int32)), .val (.ref a_QUEUES)] [(.int (9 : Int32)), (.ref a_TYPES)])) rfl rfl (hb hby d1_26)) ?_
                      show Go p.tables e below _ (T19.setTop (mkF m 27 #[.val (.int p1), .val (.ref a_TYPES), .val (.int (17 : Int32)), .val (.int (9 : Int32)), .val (.ref a_QUEUES)] [(.ref a_BIND)]))
                      refine Go.by (fun _ => XS.astore X19.here hx rfl (hb hby d1_27) rfl rfl (l' := #[.val (.int p1), .val (.ref a_TYPES), .val (.int (17 : Int32)), .val (.int (9 : Int32)), .val (.ref a_BIND)]) rfl) ?_
                      show Go p.tables e below _ (T19.setTop (mkF m 29 #[.val (.int p1), .val (.ref a_TYPES), .val (.int (17 : Int32)), .val (.int (9 : Int32)), .val (.ref a_BIND)] []))
                      refine Go.by (fun _ => XS.aload X19.here hx rfl (hb hby d1_29) rfl rfl) ?_
                      show Go p.tables e below _ (T19.setTop (mkF m 31 #[.val (.int p1), .val (.ref a_TYPES), .val (.int (17 : Int32)), .val (.int (9 : Int32)), .val (.ref a_BIND)] [(.ref a_BIND)]))
                      obtain ⟨T21, X21, st21⟩ := X19.getF hx hZ hown (host := "") (Or.inl (tw hw 7 rfl)) Via.refl F_BIND_code (g := (mkF m 31 #[.val (.int p1), .val (.ref a_TYPES), .val (.int (17 : Int32)), .val (.int (9 : Int32)), .val (.ref a_BIND)] [(.ref a_BIND)])) rfl rfl (hb hby d1_31)
                      refine Go.by st21 ?_
                      show Go p.tables e below _ (T21.setTop (mkF m 34 #[.val (.int p1), .val (.ref a_TYPES), .val (.int (17 : Int32)), .val (.int (9 : Int32)), .val (.ref a_BIND)] [(.int (10 : Int32))]))
                      refine Go.by (fun _ => XS.iloadN X21.here hx rfl (hb hby d1_34) rfl) ?_
                      show Go p.tables e below _ (T21.setTop (mkF m 35 #[.val (.int p1), .val (.ref a_TYPES), .val (.int (17 : Int32)), .val (.int (9 : Int32)), .val (.ref a_BIND)] [(.int p1), (.int (10 : Int32))]))
                      by_cases hc35_22 : (10 : Int32) = p1
                      · skip
                        refine Go.by (fun _ => XS.icmpNo X21.here hx rfl (hb hby d1_35) rfl (teq hc35_22).2) ?_
                        show Go p.tables e below _ (T21.setTop (mkF m 38 #[.val (.int p1), .val (.ref a_TYPES), .val (.int (17 : Int32)), .val (.int (9 : Int32)), .val (.ref a_BIND)] []))
                        refine Go.by (fun _ => XS.aload X21.here hx rfl (hb hby d1_38) rfl rfl) ?_
                        show Go p.tables e below _ (T21.setTop (mkF m 40 #[.val (.int p1), .val (.ref a_TYPES), .val (.int (17 : Int32)), .val (.int (9 : Int32)), .val (.ref a_BIND)] [(.ref a_BIND)]))
                        refine Go.retA X21 hx hlk hret rfl rfl (hb hby d1_40) (by decide) (by decide) ?_
                        subst hc35_22
                        exact ⟨by simp [own_req], rfl⟩
                      · skip
                        refine Go.by (fun _ => XS.icmpYes X21.here hx rfl (pc0 := 35) (pc' := 41) rfl (hb hby d1_35) rfl (feq hc35_22).2 (by decide) (by decide)) ?_
                        show Go p.tables e below _ (T21.setTop (mkF m 41 #[.val (.int p1), .val (.ref a_TYPES), .val (.int (17 : Int32)), .val (.int (9 : Int32)), .val (.ref a_BIND)] []))
                        refine Go.by (fun _ => XS.iinc X21.here hx rfl (hb hby d1_41) rfl (l' := #[.val (.int p1), .val (.ref a_TYPES), .val (.int (17 : Int32)), .val (.int (10 : Int32)), .val (.ref a_BIND)]) rfl) ?_
                        show Go p.tables e below _ (T21.setTop (mkF m 44 #[.val (.int p1), .val (.ref a_TYPES), .val (.int (17 : Int32)), .val (.int (10 : Int32)), .val (.ref a_BIND)] []))
                        refine Go.by (fun _ => XS.goto X21.here hx rfl (pc0 := 44) (pc' := 19) rfl (hb hby d1_44) (by decide) (by decide)) ?_
                        show Go p.tables e below _ (T21.setTop (mkF m 19 #[.val (.int p1), .val (.ref a_TYPES), .val (.int (17 : Int32)), .val (.int (10 : Int32)), .val (.ref a_BIND)] []))
                        refine Go.by (fun _ => XS.iloadN X21.here hx rfl (hb hby d1_19) rfl) ?_
                        show Go p.tables e below _ (T21.setTop (mkF m 20 #[.val (.int p1), .val (.ref a_TYPES), .val (.int (17 : Int32)), .val (.int (10 : Int32)), .val (.ref a_BIND)] [(.int (10 : Int32))]))
                        refine Go.by (fun _ => XS.iloadN X21.here hx rfl (hb hby d1_20) rfl) ?_
                        show Go p.tables e below _ (T21.setTop (mkF m 21 #[.val (.int p1), .val (.ref a_TYPES), .val (.int (17 : Int32)), .val (.int (10 : Int32)), .val (.ref a_BIND)] [(.int (17 : Int32)), (.int (10 : Int32))]))
                        refine Go.by (fun _ => XS.icmpNo X21.here hx rfl (hb hby d1_21) rfl (tlt (by decide)).2.1) ?_
                        show Go p.tables e below _ (T21.setTop (mkF m 24 #[.val (.int p1), .val (.ref a_TYPES), .val (.int (17 : Int32)), .val (.int (10 : Int32)), .val (.ref a_BIND)] []))
                        refine Go.by (fun _ => XS.aloadN X21.here hx rfl (hb hby d1_24) rfl rfl) ?_
                        show Go p.tables e below _ (T21.setTop (mkF m 25 #[.val (.int p1), .val (.ref a_TYPES), .val (.int (17 : Int32)), .val (.int (10 : Int32)), .val (.ref a_BIND)] [(.ref a_TYPES)]))
                        refine Go.by (fun _ => XS.iloadN X21.here hx rfl (hb hby d1_25) rfl) ?_
                        show Go p.tables e below _ (T21.setTop (mkF m 26 #[.val (.int p1), .val (.ref a_TYPES), .val (.int (17 : Int32)), .val (.int (10 : Int32)), .val (.ref a_BIND)] [(.int (10 : Int32)), (.ref a_TYPES)]))
                        refine Go.by (X21.ldA hx hZ V_TYPES rfl (by decide) (i := 10) rfl (by decide) (v := (.ref a_UNBIND)) rfl (g := (mkF m 26 #[.val (.int p1), .val (.ref a_TYPES), .val (.int (17 : Int32)), .val (.int (10 : Int32)), .val (.ref a_BIND)] [(.int (10 : Int32)), (.ref a_TYPES)])) rfl rfl (hb hby d1_26)) ?_
                        show Go p.tables e below _ (T21.setTop (mkF m 27 #[.val (.int p1), .val (.ref a_TYPES), .val (.int (17 : Int32)), .val (.int (10 : Int32)), .val (.ref a_BIND)] [(.ref a_UNBIND)]))
                        refine Go.by (fun _ => XS.astore X21.here hx rfl (hb hby d1_27) rfl rfl (l' := #[.val (.int p1), .val (.ref a_TYPES), .val (.int (17 : Int32)), .val (.int (10 : Int32)), .val (.ref a_UNBIND)]) rfl) ?_
                        show Go p.tables e below _ (T21.setTop (mkF m 29 #[.val (.int p1), .val (.ref a_TYPES), .val (.int (17 : Int32)), .val (.int (10 : Int32)), .val (.ref a_UNBIND)] []))
                        refine Go.by (fun _ => XS.aload X21.here hx rfl (hb hby d1_29) rfl rfl) ?_
                        show Go p.tables e below _ (T21.setTop (mkF m 31 #[.val (.int p1), .val (.ref a_TYPES), .val (.int (17 : Int32)), .val (.int (10 : Int32)), .val (.ref a_UNBIND)] [(.ref a_UNBIND)]))
                        obtain ⟨T23, X23, st23⟩ := X21.getF hx hZ hown (host := "") (Or.inl (tw hw 7 rfl)) Via.refl F_UNBIND_code (g := (mkF m 31 #[.val (.int p1), .val (.ref a_TYPES), .val (.int (17 : Int32)), .val (.int (10 : Int32)), .val (.ref a_UNBIND)] [(.ref a_UNBIND)])) rfl rfl (hb hby d1_31)
                        refine Go.by st23 ?_
                        show Go p.tables e below _ (T23.setTop (mkF m 34 #[.val (.int p1), .val (.ref a_TYPES), .val (.int (17 : Int32)), .val (.int (10 : Int32)), .val (.ref a_UNBIND)] [(.int (11 : Int32))]))
                        refine Go.by (fun _ => XS.iloadN X23.here hx rfl (hb hby d1_34) rfl) ?_
                        show Go p.tables e below _ (T23.setTop (mkF m 35 #[.val (.int p1), .val (.ref a_TYPES), .val (.int (17 : Int32)), .val (.int (10 : Int32)), .val (.ref a_UNBIND)] [(.int p1), (.int (11 : Int32))]))
                        by_cases hc35_24 : (11 : Int32) = p1
                        · skip
                          refine Go.by (fun _ => XS.icmpNo X23.here hx rfl (hb hby d1_35) rfl (teq hc35_24).2) ?_
                          show Go p.tables e below _ (T23.setTop (mkF m 38 #[.val (.int p1), .val (.ref a_TYPES), .val (.int (17 : Int32)), .val (.int (10 : Int32)), .val (.ref a_UNBIND)] []))
                          refine Go.by (fun _ => XS.aload X23.here hx rfl (hb hby d1_38) rfl rfl) ?_
                          show Go p.tables e below _ (T23.setTop (mkF m 40 #[.val (.int p1), .val (.ref a_TYPES), .val (.int (17 : Int32)), .val (.int (10 : Int32)), .val (.ref a_UNBIND)] [(.ref a_UNBIND)]))
                          refine Go.retA X23 hx hlk hret rfl rfl (hb hby d1_40) (by decide) (by decide) ?_
                          subst hc35_24
                          exact ⟨by simp [own_req], rfl⟩
                        · skip
                          refine Go.by (fun _ => XS.icmpYes X23.here hx rfl (pc0 := 35) (pc' := 41) rfl (hb hby d1_35) rfl (feq hc35_24).2 (by decide) (by decide)) ?_
                          show Go p.tables e below _ (T23.setTop (mkF m 41 #[.val (.int p1), .val (.ref a_TYPES), .val (.int (17 : Int32)), .val (.int (10 : Int32)), .val (.ref a_UNBIND)] []))
                          refine Go.by (fun _ => XS.iinc X23.here hx rfl (hb hby d1_41) rfl (l' := #[.val (.int p1), .val (.ref a_TYPES), .val (.int (17 : Int32)), .val (.int (11 : Int32)), .val (.ref a_UNBIND)]) rfl) ?_
                          show Go p.tables e below _ (T23.setTop (mkF m 44 #[.val (.int p1), .val (.ref a_TYPES), .val (.int (17 : Int32)), .val (.int (11 : Int32)), .val (.ref a_UNBIND)] []))
                          refine Go.by (fun _ => XS.goto X23.here hx rfl (pc0 := 44) (pc' := 19) rfl (hb hby d1_44) (by decide) (by decide)) ?_
                          show Go p.tables e below _ (T23.setTop (mkF m 19 #[.val (.int p1), .val (.ref a_TYPES), .val (.int (17 : Int32)), .val (.int (11 : Int32)), .val (.ref a_UNBIND)] []))
                          refine Go.by (fun _ => XS.iloadN X23.here hx rfl (hb hby d1_19) rfl) ?_
                          show Go p.tables e below _ (T23.setTop (mkF m 20 #[.val (.int p1), .val (.ref a_TYPES), .val (.int (17 : Int32)), .val (.int (11 : Int32)), .val (.ref a_UNBIND)] [(.int (11 : Int32))]))
                          refine Go.by (fun _ => XS.iloadN X23.here hx rfl (hb hby d1_20) rfl) ?_
                          show Go p.tables e below _ (T23.setTop (mkF m 21 #[.val (.int p1), .val (.ref a_TYPES), .val (.int (17 : Int32)), .val (.int (11 : Int32)), .val (.ref a_UNBIND)] [(.int (17 : Int32)), (.int (11 : Int32))]))
                          refine Go.by (fun _ => XS.icmpNo X23.here hx rfl (hb hby d1_21) rfl (tlt (by decide)).2.1) ?_
                          show Go p.tables e below _ (T23.setTop (mkF m 24 #[.val (.int p1), .val (.ref a_TYPES), .val (.int (17 : Int32)), .val (.int (11 : Int32)), .val (.ref a_UNBIND)] []))
                          refine Go.by (fun _ => XS.aloadN X23.here hx rfl (hb hby d1_24) rfl rfl) ?_
                          show Go p.tables e below _ (T23.setTop (mkF m 25 #[.val (.int p1), .val (.ref a_TYPES), .val (.int (17 : Int32)), .val (.int (11 : Int32)), .val (.ref a_UNBIND)] [(.ref a_TYPES)]))
                          refine Go.by (fun _ => XS.iloadN X23.here hx rfl (hb hby d1_25) rfl) ?_
                          show Go p.tables e below _ (T23.setTop (mkF m 26 #[.val (.int p1), .val (.ref a_TYPES), .val (.int (17 : Int32)), .val (.int (11 : Int32)), .val (.ref a_UNBIND)] [(.int (11 : Int32)), (.ref a_TYPES)]))
                          refine Go.by (X23.ldA hx hZ V_TYPES rfl (by decide) (i := 11) rfl (by decide) (v := (.ref a_FANOUT)) rfl (g := (mkF m 26 #[.val (.int p1), .val (.ref a_TYPES), .val (.int (17 : Int32)), .val (.int (11 : Int32)), .val (.ref a_UNBIND)] [(.int (11 : Int32)), (.ref a_TYPES)])) rfl rfl (hb hby d1_26)) ?_
                          show Go p.tables e below _ (T23.setTop (mkF m 27 #[.val (.int p1), .val (.ref a_TYPES), .val (.int (17 : Int32)), .val (.int (11 : Int32)), .val (.ref a_UNBIND)] [(.ref a_FANOUT)]))
                          refine Go.by (fun _ => XS.astore X23.here hx rfl (hb hby d1_27) rfl rfl (l' := #[.val (.int p1), .val (.ref a_TYPES), .val (.int (17 : Int32)), .val (.int (11 : Int32)), .val (.ref a_FANOUT)]) rfl) ?_
                          show Go p.tables e below _ (T23.setTop (mkF m 29 #[.val (.int p1), .val (.ref a_TYPES), .val (.int (17 : Int32)), .val (.int (11 : Int32)), .val (.ref a_FANOUT)] []))
                          refine Go.by (fun _ => XS.aload X23.here hx rfl (hb hby d1_29) rfl rfl) ?_
                          show Go p.tables e below _ (T23.setTop (mkF m 31 #[.val (.int p1), .val (.ref a_TYPES), .val (.int (17 : Int32)), .val (.int (11 : Int32)), .val (.ref a_FANOUT)] [(.ref a_FANOUT)]))
                          obtain ⟨T25, X25, st25⟩ := X23.getF hx hZ hown (host := "") (Or.inl (tw hw 7 rfl)) Via.refl F_FANOUT_code (g := (mkF m 31 #[.val (.int p1), .val (.ref a_TYPES), .val (.int (17 : Int32)), .val (.int (11 : Int32)), .val (.ref a_FANOUT)] [(.ref a_FANOUT)])) rfl rfl (hb hby d1_31)
                          refine Go.by st25 ?_
                          show Go p.tables e below _ (T25.setTop (mkF m 34 #[.val (.int p1), .val (.ref a_TYPES), .val (.int (17 : Int32)), .val (.int (11 : Int32)), .val (.ref a_FANOUT)] [(.int (12 : Int32))]))
                          refine Go.by (fun _ => XS.iloadN X25.here hx rfl (hb hby d1_34) rfl) ?_
                          show Go p.tables e below _ (T25.setTop (mkF m 35 #[.val (.int p1), .val (.ref a_TYPES), .val (.int (17 : Int32)), .val (.int (11 : Int32)), .val (.ref a_FANOUT)] [(.int p1), (.int (12 : Int32))]))
                          by_cases hc35_26 : (12 : Int32) = p1
                          · skip
                            refine Go.by (fun _ => XS.icmpNo X25.here hx rfl (hb hby d1_35) rfl (teq hc35_26).2) ?_
                            show Go p.tables e below _ (T25.setTop (mkF m 38 #[.val (.int p1), .val (.ref a_TYPES), .val (.int (17 : Int32)), .val (.int (11 : Int32)), .val (.ref a_FANOUT)] []))
                            refine Go.by (fun _ => XS.aload X25.here hx rfl (hb hby d1_38) rfl rfl) ?_
                            show Go p.tables e below _ (T25.setTop (mkF m 40 #[.val (.int p1), .val (.ref a_TYPES), .val (.int (17 : Int32)), .val (.int (11 : Int32)), .val (.ref a_FANOUT)] [(.ref a_FANOUT)]))
                            refine Go.retA X25 hx hlk hret rfl rfl (hb hby d1_40) (by decide) (by decide) ?_
                            subst hc35_26
                            exact ⟨by simp [own_req], rfl⟩
                          · skip
                            refine Go.by (fun _ => XS.icmpYes X25.here hx rfl (pc0 := 35) (pc' := 41) rfl (hb hby d1_35) rfl (feq hc35_26).2 (by decide) (by decide)) ?_
                            show Go p.tables e below _ (T25.setTop (mkF m 41 #[.val (.int p1), .val (.ref a_TYPES), .val (.int (17 : Int32)), .val (.int (11 : Int32)), .val (.ref a_FANOUT)] []))
                            refine Go.by (fun _ => XS.iinc X25.here hx rfl (hb hby d1_41) rfl (l' := #[.val (.int p1), .val (.ref a_TYPES), .val (.int (17 : Int32)), .val (.int (12 : Int32)), .val (.ref a_FANOUT)]) rfl) ?_
                            show Go p.tables e below _ (T25.setTop (mkF m 44 #[.val (.int p1), .val (.ref a_TYPES), .val (.int (17 : Int32)), .val (.int (12 : Int32)), .val (.ref a_FANOUT)] []))
                            refine Go.by (fun _ => XS.goto X25.here hx rfl (pc0 := 44) (pc' := 19) rfl (hb hby d1_44) (by decide) (by decide)) ?_
                            show Go p.tables e below _ (T25.setTop (mkF m 19 #[.val (.int p1), .val (.ref a_TYPES), .val (.int (17 : Int32)), .val (.int (12 : Int32)), .val (.ref a_FANOUT)] []))
                            refine Go.by (fun _ => XS.iloadN X25.here hx rfl (hb hby d1_19) rfl) ?_
                            show Go p.tables e below _ (T25.setTop (mkF m 20 #[.val (.int p1), .val (.ref a_TYPES), .val (.int (17 : Int32)), .val (.int (12 : Int32)), .val (.ref a_FANOUT)] [(.int (12 : Int32))]))
                            refine Go.by (fun _ => XS.iloadN X25.here hx rfl (hb hby d1_20) rfl) ?_
                            show Go p.tables e below _ (T25.setTop (mkF m 21 #[.val (.int p1), .val (.ref a_TYPES), .val (.int (17 : Int32)), .val (.int (12 : Int32)), .val (.ref a_FANOUT)] [(.int (17 : Int32)), (.int (12 : Int32))]))
                            refine Go.by (fun _ => XS.icmpNo X25.here hx rfl (hb hby d1_21) rfl (tlt (by decide)).2.1) ?_
                            show Go p.tables e below _ (T25.setTop (mkF m 24 #[.val (.int p1), .val (.ref a_TYPES), .val (.int (17 : Int32)), .val (.int (12 : Int32)), .val (.ref a_FANOUT)] []))
                            refine Go.by (fun _ => XS.aloadN X25.here hx rfl (hb hby d1_24) rfl rfl) ?_
                            show Go p.tables e below _ (T25.setTop (mkF m 25 #[.val (.int p1), .val (.ref a_TYPES), .val (.int (17 : Int32)), .val (.int (12 : Int32)), .val (.ref a_FANOUT)] [(.ref a_TYPES)]))
                            refine Go.by (fun _ => XS.iloadN X25.here hx rfl (hb hby d1_25) rfl) ?_
                            show Go p.tables e below _ (T25.setTop (mkF m 26 #[.val (.int p1), .val (.ref a_TYPES), .val (.int (17 : Int32)), .val (.int (12 : Int32)), .val (.ref a_FANOUT)] [(.int (12 : Int32)), (.ref a_TYPES)]))
                            refine Go.by (X25.ldA hx hZ V_TYPES rfl (by decide) (i := 12) rfl (by decide) (v := (.ref a_TOPICS)) rfl (g := (mkF m 26 #[.val (.int p1), .val (.ref a_TYPES), .val (.int (17 : Int32)), .val (.int (12 : Int32)), .val (.ref a_FANOUT)] [(.int (12 : Int32)), (.ref a_TYPES)])) rfl rfl (hb hby d1_26)) ?_
                            show Go p.tables e below _ (T25.setTop (mkF m 27 #[.val (.int p1), .val (.ref a_TYPES), .val (.int (17 : Int32)), .val (.int (12 : Int32)), .val (.ref a_FANOUT)] [(.ref a_TOPICS)]))
                            refine Go.by (fun _ => XS.astore X25.here hx rfl (hb hby d1_27) rfl rfl (l' := #[.val (.int p1), .val (.ref a_TYPES), .val (.int (17 : Int32)), .val (.int (12 : Int32)), .val (.ref a_TOPICS)]) rfl) ?_
                            show Go p.tables e below _ (T25.setTop (mkF m 29 #[.val (.int p1), .val (.ref a_TYPES), .val (.int (17 : Int32)), .val (.int (12 : Int32)), .val (.ref a_TOPICS)] []))
                            refine Go.by (fun _ => XS.aload X25.here hx rfl (hb hby d1_29) rfl rfl) ?_
                            show Go p.tables e below _ (T25.setTop (mkF m 31 #[.val (.int p1), .val (.ref a_TYPES), .val (.int (17 : Int32)), .val (.int (12 : Int32)), .val (.ref a_TOPICS)] [(.ref a_TOPICS)]))
                            obtain ⟨T27, X27, st27⟩ := X25.getF hx hZ hown (host := "") (Or.inl (tw hw 7 rfl)) Via.refl F_TOPICS_code (g := (mkF m 31 #[.val (.int p1), .val (.ref a_TYPES), .val (.int (17 : Int32)), .val (.int (12 : Int32)), .val (.ref a_TOPICS)] [(.ref a_TOPICS)])) rfl rfl (hb hby d1_31)
                            refine Go.by st27 ?_
                            show Go p.tables e below _ (T27.setTop (mkF m 34 #[.val (.int p1), .val (.ref a_TYPES), .val (.int (17 : Int32)), .val (.int (12 : Int32)), .val (.ref a_TOPICS)] [(.int (13 : Int32))]))
                            refine Go.by (fun _ => XS.iloadN X27.here hx rfl (hb hby d1_34) rfl) ?_
                            show Go p.tables e below _ (T27.setTop (mkF m 35 #[.val (.int p1), .val (.ref a_TYPES), .val (.int (17 : Int32)), .val (.int (12 : Int32)), .val (.ref a_TOPICS)] [(.int p1), (.int (13 : Int32))]))
                            by_cases hc35_28 : (13 : Int32) = p1
                            · skip
                              refine Go.by (fun _ => XS.icmpNo X27.here hx rfl (hb hby d1_35) rfl (teq hc35_28).2) ?_
                              show Go p.tables e below _ (T27.setTop (mkF m 38 #[.val (.int p1), .val (.ref a_TYPES), .val (.int (17 : Int32)), .val (.int (12 : Int32)), .val (.ref a_TOPICS)] []))
                              refine Go.by (fun _ => XS.aload X27.here hx rfl (hb hby d1_38) rfl rfl) ?_
                              show Go p.tables e below _ (T27.setTop (mkF m 40 #[.val (.int p1), .val (.ref a_TYPES), .val (.int (17 : Int32)), .val (.int (12 : Int32)), .val (.ref a_TOPICS)] [(.ref a_TOPICS)]))
                              refine Go.retA X27 hx hlk hret rfl rfl (hb hby d1_40) (by decide) (by decide) ?_
                              subst hc35_28
                              exact ⟨by simp [own_req], rfl⟩
                            · skip
                              refine Go.by (fun _ => XS.icmpYes X27.here hx rfl (pc0 := 35) (pc' := 41) rfl (hb hby d1_35) rfl (feq hc35_28).2 (by decide) (by decide)) ?_
                              show Go p.tables e below _ (T27.setTop (mkF m 41 #[.val (.int p1), .val (.ref a_TYPES), .val (.int (17 : Int32)), .val (.int (12 : Int32)), .val (.ref a_TOPICS)] []))
                              refine Go.by (fun _ => XS.iinc X27.here hx rfl (hb hby d1_41) rfl (l' := #[.val (.int p1), .val (.ref a_TYPES), .val (.int (17 : Int32)), .val (.int (13 : Int32)), .val (.ref a_TOPICS)]) rfl) ?_
                              show Go p.tables e below _ (T27.setTop (mkF m 44 #[.val (.int p1), .val (.ref a_TYPES), .val (.int (17 : Int32)), .val (.int (13 : Int32)), .val (.ref a_TOPICS)] []))
                              refine Go.by (fun _ => XS.goto X27.here hx rfl (pc0 := 44) (pc' := 19) rfl (hb hby d1_44) (by decide) (by decide)) ?_
                              show Go p.tables e below _ (T27.setTop (mkF m 19 #[.val (.int p1), .val (.ref a_TYPES), .val (.int (17 : Int32)), .val (.int (13 : Int32)), .val (.ref a_TOPICS)] []))
                              refine Go.by (fun _ => XS.iloadN X27.here hx rfl (hb hby d1_19) rfl) ?_
                              show Go p.tables e below _ (T27.setTop (mkF m 20 #[.val (.int p1), .val (.ref a_TYPES), .val (.int (17 : Int32)), .val (.int (13 : Int32)), .val (.ref a_TOPICS)] [(.int (13 : Int32))]))
                              refine Go.by (fun _ => XS.iloadN X27.here hx rfl (hb hby d1_20) rfl) ?_
                              show Go p.tables e below _ (T27.setTop (mkF m 21 #[.val (.int p1), .val (.ref a_TYPES), .val (.int (17 : Int32)), .val (.int (13 : Int32)), .val (.ref a_TOPICS)] [(.int (17 : Int32)), (.int (13 : Int32))]))
                              refine Go.by (fun _ => XS.icmpNo X27.here hx rfl (hb hby d1_21) rfl (tlt (by decide)).2.1) ?_
                              show Go p.tables e below _ (T27.setTop (mkF m 24 #[.val (.int p1), .val (.ref a_TYPES), .val (.int (17 : Int32)), .val (.int (13 : Int32)), .val (.ref a_TOPICS)] []))
                              refine Go.by (fun _ => XS.aloadN X27.here hx rfl (hb hby d1_24) rfl rfl) ?_
                              show Go p.tables e below _ (T27.setTop (mkF m 25 #[.val (.int p1), .val (.ref a_TYPES), .val (.int (17 : Int32)), .val (.int (13 : Int32)), .val (.ref a_TOPICS)] [(.ref a_TYPES)]))
                              refine Go.by (fun _ => XS.iloadN X27.here hx rfl (hb hby d1_25) rfl) ?_
                              show Go p.tables e below _ (T27.setTop (mkF m 26 #[.val (.int p1), .val (.ref a_TYPES), .val (.int (17 : Int32)), .val (.int (13 : Int32)), .val (.ref a_TOPICS)] [(.int (13 : Int32)), (.ref a_TYPES)]))
                              refine Go.by (X27.ldA hx hZ V_TYPES rfl (by decide) (i := 13) rfl (by decide) (v := (.ref a_OK)) rfl (g := (mkF m 26 #[.val (.int p1), .val (.ref a_TYPES), .val (.int (17 : Int32)), .val (.int (13 : Int32)), .val (.ref a_TOPICS)] [(.int (13 : Int32)), (.ref a_TYPES)])) rfl rfl (hb hby d1_26)) ?_
                              show Go p.tables e below _ (T27.setTop (mkF m 27 #[.val (.int p1), .val (.ref a_TYPES), .val (.int (17 : Int32)), .val (.int (13 : Int32)), .val (.ref a_TOPICS)] [(.ref a_OK)]))
                              refine Go.by (fun _ => XS.astore X27.here hx rfl (hb hby d1_27) rfl rfl (l' := #[.val (.int p1), .val (.ref a_TYPES), .val (.int (17 : Int32)), .val (.int (13 : Int32)), .val (.ref a_OK)]) rfl) ?_
                              show Go p.tables e below _ (T27.setTop (mkF m 29 #[.val (.int p1), .val (.ref a_TYPES), .val (.int (17 : Int32)), .val (.int (13 : Int32)), .val (.ref a_OK)] []))
                              refine Go.by (fun _ => XS.aload X27.here hx rfl (hb hby d1_29) rfl rfl) ?_
                              show Go p.tables e below _ (T27.setTop (mkF m 31 #[.val (.int p1), .val (.ref a_TYPES), .val (.int (17 : Int32)), .val (.int (13 : Int32)), .val (.ref a_OK)] [(.ref a_OK)]))
                              obtain ⟨T29, X29, st29⟩ := X27.getF hx hZ hown (host := "") (Or.inl (tw hw 7 rfl)) Via.refl F_OK_code (g := (mkF m 31 #[.val (.int p1), .val (.ref a_TYPES), .val (.int (17 : Int32)), .val (.int (13 : Int32)), .val (.ref a_OK)] [(.ref a_OK)])) rfl rfl (hb hby d1_31)
                              refine Go.by st29 ?_
                              show Go p.tables e below _ (T29.setTop (mkF m 34 #[.val (.int p1), .val (.ref a_TYPES), .val (.int (17 : Int32)), .val (.int (13 : Int32)), .val (.ref a_OK)] [(.int (129 : Int32))]))
                              refine Go.by (fun _ => XS.iloadN X29.here hx rfl (hb hby d1_34) rfl) ?_
                              show Go p.tables e below _ (T29.setTop (mkF m 35 #[.val (.int p1), .val (.ref a_TYPES), .val (.int (17 : Int32)), .val (.int (13 : Int32)), .val (.ref a_OK)] [(.int p1), (.int (129 : Int32))]))
                              by_cases hc35_30 : (129 : Int32) = p1
                              · skip
                                refine Go.by (fun _ => XS.icmpNo X29.here hx rfl (hb hby d1_35) rfl (teq hc35_30).2) ?_
                                show Go p.tables e below _ (T29.setTop (mkF m 38 #[.val (.int p1), .val (.ref a_TYPES), .val (.int (17 : Int32)), .val (.int (13 : Int32)), .val (.ref a_OK)] []))
                                refine Go.by (fun _ => XS.aload X29.here hx rfl (hb hby d1_38) rfl rfl) ?_
                                show Go p.tables e below _ (T29.setTop (mkF m 40 #[.val (.int p1), .val (.ref a_TYPES), .val (.int (17 : Int32)), .val (.int (13 : Int32)), .val (.ref a_OK)] [(.ref a_OK)]))
                                refine Go.retA X29 hx hlk hret rfl rfl (hb hby d1_40) (by decide) (by decide) ?_
                                exfalso
                                subst hc35_30
                                exact absurd hc5_1 (by decide)
                              · skip
                                refine Go.by (fun _ => XS.icmpYes X29.here hx rfl (pc0 := 35) (pc' := 41) rfl (hb hby d1_35) rfl (feq hc35_30).2 (by decide) (by decide)) ?_
                                show Go p.tables e below _ (T29.setTop (mkF m 41 #[.val (.int p1), .val (.ref a_TYPES), .val (.int (17 : Int32)), .val (.int (13 : Int32)), .val (.ref a_OK)] []))
                                refine Go.by (fun _ => XS.iinc X29.here hx rfl (hb hby d1_41) rfl (l' := #[.val (.int p1), .val (.ref a_TYPES), .val (.int (17 : Int32)), .val (.int (14 : Int32)), .val (.ref a_OK)]) rfl) ?_
                                show Go p.tables e below _ (T29.setTop (mkF m 44 #[.val (.int p1), .val (.ref a_TYPES), .val (.int (17 : Int32)), .val (.int (14 : Int32)), .val (.ref a_OK)] []))
                                refine Go.by (fun _ => XS.goto X29.here hx rfl (pc0 := 44) (pc' := 19) rfl (hb hby d1_44) (by decide) (by decide)) ?_
                                show Go p.tables e below _ (T29.setTop (mkF m 19 #[.val (.int p1), .val (.ref a_TYPES), .val (.int (17 : Int32)), .val (.int (14 : Int32)), .val (.ref a_OK)] []))
                                refine Go.by (fun _ => XS.iloadN X29.here hx rfl (hb hby d1_19) rfl) ?_
                                show Go p.tables e below _ (T29.setTop (mkF m 20 #[.val (.int p1), .val (.ref a_TYPES), .val (.int (17 : Int32)), .val (.int (14 : Int32)), .val (.ref a_OK)] [(.int (14 : Int32))]))
                                refine Go.by (fun _ => XS.iloadN X29.here hx rfl (hb hby d1_20) rfl) ?_
                                show Go p.tables e below _ (T29.setTop (mkF m 21 #[.val (.int p1), .val (.ref a_TYPES), .val (.int (17 : Int32)), .val (.int (14 : Int32)), .val (.ref a_OK)] [(.int (17 : Int32)), (.int (14 : Int32))]))
                                refine Go.by (fun _ => XS.icmpNo X29.here hx rfl (hb hby d1_21) rfl (tlt (by decide)).2.1) ?_
                                show Go p.tables e below _ (T29.setTop (mkF m 24 #[.val (.int p1), .val (.ref a_TYPES), .val (.int (17 : Int32)), .val (.int (14 : Int32)), .val (.ref a_OK)] []))
                                refine Go.by (fun _ => XS.aloadN X29.here hx rfl (hb hby d1_24) rfl rfl) ?_
                                show Go p.tables e below _ (T29.setTop (mkF m 25 #[.val (.int p1), .val (.ref a_TYPES), .val (.int (17 : Int32)), .val (.int (14 : Int32)), .val (.ref a_OK)] [(.ref a_TYPES)]))
                                refine Go.by (fun _ => XS.iloadN X29.here hx rfl (hb hby d1_25) rfl) ?_
                                show Go p.tables e below _ (T29.setTop (mkF m 26 #[.val (.int p1), .val (.ref a_TYPES), .val (.int (17 : Int32)), .val (.int (14 : Int32)), .val (.ref a_OK)] [(.int (14 : Int32)), (.ref a_TYPES)]))
                                refine Go.by (X29.ldA hx hZ V_TYPES rfl (by decide) (i := 14) rfl (by decide) (v := (.ref a_ERR)) rfl (g := (mkF m 26 #[.val (.int p1), .val (.ref a_TYPES), .val (.int (17 : Int32)), .val (.int (14 : Int32)), .val (.ref a_OK)] [(.int (14 : Int32)), (.ref a_TYPES)])) rfl rfl (hb hby d1_26)) ?_
                                show Go p.tables e below _ (T29.setTop (mkF m 27 #[.val (.int p1), .val (.ref a_TYPES), .val (.int (17 : Int32)), .val (.int (14 : Int32)), .val (.ref a_OK)] [(.ref a_ERR)]))
                                refine Go.by (fun _ => XS.astore X29.here hx rfl (hb hby d1_27) rfl rfl (l' := #[.val (.int p1), .val (.ref a_TYPES), .val (.int (17 : Int32)), .val (.int (14 : Int32)), .val (.ref a_ERR)]) rfl) ?_
                                show Go p.tables e below _ (T29.setTop (mkF m 29 #[.val (.int p1), .val (.ref a_TYPES), .val (.int (17 : Int32)), .val (.int (14 : Int32)), .val (.ref a_ERR)] []))
                                refine Go.by (fun _ => XS.aload X29.here hx rfl (hb hby d1_29) rfl rfl) ?_
                                show Go p.tables e below _ (T29.setTop (mkF m 31 #[.val (.int p1), .val (.ref a_TYPES), .val (.int (17 : Int32)), .val (.int (14 : Int32)), .val (.ref a_ERR)] [(.ref a_ERR)]))
                                obtain ⟨T31, X31, st31⟩ := X29.getF hx hZ hown (host := "") (Or.inl (tw hw 7 rfl)) Via.refl F_ERR_code (g := (mkF m 31 #[.val (.int p1), .val (.ref a_TYPES), .val (.int (17 : Int32)), .val (.int (14 : Int32)), .val (.ref a_ERR)] [(.ref a_ERR)])) rfl rfl (hb hby d1_31)
                                refine Go.by st31 ?_
                                show Go p.tables e below _ (T31.setTop (mkF m 34 #[.val (.int p1), .val (.ref a_TYPES), .val (.int (17 : Int32)), .val (.int (14 : Int32)), .val (.ref a_ERR)] [(.int (130 : Int32))]))
                                refine Go.by (fun _ => XS.iloadN X31.here hx rfl (hb hby d1_34) rfl) ?_
                                show Go p.tables e below _ (T31.setTop (mkF m 35 #[.val (.int p1), .val (.ref a_TYPES), .val (.int (17 : Int32)), .val (.int (14 : Int32)), .val (.ref a_ERR)] [(.int p1), (.int (130 : Int32))]))
                                by_cases hc35_32 : (130 : Int32) = p1
                                · skip
                                  refine Go.by (fun _ => XS.icmpNo X31.here hx rfl (hb hby d1_35) rfl (teq hc35_32).2) ?_
                                  show Go p.tables e below _ (T31.setTop (mkF m 38 #[.val (.int p1), .val (.ref a_TYPES), .val (.int (17 : Int32)), .val (.int (14 : Int32)), .val (.ref a_ERR)] []))
                                  refine Go.by (fun _ => XS.aload X31.here hx rfl (hb hby d1_38) rfl rfl) ?_
                                  show Go p.tables e below _ (T31.setTop (mkF m 40 #[.val (.int p1), .val (.ref a_TYPES), .val (.int (17 : Int32)), .val (.int (14 : Int32)), .val (.ref a_ERR)] [(.ref a_ERR)]))
                                  refine Go.retA X31 hx hlk hret rfl rfl (hb hby d1_40) (by decide) (by decide) ?_
                                  exfalso
                                  subst hc35_32
                                  exact absurd hc5_1 (by decide)
                                · skip
                                  refine Go.by (fun _ => XS.icmpYes X31.here hx rfl (pc0 := 35) (pc' := 41) rfl (hb hby d1_35) rfl (feq hc35_32).2 (by decide) (by decide)) ?_
                                  show Go p.tables e below _ (T31.setTop (mkF m 41 #[.val (.int p1), .val (.ref a_TYPES), .val (.int (17 : Int32)), .val (.int (14 : Int32)), .val (.ref a_ERR)] []))
                                  refine Go.by (fun _ => XS.iinc X31.here hx rfl (hb hby d1_41) rfl (l' := #[.val (.int p1), .val (.ref a_TYPES), .val (.int (17 : Int32)), .val (.int (15 : Int32)), .val (.ref a_ERR)]) rfl) ?_
                                  show Go p.tables e below _ (T31.setTop (mkF m 44 #[.val (.int p1), .val (.ref a_TYPES), .val (.int (17 : Int32)), .val (.int (15 : Int32)), .val (.ref a_ERR)] []))
                                  refine Go.by (fun _ => XS.goto X31.here hx rfl (pc0 := 44) (pc' := 19) rfl (hb hby d1_44) (by decide) (by decide)) ?_
                                  show Go p.tables e below _ (T31.setTop (mkF m 19 #[.val (.int p1), .val (.ref a_TYPES), .val (.int (17 : Int32)), .val (.int (15 : Int32)), .val (.ref a_ERR)] []))
                                  refine Go.by (fun _ => XS.iloadN X31.here hx rfl (hb hby d1_19) rfl) ?_
                                  show Go p.tables e below _ (T31.setTop (mkF m 20 #[.val (.int p1), .val (.ref a_TYPES), .val (.int (17 : Int32)), .val (.int (15 : Int32)), .val (.ref a_ERR)] [(.int (15 : Int32))]))
                                  refine Go.by (fun _ => XS.iloadN X31.here hx rfl (hb hby d1_20) rfl) ?_
                                  show Go p.tables e below _ (T31.setTop (mkF m 21 #[.val (.int p1), .val (.ref a_TYPES), .val (.int (17 : Int32)), .val (.int (15 : Int32)), .val (.ref a_ERR)] [(.int (17 : Int32)), (.int (15 : Int32))]))
                                  refine Go.by (fun _ => XS.icmpNo X31.here hx rfl (hb hby d1_21) rfl (tlt (by decide)).2.1) ?_
                                  show Go p.tables e below _ (T31.setTop (mkF m 24 #[.val (.int p1), .val (.ref a_TYPES), .val (.int (17 : Int32)), .val (.int (15 : Int32)), .val (.ref a_ERR)] []))
                                  refine Go.by (fun _ => XS.aloadN X31.here hx rfl (hb hby d1_24) rfl rfl) ?_
                                  show Go p.tables e below _ (T31.setTop (mkF m 25 #[.val (.int p1), .val (.ref a_TYPES), .val (.int (17 : Int32)), .val (.int (15 : Int32)), .val (.ref a_ERR)] [(.ref a_TYPES)]))
                                  refine Go.by (fun _ => XS.iloadN X31.here hx rfl (hb hby d1_25) rfl) ?_
                                  show Go p.tables e below _ (T31.setTop (mkF m 26 #[.val (.int p1), .val (.ref a_TYPES), .val (.int (17 : Int32)), .val (.int (15 : Int32)), .val (.ref a_ERR)] [(.int (15 : Int32)), (.ref a_TYPES)]))
                                  refine Go.by (X31.ldA hx hZ V_TYPES rfl (by decide) (i := 15) rfl (by decide) (v := (.ref a_DELIVER)) rfl (g := (mkF m 26 #[.val (.int p1), .val (.ref a_TYPES), .val (.int (17 : Int32)), .val (.int (15 : Int32)), .val (.ref a_ERR)] [(.int (15 : Int32)), (.ref a_TYPES)])) rfl rfl (hb hby d1_26)) ?_
                                  show Go p.tables e below _ (T31.setTop (mkF m 27 #[.val (.int p1), .val (.ref a_TYPES), .val (.int (17 : Int32)), .val (.int (15 : Int32)), .val (.ref a_ERR)] [(.ref a_DELIVER)]))
                                  refine Go.by (fun _ => XS.astore X31.here hx rfl (hb hby d1_27) rfl rfl (l' := #[.val (.int p1), .val (.ref a_TYPES), .val (.int (17 : Int32)), .val (.int (15 : Int32)), .val (.ref a_DELIVER)]) rfl) ?_
                                  show Go p.tables e below _ (T31.setTop (mkF m 29 #[.val (.int p1), .val (.ref a_TYPES), .val (.int (17 : Int32)), .val (.int (15 : Int32)), .val (.ref a_DELIVER)] []))
                                  refine Go.by (fun _ => XS.aload X31.here hx rfl (hb hby d1_29) rfl rfl) ?_
                                  show Go p.tables e below _ (T31.setTop (mkF m 31 #[.val (.int p1), .val (.ref a_TYPES), .val (.int (17 : Int32)), .val (.int (15 : Int32)), .val (.ref a_DELIVER)] [(.ref a_DELIVER)]))
                                  obtain ⟨T33, X33, st33⟩ := X31.getF hx hZ hown (host := "") (Or.inl (tw hw 7 rfl)) Via.refl F_DELIVER_code (g := (mkF m 31 #[.val (.int p1), .val (.ref a_TYPES), .val (.int (17 : Int32)), .val (.int (15 : Int32)), .val (.ref a_DELIVER)] [(.ref a_DELIVER)])) rfl rfl (hb hby d1_31)
                                  refine Go.by st33 ?_
                                  show Go p.tables e below _ (T33.setTop (mkF m 34 #[.val (.int p1), .val (.ref a_TYPES), .val (.int (17 : Int32)), .val (.int (15 : Int32)), .val (.ref a_DELIVER)] [(.int (131 : Int32))]))
                                  refine Go.by (fun _ => XS.iloadN X33.here hx rfl (hb hby d1_34) rfl) ?_
                                  show Go p.tables e below _ (T33.setTop (mkF m 35 #[.val (.int p1), .val (.ref a_TYPES), .val (.int (17 : Int32)), .val (.int (15 : Int32)), .val (.ref a_DELIVER)] [(.int p1), (.int (131 : Int32))]))
                                  by_cases hc35_34 : (131 : Int32) = p1
                                  · skip
                                    refine Go.by (fun _ => XS.icmpNo X33.here hx rfl (hb hby d1_35) rfl (teq hc35_34).2) ?_
                                    show Go p.tables e below _ (T33.setTop (mkF m 38 #[.val (.int p1), .val (.ref a_TYPES), .val (.int (17 : Int32)), .val (.int (15 : Int32)), .val (.ref a_DELIVER)] []))
                                    refine Go.by (fun _ => XS.aload X33.here hx rfl (hb hby d1_38) rfl rfl) ?_
                                    show Go p.tables e below _ (T33.setTop (mkF m 40 #[.val (.int p1), .val (.ref a_TYPES), .val (.int (17 : Int32)), .val (.int (15 : Int32)), .val (.ref a_DELIVER)] [(.ref a_DELIVER)]))
                                    refine Go.retA X33 hx hlk hret rfl rfl (hb hby d1_40) (by decide) (by decide) ?_
                                    exfalso
                                    subst hc35_34
                                    exact absurd hc5_1 (by decide)
                                  · skip
                                    refine Go.by (fun _ => XS.icmpYes X33.here hx rfl (pc0 := 35) (pc' := 41) rfl (hb hby d1_35) rfl (feq hc35_34).2 (by decide) (by decide)) ?_
                                    show Go p.tables e below _ (T33.setTop (mkF m 41 #[.val (.int p1), .val (.ref a_TYPES), .val (.int (17 : Int32)), .val (.int (15 : Int32)), .val (.ref a_DELIVER)] []))
                                    refine Go.by (fun _ => XS.iinc X33.here hx rfl (hb hby d1_41) rfl (l' := #[.val (.int p1), .val (.ref a_TYPES), .val (.int (17 : Int32)), .val (.int (16 : Int32)), .val (.ref a_DELIVER)]) rfl) ?_
                                    show Go p.tables e below _ (T33.setTop (mkF m 44 #[.val (.int p1), .val (.ref a_TYPES), .val (.int (17 : Int32)), .val (.int (16 : Int32)), .val (.ref a_DELIVER)] []))
                                    refine Go.by (fun _ => XS.goto X33.here hx rfl (pc0 := 44) (pc' := 19) rfl (hb hby d1_44) (by decide) (by decide)) ?_
                                    show Go p.tables e below _ (T33.setTop (mkF m 19 #[.val (.int p1), .val (.ref a_TYPES), .val (.int (17 : Int32)), .val (.int (16 : Int32)), .val (.ref a_DELIVER)] []))
                                    refine Go.by (fun _ => XS.iloadN X33.here hx rfl (hb hby d1_19) rfl) ?_
                                    show Go p.tables e below _ (T33.setTop (mkF m 20 #[.val (.int p1), .val (.ref a_TYPES), .val (.int (17 : Int32)), .val (.int (16 : Int32)), .val (.ref a_DELIVER)] [(.int (16 : Int32))]))
                                    refine Go.by (fun _ => XS.iloadN X33.here hx rfl (hb hby d1_20) rfl) ?_
                                    show Go p.tables e below _ (T33.setTop (mkF m 21 #[.val (.int p1), .val (.ref a_TYPES), .val (.int (17 : Int32)), .val (.int (16 : Int32)), .val (.ref a_DELIVER)] [(.int (17 : Int32)), (.int (16 : Int32))]))
                                    refine Go.by (fun _ => XS.icmpNo X33.here hx rfl (hb hby d1_21) rfl (tlt (by decide)).2.1) ?_
                                    show Go p.tables e below _ (T33.setTop (mkF m 24 #[.val (.int p1), .val (.ref a_TYPES), .val (.int (17 : Int32)), .val (.int (16 : Int32)), .val (.ref a_DELIVER)] []))
                                    refine Go.by (fun _ => XS.aloadN X33.here hx rfl (hb hby d1_24) rfl rfl) ?_
                                    show Go p.tables e below _ (T33.setTop (mkF m 25 #[.val (.int p1), .val (.ref a_TYPES), .val (.int (17 : Int32)), .val (.int (16 : Int32)), .val (.ref a_DELIVER)] [(.ref a_TYPES)]))
                                    refine Go.by (fun _ => XS.iloadN X33.here hx rfl (hb hby d1_25) rfl) ?_
                                    show Go p.tables e below _ (T33.setTop (mkF m 26 #[.val (.int p1), .val (.ref a_TYPES), .val (.int (17 : Int32)), .val (.int (16 : Int32)), .val (.ref a_DELIVER)] [(.int (16 : Int32)), (.ref a_TYPES)]))
                                    refine Go.by (X33.ldA hx hZ V_TYPES rfl (by decide) (i := 16) rfl (by decide) (v := (.ref a_PONG)) rfl (g := (mkF m 26 #[.val (.int p1), .val (.ref a_TYPES), .val (.int (17 : Int32)), .val (.int (16 : Int32)), .val (.ref a_DELIVER)] [(.int (16 : Int32)), (.ref a_TYPES)])) rfl rfl (hb hby d1_26)) ?_
                                    show Go p.tables e below _ (T33.setTop (mkF m 27 #[.val (.int p1), .val (.ref a_TYPES), .val (.int (17 : Int32)), .val (.int (16 : Int32)), .val (.ref a_DELIVER)] [(.ref a_PONG)]))
                                    refine Go.by (fun _ => XS.astore X33.here hx rfl (hb hby d1_27) rfl rfl (l' := #[.val (.int p1), .val (.ref a_TYPES), .val (.int (17 : Int32)), .val (.int (16 : Int32)), .val (.ref a_PONG)]) rfl) ?_
                                    show Go p.tables e below _ (T33.setTop (mkF m 29 #[.val (.int p1), .val (.ref a_TYPES), .val (.int (17 : Int32)), .val (.int (16 : Int32)), .val (.ref a_PONG)] []))
                                    refine Go.by (fun _ => XS.aload X33.here hx rfl (hb hby d1_29) rfl rfl) ?_
                                    show Go p.tables e below _ (T33.setTop (mkF m 31 #[.val (.int p1), .val (.ref a_TYPES), .val (.int (17 : Int32)), .val (.int (16 : Int32)), .val (.ref a_PONG)] [(.ref a_PONG)]))
                                    obtain ⟨T35, X35, st35⟩ := X33.getF hx hZ hown (host := "") (Or.inl (tw hw 7 rfl)) Via.refl F_PONG_code (g := (mkF m 31 #[.val (.int p1), .val (.ref a_TYPES), .val (.int (17 : Int32)), .val (.int (16 : Int32)), .val (.ref a_PONG)] [(.ref a_PONG)])) rfl rfl (hb hby d1_31)
                                    refine Go.by st35 ?_
                                    show Go p.tables e below _ (T35.setTop (mkF m 34 #[.val (.int p1), .val (.ref a_TYPES), .val (.int (17 : Int32)), .val (.int (16 : Int32)), .val (.ref a_PONG)] [(.int (132 : Int32))]))
                                    refine Go.by (fun _ => XS.iloadN X35.here hx rfl (hb hby d1_34) rfl) ?_
                                    show Go p.tables e below _ (T35.setTop (mkF m 35 #[.val (.int p1), .val (.ref a_TYPES), .val (.int (17 : Int32)), .val (.int (16 : Int32)), .val (.ref a_PONG)] [(.int p1), (.int (132 : Int32))]))
                                    by_cases hc35_36 : (132 : Int32) = p1
                                    · skip
                                      refine Go.by (fun _ => XS.icmpNo X35.here hx rfl (hb hby d1_35) rfl (teq hc35_36).2) ?_
                                      show Go p.tables e below _ (T35.setTop (mkF m 38 #[.val (.int p1), .val (.ref a_TYPES), .val (.int (17 : Int32)), .val (.int (16 : Int32)), .val (.ref a_PONG)] []))
                                      refine Go.by (fun _ => XS.aload X35.here hx rfl (hb hby d1_38) rfl rfl) ?_
                                      show Go p.tables e below _ (T35.setTop (mkF m 40 #[.val (.int p1), .val (.ref a_TYPES), .val (.int (17 : Int32)), .val (.int (16 : Int32)), .val (.ref a_PONG)] [(.ref a_PONG)]))
                                      refine Go.retA X35 hx hlk hret rfl rfl (hb hby d1_40) (by decide) (by decide) ?_
                                      exfalso
                                      subst hc35_36
                                      exact absurd hc5_1 (by decide)
                                    · skip
                                      refine Go.by (fun _ => XS.icmpYes X35.here hx rfl (pc0 := 35) (pc' := 41) rfl (hb hby d1_35) rfl (feq hc35_36).2 (by decide) (by decide)) ?_
                                      show Go p.tables e below _ (T35.setTop (mkF m 41 #[.val (.int p1), .val (.ref a_TYPES), .val (.int (17 : Int32)), .val (.int (16 : Int32)), .val (.ref a_PONG)] []))
                                      refine Go.by (fun _ => XS.iinc X35.here hx rfl (hb hby d1_41) rfl (l' := #[.val (.int p1), .val (.ref a_TYPES), .val (.int (17 : Int32)), .val (.int (17 : Int32)), .val (.ref a_PONG)]) rfl) ?_
                                      show Go p.tables e below _ (T35.setTop (mkF m 44 #[.val (.int p1), .val (.ref a_TYPES), .val (.int (17 : Int32)), .val (.int (17 : Int32)), .val (.ref a_PONG)] []))
                                      refine Go.by (fun _ => XS.goto X35.here hx rfl (pc0 := 44) (pc' := 19) rfl (hb hby d1_44) (by decide) (by decide)) ?_
                                      show Go p.tables e below _ (T35.setTop (mkF m 19 #[.val (.int p1), .val (.ref a_TYPES), .val (.int (17 : Int32)), .val (.int (17 : Int32)), .val (.ref a_PONG)] []))
                                      refine Go.by (fun _ => XS.iloadN X35.here hx rfl (hb hby d1_19) rfl) ?_
                                      show Go p.tables e below _ (T35.setTop (mkF m 20 #[.val (.int p1), .val (.ref a_TYPES), .val (.int (17 : Int32)), .val (.int (17 : Int32)), .val (.ref a_PONG)] [(.int (17 : Int32))]))
                                      refine Go.by (fun _ => XS.iloadN X35.here hx rfl (hb hby d1_20) rfl) ?_
                                      show Go p.tables e below _ (T35.setTop (mkF m 21 #[.val (.int p1), .val (.ref a_TYPES), .val (.int (17 : Int32)), .val (.int (17 : Int32)), .val (.ref a_PONG)] [(.int (17 : Int32)), (.int (17 : Int32))]))
                                      refine Go.by (fun _ => XS.icmpYes X35.here hx rfl (pc0 := 21) (pc' := 47) rfl (hb hby d1_21) rfl (flt (by decide)).2.1 (by decide) (by decide)) ?_
                                      show Go p.tables e below _ (T35.setTop (mkF m 47 #[.val (.int p1), .val (.ref a_TYPES), .val (.int (17 : Int32)), .val (.int (17 : Int32)), .val (.ref a_PONG)] []))
                                      refine Go.by (fun _ => XS.aconstNull X35.here hx rfl (hb hby d1_47)) ?_
                                      show Go p.tables e below _ (T35.setTop (mkF m 48 #[.val (.int p1), .val (.ref a_TYPES), .val (.int (17 : Int32)), .val (.int (17 : Int32)), .val (.ref a_PONG)] [.null]))
                                      refine Go.retA X35 hx hlk hret rfl rfl (hb hby d1_48) (by decide) (by decide) ?_
                                      refine ⟨congrArg some (own_null ?_).symm, rfl⟩
                                      simp only [not_or]
                                      exact ⟨Ne.symm hc35_4, Ne.symm hc35_6, Ne.symm hc35_8, Ne.symm hc35_10, Ne.symm hc35_12, Ne.symm hc35_14, Ne.symm hc35_16, Ne.symm hc35_18, Ne.symm hc35_20, Ne.symm hc35_22, Ne.symm hc35_24, Ne.symm hc35_26, Ne.symm hc35_28⟩
  · skip
    refine Go.by (fun _ => XS.ifNo X0.here hx rfl (hb hby d1_5) rfl ((if0 _ _).trans (feq hc5_1).1)) ?_
    show Go p.tables e below _ (T0.setTop (mkF m 8 #[.val (.int p1), .unset, .unset, .unset, .unset] []))
    refine Go.by (fun _ => XS.aconstNull X0.here hx rfl (hb hby d1_8)) ?_
    show Go p.tables e below _ (T0.setTop (mkF m 9 #[.val (.int p1), .unset, .unset, .unset, .unset] [.null]))
    exact Go.retA X0 hx hlk hret rfl rfl (hb hby d1_9) (by decide) (by decide) ⟨congrArg some (own_null (own_bit hc5_1)).symm, rfl⟩
theorem d2_0 : decode method_2_code 0 = .ok (.iload_n 0, 1) := by decide +kernel
theorem d2_1 : decode method_2_code 1 = .ok (.iconst 1, 1) := by decide +kernel
theorem d2_2 : decode method_2_code 2 = .ok (.if_icmp .ne 7, 3) := by decide +kernel
theorem d2_5 : decode method_2_code 5 = .ok (.getstatic 7, 3) := by decide +kernel
theorem d2_8 : decode method_2_code 8 = .ok (.areturn, 1) := by decide +kernel
theorem d2_9 : decode method_2_code 9 = .ok (.iload_n 0, 1) := by decide +kernel
theorem d2_10 : decode method_2_code 10 = .ok (.iconst 2, 1) := by decide +kernel
theorem d2_11 : decode method_2_code 11 = .ok (.if_icmp .ne 7, 3) := by decide +kernel
theorem d2_14 : decode method_2_code 14 = .ok (.getstatic 13, 3) := by decide +kernel
theorem d2_17 : decode method_2_code 17 = .ok (.areturn, 1) := by decide +kernel
theorem d2_18 : decode method_2_code 18 = .ok (.iload_n 0, 1) := by decide +kernel
theorem d2_19 : decode method_2_code 19 = .ok (.iconst 3, 1) := by decide +kernel
theorem d2_20 : decode method_2_code 20 = .ok (.if_icmp .ne 7, 3) := by decide +kernel
theorem d2_23 : decode method_2_code 23 = .ok (.getstatic 16, 3) := by decide +kernel
theorem d2_26 : decode method_2_code 26 = .ok (.areturn, 1) := by decide +kernel
theorem d2_27 : decode method_2_code 27 = .ok (.iload_n 0, 1) := by decide +kernel
theorem d2_28 : decode method_2_code 28 = .ok (.iconst 4, 1) := by decide +kernel
theorem d2_29 : decode method_2_code 29 = .ok (.if_icmp .ne 7, 3) := by decide +kernel
theorem d2_32 : decode method_2_code 32 = .ok (.getstatic 19, 3) := by decide +kernel
theorem d2_35 : decode method_2_code 35 = .ok (.areturn, 1) := by decide +kernel
theorem d2_36 : decode method_2_code 36 = .ok (.iload_n 0, 1) := by decide +kernel
theorem d2_37 : decode method_2_code 37 = .ok (.iconst 5, 1) := by decide +kernel
theorem d2_38 : decode method_2_code 38 = .ok (.if_icmp .ne 7, 3) := by decide +kernel
theorem d2_41 : decode method_2_code 41 = .ok (.getstatic 22, 3) := by decide +kernel
theorem d2_44 : decode method_2_code 44 = .ok (.areturn, 1) := by decide +kernel
theorem d2_45 : decode method_2_code 45 = .ok (.iload_n 0, 1) := by decide +kernel
theorem d2_46 : decode method_2_code 46 = .ok (.bipush 6, 2) := by decide +kernel
theorem d2_48 : decode method_2_code 48 = .ok (.if_icmp .ne 7, 3) := by decide +kernel
theorem d2_51 : decode method_2_code 51 = .ok (.getstatic 25, 3) := by decide +kernel
theorem d2_54 : decode method_2_code 54 = .ok (.areturn, 1) := by decide +kernel
theorem d2_55 : decode method_2_code 55 = .ok (.iload_n 0, 1) := by decide +kernel
theorem d2_56 : decode method_2_code 56 = .ok (.bipush 7, 2) := by decide +kernel
theorem d2_58 : decode method_2_code 58 = .ok (.if_icmp .ne 7, 3) := by decide +kernel
theorem d2_61 : decode method_2_code 61 = .ok (.getstatic 28, 3) := by decide +kernel
theorem d2_64 : decode method_2_code 64 = .ok (.areturn, 1) := by decide +kernel
theorem d2_65 : decode method_2_code 65 = .ok (.iload_n 0, 1) := by decide +kernel
theorem d2_66 : decode method_2_code 66 = .ok (.bipush 8, 2) := by decide +kernel
theorem d2_68 : decode method_2_code 68 = .ok (.if_icmp .ne 7, 3) := by decide +kernel
theorem d2_71 : decode method_2_code 71 = .ok (.getstatic 31, 3) := by decide +kernel
theorem d2_74 : decode method_2_code 74 = .ok (.areturn, 1) := by decide +kernel
theorem d2_75 : decode method_2_code 75 = .ok (.iload_n 0, 1) := by decide +kernel
theorem d2_76 : decode method_2_code 76 = .ok (.bipush 9, 2) := by decide +kernel
theorem d2_78 : decode method_2_code 78 = .ok (.if_icmp .ne 7, 3) := by decide +kernel
theorem d2_81 : decode method_2_code 81 = .ok (.getstatic 34, 3) := by decide +kernel
theorem d2_84 : decode method_2_code 84 = .ok (.areturn, 1) := by decide +kernel
theorem d2_85 : decode method_2_code 85 = .ok (.iload_n 0, 1) := by decide +kernel
theorem d2_86 : decode method_2_code 86 = .ok (.bipush 10, 2) := by decide +kernel
theorem d2_88 : decode method_2_code 88 = .ok (.if_icmp .ne 7, 3) := by decide +kernel
theorem d2_91 : decode method_2_code 91 = .ok (.getstatic 37, 3) := by decide +kernel
theorem d2_94 : decode method_2_code 94 = .ok (.areturn, 1) := by decide +kernel
theorem d2_95 : decode method_2_code 95 = .ok (.iload_n 0, 1) := by decide +kernel
theorem d2_96 : decode method_2_code 96 = .ok (.bipush 11, 2) := by decide +kernel
theorem d2_98 : decode method_2_code 98 = .ok (.if_icmp .ne 7, 3) := by decide +kernel
theorem d2_101 : decode method_2_code 101 = .ok (.getstatic 40, 3) := by decide +kernel
theorem d2_104 : decode method_2_code 104 = .ok (.areturn, 1) := by decide +kernel
theorem d2_105 : decode method_2_code 105 = .ok (.iload_n 0, 1) := by decide +kernel
theorem d2_106 : decode method_2_code 106 = .ok (.bipush 12, 2) := by decide +kernel
theorem d2_108 : decode method_2_code 108 = .ok (.if_icmp .ne 7, 3) := by decide +kernel
theorem d2_111 : decode method_2_code 111 = .ok (.getstatic 43, 3) := by decide +kernel
theorem d2_114 : decode method_2_code 114 = .ok (.areturn, 1) := by decide +kernel
theorem d2_115 : decode method_2_code 115 = .ok (.iload_n 0, 1) := by decide +kernel
theorem d2_116 : decode method_2_code 116 = .ok (.bipush 13, 2) := by decide +kernel
theorem d2_118 : decode method_2_code 118 = .ok (.if_icmp .ne 7, 3) := by decide +kernel
theorem d2_121 : decode method_2_code 121 = .ok (.getstatic 46, 3) := by decide +kernel
theorem d2_124 : decode method_2_code 124 = .ok (.areturn, 1) := by decide +kernel
theorem d2_125 : decode method_2_code 125 = .ok (.aconst_null, 1) := by decide +kernel
theorem d2_126 : decode method_2_code 126 = .ok (.areturn, 1) := by decide +kernel
abbrev Rm2 : Room := { frames := 0, cells := 0, slots := 0, locals := 0 }
theorem pn1 : plainName "com/example/shrike/shrike/protocol/FrameTypeRequestPinLaw" = true := by first | (simp [plainName, overriddenIn]; done) | decide +kernel
set_option maxRecDepth 65536 in
set_option maxHeartbeats 40000000 in
theorem rm2 (l : Launch) (Z : State) (a0 : Array Value) (hw : ∀ d ∈ tables_1, d.before a0 Z = true) (ws : List Jvm.Cond) (p1 : Int32) (a_HELLO : Addr) (a_PUBLISH : Addr) (a_SUBSCRIBE : Addr) (a_CREDIT : Addr) (a_ACK : Addr) (a_REJECT : Addr) (a_UNSUBSCRIBE : Addr) (a_PING : Addr) (a_QUEUES : Addr) (a_BIND : Addr) (a_UNBIND : Addr) (a_FANOUT : Addr) (a_TOPICS : Addr) (a_OK : Addr) (a_ERR : Addr) (a_DELIVER : Addr) (a_PONG : Addr) (a_TYPES : Addr) (kT : ClassId) (h0 : Heap) (n0 : Nat) (Z0 : n0 ≤ h0.size) (S_HELLO : Sta Z h0 "com/example/shrike/shrike/protocol/FrameType" "HELLO" "Lcom/example/shrike/shrike/protocol/FrameType;" (.ref a_HELLO)) (E_HELLO : Exa Z h0 a_HELLO "com/example/shrike/shrike/protocol/FrameType") (S_PUBLISH : Sta Z h0 "com/example/shrike/shrike/protocol/FrameType" "PUBLISH" "Lcom/example/shrike/shrike/protocol/FrameType;" (.ref a_PUBLISH)) (E_PUBLISH : Exa Z h0 a_PUBLISH "com/example/shrike/shrike/protocol/FrameType") (S_SUBSCRIBE : Sta Z h0 "com/example/shrike/shrike/protocol/FrameType" "SUBSCRIBE" "Lcom/example/shrike/shrike/protocol/FrameType;" (.ref a_SUBSCRIBE)) (E_SUBSCRIBE : Exa Z h0 a_SUBSCRIBE "com/example/shrike/shrike/protocol/FrameType") (S_CREDIT : Sta Z h0 "com/example/shrike/shrike/protocol/FrameType" "CREDIT" "Lcom/example/shrike/shrike/protocol/FrameType;" (.ref a_CREDIT)) (E_CREDIT : Exa Z h0 a_CREDIT "com/example/shrike/shrike/protocol/FrameType") (S_ACK : Sta Z h0 "com/example/shrike/shrike/protocol/FrameType" "ACK" "Lcom/example/shrike/shrike/protocol/FrameType;" (.ref a_ACK)) (E_ACK : Exa Z h0 a_ACK "com/example/shrike/shrike/protocol/FrameType") (S_REJECT : Sta Z h0 "com/example/shrike/shrike/protocol/FrameType" "REJECT" "Lcom/example/shrike/shrike/protocol/FrameType;" (.ref a_REJECT)) (E_REJECT : Exa Z h0 a_REJECT "com/example/shrike/shrike/protocol/FrameType") (S_UNSUBSCRIBE : Sta Z h0 "com/example/shrike/shrike/protocol/FrameType" "UNSUBSCRIBE" "Lcom/example/shrike/shrike/protocol/FrameType;" (.ref a_UNSUBSCRIBE)) (E_UNSUBSCRIBE : Exa Z h0 a_UNSUBSCRIBE "com/example/shrike/shrike/protocol/FrameType") (S_PING : Sta Z h0 "com/example/shrike/shrike/protocol/FrameType" "PING" "Lcom/example/shrike/shrike/protocol/FrameType;" (.ref a_PING)) (E_PING : Exa Z h0 a_PING "com/example/shrike/shrike/protocol/FrameType") (S_QUEUES : Sta Z h0 "com/example/shrike/shrike/protocol/FrameType" "QUEUES" "Lcom/example/shrike/shrike/protocol/FrameType;" (.ref a_QUEUES)) (E_QUEUES : Exa Z h0 a_QUEUES "com/example/shrike/shrike/protocol/FrameType") (S_BIND : Sta Z h0 "com/example/shrike/shrike/protocol/FrameType" "BIND" "Lcom/example/shrike/shrike/protocol/FrameType;" (.ref a_BIND)) (E_BIND : Exa Z h0 a_BIND "com/example/shrike/shrike/protocol/FrameType") (S_UNBIND : Sta Z h0 "com/example/shrike/shrike/protocol/FrameType" "UNBIND" "Lcom/example/shrike/shrike/protocol/FrameType;" (.ref a_UNBIND)) (E_UNBIND : Exa Z h0 a_UNBIND "com/example/shrike/shrike/protocol/FrameType") (S_FANOUT : Sta Z h0 "com/example/shrike/shrike/protocol/FrameType" "FANOUT" "Lcom/example/shrike/shrike/protocol/FrameType;" (.ref a_FANOUT)) (E_FANOUT : Exa Z h0 a_FANOUT "com/example/shrike/shrike/protocol/FrameType") (S_TOPICS : Sta Z h0 "com/example/shrike/shrike/protocol/FrameType" "TOPICS" "Lcom/example/shrike/shrike/protocol/FrameType;" (.ref a_TOPICS)) (E_TOPICS : Exa Z h0 a_TOPICS "com/example/shrike/shrike/protocol/FrameType") (S_OK : Sta Z h0 "com/example/shrike/shrike/protocol/FrameType" "OK" "Lcom/example/shrike/shrike/protocol/FrameType;" (.ref a_OK)) (E_OK : Exa Z h0 a_OK "com/example/shrike/shrike/protocol/FrameType") (S_ERR : Sta Z h0 "com/example/shrike/shrike/protocol/FrameType" "ERR" "Lcom/example/shrike/shrike/protocol/FrameType;" (.ref a_ERR)) (E_ERR : Exa Z h0 a_ERR "com/example/shrike/shrike/protocol/FrameType") (S_DELIVER : Sta Z h0 "com/example/shrike/shrike/protocol/FrameType" "DELIVER" "Lcom/example/shrike/shrike/protocol/FrameType;" (.ref a_DELIVER)) (E_DELIVER : Exa Z h0 a_DELIVER "com/example/shrike/shrike/protocol/FrameType") (S_PONG : Sta Z h0 "com/example/shrike/shrike/protocol/FrameType" "PONG" "Lcom/example/shrike/shrike/protocol/FrameType;" (.ref a_PONG)) (E_PONG : Exa Z h0 a_PONG "com/example/shrike/shrike/protocol/FrameType") (F_HELLO_code : Fld Z h0 a_HELLO "com/example/shrike/shrike/protocol/FrameType" "code" "I" (.int (1 : Int32))) (F_PUBLISH_code : Fld Z h0 a_PUBLISH "com/example/shrike/shrike/protocol/FrameType" "code" "I" (.int (2 : Int32))) (F_SUBSCRIBE_code : Fld Z h0 a_SUBSCRIBE "com/example/shrike/shrike/protocol/FrameType" "code" "I" (.int (3 : Int32))) (F_CREDIT_code : Fld Z h0 a_CREDIT "com/example/shrike/shrike/protocol/FrameType" "code" "I" (.int (4 : Int32))) (F_ACK_code : Fld Z h0 a_ACK "com/example/shrike/shrike/protocol/FrameType" "code" "I" (.int (5 : Int32))) (F_REJECT_code : Fld Z h0 a_REJECT "com/example/shrike/shrike/protocol/FrameType" "code" "I" (.int (6 : Int32))) (F_UNSUBSCRIBE_code : Fld Z h0 a_UNSUBSCRIBE "com/example/shrike/shrike/protocol/FrameType" "code" "I" (.int (7 : Int32))) (F_PING_code : Fld Z h0 a_PING "com/example/shrike/shrike/protocol/FrameType" "code" "I" (.int (8 : Int32))) (F_QUEUES_code : Fld Z h0 a_QUEUES "com/example/shrike/shrike/protocol/FrameType" "code" "I" (.int (9 : Int32))) (F_BIND_code : Fld Z h0 a_BIND "com/example/shrike/shrike/protocol/FrameType" "code" "I" (.int (10 : Int32))) (F_UNBIND_code : Fld Z h0 a_UNBIND "com/example/shrike/shrike/protocol/FrameType" "code" "I" (.int (11 : Int32))) (F_FANOUT_code : Fld Z h0 a_FANOUT "com/example/shrike/shrike/protocol/FrameType" "code" "I" (.int (12 : Int32))) (F_TOPICS_code : Fld Z h0 a_TOPICS "com/example/shrike/shrike/protocol/FrameType" "code" "I" (.int (13 : Int32))) (F_OK_code : Fld Z h0 a_OK "com/example/shrike/shrike/protocol/FrameType" "code" "I" (.int (129 : Int32))) (F_ERR_code : Fld Z h0 a_ERR "com/example/shrike/shrike/protocol/FrameType" "code" "I" (.int (130 : Int32))) (F_DELIVER_code : Fld Z h0 a_DELIVER "com/example/shrike/shrike/protocol/FrameType" "code" "I" (.int (131 : Int32))) (F_PONG_code : Fld Z h0 a_PONG "com/example/shrike/shrike/protocol/FrameType" "code" "I" (.int (132 : Int32))) (S_TYPES : Sta Z h0 "com/example/shrike/shrike/protocol/FrameType" "TYPES" "[Lcom/example/shrike/shrike/protocol/FrameType;" (.ref a_TYPES)) (V_TYPES : Avf Z h0 a_TYPES kT (.object "com/example/shrike/shrike/protocol/FrameType") 17 (fun i => ([Value.ref a_HELLO, Value.ref a_PUBLISH, Value.ref a_SUBSCRIBE, Value.ref a_CREDIT, Value.ref a_ACK, Value.ref a_REJECT, Value.ref a_UNSUBSCRIBE, Value.ref a_PING, Value.ref a_QUEUES, Value.ref a_BIND, Value.ref a_UNBIND, Value.ref a_FANOUT, Value.ref a_TOPICS, Value.ref a_OK, Value.ref a_ERR, Value.ref a_DELIVER, Value.ref a_PONG] : List Value).getD i .null)) :
    Met l Z n0 (⟨"com/example/shrike/shrike/protocol/FrameTypeRequestPinLaw", "expected", "(I)Lcom/example/shrike/shrike/protocol/FrameType;"⟩ : MethodName) method_2_code 1 (some (.object "com/example/shrike/shrike/protocol/FrameType")) ws Rm2 #[(.int p1)] h0 (fun v h => v = some (own_req p1 a_HELLO a_PUBLISH a_SUBSCRIBE a_CREDIT a_ACK a_REJECT a_UNSUBSCRIBE a_PING a_QUEUES a_BIND a_UNBIND a_FANOUT a_TOPICS) ∧ h0 = h) := by
  refine enter (Ls := #[.val (.int p1)]) (plainFor_of_name pn1) (fun m => by first | rfl | (simp [entryFrame, mkF, argsToLocals, Value.category]; done)) ?_
  intro p e s m below meth c T0 hx hby hml hown hnm hret hlk hZ X0
  show Go p.tables e below _ (T0.setTop (mkF m 0 #[.val (.int p1)] []))
  refine Go.by (fun _ => XS.iloadN X0.here hx rfl (hb hby d2_0) rfl) ?_
  show Go p.tables e below _ (T0.setTop (mkF m 1 #[.val (.int p1)] [(.int p1)]))
  refine Go.by (fun _ => XS.iconst X0.here hx rfl (hb hby d2_1)) ?_
  show Go p.tables e below _ (T0.setTop (mkF m 2 #[.val (.int p1)] [(.int (1 : Int32)), (.int p1)]))
  by_cases hc2_1 : p1 = (1 : Int32)
  · skip
    refine Go.by (fun _ => XS.icmpNo X0.here hx rfl (hb hby d2_2) rfl (teq hc2_1).2) ?_
    show Go p.tables e below _ (T0.setTop (mkF m 5 #[.val (.int p1)] []))
    obtain ⟨T2, X2, st2⟩ := X0.getS hx hZ hown (host := "") (Or.inl (tw hw 34 rfl)) Via.refl S_HELLO (g := (mkF m 5 #[.val (.int p1)] [])) rfl (hb hby d2_5)
    refine Go.by st2 ?_
    show Go p.tables e below _ (T2.setTop (mkF m 8 #[.val (.int p1)] [(.ref a_HELLO)]))
    refine Go.retA X2 hx hlk hret rfl rfl (hb hby d2_8) (by decide) (by decide) ?_
    subst hc2_1
    exact ⟨by simp [own_req], rfl⟩
  · skip
    refine Go.by (fun _ => XS.icmpYes X0.here hx rfl (pc0 := 2) (pc' := 9) rfl (hb hby d2_2) rfl (feq hc2_1).2 (by decide) (by decide)) ?_
    show Go p.tables e below _ (T0.setTop (mkF m 9 #[.val (.int p1)] []))
    refine Go.by (fun _ => XS.iloadN X0.here hx rfl (hb hby d2_9) rfl) ?_
    show Go p.tables e below _ (T0.setTop (mkF m 10 #[.val (.int p1)] [(.int p1)]))
    refine Go.by (fun _ => XS.iconst X0.here hx rfl (hb hby d2_10)) ?_
    show Go p.tables e below _ (T0.setTop (mkF m 11 #[.val (.int p1)] [(.int (2 : Int32)), (.int p1)]))
    by_cases hc11_3 : p1 = (2 : Int32)
    · skip
      refine Go.by (fun _ => XS.icmpNo X0.here hx rfl (hb hby d2_11) rfl (teq hc11_3).2) ?_
      show Go p.tables e below _ (T0.setTop (mkF m 14 #[.val (.int p1)] []))
      obtain ⟨T4, X4, st4⟩ := X0.getS hx hZ hown (host := "") (Or.inl (tw hw 35 rfl)) Via.refl S_PUBLISH (g := (mkF m 14 #[.val (.int p1)] [])) rfl (hb hby d2_14)
      refine Go.by st4 ?_
      show Go p.tables e below _ (T4.setTop (mkF m 17 #[.val (.int p1)] [(.ref a_PUBLISH)]))
      refine Go.retA X4 hx hlk hret rfl rfl (hb hby d2_17) (by decide) (by decide) ?_
      subst hc11_3
      exact ⟨by simp [own_req], rfl⟩
    · skip
      refine Go.by (fun _ => XS.icmpYes X0.here hx rfl (pc0 := 11) (pc' := 18) rfl (hb hby d2_11) rfl (feq hc11_3).2 (by decide) (by decide)) ?_
      show Go p.tables e below _ (T0.setTop (mkF m 18 #[.val (.int p1)] []))
      refine Go.by (fun _ => XS.iloadN X0.here hx rfl (hb hby d2_18) rfl) ?_
      show Go p.tables e below _ (T0.setTop (mkF m 19 #[.val (.int p1)] [(.int p1)]))
      refine Go.by (fun _ => XS.iconst X0.here hx rfl (hb hby d2_19)) ?_
      show Go p.tables e below _ (T0.setTop (mkF m 20 #[.val (.int p1)] [(.int (3 : Int32)), (.int p1)]))
      by_cases hc20_5 : p1 = (3 : Int32)
      · skip
        refine Go.by (fun _ => XS.icmpNo X0.here hx rfl (hb hby d2_20) rfl (teq hc20_5).2) ?_
        show Go p.tables e below _ (T0.setTop (mkF m 23 #[.val (.int p1)] []))
        obtain ⟨T6, X6, st6⟩ := X0.getS hx hZ hown (host := "") (Or.inl (tw hw 33 rfl)) Via.refl S_SUBSCRIBE (g := (mkF m 23 #[.val (.int p1)] [])) rfl (hb hby d2_23)
        refine Go.by st6 ?_
        show Go p.tables e below _ (T6.setTop (mkF m 26 #[.val (.int p1)] [(.ref a_SUBSCRIBE)]))
        refine Go.retA X6 hx hlk hret rfl rfl (hb hby d2_26) (by decide) (by decide) ?_
        subst hc20_5
        exact ⟨by simp [own_req], rfl⟩
      · skip
        refine Go.by (fun _ => XS.icmpYes X0.here hx rfl (pc0 := 20) (pc' := 27) rfl (hb hby d2_20) rfl (feq hc20_5).2 (by decide) (by decide)) ?_
        show Go p.tables e below _ (T0.setTop (mkF m 27 #[.val (.int p1)] []))
        refine Go.by (fun _ => XS.iloadN X0.here hx rfl (hb hby d2_27) rfl) ?_
        show Go p.tables e below _ (T0.setTop (mkF m 28 #[.val (.int p1)] [(.int p1)]))
        refine Go.by (fun _ => XS.iconst X0.here hx rfl (hb hby d2_28)) ?_
        show Go p.tables e below _ (T0.setTop (mkF m 29 #[.val (.int p1)] [(.int (4 : Int32)), (.int p1)]))
        by_cases hc29_7 : p1 = (4 : Int32)
        · skip
          refine Go.by (fun _ => XS.icmpNo X0.here hx rfl (hb hby d2_29) rfl (teq hc29_7).2) ?_
          show Go p.tables e below _ (T0.setTop (mkF m 32 #[.val (.int p1)] []))
          obtain ⟨T8, X8, st8⟩ := X0.getS hx hZ hown (host := "") (Or.inl (tw hw 41 rfl)) Via.refl S_CREDIT (g := (mkF m 32 #[.val (.int p1)] [])) rfl (hb hby d2_32)
          refine Go.by st8 ?_
          show Go p.tables e below _ (T8.setTop (mkF m 35 #[.val (.int p1)] [(.ref a_CREDIT)]))
          refine Go.retA X8 hx hlk hret rfl rfl (hb hby d2_35) (by decide) (by decide) ?_
          subst hc29_7
          exact ⟨by simp [own_req], rfl⟩
        · skip
          refine Go.by (fun _ => XS.icmpYes X0.here hx rfl (pc0 := 29) (pc' := 36) rfl (hb hby d2_29) rfl (feq hc29_7).2 (by decide) (by decide)) ?_
          show Go p.tables e below _ (T0.setTop (mkF m 36 #[.val (.int p1)] []))
          refine Go.by (fun _ => XS.iloadN X0.here hx rfl (hb hby d2_36) rfl) ?_
          show Go p.tables e below _ (T0.setTop (mkF m 37 #[.val (.int p1)] [(.int p1)]))
          refine Go.by (fun _ => XS.iconst X0.here hx rfl (hb hby d2_37)) ?_
          show Go p.tables e below _ (T0.setTop (mkF m 38 #[.val (.int p1)] [(.int (5 : Int32)), (.int p1)]))
          by_cases hc38_9 : p1 = (5 : Int32)
          · skip
            refine Go.by (fun _ => XS.icmpNo X0.here hx rfl (hb hby d2_38) rfl (teq hc38_9).2) ?_
            show Go p.tables e below _ (T0.setTop (mkF m 41 #[.val (.int p1)] []))
            obtain ⟨T10, X10, st10⟩ := X0.getS hx hZ hown (host := "") (Or.inl (tw hw 38 rfl)) Via.refl S_ACK (g := (mkF m 41 #[.val (.int p1)] [])) rfl (hb hby d2_41)
            refine Go.by st10 ?_
            show Go p.tables e below _ (T10.setTop (mkF m 44 #[.val (.int p1)] [(.ref a_ACK)]))
            refine Go.retA X10 hx hlk hret rfl rfl (hb hby d2_44) (by decide) (by decide) ?_
            subst hc38_9
            exact ⟨by simp [own_req], rfl⟩
          · skip
            refine Go.by (fun _ => XS.icmpYes X0.here hx rfl (pc0 := 38) (pc' := 45) rfl (hb hby d2_38) rfl (feq hc38_9).2 (by decide) (by decide)) ?_
            show Go p.tables e below _ (T0.setTop (mkF m 45 #[.val (.int p1)] []))
            refine Go.by (fun _ => XS.iloadN X0.here hx rfl (hb hby d2_45) rfl) ?_
            show Go p.tables e below _ (T0.setTop (mkF m 46 #[.val (.int p1)] [(.int p1)]))
            refine Go.by (fun _ => XS.bipush X0.here hx rfl (hb hby d2_46)) ?_
            show Go p.tables e below _ (T0.setTop (mkF m 48 #[.val (.int p1)] [(.int (6 : Int32)), (.int p1)]))
            by_cases hc48_11 : p1 = (6 : Int32)
            · skip
              refine Go.by (fun _ => XS.icmpNo X0.here hx rfl (hb hby d2_48) rfl (teq hc48_11).2) ?_
              show Go p.tables e below _ (T0.setTop (mkF m 51 #[.val (.int p1)] []))
              obtain ⟨T12, X12, st12⟩ := X0.getS hx hZ hown (host := "") (Or.inl (tw hw 30 rfl)) Via.refl S_REJECT (g := (mkF m 51 #[.val (.int p1)] [])) rfl (hb hby d2_51)
              refine Go.by st12 ?_
              show Go p.tables e below _ (T12.setTop (mkF m 54 #[.val (.int p1)] [(.ref a_REJECT)]))
              refine Go.retA X12 hx hlk hret rfl rfl (hb hby d2_54) (by decide) (by decide) ?_
              subst hc48_11
              exact ⟨by simp [own_req], rfl⟩
            · skip
              refine Go.by (fun _ => XS.icmpYes X0.here hx rfl (pc0 := 48) (pc' := 55) rfl (hb hby d2_48) rfl (feq hc48_11).2 (by decide) (by decide)) ?_
              show Go p.tables e below _ (T0.setTop (mkF m 55 #[.val (.int p1)] []))
              refine Go.by (fun _ => XS.iloadN X0.here hx rfl (hb hby d2_55) rfl) ?_
              show Go p.tables e below _ (T0.setTop (mkF m 56 #[.val (.int p1)] [(.int p1)]))
              refine Go.by (fun _ => XS.bipush X0.here hx rfl (hb hby d2_56)) ?_
              show Go p.tables e below _ (T0.setTop (mkF m 58 #[.val (.int p1)] [(.int (7 : Int32)), (.int p1)]))
              by_cases hc58_13 : p1 = (7 : Int32)
              · skip
                refine Go.by (fun _ => XS.icmpNo X0.here hx rfl (hb hby d2_58) rfl (teq hc58_13).2) ?_
                show Go p.tables e below _ (T0.setTop (mkF m 61 #[.val (.int p1)] []))
                obtain ⟨T14, X14, st14⟩ := X0.getS hx hZ hown (host := "") (Or.inl (tw hw 32 rfl)) Via.refl S_UNSUBSCRIBE (g := (mkF m 61 #[.val (.int p1)] [])) rfl (hb hby d2_61)
                refine Go.by st14 ?_
                show Go p.tables e below _ (T14.setTop (mkF m 64 #[.val (.int p1)] [(.ref a_UNSUBSCRIBE)]))
                refine Go.retA X14 hx hlk hret rfl rfl (hb hby d2_64) (by decide) (by decide) ?_
                subst hc58_13
                exact ⟨by simp [own_req], rfl⟩
              · skip
                refine Go.by (fun _ => XS.icmpYes X0.here hx rfl (pc0 := 58) (pc' := 65) rfl (hb hby d2_58) rfl (feq hc58_13).2 (by decide) (by decide)) ?_
                show Go p.tables e below _ (T0.setTop (mkF m 65 #[.val (.int p1)] []))
                refine Go.by (fun _ => XS.iloadN X0.here hx rfl (hb hby d2_65) rfl) ?_
                show Go p.tables e below _ (T0.setTop (mkF m 66 #[.val (.int p1)] [(.int p1)]))
                refine Go.by (fun _ => XS.bipush X0.here hx rfl (hb hby d2_66)) ?_
                show Go p.tables e below _ (T0.setTop (mkF m 68 #[.val (.int p1)] [(.int (8 : Int32)), (.int p1)]))
                by_cases hc68_15 : p1 = (8 : Int32)
                · skip
                  refine Go.by (fun _ => XS.icmpNo X0.here hx rfl (hb hby d2_68) rfl (teq hc68_15).2) ?_
                  show Go p.tables e below _ (T0.setTop (mkF m 71 #[.val (.int p1)] []))
                  obtain ⟨T16, X16, st16⟩ := X0.getS hx hZ hown (host := "") (Or.inl (tw hw 31 rfl)) Via.refl S_PING (g := (mkF m 71 #[.val (.int p1)] [])) rfl (hb hby d2_71)
                  refine Go.by st16 ?_
                  show Go p.tables e below _ (T16.setTop (mkF m 74 #[.val (.int p1)] [(.ref a_PING)]))
                  refine Go.retA X16 hx hlk hret rfl rfl (hb hby d2_74) (by decide) (by decide) ?_
                  subst hc68_15
                  exact ⟨by simp [own_req], rfl⟩
                · skip
                  refine Go.by (fun _ => XS.icmpYes X0.here hx rfl (pc0 := 68) (pc' := 75) rfl (hb hby d2_68) rfl (feq hc68_15).2 (by decide) (by decide)) ?_
                  show Go p.tables e below _ (T0.setTop (mkF m 75 #[.val (.int p1)] []))
                  refine Go.by (fun _ => XS.iloadN X0.here hx rfl (hb hby d2_75) rfl) ?_
                  show Go p.tables e below _ (T0.setTop (mkF m 76 #[.val (.int p1)] [(.int p1)]))
                  refine Go.by (fun _ => XS.bipush X0.here hx rfl (hb hby d2_76)) ?_
                  show Go p.tables e below _ (T0.setTop (mkF m 78 #[.val (.int p1)] [(.int (9 : Int32)), (.int p1)]))
                  by_cases hc78_17 : p1 = (9 : Int32)
                  · skip
                    refine Go.by (fun _ => XS.icmpNo X0.here hx rfl (hb hby d2_78) rfl (teq hc78_17).2) ?_
                    show Go p.tables e below _ (T0.setTop (mkF m 81 #[.val (.int p1)] []))
                    obtain ⟨T18, X18, st18⟩ := X0.getS hx hZ hown (host := "") (Or.inl (tw hw 40 rfl)) Via.refl S_QUEUES (g := (mkF m 81 #[.val (.int p1)] [])) rfl (hb hby d2_81)
                    refine Go.by st18 ?_
                    show Go p.tables e below _ (T18.setTop (mkF m 84 #[.val (.int p1)] [(.ref a_QUEUES)]))
                    refine Go.retA X18 hx hlk hret rfl rfl (hb hby d2_84) (by decide) (by decide) ?_
                    subst hc78_17
                    exact ⟨by simp [own_req], rfl⟩
                  · skip
                    refine Go.by (fun _ => XS.icmpYes X0.here hx rfl (pc0 := 78) (pc' := 85) rfl (hb hby d2_78) rfl (feq hc78_17).2 (by decide) (by decide)) ?_
                    show Go p.tables e below _ (T0.setTop (mkF m 85 #[.val (.int p1)] []))
                    refine Go.by (fun _ => XS.iloadN X0.here hx rfl (hb hby d2_85) rfl) ?_
                    show Go p.tables e below _ (T0.setTop (mkF m 86 #[.val (.int p1)] [(.int p1)]))
                    refine Go.by (fun _ => XS.bipush X0.here hx rfl (hb hby d2_86)) ?_
                    show Go p.tables e below _ (T0.setTop (mkF m 88 #[.val (.int p1)] [(.int (10 : Int32)), (.int p1)]))
                    by_cases hc88_19 : p1 = (10 : Int32)
                    · skip
                      refine Go.by (fun _ => XS.icmpNo X0.here hx rfl (hb hby d2_88) rfl (teq hc88_19).2) ?_
                      show Go p.tables e below _ (T0.setTop (mkF m 91 #[.val (.int p1)] []))
                      obtain ⟨T20, X20, st20⟩ := X0.getS hx hZ hown (host := "") (Or.inl (tw hw 36 rfl)) Via.refl S_BIND (g := (mkF m 91 #[.val (.int p1)] [])) rfl (hb hby d2_91)
                      refine Go.by st20 ?_
                      show Go p.tables e below _ (T20.setTop (mkF m 94 #[.val (.int p1)] [(.ref a_BIND)]))
                      refine Go.retA X20 hx hlk hret rfl rfl (hb hby d2_94) (by decide) (by decide) ?_
                      subst hc88_19
                      exact ⟨by simp [own_req], rfl⟩
                    · skip
                      refine Go.by (fun _ => XS.icmpYes X0.here hx rfl (pc0 := 88) (pc' := 95) rfl (hb hby d2_88) rfl (feq hc88_19).2 (by decide) (by decide)) ?_
                      show Go p.tables e below _ (T0.setTop (mkF m 95 #[.val (.int p1)] []))
                      refine Go.by (fun _ => XS.iloadN X0.here hx rfl (hb hby d2_95) rfl) ?_
                      show Go p.tables e below _ (T0.setTop (mkF m 96 #[.val (.int p1)] [(.int p1)]))
                      refine Go.by (fun _ => XS.bipush X0.here hx rfl (hb hby d2_96)) ?_
                      show Go p.tables e below _ (T0.setTop (mkF m 98 #[.val (.int p1)] [(.int (11 : Int32)), (.int p1)]))
                      by_cases hc98_21 : p1 = (11 : Int32)
                      · skip
                        refine Go.by (fun _ => XS.icmpNo X0.here hx rfl (hb hby d2_98) rfl (teq hc98_21).2) ?_
                        show Go p.tables e below _ (T0.setTop (mkF m 101 #[.val (.int p1)] []))
                        obtain ⟨T22, X22, st22⟩ := X0.getS hx hZ hown (host := "") (Or.inl (tw hw 37 rfl)) Via.refl S_UNBIND (g := (mkF m 101 #[.val (.int p1)] [])) rfl (hb hby d2_101)
                        refine Go.by st22 ?_
                        show Go p.tables e below _ (T22.setTop (mkF m 104 #[.val (.int p1)] [(.ref a_UNBIND)]))
                        refine Go.retA X22 hx hlk hret rfl rfl (hb hby d2_104) (by decide) (by decide) ?_
                        subst hc98_21
                        exact ⟨by simp [own_req], rfl⟩
                      · skip
                        refine Go.by (fun _ => XS.icmpYes X0.here hx rfl (pc0 := 98) (pc' := 105) rfl (hb hby d2_98) rfl (feq hc98_21).2 (by decide) (by decide)) ?_
                        show Go p.tables e below _ (T0.setTop (mkF m 105 #[.val (.int p1)] []))
                        refine Go.by (fun _ => XS.iloadN X0.here hx rfl (hb hby d2_105) rfl) ?_
                        show Go p.tables e below _ (T0.setTop (mkF m 106 #[.val (.int p1)] [(.int p1)]))
                        refine Go.by (fun _ => XS.bipush X0.here hx rfl (hb hby d2_106)) ?_
                        show Go p.tables e below _ (T0.setTop (mkF m 108 #[.val (.int p1)] [(.int (12 : Int32)), (.int p1)]))
                        by_cases hc108_23 : p1 = (12 : Int32)
                        · skip
                          refine Go.by (fun _ => XS.icmpNo X0.here hx rfl (hb hby d2_108) rfl (teq hc108_23).2) ?_
                          show Go p.tables e below _ (T0.setTop (mkF m 111 #[.val (.int p1)] []))
                          obtain ⟨T24, X24, st24⟩ := X0.getS hx hZ hown (host := "") (Or.inl (tw hw 29 rfl)) Via.refl S_FANOUT (g := (mkF m 111 #[.val (.int p1)] [])) rfl (hb hby d2_111)
                          refine Go.by st24 ?_
                          show Go p.tables e below _ (T24.setTop (mkF m 114 #[.val (.int p1)] [(.ref a_FANOUT)]))
                          refine Go.retA X24 hx hlk hret rfl rfl (hb hby d2_114) (by decide) (by decide) ?_
                          subst hc108_23
                          exact ⟨by simp [own_req], rfl⟩
                        · skip
                          refine Go.by (fun _ => XS.icmpYes X0.here hx rfl (pc0 := 108) (pc' := 115) rfl (hb hby d2_108) rfl (feq hc108_23).2 (by decide) (by decide)) ?_
                          show Go p.tables e below _ (T0.setTop (mkF m 115 #[.val (.int p1)] []))
                          refine Go.by (fun _ => XS.iloadN X0.here hx rfl (hb hby d2_115) rfl) ?_
                          show Go p.tables e below _ (T0.setTop (mkF m 116 #[.val (.int p1)] [(.int p1)]))
                          refine Go.by (fun _ => XS.bipush X0.here hx rfl (hb hby d2_116)) ?_
                          show Go p.tables e below _ (T0.setTop (mkF m 118 #[.val (.int p1)] [(.int (13 : Int32)), (.int p1)]))
                          by_cases hc118_25 : p1 = (13 : Int32)
                          · skip
                            refine Go.by (fun _ => XS.icmpNo X0.here hx rfl (hb hby d2_118) rfl (teq hc118_25).2) ?_
                            show Go p.tables e below _ (T0.setTop (mkF m 121 #[.val (.int p1)] []))
                            obtain ⟨T26, X26, st26⟩ := X0.getS hx hZ hown (host := "") (Or.inl (tw hw 39 rfl)) Via.refl S_TOPICS (g := (mkF m 121 #[.val (.int p1)] [])) rfl (hb hby d2_121)
                            refine Go.by st26 ?_
                            show Go p.tables e below _ (T26.setTop (mkF m 124 #[.val (.int p1)] [(.ref a_TOPICS)]))
                            refine Go.retA X26 hx hlk hret rfl rfl (hb hby d2_124) (by decide) (by decide) ?_
                            subst hc118_25
                            exact ⟨by simp [own_req], rfl⟩
                          · skip
                            refine Go.by (fun _ => XS.icmpYes X0.here hx rfl (pc0 := 118) (pc' := 125) rfl (hb hby d2_118) rfl (feq hc118_25).2 (by decide) (by decide)) ?_
                            show Go p.tables e below _ (T0.setTop (mkF m 125 #[.val (.int p1)] []))
                            refine Go.by (fun _ => XS.aconstNull X0.here hx rfl (hb hby d2_125)) ?_
                            show Go p.tables e below _ (T0.setTop (mkF m 126 #[.val (.int p1)] [.null]))
                            refine Go.retA X0 hx hlk hret rfl rfl (hb hby d2_126) (by decide) (by decide) ?_
                            refine ⟨congrArg some (own_null ?_).symm, rfl⟩
                            simp only [not_or]
                            exact ⟨hc2_1, hc11_3, hc20_5, hc29_7, hc38_9, hc48_11, hc58_13, hc68_15, hc78_17, hc88_19, hc98_21, hc108_23, hc118_25⟩
theorem pd0 : parseMethodDescriptor "(I)Lcom/example/shrike/shrike/protocol/FrameType;" = some ⟨[.int], some (.object "com/example/shrike/shrike/protocol/FrameType")⟩ := by decide +kernel
set_option maxRecDepth 65536 in
set_option maxHeartbeats 40000000 in
theorem rm0 (l : Launch) (Z : State) (a0 : Array Value) (hw : ∀ d ∈ tables_1, d.before a0 Z = true) (ws : List Jvm.Cond) (p0 : Int32) (p1 : Int32) (a_HELLO : Addr) (a_PUBLISH : Addr) (a_SUBSCRIBE : Addr) (a_CREDIT : Addr) (a_ACK : Addr) (a_REJECT : Addr) (a_UNSUBSCRIBE : Addr) (a_PING : Addr) (a_QUEUES : Addr) (a_BIND : Addr) (a_UNBIND : Addr) (a_FANOUT : Addr) (a_TOPICS : Addr) (a_OK : Addr) (a_ERR : Addr) (a_DELIVER : Addr) (a_PONG : Addr) (a_TYPES : Addr) (kT : ClassId) (h0 : Heap) (n0 : Nat) (Z0 : n0 ≤ h0.size) (S_HELLO : Sta Z h0 "com/example/shrike/shrike/protocol/FrameType" "HELLO" "Lcom/example/shrike/shrike/protocol/FrameType;" (.ref a_HELLO)) (E_HELLO : Exa Z h0 a_HELLO "com/example/shrike/shrike/protocol/FrameType") (S_PUBLISH : Sta Z h0 "com/example/shrike/shrike/protocol/FrameType" "PUBLISH" "Lcom/example/shrike/shrike/protocol/FrameType;" (.ref a_PUBLISH)) (E_PUBLISH : Exa Z h0 a_PUBLISH "com/example/shrike/shrike/protocol/FrameType") (S_SUBSCRIBE : Sta Z h0 "com/example/shrike/shrike/protocol/FrameType" "SUBSCRIBE" "Lcom/example/shrike/shrike/protocol/FrameType;" (.ref a_SUBSCRIBE)) (E_SUBSCRIBE : Exa Z h0 a_SUBSCRIBE "com/example/shrike/shrike/protocol/FrameType") (S_CREDIT : Sta Z h0 "com/example/shrike/shrike/protocol/FrameType" "CREDIT" "Lcom/example/shrike/shrike/protocol/FrameType;" (.ref a_CREDIT)) (E_CREDIT : Exa Z h0 a_CREDIT "com/example/shrike/shrike/protocol/FrameType") (S_ACK : Sta Z h0 "com/example/shrike/shrike/protocol/FrameType" "ACK" "Lcom/example/shrike/shrike/protocol/FrameType;" (.ref a_ACK)) (E_ACK : Exa Z h0 a_ACK "com/example/shrike/shrike/protocol/FrameType") (S_REJECT : Sta Z h0 "com/example/shrike/shrike/protocol/FrameType" "REJECT" "Lcom/example/shrike/shrike/protocol/FrameType;" (.ref a_REJECT)) (E_REJECT : Exa Z h0 a_REJECT "com/example/shrike/shrike/protocol/FrameType") (S_UNSUBSCRIBE : Sta Z h0 "com/example/shrike/shrike/protocol/FrameType" "UNSUBSCRIBE" "Lcom/example/shrike/shrike/protocol/FrameType;" (.ref a_UNSUBSCRIBE)) (E_UNSUBSCRIBE : Exa Z h0 a_UNSUBSCRIBE "com/example/shrike/shrike/protocol/FrameType") (S_PING : Sta Z h0 "com/example/shrike/shrike/protocol/FrameType" "PING" "Lcom/example/shrike/shrike/protocol/FrameType;" (.ref a_PING)) (E_PING : Exa Z h0 a_PING "com/example/shrike/shrike/protocol/FrameType") (S_QUEUES : Sta Z h0 "com/example/shrike/shrike/protocol/FrameType" "QUEUES" "Lcom/example/shrike/shrike/protocol/FrameType;" (.ref a_QUEUES)) (E_QUEUES : Exa Z h0 a_QUEUES "com/example/shrike/shrike/protocol/FrameType") (S_BIND : Sta Z h0 "com/example/shrike/shrike/protocol/FrameType" "BIND" "Lcom/example/shrike/shrike/protocol/FrameType;" (.ref a_BIND)) (E_BIND : Exa Z h0 a_BIND "com/example/shrike/shrike/protocol/FrameType") (S_UNBIND : Sta Z h0 "com/example/shrike/shrike/protocol/FrameType" "UNBIND" "Lcom/example/shrike/shrike/protocol/FrameType;" (.ref a_UNBIND)) (E_UNBIND : Exa Z h0 a_UNBIND "com/example/shrike/shrike/protocol/FrameType") (S_FANOUT : Sta Z h0 "com/example/shrike/shrike/protocol/FrameType" "FANOUT" "Lcom/example/shrike/shrike/protocol/FrameType;" (.ref a_FANOUT)) (E_FANOUT : Exa Z h0 a_FANOUT "com/example/shrike/shrike/protocol/FrameType") (S_TOPICS : Sta Z h0 "com/example/shrike/shrike/protocol/FrameType" "TOPICS" "Lcom/example/shrike/shrike/protocol/FrameType;" (.ref a_TOPICS)) (E_TOPICS : Exa Z h0 a_TOPICS "com/example/shrike/shrike/protocol/FrameType") (S_OK : Sta Z h0 "com/example/shrike/shrike/protocol/FrameType" "OK" "Lcom/example/shrike/shrike/protocol/FrameType;" (.ref a_OK)) (E_OK : Exa Z h0 a_OK "com/example/shrike/shrike/protocol/FrameType") (S_ERR : Sta Z h0 "com/example/shrike/shrike/protocol/FrameType" "ERR" "Lcom/example/shrike/shrike/protocol/FrameType;" (.ref a_ERR)) (E_ERR : Exa Z h0 a_ERR "com/example/shrike/shrike/protocol/FrameType") (S_DELIVER : Sta Z h0 "com/example/shrike/shrike/protocol/FrameType" "DELIVER" "Lcom/example/shrike/shrike/protocol/FrameType;" (.ref a_DELIVER)) (E_DELIVER : Exa Z h0 a_DELIVER "com/example/shrike/shrike/protocol/FrameType") (S_PONG : Sta Z h0 "com/example/shrike/shrike/protocol/FrameType" "PONG" "Lcom/example/shrike/shrike/protocol/FrameType;" (.ref a_PONG)) (E_PONG : Exa Z h0 a_PONG "com/example/shrike/shrike/protocol/FrameType") (F_HELLO_code : Fld Z h0 a_HELLO "com/example/shrike/shrike/protocol/FrameType" "code" "I" (.int (1 : Int32))) (F_PUBLISH_code : Fld Z h0 a_PUBLISH "com/example/shrike/shrike/protocol/FrameType" "code" "I" (.int (2 : Int32))) (F_SUBSCRIBE_code : Fld Z h0 a_SUBSCRIBE "com/example/shrike/shrike/protocol/FrameType" "code" "I" (.int (3 : Int32))) (F_CREDIT_code : Fld Z h0 a_CREDIT "com/example/shrike/shrike/protocol/FrameType" "code" "I" (.int (4 : Int32))) (F_ACK_code : Fld Z h0 a_ACK "com/example/shrike/shrike/protocol/FrameType" "code" "I" (.int (5 : Int32))) (F_REJECT_code : Fld Z h0 a_REJECT "com/example/shrike/shrike/protocol/FrameType" "code" "I" (.int (6 : Int32))) (F_UNSUBSCRIBE_code : Fld Z h0 a_UNSUBSCRIBE "com/example/shrike/shrike/protocol/FrameType" "code" "I" (.int (7 : Int32))) (F_PING_code : Fld Z h0 a_PING "com/example/shrike/shrike/protocol/FrameType" "code" "I" (.int (8 : Int32))) (F_QUEUES_code : Fld Z h0 a_QUEUES "com/example/shrike/shrike/protocol/FrameType" "code" "I" (.int (9 : Int32))) (F_BIND_code : Fld Z h0 a_BIND "com/example/shrike/shrike/protocol/FrameType" "code" "I" (.int (10 : Int32))) (F_UNBIND_code : Fld Z h0 a_UNBIND "com/example/shrike/shrike/protocol/FrameType" "code" "I" (.int (11 : Int32))) (F_FANOUT_code : Fld Z h0 a_FANOUT "com/example/shrike/shrike/protocol/FrameType" "code" "I" (.int (12 : Int32))) (F_TOPICS_code : Fld Z h0 a_TOPICS "com/example/shrike/shrike/protocol/FrameType" "code" "I" (.int (13 : Int32))) (F_OK_code : Fld Z h0 a_OK "com/example/shrike/shrike/protocol/FrameType" "code" "I" (.int (129 : Int32))) (F_ERR_code : Fld Z h0 a_ERR "com/example/shrike/shrike/protocol/FrameType" "code" "I" (.int (130 : Int32))) (F_DELIVER_code : Fld Z h0 a_DELIVER "com/example/shrike/shrike/protocol/FrameType" "code" "I" (.int (131 : Int32))) (F_PONG_code : Fld Z h0 a_PONG "com/example/shrike/shrike/protocol/FrameType" "code" "I" (.int (132 : Int32))) (S_TYPES : Sta Z h0 "com/example/shrike/shrike/protocol/FrameType" "TYPES" "[Lcom/example/shrike/shrike/protocol/FrameType;" (.ref a_TYPES)) (V_TYPES : Avf Z h0 a_TYPES kT (.object "com/example/shrike/shrike/protocol/FrameType") 17 (fun i => ([Value.ref a_HELLO, Value.ref a_PUBLISH, Value.ref a_SUBSCRIBE, Value.ref a_CREDIT, Value.ref a_ACK, Value.ref a_REJECT, Value.ref a_UNSUBSCRIBE, Value.ref a_PING, Value.ref a_QUEUES, Value.ref a_BIND, Value.ref a_UNBIND, Value.ref a_FANOUT, Value.ref a_TOPICS, Value.ref a_OK, Value.ref a_ERR, Value.ref a_DELIVER, Value.ref a_PONG] : List Value).getD i .null)) :
    Met l Z n0 x code maxLocals ret ws room_1 #[(.int p0), (.int p1)] h0 (fun v h => v = some (.int 1)) := by
  refine enter (Ls := #[.val (.int p0), .val (.int p1), .unset, .unset]) (plainFor_of_name pn1) (fun m => by first | rfl | (simp [entryFrame, mkF, argsToLocals, Value.category, maxLocals]; done)) ?_
  intro p e s m below meth c T0 hx hby hml hown hnm hret hlk hZ X0
  show Go p.tables e below _ (T0.setTop (mkF m 0 #[.val (.int p0), .val (.int p1), .unset, .unset] []))
  refine Go.by (fun _ => XS.iloadN X0.here hx rfl (hb hby at_0) rfl) ?_
  show Go p.tables e below _ (T0.setTop (mkF m 1 #[.val (.int p0), .val (.int p1), .unset, .unset] [(.int p1)]))
  refine Go.by (fun _ => XS.iconst X0.here hx rfl (hb hby at_1)) ?_
  show Go p.tables e below _ (T0.setTop (mkF m 2 #[.val (.int p0), .val (.int p1), .unset, .unset] [(.int (3 : Int32)), (.int p1)]))
  refine Go.by (fun _ => XS.iand X0.here hx rfl (hb hby at_2) rfl) ?_
  show Go p.tables e below _ (T0.setTop (mkF m 3 #[.val (.int p0), .val (.int p1), .unset, .unset] [(.int (p1 &&& (3 : Int32)))]))
  refine Go.by (fun _ => XS.istoreN X0.here hx rfl (hb hby at_3) rfl (l' := #[.val (.int p0), .val (.int p1), .val (.int (p1 &&& (3 : Int32))), .unset]) rfl) ?_
  show Go p.tables e below _ (T0.setTop (mkF m 4 #[.val (.int p0), .val (.int p1), .val (.int (p1 &&& (3 : Int32))), .unset] []))
  refine Go.by (fun _ => XS.iloadN X0.here hx rfl (hb hby at_4) rfl) ?_
  show Go p.tables e below _ (T0.setTop (mkF m 5 #[.val (.int p0), .val (.int p1), .val (.int (p1 &&& (3 : Int32))), .unset] [(.int (p1 &&& (3 : Int32)))]))
  by_cases hc5_1 : (p1 &&& (3 : Int32)) = (0 : Int32)
  · skip
    refine Go.by (fun _ => XS.ifNo X0.here hx rfl (hb hby at_5) rfl ((if0 _ _).trans (teq hc5_1).2)) ?_
    show Go p.tables e below _ (T0.setTop (mkF m 8 #[.val (.int p0), .val (.int p1), .val (.int (p1 &&& (3 : Int32))), .unset] []))
    refine Go.by (fun _ => XS.iloadN X0.here hx rfl (hb hby at_8) rfl) ?_
    show Go p.tables e below _ (T0.setTop (mkF m 9 #[.val (.int p0), .val (.int p1), .val (.int (p1 &&& (3 : Int32))), .unset] [(.int p0)]))
    refine Go.by (fun _ => XS.istoreN X0.here hx rfl (hb hby at_9) rfl (l' := #[.val (.int p0), .val (.int p1), .val (.int (p1 &&& (3 : Int32))), .val (.int p0)]) rfl) ?_
    show Go p.tables e below _ (T0.setTop (mkF m 10 #[.val (.int p0), .val (.int p1), .val (.int (p1 &&& (3 : Int32))), .val (.int p0)] []))
    refine Go.by (fun _ => XS.goto X0.here hx rfl (pc0 := 10) (pc' := 46) rfl (hb hby at_10) (by decide) (by decide)) ?_
    show Go p.tables e below _ (T0.setTop (mkF m 46 #[.val (.int p0), .val (.int p1), .val (.int (p1 &&& (3 : Int32))), .val (.int p0)] []))
    refine Go.by (fun _ => XS.iloadN X0.here hx rfl (hb hby at_46) rfl) ?_
    show Go p.tables e below _ (T0.setTop (mkF m 47 #[.val (.int p0), .val (.int p1), .val (.int (p1 &&& (3 : Int32))), .val (.int p0)] [(.int p0)]))
    obtain ⟨v2, T2, h2, X2, q2, st2⟩ := X0.callS hx hZ (y := (⟨"com/example/shrike/shrike/protocol/FrameType", "request", "(I)Lcom/example/shrike/shrike/protocol/FrameType;"⟩ : MethodName)) hown (tw hw 0 rfl) (tw hw 1 rfl) (tw hw 2 rfl) (tw hw 3 rfl) (by decide) (rm1 l Z a0 hw [] p0 a_HELLO a_PUBLISH a_SUBSCRIBE a_CREDIT a_ACK a_REJECT a_UNSUBSCRIBE a_PING a_QUEUES a_BIND a_UNBIND a_FANOUT a_TOPICS a_OK a_ERR a_DELIVER a_PONG a_TYPES kT h0 n0 Z0 S_HELLO E_HELLO S_PUBLISH E_PUBLISH S_SUBSCRIBE E_SUBSCRIBE S_CREDIT E_CREDIT S_ACK E_ACK S_REJECT E_REJECT S_UNSUBSCRIBE E_UNSUBSCRIBE S_PING E_PING S_QUEUES E_QUEUES S_BIND E_BIND S_UNBIND E_UNBIND S_FANOUT E_FANOUT S_TOPICS E_TOPICS S_OK E_OK S_ERR E_ERR S_DELIVER E_DELIVER S_PONG E_PONG F_HELLO_code F_PUBLISH_code F_SUBSCRIBE_code F_CREDIT_code F_ACK_code F_REJECT_code F_UNSUBSCRIBE_code F_PING_code F_QUEUES_code F_BIND_code F_UNBIND_code F_FANOUT_code F_TOPICS_code F_OK_code F_ERR_code F_DELIVER_code F_PONG_code S_TYPES V_TYPES) (g := (mkF m 47 #[.val (.int p0), .val (.int p1), .val (.int (p1 &&& (3 : Int32))), .val (.int p0)] [(.int p0)])) rfl (by rw [hml]; rfl) (argsL := [(.int p0)]) (rest := []) (lenOf pd0 rfl) rfl (hb hby at_47) rfl (by decide) (Nat.le_of_ble_eq_true rfl) (k' := 0) (n' := 0) rfl rfl (by decide) (by decide)
    refine Go.by st2 ?_
    obtain ⟨rfl, rfl⟩ := q2
    show Go p.tables e below _ (T2.setTop (mkF m 50 #[.val (.int p0), .val (.int p1), .val (.int (p1 &&& (3 : Int32))), .val (.int p0)] [(own_req p0 a_HELLO a_PUBLISH a_SUBSCRIBE a_CREDIT a_ACK a_REJECT a_UNSUBSCRIBE a_PING a_QUEUES a_BIND a_UNBIND a_FANOUT a_TOPICS)]))
    refine Go.by (fun _ => XS.iloadN X2.here hx rfl (hb hby at_50) rfl) ?_
    show Go p.tables e below _ (T2.setTop (mkF m 51 #[.val (.int p0), .val (.int p1), .val (.int (p1 &&& (3 : Int32))), .val (.int p0)] [(.int p0), (own_req p0 a_HELLO a_PUBLISH a_SUBSCRIBE a_CREDIT a_ACK a_REJECT a_UNSUBSCRIBE a_PING a_QUEUES a_BIND a_UNBIND a_FANOUT a_TOPICS)]))
    obtain ⟨v3, T3, h3, X3, q3, st3⟩ := X2.callS hx hZ (y := (⟨"com/example/shrike/shrike/protocol/FrameTypeRequestPinLaw", "expected", "(I)Lcom/example/shrike/shrike/protocol/FrameType;"⟩ : MethodName)) hown (tw hw 25 rfl) (tw hw 26 rfl) (tw hw 27 rfl) (tw hw 28 rfl) (by decide) (rm2 l Z a0 hw [] p0 a_HELLO a_PUBLISH a_SUBSCRIBE a_CREDIT a_ACK a_REJECT a_UNSUBSCRIBE a_PING a_QUEUES a_BIND a_UNBIND a_FANOUT a_TOPICS a_OK a_ERR a_DELIVER a_PONG a_TYPES kT h0 n0 Z0 S_HELLO E_HELLO S_PUBLISH E_PUBLISH S_SUBSCRIBE E_SUBSCRIBE S_CREDIT E_CREDIT S_ACK E_ACK S_REJECT E_REJECT S_UNSUBSCRIBE E_UNSUBSCRIBE S_PING E_PING S_QUEUES E_QUEUES S_BIND E_BIND S_UNBIND E_UNBIND S_FANOUT E_FANOUT S_TOPICS E_TOPICS S_OK E_OK S_ERR E_ERR S_DELIVER E_DELIVER S_PONG E_PONG F_HELLO_code F_PUBLISH_code F_SUBSCRIBE_code F_CREDIT_code F_ACK_code F_REJECT_code F_UNSUBSCRIBE_code F_PING_code F_QUEUES_code F_BIND_code F_UNBIND_code F_FANOUT_code F_TOPICS_code F_OK_code F_ERR_code F_DELIVER_code F_PONG_code S_TYPES V_TYPES) (g := (mkF m 51 #[.val (.int p0), .val (.int p1), .val (.int (p1 &&& (3 : Int32))), .val (.int p0)] [(.int p0), (own_req p0 a_HELLO a_PUBLISH a_SUBSCRIBE a_CREDIT a_ACK a_REJECT a_UNSUBSCRIBE a_PING a_QUEUES a_BIND a_UNBIND a_FANOUT a_TOPICS)])) rfl (by rw [hml]; rfl) (argsL := [(.int p0)]) (rest := [(own_req p0 a_HELLO a_PUBLISH a_SUBSCRIBE a_CREDIT a_ACK a_REJECT a_UNSUBSCRIBE a_PING a_QUEUES a_BIND a_UNBIND a_FANOUT a_TOPICS)]) (lenOf pd0 rfl) rfl (hb hby at_51) rfl (by decide) (by simp only [List.map_cons, List.map_nil, List.sum_cons, List.sum_nil, catV (own_isref _ _ _ _ _ _ _ _ _ _ _ _ _ _)]; exact Nat.le_of_ble_eq_true rfl) (k' := 0) (n' := 0) rfl rfl (by decide) (by decide)
    refine Go.by st3 ?_
    obtain ⟨rfl, rfl⟩ := q3
    show Go p.tables e below _ (T3.setTop (mkF m 54 #[.val (.int p0), .val (.int p1), .val (.int (p1 &&& (3 : Int32))), .val (.int p0)] [(own_req p0 a_HELLO a_PUBLISH a_SUBSCRIBE a_CREDIT a_ACK a_REJECT a_UNSUBSCRIBE a_PING a_QUEUES a_BIND a_UNBIND a_FANOUT a_TOPICS), (own_req p0 a_HELLO a_PUBLISH a_SUBSCRIBE a_CREDIT a_ACK a_REJECT a_UNSUBSCRIBE a_PING a_QUEUES a_BIND a_UNBIND a_FANOUT a_TOPICS)]))
    refine Go.by (X3.acmp (g := (mkF m 54 #[.val (.int p0), .val (.int p1), .val (.int (p1 &&& (3 : Int32))), .val (.int p0)] [(own_req p0 a_HELLO a_PUBLISH a_SUBSCRIBE a_CREDIT a_ACK a_REJECT a_UNSUBSCRIBE a_PING a_QUEUES a_BIND a_UNBIND a_FANOUT a_TOPICS), (own_req p0 a_HELLO a_PUBLISH a_SUBSCRIBE a_CREDIT a_ACK a_REJECT a_UNSUBSCRIBE a_PING a_QUEUES a_BIND a_UNBIND a_FANOUT a_TOPICS)])) hx rfl (own_isref _ _ _ _ _ _ _ _ _ _ _ _ _ _) (own_isref _ _ _ _ _ _ _ _ _ _ _ _ _ _) (pc0 := 54) (pc' := 57) (same := true) rfl (hb hby at_54) rfl (decide_eq_true rfl) (by decide) (by decide)) ?_
    show Go p.tables e below _ (T3.setTop (mkF m 57 #[.val (.int p0), .val (.int p1), .val (.int (p1 &&& (3 : Int32))), .val (.int p0)] []))
    refine Go.by (fun _ => XS.iconst X3.here hx rfl (hb hby at_57)) ?_
    show Go p.tables e below _ (T3.setTop (mkF m 58 #[.val (.int p0), .val (.int p1), .val (.int (p1 &&& (3 : Int32))), .val (.int p0)] [(.int (1 : Int32))]))
    refine Go.by (fun _ => XS.goto X3.here hx rfl (pc0 := 58) (pc' := 62) rfl (hb hby at_58) (by decide) (by decide)) ?_
    show Go p.tables e below _ (T3.setTop (mkF m 62 #[.val (.int p0), .val (.int p1), .val (.int (p1 &&& (3 : Int32))), .val (.int p0)] [(.int (1 : Int32))]))
    exact Go.retN X3 hx hlk (z' := (1 : Int32)) hret (by simp) (hb hby at_62) rfl (by decide) (by decide) rfl
  · skip
    refine Go.by (fun _ => XS.ifYes X0.here hx rfl (pc0 := 5) (pc' := 13) rfl (hb hby at_5) rfl ((if0 _ _).trans (feq hc5_1).2) (by decide) (by decide)) ?_
    show Go p.tables e below _ (T0.setTop (mkF m 13 #[.val (.int p0), .val (.int p1), .val (.int (p1 &&& (3 : Int32))), .unset] []))
    refine Go.by (fun _ => XS.iloadN X0.here hx rfl (hb hby at_13) rfl) ?_
    show Go p.tables e below _ (T0.setTop (mkF m 14 #[.val (.int p0), .val (.int p1), .val (.int (p1 &&& (3 : Int32))), .unset] [(.int (p1 &&& (3 : Int32)))]))
    refine Go.by (fun _ => XS.iconst X0.here hx rfl (hb hby at_14)) ?_
    show Go p.tables e below _ (T0.setTop (mkF m 15 #[.val (.int p0), .val (.int p1), .val (.int (p1 &&& (3 : Int32))), .unset] [(.int (1 : Int32)), (.int (p1 &&& (3 : Int32)))]))
    by_cases hc15_4 : (p1 &&& (3 : Int32)) = (1 : Int32)
    · skip
      refine Go.by (fun _ => XS.icmpNo X0.here hx rfl (hb hby at_15) rfl (teq hc15_4).2) ?_
      show Go p.tables e below _ (T0.setTop (mkF m 18 #[.val (.int p0), .val (.int p1), .val (.int (p1 &&& (3 : Int32))), .unset] []))
      refine Go.by (fun _ => XS.iloadN X0.here hx rfl (hb hby at_18) rfl) ?_
      show Go p.tables e below _ (T0.setTop (mkF m 19 #[.val (.int p0), .val (.int p1), .val (.int (p1 &&& (3 : Int32))), .unset] [(.int p0)]))
      refine Go.by (fun _ => XS.sipush X0.here hx rfl (hb hby at_19)) ?_
      show Go p.tables e below _ (T0.setTop (mkF m 22 #[.val (.int p0), .val (.int p1), .val (.int (p1 &&& (3 : Int32))), .unset] [(.int (255 : Int32)), (.int p0)]))
      refine Go.by (fun _ => XS.iand X0.here hx rfl (hb hby at_22) rfl) ?_
      show Go p.tables e below _ (T0.setTop (mkF m 23 #[.val (.int p0), .val (.int p1), .val (.int (p1 &&& (3 : Int32))), .unset] [(.int (p0 &&& (255 : Int32)))]))
      refine Go.by (fun _ => XS.istoreN X0.here hx rfl (hb hby at_23) rfl (l' := #[.val (.int p0), .val (.int p1), .val (.int (p1 &&& (3 : Int32))), .val (.int (p0 &&& (255 : Int32)))]) rfl) ?_
      show Go p.tables e below _ (T0.setTop (mkF m 24 #[.val (.int p0), .val (.int p1), .val (.int (p1 &&& (3 : Int32))), .val (.int (p0 &&& (255 : Int32)))] []))
      refine Go.by (fun _ => XS.goto X0.here hx rfl (pc0 := 24) (pc' := 46) rfl (hb hby at_24) (by decide) (by decide)) ?_
      show Go p.tables e below _ (T0.setTop (mkF m 46 #[.val (.int p0), .val (.int p1), .val (.int (p1 &&& (3 : Int32))), .val (.int (p0 &&& (255 : Int32)))] []))
      refine Go.by (fun _ => XS.iloadN X0.here hx rfl (hb hby at_46) rfl) ?_
      show Go p.tables e below _ (T0.setTop (mkF m 47 #[.val (.int p0), .val (.int p1), .val (.int (p1 &&& (3 : Int32))), .val (.int (p0 &&& (255 : Int32)))] [(.int (p0 &&& (255 : Int32)))]))
      obtain ⟨v5, T5, h5, X5, q5, st5⟩ := X0.callS hx hZ (y := (⟨"com/example/shrike/shrike/protocol/FrameType", "request", "(I)Lcom/example/shrike/shrike/protocol/FrameType;"⟩ : MethodName)) hown (tw hw 0 rfl) (tw hw 1 rfl) (tw hw 2 rfl) (tw hw 3 rfl) (by decide) (rm1 l Z a0 hw [] (p0 &&& (255 : Int32)) a_HELLO a_PUBLISH a_SUBSCRIBE a_CREDIT a_ACK a_REJECT a_UNSUBSCRIBE a_PING a_QUEUES a_BIND a_UNBIND a_FANOUT a_TOPICS a_OK a_ERR a_DELIVER a_PONG a_TYPES kT h0 n0 Z0 S_HELLO E_HELLO S_PUBLISH E_PUBLISH S_SUBSCRIBE E_SUBSCRIBE S_CREDIT E_CREDIT S_ACK E_ACK S_REJECT E_REJECT S_UNSUBSCRIBE E_UNSUBSCRIBE S_PING E_PING S_QUEUES E_QUEUES S_BIND E_BIND S_UNBIND E_UNBIND S_FANOUT E_FANOUT S_TOPICS E_TOPICS S_OK E_OK S_ERR E_ERR S_DELIVER E_DELIVER S_PONG E_PONG F_HELLO_code F_PUBLISH_code F_SUBSCRIBE_code F_CREDIT_code F_ACK_code F_REJECT_code F_UNSUBSCRIBE_code F_PING_code F_QUEUES_code F_BIND_code F_UNBIND_code F_FANOUT_code F_TOPICS_code F_OK_code F_ERR_code F_DELIVER_code F_PONG_code S_TYPES V_TYPES) (g := (mkF m 47 #[.val (.int p0), .val (.int p1), .val (.int (p1 &&& (3 : Int32))), .val (.int (p0 &&& (255 : Int32)))] [(.int (p0 &&& (255 : Int32)))])) rfl (by rw [hml]; rfl) (argsL := [(.int (p0 &&& (255 : Int32)))]) (rest := []) (lenOf pd0 rfl) rfl (hb hby at_47) rfl (by decide) (Nat.le_of_ble_eq_true rfl) (k' := 0) (n' := 0) rfl rfl (by decide) (by decide)
      refine Go.by st5 ?_
      obtain ⟨rfl, rfl⟩ := q5
      show Go p.tables e below _ (T5.setTop (mkF m 50 #[.val (.int p0), .val (.int p1), .val (.int (p1 &&& (3 : Int32))), .val (.int (p0 &&& (255 : Int32)))] [(own_req (p0 &&& (255 : Int32)) a_HELLO a_PUBLISH a_SUBSCRIBE a_CREDIT a_ACK a_REJECT a_UNSUBSCRIBE a_PING a_QUEUES a_BIND a_UNBIND a_FANOUT a_TOPICS)]))
      refine Go.by (fun _ => XS.iloadN X5.here hx rfl (hb hby at_50) rfl) ?_
      show Go p.tables e below _ (T5.setTop (mkF m 51 #[.val (.int p0), .val (.int p1), .val (.int (p1 &&& (3 : Int32))), .val (.int (p0 &&& (255 : Int32)))] [(.int (p0 &&& (255 : Int32))), (own_req (p0 &&& (255 : Int32)) a_HELLO a_PUBLISH a_SUBSCRIBE a_CREDIT a_ACK a_REJECT a_UNSUBSCRIBE a_PING a_QUEUES a_BIND a_UNBIND a_FANOUT a_TOPICS)]))
      obtain ⟨v6, T6, h6, X6, q6, st6⟩ := X5.callS hx hZ (y := (⟨"com/example/shrike/shrike/protocol/FrameTypeRequestPinLaw", "expected", "(I)Lcom/example/shrike/shrike/protocol/FrameType;"⟩ : MethodName)) hown (tw hw 25 rfl) (tw hw 26 rfl) (tw hw 27 rfl) (tw hw 28 rfl) (by decide) (rm2 l Z a0 hw [] (p0 &&& (255 : Int32)) a_HELLO a_PUBLISH a_SUBSCRIBE a_CREDIT a_ACK a_REJECT a_UNSUBSCRIBE a_PING a_QUEUES a_BIND a_UNBIND a_FANOUT a_TOPICS a_OK a_ERR a_DELIVER a_PONG a_TYPES kT h0 n0 Z0 S_HELLO E_HELLO S_PUBLISH E_PUBLISH S_SUBSCRIBE E_SUBSCRIBE S_CREDIT E_CREDIT S_ACK E_ACK S_REJECT E_REJECT S_UNSUBSCRIBE E_UNSUBSCRIBE S_PING E_PING S_QUEUES E_QUEUES S_BIND E_BIND S_UNBIND E_UNBIND S_FANOUT E_FANOUT S_TOPICS E_TOPICS S_OK E_OK S_ERR E_ERR S_DELIVER E_DELIVER S_PONG E_PONG F_HELLO_code F_PUBLISH_code F_SUBSCRIBE_code F_CREDIT_code F_ACK_code F_REJECT_code F_UNSUBSCRIBE_code F_PING_code F_QUEUES_code F_BIND_code F_UNBIND_code F_FANOUT_code F_TOPICS_code F_OK_code F_ERR_code F_DELIVER_code F_PONG_code S_TYPES V_TYPES) (g := (mkF m 51 #[.val (.int p0), .val (.int p1), .val (.int (p1 &&& (3 : Int32))), .val (.int (p0 &&& (255 : Int32)))] [(.int (p0 &&& (255 : Int32))), (own_req (p0 &&& (255 : Int32)) a_HELLO a_PUBLISH a_SUBSCRIBE a_CREDIT a_ACK a_REJECT a_UNSUBSCRIBE a_PING a_QUEUES a_BIND a_UNBIND a_FANOUT a_TOPICS)])) rfl (by rw [hml]; rfl) (argsL := [(.int (p0 &&& (255 : Int32)))]) (rest := [(own_req (p0 &&& (255 : Int32)) a_HELLO a_PUBLISH a_SUBSCRIBE a_CREDIT a_ACK a_REJECT a_UNSUBSCRIBE a_PING a_QUEUES a_BIND a_UNBIND a_FANOUT a_TOPICS)]) (lenOf pd0 rfl) rfl (hb hby at_51) rfl (by decide) (by simp only [List.map_cons, List.map_nil, List.sum_cons, List.sum_nil, catV (own_isref _ _ _ _ _ _ _ _ _ _ _ _ _ _)]; exact Nat.le_of_ble_eq_true rfl) (k' := 0) (n' := 0) rfl rfl (by decide) (by decide)
      refine Go.by st6 ?_
      obtain ⟨rfl, rfl⟩ := q6
      show Go p.tables e below _ (T6.setTop (mkF m 54 #[.val (.int p0), .val (.int p1), .val (.int (p1 &&& (3 : Int32))), .val (.int (p0 &&& (255 : Int32)))] [(own_req (p0 &&& (255 : Int32)) a_HELLO a_PUBLISH a_SUBSCRIBE a_CREDIT a_ACK a_REJECT a_UNSUBSCRIBE a_PING a_QUEUES a_BIND a_UNBIND a_FANOUT a_TOPICS), (own_req (p0 &&& (255 : Int32)) a_HELLO a_PUBLISH a_SUBSCRIBE a_CREDIT a_ACK a_REJECT a_UNSUBSCRIBE a_PING a_QUEUES a_BIND a_UNBIND a_FANOUT a_TOPICS)]))
      refine Go.by (X6.acmp (g := (mkF m 54 #[.val (.int p0), .val (.int p1), .val (.int (p1 &&& (3 : Int32))), .val (.int (p0 &&& (255 : Int32)))] [(own_req (p0 &&& (255 : Int32)) a_HELLO a_PUBLISH a_SUBSCRIBE a_CREDIT a_ACK a_REJECT a_UNSUBSCRIBE a_PING a_QUEUES a_BIND a_UNBIND a_FANOUT a_TOPICS), (own_req (p0 &&& (255 : Int32)) a_HELLO a_PUBLISH a_SUBSCRIBE a_CREDIT a_ACK a_REJECT a_UNSUBSCRIBE a_PING a_QUEUES a_BIND a_UNBIND a_FANOUT a_TOPICS)])) hx rfl (own_isref _ _ _ _ _ _ _ _ _ _ _ _ _ _) (own_isref _ _ _ _ _ _ _ _ _ _ _ _ _ _) (pc0 := 54) (pc' := 57) (same := true) rfl (hb hby at_54) rfl (decide_eq_true rfl) (by decide) (by decide)) ?_
      show Go p.tables e below _ (T6.setTop (mkF m 57 #[.val (.int p0), .val (.int p1), .val (.int (p1 &&& (3 : Int32))), .val (.int (p0 &&& (255 : Int32)))] []))
      refine Go.by (fun _ => XS.iconst X6.here hx rfl (hb hby at_57)) ?_
      show Go p.tables e below _ (T6.setTop (mkF m 58 #[.val (.int p0), .val (.int p1), .val (.int (p1 &&& (3 : Int32))), .val (.int (p0 &&& (255 : Int32)))] [(.int (1 : Int32))]))
      refine Go.by (fun _ => XS.goto X6.here hx rfl (pc0 := 58) (pc' := 62) rfl (hb hby at_58) (by decide) (by decide)) ?_
      show Go p.tables e below _ (T6.setTop (mkF m 62 #[.val (.int p0), .val (.int p1), .val (.int (p1 &&& (3 : Int32))), .val (.int (p0 &&& (255 : Int32)))] [(.int (1 : Int32))]))
      exact Go.retN X6 hx hlk (z' := (1 : Int32)) hret (by simp) (hb hby at_62) rfl (by decide) (by decide) rfl
    · skip
      refine Go.by (fun _ => XS.icmpYes X0.here hx rfl (pc0 := 15) (pc' := 27) rfl (hb hby at_15) rfl (feq hc15_4).2 (by decide) (by decide)) ?_
      show Go p.tables e below _ (T0.setTop (mkF m 27 #[.val (.int p0), .val (.int p1), .val (.int (p1 &&& (3 : Int32))), .unset] []))
      refine Go.by (fun _ => XS.iloadN X0.here hx rfl (hb hby at_27) rfl) ?_
      show Go p.tables e below _ (T0.setTop (mkF m 28 #[.val (.int p0), .val (.int p1), .val (.int (p1 &&& (3 : Int32))), .unset] [(.int (p1 &&& (3 : Int32)))]))
      refine Go.by (fun _ => XS.iconst X0.here hx rfl (hb hby at_28)) ?_
      show Go p.tables e below _ (T0.setTop (mkF m 29 #[.val (.int p0), .val (.int p1), .val (.int (p1 &&& (3 : Int32))), .unset] [(.int (2 : Int32)), (.int (p1 &&& (3 : Int32)))]))
      by_cases hc29_7 : (p1 &&& (3 : Int32)) = (2 : Int32)
      · skip
        refine Go.by (fun _ => XS.icmpNo X0.here hx rfl (hb hby at_29) rfl (teq hc29_7).2) ?_
        show Go p.tables e below _ (T0.setTop (mkF m 32 #[.val (.int p0), .val (.int p1), .val (.int (p1 &&& (3 : Int32))), .unset] []))
        refine Go.by (fun _ => XS.iloadN X0.here hx rfl (hb hby at_32) rfl) ?_
        show Go p.tables e below _ (T0.setTop (mkF m 33 #[.val (.int p0), .val (.int p1), .val (.int (p1 &&& (3 : Int32))), .unset] [(.int p0)]))
        refine Go.by (fun _ => XS.bipush X0.here hx rfl (hb hby at_33)) ?_
        show Go p.tables e below _ (T0.setTop (mkF m 35 #[.val (.int p0), .val (.int p1), .val (.int (p1 &&& (3 : Int32))), .unset] [(.int (15 : Int32)), (.int p0)]))
        refine Go.by (fun _ => XS.iand X0.here hx rfl (hb hby at_35) rfl) ?_
        show Go p.tables e below _ (T0.setTop (mkF m 36 #[.val (.int p0), .val (.int p1), .val (.int (p1 &&& (3 : Int32))), .unset] [(.int (p0 &&& (15 : Int32)))]))
        refine Go.by (fun _ => XS.istoreN X0.here hx rfl (hb hby at_36) rfl (l' := #[.val (.int p0), .val (.int p1), .val (.int (p1 &&& (3 : Int32))), .val (.int (p0 &&& (15 : Int32)))]) rfl) ?_
        show Go p.tables e below _ (T0.setTop (mkF m 37 #[.val (.int p0), .val (.int p1), .val (.int (p1 &&& (3 : Int32))), .val (.int (p0 &&& (15 : Int32)))] []))
        refine Go.by (fun _ => XS.goto X0.here hx rfl (pc0 := 37) (pc' := 46) rfl (hb hby at_37) (by decide) (by decide)) ?_
        show Go p.tables e below _ (T0.setTop (mkF m 46 #[.val (.int p0), .val (.int p1), .val (.int (p1 &&& (3 : Int32))), .val (.int (p0 &&& (15 : Int32)))] []))
        refine Go.by (fun _ => XS.iloadN X0.here hx rfl (hb hby at_46) rfl) ?_
        show Go p.tables e below _ (T0.setTop (mkF m 47 #[.val (.int p0), .val (.int p1), .val (.int (p1 &&& (3 : Int32))), .val (.int (p0 &&& (15 : Int32)))] [(.int (p0 &&& (15 : Int32)))]))
        obtain ⟨v8, T8, h8, X8, q8, st8⟩ := X0.callS hx hZ (y := (⟨"com/example/shrike/shrike/protocol/FrameType", "request", "(I)Lcom/example/shrike/shrike/protocol/FrameType;"⟩ : MethodName)) hown (tw hw 0 rfl) (tw hw 1 rfl) (tw hw 2 rfl) (tw hw 3 rfl) (by decide) (rm1 l Z a0 hw [] (p0 &&& (15 : Int32)) a_HELLO a_PUBLISH a_SUBSCRIBE a_CREDIT a_ACK a_REJECT a_UNSUBSCRIBE a_PING a_QUEUES a_BIND a_UNBIND a_FANOUT a_TOPICS a_OK a_ERR a_DELIVER a_PONG a_TYPES kT h0 n0 Z0 S_HELLO E_HELLO S_PUBLISH E_PUBLISH S_SUBSCRIBE E_SUBSCRIBE S_CREDIT E_CREDIT S_ACK E_ACK S_REJECT E_REJECT S_UNSUBSCRIBE E_UNSUBSCRIBE S_PING E_PING S_QUEUES E_QUEUES S_BIND E_BIND S_UNBIND E_UNBIND S_FANOUT E_FANOUT S_TOPICS E_TOPICS S_OK E_OK S_ERR E_ERR S_DELIVER E_DELIVER S_PONG E_PONG F_HELLO_code F_PUBLISH_code F_SUBSCRIBE_code F_CREDIT_code F_ACK_code F_REJECT_code F_UNSUBSCRIBE_code F_PING_code F_QUEUES_code F_BIND_code F_UNBIND_code F_FANOUT_code F_TOPICS_code F_OK_code F_ERR_code F_DELIVER_code F_PONG_code S_TYPES V_TYPES) (g := (mkF m 47 #[.val (.int p0), .val (.int p1), .val (.int (p1 &&& (3 : Int32))), .val (.int (p0 &&& (15 : Int32)))] [(.int (p0 &&& (15 : Int32)))])) rfl (by rw [hml]; rfl) (argsL := [(.int (p0 &&& (15 : Int32)))]) (rest := []) (lenOf pd0 rfl) rfl (hb hby at_47) rfl (by decide) (Nat.le_of_ble_eq_true rfl) (k' := 0) (n' := 0) rfl rfl (by decide) (by decide)
        refine Go.by st8 ?_
        obtain ⟨rfl, rfl⟩ := q8
        show Go p.tables e below _ (T8.setTop (mkF m 50 #[.val (.int p0), .val (.int p1), .val (.int (p1 &&& (3 : Int32))), .val (.int (p0 &&& (15 : Int32)))] [(own_req (p0 &&& (15 : Int32)) a_HELLO a_PUBLISH a_SUBSCRIBE a_CREDIT a_ACK a_REJECT a_UNSUBSCRIBE a_PING a_QUEUES a_BIND a_UNBIND a_FANOUT a_TOPICS)]))
        refine Go.by (fun _ => XS.iloadN X8.here hx rfl (hb hby at_50) rfl) ?_
        show Go p.tables e below _ (T8.setTop (mkF m 51 #[.val (.int p0), .val (.int p1), .val (.int (p1 &&& (3 : Int32))), .val (.int (p0 &&& (15 : Int32)))] [(.int (p0 &&& (15 : Int32))), (own_req (p0 &&& (15 : Int32)) a_HELLO a_PUBLISH a_SUBSCRIBE a_CREDIT a_ACK a_REJECT a_UNSUBSCRIBE a_PING a_QUEUES a_BIND a_UNBIND a_FANOUT a_TOPICS)]))
        obtain ⟨v9, T9, h9, X9, q9, st9⟩ := X8.callS hx hZ (y := (⟨"com/example/shrike/shrike/protocol/FrameTypeRequestPinLaw", "expected", "(I)Lcom/example/shrike/shrike/protocol/FrameType;"⟩ : MethodName)) hown (tw hw 25 rfl) (tw hw 26 rfl) (tw hw 27 rfl) (tw hw 28 rfl) (by decide) (rm2 l Z a0 hw [] (p0 &&& (15 : Int32)) a_HELLO a_PUBLISH a_SUBSCRIBE a_CREDIT a_ACK a_REJECT a_UNSUBSCRIBE a_PING a_QUEUES a_BIND a_UNBIND a_FANOUT a_TOPICS a_OK a_ERR a_DELIVER a_PONG a_TYPES kT h0 n0 Z0 S_HELLO E_HELLO S_PUBLISH E_PUBLISH S_SUBSCRIBE E_SUBSCRIBE S_CREDIT E_CREDIT S_ACK E_ACK S_REJECT E_REJECT S_UNSUBSCRIBE E_UNSUBSCRIBE S_PING E_PING S_QUEUES E_QUEUES S_BIND E_BIND S_UNBIND E_UNBIND S_FANOUT E_FANOUT S_TOPICS E_TOPICS S_OK E_OK S_ERR E_ERR S_DELIVER E_DELIVER S_PONG E_PONG F_HELLO_code F_PUBLISH_code F_SUBSCRIBE_code F_CREDIT_code F_ACK_code F_REJECT_code F_UNSUBSCRIBE_code F_PING_code F_QUEUES_code F_BIND_code F_UNBIND_code F_FANOUT_code F_TOPICS_code F_OK_code F_ERR_code F_DELIVER_code F_PONG_code S_TYPES V_TYPES) (g := (mkF m 51 #[.val (.int p0), .val (.int p1), .val (.int (p1 &&& (3 : Int32))), .val (.int (p0 &&& (15 : Int32)))] [(.int (p0 &&& (15 : Int32))), (own_req (p0 &&& (15 : Int32)) a_HELLO a_PUBLISH a_SUBSCRIBE a_CREDIT a_ACK a_REJECT a_UNSUBSCRIBE a_PING a_QUEUES a_BIND a_UNBIND a_FANOUT a_TOPICS)])) rfl (by rw [hml]; rfl) (argsL := [(.int (p0 &&& (15 : Int32)))]) (rest := [(own_req (p0 &&& (15 : Int32)) a_HELLO a_PUBLISH a_SUBSCRIBE a_CREDIT a_ACK a_REJECT a_UNSUBSCRIBE a_PING a_QUEUES a_BIND a_UNBIND a_FANOUT a_TOPICS)]) (lenOf pd0 rfl) rfl (hb hby at_51) rfl (by decide) (by simp only [List.map_cons, List.map_nil, List.sum_cons, List.sum_nil, catV (own_isref _ _ _ _ _ _ _ _ _ _ _ _ _ _)]; exact Nat.le_of_ble_eq_true rfl) (k' := 0) (n' := 0) rfl rfl (by decide) (by decide)
        refine Go.by st9 ?_
        obtain ⟨rfl, rfl⟩ := q9
        show Go p.tables e below _ (T9.setTop (mkF m 54 #[.val (.int p0), .val (.int p1), .val (.int (p1 &&& (3 : Int32))), .val (.int (p0 &&& (15 : Int32)))] [(own_req (p0 &&& (15 : Int32)) a_HELLO a_PUBLISH a_SUBSCRIBE a_CREDIT a_ACK a_REJECT a_UNSUBSCRIBE a_PING a_QUEUES a_BIND a_UNBIND a_FANOUT a_TOPICS), (own_req (p0 &&& (15 : Int32)) a_HELLO a_PUBLISH a_SUBSCRIBE a_CREDIT a_ACK a_REJECT a_UNSUBSCRIBE a_PING a_QUEUES a_BIND a_UNBIND a_FANOUT a_TOPICS)]))
        refine Go.by (X9.acmp (g := (mkF m 54 #[.val (.int p0), .val (.int p1), .val (.int (p1 &&& (3 : Int32))), .val (.int (p0 &&& (15 : Int32)))] [(own_req (p0 &&& (15 : Int32)) a_HELLO a_PUBLISH a_SUBSCRIBE a_CREDIT a_ACK a_REJECT a_UNSUBSCRIBE a_PING a_QUEUES a_BIND a_UNBIND a_FANOUT a_TOPICS), (own_req (p0 &&& (15 : Int32)) a_HELLO a_PUBLISH a_SUBSCRIBE a_CREDIT a_ACK a_REJECT a_UNSUBSCRIBE a_PING a_QUEUES a_BIND a_UNBIND a_FANOUT a_TOPICS)])) hx rfl (own_isref _ _ _ _ _ _ _ _ _ _ _ _ _ _) (own_isref _ _ _ _ _ _ _ _ _ _ _ _ _ _) (pc0 := 54) (pc' := 57) (same := true) rfl (hb hby at_54) rfl (decide_eq_true rfl) (by decide) (by decide)) ?_
        show Go p.tables e below _ (T9.setTop (mkF m 57 #[.val (.int p0), .val (.int p1), .val (.int (p1 &&& (3 : Int32))), .val (.int (p0 &&& (15 : Int32)))] []))
        refine Go.by (fun _ => XS.iconst X9.here hx rfl (hb hby at_57)) ?_
        show Go p.tables e below _ (T9.setTop (mkF m 58 #[.val (.int p0), .val (.int p1), .val (.int (p1 &&& (3 : Int32))), .val (.int (p0 &&& (15 : Int32)))] [(.int (1 : Int32))]))
        refine Go.by (fun _ => XS.goto X9.here hx rfl (pc0 := 58) (pc' := 62) rfl (hb hby at_58) (by decide) (by decide)) ?_
        show Go p.tables e below _ (T9.setTop (mkF m 62 #[.val (.int p0), .val (.int p1), .val (.int (p1 &&& (3 : Int32))), .val (.int (p0 &&& (15 : Int32)))] [(.int (1 : Int32))]))
        exact Go.retN X9 hx hlk (z' := (1 : Int32)) hret (by simp) (hb hby at_62) rfl (by decide) (by decide) rfl
      · skip
        refine Go.by (fun _ => XS.icmpYes X0.here hx rfl (pc0 := 29) (pc' := 40) rfl (hb hby at_29) rfl (feq hc29_7).2 (by decide) (by decide)) ?_
        show Go p.tables e below _ (T0.setTop (mkF m 40 #[.val (.int p0), .val (.int p1), .val (.int (p1 &&& (3 : Int32))), .unset] []))
        refine Go.by (fun _ => XS.iloadN X0.here hx rfl (hb hby at_40) rfl) ?_
        show Go p.tables e below _ (T0.setTop (mkF m 41 #[.val (.int p0), .val (.int p1), .val (.int (p1 &&& (3 : Int32))), .unset] [(.int p0)]))
        refine Go.by (fun _ => XS.sipush X0.here hx rfl (hb hby at_41)) ?_
        show Go p.tables e below _ (T0.setTop (mkF m 44 #[.val (.int p0), .val (.int p1), .val (.int (p1 &&& (3 : Int32))), .unset] [(.int (143 : Int32)), (.int p0)]))
        refine Go.by (fun _ => XS.iand X0.here hx rfl (hb hby at_44) rfl) ?_
        show Go p.tables e below _ (T0.setTop (mkF m 45 #[.val (.int p0), .val (.int p1), .val (.int (p1 &&& (3 : Int32))), .unset] [(.int (p0 &&& (143 : Int32)))]))
        refine Go.by (fun _ => XS.istoreN X0.here hx rfl (hb hby at_45) rfl (l' := #[.val (.int p0), .val (.int p1), .val (.int (p1 &&& (3 : Int32))), .val (.int (p0 &&& (143 : Int32)))]) rfl) ?_
        show Go p.tables e below _ (T0.setTop (mkF m 46 #[.val (.int p0), .val (.int p1), .val (.int (p1 &&& (3 : Int32))), .val (.int (p0 &&& (143 : Int32)))] []))
        refine Go.by (fun _ => XS.iloadN X0.here hx rfl (hb hby at_46) rfl) ?_
        show Go p.tables e below _ (T0.setTop (mkF m 47 #[.val (.int p0), .val (.int p1), .val (.int (p1 &&& (3 : Int32))), .val (.int (p0 &&& (143 : Int32)))] [(.int (p0 &&& (143 : Int32)))]))
        obtain ⟨v10, T10, h10, X10, q10, st10⟩ := X0.callS hx hZ (y := (⟨"com/example/shrike/shrike/protocol/FrameType", "request", "(I)Lcom/example/shrike/shrike/protocol/FrameType;"⟩ : MethodName)) hown (tw hw 0 rfl) (tw hw 1 rfl) (tw hw 2 rfl) (tw hw 3 rfl) (by decide) (rm1 l Z a0 hw [] (p0 &&& (143 : Int32)) a_HELLO a_PUBLISH a_SUBSCRIBE a_CREDIT a_ACK a_REJECT a_UNSUBSCRIBE a_PING a_QUEUES a_BIND a_UNBIND a_FANOUT a_TOPICS a_OK a_ERR a_DELIVER a_PONG a_TYPES kT h0 n0 Z0 S_HELLO E_HELLO S_PUBLISH E_PUBLISH S_SUBSCRIBE E_SUBSCRIBE S_CREDIT E_CREDIT S_ACK E_ACK S_REJECT E_REJECT S_UNSUBSCRIBE E_UNSUBSCRIBE S_PING E_PING S_QUEUES E_QUEUES S_BIND E_BIND S_UNBIND E_UNBIND S_FANOUT E_FANOUT S_TOPICS E_TOPICS S_OK E_OK S_ERR E_ERR S_DELIVER E_DELIVER S_PONG E_PONG F_HELLO_code F_PUBLISH_code F_SUBSCRIBE_code F_CREDIT_code F_ACK_code F_REJECT_code F_UNSUBSCRIBE_code F_PING_code F_QUEUES_code F_BIND_code F_UNBIND_code F_FANOUT_code F_TOPICS_code F_OK_code F_ERR_code F_DELIVER_code F_PONG_code S_TYPES V_TYPES) (g := (mkF m 47 #[.val (.int p0), .val (.int p1), .val (.int (p1 &&& (3 : Int32))), .val (.int (p0 &&& (143 : Int32)))] [(.int (p0 &&& (143 : Int32)))])) rfl (by rw [hml]; rfl) (argsL := [(.int (p0 &&& (143 : Int32)))]) (rest := []) (lenOf pd0 rfl) rfl (hb hby at_47) rfl (by decide) (Nat.le_of_ble_eq_true rfl) (k' := 0) (n' := 0) rfl rfl (by decide) (by decide)
        refine Go.by st10 ?_
        obtain ⟨rfl, rfl⟩ := q10
        show Go p.tables e below _ (T10.setTop (mkF m 50 #[.val (.int p0), .val (.int p1), .val (.int (p1 &&& (3 : Int32))), .val (.int (p0 &&& (143 : Int32)))] [(own_req (p0 &&& (143 : Int32)) a_HELLO a_PUBLISH a_SUBSCRIBE a_CREDIT a_ACK a_REJECT a_UNSUBSCRIBE a_PING a_QUEUES a_BIND a_UNBIND a_FANOUT a_TOPICS)]))
        refine Go.by (fun _ => XS.iloadN X10.here hx rfl (hb hby at_50) rfl) ?_
        show Go p.tables e below _ (T10.setTop (mkF m 51 #[.val (.int p0), .val (.int p1), .val (.int (p1 &&& (3 : Int32))), .val (.int (p0 &&& (143 : Int32)))] [(.int (p0 &&& (143 : Int32))), (own_req (p0 &&& (143 : Int32)) a_HELLO a_PUBLISH a_SUBSCRIBE a_CREDIT a_ACK a_REJECT a_UNSUBSCRIBE a_PING a_QUEUES a_BIND a_UNBIND a_FANOUT a_TOPICS)]))
        obtain ⟨v11, T11, h11, X11, q11, st11⟩ := X10.callS hx hZ (y := (⟨"com/example/shrike/shrike/protocol/FrameTypeRequestPinLaw", "expected", "(I)Lcom/example/shrike/shrike/protocol/FrameType;"⟩ : MethodName)) hown (tw hw 25 rfl) (tw hw 26 rfl) (tw hw 27 rfl) (tw hw 28 rfl) (by decide) (rm2 l Z a0 hw [] (p0 &&& (143 : Int32)) a_HELLO a_PUBLISH a_SUBSCRIBE a_CREDIT a_ACK a_REJECT a_UNSUBSCRIBE a_PING a_QUEUES a_BIND a_UNBIND a_FANOUT a_TOPICS a_OK a_ERR a_DELIVER a_PONG a_TYPES kT h0 n0 Z0 S_HELLO E_HELLO S_PUBLISH E_PUBLISH S_SUBSCRIBE E_SUBSCRIBE S_CREDIT E_CREDIT S_ACK E_ACK S_REJECT E_REJECT S_UNSUBSCRIBE E_UNSUBSCRIBE S_PING E_PING S_QUEUES E_QUEUES S_BIND E_BIND S_UNBIND E_UNBIND S_FANOUT E_FANOUT S_TOPICS E_TOPICS S_OK E_OK S_ERR E_ERR S_DELIVER E_DELIVER S_PONG E_PONG F_HELLO_code F_PUBLISH_code F_SUBSCRIBE_code F_CREDIT_code F_ACK_code F_REJECT_code F_UNSUBSCRIBE_code F_PING_code F_QUEUES_code F_BIND_code F_UNBIND_code F_FANOUT_code F_TOPICS_code F_OK_code F_ERR_code F_DELIVER_code F_PONG_code S_TYPES V_TYPES) (g := (mkF m 51 #[.val (.int p0), .val (.int p1), .val (.int (p1 &&& (3 : Int32))), .val (.int (p0 &&& (143 : Int32)))] [(.int (p0 &&& (143 : Int32))), (own_req (p0 &&& (143 : Int32)) a_HELLO a_PUBLISH a_SUBSCRIBE a_CREDIT a_ACK a_REJECT a_UNSUBSCRIBE a_PING a_QUEUES a_BIND a_UNBIND a_FANOUT a_TOPICS)])) rfl (by rw [hml]; rfl) (argsL := [(.int (p0 &&& (143 : Int32)))]) (rest := [(own_req (p0 &&& (143 : Int32)) a_HELLO a_PUBLISH a_SUBSCRIBE a_CREDIT a_ACK a_REJECT a_UNSUBSCRIBE a_PING a_QUEUES a_BIND a_UNBIND a_FANOUT a_TOPICS)]) (lenOf pd0 rfl) rfl (hb hby at_51) rfl (by decide) (by simp only [List.map_cons, List.map_nil, List.sum_cons, List.sum_nil, catV (own_isref _ _ _ _ _ _ _ _ _ _ _ _ _ _)]; exact Nat.le_of_ble_eq_true rfl) (k' := 0) (n' := 0) rfl rfl (by decide) (by decide)
        refine Go.by st11 ?_
        obtain ⟨rfl, rfl⟩ := q11
        show Go p.tables e below _ (T11.setTop (mkF m 54 #[.val (.int p0), .val (.int p1), .val (.int (p1 &&& (3 : Int32))), .val (.int (p0 &&& (143 : Int32)))] [(own_req (p0 &&& (143 : Int32)) a_HELLO a_PUBLISH a_SUBSCRIBE a_CREDIT a_ACK a_REJECT a_UNSUBSCRIBE a_PING a_QUEUES a_BIND a_UNBIND a_FANOUT a_TOPICS), (own_req (p0 &&& (143 : Int32)) a_HELLO a_PUBLISH a_SUBSCRIBE a_CREDIT a_ACK a_REJECT a_UNSUBSCRIBE a_PING a_QUEUES a_BIND a_UNBIND a_FANOUT a_TOPICS)]))
        refine Go.by (X11.acmp (g := (mkF m 54 #[.val (.int p0), .val (.int p1), .val (.int (p1 &&& (3 : Int32))), .val (.int (p0 &&& (143 : Int32)))] [(own_req (p0 &&& (143 : Int32)) a_HELLO a_PUBLISH a_SUBSCRIBE a_CREDIT a_ACK a_REJECT a_UNSUBSCRIBE a_PING a_QUEUES a_BIND a_UNBIND a_FANOUT a_TOPICS), (own_req (p0 &&& (143 : Int32)) a_HELLO a_PUBLISH a_SUBSCRIBE a_CREDIT a_ACK a_REJECT a_UNSUBSCRIBE a_PING a_QUEUES a_BIND a_UNBIND a_FANOUT a_TOPICS)])) hx rfl (own_isref _ _ _ _ _ _ _ _ _ _ _ _ _ _) (own_isref _ _ _ _ _ _ _ _ _ _ _ _ _ _) (pc0 := 54) (pc' := 57) (same := true) rfl (hb hby at_54) rfl (decide_eq_true rfl) (by decide) (by decide)) ?_
        show Go p.tables e below _ (T11.setTop (mkF m 57 #[.val (.int p0), .val (.int p1), .val (.int (p1 &&& (3 : Int32))), .val (.int (p0 &&& (143 : Int32)))] []))
        refine Go.by (fun _ => XS.iconst X11.here hx rfl (hb hby at_57)) ?_
        show Go p.tables e below _ (T11.setTop (mkF m 58 #[.val (.int p0), .val (.int p1), .val (.int (p1 &&& (3 : Int32))), .val (.int (p0 &&& (143 : Int32)))] [(.int (1 : Int32))]))
        refine Go.by (fun _ => XS.goto X11.here hx rfl (pc0 := 58) (pc' := 62) rfl (hb hby at_58) (by decide) (by decide)) ?_
        show Go p.tables e below _ (T11.setTop (mkF m 62 #[.val (.int p0), .val (.int p1), .val (.int (p1 &&& (3 : Int32))), .val (.int (p0 &&& (143 : Int32)))] [(.int (1 : Int32))]))
        exact Go.retN X11 hx hlk (z' := (1 : Int32)) hret (by simp) (hb hby at_62) rfl (by decide) (by decide) rfl
set_option maxRecDepth 65536 in
set_option maxHeartbeats 40000000 in
theorem comes_1 {Post : Tables → Env → Array Value → State → Outcome → State → Prop} (hpost : ∀ tb e args s v u, (limb_1_1.after args s (.returned v) u = true ∧ limb_1_2.after args s (.returned v) u = true ∧ True) → FrameEnd s (.returned v) u (Jvm.fieldLocs frame_1_writes args s ++ Jvm.arrayLocs frame_1_arrays args s ++ Jvm.staticLocs frame_1_statics s) 0 0 → Post tb e args s (.returned v) u) :
    ArmFor flags0 classFile x code maxLocals ret World_1 tables_1 room_1 Calls_1 rest_1 Pre_1 Post := by
  intro l hfl _ _ p e ha hc hk s m args below hf hA hF happ hP
  obtain ⟨hcalls, hrest, hpre⟩ := hP
  obtain ⟨-, -, -, hnamed, -, -, -, hat⟩ := (Spec.applies_iff hf).mp happ
  obtain ⟨hg, hn⟩ := and_e (Cond.before_iff.mp (show (Jvm.Cond.and given_1 narrow_1).before args s = true from hpre))
  obtain ⟨gc, gr0⟩ := and_e hg
  obtain ⟨ga0, ga1⟩ := and_e gr0
  obtain ⟨w0, w1, rfl⟩ : ∃ w0 w1 : Value, args = #[w0, w1] := by
    have hs : args.size = 2 := by simpa [Cond.value, given_1] using gc
    obtain ⟨L⟩ := args
    match L, hs with
    | [w0, w1], _ => exact ⟨w0, w1, rfl⟩
  have hw := fun d (hd : d ∈ tables_1) => atoms_spec (ws := Jvm.Cond.code x code maxLocals ret :: tables_1) hat d (List.mem_cons_of_mem _ hd)
  have hfit : Fit s := fun {y c} hc i hi => by
    obtain ⟨ha, rfl⟩ := Array.getElem?_eq_some_iff.mp hc
    have q := List.all_eq_true.mp ((Array.all_eq_true_iff_forall_mem.mp hF) _ (Array.getElem_mem ha)) i (List.mem_range.mpr hi)
    simpa [Array.getElem?_eq_getElem hi] using q
  obtain ⟨i0, ei0⟩ := is_v ga0
  obtain rfl : w0 = (.int i0) := Option.some.inj ei0
  obtain ⟨i1, ei1⟩ := is_v ga1
  obtain rfl : w1 = (.int i1) := Option.some.inj ei1
  obtain ⟨nw0, nwr0⟩ := and_e hn
  obtain ⟨nw1, nwr1⟩ := and_e nwr0
  obtain ⟨nw2, nwr2⟩ := and_e nwr1
  obtain ⟨nw3, nwr3⟩ := and_e nwr2
  obtain ⟨nw4, nwr4⟩ := and_e nwr3
  obtain ⟨nw5, nwr5⟩ := and_e nwr4
  obtain ⟨nw6, nwr6⟩ := and_e nwr5
  obtain ⟨nw7, nwr7⟩ := and_e nwr6
  obtain ⟨nw8, nwr8⟩ := and_e nwr7
  obtain ⟨nw9, nwr9⟩ := and_e nwr8
  obtain ⟨nw10, nwr10⟩ := and_e nwr9
  obtain ⟨nw11, nwr11⟩ := and_e nwr10
  obtain ⟨nw12, nwr12⟩ := and_e nwr11
  obtain ⟨nw13, nwr13⟩ := and_e nwr12
  obtain ⟨nw14, nwr14⟩ := and_e nwr13
  obtain ⟨nw15, nwr15⟩ := and_e nwr14
  obtain ⟨nw16, nwr16⟩ := and_e nwr15
  obtain ⟨nw17, nwr17⟩ := and_e nwr16
  obtain ⟨nw18, nwr18⟩ := and_e nwr17
  obtain ⟨nw19, nwr19⟩ := and_e nwr18
  obtain ⟨nw20, nwr20⟩ := and_e nwr19
  obtain ⟨nw21, nwr21⟩ := and_e nwr20
  obtain ⟨nw22, nwr22⟩ := and_e nwr21
  obtain ⟨nw23, nwr23⟩ := and_e nwr22
  obtain ⟨nw24, nwr24⟩ := and_e nwr23
  obtain ⟨nw25, nwr25⟩ := and_e nwr24
  obtain ⟨nw26, nwr26⟩ := and_e nwr25
  obtain ⟨nw27, nwr27⟩ := and_e nwr26
  obtain ⟨nw28, nwr28⟩ := and_e nwr27
  obtain ⟨nw29, nwr29⟩ := and_e nwr28
  obtain ⟨nw30, nwr30⟩ := and_e nwr29
  obtain ⟨nw31, nwr31⟩ := and_e nwr30
  obtain ⟨nw32, nwr32⟩ := and_e nwr31
  obtain ⟨nw33, nwr33⟩ := and_e nwr32
  obtain ⟨nw34, nwr34⟩ := and_e nwr33
  obtain ⟨nw35, nwr35⟩ := and_e nwr34
  obtain ⟨nw36, nwr36⟩ := and_e nwr35
  obtain ⟨nw37, nwr37⟩ := and_e nwr36
  obtain ⟨nw38, nwr38⟩ := and_e nwr37
  obtain ⟨nw39, nwr39⟩ := and_e nwr38
  obtain ⟨nw40, nwr40⟩ := and_e nwr39
  obtain ⟨nw41, nwr41⟩ := and_e nwr40
  obtain ⟨nw42, nwr42⟩ := and_e nwr41
  obtain ⟨nw43, nwr43⟩ := and_e nwr42
  obtain ⟨nw44, nwr44⟩ := and_e nwr43
  obtain ⟨nw45, nwr45⟩ := and_e nwr44
  obtain ⟨nw46, nwr46⟩ := and_e nwr45
  obtain ⟨nw47, nwr47⟩ := and_e nwr46
  obtain ⟨nw48, nwr48⟩ := and_e nwr47
  obtain ⟨nw49, nwr49⟩ := and_e nwr48
  obtain ⟨nw50, nwr50⟩ := and_e nwr49
  obtain ⟨nw51, nw52⟩ := and_e nwr50
  obtain ⟨a_HELLO, ev_HELLO, S_HELLO, E_HELLO⟩ := sta_exa nw2 (tw hw 2 rfl) (tw hw 6 rfl)
  obtain ⟨a_PUBLISH, ev_PUBLISH, S_PUBLISH, E_PUBLISH⟩ := sta_exa nw5 (tw hw 2 rfl) (tw hw 9 rfl)
  obtain ⟨a_SUBSCRIBE, ev_SUBSCRIBE, S_SUBSCRIBE, E_SUBSCRIBE⟩ := sta_exa nw8 (tw hw 2 rfl) (tw hw 10 rfl)
  obtain ⟨a_CREDIT, ev_CREDIT, S_CREDIT, E_CREDIT⟩ := sta_exa nw11 (tw hw 2 rfl) (tw hw 11 rfl)
  obtain ⟨a_ACK, ev_ACK, S_ACK, E_ACK⟩ := sta_exa nw14 (tw hw 2 rfl) (tw hw 12 rfl)
  obtain ⟨a_REJECT, ev_REJECT, S_REJECT, E_REJECT⟩ := sta_exa nw17 (tw hw 2 rfl) (tw hw 13 rfl)
  obtain ⟨a_UNSUBSCRIBE, ev_UNSUBSCRIBE, S_UNSUBSCRIBE, E_UNSUBSCRIBE⟩ := sta_exa nw20 (tw hw 2 rfl) (tw hw 14 rfl)
  obtain ⟨a_PING, ev_PING, S_PING, E_PING⟩ := sta_exa nw23 (tw hw 2 rfl) (tw hw 15 rfl)
  obtain ⟨a_QUEUES, ev_QUEUES, S_QUEUES, E_QUEUES⟩ := sta_exa nw26 (tw hw 2 rfl) (tw hw 16 rfl)
  obtain ⟨a_BIND, ev_BIND, S_BIND, E_BIND⟩ := sta_exa nw29 (tw hw 2 rfl) (tw hw 17 rfl)
  obtain ⟨a_UNBIND, ev_UNBIND, S_UNBIND, E_UNBIND⟩ := sta_exa nw32 (tw hw 2 rfl) (tw hw 18 rfl)
  obtain ⟨a_FANOUT, ev_FANOUT, S_FANOUT, E_FANOUT⟩ := sta_exa nw35 (tw hw 2 rfl) (tw hw 19 rfl)
  obtain ⟨a_TOPICS, ev_TOPICS, S_TOPICS, E_TOPICS⟩ := sta_exa nw38 (tw hw 2 rfl) (tw hw 20 rfl)
  obtain ⟨a_OK, ev_OK, S_OK, E_OK⟩ := sta_exa nw41 (tw hw 2 rfl) (tw hw 21 rfl)
  obtain ⟨a_ERR, ev_ERR, S_ERR, E_ERR⟩ := sta_exa nw44 (tw hw 2 rfl) (tw hw 22 rfl)
  obtain ⟨a_DELIVER, ev_DELIVER, S_DELIVER, E_DELIVER⟩ := sta_exa nw47 (tw hw 2 rfl) (tw hw 23 rfl)
  obtain ⟨a_PONG, ev_PONG, S_PONG, E_PONG⟩ := sta_exa nw50 (tw hw 2 rfl) (tw hw 24 rfl)
  have F_HELLO_code := fld_eq ev_HELLO nw4
  have F_PUBLISH_code := fld_eq ev_PUBLISH nw7
  have F_SUBSCRIBE_code := fld_eq ev_SUBSCRIBE nw10
  have F_CREDIT_code := fld_eq ev_CREDIT nw13
  have F_ACK_code := fld_eq ev_ACK nw16
  have F_REJECT_code := fld_eq ev_REJECT nw19
  have F_UNSUBSCRIBE_code := fld_eq ev_UNSUBSCRIBE nw22
  have F_PING_code := fld_eq ev_PING nw25
  have F_QUEUES_code := fld_eq ev_QUEUES nw28
  have F_BIND_code := fld_eq ev_BIND nw31
  have F_UNBIND_code := fld_eq ev_UNBIND nw34
  have F_FANOUT_code := fld_eq ev_FANOUT nw37
  have F_TOPICS_code := fld_eq ev_TOPICS nw40
  have F_OK_code := fld_eq ev_OK nw43
  have F_ERR_code := fld_eq ev_ERR nw46
  have F_DELIVER_code := fld_eq ev_DELIVER nw49
  have F_PONG_code := fld_eq ev_PONG nw52
  obtain ⟨a_TYPES, cT, evT, S_TYPES, ArT⟩ := sta_arr nw0 (tw hw 2 rfl) (tw hw 5 rfl)
  have lenT : cT.slots.size = 17 := avf_len ArT evT (int_of_eq nw1) rfl
  have V_TYPES : Avf s s.heap a_TYPES cT.cls (.object "com/example/shrike/shrike/protocol/FrameType") 17 (fun i => ([Value.ref a_HELLO, Value.ref a_PUBLISH, Value.ref a_SUBSCRIBE, Value.ref a_CREDIT, Value.ref a_ACK, Value.ref a_REJECT, Value.ref a_UNSUBSCRIBE, Value.ref a_PING, Value.ref a_QUEUES, Value.ref a_BIND, Value.ref a_UNBIND, Value.ref a_FANOUT, Value.ref a_TOPICS, Value.ref a_OK, Value.ref a_ERR, Value.ref a_DELIVER, Value.ref a_PONG] : List Value).getD i .null) := by
    refine ⟨cT, ArT, rfl, lenT, by decide, fun i hi => ?_⟩
    match i, hi with
    | 0, _ => exact ⟨(elem_in (ref_of_eq ev_HELLO nw3) evT (Term.int_eval 0) ArT.1).2, rfl⟩
    | 1, _ => exact ⟨(elem_in (ref_of_eq ev_PUBLISH nw6) evT (Term.int_eval 1) ArT.1).2, rfl⟩
    | 2, _ => exact ⟨(elem_in (ref_of_eq ev_SUBSCRIBE nw9) evT (Term.int_eval 2) ArT.1).2, rfl⟩
    | 3, _ => exact ⟨(elem_in (ref_of_eq ev_CREDIT nw12) evT (Term.int_eval 3) ArT.1).2, rfl⟩
    | 4, _ => exact ⟨(elem_in (ref_of_eq ev_ACK nw15) evT (Term.int_eval 4) ArT.1).2, rfl⟩
    | 5, _ => exact ⟨(elem_in (ref_of_eq ev_REJECT nw18) evT (Term.int_eval 5) ArT.1).2, rfl⟩
    | 6, _ => exact ⟨(elem_in (ref_of_eq ev_UNSUBSCRIBE nw21) evT (Term.int_eval 6) ArT.1).2, rfl⟩
    | 7, _ => exact ⟨(elem_in (ref_of_eq ev_PING nw24) evT (Term.int_eval 7) ArT.1).2, rfl⟩
    | 8, _ => exact ⟨(elem_in (ref_of_eq ev_QUEUES nw27) evT (Term.int_eval 8) ArT.1).2, rfl⟩
    | 9, _ => exact ⟨(elem_in (ref_of_eq ev_BIND nw30) evT (Term.int_eval 9) ArT.1).2, rfl⟩
    | 10, _ => exact ⟨(elem_in (ref_of_eq ev_UNBIND nw33) evT (Term.int_eval 10) ArT.1).2, rfl⟩
    | 11, _ => exact ⟨(elem_in (ref_of_eq ev_FANOUT nw36) evT (Term.int_eval 11) ArT.1).2, rfl⟩
    | 12, _ => exact ⟨(elem_in (ref_of_eq ev_TOPICS nw39) evT (Term.int_eval 12) ArT.1).2, rfl⟩
    | 13, _ => exact ⟨(elem_in (ref_of_eq ev_OK nw42) evT (Term.int_eval 13) ArT.1).2, rfl⟩
    | 14, _ => exact ⟨(elem_in (ref_of_eq ev_ERR nw45) evT (Term.int_eval 14) ArT.1).2, rfl⟩
    | 15, _ => exact ⟨(elem_in (ref_of_eq ev_DELIVER nw48) evT (Term.int_eval 15) ArT.1).2, rfl⟩
    | 16, _ => exact ⟨(elem_in (ref_of_eq ev_PONG nw51) evT (Term.int_eval 16) ArT.1).2, rfl⟩
    | n + 17, h => exact absurd h (by omega)
  obtain ⟨n, o, h1, h2, h3, _, L, rfl, ⟨rfl, N⟩, hq⟩ := rm0 l s _ hw tables_1 i0 i1 a_HELLO a_PUBLISH a_SUBSCRIBE a_CREDIT a_ACK a_REJECT a_UNSUBSCRIBE a_PING a_QUEUES a_BIND a_UNBIND a_FANOUT a_TOPICS a_OK a_ERR a_DELIVER a_PONG a_TYPES _ s.heap s.heap.size (Nat.le_refl _) S_HELLO E_HELLO S_PUBLISH E_PUBLISH S_SUBSCRIBE E_SUBSCRIBE S_CREDIT E_CREDIT S_ACK E_ACK S_REJECT E_REJECT S_UNSUBSCRIBE E_UNSUBSCRIBE S_PING E_PING S_QUEUES E_QUEUES S_BIND E_BIND S_UNBIND E_UNBIND S_FANOUT E_FANOUT S_TOPICS E_TOPICS S_OK E_OK S_ERR E_ERR S_DELIVER E_DELIVER S_PONG E_PONG F_HELLO_code F_PUBLISH_code F_SUBSCRIBE_code F_CREDIT_code F_ACK_code F_REJECT_code F_UNSUBSCRIBE_code F_PING_code F_QUEUES_code F_BIND_code F_UNBIND_code F_FANOUT_code F_TOPICS_code F_OK_code F_ERR_code F_DELIVER_code F_PONG_code S_TYPES V_TYPES p e ha hc hk s m _ below hf ((Spec.applies_iff_loose hf).mp happ).1 ⟨rfl, State.Warmed39.refl s, rfl⟩ trivial
  refine ⟨n, _, h1, h2, h3, hpost _ _ _ _ _ _ ⟨Cond.after_iff.mpr rfl, Cond.after_iff.mpr (eq_i res_at (Term.int_eval (1)) rfl), trivial⟩ ⟨hq.1, hq.2.1, (hq.2.2.sift fun y hy => Or.inr (N y hy)).mono (by decide) (by decide)⟩⟩
theorem main_1_1 : Claimed_1_1 := comes_1 fun _ _ _ _ _ _ h hF => ⟨h.1, hF⟩
theorem main_1_2 : Claimed_1_2 := comes_1 fun _ _ _ _ _ _ h hF => ⟨h.2.1, hF⟩
end Jvm.Pilot.@@N@@
namespace Jvm.Pilot.@@N@@
open Jvm Jvm.ClassFile Sem Op Lib Jvm.Free Jvm.Stand Jvm.Pilot.@@N@@.Jvm.D
/-! MADE BY PROGRAM (witnessworld.py) out of the Statement's table words and the real class files: 13 classes; the members and pool entries that the words name. The judged class is class 1, her method 2. -/
namespace start1
open Jvm.ClassFile
def u (s : String) : CpInfo := .utf8 (stringToUtf16 s)
/-- a pool by its gaps: so many unusable entries, then the entry; so many at the end -/
def gap : Nat → List CpInfo → List CpInfo
  | 0, r => r
  | n + 1, r => .unusable :: gap n r
def poolList (es : List (Nat × CpInfo)) (last : Nat) : List CpInfo := es.foldr (fun e r => gap e.1 (e.2 :: r)) (gap last [])
def pool (es : List (Nat × CpInfo)) (last : Nat) : Array CpInfo := ⟨poolList es last⟩
def fileOf (pool : Array CpInfo) (this : Nat) (attrs : Array Attribute := #[]) (ms : Array MethodInfo := #[]) (fl : Nat := 33) (sup : Nat := 0) (ifs : Array Nat := #[]) (fds : Array FieldInfo := #[]) : ClassFile where
  minorVersion := 0
  majorVersion := 65
  constantPool := pool
  accessFlags := fl
  thisClass := this
  superClass := sup
  interfaces := ifs
  fields := fds
  methods := ms
  attributes := attrs
def plain (name : String) (sup : Option ClassId) : Class where
  name := name
  kind := .ordinary
  loader := none
  accessFlags := 33
  super := sup
  interfaces := #[]
  cf := none
  fields := #[]
  methods := #[]
  instanceTypes := #[]
  staticTypes := #[]
  resolved := #[]
  callSites := []
  init := .initialized
  statics := none
  mirror := none

def pool0 : Array CpInfo := pool [(5, u "<init>"), (0, u "()V"), (1, .class_ 10), (1, u "java/lang/Object")] 113

def k0m0 : Method := { name := "<init>", desc := "()V", sig := { parameters := [], returnType := none }, accessFlags := 1, code := none }
/-- java/lang/Object -/
def k0 : Class := { plain "java/lang/Object" none with
  accessFlags := 33
  interfaces := #[]
  cf := some (fileOf pool0 8 #[] #[{ accessFlags := 1, nameIndex := 5, descriptorIndex := 6, attributes := #[] }] 33 0 #[] #[])
  fields := #[]
  methods := #[k0m0]
  instanceTypes := #[]
  staticTypes := #[]
  resolved := Array.replicate 124 none
  statics := none }

def pool1 : Array CpInfo := pool [(2, .class_ 4), (1, u "java/lang/Object"), (0, u "<init>"), (0, u "()V"), (0, .fieldref 8 9), (0, .class_ 10), (0, .nameAndType 11 12), (0, u "com/example/shrike/shrike/protocol/FrameType"), (0, u "HELLO"), (0, u "Lcom/example/shrike/shrike/protocol/FrameType;"), (0, .fieldref 8 14), (0, .nameAndType 15 12), (0, u "PUBLISH"), (0, .fieldref 8 17), (0, .nameAndType 18 12), (0, u "SUBSCRIBE"), (0, .fieldref 8 20), (0, .nameAndType 21 12), (0, u "CREDIT"), (0, .fieldref 8 23), (0, .nameAndType 24 12), (0, u "ACK"), (0, .fieldref 8 26), (0, .nameAndType 27 12), (0, u "REJECT"), (0, .fieldref 8 29), (0, .nameAndType 30 12), (0, u "UNSUBSCRIBE"), (0, .fieldref 8 32), (0, .nameAndType 33 12), (0, u "PING"), (0, .fieldref 8 35), (0, .nameAndType 36 12), (0, u "QUEUES"), (0, .fieldref 8 38), (0, .nameAndType 39 12), (0, u "BIND"), (0, .fieldref 8 41), (0, .nameAndType 42 12), (0, u "UNBIND"), (0, .fieldref 8 44), (0, .nameAndType 45 12), (0, u "FANOUT"), (0, .fieldref 8 47), (0, .nameAndType 48 12), (0, u "TOPICS"), (0, .methodref 8 50), (0, .nameAndType 51 52), (0, u "request"), (0, u "(I)Lcom/example/shrike/shrike/protocol/FrameType;"), (0, .methodref 54 55), (0, .class_ 56), (0, .nameAndType 57 52), (0, u "com/example/shrike/shrike/protocol/FrameTypeRequestPinLaw"), (0, u "expected"), (3, u "law"), (0, u "(II)Z")] 2

def k1m0 : Method := { name := "<init>", desc := "()V", sig := { parameters := [], returnType := none }, accessFlags := 2, code := none }
def k1c1 : Code := { maxStack := 2, maxLocals := 1, code := method_2_code, exceptionTable := #[], attributes := #[] }
def k1m1 : Method := { name := "expected", desc := "(I)Lcom/example/shrike/shrike/protocol/FrameType;", sig := { parameters := [.int], returnType := some (.object "com/example/shrike/shrike/protocol/FrameType") }, accessFlags := 10, code := some k1c1 }
def k1c2 : Code := { maxStack := 2, maxLocals := 4, code := code, exceptionTable := #[], attributes := #[] }
def k1m2 : Method := { name := "law", desc := "(II)Z", sig := { parameters := [.int, .int], returnType := some .boolean }, accessFlags := 9, code := some k1c2 }
/-- com/example/shrike/shrike/protocol/FrameTypeRequestPinLaw -/
def k1 : Class := { plain "com/example/shrike/shrike/protocol/FrameTypeRequestPinLaw" (some 0) with
  accessFlags := 49
  interfaces := #[]
  cf := some (fileOf pool1 54 #[] #[{ accessFlags := 2, nameIndex := 5, descriptorIndex := 6, attributes := #[] }, { accessFlags := 10, nameIndex := 57, descriptorIndex := 52, attributes := #[] }, { accessFlags := 9, nameIndex := 61, descriptorIndex := 62, attributes := #[] }] 49 2 #[] #[])
  fields := #[]
  methods := #[k1m0, k1m1, k1m2]
  instanceTypes := #[]
  staticTypes := #[]
  resolved := Array.replicate 65 none
  statics := none }

def pool2 : Array CpInfo := pool [(1, .class_ 2), (0, u "java/lang/constant/Constable"), (0, .class_ 4), (0, u "java/lang/Object")] 6

/-- java/lang/constant/Constable -/
def k2 : Class := { plain "java/lang/constant/Constable" (some 0) with
  accessFlags := 1537
  interfaces := #[]
  cf := some (fileOf pool2 1 #[] #[] 1537 3 #[] #[])
  fields := #[]
  methods := #[]
  instanceTypes := #[]
  staticTypes := #[]
  resolved := Array.replicate 11 none
  statics := none }

def pool3 : Array CpInfo := pool [(1, .class_ 2), (0, u "java/lang/Comparable"), (0, .class_ 4), (0, u "java/lang/Object")] 7

/-- java/lang/Comparable -/
def k3 : Class := { plain "java/lang/Comparable" (some 0) with
  accessFlags := 1537
  interfaces := #[]
  cf := some (fileOf pool3 1 #[] #[] 1537 3 #[] #[])
  fields := #[]
  methods := #[]
  instanceTypes := #[]
  staticTypes := #[]
  resolved := Array.replicate 12 none
  statics := none }

def pool4 : Array CpInfo := pool [(1, .class_ 2), (0, u "java/io/Serializable"), (0, .class_ 4), (0, u "java/lang/Object")] 2

/-- java/io/Serializable -/
def k4 : Class := { plain "java/io/Serializable" (some 0) with
  accessFlags := 1537
  interfaces := #[]
  cf := some (fileOf pool4 1 #[] #[] 1537 3 #[] #[])
  fields := #[]
  methods := #[]
  instanceTypes := #[]
  staticTypes := #[]
  resolved := Array.replicate 7 none
  statics := none }

def pool5 : Array CpInfo := pool [(2, .class_ 4), (1, u "java/lang/Enum"), (0, u "name"), (0, u "Ljava/lang/String;"), (2, u "ordinal"), (0, u "I"), (1, .class_ 14), (1, u "java/lang/Object"), (4, u "hash"), (86, .class_ 108), (1, u "java/lang/Enum$EnumDesc"), (2, .class_ 112), (0, u "java/lang/constant/Constable"), (0, .class_ 114), (0, u "java/lang/Comparable"), (0, .class_ 116), (0, u "java/io/Serializable")] 87

/-- java/lang/Enum -/
def k5 : Class := { plain "java/lang/Enum" (some 0) with
  accessFlags := 1057
  interfaces := #[2, 3, 4]
  cf := some (fileOf pool5 2 #[.nestMembers #[106]] #[] 1057 12 #[111, 113, 115] #[{ accessFlags := 18, nameIndex := 5, descriptorIndex := 6, attributes := #[] }, { accessFlags := 18, nameIndex := 9, descriptorIndex := 10, attributes := #[] }, { accessFlags := 2, nameIndex := 19, descriptorIndex := 10, attributes := #[] }])
  fields := #[{ name := "name", type := (.object "java/lang/String"), accessFlags := 18, slot := 0, constantValue := 0 }, { name := "ordinal", type := .int, accessFlags := 18, slot := 1, constantValue := 0 }, { name := "hash", type := .int, accessFlags := 2, slot := 2, constantValue := 0 }]
  methods := #[]
  instanceTypes := #[(.object "java/lang/String"), .int, .int]
  staticTypes := #[]
  resolved := Array.replicate 204 none
  statics := none }

def pool6 : Array CpInfo := pool [(1, .class_ 2), (0, u "com/example/shrike/shrike/protocol/FrameType"), (2, u "HELLO"), (0, u "Lcom/example/shrike/shrike/protocol/FrameType;"), (2, u "PUBLISH"), (2, u "SUBSCRIBE"), (2, u "CREDIT"), (2, u "ACK"), (2, u "REJECT"), (2, u "UNSUBSCRIBE"), (2, u "PING"), (2, u "QUEUES"), (2, u "BIND"), (2, u "UNBIND"), (2, u "FANOUT"), (2, u "TOPICS"), (2, u "OK"), (2, u "ERR"), (2, u "DELIVER"), (2, u "PONG"), (2, u "$VALUES"), (0, u "[Lcom/example/shrike/shrike/protocol/FrameType;"), (6, .class_ 67), (1, u "java/lang/Enum"), (6, .fieldref 1 75), (0, .nameAndType 76 77), (0, u "code"), (0, u "I"), (0, .fieldref 1 79), (0, .nameAndType 80 58), (0, u "TYPES"), (27, u "SERVER_BIT"), (10, u "request"), (0, u "(I)Lcom/example/shrike/shrike/protocol/FrameType;")] 6

def k6c0 : Code := { maxStack := 2, maxLocals := 5, code := prog_23_method_5_code, exceptionTable := #[], attributes := #[] }
def k6m0 : Method := { name := "request", desc := "(I)Lcom/example/shrike/shrike/protocol/FrameType;", sig := { parameters := [.int], returnType := some (.object "com/example/shrike/shrike/protocol/FrameType") }, accessFlags := 9, code := some k6c0 }
/-- com/example/shrike/shrike/protocol/FrameType -/
def k6 : Class := { plain "com/example/shrike/shrike/protocol/FrameType" (some 5) with
  accessFlags := 16433
  interfaces := #[]
  cf := some (fileOf pool6 1 #[] #[{ accessFlags := 9, nameIndex := 119, descriptorIndex := 120, attributes := #[] }] 16433 65 #[] #[{ accessFlags := 16409, nameIndex := 5, descriptorIndex := 6, attributes := #[] }, { accessFlags := 16409, nameIndex := 9, descriptorIndex := 6, attributes := #[] }, { accessFlags := 16409, nameIndex := 12, descriptorIndex := 6, attributes := #[] }, { accessFlags := 16409, nameIndex := 15, descriptorIndex := 6, attributes := #[] }, { accessFlags := 16409, nameIndex := 18, descriptorIndex := 6, attributes := #[] }, { accessFlags := 16409, nameIndex := 21, descriptorIndex := 6, attributes := #[] }, { accessFlags := 16409, nameIndex := 24, descriptorIndex := 6, attributes := #[] }, { accessFlags := 16409, nameIndex := 27, descriptorIndex := 6, attributes := #[] }, { accessFlags := 16409, nameIndex := 30, descriptorIndex := 6, attributes := #[] }, { accessFlags := 16409, nameIndex := 33, descriptorIndex := 6, attributes := #[] }, { accessFlags := 16409, nameIndex := 36, descriptorIndex := 6, attributes := #[] }, { accessFlags := 16409, nameIndex := 39, descriptorIndex := 6, attributes := #[] }, { accessFlags := 16409, nameIndex := 42, descriptorIndex := 6, attributes := #[] }, { accessFlags := 16409, nameIndex := 45, descriptorIndex := 6, attributes := #[] }, { accessFlags := 16409, nameIndex := 48, descriptorIndex := 6, attributes := #[] }, { accessFlags := 16409, nameIndex := 51, descriptorIndex := 6, attributes := #[] }, { accessFlags := 16409, nameIndex := 54, descriptorIndex := 6, attributes := #[] }, { accessFlags := 26, nameIndex := 108, descriptorIndex := 77, attributes := #[] }, { accessFlags := 26, nameIndex := 80, descriptorIndex := 58, attributes := #[] }, { accessFlags := 18, nameIndex := 76, descriptorIndex := 77, attributes := #[] }, { accessFlags := 4122, nameIndex := 57, descriptorIndex := 58, attributes := #[] }])
  fields := #[{ name := "HELLO", type := (.object "com/example/shrike/shrike/protocol/FrameType"), accessFlags := 16409, slot := 0, constantValue := 0 }, { name := "PUBLISH", type := (.object "com/example/shrike/shrike/protocol/FrameType"), accessFlags := 16409, slot := 1, constantValue := 0 }, { name := "SUBSCRIBE", type := (.object "com/example/shrike/shrike/protocol/FrameType"), accessFlags := 16409, slot := 2, constantValue := 0 }, { name := "CREDIT", type := (.object "com/example/shrike/shrike/protocol/FrameType"), accessFlags := 16409, slot := 3, constantValue := 0 }, { name := "ACK", type := (.object "com/example/shrike/shrike/protocol/FrameType"), accessFlags := 16409, slot := 4, constantValue := 0 }, { name := "REJECT", type := (.object "com/example/shrike/shrike/protocol/FrameType"), accessFlags := 16409, slot := 5, constantValue := 0 }, { name := "UNSUBSCRIBE", type := (.object "com/example/shrike/shrike/protocol/FrameType"), accessFlags := 16409, slot := 6, constantValue := 0 }, { name := "PING", type := (.object "com/example/shrike/shrike/protocol/FrameType"), accessFlags := 16409, slot := 7, constantValue := 0 }, { name := "QUEUES", type := (.object "com/example/shrike/shrike/protocol/FrameType"), accessFlags := 16409, slot := 8, constantValue := 0 }, { name := "BIND", type := (.object "com/example/shrike/shrike/protocol/FrameType"), accessFlags := 16409, slot := 9, constantValue := 0 }, { name := "UNBIND", type := (.object "com/example/shrike/shrike/protocol/FrameType"), accessFlags := 16409, slot := 10, constantValue := 0 }, { name := "FANOUT", type := (.object "com/example/shrike/shrike/protocol/FrameType"), accessFlags := 16409, slot := 11, constantValue := 0 }, { name := "TOPICS", type := (.object "com/example/shrike/shrike/protocol/FrameType"), accessFlags := 16409, slot := 12, constantValue := 0 }, { name := "OK", type := (.object "com/example/shrike/shrike/protocol/FrameType"), accessFlags := 16409, slot := 13, constantValue := 0 }, { name := "ERR", type := (.object "com/example/shrike/shrike/protocol/FrameType"), accessFlags := 16409, slot := 14, constantValue := 0 }, { name := "DELIVER", type := (.object "com/example/shrike/shrike/protocol/FrameType"), accessFlags := 16409, slot := 15, constantValue := 0 }, { name := "PONG", type := (.object "com/example/shrike/shrike/protocol/FrameType"), accessFlags := 16409, slot := 16, constantValue := 0 }, { name := "SERVER_BIT", type := .int, accessFlags := 26, slot := 17, constantValue := 0 }, { name := "TYPES", type := (.array (.object "com/example/shrike/shrike/protocol/FrameType")), accessFlags := 26, slot := 18, constantValue := 0 }, { name := "code", type := .int, accessFlags := 18, slot := 3, constantValue := 0 }, { name := "$VALUES", type := (.array (.object "com/example/shrike/shrike/protocol/FrameType")), accessFlags := 4122, slot := 19, constantValue := 0 }]
  methods := #[k6m0]
  instanceTypes := #[(.object "java/lang/String"), .int, .int, .int]
  staticTypes := #[(.object "com/example/shrike/shrike/protocol/FrameType"), (.object "com/example/shrike/shrike/protocol/FrameType"), (.object "com/example/shrike/shrike/protocol/FrameType"), (.object "com/example/shrike/shrike/protocol/FrameType"), (.object "com/example/shrike/shrike/protocol/FrameType"), (.object "com/example/shrike/shrike/protocol/FrameType"), (.object "com/example/shrike/shrike/protocol/FrameType"), (.object "com/example/shrike/shrike/protocol/FrameType"), (.object "com/example/shrike/shrike/protocol/FrameType"), (.object "com/example/shrike/shrike/protocol/FrameType"), (.object "com/example/shrike/shrike/protocol/FrameType"), (.object "com/example/shrike/shrike/protocol/FrameType"), (.object "com/example/shrike/shrike/protocol/FrameType"), (.object "com/example/shrike/shrike/protocol/FrameType"), (.object "com/example/shrike/shrike/protocol/FrameType"), (.object "com/example/shrike/shrike/protocol/FrameType"), (.object "com/example/shrike/shrike/protocol/FrameType"), .int, (.array (.object "com/example/shrike/shrike/protocol/FrameType")), (.array (.object "com/example/shrike/shrike/protocol/FrameType"))]
  resolved := Array.replicate 127 none
  statics := some 0 }

def pool7 : Array CpInfo := pool [(1, u "java/lang/Cloneable"), (0, .class_ 1), (0, u "java/lang/Object"), (0, .class_ 3)] 3

/-- java/lang/Cloneable -/
def k7 : Class := { plain "java/lang/Cloneable" (some 0) with
  accessFlags := 1537
  interfaces := #[]
  cf := some (fileOf pool7 2 #[] #[] 1537 4 #[] #[])
  fields := #[]
  methods := #[]
  instanceTypes := #[]
  staticTypes := #[]
  resolved := Array.replicate 8 none
  statics := none }

/-- the primitive byte -/
def k8 : Class := { plain "byte" none with kind := .primitive 'B', accessFlags := 0x411 }
/-- [B -/
def k9 : Class := { plain "[B" (some 0) with kind := .array 8 .byte, interfaces := #[7, 4], accessFlags := 1041 }

/-- the primitive int -/
def k10 : Class := { plain "int" none with kind := .primitive 'I', accessFlags := 0x411 }
/-- [I -/
def k11 : Class := { plain "[I" (some 0) with kind := .array 10 .int, interfaces := #[7, 4], accessFlags := 1041 }

/-- [Lcom/example/shrike/shrike/protocol/FrameType; -/
def k12 : Class := { plain "[Lcom/example/shrike/shrike/protocol/FrameType;" (some 0) with kind := .array 6 (.object "com/example/shrike/shrike/protocol/FrameType"), interfaces := #[7, 4], accessFlags := 1041 }

def heap : Heap := #[{ cls := 6, slots := #[.ref 2, .ref 3, .ref 4, .ref 5, .ref 6, .ref 7, .ref 8, .ref 9, .ref 10, .ref 11, .ref 12, .ref 13, .ref 14, .ref 15, .ref 16, .ref 17, .ref 18, .int 0, .ref 1, .null], vm := .statics 6 },
  { cls := 12, slots := #[.ref 2, .ref 3, .ref 4, .ref 5, .ref 6, .ref 7, .ref 8, .ref 9, .ref 10, .ref 11, .ref 12, .ref 13, .ref 14, .ref 15, .ref 16, .ref 17, .ref 18], vm := .none },
  { cls := 6, slots := #[.null, .int 0, .int 0, .int 1], vm := .none },
  { cls := 6, slots := #[.null, .int 1, .int 0, .int 2], vm := .none },
  { cls := 6, slots := #[.null, .int 2, .int 0, .int 3], vm := .none },
  { cls := 6, slots := #[.null, .int 3, .int 0, .int 4], vm := .none },
  { cls := 6, slots := #[.null, .int 4, .int 0, .int 5], vm := .none },
  { cls := 6, slots := #[.null, .int 5, .int 0, .int 6], vm := .none },
  { cls := 6, slots := #[.null, .int 6, .int 0, .int 7], vm := .none },
  { cls := 6, slots := #[.null, .int 7, .int 0, .int 8], vm := .none },
  { cls := 6, slots := #[.null, .int 8, .int 0, .int 9], vm := .none },
  { cls := 6, slots := #[.null, .int 9, .int 0, .int 10], vm := .none },
  { cls := 6, slots := #[.null, .int 10, .int 0, .int 11], vm := .none },
  { cls := 6, slots := #[.null, .int 11, .int 0, .int 12], vm := .none },
  { cls := 6, slots := #[.null, .int 12, .int 0, .int 13], vm := .none },
  { cls := 6, slots := #[.null, .int 13, .int 0, .int 129], vm := .none },
  { cls := 6, slots := #[.null, .int 14, .int 0, .int 130], vm := .none },
  { cls := 6, slots := #[.null, .int 15, .int 0, .int 131], vm := .none },
  { cls := 6, slots := #[.null, .int 16, .int 0, .int 132], vm := .none }]
def classes : Array Class := #[k0, k1, k2, k3, k4, k5, k6, k7, k8, k9, k10, k11, k12]
def interned : List (Array UInt16 × Addr) := []
def slotsUsed : Nat := 105
def theMethod : MethodId := ⟨1, 2⟩
def args0 : Array Value := #[.int 5, .int 7]
def aboutOver (below : List Frame) : State where
  vm := { classes := classes, interned := interned.toArray }
  heap := heap
  slotsUsed := slotsUsed
  threads := #[{ frames := .invoking theMethod args0 :: below }]
def below0 : List Frame := [.native { method := ⟨0, 0⟩, args := #[] }]
def about1 : State := aboutOver below0
def p0 : Program := .bare "" "" ""
def e0 : Env := launch0.env 0 0 0
theorem w_frames : about1.frames = Frame.invoking theMethod args0 :: below0 := rfl
set_option maxRecDepth 65536 in
theorem w_args : argsFit about1.vm theMethod args0 = true := by decide +kernel
set_option maxRecDepth 65536 in
theorem w_heap : heapFits about1 = true := by decide +kernel
set_option maxRecDepth 65536 in
theorem w_runnable : about1.curStatus? = some .runnable := by decide +kernel
set_option maxRecDepth 65536 in
theorem w_alone : about1.alone = true := by decide +kernel
set_option maxRecDepth 65536 in
theorem w_named : about1.methodNamed? x = some theMethod := by decide +kernel
set_option maxRecDepth 65536 in
theorem w_hears : about1.hears theMethod below0 = true := by decide +kernel
set_option maxRecDepth 65536 in
theorem w_ripe : about1.ripe theMethod args0 below0 = true := by decide +kernel
theorem w_running : about1.status = .running := rfl
set_option maxRecDepth 65536 in
theorem w_room : about1.hasRoom e0.platform room_1 = true :=
  launch0.hasRoom_least _ room_1 (by decide +kernel) (by decide +kernel) (by decide +kernel) (by decide +kernel) (by decide +kernel) (by decide +kernel)
theorem allAtoms_all (ts : List Jvm.Cond) (a : Array Jvm.Value) (st : Jvm.State) : (allAtoms ts).before a st = ts.all (fun c => c.before a st) := by
  induction ts with
  | nil => rfl
  | cons c t ih =>
    show (Jvm.Cond.and c (allAtoms t)).before a st = _
    rw [Jvm.Cond.before_and, ih, List.all_cons]
def words1 : List Jvm.Cond := Jvm.Cond.code x code maxLocals ret :: tables_1
/-- a 'code' word, met by the world's own term for the bytes: nothing is compared byte by byte -/
theorem code_word {y : MethodName} {bytes : ByteArray} {mx : Nat} {rt : Option FieldType} {a : Array Value} {s : State} {m : MethodId} {meth : Method} {c : Code} (h1 : s.methodNamed? y = some m) (h2 : s.vm.method? m = some meth) (h3 : meth.code = some c) (h4 : c.code = bytes)
    (h5 : (c.maxLocals == mx && c.exceptionTable.isEmpty && decide (c.maxStack ≤ mostOperands) && decide (meth.sig.returnType = rt) && !meth.locks && decide (parseMethodDescriptor y.desc = some meth.sig)) = true) : (Jvm.Cond.code y bytes mx rt).before a s = true := by
  simp only [Bool.and_eq_true, beq_iff_eq, Bool.not_eq_true', decide_eq_true_eq] at h5
  obtain ⟨⟨⟨⟨⟨g1, g2⟩, g3⟩, g4⟩, g5⟩, g6⟩ := h5
  simp [Cond.before, Cond.holds, Cond.value, h1, h2, h3, h4, g1, g2, g3, g4, g5, g6]
def isCode : Jvm.Cond → Bool
  | .code _ _ _ _ => true
  | _ => false
theorem all_split {L : List Jvm.Cond} {P : Jvm.Cond → Bool} (h1 : L.all (fun c => isCode c || P c) = true) (h2 : ∀ c ∈ L.filter isCode, P c = true) : L.all P = true := by
  refine List.all_eq_true.mpr fun c hc => ?_
  have h := List.all_eq_true.mp h1 c hc
  rcases Bool.eq_false_or_eq_true (isCode c) with hi | hi
  · exact h2 c (List.mem_filter.mpr ⟨hc, hi⟩)
  · simpa [hi] using h
set_option maxRecDepth 65536 in
theorem w_c0 : (Jvm.Cond.code x code maxLocals ret).before args0 about1 = true := code_word (m := ⟨1, 2⟩) (meth := k1m2) (c := k1c2) (by decide +kernel) rfl rfl rfl (by decide +kernel)
set_option maxRecDepth 65536 in
theorem w_c1 : (Jvm.Cond.code ({ cls := "com/example/shrike/shrike/protocol/FrameType", name := "request", desc := "(I)Lcom/example/shrike/shrike/protocol/FrameType;" } : Jvm.MethodName) prog_23_method_5_code (5 : Nat) (Option.some (Jvm.ClassFile.FieldType.object "com/example/shrike/shrike/protocol/FrameType"))).before args0 about1 = true := code_word (m := ⟨6, 0⟩) (meth := k6m0) (c := k6c0) (by decide +kernel) rfl rfl rfl (by decide +kernel)
set_option maxRecDepth 65536 in
theorem w_c2 : (Jvm.Cond.code ({ cls := "com/example/shrike/shrike/protocol/FrameTypeRequestPinLaw", name := "expected", desc := "(I)Lcom/example/shrike/shrike/protocol/FrameType;" } : Jvm.MethodName) method_2_code (1 : Nat) (Option.some (Jvm.ClassFile.FieldType.object "com/example/shrike/shrike/protocol/FrameType"))).before args0 about1 = true := code_word (m := ⟨1, 1⟩) (meth := k1m1) (c := k1c1) (by decide +kernel) rfl rfl rfl (by decide +kernel)
def codes1 : List Jvm.Cond := [Jvm.Cond.code x code maxLocals ret, Jvm.Cond.code ({ cls := "com/example/shrike/shrike/protocol/FrameType", name := "request", desc := "(I)Lcom/example/shrike/shrike/protocol/FrameType;" } : Jvm.MethodName) prog_23_method_5_code (5 : Nat) (Option.some (Jvm.ClassFile.FieldType.object "com/example/shrike/shrike/protocol/FrameType")), Jvm.Cond.code ({ cls := "com/example/shrike/shrike/protocol/FrameTypeRequestPinLaw", name := "expected", desc := "(I)Lcom/example/shrike/shrike/protocol/FrameType;" } : Jvm.MethodName) method_2_code (1 : Nat) (Option.some (Jvm.ClassFile.FieldType.object "com/example/shrike/shrike/protocol/FrameType"))]
set_option maxRecDepth 65536 in
theorem codes_eq : words1.filter isCode = codes1 := rfl
theorem w_codes : ∀ c ∈ words1.filter isCode, c.before args0 about1 = true := by
  rw [codes_eq]
  intro c hc
  simp only [codes1, List.mem_cons, List.not_mem_nil, or_false] at hc
  rcases hc with rfl | rfl | rfl
  · exact w_c0
  · exact w_c1
  · exact w_c2
set_option maxRecDepth 65536 in
theorem w_t1 : (words1.take 24).all (fun c => isCode c || c.before args0 about1) = true := by decide +kernel
set_option maxRecDepth 65536 in
theorem w_t2 : (words1.drop 24).all (fun c => isCode c || c.before args0 about1) = true := by decide +kernel
theorem w_tables : (allAtoms (Jvm.Cond.code x code maxLocals ret :: tables_1)).before args0 about1 = true := by
  rw [allAtoms_all]
  show words1.all (fun c => c.before args0 about1) = true
  refine all_split ?_ w_codes
  rw [← List.take_append_drop 24 words1, List.all_append, w_t1, w_t2]
  rfl
set_option maxRecDepth 65536 in
theorem w_case : (Jvm.Cond.and given_1 narrow_1).before args0 about1 = true := by decide +kernel
theorem w_applies : (headSpec (Jvm.Cond.code x code maxLocals ret :: tables_1) room_1).applies x e0.platform about1 = true :=
  (Spec.applies_iff w_frames).mpr ⟨w_running, w_runnable, w_alone, w_named, w_hears, w_ripe, w_room, w_tables⟩
theorem atStart : AtStart classFile x code maxLocals ret World_1 tables_1 room_1 Calls_1 rest_1 Pre_1 launch0 p0 e0 about1 theMethod args0 below0 :=
  ⟨lists_1, trivial, launch0.admits_env _ _ _, launch0.least_env, fairChoices_fair.cas, fairChoices_fair.clock, w_frames, w_args, w_heap, w_applies, trivial, trivial, w_case⟩
end start1
theorem witness_1 : WitnessClaimed_1 := ⟨start1.p0, start1.e0, start1.about1, start1.theMethod, start1.args0, start1.below0, start1.atStart⟩
end Jvm.Pilot.@@N@@
