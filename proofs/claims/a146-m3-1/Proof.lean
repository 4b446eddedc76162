import JvmDerived
import JvmDerived.Pilot.@@N@@Statement
import JvmDerived.Pilot.@@N@@Code
set_option linter.unusedVariables false
set_option linter.unusedSimpArgs false
namespace Jvm.RoadKit
open Sem ClassFile Op Lib Jvm.Stand Jvm.Free Jvm.LawKit
/-- the run from S ends, and ends as Q says -/
def Go (tb : Tables) (e : Env) (below : List Frame) (Q : Outcome → State → Prop) (S : State) : Prop := ∃ s₂ o, Steps tb e below S s₂ ∧ s₂.status = .running ∧ Ended s₂ below o ∧ Q o s₂
theorem Go.by {tb : Tables} {e : Env} {below : List Frame} {Q : Outcome → State → Prop} {S S' : State} (h : ∀ t, Steps tb e below S' t → Steps tb e below S t) (k : Go tb e below Q S') : Go tb e below Q S := by
  obtain ⟨s₂, o, h1, r⟩ := k
  exact ⟨s₂, o, h _ h1, r⟩
/-- what a contract says of the end -/
def Ret (s : State) (n0 : Nat) (Q : Option Value → Heap → Prop) (C S : Nat) : Outcome → State → Prop := fun o U => ∃ v L, o = .returned v ∧ (Q v U.heap ∧ Fr n0 L) ∧ FrameEnd s o U L C S
def Met (l : Launch) (Z : State) (n0 : Nat) (y : MethodName) (bytes : ByteArray) (maxL : Nat) (ret : Option FieldType) (ws : List Cond) (rm : Room) (as : Array Value) (h0 : Heap) (Q : Option Value → Heap → Prop) : Prop :=
  MetFree l y (head1 (Cond.code y bytes maxL ret :: ws) rm) (fun a U => a = as ∧ Z.Warmed39 U.vm ∧ U.heap = h0) (fun _ _ _ _ _ => True) (fun _ U o U' => ∃ v L, o = .returned v ∧ (Q v U'.heap ∧ Fr n0 L) ∧ FrameEnd U o U' L rm.cells rm.slots)
/-- where the walk stands: the heap is h, k cells of n slots were made, nothing below n0 was written -/
def Sd (n0 : Nat) (p : Program) (l : Launch) (e : Env) (R : Room) (s : State) (m : MethodId) (args : Array Value) (below : List Frame) (meth : Method) (c : Code) (T : State) (h : Heap) (k n : Nat) : Prop :=
  ∃ locs, Stand p l e R s m args below meth c T locs k n ∧ Fr n0 locs ∧ T.heap = h
section Sds
variable {n0 : Nat} {p : Program} {l : Launch} {e : Env} {R : Room} {s : State} {m : MethodId} {args : Array Value} {below : List Frame} {meth : Method} {c : Code} {T : State} {h : Heap} {k n : Nat} {Z : State} {a0 : Array Value}
theorem catV {v : Value} (h : v.isRef = true) : v.category = 1 := by cases v <;> first | rfl | (cases h; done)
theorem Sd.here (X : Sd n0 p l e R s m args below meth c T h k n) : At T m c below := by obtain ⟨_, X, -⟩ := X; exact X.here
theorem Sd.more (X : Sd n0 p l e R s m args below meth c T h k n) {k' n' : Nat} (hk : k ≤ k') (hn : n ≤ n') : Sd n0 p l e R s m args below meth c T h k' n' := by
  obtain ⟨L, X, N, q⟩ := X; exact ⟨L, X.more hk hn, N, q⟩
theorem enter {y : MethodName} {bytes : ByteArray} {maxL : Nat} {ret : Option FieldType} {ws : List Cond} {rm : Room} {as : Array Value} {h0 : Heap} {Q : Option Value → Heap → Prop} {Ls : Array Slot}
    (hpl : plainFor y = true) (hef : ∀ m, entryFrame m as maxL = mkF m 0 Ls [])
    (body : ∀ (p : Program) (e : Env) (s : State) (m : MethodId) (below : List Frame) (meth : Method) (c : Code) (T0 : State), p.tables.exec = Jvm.exec → c.code = bytes → c.maxLocals = maxL → s.vm.findClass y.cls = some m.cls → meth.name = y.name → meth.sig.returnType = ret → meth.locks = false → Z.Warmed39 s.vm →
      Sd n0 p l e rm s m as below meth c T0 h0 0 0 → Go p.tables e below (Ret s n0 Q rm.cells rm.slots) (T0.setTop (mkF m 0 Ls []))) : Met l Z n0 y bytes maxL ret ws rm as h0 Q := by
  refine MetFree.of_bodySF hpl hisR ?_
  intro p e s m args below meth c s₁ Bd hml0 hP hK
  obtain ⟨rfl, hZ, hh⟩ := hP
  have X0 : Stand p l e rm s m args below meth c s₁ [] 0 0 := Stand.of_body Bd
  have e0 : s₁.heap = h0 := by rw [← hh, Bd.state]; rfl
  have hlk : meth.locks = false := BodyLoose.notSynchronized Bd
  have k := body p e s m below meth c s₁ Bd.exec Bd.bytes hml0 (findClass_of_methodNamed Bd.named) (name_of_methodNamed Bd.named Bd.method).1 Bd.returns hlk hZ ⟨[], X0, Fr.nil n0, e0⟩
  obtain ⟨s₂, o, h1, h2, h3, h4⟩ := k
  exact ⟨s₂, o, castTop (hef m) h1, h2, h3, h4⟩
/-! returns -/
theorem Go.leave (X : Sd n0 p l e R s m args below meth c T h k n) {Q : Option Value → Heap → Prop} {C S : Nat} {v : Option Value} {g : JFrame} (hlk : meth.locks = false) (hv : meth.sig.returnType = none → v = none)
    (hst : ∀ fs, (∀ (f : JFrame) (acts : List Action), f.method = m → f.locked = none → f.entered = [] → (doReturn e (T.setTop f) acts v).1 = T.setFrames fs) → Steps p.tables e below (T.setTop g) (T.setFrames fs))
    (hk : k ≤ C) (hn : n ≤ S) (hQ : Q v h) : Go p.tables e below (Ret s n0 Q C S) (T.setTop g) := by
  obtain ⟨L, X, N, q⟩ := X
  obtain ⟨fs, hr, hrun, hended, hW, hsame⟩ := X.leave (v := v) hv hlk
  refine ⟨_, _, hst fs hr, hrun, hended, _, L, rfl, ⟨?_, N⟩, ⟨_, rfl⟩, hW, hsame.mono hk hn⟩
  show Q v T.heap
  rw [q]; exact hQ
theorem Go.retN (X : Sd n0 p l e R s m args below meth c T h k n) (hx : p.tables.exec = Jvm.exec) (hlk : meth.locks = false) {Q : Option Value → Heap → Prop} {C S : Nat} {t : FieldType} {pc : Nat} {Ls : Array Slot} {z z' : Int32} {rest : List Value} (hret : meth.sig.returnType = some t) (ht : t = .boolean ∨ t = .byte ∨ t = .char ∨ t = .short)
    (hd : decode c.code pc = .ok (.ireturn, 1)) (hz : nar t z = z') (hk : k ≤ C) (hn : n ≤ S) (hQ : Q (some (.int z')) h) : Go p.tables e below (Ret s n0 Q C S) (T.setTop (mkF m pc Ls (.int z :: rest))) := by
  subst hz
  refine Go.leave X hlk (fun q => by rw [hret] at q; cases q) (fun fs hr => ?_) hk hn hQ
  obtain ⟨L, X, -⟩ := X
  exact Jvm.RoadKit.retN X hx hret ht hd hr
theorem Go.retI (X : Sd n0 p l e R s m args below meth c T h k n) (hx : p.tables.exec = Jvm.exec) (hlk : meth.locks = false) {Q : Option Value → Heap → Prop} {C S : Nat} {pc : Nat} {Ls : Array Slot} {z : Int32} {rest : List Value} (hret : meth.sig.returnType = some .int)
    (hd : decode c.code pc = .ok (.ireturn, 1)) (hk : k ≤ C) (hn : n ≤ S) (hQ : Q (some (.int z)) h) : Go p.tables e below (Ret s n0 Q C S) (T.setTop (mkF m pc Ls (.int z :: rest))) := by
  refine Go.leave X hlk (fun q => by rw [hret] at q; cases q) (fun fs hr => ?_) hk hn hQ
  obtain ⟨L, X, -⟩ := X
  exact retOut X hx hret rfl (Or.inl ⟨rfl, Or.inl rfl, _, rfl⟩) hd hr
theorem Go.retL (X : Sd n0 p l e R s m args below meth c T h k n) (hx : p.tables.exec = Jvm.exec) (hlk : meth.locks = false) {Q : Option Value → Heap → Prop} {C S : Nat} {pc : Nat} {Ls : Array Slot} {z : Int64} {rest : List Value} (hret : meth.sig.returnType = some .long)
    (hd : decode c.code pc = .ok (.lreturn, 1)) (hk : k ≤ C) (hn : n ≤ S) (hQ : Q (some (.long z)) h) : Go p.tables e below (Ret s n0 Q C S) (T.setTop (mkF m pc Ls (.long z :: rest))) := by
  refine Go.leave X hlk (fun q => by rw [hret] at q; cases q) (fun fs hr => ?_) hk hn hQ
  obtain ⟨L, X, -⟩ := X
  exact retOut X hx hret rfl (Or.inr (Or.inl ⟨rfl, rfl, _, rfl⟩)) hd hr
theorem Go.retA (X : Sd n0 p l e R s m args below meth c T h k n) (hx : p.tables.exec = Jvm.exec) (hlk : meth.locks = false) {Q : Option Value → Heap → Prop} {C S : Nat} {t : FieldType} {pc : Nat} {Ls : Array Slot} {w : Value} {rest : List Value} (hret : meth.sig.returnType = some t) (ht : t.isReference = true) (hw : w.isRef = true)
    (hd : decode c.code pc = .ok (.areturn, 1)) (hk : k ≤ C) (hn : n ≤ S) (hQ : Q (some w) h) : Go p.tables e below (Ret s n0 Q C S) (T.setTop (mkF m pc Ls (w :: rest))) := by
  refine Go.leave X hlk (fun q => by rw [hret] at q; cases q) (fun fs hr => ?_) hk hn hQ
  obtain ⟨L, X, -⟩ := X
  have hnar : narrow t w = w := by cases t <;> first | (cases ht; done) | (cases w <;> first | rfl | (cases hw; done))
  exact retOut X hx hret hnar (Or.inr (Or.inr (Or.inr (Or.inr ⟨rfl, ht, hw⟩)))) hd hr
theorem Go.ret0 (X : Sd n0 p l e R s m args below meth c T h k n) (hx : p.tables.exec = Jvm.exec) (hlk : meth.locks = false) {Q : Option Value → Heap → Prop} {C S : Nat} {pc : Nat} {Ls : Array Slot} (hret : meth.sig.returnType = none)
    (hd : decode c.code pc = .ok (.return_, 1)) (hk : k ≤ C) (hn : n ≤ S) (hQ : Q none h) : Go p.tables e below (Ret s n0 Q C S) (T.setTop (mkF m pc Ls [])) := by
  refine Go.leave X hlk (fun _ => rfl) (fun fs hr => ?_) hk hn hQ
  obtain ⟨L, X, -⟩ := X
  exact X.returnOut hx hret hd hr
/-! fields, statics, casts -/
theorem Sd.getF (X : Sd n0 p l e R s m args below meth c T h k n) (hx : p.tables.exec = Jvm.exec) (hZ : Z.Warmed39 s.vm) {own R0 O nm d host : String} {index : Nat} (hown : s.vm.findClass own = some m.cls) (w : (Cond.fieldLink own index R0 nm d).before a0 Z = true ∨ (Cond.fieldLinkNest own index R0 nm d host).before a0 Z = true) (via : Via Z R0 O nm d)
    {a : Addr} {v : Value} (F : Fld Z h a O nm d v) {g : JFrame} (hg : g.method = m) {rest : List Value} (hs : g.stack = .ref a :: rest) (hd : decode c.code g.pc = .ok (.getfield index, 3)) :
    ∃ T', Sd n0 p l e R s m args below meth c T' h k n ∧ ∀ target, Steps p.tables e below (T'.setTop { g with pc := g.pc + 3, stack := v :: rest }) target → Steps p.tables e below (T.setTop g) target := by
  obtain ⟨L, X, N, q⟩ := X
  obtain ⟨T', X', e', st⟩ := Jvm.RoadKit.getF X hx hZ hown w via q F hg hs hd
  exact ⟨T', ⟨L, X', N, e'⟩, st⟩
theorem Sd.getS (X : Sd n0 p l e R s m args below meth c T h k n) (hx : p.tables.exec = Jvm.exec) (hZ : Z.Warmed39 s.vm) {own R0 O nm d host : String} {index : Nat} (hown : s.vm.findClass own = some m.cls) (w : (Cond.fieldLink own index R0 nm d).before a0 Z = true ∨ (Cond.fieldLinkNest own index R0 nm d host).before a0 Z = true) (via : Via Z R0 O nm d)
    {v : Value} (F : Sta Z h O nm d v) {g : JFrame} (hg : g.method = m) (hd : decode c.code g.pc = .ok (.getstatic index, 3)) :
    ∃ T', Sd n0 p l e R s m args below meth c T' h k n ∧ ∀ target, Steps p.tables e below (T'.setTop { g with pc := g.pc + 3, stack := v :: g.stack }) target → Steps p.tables e below (T.setTop g) target := by
  obtain ⟨L, X, N, q⟩ := X
  obtain ⟨T', X', e', st⟩ := getS2 X hx hZ hown w via q F hg hd
  exact ⟨T', ⟨L, X', N, e'⟩, st⟩
theorem Sd.putF (X : Sd n0 p l e R s m args below meth c T h k n) (hx : p.tables.exec = Jvm.exec) (hZ : Z.Warmed39 s.vm) {own R0 O nm d host C : String} {index kk : Nat} {ty : FieldType} (hown : s.vm.findClass own = some m.cls) (w : (Cond.fieldLink own index R0 nm d).before a0 Z = true ∨ (Cond.fieldLinkNest own index R0 nm d host).before a0 Z = true) (via : Via Z R0 O nm d)
    {a : Addr} {v old : Value} (F : Fld Z h a O nm d old) (E : Exa Z h a C) (ga : n0 ≤ a) (L : (Cond.lays C O nm d).before a0 Z = true ∨ ((Cond.laysFinal C O nm d).before a0 Z = true ∧ own = O ∧ meth.name = "<init>")) (wi : (Cond.instantiable C kk).before a0 Z = true)
    (hty : parseFieldDescriptor d = some ty) (hnr : narrow ty v = v) (hf : fits ty v = true) {g : JFrame} (hg : g.method = m) {rest : List Value} (hs : g.stack = v :: .ref a :: rest) (hd : decode c.code g.pc = .ok (.putfield index, 3)) :
    ∃ T' h', Sd n0 p l e R s m args below meth c T' h' k n ∧ Wr h h' a (slotOf Z O nm d) v ∧ ∀ target, Steps p.tables e below (T'.setTop { g with pc := g.pc + 3, stack := rest }) target → Steps p.tables e below (T.setTop g) target := by
  obtain ⟨Lc, X, N, q⟩ := X
  obtain ⟨T', h', X', e', W, st⟩ := Jvm.RoadKit.putF X hx hZ hown w via q F E L wi hty hnr hf hg hs hd
  exact ⟨T', h', ⟨_, X', Fr.snoc X' N ga, e'⟩, W, st⟩
theorem Sd.putFN (X : Sd n0 p l e R s m args below meth c T h k n) (hx : p.tables.exec = Jvm.exec) (hZ : Z.Warmed39 s.vm) {own R0 O nm d C : String} {index kk : Nat} {ty : FieldType} (hown : s.vm.findClass own = some m.cls) (w : (Cond.fieldLink own index R0 nm d).before a0 Z = true) (via : Via Z R0 O nm d)
    {a : Addr} {v v' old : Value} (F : Fld Z h a O nm d old) (E : Exa Z h a C) (ga : n0 ≤ a) (L : (Cond.lays C O nm d).before a0 Z = true ∨ ((Cond.laysFinal C O nm d).before a0 Z = true ∧ own = O ∧ meth.name = "<init>")) (wi : (Cond.instantiable C kk).before a0 Z = true)
    (hty : parseFieldDescriptor d = some ty) (hnr : narrow ty v = v') (hf : fits ty v' = true) {g : JFrame} (hg : g.method = m) {rest : List Value} (hs : g.stack = v :: .ref a :: rest) (hd : decode c.code g.pc = .ok (.putfield index, 3)) :
    ∃ T' h', Sd n0 p l e R s m args below meth c T' h' k n ∧ Wr h h' a (slotOf Z O nm d) v' ∧ ∀ target, Steps p.tables e below (T'.setTop { g with pc := g.pc + 3, stack := rest }) target → Steps p.tables e below (T.setTop g) target := by
  obtain ⟨Lc, X, N, q⟩ := X
  obtain ⟨T', h', X', e', W, st⟩ := Jvm.RoadKit.putFN X hx hZ hown w via q F E L wi hty hnr hf hg hs hd
  exact ⟨T', h', ⟨_, X', Fr.snoc X' N ga, e'⟩, W, st⟩
theorem Sd.castY (X : Sd n0 p l e R s m args below meth c T h k n) (hx : p.tables.exec = Jvm.exec) (hZ : Z.Warmed39 s.vm) {own K : String} {index : Nat} (hown : s.vm.findClass own = some m.cls) (w : (Cond.classLink own index K).before a0 Z = true) {a : Addr} (F : Ins Z h a K true)
    {g : JFrame} (hg : g.method = m) {rest : List Value} (hs : g.stack = .ref a :: rest) (hd : decode c.code g.pc = .ok (.checkcast index, 3)) :
    ∃ T', Sd n0 p l e R s m args below meth c T' h k n ∧ ∀ target, Steps p.tables e below (T'.setTop { g with pc := g.pc + 3 }) target → Steps p.tables e below (T.setTop g) target := by
  obtain ⟨L, X, N, q⟩ := X
  obtain ⟨T', X', e', st⟩ := Jvm.RoadKit.castY X hx hZ hown w q F hg hs hd
  exact ⟨T', ⟨L, X', N, e'⟩, st⟩
theorem Sd.instY (X : Sd n0 p l e R s m args below meth c T h k n) (hx : p.tables.exec = Jvm.exec) (hZ : Z.Warmed39 s.vm) {own K : String} {index : Nat} (hown : s.vm.findClass own = some m.cls) (w : (Cond.classLink own index K).before a0 Z = true) {a : Addr} (F : Ins Z h a K true)
    {g : JFrame} (hg : g.method = m) {rest : List Value} (hs : g.stack = .ref a :: rest) (hd : decode c.code g.pc = .ok (.instanceof index, 3)) :
    ∃ T', Sd n0 p l e R s m args below meth c T' h k n ∧ ∀ target, Steps p.tables e below (T'.setTop { g with pc := g.pc + 3, stack := .int 1 :: rest }) target → Steps p.tables e below (T.setTop g) target := by
  obtain ⟨L, X, N, q⟩ := X
  obtain ⟨T', X', e', st⟩ := Jvm.RoadKit.instY X hx hZ hown w q F hg hs hd
  exact ⟨T', ⟨L, X', N, e'⟩, st⟩
theorem Sd.instNull (X : Sd n0 p l e R s m args below meth c T h k n) (hx : p.tables.exec = Jvm.exec) {index : Nat} {g : JFrame} (hg : g.method = m) {rest : List Value} (hs : g.stack = .null :: rest) (hd : decode c.code g.pc = .ok (.instanceof index, 3)) :
    ∀ target, Steps p.tables e below (T.setTop { g with pc := g.pc + 3, stack := .int 0 :: rest }) target → Steps p.tables e below (T.setTop g) target := by
  obtain ⟨L, X, -⟩ := X; exact X.instanceofNull hx hg hs hd
theorem Sd.ldcInt (X : Sd n0 p l e R s m args below meth c T h k n) (hx : p.tables.exec = Jvm.exec) (hZ : Z.Warmed39 s.vm) {own : String} {index : Nat} {v : Int32} (hown : s.vm.findClass own = some m.cls) (w : (Cond.constant own index v).before a0 Z = true) {g : JFrame} (hg : g.method = m) (hd : decode c.code g.pc = .ok (.ldc index, 2)) :
    ∀ target, Steps p.tables e below (T.setTop { g with pc := g.pc + 2, stack := .int v :: g.stack }) target → Steps p.tables e below (T.setTop g) target := by
  obtain ⟨L, X, -⟩ := X; exact X.ldcInt hx hown (mvT hZ w) hg hd
theorem Sd.ldc2Long (X : Sd n0 p l e R s m args below meth c T h k n) (hx : p.tables.exec = Jvm.exec) (hZ : Z.Warmed39 s.vm) {own : String} {index : Nat} {v : Int64} (hown : s.vm.findClass own = some m.cls) (w : (Cond.constantLong own index v).before a0 Z = true) {g : JFrame} (hg : g.method = m) (hd : decode c.code g.pc = .ok (.ldc2_w index, 3)) :
    ∀ target, Steps p.tables e below (T.setTop { g with pc := g.pc + 3, stack := .long v :: g.stack }) target → Steps p.tables e below (T.setTop g) target := by
  obtain ⟨L, X, -⟩ := X; exact X.ldc2Long hx hown (mvT hZ w) hg hd
theorem Sd.acmp {g : JFrame} (X : Sd n0 p l e R s m args below meth c T h k n) (hx : p.tables.exec = Jvm.exec) (hg : g.method = m) {cd : ACond} {x y : Value} (h1 : x.isRef = true) (h2 : y.isRef = true) {rest : List Value} {o : Int} {pc0 pc' : Nat} {same : Bool} (hpc : g.pc = pc0)
    (hd : decode c.code g.pc = .ok (.if_acmp cd o, 3)) (hs : g.stack = y :: x :: rest) (hq : decide (x = y) = same) (ho : 0 ≤ (pc0 : Int) + o) (hp : pc' = if acV cd same = true then ((pc0 : Int) + o).toNat else pc0 + 3) :
    ∀ target, Steps p.tables e below (T.setTop { g with pc := pc', stack := rest }) target → Steps p.tables e below (T.setTop g) target := by
  obtain ⟨L, X, -⟩ := X; exact fun _ => Jvm.RoadKit.acmp X hx hg h1 h2 hpc hd hs hq ho hp
theorem Sd.getFR (X : Sd n0 p l e R s m args below meth c T h k n) (hx : p.tables.exec = Jvm.exec) (hZ : Z.Warmed39 s.vm) {own O nm d : String} {index : Nat} (hown : s.vm.findClass own = some m.cls) (w : (Cond.fieldRef own index O nm d).before a0 Z = true)
    {a : Addr} {v : Value} (F : Fld Z h a O nm d v) {g : JFrame} (hg : g.method = m) {rest : List Value} (hs : g.stack = .ref a :: rest) (hd : decode c.code g.pc = .ok (.getfield index, 3)) :
    ∀ target, Steps p.tables e below (T.setTop { g with pc := g.pc + 3, stack := v :: rest }) target → Steps p.tables e below (T.setTop g) target := by
  obtain ⟨L, X, N, q⟩ := X
  obtain ⟨cell, cf, kk, i, f, h1, h2, h3, h4, h5, h6, h7⟩ := F
  have hT : Z.Warmed39 T.vm := wtrans hZ X.warmed
  have w' := Cond.fieldRef_warmed39 hT w
  have hcur : (Z.setVm T.vm).vm.findClass own = some m.cls := by show T.vm.findClass own = _; rw [X.warmed.alike.findClass]; exact hown
  obtain ⟨c', k', i', f', e1, e2⟩ := Cond.fieldRef_spec hcur w'
  obtain ⟨k2, hi, -⟩ := State.fieldFound?_setVm (s := Z) hT.alike h2
  cases e1.symm.trans hi
  intro target hrest
  subst hg
  jvm_step X.here [hx, hd, getfield.wp_ready (e := e) (s := T) (f := g) X.here.top e2 h3 hs (by rw [q]; exact h1) h4 h7]
  exact hrest
/-! making -/
theorem Sd.newO (X : Sd n0 p l e R s m args below meth c T h k n) (hx : p.tables.exec = Jvm.exec) (hZ : Z.Warmed39 s.vm) {own C : String} {index sz k' n' : Nat} (hown : s.vm.findClass own = some m.cls) (w : (Cond.classLink own index C).before a0 Z = true) (wi : (Cond.instantiable C sz).before a0 Z = true) (wz : (Cond.initialized C).before a0 Z = true)
    {g : JFrame} (hg : g.method = m) (hd : decode c.code g.pc = .ok (.new index, 3)) (hk : k + 1 = k') (hn : n + sz = n') (hc : k' ≤ R.cells) (hl : n' ≤ R.slots) :
    ∃ T' h' a, Sd n0 p l e R s m args below meth c T' h' k' n' ∧ a = h.size ∧ Ext h h' ∧ Exa Z h' a C ∧ (∀ {O nm d : String} {ty : FieldType}, Laid Z a0 C O nm d → parseFieldDescriptor d = some ty → Fld Z h' a O nm d (defaultValue ty)) ∧
      ∀ target, Steps p.tables e below (T'.setTop { g with pc := g.pc + 3, stack := .ref a :: g.stack }) target → Steps p.tables e below (T.setTop g) target := by
  subst hk hn
  obtain ⟨L, X, N, q⟩ := X
  obtain ⟨T', h', X', e', E, A, D, -, st⟩ := Jvm.RoadKit.newO X hx hZ hown w wi wz q hg hd hc hl
  exact ⟨T', h', _, ⟨L, X', N, e'⟩, rfl, E, A, D, st⟩
theorem Sd.initO (X : Sd n0 p l e R s m args below meth c T h k n) (hx : p.tables.exec = Jvm.exec) (hZ : Z.Warmed39 s.vm) {own : String} {idx : Nat} (hown : s.vm.findClass own = some m.cls) (w1 : (Cond.methodLink own idx Lib.objectInit).before a0 Z = true) (w2 : (Cond.instanceMethod Lib.objectInit).before a0 Z = true)
    (w3 : (Cond.code Lib.objectInit ⟨#[0xb1]⟩ 1 none).before a0 Z = true) {g : JFrame} (hg : g.method = m) (hsize : g.locals.size = c.maxLocals) {a : Addr} {rest : List Value} (hs : g.stack = .ref a :: rest) (hd : decode c.code g.pc = .ok (.invokespecial idx, 3))
    (hf : 1 ≤ R.frames) (hl : 2 * g.monitorRoom + (rest.map fun v => v.category).sum + 12 ≤ R.locals) :
    ∃ T', Sd n0 p l e R s m args below meth c T' h k n ∧ ∀ target, Steps p.tables e below (T'.setTop { g with pc := g.pc + 3, stack := rest }) target → Steps p.tables e below (T.setTop g) target := by
  obtain ⟨L, X, N, q⟩ := X
  obtain ⟨T', X', e', st⟩ := Jvm.RoadKit.initO X hx hZ hown w1 w2 w3 q hg hsize hs hd hf (W := 2 * g.monitorRoom + (rest.map fun v => v.category).sum) (Nat.le_refl _) hl
  exact ⟨T', ⟨L, X', N, e'⟩, st⟩
/-- an array of n' places, place i holds f i -/
def Avf (Z : State) (h : Heap) (a : Addr) (kc : ClassId) (ty : FieldType) (sz : Nat) (f : Nat → Value) : Prop := ∃ cl : Cell, Arr Z h a cl ty ∧ cl.cls = kc ∧ cl.slots.size = sz ∧ sz < 2 ^ 31 ∧ ∀ i, i < sz → cl.slots[i]? = some (f i) ∧ fits ty (f i) = true
theorem Avf.lt {h : Heap} {a : Addr} {kc : ClassId} {ty : FieldType} {sz : Nat} {f : Nat → Value} (F : Avf Z h a kc ty sz f) : a < h.size := by obtain ⟨_, A, -⟩ := F; exact A.lt
theorem Avf.ext {h h' : Heap} {a : Addr} {kc : ClassId} {ty : FieldType} {sz : Nat} {f : Nat → Value} (F : Avf Z h a kc ty sz f) (E : Ext h h') : Avf Z h' a kc ty sz f := by obtain ⟨cl, A, r⟩ := F; exact ⟨cl, A.ext E, r⟩
theorem Avf.other {h h' : Heap} {a b : Addr} {kc : ClassId} {ty : FieldType} {sz sl : Nat} {f : Nat → Value} {v : Value} (F : Avf Z h b kc ty sz f) (W : Wr h h' a sl v) (q : b ≠ a) : Avf Z h' b kc ty sz f := by obtain ⟨cl, A, r⟩ := F; exact ⟨cl, A.other W q, r⟩
theorem Avf.keep {h h' : Heap} {a : Addr} {kc : ClassId} {ty : FieldType} {sz : Nat} {f : Nat → Value} {ws : List Addr} (F : Avf Z h a kc ty sz f) (K : Keep h h' ws) (q : a ∉ ws) : Avf Z h' a kc ty sz f := by obtain ⟨cl, A, r⟩ := F; exact ⟨cl, ⟨K.2.1 a cl A.1 q, A.2⟩, r⟩
theorem Avf.cong {h : Heap} {a : Addr} {kc : ClassId} {ty : FieldType} {sz : Nat} {f g : Nat → Value} (F : Avf Z h a kc ty sz f) (q : ∀ i, i < sz → f i = g i) : Avf Z h a kc ty sz g := by
  obtain ⟨cl, A, r1, r2, r3, r4⟩ := F; exact ⟨cl, A, r1, r2, r3, fun i hi => by rw [← q i hi]; exact r4 i hi⟩
theorem Avf.set {h h' : Heap} {a : Addr} {kc : ClassId} {ty : FieldType} {sz : Nat} {f : Nat → Value} {v : Value} {j : Nat} (F : Avf Z h a kc ty sz f) (W : Wr h h' a j v) (hv : fits ty v = true) : Avf Z h' a kc ty sz (fun i => if i = j then v else f i) := by
  obtain ⟨cl, A, r1, r2, r3, r4⟩ := F
  refine ⟨_, A.same W, r1, by rw [sz_set]; exact r2, r3, fun i hi => ?_⟩
  by_cases q : i = j
  · subst q; simp [Cell.setSlot, r2, hi, hv]
  · simp [Cell.setSlot, q, r4 i hi, Array.getElem?_setIfInBounds_ne (Ne.symm q)]
theorem Avf.of_arv {h : Heap} {a : Addr} {kc : ClassId} {ty : FieldType} {z : Int32} {vs : List Value} {dv : Value} (F : Arv Z h a kc ty z vs dv) : Avf Z h a kc ty z.toNatClampNeg (fun i => vs.getD i dv) := by
  obtain ⟨cl, A, r1, r2, r3, H, G⟩ := F
  exact ⟨cl, A, r1, r2, (back32 r3).2, fun i hi => ⟨H i (by rw [r2]; exact hi), G i (by rw [r2]; exact hi)⟩⟩
theorem Sd.newP (X : Sd n0 p l e R s m args below meth c T h k n) (hx : p.tables.exec = Jvm.exec) (hZ : Z.Warmed39 s.vm) {aty : ArrayType} (w : (Cond.arrayClass (newarray.typeOf aty)).before a0 Z = true) {g : JFrame} (hg : g.method = m) (hd : decode c.code g.pc = .ok (.newarray aty, 2)) {z : Int32} {rest : List Value} (hs : g.stack = .int z :: rest)
    (hz : ¬ z < 0) {sz cap k' n' : Nat} (hsz : z.toNatClampNeg = sz) (hcap : sz ≤ cap) (hb : cap * 8 ≤ 536870912) (hk : k + 1 = k') (hn : n + cap = n') (hc : k' ≤ R.cells) (hl : n' ≤ R.slots) {ad : String} (had : "[" ++ (newarray.typeOf aty).toString = ad) :
    ∃ T' h' kc a, Sd n0 p l e R s m args below meth c T' h' k' n' ∧ a = h.size ∧ Ext h h' ∧ Exa Z h' a ad ∧ Avf Z h' a kc (newarray.typeOf aty) sz (fun _ => defaultValue (newarray.typeOf aty)) ∧
      ∀ target, Steps p.tables e below (T'.setTop { g with pc := g.pc + 2, stack := .ref a :: rest }) target → Steps p.tables e below (T.setTop g) target := by
  subst hk hn hsz
  obtain ⟨L, X, N, q⟩ := X
  obtain ⟨T', h', kc, X', e', E, A, Ex, st⟩ := Jvm.RoadKit.newPE X hx hZ w q hg hd hs hz hcap hb hc hl had
  refine ⟨T', h', kc, _, ⟨L, X', N, e'⟩, rfl, E, Ex, ⟨_, A, rfl, sz_new _ _ _, (back32 hz).2, fun i hi => ⟨by simp [newA, hi], ?_⟩⟩, st⟩
  cases aty <;> rfl
theorem Sd.newR (X : Sd n0 p l e R s m args below meth c T h k n) (hx : p.tables.exec = Jvm.exec) (hZ : Z.Warmed39 s.vm) {own C : String} {index : Nat} (hown : s.vm.findClass own = some m.cls) (w1 : (Cond.classLink own index C).before a0 Z = true) (w2 : (Cond.arrayOver (.object C)).before a0 Z = true)
    {g : JFrame} (hg : g.method = m) (hd : decode c.code g.pc = .ok (.anewarray index, 3)) {z : Int32} {rest : List Value} (hs : g.stack = .int z :: rest)
    (hz : ¬ z < 0) {sz cap k' n' : Nat} (hsz : z.toNatClampNeg = sz) (hcap : sz ≤ cap) (hb : cap * 8 ≤ 536870912) (hk : k + 1 = k') (hn : n + cap = n') (hc : k' ≤ R.cells) (hl : n' ≤ R.slots) {ad : String} (had : "[" ++ (FieldType.object C).toString = ad) :
    ∃ T' h' kc a, Sd n0 p l e R s m args below meth c T' h' k' n' ∧ a = h.size ∧ Ext h h' ∧ Exa Z h' a ad ∧ Avf Z h' a kc (.object C) sz (fun _ => .null) ∧ Ovr Z kc C ∧
      ∀ target, Steps p.tables e below (T'.setTop { g with pc := g.pc + 3, stack := .ref a :: rest }) target → Steps p.tables e below (T.setTop g) target := by
  subst hk hn hsz
  obtain ⟨L, X, N, q⟩ := X
  obtain ⟨T', h', kc, X', e', E, A, Ex, O, st⟩ := Jvm.RoadKit.newRE X hx hZ hown w1 w2 q hg hd hs hz hcap hb hc hl had
  exact ⟨T', h', kc, _, ⟨L, X', N, e'⟩, rfl, E, Ex, ⟨_, A, rfl, sz_new _ _ _, (back32 hz).2, fun i hi => ⟨by simp [newA, hi, defaultValue], rfl⟩⟩, O, st⟩
theorem Sd.clone (X : Sd n0 p l e R s m args below meth c T h k n) (hx : p.tables.exec = Jvm.exec) (hZ : Z.Warmed39 s.vm) {own ad : String} {index : Nat} (hown : s.vm.findClass own = some m.cls)
    (w1 : (Cond.methodLink own index ⟨ad, "clone", "()Ljava/lang/Object;"⟩).before a0 Z = true) (w2 : (Cond.sameMethod ad "java/lang/Object" "clone" "()Ljava/lang/Object;").before a0 Z = true) (w3 : (Cond.native ⟨"java/lang/Object", "clone", "()Ljava/lang/Object;"⟩).before a0 Z = true)
    (w4 : (Cond.instanceMethod ⟨"java/lang/Object", "clone", "()Ljava/lang/Object;"⟩).before a0 Z = true) (w5 : (Cond.selects ad ⟨ad, "clone", "()Ljava/lang/Object;"⟩ ⟨"java/lang/Object", "clone", "()Ljava/lang/Object;"⟩).before a0 Z = true) (w6 : (Cond.castable ad "java/lang/Cloneable").before a0 Z = true)
    {a : Addr} {kc : ClassId} {ty : FieldType} {sz : Nat} {f : Nat → Value} (F : Avf Z h a kc ty sz f) (E : Exa Z h a ad) {g : JFrame} (hg : g.method = m) (hsize : g.locals.size = c.maxLocals) {rest : List Value} (hst : g.stack = .ref a :: rest) (hd : decode c.code g.pc = .ok (.invokevirtual index, 3))
    (hf : 1 ≤ R.frames) (hl : 2 * g.monitorRoom + (rest.map fun v => v.category).sum + 14 ≤ R.locals) {cap k' n' : Nat} (hcap : sz ≤ cap) (hk : k + 1 = k') (hn : n + cap = n') (hc : k' ≤ R.cells) (hs : n' ≤ R.slots) :
    ∃ T' h' b, Sd n0 p l e R s m args below meth c T' h' k' n' ∧ b = h.size ∧ Ext h h' ∧ Exa Z h' b ad ∧ Avf Z h' b kc ty sz f ∧ ∀ target, Steps p.tables e below (T'.setTop { g with pc := g.pc + 3, stack := .ref b :: rest }) target → Steps p.tables e below (T.setTop g) target := by
  subst hk hn
  obtain ⟨L, X, N, q⟩ := X
  obtain ⟨cl, A, r1, r2, r3, r4⟩ := F
  have FC : FitC Z cl := fitC_of A fun i hi v hv => by rw [(r4 i (r2 ▸ hi)).1] at hv; cases hv; exact (r4 i (r2 ▸ hi)).2
  obtain ⟨T', h', X', e', ex, A', E', st⟩ := cloneA X hx hZ hown w1 w2 w3 w4 w5 w6 q A E FC hg hsize hst hd hf (W := 2 * g.monitorRoom + (rest.map fun v => v.category).sum) (Nat.le_refl _) hl (by rw [r2]; exact hcap) hc hs
  exact ⟨T', h', _, ⟨L, X', N, e'⟩, rfl, ex, E', ⟨cloneOf cl, A', r1, r2, r3, r4⟩, st⟩
/-! arrays: length, load, store -/
theorem Sd.len (X : Sd n0 p l e R s m args below meth c T h k n) (hx : p.tables.exec = Jvm.exec) (hZ : Z.Warmed39 s.vm) {a : Addr} {kc : ClassId} {ty : FieldType} {sz : Nat} {f : Nat → Value} (F : Avf Z h a kc ty sz f) {z : Int32} (hz : sz.toInt32 = z)
    {g : JFrame} (hg : g.method = m) {rest : List Value} (hs : g.stack = .ref a :: rest) (hd : decode c.code g.pc = .ok (.arraylength, 1)) :
    ∀ target, Steps p.tables e below (T.setTop { g with pc := g.pc + 1, stack := .int z :: rest }) target → Steps p.tables e below (T.setTop g) target := by
  obtain ⟨L, X, -, q⟩ := X
  obtain ⟨cl, A, r1, r2, r3, r4⟩ := F
  intro t kt
  refine X.arraylength hx (by rw [q]; exact A.1) (State.isArrayOf_alike hZ.alike A.2.1) hg hs hd _ ?_
  rw [r2, hz]; exact kt
theorem inb {cl : Cell} {sz i : Nat} {j : Int32} (r2 : cl.slots.size = sz) (hj : ¬ j < 0) (hi : j.toNatClampNeg = i) (hlt : i < sz) : ¬ (j < 0 ∨ cl.slots.size ≤ j.toNatClampNeg) := fun q => q.elim hj fun q => by omega
theorem Sd.ldI (X : Sd n0 p l e R s m args below meth c T h k n) (hx : p.tables.exec = Jvm.exec) (hZ : Z.Warmed39 s.vm) {a : Addr} {kc : ClassId} {sz : Nat} {f : Nat → Value} (F : Avf Z h a kc .int sz f) {j : Int32} (hj : ¬ j < 0) {i : Nat} (hi : j.toNatClampNeg = i) (hlt : i < sz) {v : Value} (hv : f i = v)
    {g : JFrame} (hg : g.method = m) {rest : List Value} (hs : g.stack = .int j :: .ref a :: rest) (hd : decode c.code g.pc = .ok (.iaload, 1)) :
    ∀ target, Steps p.tables e below (T.setTop { g with pc := g.pc + 1, stack := v :: rest }) target → Steps p.tables e below (T.setTop g) target := by
  subst hv
  obtain ⟨L, X, -, q⟩ := X
  obtain ⟨cl, A, r1, r2, r3, r4⟩ := F
  exact X.iaload hx (by rw [q]; exact A.1) (State.isArrayOf_alike hZ.alike A.2.1) A.2.2 (inb r2 hj hi hlt) (by rw [hi]; exact (r4 i hlt).1) hg hs hd
theorem Sd.ldJ (X : Sd n0 p l e R s m args below meth c T h k n) (hx : p.tables.exec = Jvm.exec) (hZ : Z.Warmed39 s.vm) {a : Addr} {kc : ClassId} {sz : Nat} {f : Nat → Value} (F : Avf Z h a kc .long sz f) {j : Int32} (hj : ¬ j < 0) {i : Nat} (hi : j.toNatClampNeg = i) (hlt : i < sz) {v : Value} (hv : f i = v)
    {g : JFrame} (hg : g.method = m) {rest : List Value} (hs : g.stack = .int j :: .ref a :: rest) (hd : decode c.code g.pc = .ok (.laload, 1)) :
    ∀ target, Steps p.tables e below (T.setTop { g with pc := g.pc + 1, stack := v :: rest }) target → Steps p.tables e below (T.setTop g) target := by
  subst hv
  obtain ⟨L, X, -, q⟩ := X
  obtain ⟨cl, A, r1, r2, r3, r4⟩ := F
  exact X.laload hx (by rw [q]; exact A.1) (State.isArrayOf_alike hZ.alike A.2.1) A.2.2 (inb r2 hj hi hlt) (by rw [hi]; exact (r4 i hlt).1) hg hs hd
theorem Sd.ldC (X : Sd n0 p l e R s m args below meth c T h k n) (hx : p.tables.exec = Jvm.exec) (hZ : Z.Warmed39 s.vm) {a : Addr} {kc : ClassId} {sz : Nat} {f : Nat → Value} (F : Avf Z h a kc .char sz f) {j : Int32} (hj : ¬ j < 0) {i : Nat} (hi : j.toNatClampNeg = i) (hlt : i < sz) {v : Value} (hv : f i = v)
    {g : JFrame} (hg : g.method = m) {rest : List Value} (hs : g.stack = .int j :: .ref a :: rest) (hd : decode c.code g.pc = .ok (.caload, 1)) :
    ∀ target, Steps p.tables e below (T.setTop { g with pc := g.pc + 1, stack := v :: rest }) target → Steps p.tables e below (T.setTop g) target := by
  subst hv
  obtain ⟨L, X, -, q⟩ := X
  obtain ⟨cl, A, r1, r2, r3, r4⟩ := F
  exact X.caload hx (by rw [q]; exact A.1) (State.isArrayOf_alike hZ.alike A.2.1) A.2.2 (inb r2 hj hi hlt) (by rw [hi]; exact (r4 i hlt).1) hg hs hd
theorem Sd.ldB (X : Sd n0 p l e R s m args below meth c T h k n) (hx : p.tables.exec = Jvm.exec) (hZ : Z.Warmed39 s.vm) {a : Addr} {kc : ClassId} {sz : Nat} {f : Nat → Value} (F : Avf Z h a kc .byte sz f) {j : Int32} (hj : ¬ j < 0) {i : Nat} (hi : j.toNatClampNeg = i) (hlt : i < sz) {v : Value} (hv : f i = v)
    {g : JFrame} (hg : g.method = m) {rest : List Value} (hs : g.stack = .int j :: .ref a :: rest) (hd : decode c.code g.pc = .ok (.baload, 1)) :
    ∀ target, Steps p.tables e below (T.setTop { g with pc := g.pc + 1, stack := v :: rest }) target → Steps p.tables e below (T.setTop g) target := by
  subst hv
  obtain ⟨L, X, -, q⟩ := X
  obtain ⟨cl, A, r1, r2, r3, r4⟩ := F
  exact X.baloadBytes hx (by rw [q]; exact A.1) (State.isArrayOf_alike hZ.alike A.2.1) A.2.2 (inb r2 hj hi hlt) (by rw [hi]; exact (r4 i hlt).1) hg hs hd
theorem Sd.ldA (X : Sd n0 p l e R s m args below meth c T h k n) (hx : p.tables.exec = Jvm.exec) (hZ : Z.Warmed39 s.vm) {a : Addr} {kc : ClassId} {ty : FieldType} {sz : Nat} {f : Nat → Value} (F : Avf Z h a kc ty sz f) (hty : ty.isReference = true) {j : Int32} (hj : ¬ j < 0) {i : Nat} (hi : j.toNatClampNeg = i) (hlt : i < sz) {v : Value} (hv : f i = v)
    {g : JFrame} (hg : g.method = m) {rest : List Value} (hs : g.stack = .int j :: .ref a :: rest) (hd : decode c.code g.pc = .ok (.aaload, 1)) :
    ∀ target, Steps p.tables e below (T.setTop { g with pc := g.pc + 1, stack := v :: rest }) target → Steps p.tables e below (T.setTop g) target := by
  subst hv
  obtain ⟨L, X, -, q⟩ := X
  obtain ⟨cl, A, r1, r2, r3, r4⟩ := F
  exact X.aaload hx (by rw [q]; exact A.1) (State.isArrayOf_alike hZ.alike A.2.1) hty A.2.2 (inb r2 hj hi hlt) (by rw [hi]; exact (r4 i hlt).1) hg hs hd
theorem Sd.stI (X : Sd n0 p l e R s m args below meth c T h k n) (hx : p.tables.exec = Jvm.exec) (hZ : Z.Warmed39 s.vm) {a : Addr} {kc : ClassId} {sz : Nat} {f : Nat → Value} (F : Avf Z h a kc .int sz f) (ga : n0 ≤ a) {j x : Int32} (hj : ¬ j < 0) {i : Nat} (hi : j.toNatClampNeg = i) (hlt : i < sz)
    {g : JFrame} (hg : g.method = m) {rest : List Value} (hs : g.stack = .int x :: .int j :: .ref a :: rest) (hd : decode c.code g.pc = .ok (.iastore, 1)) :
    ∃ T' h', Sd n0 p l e R s m args below meth c T' h' k n ∧ Wr h h' a i (.int x) ∧ Avf Z h' a kc .int sz (fun t => if t = i then .int x else f t) ∧ ∀ target, Steps p.tables e below (T'.setTop { g with pc := g.pc + 1, stack := rest }) target → Steps p.tables e below (T.setTop g) target := by
  obtain ⟨L, X, N, q⟩ := X
  obtain ⟨cl, A, r1, r2, r3, r4⟩ := F
  obtain ⟨T', h', X', e', W, st⟩ := Jvm.RoadKit.stI X hx hZ q A (inb r2 hj hi hlt) hg hs hd
  subst hi
  exact ⟨T', h', ⟨_, X', Fr.snoc X' N ga, e'⟩, W, Avf.set ⟨cl, A, r1, r2, r3, r4⟩ W rfl, st⟩
theorem Sd.stJ (X : Sd n0 p l e R s m args below meth c T h k n) (hx : p.tables.exec = Jvm.exec) (hZ : Z.Warmed39 s.vm) {a : Addr} {kc : ClassId} {sz : Nat} {f : Nat → Value} (F : Avf Z h a kc .long sz f) (ga : n0 ≤ a) {j : Int32} {x : Int64} (hj : ¬ j < 0) {i : Nat} (hi : j.toNatClampNeg = i) (hlt : i < sz)
    {g : JFrame} (hg : g.method = m) {rest : List Value} (hs : g.stack = .long x :: .int j :: .ref a :: rest) (hd : decode c.code g.pc = .ok (.lastore, 1)) :
    ∃ T' h', Sd n0 p l e R s m args below meth c T' h' k n ∧ Wr h h' a i (.long x) ∧ Avf Z h' a kc .long sz (fun t => if t = i then .long x else f t) ∧ ∀ target, Steps p.tables e below (T'.setTop { g with pc := g.pc + 1, stack := rest }) target → Steps p.tables e below (T.setTop g) target := by
  obtain ⟨L, X, N, q⟩ := X
  obtain ⟨cl, A, r1, r2, r3, r4⟩ := F
  obtain ⟨T', h', X', e', W, st⟩ := Jvm.RoadKit.stJ X hx hZ q A (inb r2 hj hi hlt) hg hs hd
  subst hi
  exact ⟨T', h', ⟨_, X', Fr.snoc X' N ga, e'⟩, W, Avf.set ⟨cl, A, r1, r2, r3, r4⟩ W rfl, st⟩
theorem Sd.stB (X : Sd n0 p l e R s m args below meth c T h k n) (hx : p.tables.exec = Jvm.exec) (hZ : Z.Warmed39 s.vm) {a : Addr} {kc : ClassId} {sz : Nat} {f : Nat → Value} (F : Avf Z h a kc .byte sz f) (ga : n0 ≤ a) {j x : Int32} (hj : ¬ j < 0) {i : Nat} (hi : j.toNatClampNeg = i) (hlt : i < sz)
    {g : JFrame} (hg : g.method = m) {rest : List Value} (hs : g.stack = .int x :: .int j :: .ref a :: rest) (hd : decode c.code g.pc = .ok (.bastore, 1)) :
    ∃ T' h', Sd n0 p l e R s m args below meth c T' h' k n ∧ Wr h h' a i (.int x.toInt8.toInt32) ∧ Avf Z h' a kc .byte sz (fun t => if t = i then .int x.toInt8.toInt32 else f t) ∧ ∀ target, Steps p.tables e below (T'.setTop { g with pc := g.pc + 1, stack := rest }) target → Steps p.tables e below (T.setTop g) target := by
  obtain ⟨L, X, N, q⟩ := X
  obtain ⟨cl, A, r1, r2, r3, r4⟩ := F
  obtain ⟨T', h', X', e', W, st⟩ := Jvm.RoadKit.stB X hx hZ q A (inb r2 hj hi hlt) hg hs hd
  subst hi
  exact ⟨T', h', ⟨_, X', Fr.snoc X' N ga, e'⟩, W, Avf.set ⟨cl, A, r1, r2, r3, r4⟩ W (fits_nar_byte _), st⟩
theorem Sd.stC (X : Sd n0 p l e R s m args below meth c T h k n) (hx : p.tables.exec = Jvm.exec) (hZ : Z.Warmed39 s.vm) {a : Addr} {kc : ClassId} {sz : Nat} {f : Nat → Value} (F : Avf Z h a kc .char sz f) (ga : n0 ≤ a) {j x : Int32} (hj : ¬ j < 0) {i : Nat} (hi : j.toNatClampNeg = i) (hlt : i < sz)
    {g : JFrame} (hg : g.method = m) {rest : List Value} (hs : g.stack = .int x :: .int j :: .ref a :: rest) (hd : decode c.code g.pc = .ok (.castore, 1)) :
    ∃ T' h', Sd n0 p l e R s m args below meth c T' h' k n ∧ Wr h h' a i (.int (nar .char x)) ∧ Avf Z h' a kc .char sz (fun t => if t = i then .int (nar .char x) else f t) ∧ ∀ target, Steps p.tables e below (T'.setTop { g with pc := g.pc + 1, stack := rest }) target → Steps p.tables e below (T.setTop g) target := by
  obtain ⟨L, X, N, q⟩ := X
  obtain ⟨cl, A, r1, r2, r3, r4⟩ := F
  obtain ⟨T', h', X', e', W, st⟩ := Jvm.RoadKit.stC X hx hZ q A (inb r2 hj hi hlt) hg hs hd
  subst hi
  exact ⟨T', h', ⟨_, X', Fr.snoc X' N ga, e'⟩, W, Avf.set ⟨cl, A, r1, r2, r3, r4⟩ W (fits_nar_char _), st⟩
theorem Sd.newRA (X : Sd n0 p l e R s m args below meth c T h k n) (hx : p.tables.exec = Jvm.exec) (hZ : Z.Warmed39 s.vm) {own C : String} {ty : FieldType} {index : Nat} (hown : s.vm.findClass own = some m.cls) (hC : (FieldType.array ty).toString = C) (w1 : (Cond.classLink own index C).before a0 Z = true) (w2 : (Cond.arrayOver (.array ty)).before a0 Z = true)
    {g : JFrame} (hg : g.method = m) (hd : decode c.code g.pc = .ok (.anewarray index, 3)) {z : Int32} {rest : List Value} (hs : g.stack = .int z :: rest)
    (hz : ¬ z < 0) {sz cap k' n' : Nat} (hsz : z.toNatClampNeg = sz) (hcap : sz ≤ cap) (hb : cap * 8 ≤ 536870912) (hk : k + 1 = k') (hn : n + cap = n') (hc : k' ≤ R.cells) (hl : n' ≤ R.slots) {ad : String} (had : "[" ++ C = ad) :
    ∃ T' h' kc a, Sd n0 p l e R s m args below meth c T' h' k' n' ∧ a = h.size ∧ Ext h h' ∧ Exa Z h' a ad ∧ Avf Z h' a kc (.array ty) sz (fun _ => .null) ∧ OvrA Z kc ty C ∧
      ∀ target, Steps p.tables e below (T'.setTop { g with pc := g.pc + 3, stack := .ref a :: rest }) target → Steps p.tables e below (T.setTop g) target := by
  subst hk hn hsz
  obtain ⟨L, X, N, q⟩ := X
  obtain ⟨T', h', kc, X', e', E, A, Ex, O, st⟩ := Jvm.RoadKit.newRA X hx hZ hown hC w1 w2 q hg hd hs hz hcap hb hc hl had
  exact ⟨T', h', kc, _, ⟨L, X', N, e'⟩, rfl, E, Ex, ⟨_, A, rfl, sz_new _ _ _, (back32 hz).2, fun i hi => ⟨by simp [newA, hi, defaultValue], rfl⟩⟩, O, st⟩
theorem Sd.stR (X : Sd n0 p l e R s m args below meth c T h k n) (hx : p.tables.exec = Jvm.exec) (hZ : Z.Warmed39 s.vm) {a : Addr} {kc : ClassId} {ty : FieldType} {sz : Nat} {f : Nat → Value} (F : Avf Z h a kc ty sz f) (ga : n0 ≤ a) (hty : ty.isReference = true) {j : Int32} {v : Value} (hv : v.isRef = true) (St : Sto Z h a v) (hj : ¬ j < 0) {i : Nat} (hi : j.toNatClampNeg = i) (hlt : i < sz)
    {g : JFrame} (hg : g.method = m) {rest : List Value} (hs : g.stack = v :: .int j :: .ref a :: rest) (hd : decode c.code g.pc = .ok (.aastore, 1)) :
    ∃ T' h', Sd n0 p l e R s m args below meth c T' h' k n ∧ Wr h h' a i v ∧ Avf Z h' a kc ty sz (fun t => if t = i then v else f t) ∧ ∀ target, Steps p.tables e below (T'.setTop { g with pc := g.pc + 1, stack := rest }) target → Steps p.tables e below (T.setTop g) target := by
  obtain ⟨L, X, N, q⟩ := X
  obtain ⟨cl, A, r1, r2, r3, r4⟩ := F
  obtain ⟨T', h', X', e', W, st⟩ := Jvm.RoadKit.stR X hx hZ q A (inb r2 hj hi hlt) hty St hg hs hd
  subst hi
  have hf : fits ty v = true := by cases ty <;> first | (cases hty; done) | (cases v <;> first | rfl | (cases hv; done))
  exact ⟨T', h', ⟨_, X', Fr.snoc X' N ga, e'⟩, W, Avf.set ⟨cl, A, r1, r2, r3, r4⟩ W hf, st⟩
/-! calls -/
theorem Sd.callS (X : Sd n0 p l e R s m args below meth c T h k n) (hx : p.tables.exec = Jvm.exec) (hZ : Z.Warmed39 s.vm) {own : String} {index : Nat} {y : MethodName} {bytes : ByteArray} {maxL : Nat} {ret : Option FieldType} {rm : Room} {as' : Array Value} {Q : Option Value → Heap → Prop}
    (hown : s.vm.findClass own = some m.cls) (w1 : (Cond.methodLink own index y).before a0 Z = true) (w2 : (Cond.static y).before a0 Z = true) (w3 : (Cond.initialized y.cls).before a0 Z = true) (w4 : (Cond.code y bytes maxL ret).before a0 Z = true) (hy : y.cls ≠ "java/lang/invoke/MethodHandle" ∧ y.cls ≠ "java/lang/invoke/VarHandle")
    (hM : Met l Z n0 y bytes maxL ret [] rm as' h Q) {g : JFrame} (hg : g.method = m) (hsize : g.locals.size = c.maxLocals) {argsL rest : List Value} (hlen : ∀ sig, parseMethodDescriptor y.desc = some sig → argsL.length = sig.parameters.length)
    (hstack : g.stack = argsL.reverse ++ rest) (hd : decode c.code g.pc = .ok (.invokestatic index, 3)) (has : argsL.toArray = as') (hf : rm.frames + 1 ≤ R.frames) (hl : 2 * g.monitorRoom + (rest.map fun v => v.category).sum + (maxL + 11) + rm.locals ≤ R.locals)
    {k' n' : Nat} (hk : k + rm.cells = k') (hn : n + rm.slots = n') (hc : k' ≤ R.cells) (hs : n' ≤ R.slots) :
    ∃ v T' h', Sd n0 p l e R s m args below meth c T' h' k' n' ∧ Q v h' ∧ ∀ target, Steps p.tables e below (T'.setTop { g with pc := g.pc + 3, stack := v.toList ++ rest }) target → Steps p.tables e below (T.setTop g) target := by
  subst hk hn
  obtain ⟨L, X, N, q⟩ := X
  obtain ⟨v, _, ⟨T', L', k1, n1⟩, -, X', ⟨Lc, hQ, q1, q2, q3⟩, st⟩ := Jvm.LawKit.callS X hx (y := y) hown (mvT hZ w1) (mvT hZ w2) (mvT hZ w3) (mvT hZ w4) hy (backOf (Q := fun v h L => Q v h ∧ Fr n0 L) hM hZ w4 w3 hf hl) hg hsize hlen hstack (Nat.le_refl _) hd (fun _ _ => ⟨has, q, hc, hs⟩)
  dsimp only [Pt.U, Pt.locs, Pt.cells, Pt.slots] at X' q1 q2 q3 st hQ
  subst q1 q2 q3
  exact ⟨v, T', _, ⟨_, X', Fr.app N hQ.2, rfl⟩, hQ.1, st⟩
theorem Sd.callI (X : Sd n0 p l e R s m args below meth c T h k n) (hx : p.tables.exec = Jvm.exec) (hZ : Z.Warmed39 s.vm) {own : String} {index : Nat} {y : MethodName} {bytes : ByteArray} {maxL : Nat} {rm : Room} {as' : Array Value} {Q : Option Value → Heap → Prop} (hy1 : y.name = "<init>")
    (hown : s.vm.findClass own = some m.cls) (w1 : (Cond.methodLink own index y).before a0 Z = true) (w2 : (Cond.instanceMethod y).before a0 Z = true) (w3 : (Cond.initialized y.cls).before a0 Z = true) (w4 : (Cond.code y bytes maxL none).before a0 Z = true) (hy : y.cls ≠ "java/lang/invoke/MethodHandle" ∧ y.cls ≠ "java/lang/invoke/VarHandle")
    (hM : Met l Z n0 y bytes maxL none [] rm as' h Q) {g : JFrame} (hg : g.method = m) (hsize : g.locals.size = c.maxLocals) {a : Addr} {argsL rest : List Value} (hlen : ∀ sig, parseMethodDescriptor y.desc = some sig → argsL.length = sig.parameters.length)
    (hstack : g.stack = argsL.reverse ++ .ref a :: rest) (hd : decode c.code g.pc = .ok (.invokespecial index, 3)) (has : (.ref a :: argsL).toArray = as') (hf : rm.frames + 1 ≤ R.frames) (hl : 2 * g.monitorRoom + (rest.map fun v => v.category).sum + (maxL + 11) + rm.locals ≤ R.locals)
    {k' n' : Nat} (hk : k + rm.cells = k') (hn : n + rm.slots = n') (hc : k' ≤ R.cells) (hs : n' ≤ R.slots) :
    ∃ v T' h', Sd n0 p l e R s m args below meth c T' h' k' n' ∧ Q v h' ∧ ∀ target, Steps p.tables e below (T'.setTop { g with pc := g.pc + 3, stack := v.toList ++ rest }) target → Steps p.tables e below (T.setTop g) target := by
  subst hk hn
  obtain ⟨L, X, N, q⟩ := X
  obtain ⟨v, _, ⟨T', L', k1, n1⟩, -, X', ⟨Lc, hQ, q1, q2, q3⟩, st⟩ := X.specialBack hx (y := y) hy1 hown (mvT hZ w1) (mvT hZ w2) (mvT hZ w4) hy (backOf (Q := fun v h L => Q v h ∧ Fr n0 L) hM hZ w4 w3 hf hl) hg hsize (Steps.refl _) hlen hstack (Nat.le_refl _) hd (fun _ _ => ⟨has, q, hc, hs⟩)
  dsimp only [Pt.U, Pt.locs, Pt.cells, Pt.slots] at X' q1 q2 q3 st hQ
  subst q1 q2 q3
  exact ⟨v, T', _, ⟨_, X', Fr.app N hQ.2, rfl⟩, hQ.1, fun _ kt => st.trans kt⟩
theorem Sd.callV (X : Sd n0 p l e R s m args below meth c T h k n) (hx : p.tables.exec = Jvm.exec) (hZ : Z.Warmed39 s.vm) {own C : String} {index : Nat} {y z : MethodName} {bytes : ByteArray} {maxL : Nat} {ret : Option FieldType} {rm : Room} {as' : Array Value} {Q : Option Value → Heap → Prop}
    (hown : s.vm.findClass own = some m.cls) (w1 : (Cond.methodLink own index y).before a0 Z = true) (w2 : (Cond.declares y).before a0 Z = true) (hnf : NotFace s y) (w5 : (Cond.selects C y z).before a0 Z = true) (w6 : (Cond.instanceMethod z).before a0 Z = true) (w3 : (Cond.initialized z.cls).before a0 Z = true) (w4 : (Cond.code z bytes maxL ret).before a0 Z = true) (hy : y.cls ≠ "java/lang/invoke/MethodHandle" ∧ y.cls ≠ "java/lang/invoke/VarHandle")
    (hM : Met l Z n0 z bytes maxL ret [] rm as' h Q) {a : Addr} (E : Exa Z h a C) {g : JFrame} (hg : g.method = m) (hsize : g.locals.size = c.maxLocals) {argsL rest : List Value} (hlen : ∀ sig, parseMethodDescriptor y.desc = some sig → argsL.length = sig.parameters.length)
    (hstack : g.stack = argsL.reverse ++ .ref a :: rest) (hd : decode c.code g.pc = .ok (.invokevirtual index, 3)) (has : (.ref a :: argsL).toArray = as') (hf : rm.frames + 1 ≤ R.frames) (hl : 2 * g.monitorRoom + (rest.map fun v => v.category).sum + (maxL + 11) + rm.locals ≤ R.locals)
    {k' n' : Nat} (hk : k + rm.cells = k') (hn : n + rm.slots = n') (hc : k' ≤ R.cells) (hs : n' ≤ R.slots) :
    ∃ v T' h', Sd n0 p l e R s m args below meth c T' h' k' n' ∧ Q v h' ∧ ∀ target, Steps p.tables e below (T'.setTop { g with pc := g.pc + 3, stack := v.toList ++ rest }) target → Steps p.tables e below (T.setTop g) target := by
  subst hk hn
  obtain ⟨L, X, N, q⟩ := X
  obtain ⟨cB, kB, b1, b2, b3⟩ := isOf (T := T) hZ q E
  obtain ⟨v, _, ⟨T', L', k1, n1⟩, -, X', ⟨Lc, hQ, q1, q2, q3⟩, st⟩ := X.virtualBack hx (y := y) (z := z) hown (mvT hZ w1) (mvT hZ w2) hnf (mvT hZ w5) (mvT hZ w6) hy (backOf (Q := fun v h L => Q v h ∧ Fr n0 L) hM hZ w4 w3 hf hl) b1 b3 hg hsize (Steps.refl _) hlen hstack (Nat.le_refl _) hd (fun _ _ => ⟨has, q, hc, hs⟩)
  dsimp only [Pt.U, Pt.locs, Pt.cells, Pt.slots] at X' q1 q2 q3 st hQ
  subst q1 q2 q3
  exact ⟨v, T', _, ⟨_, X', Fr.app N hQ.2, rfl⟩, hQ.1, fun _ kt => st.trans kt⟩
theorem Sd.callP (X : Sd n0 p l e R s m args below meth c T h k n) (hx : p.tables.exec = Jvm.exec) (hZ : Z.Warmed39 s.vm) {own C : String} {index : Nat} {y : MethodName} {bytes : ByteArray} {maxL : Nat} {ret : Option FieldType} {rm : Room} {as' : Array Value} {Q : Option Value → Heap → Prop}
    (hown : s.vm.findClass own = some m.cls) (w1 : (Cond.methodLink own index y).before a0 Z = true) (w6 : (Cond.instanceMethod y).before a0 Z = true) (w5 : (Cond.selects y.cls y y).before a0 Z = true) (w7 : (Cond.privateMethod y).before a0 Z = true) (w3 : (Cond.initialized y.cls).before a0 Z = true) (w4 : (Cond.code y bytes maxL ret).before a0 Z = true) (hy : y.cls ≠ "java/lang/invoke/MethodHandle" ∧ y.cls ≠ "java/lang/invoke/VarHandle")
    (hM : Met l Z n0 y bytes maxL ret [] rm as' h Q) {a : Addr} (E : Exa Z h a C) {g : JFrame} (hg : g.method = m) (hsize : g.locals.size = c.maxLocals) {argsL rest : List Value} (hlen : ∀ sig, parseMethodDescriptor y.desc = some sig → argsL.length = sig.parameters.length)
    (hstack : g.stack = argsL.reverse ++ .ref a :: rest) (hd : decode c.code g.pc = .ok (.invokevirtual index, 3)) (has : (.ref a :: argsL).toArray = as') (hf : rm.frames + 1 ≤ R.frames) (hl : 2 * g.monitorRoom + (rest.map fun v => v.category).sum + (maxL + 11) + rm.locals ≤ R.locals)
    {k' n' : Nat} (hk : k + rm.cells = k') (hn : n + rm.slots = n') (hc : k' ≤ R.cells) (hs : n' ≤ R.slots) :
    ∃ v T' h', Sd n0 p l e R s m args below meth c T' h' k' n' ∧ Q v h' ∧ ∀ target, Steps p.tables e below (T'.setTop { g with pc := g.pc + 3, stack := v.toList ++ rest }) target → Steps p.tables e below (T.setTop g) target := by
  subst hk hn
  obtain ⟨L, X, N, q⟩ := X
  obtain ⟨cl, b1, b2⟩ := E.cell
  obtain ⟨v, _, ⟨T', L', k1, n1⟩, -, X', ⟨Lc, hQ, q1, q2, q3⟩, st⟩ := X.privateBack hx (y := y) hown (mvT hZ w1) (mvT hZ w6) (mvT hZ w5) (Cond.privateMethod_at (mvP hZ w7 (args := #[]))) (mvT hZ w4) hy (backOf (Q := fun v h L => Q v h ∧ Fr n0 L) hM hZ w4 w3 hf hl) hg hsize (Steps.refl _) (a := a) (by rw [q]; exact b1) b2 hlen hstack (Nat.le_refl _) hd (fun _ _ => ⟨has, q, hc, hs⟩)
  dsimp only [Pt.U, Pt.locs, Pt.cells, Pt.slots] at X' q1 q2 q3 st hQ
  subst q1 q2 q3
  exact ⟨v, T', _, ⟨_, X', Fr.app N hQ.2, rfl⟩, hQ.1, fun _ kt => st.trans kt⟩
theorem Sd.callU (X : Sd n0 p l e R s m args below meth c T h k n) (hx : p.tables.exec = Jvm.exec) (hZ : Z.Warmed39 s.vm) {own C owner : String} {index : Nat} {y z : MethodName} {bytes : ByteArray} {maxL : Nat} {ret : Option FieldType} {rm : Room} {as' : Array Value} {Q : Option Value → Heap → Prop}
    (hown : s.vm.findClass own = some m.cls) (w1 : (Cond.methodLink own index y).before a0 Z = true) (w2 : (Cond.sameMethod y.cls owner y.name y.desc).before a0 Z = true) (w7 : (Cond.declares ⟨owner, y.name, y.desc⟩).before a0 Z = true) (ho : owner ≠ "java/lang/invoke/MethodHandle" ∧ owner ≠ "java/lang/invoke/VarHandle") (w5 : (Cond.selects C y z).before a0 Z = true) (w6 : (Cond.instanceMethod z).before a0 Z = true) (w3 : (Cond.initialized z.cls).before a0 Z = true) (w4 : (Cond.code z bytes maxL ret).before a0 Z = true)
    (hM : Met l Z n0 z bytes maxL ret [] rm as' h Q) {a : Addr} (E : Exa Z h a C) {g : JFrame} (hg : g.method = m) (hsize : g.locals.size = c.maxLocals) {argsL rest : List Value} (hlen : ∀ sig, parseMethodDescriptor y.desc = some sig → argsL.length = sig.parameters.length)
    (hstack : g.stack = argsL.reverse ++ .ref a :: rest) (hd : decode c.code g.pc = .ok (.invokevirtual index, 3)) (has : (.ref a :: argsL).toArray = as') (hf : rm.frames + 1 ≤ R.frames) (hl : 2 * g.monitorRoom + (rest.map fun v => v.category).sum + (maxL + 11) + rm.locals ≤ R.locals)
    {k' n' : Nat} (hk : k + rm.cells = k') (hn : n + rm.slots = n') (hc : k' ≤ R.cells) (hs : n' ≤ R.slots) :
    ∃ v T' h', Sd n0 p l e R s m args below meth c T' h' k' n' ∧ Q v h' ∧ ∀ target, Steps p.tables e below (T'.setTop { g with pc := g.pc + 3, stack := v.toList ++ rest }) target → Steps p.tables e below (T.setTop g) target := by
  subst hk hn
  obtain ⟨L, X, N, q⟩ := X
  obtain ⟨cB, kB, b1, b2, b3⟩ := isOf (T := T) hZ q E
  obtain ⟨v, _, ⟨T', L', k1, n1⟩, -, X', ⟨Lc, hQ, q1, q2, q3⟩, st⟩ := X.virtualBackUp hx (x := y) (y := z) hown (mvT hZ w1) (mvT hZ w2) (mvT hZ w7) ho (mvT hZ w5) (mvT hZ w6) (backOf (Q := fun v h L => Q v h ∧ Fr n0 L) hM hZ w4 w3 hf hl) b1 b3 hg hsize (Steps.refl _) hlen hstack (Nat.le_refl _) hd (fun _ _ => ⟨has, q, hc, hs⟩)
  dsimp only [Pt.U, Pt.locs, Pt.cells, Pt.slots] at X' q1 q2 q3 st hQ
  subst q1 q2 q3
  exact ⟨v, T', _, ⟨_, X', Fr.app N hQ.2, rfl⟩, hQ.1, fun _ kt => st.trans kt⟩
theorem Sd.instNo (X : Sd n0 p l e R s m args below meth c T h k n) (hx : p.tables.exec = Jvm.exec) (hZ : Z.Warmed39 s.vm) {own K C : String} {index : Nat} (hown : s.vm.findClass own = some m.cls) (w : (Cond.classLink own index K).before a0 Z = true) {a : Addr} (E : Exa Z h a C) (F : ∃ c t, Z.vm.findClass C = some c ∧ Z.vm.findClass K = some t ∧ Z.vm.assignable c t = false)
    {g : JFrame} (hg : g.method = m) {rest : List Value} (hs : g.stack = .ref a :: rest) (hd : decode c.code g.pc = .ok (.instanceof index, 3)) :
    ∃ T', Sd n0 p l e R s m args below meth c T' h k n ∧ ∀ target, Steps p.tables e below (T'.setTop { g with pc := g.pc + 3, stack := .int 0 :: rest }) target → Steps p.tables e below (T.setTop g) target := by
  obtain ⟨L, X, N, q⟩ := X
  obtain ⟨T', X', e', st⟩ := Jvm.RoadKit.instNo X hx hZ hown w q E F hg hs hd
  exact ⟨T', ⟨L, X', N, e'⟩, st⟩
theorem ns_root {O K : String} {kk : Nat} (w : (Cond.noSuperclass O).before a0 Z = true) (wk : (Cond.instantiable K kk).before a0 Z = true) (hn : O ≠ K) : NS Z O K := by
  obtain ⟨c, k, h1, h2, h3, -, -⟩ := Cond.noSuperclass_spec w
  obtain ⟨t, k2, g1, -⟩ := Cond.instantiable_spec wk
  have ne := ids_ne h1 g1 hn
  refine ⟨c, t, h1, g1, fun fuel => ?_⟩
  cases fuel with
  | zero => rfl
  | succ f => simp [Vm.isSubclassAux, ne, h2, h3]
theorem ns_no {C K : String} {k1 k2 : Nat} (w : (Cond.instantiable C k1).before a0 Z = true) (wk : (Cond.instantiable K k2).before a0 Z = true) (n : NS Z C K) (hn : C ≠ K) : ∃ c t, Z.vm.findClass C = some c ∧ Z.vm.findClass K = some t ∧ Z.vm.assignable c t = false := by
  obtain ⟨c, t, h0, g0, n3⟩ := n
  obtain ⟨c', kc, h1, h2, h3, h4, -⟩ := Cond.instantiable_spec w
  obtain ⟨t', kt, g1, g2, g3, g4, -⟩ := Cond.instantiable_spec wk
  cases h0.symm.trans h1
  cases g0.symm.trans g1
  have ne := ids_ne h0 g0 hn
  refine ⟨c, t, h0, g0, ?_⟩
  have g5 : kt.isInterface = false := by simp at g4; exact g4.1
  show Z.vm.assignableAux (255 + 1) c t = false
  simp [Vm.assignableAux, ne, h2, g2, h3, g3, g5, Vm.isSubclass, n3]
theorem keep_ext {h h' : Heap} (K : Keep h h' []) : Ext h h' := ⟨K.1, fun x c q => K.2.1 x c q nin0⟩
theorem Exa.plain {h : Heap} {a : Addr} {C : String} (F : Exa Z h a C) : ∀ cell : Cell, h[a]? = some cell → cell.vm.isStatics = false := fun cell hc => by
  obtain ⟨c, k, h1, -, -, h4, -⟩ := F
  cases h1.symm.trans hc; exact h4
theorem Avf.plain {h : Heap} {a : Addr} {kc : ClassId} {ty : FieldType} {sz : Nat} {f : Nat → Value} (F : Avf Z h a kc ty sz f) : ∀ cell : Cell, h[a]? = some cell → cell.vm.isStatics = false := fun cell hc => by
  obtain ⟨cl, A, -⟩ := F
  cases A.1.symm.trans hc; exact Arr.plain A
theorem Sta.keepN {h h' : Heap} {C f d : String} {v : Value} {ws : List Addr} (F : Sta Z h C f d v) (K : Keep h h' ws) (q : ∀ x ∈ ws, ∀ cell : Cell, h[x]? = some cell → cell.vm.isStatics = false) : Sta Z h' C f d v := by
  obtain ⟨cf, i, k, fl, st, cell, h1, h2, h3, h4, h5, h6, h7⟩ := F
  exact ⟨cf, i, k, fl, st, cell, h1, h2, h3, h4, K.2.1 st cell h5 (fun z => by rw [q st z cell h5] at h6; cases h6), h6, h7⟩
/-! at the start -/
theorem sta_exa {args : Array Value} {C f d K : String} (hx : (Cond.exactly (.static C f d) K).value args Z none Z [] = some true) (wi : (Cond.initialized C).before args Z = true) (wl : (Cond.laysStatic C f d).before args Z = true) : ∃ a, (Term.static C f d).eval args Z none [] Z = some (.ref a) ∧ Sta Z Z.heap C f d (.ref a) ∧ Exa Z Z.heap a K := by
  obtain ⟨a, ev⟩ := exa_v hx
  exact ⟨a, ev, Sta.start ev (Or.inr ⟨wi, wl⟩), Exa.start ev hx⟩
theorem sta_arr {args : Array Value} {C f d : String} {ty : FieldType} (hx : (Cond.arrayOf (.static C f d) ty).value args Z none Z [] = some true) (wi : (Cond.initialized C).before args Z = true) (wl : (Cond.laysStatic C f d).before args Z = true) : ∃ a cl, (Term.static C f d).eval args Z none [] Z = some (.ref a) ∧ Sta Z Z.heap C f d (.ref a) ∧ Arr Z Z.heap a cl ty := by
  obtain ⟨a, ev⟩ := arr_v hx
  obtain ⟨cl, A⟩ := Arr.start ev hx
  exact ⟨a, cl, ev, Sta.start ev (Or.inr ⟨wi, wl⟩), A⟩
theorem int_of_eq {args : Array Value} {t : Term} {kk : Int32} (h : (Cond.eq t (.int kk)).value args Z none Z [] = some true) : t.eval args Z none [] Z = some (.int kk) := by
  obtain ⟨x, y, h1, h2, k1, k2⟩ := cmp_v (Or.inl h)
  cases (Option.some.inj h2 : Value.int kk = y)
  obtain ⟨z, rfl⟩ : ∃ z, x = .int z := k2
  have q : z = kk := by simpa [Cond.value, h1, Term.eval] using h
  rw [h1, q]
theorem fld_eq {args : Array Value} {t : Term} {C f d : String} {a : Addr} {kk : Int32} (ht : t.eval args Z none [] Z = some (.ref a)) (h : (Cond.eq (.field t C f d) (.int kk)).value args Z none Z [] = some true) : Fld Z Z.heap a C f d (.int kk) :=
  Fld.start ((fld_at ht).symm.trans (int_of_eq h))
theorem ref_of_eq {args : Array Value} {t u : Term} {a : Addr} (hu : u.eval args Z none [] Z = some (.ref a)) (h : (Cond.eq t u).value args Z none Z [] = some true) : t.eval args Z none [] Z = some (.ref a) := by
  obtain ⟨x, y, h1, h2, k1, k2⟩ := cmp_v (Or.inl h)
  cases (Option.some.inj (hu.symm.trans h2) : Value.ref a = y)
  have kx : x.isRef = true := k2.2
  rw [h1, gotT (eq_R h1 hu kx rfl) h]
theorem avf_len {args : Array Value} {t : Term} {a : Addr} {cl : Cell} {ty : FieldType} {z : Int32} {sz : Nat} (A : Arr Z Z.heap a cl ty) (ev : t.eval args Z none [] Z = some (.ref a)) (h : (Term.length t).eval args Z none [] Z = some (.int z)) (hz : z.toNatClampNeg = sz) : cl.slots.size = sz := by
  have ha : Z.arrayAt? a = some cl := A.fin (Vm.Alike.refl _)
  simp only [Term.eval, ev, ha, Option.bind_eq_bind, Option.bind_some] at h
  split at h
  · rename_i hl
    have e : cl.slots.size.toInt32 = z := by simpa using h
    rw [← hz, ← e]
    have q := len_toInt hl
    simp only [Int32.toNatClampNeg, q]; omega
  · cases h
theorem iremS {g : JFrame} {target : State} (X : Sd n0 p l e R s m args below meth c T h k n) (hx : p.tables.exec = Jvm.exec) (hg : g.method = m) {x y : Int32} {rest : List Value} (hd : decode c.code g.pc = .ok (.irem, 1)) (hs : g.stack = .int y :: .int x :: rest) (hy : y ≠ 0)
    (hr : Steps p.tables e below (T.setTop { g with pc := g.pc + 1, stack := .int (x % y) :: rest }) target) : Steps p.tables e below (T.setTop g) target := by
  obtain ⟨L, X, -⟩ := X; exact iremM X hx hg hd hs hy hr
end Sds
end Jvm.RoadKit
namespace Jvm.Pilot.@@N@@
open Jvm Jvm.ClassFile Sem Op Lib Jvm.Free Jvm.Stand Jvm.LawKit Jvm.RoadKit Bundle Jvm.Pilot.@@N@@.Jvm.D
theorem tw {a0 : Array Value} {Z : State} (hw : ∀ d ∈ tables_1, d.before a0 Z = true) (i : Nat) {d : Jvm.Cond} (h : tables_1[i]? = some d) : d.before a0 Z = true := hw _ (List.mem_of_getElem? h)
theorem own_c (x : Int32) : ¬ (255 : Int32) < (x &&& (255 : Int32)).toUInt32.toUInt16.toUInt32.toInt32 ∧ ¬ (x &&& (255 : Int32)).toUInt32.toUInt16.toUInt32.toInt32 < 0 := by
  have q := c_mask x 255 8 (by decide) (by decide)
  rw [i2c_mask, Int32.lt_iff_toInt_lt, Int32.lt_iff_toInt_lt, q]
  have e1 : (255 : Int32).toInt = 255 := rfl
  have e2 : (0 : Int32).toInt = 0 := rfl
  rw [e1, e2]
  omega
theorem own_byte {c d : Int32} (hc : ¬ (255 : Int32) < c ∧ ¬ c < 0) (hd : ¬ (255 : Int32) < d ∧ ¬ d < 0) : c.toInt8.toInt32 = d.toInt8.toInt32 ↔ c = d := by
  have q1 := c_i2b c
  have q2 := c_i2b d
  have e1 : (255 : Int32).toInt = 255 := rfl
  have e2 : (0 : Int32).toInt = 0 := rfl
  simp only [Int32.lt_iff_toInt_lt, e1, e2] at hc hd
  rw [← Int32.toInt_inj, ← Int32.toInt_inj]
  omega
theorem d2_0 : decode jdk_43_method_3_code 0 = .ok (.iload_n 0, 1) := by decide +kernel
theorem d2_1 : decode jdk_43_method_3_code 1 = .ok (.sipush 255, 3) := by decide +kernel
theorem d2_4 : decode jdk_43_method_3_code 4 = .ok (.if_icmp .gt 7, 3) := by decide +kernel
theorem d2_7 : decode jdk_43_method_3_code 7 = .ok (.iconst 1, 1) := by decide +kernel
theorem d2_8 : decode jdk_43_method_3_code 8 = .ok (.goto 4, 3) := by decide +kernel
theorem d2_12 : decode jdk_43_method_3_code 12 = .ok (.ireturn, 1) := by decide +kernel
abbrev Rm2 : Room := { frames := 0, cells := 0, slots := 0, locals := 0 }
theorem pn0 : plainName "java/lang/StringLatin1" = true := by first | (simp [plainName, overriddenIn]; done) | decide +kernel
set_option maxRecDepth 65536 in
set_option maxHeartbeats 40000000 in
theorem rm2 (l : Launch) (Z : State) (a0 : Array Value) (hw : ∀ d ∈ tables_1, d.before a0 Z = true) (ws : List Jvm.Cond) (p1 : Int32) (h0 : Heap) (n0 : Nat) (Z0 : n0 ≤ h0.size) (hp : ¬ (255 : Int32) < p1) :
    Met l Z n0 (⟨"java/lang/StringLatin1", "canEncode", "(C)Z"⟩ : MethodName) jdk_43_method_3_code 1 (some .boolean) ws Rm2 #[(.int p1)] h0 (fun v h => v = some (.int 1) ∧ h0 = h) := by
  refine enter (Ls := #[.val (.int p1)]) (plainFor_of_name pn0) (fun m => by first | (simp [entryFrame, mkF, argsToLocals, Value.category]; done) | rfl) ?_
  intro p e s m below meth c T0 hx hby hml hown hnm hret hlk hZ X0
  show Go p.tables e below _ (T0.setTop (mkF m 0 #[.val (.int p1)] []))
  refine Go.by (fun _ => XS.iloadN X0.here hx rfl (hb hby d2_0) rfl) ?_
  show Go p.tables e below _ (T0.setTop (mkF m 1 #[.val (.int p1)] [(.int p1)]))
  refine Go.by (fun _ => XS.sipush X0.here hx rfl (hb hby d2_1)) ?_
  show Go p.tables e below _ (T0.setTop (mkF m 4 #[.val (.int p1)] [(.int (255 : Int32)), (.int p1)]))
  refine Go.by (fun _ => XS.icmpNo X0.here hx rfl (hb hby d2_4) rfl (flt hp).2.2.1) ?_
  show Go p.tables e below _ (T0.setTop (mkF m 7 #[.val (.int p1)] []))
  refine Go.by (fun _ => XS.iconst X0.here hx rfl (hb hby d2_7)) ?_
  show Go p.tables e below _ (T0.setTop (mkF m 8 #[.val (.int p1)] [(.int (1 : Int32))]))
  refine Go.by (fun _ => XS.goto X0.here hx rfl (pc0 := 8) (pc' := 12) rfl (hb hby d2_8) (by decide) (by decide)) ?_
  show Go p.tables e below _ (T0.setTop (mkF m 12 #[.val (.int p1)] [(.int (1 : Int32))]))
  exact Go.retN X0 hx hlk (z' := (1 : Int32)) hret (by simp) (hb hby d2_12) rfl (by decide) (by decide) ⟨rfl, rfl⟩
theorem d3_0 : decode jdk_43_method_46_code 0 = .ok (.iconst 1, 1) := by decide +kernel
theorem d3_1 : decode jdk_43_method_46_code 1 = .ok (.newarray .byte, 2) := by decide +kernel
theorem d3_3 : decode jdk_43_method_46_code 3 = .ok (.dup, 1) := by decide +kernel
theorem d3_4 : decode jdk_43_method_46_code 4 = .ok (.iconst 0, 1) := by decide +kernel
theorem d3_5 : decode jdk_43_method_46_code 5 = .ok (.iload_n 0, 1) := by decide +kernel
theorem d3_6 : decode jdk_43_method_46_code 6 = .ok (.i2b, 1) := by decide +kernel
theorem d3_7 : decode jdk_43_method_46_code 7 = .ok (.bastore, 1) := by decide +kernel
theorem d3_8 : decode jdk_43_method_46_code 8 = .ok (.areturn, 1) := by decide +kernel
abbrev Rm3 : Room := { frames := 0, cells := 1, slots := 1, locals := 0 }
set_option maxRecDepth 65536 in
set_option maxHeartbeats 40000000 in
theorem rm3 (l : Launch) (Z : State) (a0 : Array Value) (hw : ∀ d ∈ tables_1, d.before a0 Z = true) (ws : List Jvm.Cond) (p1 : Int32) (h0 : Heap) (n0 : Nat) (Z0 : n0 ≤ h0.size) :
    Met l Z n0 (⟨"java/lang/StringLatin1", "toBytes", "(C)[B"⟩ : MethodName) jdk_43_method_46_code 1 (some (.array .byte)) ws Rm3 #[(.int p1)] h0 (fun v h => ∃ b kc, v = some (.ref b) ∧ h0.size ≤ b ∧ Keep h0 h [] ∧ Avf Z h b kc .byte 1 (fun _ => (.int (p1.toInt8.toInt32)))) := by
  refine enter (Ls := #[.val (.int p1)]) (plainFor_of_name pn0) (fun m => by first | (simp [entryFrame, mkF, argsToLocals, Value.category]; done) | rfl) ?_
  intro p e s m below meth c T0 hx hby hml hown hnm hret hlk hZ X0
  have K0 := Keep.refl h0 []
  show Go p.tables e below _ (T0.setTop (mkF m 0 #[.val (.int p1)] []))
  refine Go.by (fun _ => XS.iconst X0.here hx rfl (hb hby d3_0)) ?_
  show Go p.tables e below _ (T0.setTop (mkF m 1 #[.val (.int p1)] [(.int (1 : Int32))]))
  obtain ⟨T1, h1, kc1, b1, X1, g1, E1, A1, V1, st1⟩ := X0.newP hx hZ (tw hw 17 rfl) (g := (mkF m 1 #[.val (.int p1)] [(.int (1 : Int32))])) rfl (hb hby d3_1) rfl (by decide) (sz := 1) (cap := 1) (k' := 1) (n' := 1) rfl (Nat.le_refl _) (by decide) rfl rfl (by decide) (by decide) (ad := "[B") (by decide)
  have g_b1 : n0 ≤ b1 := by rw [g1]; exact Z0
  have sz_b1 : h0.size ≤ b1 := by rw [g1]; exact K0.1
  have f2_7 := K0.ext E1
  have Zs2 : n0 ≤ h1.size := Nat.le_trans Z0 E1.1
  refine Go.by st1 ?_
  show Go p.tables e below _ (T1.setTop (mkF m 3 #[.val (.int p1)] [(.ref b1)]))
  refine Go.by (fun _ => XS.dup X1.here hx rfl (hb hby d3_3) rfl rfl) ?_
  show Go p.tables e below _ (T1.setTop (mkF m 4 #[.val (.int p1)] [(.ref b1), (.ref b1)]))
  refine Go.by (fun _ => XS.iconst X1.here hx rfl (hb hby d3_4)) ?_
  show Go p.tables e below _ (T1.setTop (mkF m 5 #[.val (.int p1)] [(.int (0 : Int32)), (.ref b1), (.ref b1)]))
  refine Go.by (fun _ => XS.iloadN X1.here hx rfl (hb hby d3_5) rfl) ?_
  show Go p.tables e below _ (T1.setTop (mkF m 6 #[.val (.int p1)] [(.int p1), (.int (0 : Int32)), (.ref b1), (.ref b1)]))
  refine Go.by (fun _ => XS.i2b X1.here hx rfl (hb hby d3_6) rfl) ?_
  show Go p.tables e below _ (T1.setTop (mkF m 7 #[.val (.int p1)] [(.int (p1.toInt8.toInt32)), (.int (0 : Int32)), (.ref b1), (.ref b1)]))
  obtain ⟨T3, h3, X3, W3, V3, st3⟩ := X1.stB hx hZ V1 g_b1 (by decide) (i := 0) rfl (by decide) (g := (mkF m 7 #[.val (.int p1)] [(.int (p1.toInt8.toInt32)), (.int (0 : Int32)), (.ref b1), (.ref b1)])) rfl rfl (hb hby d3_7)
  have f4_20 := f2_7.wr W3 (Or.inr sz_b1)
  have f4_21 := A1.wr W3
  have Zs4 : n0 ≤ h3.size := by rw [W3.size]; exact Zs2
  refine Go.by st3 ?_
  show Go p.tables e below _ (T3.setTop (mkF m 8 #[.val (.int p1)] [(.ref b1)]))
  refine Go.retA X3 hx hlk hret rfl rfl (hb hby d3_8) (by decide) (by decide) ?_
  refine ⟨b1, kc1, rfl, sz_b1, f4_20, Avf.cong V3 (fun i hi => ?_)⟩
  match i, hi with
  | 0, _ => simp
theorem d4_0 : decode jdk_42_method_151_code 0 = .ok (.aload_n 0, 1) := by decide +kernel
theorem d4_1 : decode jdk_42_method_151_code 1 = .ok (.invokespecial 1, 3) := by decide +kernel
theorem d4_4 : decode jdk_42_method_151_code 4 = .ok (.aload_n 0, 1) := by decide +kernel
theorem d4_5 : decode jdk_42_method_151_code 5 = .ok (.aload_n 1, 1) := by decide +kernel
theorem d4_6 : decode jdk_42_method_151_code 6 = .ok (.putfield 9, 3) := by decide +kernel
theorem d4_9 : decode jdk_42_method_151_code 9 = .ok (.aload_n 0, 1) := by decide +kernel
theorem d4_10 : decode jdk_42_method_151_code 10 = .ok (.iload_n 2, 1) := by decide +kernel
theorem d4_11 : decode jdk_42_method_151_code 11 = .ok (.putfield 15, 3) := by decide +kernel
theorem d4_14 : decode jdk_42_method_151_code 14 = .ok (.return_, 1) := by decide +kernel
abbrev Rm4 : Room := { frames := 1, cells := 0, slots := 0, locals := 12 }
theorem pn1 : plainName "java/lang/String" = true := by first | (simp [plainName, overriddenIn]; done) | decide +kernel
set_option maxRecDepth 65536 in
set_option maxHeartbeats 40000000 in
theorem rm4 (l : Launch) (Z : State) (a0 : Array Value) (hw : ∀ d ∈ tables_1, d.before a0 Z = true) (ws : List Jvm.Cond) (a1 : Addr) (a2 : Addr) (h0 : Heap) (n0 : Nat) (Z0 : n0 ≤ h0.size) (E_a1 : Exa Z h0 a1 "java/lang/String") (g_a1 : n0 ≤ a1) (Fv : Fld Z h0 a1 "java/lang/String" "value" "[B" .null) (Fc : Fld Z h0 a1 "java/lang/String" "coder" "B" (.int (0 : Int32))) :
    Met l Z n0 (⟨"java/lang/String", "<init>", "([BB)V"⟩ : MethodName) jdk_42_method_151_code 3 none ws Rm4 #[(.ref a1), (.ref a2), (.int (0 : Int32))] h0 (fun v h => v = none ∧ Keep h0 h [a1] ∧ Exa Z h a1 "java/lang/String" ∧ Fld Z h a1 "java/lang/String" "value" "[B" (.ref a2) ∧ Fld Z h a1 "java/lang/String" "coder" "B" (.int (0 : Int32))) := by
  refine enter (Ls := #[.val (.ref a1), .val (.ref a2), .val (.int (0 : Int32))]) (plainFor_of_name pn1) (fun m => by first | (simp [entryFrame, mkF, argsToLocals, Value.category]; done) | rfl) ?_
  intro p e s m below meth c T0 hx hby hml hown hnm hret hlk hZ X0
  have K0 := Keep.refl h0 [a1]
  show Go p.tables e below _ (T0.setTop (mkF m 0 #[.val (.ref a1), .val (.ref a2), .val (.int (0 : Int32))] []))
  refine Go.by (fun _ => XS.aloadN X0.here hx rfl (hb hby d4_0) rfl rfl) ?_
  show Go p.tables e below _ (T0.setTop (mkF m 1 #[.val (.ref a1), .val (.ref a2), .val (.int (0 : Int32))] [(.ref a1)]))
  obtain ⟨T1, X1, st1⟩ := X0.initO hx hZ hown (tw hw 22 rfl) (tw hw 23 rfl) (tw hw 24 rfl) (g := (mkF m 1 #[.val (.ref a1), .val (.ref a2), .val (.int (0 : Int32))] [(.ref a1)])) rfl (by rw [hml]; rfl) rfl (hb hby d4_1) (by decide) (Nat.le_of_ble_eq_true rfl)
  refine Go.by st1 ?_
  show Go p.tables e below _ (T1.setTop (mkF m 4 #[.val (.ref a1), .val (.ref a2), .val (.int (0 : Int32))] []))
  refine Go.by (fun _ => XS.aloadN X1.here hx rfl (hb hby d4_4) rfl rfl) ?_
  show Go p.tables e below _ (T1.setTop (mkF m 5 #[.val (.ref a1), .val (.ref a2), .val (.int (0 : Int32))] [(.ref a1)]))
  refine Go.by (fun _ => XS.aloadN X1.here hx rfl (hb hby d4_5) rfl rfl) ?_
  show Go p.tables e below _ (T1.setTop (mkF m 6 #[.val (.ref a1), .val (.ref a2), .val (.int (0 : Int32))] [(.ref a2), (.ref a1)]))
  obtain ⟨T2, h2, X2, W2, st2⟩ := X1.putF hx hZ hown (host := "") (Or.inl (tw hw 25 rfl)) Via.refl Fv E_a1 g_a1 (Or.inr ⟨(tw hw 26 rfl), rfl, hnm⟩) (tw hw 13 rfl) (ty := (.array .byte)) (by decide) rfl rfl (g := (mkF m 6 #[.val (.ref a1), .val (.ref a2), .val (.int (0 : Int32))] [(.ref a2), (.ref a1)])) rfl rfl (hb hby d4_6)
  have Fw2 := Fv.same W2
  have f3_13 := E_a1.wr W2
  have f3_14 := Fc.other W2 (Or.inr (slot_ne (Or.inr (tw hw 28 rfl)) (Or.inr (tw hw 26 rfl)) (by decide) (t := .byte) (t' := (.array .byte)) (by decide) (by decide)))
  have f3_15 := K0.wr W2 (Or.inl (List.mem_of_getElem? (i := 0) rfl))
  have Zs3 : n0 ≤ h2.size := by rw [W2.size]; exact Z0
  refine Go.by st2 ?_
  show Go p.tables e below _ (T2.setTop (mkF m 9 #[.val (.ref a1), .val (.ref a2), .val (.int (0 : Int32))] []))
  refine Go.by (fun _ => XS.aloadN X2.here hx rfl (hb hby d4_9) rfl rfl) ?_
  show Go p.tables e below _ (T2.setTop (mkF m 10 #[.val (.ref a1), .val (.ref a2), .val (.int (0 : Int32))] [(.ref a1)]))
  refine Go.by (fun _ => XS.iloadN X2.here hx rfl (hb hby d4_10) rfl) ?_
  show Go p.tables e below _ (T2.setTop (mkF m 11 #[.val (.ref a1), .val (.ref a2), .val (.int (0 : Int32))] [(.int (0 : Int32)), (.ref a1)]))
  obtain ⟨T4, h4, X4, W4, st4⟩ := X2.putFN hx hZ hown (tw hw 27 rfl) Via.refl f3_14 f3_13 g_a1 (Or.inr ⟨(tw hw 28 rfl), rfl, hnm⟩) (tw hw 13 rfl) (ty := .byte) (v' := (.int (0 : Int32))) (by decide) rfl rfl (g := (mkF m 11 #[.val (.ref a1), .val (.ref a2), .val (.int (0 : Int32))] [(.int (0 : Int32)), (.ref a1)])) rfl rfl (hb hby d4_11)
  have Fw4 := f3_14.same W4
  have f5_25 := f3_13.wr W4
  have f5_26 := Fw2.other W4 (Or.inr (slot_ne (Or.inr (tw hw 26 rfl)) (Or.inr (tw hw 28 rfl)) (by decide) (t := (.array .byte)) (t' := .byte) (by decide) (by decide)))
  have f5_27 := f3_15.wr W4 (Or.inl (List.mem_of_getElem? (i := 0) rfl))
  have Zs5 : n0 ≤ h4.size := by rw [W4.size]; exact Zs3
  refine Go.by st4 ?_
  show Go p.tables e below _ (T4.setTop (mkF m 14 #[.val (.ref a1), .val (.ref a2), .val (.int (0 : Int32))] []))
  exact Go.ret0 X4 hx hlk hret (hb hby d4_14) (by decide) (by decide) ⟨rfl, f5_27, f5_25, f5_26, Fw4⟩
theorem d1_0 : decode jdk_42_method_139_code 0 = .ok (.getstatic 38, 3) := by decide +kernel
theorem d1_3 : decode jdk_42_method_139_code 3 = .ok (.ifCond .eq 23, 3) := by decide +kernel
theorem d1_6 : decode jdk_42_method_139_code 6 = .ok (.iload_n 0, 1) := by decide +kernel
theorem d1_7 : decode jdk_42_method_139_code 7 = .ok (.invokestatic 1015, 3) := by decide +kernel
theorem pd0 : parseMethodDescriptor "(C)Z" = some ⟨[.char], some .boolean⟩ := by decide +kernel
theorem d1_10 : decode jdk_42_method_139_code 10 = .ok (.ifCond .eq 16, 3) := by decide +kernel
theorem d1_13 : decode jdk_42_method_139_code 13 = .ok (.new 10, 3) := by decide +kernel
theorem d1_16 : decode jdk_42_method_139_code 16 = .ok (.dup, 1) := by decide +kernel
theorem d1_17 : decode jdk_42_method_139_code 17 = .ok (.iload_n 0, 1) := by decide +kernel
theorem d1_18 : decode jdk_42_method_139_code 18 = .ok (.invokestatic 1018, 3) := by decide +kernel
theorem pd1 : parseMethodDescriptor "(C)[B" = some ⟨[.char], some (.array .byte)⟩ := by decide +kernel
theorem d1_21 : decode jdk_42_method_139_code 21 = .ok (.iconst 0, 1) := by decide +kernel
theorem d1_22 : decode jdk_42_method_139_code 22 = .ok (.invokespecial 209, 3) := by decide +kernel
theorem pd2 : parseMethodDescriptor "([BB)V" = some ⟨[(.array .byte), .byte], none⟩ := by decide +kernel
theorem d1_25 : decode jdk_42_method_139_code 25 = .ok (.areturn, 1) := by decide +kernel
abbrev Rm1 : Room := { frames := 2, cells := 2, slots := 5, locals := 27 }
set_option maxRecDepth 65536 in
set_option maxHeartbeats 40000000 in
theorem rm1 (l : Launch) (Z : State) (a0 : Array Value) (hw : ∀ d ∈ tables_1, d.before a0 Z = true) (ws : List Jvm.Cond) (p1 : Int32) (cs : Int32) (h0 : Heap) (n0 : Nat) (Z0 : n0 ≤ h0.size) (O0 : Old Z n0 h0) (S_CS0 : Sta Z Z.heap "java/lang/String" "COMPACT_STRINGS" "Z" (.int cs)) (hcs : ¬ cs = 0) (hp : ¬ (255 : Int32) < p1) :
    Met l Z n0 (⟨"java/lang/String", "valueOf", "(C)Ljava/lang/String;"⟩ : MethodName) jdk_42_method_139_code 1 (some (.object "java/lang/String")) ws Rm1 #[(.int p1)] h0 (fun v h => ∃ r b kc, v = some (.ref r) ∧ h0.size ≤ r ∧ h0.size ≤ b ∧ Keep h0 h [] ∧ Exa Z h r "java/lang/String" ∧ Fld Z h r "java/lang/String" "value" "[B" (.ref b) ∧ Fld Z h r "java/lang/String" "coder" "B" (.int (0 : Int32)) ∧ Avf Z h b kc .byte 1 (fun _ => (.int (p1.toInt8.toInt32)))) := by
  refine enter (Ls := #[.val (.int p1)]) (plainFor_of_name pn1) (fun m => by first | (simp [entryFrame, mkF, argsToLocals, Value.category]; done) | rfl) ?_
  intro p e s m below meth c T0 hx hby hml hown hnm hret hlk hZ X0
  have S_CS := S_CS0.ext O0.2
  have K0 := Keep.refl h0 []
  show Go p.tables e below _ (T0.setTop (mkF m 0 #[.val (.int p1)] []))
  obtain ⟨T1, X1, st1⟩ := X0.getS hx hZ hown (host := "") (Or.inl (tw hw 7 rfl)) Via.refl S_CS (g := (mkF m 0 #[.val (.int p1)] [])) rfl (hb hby d1_0)
  refine Go.by st1 ?_
  show Go p.tables e below _ (T1.setTop (mkF m 3 #[.val (.int p1)] [(.int cs)]))
  refine Go.by (fun _ => XS.ifNo X1.here hx rfl (hb hby d1_3) rfl ((if0 _ _).trans (feq hcs).1)) ?_
  show Go p.tables e below _ (T1.setTop (mkF m 6 #[.val (.int p1)] []))
  refine Go.by (fun _ => XS.iloadN X1.here hx rfl (hb hby d1_6) rfl) ?_
  show Go p.tables e below _ (T1.setTop (mkF m 7 #[.val (.int p1)] [(.int p1)]))
  obtain ⟨v2, T2, h2, X2, q2, st2⟩ := X1.callS hx hZ (y := (⟨"java/lang/StringLatin1", "canEncode", "(C)Z"⟩ : MethodName)) hown (tw hw 8 rfl) (tw hw 9 rfl) (tw hw 10 rfl) (tw hw 11 rfl) (by decide) (rm2 l Z a0 hw [] p1 h0 n0 Z0 hp) (g := (mkF m 7 #[.val (.int p1)] [(.int p1)])) rfl (by rw [hml]; rfl) (argsL := [(.int p1)]) (rest := []) (lenOf pd0 rfl) rfl (hb hby d1_7) rfl (by decide) (Nat.le_of_ble_eq_true rfl) (k' := 0) (n' := 0) rfl rfl (by decide) (by decide)
  refine Go.by st2 ?_
  obtain ⟨rfl, rfl⟩ := q2
  show Go p.tables e below _ (T2.setTop (mkF m 10 #[.val (.int p1)] [(.int (1 : Int32))]))
  refine Go.by (fun _ => XS.ifNo X2.here hx rfl (hb hby d1_10) rfl ((if0 _ _).trans (feq (by decide)).1)) ?_
  show Go p.tables e below _ (T2.setTop (mkF m 13 #[.val (.int p1)] []))
  obtain ⟨T3, h3, b3, X3, g3, E3, A3, D3, st3⟩ := X2.newO hx hZ hown (tw hw 12 rfl) (tw hw 13 rfl) (tw hw 5 rfl) (g := (mkF m 13 #[.val (.int p1)] [])) rfl (hb hby d1_13) (k' := 1) (n' := 4) rfl rfl (by decide) (by decide)
  have g_b3 : n0 ≤ b3 := by rw [g3]; exact Z0
  have sz_b3 : h0.size ≤ b3 := by rw [g3]; exact K0.1
  have f4_19 := S_CS.ext E3
  have f4_20 := K0.ext E3
  have Zs4 : n0 ≤ h3.size := Nat.le_trans Z0 E3.1
  have F3_value : Fld Z h3 b3 "java/lang/String" "value" "[B" .null := D3 (Or.inr (tw hw 26 rfl)) (ty := (.array .byte)) (by decide)
  have F3_coder : Fld Z h3 b3 "java/lang/String" "coder" "B" (.int (0 : Int32)) := D3 (Or.inr (tw hw 28 rfl)) (ty := .byte) (by decide)
  refine Go.by st3 ?_
  show Go p.tables e below _ (T3.setTop (mkF m 16 #[.val (.int p1)] [(.ref b3)]))
  refine Go.by (fun _ => XS.dup X3.here hx rfl (hb hby d1_16) rfl rfl) ?_
  show Go p.tables e below _ (T3.setTop (mkF m 17 #[.val (.int p1)] [(.ref b3), (.ref b3)]))
  refine Go.by (fun _ => XS.iloadN X3.here hx rfl (hb hby d1_17) rfl) ?_
  show Go p.tables e below _ (T3.setTop (mkF m 18 #[.val (.int p1)] [(.int p1), (.ref b3), (.ref b3)]))
  obtain ⟨v5, T5, h5, X5, q5, st5⟩ := X3.callS hx hZ (y := (⟨"java/lang/StringLatin1", "toBytes", "(C)[B"⟩ : MethodName)) hown (tw hw 14 rfl) (tw hw 15 rfl) (tw hw 10 rfl) (tw hw 16 rfl) (by decide) (rm3 l Z a0 hw [] p1 h3 n0 Zs4) (g := (mkF m 18 #[.val (.int p1)] [(.int p1), (.ref b3), (.ref b3)])) rfl (by rw [hml]; rfl) (argsL := [(.int p1)]) (rest := [(.ref b3), (.ref b3)]) (lenOf pd1 rfl) rfl (hb hby d1_18) rfl (by decide) (Nat.le_of_ble_eq_true rfl) (k' := 2) (n' := 5) rfl rfl (by decide) (by decide)
  refine Go.by st5 ?_
  obtain ⟨d5, kc5, rfl, sd5, K5, V5⟩ := q5
  have g_d5 : n0 ≤ d5 := Nat.le_trans Zs4 sd5
  have sz_d5 : h0.size ≤ d5 := Nat.le_trans f4_20.1 sd5
  have ne_b3_d5 : b3 ≠ d5 := Nat.ne_of_lt (Nat.lt_of_lt_of_le A3.lt sd5)
  have f6_36 := f4_19.ext (keep_ext K5)
  have f6_37 := f4_20.ext (keep_ext K5)
  have f6_38 := A3.ext (keep_ext K5)
  have f6_39 := F3_value.ext (keep_ext K5)
  have f6_40 := F3_coder.ext (keep_ext K5)
  have Zs6 : n0 ≤ h5.size := Nat.le_trans Zs4 (keep_ext K5).1
  show Go p.tables e below _ (T5.setTop (mkF m 21 #[.val (.int p1)] [(.ref d5), (.ref b3), (.ref b3)]))
  refine Go.by (fun _ => XS.iconst X5.here hx rfl (hb hby d1_21)) ?_
  show Go p.tables e below _ (T5.setTop (mkF m 22 #[.val (.int p1)] [(.int (0 : Int32)), (.ref d5), (.ref b3), (.ref b3)]))
  obtain ⟨v7, T7, h7, X7, q7, st7⟩ := X5.callI hx hZ (y := (⟨"java/lang/String", "<init>", "([BB)V"⟩ : MethodName)) rfl hown (tw hw 18 rfl) (tw hw 19 rfl) (tw hw 5 rfl) (tw hw 21 rfl) (by decide) (rm4 l Z a0 hw [] b3 d5 h5 n0 Zs6 f6_38 g_b3 f6_39 f6_40) (g := (mkF m 22 #[.val (.int p1)] [(.int (0 : Int32)), (.ref d5), (.ref b3), (.ref b3)])) rfl (by rw [hml]; rfl) (argsL := [(.ref d5), (.int (0 : Int32))]) (rest := [(.ref b3)]) (lenOf pd2 rfl) rfl (hb hby d1_22) rfl (by decide) (Nat.le_of_ble_eq_true rfl) (k' := 2) (n' := 5) rfl rfl (by decide) (by decide)
  refine Go.by st7 ?_
  obtain ⟨rfl, K7, Ex7, Fv7, Fc7⟩ := q7
  have f8_48 := Sta.keepN f6_36 K7 (allS f6_38.plain all0)
  have f8_49 := f6_37.trans K7 (allS (Or.inr sz_b3) all0)
  have f8_50 := f6_38.keep K7
  have f8_51 := Avf.keep V5 K7 (ninS (Ne.symm ne_b3_d5) nin0)
  have Zs8 : n0 ≤ h7.size := Nat.le_trans Zs6 K7.1
  show Go p.tables e below _ (T7.setTop (mkF m 25 #[.val (.int p1)] [(.ref b3)]))
  exact Go.retA X7 hx hlk hret rfl rfl (hb hby d1_25) (by decide) (by decide) ⟨b3, d5, kc5, rfl, sz_b3, sz_d5, f8_49, Ex7, Fv7, Fc7, f8_51⟩
theorem d9_0 : decode jdk_43_method_13_code 0 = .ok (.aload_n 0, 1) := by decide +kernel
theorem d9_1 : decode jdk_43_method_13_code 1 = .ok (.arraylength, 1) := by decide +kernel
theorem d9_2 : decode jdk_43_method_13_code 2 = .ok (.aload_n 1, 1) := by decide +kernel
theorem d9_3 : decode jdk_43_method_13_code 3 = .ok (.arraylength, 1) := by decide +kernel
theorem d9_4 : decode jdk_43_method_13_code 4 = .ok (.if_icmp .ne 30, 3) := by decide +kernel
theorem d9_7 : decode jdk_43_method_13_code 7 = .ok (.iconst 0, 1) := by decide +kernel
theorem d9_8 : decode jdk_43_method_13_code 8 = .ok (.istore_n 2, 1) := by decide +kernel
theorem d9_9 : decode jdk_43_method_13_code 9 = .ok (.iload_n 2, 1) := by decide +kernel
theorem d9_10 : decode jdk_43_method_13_code 10 = .ok (.aload_n 0, 1) := by decide +kernel
theorem d9_11 : decode jdk_43_method_13_code 11 = .ok (.arraylength, 1) := by decide +kernel
theorem d9_12 : decode jdk_43_method_13_code 12 = .ok (.if_icmp .ge 20, 3) := by decide +kernel
theorem d9_15 : decode jdk_43_method_13_code 15 = .ok (.aload_n 0, 1) := by decide +kernel
theorem d9_16 : decode jdk_43_method_13_code 16 = .ok (.iload_n 2, 1) := by decide +kernel
theorem d9_17 : decode jdk_43_method_13_code 17 = .ok (.baload, 1) := by decide +kernel
theorem d9_18 : decode jdk_43_method_13_code 18 = .ok (.aload_n 1, 1) := by decide +kernel
theorem d9_19 : decode jdk_43_method_13_code 19 = .ok (.iload_n 2, 1) := by decide +kernel
theorem d9_20 : decode jdk_43_method_13_code 20 = .ok (.baload, 1) := by decide +kernel
theorem d9_21 : decode jdk_43_method_13_code 21 = .ok (.if_icmp .eq 5, 3) := by decide +kernel
theorem d9_26 : decode jdk_43_method_13_code 26 = .ok (.iinc 2 1, 3) := by decide +kernel
theorem d9_29 : decode jdk_43_method_13_code 29 = .ok (.goto (-20), 3) := by decide +kernel
theorem d9_32 : decode jdk_43_method_13_code 32 = .ok (.iconst 1, 1) := by decide +kernel
theorem d9_33 : decode jdk_43_method_13_code 33 = .ok (.ireturn, 1) := by decide +kernel
theorem d9_24 : decode jdk_43_method_13_code 24 = .ok (.iconst 0, 1) := by decide +kernel
theorem d9_25 : decode jdk_43_method_13_code 25 = .ok (.ireturn, 1) := by decide +kernel
abbrev Rm9 : Room := { frames := 0, cells := 0, slots := 0, locals := 0 }
set_option maxRecDepth 65536 in
set_option maxHeartbeats 40000000 in
theorem rm9 (l : Launch) (Z : State) (a0 : Array Value) (hw : ∀ d ∈ tables_1, d.before a0 Z = true) (ws : List Jvm.Cond) (b1 : Addr) (b2 : Addr) (k1 k2 : ClassId) (x1 x2 : Int32) (h0 : Heap) (n0 : Nat) (Z0 : n0 ≤ h0.size) (V_b1 : Avf Z h0 b1 k1 .byte 1 (fun _ => (.int x1))) (V_b2 : Avf Z h0 b2 k2 .byte 1 (fun _ => (.int x2))) :
    Met l Z n0 (⟨"java/lang/StringLatin1", "equals", "([B[B)Z"⟩ : MethodName) jdk_43_method_13_code 3 (some .boolean) ws Rm9 #[(.ref b1), (.ref b2)] h0 (fun v h => (((x1 = x2) ∧ v = some (.int 1)) ∨ (¬ (x1 = x2) ∧ v = some (.int 0))) ∧ h0 = h) := by
  refine enter (Ls := #[.val (.ref b1), .val (.ref b2), .unset]) (plainFor_of_name pn0) (fun m => by first | (simp [entryFrame, mkF, argsToLocals, Value.category]; done) | rfl) ?_
  intro p e s m below meth c T0 hx hby hml hown hnm hret hlk hZ X0
  show Go p.tables e below _ (T0.setTop (mkF m 0 #[.val (.ref b1), .val (.ref b2), .unset] []))
  refine Go.by (fun _ => XS.aloadN X0.here hx rfl (hb hby d9_0) rfl rfl) ?_
  show Go p.tables e below _ (T0.setTop (mkF m 1 #[.val (.ref b1), .val (.ref b2), .unset] [(.ref b1)]))
  refine Go.by (X0.len hx hZ V_b1 (z := (1 : Int32)) rfl (g := (mkF m 1 #[.val (.ref b1), .val (.ref b2), .unset] [(.ref b1)])) rfl rfl (hb hby d9_1)) ?_
  show Go p.tables e below _ (T0.setTop (mkF m 2 #[.val (.ref b1), .val (.ref b2), .unset] [(.int (1 : Int32))]))
  refine Go.by (fun _ => XS.aloadN X0.here hx rfl (hb hby d9_2) rfl rfl) ?_
  show Go p.tables e below _ (T0.setTop (mkF m 3 #[.val (.ref b1), .val (.ref b2), .unset] [(.ref b2), (.int (1 : Int32))]))
  refine Go.by (X0.len hx hZ V_b2 (z := (1 : Int32)) rfl (g := (mkF m 3 #[.val (.ref b1), .val (.ref b2), .unset] [(.ref b2), (.int (1 : Int32))])) rfl rfl (hb hby d9_3)) ?_
  show Go p.tables e below _ (T0.setTop (mkF m 4 #[.val (.ref b1), .val (.ref b2), .unset] [(.int (1 : Int32)), (.int (1 : Int32))]))
  refine Go.by (fun _ => XS.icmpNo X0.here hx rfl (hb hby d9_4) rfl (teq (by decide)).2) ?_
  show Go p.tables e below _ (T0.setTop (mkF m 7 #[.val (.ref b1), .val (.ref b2), .unset] []))
  refine Go.by (fun _ => XS.iconst X0.here hx rfl (hb hby d9_7)) ?_
  show Go p.tables e below _ (T0.setTop (mkF m 8 #[.val (.ref b1), .val (.ref b2), .unset] [(.int (0 : Int32))]))
  refine Go.by (fun _ => XS.istoreN X0.here hx rfl (hb hby d9_8) rfl (l' := #[.val (.ref b1), .val (.ref b2), .val (.int (0 : Int32))]) rfl) ?_
  show Go p.tables e below _ (T0.setTop (mkF m 9 #[.val (.ref b1), .val (.ref b2), .val (.int (0 : Int32))] []))
  refine Go.by (fun _ => XS.iloadN X0.here hx rfl (hb hby d9_9) rfl) ?_
  show Go p.tables e below _ (T0.setTop (mkF m 10 #[.val (.ref b1), .val (.ref b2), .val (.int (0 : Int32))] [(.int (0 : Int32))]))
  refine Go.by (fun _ => XS.aloadN X0.here hx rfl (hb hby d9_10) rfl rfl) ?_
  show Go p.tables e below _ (T0.setTop (mkF m 11 #[.val (.ref b1), .val (.ref b2), .val (.int (0 : Int32))] [(.ref b1), (.int (0 : Int32))]))
  refine Go.by (X0.len hx hZ V_b1 (z := (1 : Int32)) rfl (g := (mkF m 11 #[.val (.ref b1), .val (.ref b2), .val (.int (0 : Int32))] [(.ref b1), (.int (0 : Int32))])) rfl rfl (hb hby d9_11)) ?_
  show Go p.tables e below _ (T0.setTop (mkF m 12 #[.val (.ref b1), .val (.ref b2), .val (.int (0 : Int32))] [(.int (1 : Int32)), (.int (0 : Int32))]))
  refine Go.by (fun _ => XS.icmpNo X0.here hx rfl (hb hby d9_12) rfl (tlt (by decide)).2.1) ?_
  show Go p.tables e below _ (T0.setTop (mkF m 15 #[.val (.ref b1), .val (.ref b2), .val (.int (0 : Int32))] []))
  refine Go.by (fun _ => XS.aloadN X0.here hx rfl (hb hby d9_15) rfl rfl) ?_
  show Go p.tables e below _ (T0.setTop (mkF m 16 #[.val (.ref b1), .val (.ref b2), .val (.int (0 : Int32))] [(.ref b1)]))
  refine Go.by (fun _ => XS.iloadN X0.here hx rfl (hb hby d9_16) rfl) ?_
  show Go p.tables e below _ (T0.setTop (mkF m 17 #[.val (.ref b1), .val (.ref b2), .val (.int (0 : Int32))] [(.int (0 : Int32)), (.ref b1)]))
  refine Go.by (X0.ldB hx hZ V_b1 (by decide) (i := 0) rfl (by decide) (v := (.int x1)) rfl (g := (mkF m 17 #[.val (.ref b1), .val (.ref b2), .val (.int (0 : Int32))] [(.int (0 : Int32)), (.ref b1)])) rfl rfl (hb hby d9_17)) ?_
  show Go p.tables e below _ (T0.setTop (mkF m 18 #[.val (.ref b1), .val (.ref b2), .val (.int (0 : Int32))] [(.int x1)]))
  refine Go.by (fun _ => XS.aloadN X0.here hx rfl (hb hby d9_18) rfl rfl) ?_
  show Go p.tables e below _ (T0.setTop (mkF m 19 #[.val (.ref b1), .val (.ref b2), .val (.int (0 : Int32))] [(.ref b2), (.int x1)]))
  refine Go.by (fun _ => XS.iloadN X0.here hx rfl (hb hby d9_19) rfl) ?_
  show Go p.tables e below _ (T0.setTop (mkF m 20 #[.val (.ref b1), .val (.ref b2), .val (.int (0 : Int32))] [(.int (0 : Int32)), (.ref b2), (.int x1)]))
  refine Go.by (X0.ldB hx hZ V_b2 (by decide) (i := 0) rfl (by decide) (v := (.int x2)) rfl (g := (mkF m 20 #[.val (.ref b1), .val (.ref b2), .val (.int (0 : Int32))] [(.int (0 : Int32)), (.ref b2), (.int x1)])) rfl rfl (hb hby d9_20)) ?_
  show Go p.tables e below _ (T0.setTop (mkF m 21 #[.val (.ref b1), .val (.ref b2), .val (.int (0 : Int32))] [(.int x2), (.int x1)]))
  by_cases hc21_1 : x1 = x2
  · skip
    refine Go.by (fun _ => XS.icmpYes X0.here hx rfl (pc0 := 21) (pc' := 26) rfl (hb hby d9_21) rfl (teq hc21_1).1 (by decide) (by decide)) ?_
    show Go p.tables e below _ (T0.setTop (mkF m 26 #[.val (.ref b1), .val (.ref b2), .val (.int (0 : Int32))] []))
    refine Go.by (fun _ => XS.iinc X0.here hx rfl (hb hby d9_26) rfl (l' := #[.val (.ref b1), .val (.ref b2), .val (.int (1 : Int32))]) rfl) ?_
    show Go p.tables e below _ (T0.setTop (mkF m 29 #[.val (.ref b1), .val (.ref b2), .val (.int (1 : Int32))] []))
    refine Go.by (fun _ => XS.goto X0.here hx rfl (pc0 := 29) (pc' := 9) rfl (hb hby d9_29) (by decide) (by decide)) ?_
    show Go p.tables e below _ (T0.setTop (mkF m 9 #[.val (.ref b1), .val (.ref b2), .val (.int (1 : Int32))] []))
    refine Go.by (fun _ => XS.iloadN X0.here hx rfl (hb hby d9_9) rfl) ?_
    show Go p.tables e below _ (T0.setTop (mkF m 10 #[.val (.ref b1), .val (.ref b2), .val (.int (1 : Int32))] [(.int (1 : Int32))]))
    refine Go.by (fun _ => XS.aloadN X0.here hx rfl (hb hby d9_10) rfl rfl) ?_
    show Go p.tables e below _ (T0.setTop (mkF m 11 #[.val (.ref b1), .val (.ref b2), .val (.int (1 : Int32))] [(.ref b1), (.int (1 : Int32))]))
    refine Go.by (X0.len hx hZ V_b1 (z := (1 : Int32)) rfl (g := (mkF m 11 #[.val (.ref b1), .val (.ref b2), .val (.int (1 : Int32))] [(.ref b1), (.int (1 : Int32))])) rfl rfl (hb hby d9_11)) ?_
    show Go p.tables e below _ (T0.setTop (mkF m 12 #[.val (.ref b1), .val (.ref b2), .val (.int (1 : Int32))] [(.int (1 : Int32)), (.int (1 : Int32))]))
    refine Go.by (fun _ => XS.icmpYes X0.here hx rfl (pc0 := 12) (pc' := 32) rfl (hb hby d9_12) rfl (flt (by decide)).2.1 (by decide) (by decide)) ?_
    show Go p.tables e below _ (T0.setTop (mkF m 32 #[.val (.ref b1), .val (.ref b2), .val (.int (1 : Int32))] []))
    refine Go.by (fun _ => XS.iconst X0.here hx rfl (hb hby d9_32)) ?_
    show Go p.tables e below _ (T0.setTop (mkF m 33 #[.val (.ref b1), .val (.ref b2), .val (.int (1 : Int32))] [(.int (1 : Int32))]))
    exact Go.retN X0 hx hlk (z' := (1 : Int32)) hret (by simp) (hb hby d9_33) rfl (by decide) (by decide) ⟨Or.inl ⟨hc21_1, rfl⟩, rfl⟩
  · skip
    refine Go.by (fun _ => XS.icmpNo X0.here hx rfl (hb hby d9_21) rfl (feq hc21_1).1) ?_
    show Go p.tables e below _ (T0.setTop (mkF m 24 #[.val (.ref b1), .val (.ref b2), .val (.int (0 : Int32))] []))
    refine Go.by (fun _ => XS.iconst X0.here hx rfl (hb hby d9_24)) ?_
    show Go p.tables e below _ (T0.setTop (mkF m 25 #[.val (.ref b1), .val (.ref b2), .val (.int (0 : Int32))] [(.int (0 : Int32))]))
    exact Go.retN X0 hx hlk (z' := (0 : Int32)) hret (by simp) (hb hby d9_25) rfl (by decide) (by decide) ⟨Or.inr ⟨hc21_1, rfl⟩, rfl⟩
theorem d8_0 : decode jdk_42_method_66_code 0 = .ok (.aload_n 0, 1) := by decide +kernel
theorem d8_1 : decode jdk_42_method_66_code 1 = .ok (.aload_n 1, 1) := by decide +kernel
theorem d8_2 : decode jdk_42_method_66_code 2 = .ok (.if_acmp .ne 5, 3) := by decide +kernel
theorem d8_5 : decode jdk_42_method_66_code 5 = .ok (.iconst 1, 1) := by decide +kernel
theorem d8_6 : decode jdk_42_method_66_code 6 = .ok (.ireturn, 1) := by decide +kernel
theorem d8_7 : decode jdk_42_method_66_code 7 = .ok (.aload_n 1, 1) := by decide +kernel
theorem d8_8 : decode jdk_42_method_66_code 8 = .ok (.instanceof 10, 3) := by decide +kernel
theorem d8_11 : decode jdk_42_method_66_code 11 = .ok (.ifCond .eq 43, 3) := by decide +kernel
theorem d8_14 : decode jdk_42_method_66_code 14 = .ok (.aload_n 1, 1) := by decide +kernel
theorem d8_15 : decode jdk_42_method_66_code 15 = .ok (.checkcast 10, 3) := by decide +kernel
theorem d8_18 : decode jdk_42_method_66_code 18 = .ok (.astore_n 2, 1) := by decide +kernel
theorem d8_19 : decode jdk_42_method_66_code 19 = .ok (.getstatic 38, 3) := by decide +kernel
theorem d8_22 : decode jdk_42_method_66_code 22 = .ok (.ifCond .eq 14, 3) := by decide +kernel
theorem d8_25 : decode jdk_42_method_66_code 25 = .ok (.aload_n 0, 1) := by decide +kernel
theorem d8_26 : decode jdk_42_method_66_code 26 = .ok (.getfield 15, 3) := by decide +kernel
theorem d8_29 : decode jdk_42_method_66_code 29 = .ok (.aload_n 2, 1) := by decide +kernel
theorem d8_30 : decode jdk_42_method_66_code 30 = .ok (.getfield 15, 3) := by decide +kernel
theorem d8_33 : decode jdk_42_method_66_code 33 = .ok (.if_icmp .ne 21, 3) := by decide +kernel
theorem d8_36 : decode jdk_42_method_66_code 36 = .ok (.aload_n 0, 1) := by decide +kernel
theorem d8_37 : decode jdk_42_method_66_code 37 = .ok (.getfield 9, 3) := by decide +kernel
theorem d8_40 : decode jdk_42_method_66_code 40 = .ok (.aload_n 2, 1) := by decide +kernel
theorem d8_41 : decode jdk_42_method_66_code 41 = .ok (.getfield 9, 3) := by decide +kernel
theorem d8_44 : decode jdk_42_method_66_code 44 = .ok (.invokestatic 541, 3) := by decide +kernel
theorem pd3 : parseMethodDescriptor "([B[B)Z" = some ⟨[(.array .byte), (.array .byte)], some .boolean⟩ := by decide +kernel
theorem d8_47 : decode jdk_42_method_66_code 47 = .ok (.ifCond .eq 7, 3) := by decide +kernel
theorem d8_50 : decode jdk_42_method_66_code 50 = .ok (.iconst 1, 1) := by decide +kernel
theorem d8_51 : decode jdk_42_method_66_code 51 = .ok (.goto 4, 3) := by decide +kernel
theorem d8_55 : decode jdk_42_method_66_code 55 = .ok (.ireturn, 1) := by decide +kernel
theorem d8_54 : decode jdk_42_method_66_code 54 = .ok (.iconst 0, 1) := by decide +kernel
abbrev Rm8 : Room := { frames := 1, cells := 0, slots := 0, locals := 14 }
set_option maxRecDepth 65536 in
set_option maxHeartbeats 40000000 in
theorem rm8 (l : Launch) (Z : State) (a0 : Array Value) (hw : ∀ d ∈ tables_1, d.before a0 Z = true) (ws : List Jvm.Cond) (a1 : Addr) (a2 : Addr) (cs : Int32) (b1 b2 : Addr) (k1 k2 : ClassId) (x1 x2 : Int32) (h0 : Heap) (n0 : Nat) (Z0 : n0 ≤ h0.size) (O0 : Old Z n0 h0) (S_CS0 : Sta Z Z.heap "java/lang/String" "COMPACT_STRINGS" "Z" (.int cs)) (hcs : ¬ cs = 0) (E_a1 : Exa Z h0 a1 "java/lang/String") (Fv_a1 : Fld Z h0 a1 "java/lang/String" "value" "[B" (.ref b1)) (Fc_a1 : Fld Z h0 a1 "java/lang/String" "coder" "B" (.int (0 : Int32))) (V_b1 : Avf Z h0 b1 k1 .byte 1 (fun _ => (.int x1))) (E_a2 : Exa Z h0 a2 "java/lang/String") (Fv_a2 : Fld Z h0 a2 "java/lang/String" "value" "[B" (.ref b2)) (Fc_a2 : Fld Z h0 a2 "java/lang/String" "coder" "B" (.int (0 : Int32))) (V_b2 : Avf Z h0 b2 k2 .byte 1 (fun _ => (.int x2))) (hsm : a1 = a2 → x1 = x2) :
    Met l Z n0 (⟨"java/lang/String", "equals", "(Ljava/lang/Object;)Z"⟩ : MethodName) jdk_42_method_66_code 3 (some .boolean) ws Rm8 #[(.ref a1), (.ref a2)] h0 (fun v h => (((x1 = x2) ∧ v = some (.int 1)) ∨ (¬ (x1 = x2) ∧ v = some (.int 0))) ∧ h0 = h) := by
  refine enter (Ls := #[.val (.ref a1), .val (.ref a2), .unset]) (plainFor_of_name pn1) (fun m => by first | (simp [entryFrame, mkF, argsToLocals, Value.category]; done) | rfl) ?_
  intro p e s m below meth c T0 hx hby hml hown hnm hret hlk hZ X0
  have S_CS := S_CS0.ext O0.2
  show Go p.tables e below _ (T0.setTop (mkF m 0 #[.val (.ref a1), .val (.ref a2), .unset] []))
  refine Go.by (fun _ => XS.aloadN X0.here hx rfl (hb hby d8_0) rfl rfl) ?_
  show Go p.tables e below _ (T0.setTop (mkF m 1 #[.val (.ref a1), .val (.ref a2), .unset] [(.ref a1)]))
  refine Go.by (fun _ => XS.aloadN X0.here hx rfl (hb hby d8_1) rfl rfl) ?_
  show Go p.tables e below _ (T0.setTop (mkF m 2 #[.val (.ref a1), .val (.ref a2), .unset] [(.ref a2), (.ref a1)]))
  by_cases ha2_1 : a1 = a2
  · skip
    refine Go.by (X0.acmp (g := (mkF m 2 #[.val (.ref a1), .val (.ref a2), .unset] [(.ref a2), (.ref a1)])) hx rfl rfl rfl (pc0 := 2) (pc' := 5) (same := true) rfl (hb hby d8_2) rfl (decide_eq_true (congrArg Value.ref ha2_1)) (by decide) (by decide)) ?_
    show Go p.tables e below _ (T0.setTop (mkF m 5 #[.val (.ref a1), .val (.ref a2), .unset] []))
    refine Go.by (fun _ => XS.iconst X0.here hx rfl (hb hby d8_5)) ?_
    show Go p.tables e below _ (T0.setTop (mkF m 6 #[.val (.ref a1), .val (.ref a2), .unset] [(.int (1 : Int32))]))
    exact Go.retN X0 hx hlk (z' := (1 : Int32)) hret (by simp) (hb hby d8_6) rfl (by decide) (by decide) ⟨Or.inl ⟨hsm ha2_1, rfl⟩, rfl⟩
  · skip
    refine Go.by (X0.acmp (g := (mkF m 2 #[.val (.ref a1), .val (.ref a2), .unset] [(.ref a2), (.ref a1)])) hx rfl rfl rfl (pc0 := 2) (pc' := 7) (same := false) rfl (hb hby d8_2) rfl (decide_eq_false fun q => ha2_1 (Value.ref.inj q)) (by decide) (by decide)) ?_
    show Go p.tables e below _ (T0.setTop (mkF m 7 #[.val (.ref a1), .val (.ref a2), .unset] []))
    refine Go.by (fun _ => XS.aloadN X0.here hx rfl (hb hby d8_7) rfl rfl) ?_
    show Go p.tables e below _ (T0.setTop (mkF m 8 #[.val (.ref a1), .val (.ref a2), .unset] [(.ref a2)]))
    obtain ⟨T2, X2, st2⟩ := X0.instY hx hZ hown (tw hw 12 rfl) (Ins.self E_a2) (g := (mkF m 8 #[.val (.ref a1), .val (.ref a2), .unset] [(.ref a2)])) rfl rfl (hb hby d8_8)
    refine Go.by st2 ?_
    show Go p.tables e below _ (T2.setTop (mkF m 11 #[.val (.ref a1), .val (.ref a2), .unset] [(.int (1 : Int32))]))
    refine Go.by (fun _ => XS.ifNo X2.here hx rfl (hb hby d8_11) rfl ((if0 _ _).trans (feq (by decide)).1)) ?_
    show Go p.tables e below _ (T2.setTop (mkF m 14 #[.val (.ref a1), .val (.ref a2), .unset] []))
    refine Go.by (fun _ => XS.aloadN X2.here hx rfl (hb hby d8_14) rfl rfl) ?_
    show Go p.tables e below _ (T2.setTop (mkF m 15 #[.val (.ref a1), .val (.ref a2), .unset] [(.ref a2)]))
    obtain ⟨T3, X3, st3⟩ := X2.castY hx hZ hown (tw hw 12 rfl) (Ins.self E_a2) (g := (mkF m 15 #[.val (.ref a1), .val (.ref a2), .unset] [(.ref a2)])) rfl rfl (hb hby d8_15)
    refine Go.by st3 ?_
    show Go p.tables e below _ (T3.setTop (mkF m 18 #[.val (.ref a1), .val (.ref a2), .unset] [(.ref a2)]))
    refine Go.by (fun _ => XS.astoreN X3.here hx rfl (hb hby d8_18) rfl rfl (l' := #[.val (.ref a1), .val (.ref a2), .val (.ref a2)]) rfl) ?_
    show Go p.tables e below _ (T3.setTop (mkF m 19 #[.val (.ref a1), .val (.ref a2), .val (.ref a2)] []))
    obtain ⟨T4, X4, st4⟩ := X3.getS hx hZ hown (host := "") (Or.inl (tw hw 7 rfl)) Via.refl S_CS (g := (mkF m 19 #[.val (.ref a1), .val (.ref a2), .val (.ref a2)] [])) rfl (hb hby d8_19)
    refine Go.by st4 ?_
    show Go p.tables e below _ (T4.setTop (mkF m 22 #[.val (.ref a1), .val (.ref a2), .val (.ref a2)] [(.int cs)]))
    refine Go.by (fun _ => XS.ifNo X4.here hx rfl (hb hby d8_22) rfl ((if0 _ _).trans (feq hcs).1)) ?_
    show Go p.tables e below _ (T4.setTop (mkF m 25 #[.val (.ref a1), .val (.ref a2), .val (.ref a2)] []))
    refine Go.by (fun _ => XS.aloadN X4.here hx rfl (hb hby d8_25) rfl rfl) ?_
    show Go p.tables e below _ (T4.setTop (mkF m 26 #[.val (.ref a1), .val (.ref a2), .val (.ref a2)] [(.ref a1)]))
    obtain ⟨T5, X5, st5⟩ := X4.getF hx hZ hown (host := "") (Or.inl (tw hw 27 rfl)) Via.refl Fc_a1 (g := (mkF m 26 #[.val (.ref a1), .val (.ref a2), .val (.ref a2)] [(.ref a1)])) rfl rfl (hb hby d8_26)
    refine Go.by st5 ?_
    show Go p.tables e below _ (T5.setTop (mkF m 29 #[.val (.ref a1), .val (.ref a2), .val (.ref a2)] [(.int (0 : Int32))]))
    refine Go.by (fun _ => XS.aloadN X5.here hx rfl (hb hby d8_29) rfl rfl) ?_
    show Go p.tables e below _ (T5.setTop (mkF m 30 #[.val (.ref a1), .val (.ref a2), .val (.ref a2)] [(.ref a2), (.int (0 : Int32))]))
    obtain ⟨T6, X6, st6⟩ := X5.getF hx hZ hown (host := "") (Or.inl (tw hw 27 rfl)) Via.refl Fc_a2 (g := (mkF m 30 #[.val (.ref a1), .val (.ref a2), .val (.ref a2)] [(.ref a2), (.int (0 : Int32))])) rfl rfl (hb hby d8_30)
    refine Go.by st6 ?_
    show Go p.tables e below _ (T6.setTop (mkF m 33 #[.val (.ref a1), .val (.ref a2), .val (.ref a2)] [(.int (0 : Int32)), (.int (0 : Int32))]))
    refine Go.by (fun _ => XS.icmpNo X6.here hx rfl (hb hby d8_33) rfl (teq (by decide)).2) ?_
    show Go p.tables e below _ (T6.setTop (mkF m 36 #[.val (.ref a1), .val (.ref a2), .val (.ref a2)] []))
    refine Go.by (fun _ => XS.aloadN X6.here hx rfl (hb hby d8_36) rfl rfl) ?_
    show Go p.tables e below _ (T6.setTop (mkF m 37 #[.val (.ref a1), .val (.ref a2), .val (.ref a2)] [(.ref a1)]))
    obtain ⟨T7, X7, st7⟩ := X6.getF hx hZ hown (host := "") (Or.inl (tw hw 25 rfl)) Via.refl Fv_a1 (g := (mkF m 37 #[.val (.ref a1), .val (.ref a2), .val (.ref a2)] [(.ref a1)])) rfl rfl (hb hby d8_37)
    refine Go.by st7 ?_
    show Go p.tables e below _ (T7.setTop (mkF m 40 #[.val (.ref a1), .val (.ref a2), .val (.ref a2)] [(.ref b1)]))
    refine Go.by (fun _ => XS.aloadN X7.here hx rfl (hb hby d8_40) rfl rfl) ?_
    show Go p.tables e below _ (T7.setTop (mkF m 41 #[.val (.ref a1), .val (.ref a2), .val (.ref a2)] [(.ref a2), (.ref b1)]))
    obtain ⟨T8, X8, st8⟩ := X7.getF hx hZ hown (host := "") (Or.inl (tw hw 25 rfl)) Via.refl Fv_a2 (g := (mkF m 41 #[.val (.ref a1), .val (.ref a2), .val (.ref a2)] [(.ref a2), (.ref b1)])) rfl rfl (hb hby d8_41)
    refine Go.by st8 ?_
    show Go p.tables e below _ (T8.setTop (mkF m 44 #[.val (.ref a1), .val (.ref a2), .val (.ref a2)] [(.ref b2), (.ref b1)]))
    obtain ⟨v9, T9, h9, X9, q9, st9⟩ := X8.callS hx hZ (y := (⟨"java/lang/StringLatin1", "equals", "([B[B)Z"⟩ : MethodName)) hown (tw hw 53 rfl) (tw hw 54 rfl) (tw hw 10 rfl) (tw hw 55 rfl) (by decide) (rm9 l Z a0 hw [] b1 b2 k1 k2 x1 x2 h0 n0 Z0 V_b1 V_b2) (g := (mkF m 44 #[.val (.ref a1), .val (.ref a2), .val (.ref a2)] [(.ref b2), (.ref b1)])) rfl (by rw [hml]; rfl) (argsL := [(.ref b1), (.ref b2)]) (rest := []) (lenOf pd3 rfl) rfl (hb hby d8_44) rfl (by decide) (Nat.le_of_ble_eq_true rfl) (k' := 0) (n' := 0) rfl rfl (by decide) (by decide)
    refine Go.by st9 ?_
    rcases q9 with ⟨⟨hq9, rfl⟩ | ⟨hq9, rfl⟩, rfl⟩
    · skip
      show Go p.tables e below _ (T9.setTop (mkF m 47 #[.val (.ref a1), .val (.ref a2), .val (.ref a2)] [(.int (1 : Int32))]))
      refine Go.by (fun _ => XS.ifNo X9.here hx rfl (hb hby d8_47) rfl ((if0 _ _).trans (feq (by decide)).1)) ?_
      show Go p.tables e below _ (T9.setTop (mkF m 50 #[.val (.ref a1), .val (.ref a2), .val (.ref a2)] []))
      refine Go.by (fun _ => XS.iconst X9.here hx rfl (hb hby d8_50)) ?_
      show Go p.tables e below _ (T9.setTop (mkF m 51 #[.val (.ref a1), .val (.ref a2), .val (.ref a2)] [(.int (1 : Int32))]))
      refine Go.by (fun _ => XS.goto X9.here hx rfl (pc0 := 51) (pc' := 55) rfl (hb hby d8_51) (by decide) (by decide)) ?_
      show Go p.tables e below _ (T9.setTop (mkF m 55 #[.val (.ref a1), .val (.ref a2), .val (.ref a2)] [(.int (1 : Int32))]))
      exact Go.retN X9 hx hlk (z' := (1 : Int32)) hret (by simp) (hb hby d8_55) rfl (by decide) (by decide) ⟨Or.inl ⟨hq9, rfl⟩, rfl⟩
    · skip
      show Go p.tables e below _ (T9.setTop (mkF m 47 #[.val (.ref a1), .val (.ref a2), .val (.ref a2)] [(.int (0 : Int32))]))
      refine Go.by (fun _ => XS.ifYes X9.here hx rfl (pc0 := 47) (pc' := 54) rfl (hb hby d8_47) rfl ((if0 _ _).trans (teq (by decide)).1) (by decide) (by decide)) ?_
      show Go p.tables e below _ (T9.setTop (mkF m 54 #[.val (.ref a1), .val (.ref a2), .val (.ref a2)] []))
      refine Go.by (fun _ => XS.iconst X9.here hx rfl (hb hby d8_54)) ?_
      show Go p.tables e below _ (T9.setTop (mkF m 55 #[.val (.ref a1), .val (.ref a2), .val (.ref a2)] [(.int (0 : Int32))]))
      exact Go.retN X9 hx hlk (z' := (0 : Int32)) hret (by simp) (hb hby d8_55) rfl (by decide) (by decide) ⟨Or.inr ⟨hq9, rfl⟩, rfl⟩
theorem d6_0 : decode prog_11_method_1_code 0 = .ok (.aload_n 0, 1) := by decide +kernel
theorem d6_1 : decode prog_11_method_1_code 1 = .ok (.invokespecial 1, 3) := by decide +kernel
theorem d6_4 : decode prog_11_method_1_code 4 = .ok (.aload_n 0, 1) := by decide +kernel
theorem d6_5 : decode prog_11_method_1_code 5 = .ok (.aload_n 1, 1) := by decide +kernel
theorem d6_6 : decode prog_11_method_1_code 6 = .ok (.putfield 7, 3) := by decide +kernel
theorem d6_9 : decode prog_11_method_1_code 9 = .ok (.aload_n 0, 1) := by decide +kernel
theorem d6_10 : decode prog_11_method_1_code 10 = .ok (.aload_n 2, 1) := by decide +kernel
theorem d6_11 : decode prog_11_method_1_code 11 = .ok (.putfield 13, 3) := by decide +kernel
theorem d6_14 : decode prog_11_method_1_code 14 = .ok (.aload_n 0, 1) := by decide +kernel
theorem d6_15 : decode prog_11_method_1_code 15 = .ok (.aload_n 3, 1) := by decide +kernel
theorem d6_16 : decode prog_11_method_1_code 16 = .ok (.putfield 16, 3) := by decide +kernel
theorem d6_19 : decode prog_11_method_1_code 19 = .ok (.aload_n 0, 1) := by decide +kernel
theorem d6_20 : decode prog_11_method_1_code 20 = .ok (.lload 4, 2) := by decide +kernel
theorem d6_22 : decode prog_11_method_1_code 22 = .ok (.putfield 19, 3) := by decide +kernel
theorem d6_25 : decode prog_11_method_1_code 25 = .ok (.return_, 1) := by decide +kernel
abbrev Rm6 : Room := { frames := 1, cells := 0, slots := 0, locals := 12 }
theorem pn2 : plainName "com/example/preference_store/preferencestore/storage/Entry" = true := by first | (simp [plainName, overriddenIn]; done) | decide +kernel
set_option maxRecDepth 65536 in
set_option maxHeartbeats 40000000 in
theorem rm6 (l : Launch) (Z : State) (a0 : Array Value) (hw : ∀ d ∈ tables_1, d.before a0 Z = true) (ws : List Jvm.Cond) (a1 : Addr) (a2 : Addr) (a3 : Addr) (a4 : Addr) (q5 : Int64) (h0 : Heap) (n0 : Nat) (Z0 : n0 ≤ h0.size) (E_a1 : Exa Z h0 a1 "com/example/preference_store/preferencestore/storage/Entry") (g_a1 : n0 ≤ a1) (Fver : Fld Z h0 a1 "com/example/preference_store/preferencestore/storage/Entry" "version" "J" (.long (0 : Int64))) (F_kind : Fld Z h0 a1 "com/example/preference_store/preferencestore/storage/Entry" "kind" "Ljava/lang/String;" .null) (F_name : Fld Z h0 a1 "com/example/preference_store/preferencestore/storage/Entry" "name" "Ljava/lang/String;" .null) (F_value : Fld Z h0 a1 "com/example/preference_store/preferencestore/storage/Entry" "value" "Ljava/lang/String;" .null) :
    Met l Z n0 (⟨"com/example/preference_store/preferencestore/storage/Entry", "<init>", "(Ljava/lang/String;Ljava/lang/String;Ljava/lang/String;J)V"⟩ : MethodName) prog_11_method_1_code 6 none ws Rm6 #[(.ref a1), (.ref a2), (.ref a3), (.ref a4), (.long q5)] h0 (fun v h => v = none ∧ Keep h0 h [a1] ∧ Exa Z h a1 "com/example/preference_store/preferencestore/storage/Entry" ∧ Fld Z h a1 "com/example/preference_store/preferencestore/storage/Entry" "kind" "Ljava/lang/String;" (.ref a2) ∧ Fld Z h a1 "com/example/preference_store/preferencestore/storage/Entry" "name" "Ljava/lang/String;" (.ref a3) ∧ Fld Z h a1 "com/example/preference_store/preferencestore/storage/Entry" "value" "Ljava/lang/String;" (.ref a4) ∧ Fld Z h a1 "com/example/preference_store/preferencestore/storage/Entry" "version" "J" (.long q5)) := by
  refine enter (Ls := #[.val (.ref a1), .val (.ref a2), .val (.ref a3), .val (.ref a4), .val (.long q5), .second]) (plainFor_of_name pn2) (fun m => by first | (simp [entryFrame, mkF, argsToLocals, Value.category]; done) | rfl) ?_
  intro p e s m below meth c T0 hx hby hml hown hnm hret hlk hZ X0
  have K0 := Keep.refl h0 [a1]
  show Go p.tables e below _ (T0.setTop (mkF m 0 #[.val (.ref a1), .val (.ref a2), .val (.ref a3), .val (.ref a4), .val (.long q5), .second] []))
  refine Go.by (fun _ => XS.aloadN X0.here hx rfl (hb hby d6_0) rfl rfl) ?_
  show Go p.tables e below _ (T0.setTop (mkF m 1 #[.val (.ref a1), .val (.ref a2), .val (.ref a3), .val (.ref a4), .val (.long q5), .second] [(.ref a1)]))
  obtain ⟨T1, X1, st1⟩ := X0.initO hx hZ hown (tw hw 32 rfl) (tw hw 23 rfl) (tw hw 24 rfl) (g := (mkF m 1 #[.val (.ref a1), .val (.ref a2), .val (.ref a3), .val (.ref a4), .val (.long q5), .second] [(.ref a1)])) rfl (by rw [hml]; rfl) rfl (hb hby d6_1) (by decide) (Nat.le_of_ble_eq_true rfl)
  refine Go.by st1 ?_
  show Go p.tables e below _ (T1.setTop (mkF m 4 #[.val (.ref a1), .val (.ref a2), .val (.ref a3), .val (.ref a4), .val (.long q5), .second] []))
  refine Go.by (fun _ => XS.aloadN X1.here hx rfl (hb hby d6_4) rfl rfl) ?_
  show Go p.tables e below _ (T1.setTop (mkF m 5 #[.val (.ref a1), .val (.ref a2), .val (.ref a3), .val (.ref a4), .val (.long q5), .second] [(.ref a1)]))
  refine Go.by (fun _ => XS.aloadN X1.here hx rfl (hb hby d6_5) rfl rfl) ?_
  show Go p.tables e below _ (T1.setTop (mkF m 6 #[.val (.ref a1), .val (.ref a2), .val (.ref a3), .val (.ref a4), .val (.long q5), .second] [(.ref a2), (.ref a1)]))
  obtain ⟨T2, h2, X2, W2, st2⟩ := X1.putF hx hZ hown (host := "") (Or.inl (tw hw 33 rfl)) Via.refl F_kind E_a1 g_a1 (Or.inr ⟨(tw hw 34 rfl), rfl, hnm⟩) (tw hw 1 rfl) (ty := (.object "java/lang/String")) (by decide) rfl rfl (g := (mkF m 6 #[.val (.ref a1), .val (.ref a2), .val (.ref a3), .val (.ref a4), .val (.long q5), .second] [(.ref a2), (.ref a1)])) rfl rfl (hb hby d6_6)
  have Fw2 := F_kind.same W2
  have f3_13 := E_a1.wr W2
  have f3_14 := Fver.other W2 (Or.inr (slot_ne (Or.inr (tw hw 40 rfl)) (Or.inr (tw hw 34 rfl)) (by decide) (t := .long) (t' := (.object "java/lang/String")) (by decide) (by decide)))
  have f3_15 := F_name.other W2 (Or.inr (slot_ne (Or.inr (tw hw 36 rfl)) (Or.inr (tw hw 34 rfl)) (by decide) (t := (.object "java/lang/String")) (t' := (.object "java/lang/String")) (by decide) (by decide)))
  have f3_16 := F_value.other W2 (Or.inr (slot_ne (Or.inr (tw hw 38 rfl)) (Or.inr (tw hw 34 rfl)) (by decide) (t := (.object "java/lang/String")) (t' := (.object "java/lang/String")) (by decide) (by decide)))
  have f3_17 := K0.wr W2 (Or.inl (List.mem_of_getElem? (i := 0) rfl))
  have Zs3 : n0 ≤ h2.size := by rw [W2.size]; exact Z0
  refine Go.by st2 ?_
  show Go p.tables e below _ (T2.setTop (mkF m 9 #[.val (.ref a1), .val (.ref a2), .val (.ref a3), .val (.ref a4), .val (.long q5), .second] []))
  refine Go.by (fun _ => XS.aloadN X2.here hx rfl (hb hby d6_9) rfl rfl) ?_
  show Go p.tables e below _ (T2.setTop (mkF m 10 #[.val (.ref a1), .val (.ref a2), .val (.ref a3), .val (.ref a4), .val (.long q5), .second] [(.ref a1)]))
  refine Go.by (fun _ => XS.aloadN X2.here hx rfl (hb hby d6_10) rfl rfl) ?_
  show Go p.tables e below _ (T2.setTop (mkF m 11 #[.val (.ref a1), .val (.ref a2), .val (.ref a3), .val (.ref a4), .val (.long q5), .second] [(.ref a3), (.ref a1)]))
  obtain ⟨T4, h4, X4, W4, st4⟩ := X2.putF hx hZ hown (host := "") (Or.inl (tw hw 35 rfl)) Via.refl f3_15 f3_13 g_a1 (Or.inr ⟨(tw hw 36 rfl), rfl, hnm⟩) (tw hw 1 rfl) (ty := (.object "java/lang/String")) (by decide) rfl rfl (g := (mkF m 11 #[.val (.ref a1), .val (.ref a2), .val (.ref a3), .val (.ref a4), .val (.long q5), .second] [(.ref a3), (.ref a1)])) rfl rfl (hb hby d6_11)
  have Fw4 := f3_15.same W4
  have f5_27 := f3_13.wr W4
  have f5_28 := f3_14.other W4 (Or.inr (slot_ne (Or.inr (tw hw 40 rfl)) (Or.inr (tw hw 36 rfl)) (by decide) (t := .long) (t' := (.object "java/lang/String")) (by decide) (by decide)))
  have f5_29 := Fw2.other W4 (Or.inr (slot_ne (Or.inr (tw hw 34 rfl)) (Or.inr (tw hw 36 rfl)) (by decide) (t := (.object "java/lang/String")) (t' := (.object "java/lang/String")) (by decide) (by decide)))
  have f5_30 := f3_16.other W4 (Or.inr (slot_ne (Or.inr (tw hw 38 rfl)) (Or.inr (tw hw 36 rfl)) (by decide) (t := (.object "java/lang/String")) (t' := (.object "java/lang/String")) (by decide) (by decide)))
  have f5_31 := f3_17.wr W4 (Or.inl (List.mem_of_getElem? (i := 0) rfl))
  have Zs5 : n0 ≤ h4.size := by rw [W4.size]; exact Zs3
  refine Go.by st4 ?_
  show Go p.tables e below _ (T4.setTop (mkF m 14 #[.val (.ref a1), .val (.ref a2), .val (.ref a3), .val (.ref a4), .val (.long q5), .second] []))
  refine Go.by (fun _ => XS.aloadN X4.here hx rfl (hb hby d6_14) rfl rfl) ?_
  show Go p.tables e below _ (T4.setTop (mkF m 15 #[.val (.ref a1), .val (.ref a2), .val (.ref a3), .val (.ref a4), .val (.long q5), .second] [(.ref a1)]))
  refine Go.by (fun _ => XS.aloadN X4.here hx rfl (hb hby d6_15) rfl rfl) ?_
  show Go p.tables e below _ (T4.setTop (mkF m 16 #[.val (.ref a1), .val (.ref a2), .val (.ref a3), .val (.ref a4), .val (.long q5), .second] [(.ref a4), (.ref a1)]))
  obtain ⟨T6, h6, X6, W6, st6⟩ := X4.putF hx hZ hown (host := "") (Or.inl (tw hw 37 rfl)) Via.refl f5_30 f5_27 g_a1 (Or.inr ⟨(tw hw 38 rfl), rfl, hnm⟩) (tw hw 1 rfl) (ty := (.object "java/lang/String")) (by decide) rfl rfl (g := (mkF m 16 #[.val (.ref a1), .val (.ref a2), .val (.ref a3), .val (.ref a4), .val (.long q5), .second] [(.ref a4), (.ref a1)])) rfl rfl (hb hby d6_16)
  have Fw6 := f5_30.same W6
  have f7_41 := f5_27.wr W6
  have f7_42 := f5_28.other W6 (Or.inr (slot_ne (Or.inr (tw hw 40 rfl)) (Or.inr (tw hw 38 rfl)) (by decide) (t := .long) (t' := (.object "java/lang/String")) (by decide) (by decide)))
  have f7_43 := f5_29.other W6 (Or.inr (slot_ne (Or.inr (tw hw 34 rfl)) (Or.inr (tw hw 38 rfl)) (by decide) (t := (.object "java/lang/String")) (t' := (.object "java/lang/String")) (by decide) (by decide)))
  have f7_44 := Fw4.other W6 (Or.inr (slot_ne (Or.inr (tw hw 36 rfl)) (Or.inr (tw hw 38 rfl)) (by decide) (t := (.object "java/lang/String")) (t' := (.object "java/lang/String")) (by decide) (by decide)))
  have f7_45 := f5_31.wr W6 (Or.inl (List.mem_of_getElem? (i := 0) rfl))
  have Zs7 : n0 ≤ h6.size := by rw [W6.size]; exact Zs5
  refine Go.by st6 ?_
  show Go p.tables e below _ (T6.setTop (mkF m 19 #[.val (.ref a1), .val (.ref a2), .val (.ref a3), .val (.ref a4), .val (.long q5), .second] []))
  refine Go.by (fun _ => XS.aloadN X6.here hx rfl (hb hby d6_19) rfl rfl) ?_
  show Go p.tables e below _ (T6.setTop (mkF m 20 #[.val (.ref a1), .val (.ref a2), .val (.ref a3), .val (.ref a4), .val (.long q5), .second] [(.ref a1)]))
  refine Go.by (fun _ => XS.lload X6.here hx rfl (hb hby d6_20) rfl) ?_
  show Go p.tables e below _ (T6.setTop (mkF m 22 #[.val (.ref a1), .val (.ref a2), .val (.ref a3), .val (.ref a4), .val (.long q5), .second] [(.long q5), (.ref a1)]))
  obtain ⟨T8, h8, X8, W8, st8⟩ := X6.putF hx hZ hown (host := "") (Or.inl (tw hw 39 rfl)) Via.refl f7_42 f7_41 g_a1 (Or.inr ⟨(tw hw 40 rfl), rfl, hnm⟩) (tw hw 1 rfl) (ty := .long) (by decide) rfl rfl (g := (mkF m 22 #[.val (.ref a1), .val (.ref a2), .val (.ref a3), .val (.ref a4), .val (.long q5), .second] [(.long q5), (.ref a1)])) rfl rfl (hb hby d6_22)
  have Fw8 := f7_42.same W8
  have f9_55 := f7_41.wr W8
  have f9_56 := f7_43.other W8 (Or.inr (slot_ne (Or.inr (tw hw 34 rfl)) (Or.inr (tw hw 40 rfl)) (by decide) (t := (.object "java/lang/String")) (t' := .long) (by decide) (by decide)))
  have f9_57 := f7_44.other W8 (Or.inr (slot_ne (Or.inr (tw hw 36 rfl)) (Or.inr (tw hw 40 rfl)) (by decide) (t := (.object "java/lang/String")) (t' := .long) (by decide) (by decide)))
  have f9_58 := Fw6.other W8 (Or.inr (slot_ne (Or.inr (tw hw 38 rfl)) (Or.inr (tw hw 40 rfl)) (by decide) (t := (.object "java/lang/String")) (t' := .long) (by decide) (by decide)))
  have f9_59 := f7_45.wr W8 (Or.inl (List.mem_of_getElem? (i := 0) rfl))
  have Zs9 : n0 ≤ h8.size := by rw [W8.size]; exact Zs7
  refine Go.by st8 ?_
  show Go p.tables e below _ (T8.setTop (mkF m 25 #[.val (.ref a1), .val (.ref a2), .val (.ref a3), .val (.ref a4), .val (.long q5), .second] []))
  exact Go.ret0 X8 hx hlk hret (hb hby d6_25) (by decide) (by decide) ⟨rfl, f9_59, f9_55, f9_56, f9_57, f9_58, Fw8⟩
theorem d7_0 : decode prog_11_method_6_code 0 = .ok (.aload_n 1, 1) := by decide +kernel
theorem d7_1 : decode prog_11_method_6_code 1 = .ok (.instanceof 8, 3) := by decide +kernel
theorem d7_4 : decode prog_11_method_6_code 4 = .ok (.ifCond .eq 66, 3) := by decide +kernel
theorem d7_70 : decode prog_11_method_6_code 70 = .ok (.iconst 0, 1) := by decide +kernel
theorem d7_71 : decode prog_11_method_6_code 71 = .ok (.ireturn, 1) := by decide +kernel
abbrev Rm7n : Room := { frames := 0, cells := 0, slots := 0, locals := 0 }
set_option maxRecDepth 65536 in
set_option maxHeartbeats 40000000 in
theorem rm7n (l : Launch) (Z : State) (a0 : Array Value) (hw : ∀ d ∈ tables_1, d.before a0 Z = true) (ws : List Jvm.Cond) (a1 : Addr) (h0 : Heap) (n0 : Nat) (Z0 : n0 ≤ h0.size) :
    Met l Z n0 (⟨"com/example/preference_store/preferencestore/storage/Entry", "equals", "(Ljava/lang/Object;)Z"⟩ : MethodName) prog_11_method_6_code 3 (some .boolean) ws Rm7n #[(.ref a1), .null] h0 (fun v h => v = some (.int 0) ∧ h0 = h) := by
  refine enter (Ls := #[.val (.ref a1), .val .null, .unset]) (plainFor_of_name pn2) (fun m => by first | (simp [entryFrame, mkF, argsToLocals, Value.category]; done) | rfl) ?_
  intro p e s m below meth c T0 hx hby hml hown hnm hret hlk hZ X0
  show Go p.tables e below _ (T0.setTop (mkF m 0 #[.val (.ref a1), .val .null, .unset] []))
  refine Go.by (fun _ => XS.aloadN X0.here hx rfl (hb hby d7_0) rfl rfl) ?_
  show Go p.tables e below _ (T0.setTop (mkF m 1 #[.val (.ref a1), .val .null, .unset] [.null]))
  refine Go.by (X0.instNull hx (g := (mkF m 1 #[.val (.ref a1), .val .null, .unset] [.null])) rfl rfl (hb hby d7_1)) ?_
  show Go p.tables e below _ (T0.setTop (mkF m 4 #[.val (.ref a1), .val .null, .unset] [(.int (0 : Int32))]))
  refine Go.by (fun _ => XS.ifYes X0.here hx rfl (pc0 := 4) (pc' := 70) rfl (hb hby d7_4) rfl ((if0 _ _).trans (teq (by decide)).1) (by decide) (by decide)) ?_
  show Go p.tables e below _ (T0.setTop (mkF m 70 #[.val (.ref a1), .val .null, .unset] []))
  refine Go.by (fun _ => XS.iconst X0.here hx rfl (hb hby d7_70)) ?_
  show Go p.tables e below _ (T0.setTop (mkF m 71 #[.val (.ref a1), .val .null, .unset] [(.int (0 : Int32))]))
  exact Go.retN X0 hx hlk (z' := (0 : Int32)) hret (by simp) (hb hby d7_71) rfl (by decide) (by decide) ⟨rfl, rfl⟩
abbrev Rm7s : Room := { frames := 0, cells := 0, slots := 0, locals := 0 }
set_option maxRecDepth 65536 in
set_option maxHeartbeats 40000000 in
theorem rm7s (l : Launch) (Z : State) (a0 : Array Value) (hw : ∀ d ∈ tables_1, d.before a0 Z = true) (ws : List Jvm.Cond) (a1 : Addr) (a2 : Addr) (h0 : Heap) (n0 : Nat) (Z0 : n0 ≤ h0.size) (E_a2 : Exa Z h0 a2 "java/lang/String") :
    Met l Z n0 (⟨"com/example/preference_store/preferencestore/storage/Entry", "equals", "(Ljava/lang/Object;)Z"⟩ : MethodName) prog_11_method_6_code 3 (some .boolean) ws Rm7s #[(.ref a1), (.ref a2)] h0 (fun v h => v = some (.int 0) ∧ h0 = h) := by
  refine enter (Ls := #[.val (.ref a1), .val (.ref a2), .unset]) (plainFor_of_name pn2) (fun m => by first | (simp [entryFrame, mkF, argsToLocals, Value.category]; done) | rfl) ?_
  intro p e s m below meth c T0 hx hby hml hown hnm hret hlk hZ X0
  show Go p.tables e below _ (T0.setTop (mkF m 0 #[.val (.ref a1), .val (.ref a2), .unset] []))
  refine Go.by (fun _ => XS.aloadN X0.here hx rfl (hb hby d7_0) rfl rfl) ?_
  show Go p.tables e below _ (T0.setTop (mkF m 1 #[.val (.ref a1), .val (.ref a2), .unset] [(.ref a2)]))
  obtain ⟨T1, X1, st1⟩ := X0.instNo hx hZ hown (tw hw 46 rfl) E_a2 (ns_no (tw hw 13 rfl) (tw hw 1 rfl) (NS.step (tw hw 56 rfl) (ns_root (tw hw 57 rfl) (tw hw 1 rfl) (by decide)) (by decide)) (by decide)) (g := (mkF m 1 #[.val (.ref a1), .val (.ref a2), .unset] [(.ref a2)])) rfl rfl (hb hby d7_1)
  refine Go.by st1 ?_
  show Go p.tables e below _ (T1.setTop (mkF m 4 #[.val (.ref a1), .val (.ref a2), .unset] [(.int (0 : Int32))]))
  refine Go.by (fun _ => XS.ifYes X1.here hx rfl (pc0 := 4) (pc' := 70) rfl (hb hby d7_4) rfl ((if0 _ _).trans (teq (by decide)).1) (by decide) (by decide)) ?_
  show Go p.tables e below _ (T1.setTop (mkF m 70 #[.val (.ref a1), .val (.ref a2), .unset] []))
  refine Go.by (fun _ => XS.iconst X1.here hx rfl (hb hby d7_70)) ?_
  show Go p.tables e below _ (T1.setTop (mkF m 71 #[.val (.ref a1), .val (.ref a2), .unset] [(.int (0 : Int32))]))
  exact Go.retN X1 hx hlk (z' := (0 : Int32)) hret (by simp) (hb hby d7_71) rfl (by decide) (by decide) ⟨rfl, rfl⟩
theorem d7_7 : decode prog_11_method_6_code 7 = .ok (.aload_n 1, 1) := by decide +kernel
theorem d7_8 : decode prog_11_method_6_code 8 = .ok (.checkcast 8, 3) := by decide +kernel
theorem d7_11 : decode prog_11_method_6_code 11 = .ok (.astore_n 2, 1) := by decide +kernel
theorem d7_12 : decode prog_11_method_6_code 12 = .ok (.aload_n 0, 1) := by decide +kernel
theorem d7_13 : decode prog_11_method_6_code 13 = .ok (.getfield 7, 3) := by decide +kernel
theorem d7_16 : decode prog_11_method_6_code 16 = .ok (.aload_n 2, 1) := by decide +kernel
theorem d7_17 : decode prog_11_method_6_code 17 = .ok (.getfield 7, 3) := by decide +kernel
theorem d7_20 : decode prog_11_method_6_code 20 = .ok (.invokevirtual 23, 3) := by decide +kernel
theorem pd4 : parseMethodDescriptor "(Ljava/lang/Object;)Z" = some ⟨[(.object "java/lang/Object")], some .boolean⟩ := by decide +kernel
theorem d7_23 : decode prog_11_method_6_code 23 = .ok (.ifCond .eq 47, 3) := by decide +kernel
theorem d7_26 : decode prog_11_method_6_code 26 = .ok (.aload_n 0, 1) := by decide +kernel
theorem d7_27 : decode prog_11_method_6_code 27 = .ok (.getfield 13, 3) := by decide +kernel
theorem d7_30 : decode prog_11_method_6_code 30 = .ok (.aload_n 2, 1) := by decide +kernel
theorem d7_31 : decode prog_11_method_6_code 31 = .ok (.getfield 13, 3) := by decide +kernel
theorem d7_34 : decode prog_11_method_6_code 34 = .ok (.invokevirtual 23, 3) := by decide +kernel
theorem d7_37 : decode prog_11_method_6_code 37 = .ok (.ifCond .eq 33, 3) := by decide +kernel
theorem d7_40 : decode prog_11_method_6_code 40 = .ok (.aload_n 0, 1) := by decide +kernel
theorem d7_41 : decode prog_11_method_6_code 41 = .ok (.getfield 16, 3) := by decide +kernel
theorem d7_44 : decode prog_11_method_6_code 44 = .ok (.aload_n 2, 1) := by decide +kernel
theorem d7_45 : decode prog_11_method_6_code 45 = .ok (.getfield 16, 3) := by decide +kernel
theorem d7_48 : decode prog_11_method_6_code 48 = .ok (.invokevirtual 23, 3) := by decide +kernel
theorem d7_51 : decode prog_11_method_6_code 51 = .ok (.ifCond .eq 19, 3) := by decide +kernel
theorem d7_54 : decode prog_11_method_6_code 54 = .ok (.aload_n 0, 1) := by decide +kernel
theorem d7_55 : decode prog_11_method_6_code 55 = .ok (.getfield 19, 3) := by decide +kernel
theorem d7_58 : decode prog_11_method_6_code 58 = .ok (.aload_n 2, 1) := by decide +kernel
theorem d7_59 : decode prog_11_method_6_code 59 = .ok (.getfield 19, 3) := by decide +kernel
theorem d7_62 : decode prog_11_method_6_code 62 = .ok (.lcmp, 1) := by decide +kernel
theorem d7_63 : decode prog_11_method_6_code 63 = .ok (.ifCond .ne 7, 3) := by decide +kernel
theorem d7_66 : decode prog_11_method_6_code 66 = .ok (.iconst 1, 1) := by decide +kernel
theorem d7_67 : decode prog_11_method_6_code 67 = .ok (.goto 4, 3) := by decide +kernel
abbrev Rm7e : Room := { frames := 2, cells := 0, slots := 0, locals := 28 }
set_option maxRecDepth 65536 in
set_option maxHeartbeats 40000000 in
theorem rm7e (l : Launch) (Z : State) (a0 : Array Value) (hw : ∀ d ∈ tables_1, d.before a0 Z = true) (ws : List Jvm.Cond) (a1 : Addr) (a2 : Addr) (cs : Int32) (s1 s2 s3 t1 t2 t3 bs1 bs2 bs3 bt1 bt2 bt3 : Addr) (ks1 ks2 ks3 kt1 kt2 kt3 : ClassId) (x1 x2 x3 y1 y2 y3 : Int32) (q1 q2 : Int64) (h0 : Heap) (n0 : Nat) (Z0 : n0 ≤ h0.size) (O0 : Old Z n0 h0) (S_CS0 : Sta Z Z.heap "java/lang/String" "COMPACT_STRINGS" "Z" (.int cs)) (hcs : ¬ cs = 0) (E_a1 : Exa Z h0 a1 "com/example/preference_store/preferencestore/storage/Entry") (Fkind_a1 : Fld Z h0 a1 "com/example/preference_store/preferencestore/storage/Entry" "kind" "Ljava/lang/String;" (.ref s1)) (Fname_a1 : Fld Z h0 a1 "com/example/preference_store/preferencestore/storage/Entry" "name" "Ljava/lang/String;" (.ref s2)) (Fvalue_a1 : Fld Z h0 a1 "com/example/preference_store/preferencestore/storage/Entry" "value" "Ljava/lang/String;" (.ref s3)) (Fver_a1 : Fld Z h0 a1 "com/example/preference_store/preferencestore/storage/Entry" "version" "J" (.long q1)) (E_s1 : Exa Z h0 s1 "java/lang/String") (Fv_s1 : Fld Z h0 s1 "java/lang/String" "value" "[B" (.ref bs1)) (Fc_s1 : Fld Z h0 s1 "java/lang/String" "coder" "B" (.int (0 : Int32))) (V_bs1 : Avf Z h0 bs1 ks1 .byte 1 (fun _ => (.int x1))) (E_s2 : Exa Z h0 s2 "java/lang/String") (Fv_s2 : Fld Z h0 s2 "java/lang/String" "value" "[B" (.ref bs2)) (Fc_s2 : Fld Z h0 s2 "java/lang/String" "coder" "B" (.int (0 : Int32))) (V_bs2 : Avf Z h0 bs2 ks2 .byte 1 (fun _ => (.int x2))) (E_s3 : Exa Z h0 s3 "java/lang/String") (Fv_s3 : Fld Z h0 s3 "java/lang/String" "value" "[B" (.ref bs3)) (Fc_s3 : Fld Z h0 s3 "java/lang/String" "coder" "B" (.int (0 : Int32))) (V_bs3 : Avf Z h0 bs3 ks3 .byte 1 (fun _ => (.int x3))) (E_a2 : Exa Z h0 a2 "com/example/preference_store/preferencestore/storage/Entry") (Fkind_a2 : Fld Z h0 a2 "com/example/preference_store/preferencestore/storage/Entry" "kind" "Ljava/lang/String;" (.ref t1)) (Fname_a2 : Fld Z h0 a2 "com/example/preference_store/preferencestore/storage/Entry" "name" "Ljava/lang/String;" (.ref t2)) (Fvalue_a2 : Fld Z h0 a2 "com/example/preference_store/preferencestore/storage/Entry" "value" "Ljava/lang/String;" (.ref t3)) (Fver_a2 : Fld Z h0 a2 "com/example/preference_store/preferencestore/storage/Entry" "version" "J" (.long q2)) (E_t1 : Exa Z h0 t1 "java/lang/String") (Fv_t1 : Fld Z h0 t1 "java/lang/String" "value" "[B" (.ref bt1)) (Fc_t1 : Fld Z h0 t1 "java/lang/String" "coder" "B" (.int (0 : Int32))) (V_bt1 : Avf Z h0 bt1 kt1 .byte 1 (fun _ => (.int y1))) (E_t2 : Exa Z h0 t2 "java/lang/String") (Fv_t2 : Fld Z h0 t2 "java/lang/String" "value" "[B" (.ref bt2)) (Fc_t2 : Fld Z h0 t2 "java/lang/String" "coder" "B" (.int (0 : Int32))) (V_bt2 : Avf Z h0 bt2 kt2 .byte 1 (fun _ => (.int y2))) (E_t3 : Exa Z h0 t3 "java/lang/String") (Fv_t3 : Fld Z h0 t3 "java/lang/String" "value" "[B" (.ref bt3)) (Fc_t3 : Fld Z h0 t3 "java/lang/String" "coder" "B" (.int (0 : Int32))) (V_bt3 : Avf Z h0 bt3 kt3 .byte 1 (fun _ => (.int y3))) (hs_x1 : s1 = t1 → x1 = y1) (hs_x2 : s2 = t2 → x2 = y2) (hs_x3 : s3 = t3 → x3 = y3) :
    Met l Z n0 (⟨"com/example/preference_store/preferencestore/storage/Entry", "equals", "(Ljava/lang/Object;)Z"⟩ : MethodName) prog_11_method_6_code 3 (some .boolean) ws Rm7e #[(.ref a1), (.ref a2)] h0 (fun v h => (((x1 = y1 ∧ x2 = y2 ∧ x3 = y3 ∧ q1 = q2) ∧ v = some (.int 1)) ∨ (¬ (x1 = y1 ∧ x2 = y2 ∧ x3 = y3 ∧ q1 = q2) ∧ v = some (.int 0))) ∧ h0 = h) := by
  refine enter (Ls := #[.val (.ref a1), .val (.ref a2), .unset]) (plainFor_of_name pn2) (fun m => by first | (simp [entryFrame, mkF, argsToLocals, Value.category]; done) | rfl) ?_
  intro p e s m below meth c T0 hx hby hml hown hnm hret hlk hZ X0
  show Go p.tables e below _ (T0.setTop (mkF m 0 #[.val (.ref a1), .val (.ref a2), .unset] []))
  refine Go.by (fun _ => XS.aloadN X0.here hx rfl (hb hby d7_0) rfl rfl) ?_
  show Go p.tables e below _ (T0.setTop (mkF m 1 #[.val (.ref a1), .val (.ref a2), .unset] [(.ref a2)]))
  obtain ⟨T1, X1, st1⟩ := X0.instY hx hZ hown (tw hw 46 rfl) (Ins.self E_a2) (g := (mkF m 1 #[.val (.ref a1), .val (.ref a2), .unset] [(.ref a2)])) rfl rfl (hb hby d7_1)
  refine Go.by st1 ?_
  show Go p.tables e below _ (T1.setTop (mkF m 4 #[.val (.ref a1), .val (.ref a2), .unset] [(.int (1 : Int32))]))
  refine Go.by (fun _ => XS.ifNo X1.here hx rfl (hb hby d7_4) rfl ((if0 _ _).trans (feq (by decide)).1)) ?_
  show Go p.tables e below _ (T1.setTop (mkF m 7 #[.val (.ref a1), .val (.ref a2), .unset] []))
  refine Go.by (fun _ => XS.aloadN X1.here hx rfl (hb hby d7_7) rfl rfl) ?_
  show Go p.tables e below _ (T1.setTop (mkF m 8 #[.val (.ref a1), .val (.ref a2), .unset] [(.ref a2)]))
  obtain ⟨T2, X2, st2⟩ := X1.castY hx hZ hown (tw hw 46 rfl) (Ins.self E_a2) (g := (mkF m 8 #[.val (.ref a1), .val (.ref a2), .unset] [(.ref a2)])) rfl rfl (hb hby d7_8)
  refine Go.by st2 ?_
  show Go p.tables e below _ (T2.setTop (mkF m 11 #[.val (.ref a1), .val (.ref a2), .unset] [(.ref a2)]))
  refine Go.by (fun _ => XS.astoreN X2.here hx rfl (hb hby d7_11) rfl rfl (l' := #[.val (.ref a1), .val (.ref a2), .val (.ref a2)]) rfl) ?_
  show Go p.tables e below _ (T2.setTop (mkF m 12 #[.val (.ref a1), .val (.ref a2), .val (.ref a2)] []))
  refine Go.by (fun _ => XS.aloadN X2.here hx rfl (hb hby d7_12) rfl rfl) ?_
  show Go p.tables e below _ (T2.setTop (mkF m 13 #[.val (.ref a1), .val (.ref a2), .val (.ref a2)] [(.ref a1)]))
  obtain ⟨T3, X3, st3⟩ := X2.getF hx hZ hown (host := "") (Or.inl (tw hw 33 rfl)) Via.refl Fkind_a1 (g := (mkF m 13 #[.val (.ref a1), .val (.ref a2), .val (.ref a2)] [(.ref a1)])) rfl rfl (hb hby d7_13)
  refine Go.by st3 ?_
  show Go p.tables e below _ (T3.setTop (mkF m 16 #[.val (.ref a1), .val (.ref a2), .val (.ref a2)] [(.ref s1)]))
  refine Go.by (fun _ => XS.aloadN X3.here hx rfl (hb hby d7_16) rfl rfl) ?_
  show Go p.tables e below _ (T3.setTop (mkF m 17 #[.val (.ref a1), .val (.ref a2), .val (.ref a2)] [(.ref a2), (.ref s1)]))
  obtain ⟨T4, X4, st4⟩ := X3.getF hx hZ hown (host := "") (Or.inl (tw hw 33 rfl)) Via.refl Fkind_a2 (g := (mkF m 17 #[.val (.ref a1), .val (.ref a2), .val (.ref a2)] [(.ref a2), (.ref s1)])) rfl rfl (hb hby d7_17)
  refine Go.by st4 ?_
  show Go p.tables e below _ (T4.setTop (mkF m 20 #[.val (.ref a1), .val (.ref a2), .val (.ref a2)] [(.ref t1), (.ref s1)]))
  obtain ⟨v5, T5, h5, X5, q5, st5⟩ := X4.callV hx hZ (y := (⟨"java/lang/String", "equals", "(Ljava/lang/Object;)Z"⟩ : MethodName)) (z := (⟨"java/lang/String", "equals", "(Ljava/lang/Object;)Z"⟩ : MethodName)) hown (tw hw 48 rfl) (tw hw 49 rfl) (notFace_of_selects (args := #[]) (mvT hZ (tw hw 51 rfl))) (tw hw 51 rfl) (tw hw 50 rfl) (tw hw 5 rfl) (tw hw 52 rfl) (by decide) (rm8 l Z a0 hw [] s1 t1 cs bs1 bt1 ks1 kt1 x1 y1 h0 n0 Z0 O0 S_CS0 hcs E_s1 Fv_s1 Fc_s1 V_bs1 E_t1 Fv_t1 Fc_t1 V_bt1 hs_x1) E_s1 (g := (mkF m 20 #[.val (.ref a1), .val (.ref a2), .val (.ref a2)] [(.ref t1), (.ref s1)])) rfl (by rw [hml]; rfl) (argsL := [(.ref t1)]) (rest := []) (lenOf pd4 rfl) rfl (hb hby d7_20) rfl (by decide) (Nat.le_of_ble_eq_true rfl) (k' := 0) (n' := 0) rfl rfl (by decide) (by decide)
  refine Go.by st5 ?_
  rcases q5 with ⟨⟨hq5, rfl⟩ | ⟨hq5, rfl⟩, rfl⟩
  · skip
    show Go p.tables e below _ (T5.setTop (mkF m 23 #[.val (.ref a1), .val (.ref a2), .val (.ref a2)] [(.int (1 : Int32))]))
    refine Go.by (fun _ => XS.ifNo X5.here hx rfl (hb hby d7_23) rfl ((if0 _ _).trans (feq (by decide)).1)) ?_
    show Go p.tables e below _ (T5.setTop (mkF m 26 #[.val (.ref a1), .val (.ref a2), .val (.ref a2)] []))
    refine Go.by (fun _ => XS.aloadN X5.here hx rfl (hb hby d7_26) rfl rfl) ?_
    show Go p.tables e below _ (T5.setTop (mkF m 27 #[.val (.ref a1), .val (.ref a2), .val (.ref a2)] [(.ref a1)]))
    obtain ⟨T6, X6, st6⟩ := X5.getF hx hZ hown (host := "") (Or.inl (tw hw 35 rfl)) Via.refl Fname_a1 (g := (mkF m 27 #[.val (.ref a1), .val (.ref a2), .val (.ref a2)] [(.ref a1)])) rfl rfl (hb hby d7_27)
    refine Go.by st6 ?_
    show Go p.tables e below _ (T6.setTop (mkF m 30 #[.val (.ref a1), .val (.ref a2), .val (.ref a2)] [(.ref s2)]))
    refine Go.by (fun _ => XS.aloadN X6.here hx rfl (hb hby d7_30) rfl rfl) ?_
    show Go p.tables e below _ (T6.setTop (mkF m 31 #[.val (.ref a1), .val (.ref a2), .val (.ref a2)] [(.ref a2), (.ref s2)]))
    obtain ⟨T7, X7, st7⟩ := X6.getF hx hZ hown (host := "") (Or.inl (tw hw 35 rfl)) Via.refl Fname_a2 (g := (mkF m 31 #[.val (.ref a1), .val (.ref a2), .val (.ref a2)] [(.ref a2), (.ref s2)])) rfl rfl (hb hby d7_31)
    refine Go.by st7 ?_
    show Go p.tables e below _ (T7.setTop (mkF m 34 #[.val (.ref a1), .val (.ref a2), .val (.ref a2)] [(.ref t2), (.ref s2)]))
    obtain ⟨v8, T8, h8, X8, q8, st8⟩ := X7.callV hx hZ (y := (⟨"java/lang/String", "equals", "(Ljava/lang/Object;)Z"⟩ : MethodName)) (z := (⟨"java/lang/String", "equals", "(Ljava/lang/Object;)Z"⟩ : MethodName)) hown (tw hw 48 rfl) (tw hw 49 rfl) (notFace_of_selects (args := #[]) (mvT hZ (tw hw 51 rfl))) (tw hw 51 rfl) (tw hw 50 rfl) (tw hw 5 rfl) (tw hw 52 rfl) (by decide) (rm8 l Z a0 hw [] s2 t2 cs bs2 bt2 ks2 kt2 x2 y2 h0 n0 Z0 O0 S_CS0 hcs E_s2 Fv_s2 Fc_s2 V_bs2 E_t2 Fv_t2 Fc_t2 V_bt2 hs_x2) E_s2 (g := (mkF m 34 #[.val (.ref a1), .val (.ref a2), .val (.ref a2)] [(.ref t2), (.ref s2)])) rfl (by rw [hml]; rfl) (argsL := [(.ref t2)]) (rest := []) (lenOf pd4 rfl) rfl (hb hby d7_34) rfl (by decide) (Nat.le_of_ble_eq_true rfl) (k' := 0) (n' := 0) rfl rfl (by decide) (by decide)
    refine Go.by st8 ?_
    rcases q8 with ⟨⟨hq8, rfl⟩ | ⟨hq8, rfl⟩, rfl⟩
    · skip
      show Go p.tables e below _ (T8.setTop (mkF m 37 #[.val (.ref a1), .val (.ref a2), .val (.ref a2)] [(.int (1 : Int32))]))
      refine Go.by (fun _ => XS.ifNo X8.here hx rfl (hb hby d7_37) rfl ((if0 _ _).trans (feq (by decide)).1)) ?_
      show Go p.tables e below _ (T8.setTop (mkF m 40 #[.val (.ref a1), .val (.ref a2), .val (.ref a2)] []))
      refine Go.by (fun _ => XS.aloadN X8.here hx rfl (hb hby d7_40) rfl rfl) ?_
      show Go p.tables e below _ (T8.setTop (mkF m 41 #[.val (.ref a1), .val (.ref a2), .val (.ref a2)] [(.ref a1)]))
      obtain ⟨T9, X9, st9⟩ := X8.getF hx hZ hown (host := "") (Or.inl (tw hw 37 rfl)) Via.refl Fvalue_a1 (g := (mkF m 41 #[.val (.ref a1), .val (.ref a2), .val (.ref a2)] [(.ref a1)])) rfl rfl (hb hby d7_41)
      refine Go.by st9 ?_
      show Go p.tables e below _ (T9.setTop (mkF m 44 #[.val (.ref a1), .val (.ref a2), .val (.ref a2)] [(.ref s3)]))
      refine Go.by (fun _ => XS.aloadN X9.here hx rfl (hb hby d7_44) rfl rfl) ?_
      show Go p.tables e below _ (T9.setTop (mkF m 45 #[.val (.ref a1), .val (.ref a2), .val (.ref a2)] [(.ref a2), (.ref s3)]))
      obtain ⟨T10, X10, st10⟩ := X9.getF hx hZ hown (host := "") (Or.inl (tw hw 37 rfl)) Via.refl Fvalue_a2 (g := (mkF m 45 #[.val (.ref a1), .val (.ref a2), .val (.ref a2)] [(.ref a2), (.ref s3)])) rfl rfl (hb hby d7_45)
      refine Go.by st10 ?_
      show Go p.tables e below _ (T10.setTop (mkF m 48 #[.val (.ref a1), .val (.ref a2), .val (.ref a2)] [(.ref t3), (.ref s3)]))
      obtain ⟨v11, T11, h11, X11, q11, st11⟩ := X10.callV hx hZ (y := (⟨"java/lang/String", "equals", "(Ljava/lang/Object;)Z"⟩ : MethodName)) (z := (⟨"java/lang/String", "equals", "(Ljava/lang/Object;)Z"⟩ : MethodName)) hown (tw hw 48 rfl) (tw hw 49 rfl) (notFace_of_selects (args := #[]) (mvT hZ (tw hw 51 rfl))) (tw hw 51 rfl) (tw hw 50 rfl) (tw hw 5 rfl) (tw hw 52 rfl) (by decide) (rm8 l Z a0 hw [] s3 t3 cs bs3 bt3 ks3 kt3 x3 y3 h0 n0 Z0 O0 S_CS0 hcs E_s3 Fv_s3 Fc_s3 V_bs3 E_t3 Fv_t3 Fc_t3 V_bt3 hs_x3) E_s3 (g := (mkF m 48 #[.val (.ref a1), .val (.ref a2), .val (.ref a2)] [(.ref t3), (.ref s3)])) rfl (by rw [hml]; rfl) (argsL := [(.ref t3)]) (rest := []) (lenOf pd4 rfl) rfl (hb hby d7_48) rfl (by decide) (Nat.le_of_ble_eq_true rfl) (k' := 0) (n' := 0) rfl rfl (by decide) (by decide)
      refine Go.by st11 ?_
      rcases q11 with ⟨⟨hq11, rfl⟩ | ⟨hq11, rfl⟩, rfl⟩
      · skip
        show Go p.tables e below _ (T11.setTop (mkF m 51 #[.val (.ref a1), .val (.ref a2), .val (.ref a2)] [(.int (1 : Int32))]))
        refine Go.by (fun _ => XS.ifNo X11.here hx rfl (hb hby d7_51) rfl ((if0 _ _).trans (feq (by decide)).1)) ?_
        show Go p.tables e below _ (T11.setTop (mkF m 54 #[.val (.ref a1), .val (.ref a2), .val (.ref a2)] []))
        refine Go.by (fun _ => XS.aloadN X11.here hx rfl (hb hby d7_54) rfl rfl) ?_
        show Go p.tables e below _ (T11.setTop (mkF m 55 #[.val (.ref a1), .val (.ref a2), .val (.ref a2)] [(.ref a1)]))
        obtain ⟨T12, X12, st12⟩ := X11.getF hx hZ hown (host := "") (Or.inl (tw hw 39 rfl)) Via.refl Fver_a1 (g := (mkF m 55 #[.val (.ref a1), .val (.ref a2), .val (.ref a2)] [(.ref a1)])) rfl rfl (hb hby d7_55)
        refine Go.by st12 ?_
        show Go p.tables e below _ (T12.setTop (mkF m 58 #[.val (.ref a1), .val (.ref a2), .val (.ref a2)] [(.long q1)]))
        refine Go.by (fun _ => XS.aloadN X12.here hx rfl (hb hby d7_58) rfl rfl) ?_
        show Go p.tables e below _ (T12.setTop (mkF m 59 #[.val (.ref a1), .val (.ref a2), .val (.ref a2)] [(.ref a2), (.long q1)]))
        obtain ⟨T13, X13, st13⟩ := X12.getF hx hZ hown (host := "") (Or.inl (tw hw 39 rfl)) Via.refl Fver_a2 (g := (mkF m 59 #[.val (.ref a1), .val (.ref a2), .val (.ref a2)] [(.ref a2), (.long q1)])) rfl rfl (hb hby d7_59)
        refine Go.by st13 ?_
        show Go p.tables e below _ (T13.setTop (mkF m 62 #[.val (.ref a1), .val (.ref a2), .val (.ref a2)] [(.long q2), (.long q1)]))
        refine Go.by (fun _ => XS.lcmp X13.here hx rfl (hb hby d7_62) rfl) ?_
        show Go p.tables e below _ (T13.setTop (mkF m 63 #[.val (.ref a1), .val (.ref a2), .val (.ref a2)] [(.int (lcmpW q1 q2))]))
        by_cases hc63_14 : (lcmpW q1 q2) = (0 : Int32)
        · skip
          refine Go.by (fun _ => XS.ifNo X13.here hx rfl (hb hby d7_63) rfl ((if0 _ _).trans (teq hc63_14).2)) ?_
          show Go p.tables e below _ (T13.setTop (mkF m 66 #[.val (.ref a1), .val (.ref a2), .val (.ref a2)] []))
          refine Go.by (fun _ => XS.iconst X13.here hx rfl (hb hby d7_66)) ?_
          show Go p.tables e below _ (T13.setTop (mkF m 67 #[.val (.ref a1), .val (.ref a2), .val (.ref a2)] [(.int (1 : Int32))]))
          refine Go.by (fun _ => XS.goto X13.here hx rfl (pc0 := 67) (pc' := 71) rfl (hb hby d7_67) (by decide) (by decide)) ?_
          show Go p.tables e below _ (T13.setTop (mkF m 71 #[.val (.ref a1), .val (.ref a2), .val (.ref a2)] [(.int (1 : Int32))]))
          refine Go.retN X13 hx hlk (z' := (1 : Int32)) hret (by simp) (hb hby d7_71) rfl (by decide) (by decide) ?_
          simp only [lw_eq] at hc63_14
          exact ⟨Or.inl ⟨by simp [*], rfl⟩, rfl⟩
        · skip
          refine Go.by (fun _ => XS.ifYes X13.here hx rfl (pc0 := 63) (pc' := 70) rfl (hb hby d7_63) rfl ((if0 _ _).trans (feq hc63_14).2) (by decide) (by decide)) ?_
          show Go p.tables e below _ (T13.setTop (mkF m 70 #[.val (.ref a1), .val (.ref a2), .val (.ref a2)] []))
          refine Go.by (fun _ => XS.iconst X13.here hx rfl (hb hby d7_70)) ?_
          show Go p.tables e below _ (T13.setTop (mkF m 71 #[.val (.ref a1), .val (.ref a2), .val (.ref a2)] [(.int (0 : Int32))]))
          refine Go.retN X13 hx hlk (z' := (0 : Int32)) hret (by simp) (hb hby d7_71) rfl (by decide) (by decide) ?_
          simp only [lw_eq] at hc63_14
          exact ⟨Or.inr ⟨by simp [*], rfl⟩, rfl⟩
      · skip
        show Go p.tables e below _ (T11.setTop (mkF m 51 #[.val (.ref a1), .val (.ref a2), .val (.ref a2)] [(.int (0 : Int32))]))
        refine Go.by (fun _ => XS.ifYes X11.here hx rfl (pc0 := 51) (pc' := 70) rfl (hb hby d7_51) rfl ((if0 _ _).trans (teq (by decide)).1) (by decide) (by decide)) ?_
        show Go p.tables e below _ (T11.setTop (mkF m 70 #[.val (.ref a1), .val (.ref a2), .val (.ref a2)] []))
        refine Go.by (fun _ => XS.iconst X11.here hx rfl (hb hby d7_70)) ?_
        show Go p.tables e below _ (T11.setTop (mkF m 71 #[.val (.ref a1), .val (.ref a2), .val (.ref a2)] [(.int (0 : Int32))]))
        refine Go.retN X11 hx hlk (z' := (0 : Int32)) hret (by simp) (hb hby d7_71) rfl (by decide) (by decide) ?_
        exact ⟨Or.inr ⟨by simp [*], rfl⟩, rfl⟩
    · skip
      show Go p.tables e below _ (T8.setTop (mkF m 37 #[.val (.ref a1), .val (.ref a2), .val (.ref a2)] [(.int (0 : Int32))]))
      refine Go.by (fun _ => XS.ifYes X8.here hx rfl (pc0 := 37) (pc' := 70) rfl (hb hby d7_37) rfl ((if0 _ _).trans (teq (by decide)).1) (by decide) (by decide)) ?_
      show Go p.tables e below _ (T8.setTop (mkF m 70 #[.val (.ref a1), .val (.ref a2), .val (.ref a2)] []))
      refine Go.by (fun _ => XS.iconst X8.here hx rfl (hb hby d7_70)) ?_
      show Go p.tables e below _ (T8.setTop (mkF m 71 #[.val (.ref a1), .val (.ref a2), .val (.ref a2)] [(.int (0 : Int32))]))
      refine Go.retN X8 hx hlk (z' := (0 : Int32)) hret (by simp) (hb hby d7_71) rfl (by decide) (by decide) ?_
      exact ⟨Or.inr ⟨by simp [*], rfl⟩, rfl⟩
  · skip
    show Go p.tables e below _ (T5.setTop (mkF m 23 #[.val (.ref a1), .val (.ref a2), .val (.ref a2)] [(.int (0 : Int32))]))
    refine Go.by (fun _ => XS.ifYes X5.here hx rfl (pc0 := 23) (pc' := 70) rfl (hb hby d7_23) rfl ((if0 _ _).trans (teq (by decide)).1) (by decide) (by decide)) ?_
    show Go p.tables e below _ (T5.setTop (mkF m 70 #[.val (.ref a1), .val (.ref a2), .val (.ref a2)] []))
    refine Go.by (fun _ => XS.iconst X5.here hx rfl (hb hby d7_70)) ?_
    show Go p.tables e below _ (T5.setTop (mkF m 71 #[.val (.ref a1), .val (.ref a2), .val (.ref a2)] [(.int (0 : Int32))]))
    refine Go.retN X5 hx hlk (z' := (0 : Int32)) hret (by simp) (hb hby d7_71) rfl (by decide) (by decide) ?_
    exact ⟨Or.inr ⟨by simp [*], rfl⟩, rfl⟩
theorem pd5 : parseMethodDescriptor "(C)Ljava/lang/String;" = some ⟨[.char], some (.object "java/lang/String")⟩ := by decide +kernel
theorem pd6 : parseMethodDescriptor "(Ljava/lang/String;Ljava/lang/String;Ljava/lang/String;J)V" = some ⟨[(.object "java/lang/String"), (.object "java/lang/String"), (.object "java/lang/String"), .long], none⟩ := by decide +kernel
theorem pn3 : plainName "com/example/preference_store/preferencestore/storage/EntryEqualsPinLaw" = true := by first | (simp [plainName, overriddenIn]; done) | decide +kernel
set_option maxRecDepth 65536 in
set_option maxHeartbeats 40000000 in
theorem rm0 (l : Launch) (Z : State) (a0 : Array Value) (hw : ∀ d ∈ tables_1, d.before a0 Z = true) (ws : List Jvm.Cond) (p0 : Int32) (p1 : Int32) (p2 : Int64) (p3 : Int64) (p4 : Int32) (cs : Int32) (h0 : Heap) (n0 : Nat) (Z0 : n0 ≤ h0.size) (O0 : Old Z n0 h0) (S_CS0 : Sta Z Z.heap "java/lang/String" "COMPACT_STRINGS" "Z" (.int cs)) (hcs : ¬ cs = 0) :
    Met l Z n0 x code maxLocals ret ws room_1 #[(.int p0), (.int p1), (.long p2), (.long p3), (.int p4)] h0 (fun v h => v = some (.int 1)) := by
  refine enter (Ls := #[.val (.int p0), .val (.int p1), .val (.long p2), .second, .val (.long p3), .second, .val (.int p4), .unset, .unset, .unset, .unset, .unset, .unset, .unset, .unset, .unset, .unset, .unset, .unset]) (plainFor_of_name pn3) (fun m => by first | (simp [entryFrame, mkF, argsToLocals, Value.category, maxLocals]; done) | rfl) ?_
  intro p e s m below meth c T0 hx hby hml hown hnm hret hlk hZ X0
  show Go p.tables e below _ (T0.setTop (mkF m 0 #[.val (.int p0), .val (.int p1), .val (.long p2), .second, .val (.long p3), .second, .val (.int p4), .unset, .unset, .unset, .unset, .unset, .unset, .unset, .unset, .unset, .unset, .unset, .unset] []))
  refine Go.by (fun _ => XS.iloadN X0.here hx rfl (hb hby at_0) rfl) ?_
  show Go p.tables e below _ (T0.setTop (mkF m 1 #[.val (.int p0), .val (.int p1), .val (.long p2), .second, .val (.long p3), .second, .val (.int p4), .unset, .unset, .unset, .unset, .unset, .unset, .unset, .unset, .unset, .unset, .unset, .unset] [(.int p0)]))
  refine Go.by (fun _ => XS.sipush X0.here hx rfl (hb hby at_1)) ?_
  show Go p.tables e below _ (T0.setTop (mkF m 4 #[.val (.int p0), .val (.int p1), .val (.long p2), .second, .val (.long p3), .second, .val (.int p4), .unset, .unset, .unset, .unset, .unset, .unset, .unset, .unset, .unset, .unset, .unset, .unset] [(.int (255 : Int32)), (.int p0)]))
  refine Go.by (fun _ => XS.iand X0.here hx rfl (hb hby at_4) rfl) ?_
  show Go p.tables e below _ (T0.setTop (mkF m 5 #[.val (.int p0), .val (.int p1), .val (.long p2), .second, .val (.long p3), .second, .val (.int p4), .unset, .unset, .unset, .unset, .unset, .unset, .unset, .unset, .unset, .unset, .unset, .unset] [(.int (p0 &&& (255 : Int32)))]))
  refine Go.by (fun _ => XS.i2c X0.here hx rfl (hb hby at_5) rfl) ?_
  show Go p.tables e below _ (T0.setTop (mkF m 6 #[.val (.int p0), .val (.int p1), .val (.long p2), .second, .val (.long p3), .second, .val (.int p4), .unset, .unset, .unset, .unset, .unset, .unset, .unset, .unset, .unset, .unset, .unset, .unset] [(.int ((p0 &&& (255 : Int32)).toUInt32.toUInt16.toUInt32.toInt32))]))
  refine Go.by (fun _ => XS.istore X0.here hx rfl (hb hby at_6) rfl (l' := #[.val (.int p0), .val (.int p1), .val (.long p2), .second, .val (.long p3), .second, .val (.int p4), .val (.int ((p0 &&& (255 : Int32)).toUInt32.toUInt16.toUInt32.toInt32)), .unset, .unset, .unset, .unset, .unset, .unset, .unset, .unset, .unset, .unset, .unset]) rfl) ?_
  show Go p.tables e below _ (T0.setTop (mkF m 8 #[.val (.int p0), .val (.int p1), .val (.long p2), .second, .val (.long p3), .second, .val (.int p4), .val (.int ((p0 &&& (255 : Int32)).toUInt32.toUInt16.toUInt32.toInt32)), .unset, .unset, .unset, .unset, .unset, .unset, .unset, .unset, .unset, .unset, .unset] []))
  refine Go.by (fun _ => XS.iloadN X0.here hx rfl (hb hby at_8) rfl) ?_
  show Go p.tables e below _ (T0.setTop (mkF m 9 #[.val (.int p0), .val (.int p1), .val (.long p2), .second, .val (.long p3), .second, .val (.int p4), .val (.int ((p0 &&& (255 : Int32)).toUInt32.toUInt16.toUInt32.toInt32)), .unset, .unset, .unset, .unset, .unset, .unset, .unset, .unset, .unset, .unset, .unset] [(.int p0)]))
  refine Go.by (fun _ => XS.bipush X0.here hx rfl (hb hby at_9)) ?_
  show Go p.tables e below _ (T0.setTop (mkF m 11 #[.val (.int p0), .val (.int p1), .val (.long p2), .second, .val (.long p3), .second, .val (.int p4), .val (.int ((p0 &&& (255 : Int32)).toUInt32.toUInt16.toUInt32.toInt32)), .unset, .unset, .unset, .unset, .unset, .unset, .unset, .unset, .unset, .unset, .unset] [(.int (8 : Int32)), (.int p0)]))
  refine Go.by (fun _ => XS.iushr X0.here hx rfl (hb hby at_11) rfl) ?_
  show Go p.tables e below _ (T0.setTop (mkF m 12 #[.val (.int p0), .val (.int p1), .val (.long p2), .second, .val (.long p3), .second, .val (.int p4), .val (.int ((p0 &&& (255 : Int32)).toUInt32.toUInt16.toUInt32.toInt32)), .unset, .unset, .unset, .unset, .unset, .unset, .unset, .unset, .unset, .unset, .unset] [(.int ((p0.toUInt32 >>> ((8 : Int32) &&& 31).toUInt32).toInt32))]))
  refine Go.by (fun _ => XS.sipush X0.here hx rfl (hb hby at_12)) ?_
  show Go p.tables e below _ (T0.setTop (mkF m 15 #[.val (.int p0), .val (.int p1), .val (.long p2), .second, .val (.long p3), .second, .val (.int p4), .val (.int ((p0 &&& (255 : Int32)).toUInt32.toUInt16.toUInt32.toInt32)), .unset, .unset, .unset, .unset, .unset, .unset, .unset, .unset, .unset, .unset, .unset] [(.int (255 : Int32)), (.int ((p0.toUInt32 >>> ((8 : Int32) &&& 31).toUInt32).toInt32))]))
  refine Go.by (fun _ => XS.iand X0.here hx rfl (hb hby at_15) rfl) ?_
  show Go p.tables e below _ (T0.setTop (mkF m 16 #[.val (.int p0), .val (.int p1), .val (.long p2), .second, .val (.long p3), .second, .val (.int p4), .val (.int ((p0 &&& (255 : Int32)).toUInt32.toUInt16.toUInt32.toInt32)), .unset, .unset, .unset, .unset, .unset, .unset, .unset, .unset, .unset, .unset, .unset] [(.int (((p0.toUInt32 >>> ((8 : Int32) &&& 31).toUInt32).toInt32) &&& (255 : Int32)))]))
  refine Go.by (fun _ => XS.i2c X0.here hx rfl (hb hby at_16) rfl) ?_
  show Go p.tables e below _ (T0.setTop (mkF m 17 #[.val (.int p0), .val (.int p1), .val (.long p2), .second, .val (.long p3), .second, .val (.int p4), .val (.int ((p0 &&& (255 : Int32)).toUInt32.toUInt16.toUInt32.toInt32)), .unset, .unset, .unset, .unset, .unset, .unset, .unset, .unset, .unset, .unset, .unset] [(.int ((((p0.toUInt32 >>> ((8 : Int32) &&& 31).toUInt32).toInt32) &&& (255 : Int32)).toUInt32.toUInt16.toUInt32.toInt32))]))
  refine Go.by (fun _ => XS.istore X0.here hx rfl (hb hby at_17) rfl (l' := #[.val (.int p0), .val (.int p1), .val (.long p2), .second, .val (.long p3), .second, .val (.int p4), .val (.int ((p0 &&& (255 : Int32)).toUInt32.toUInt16.toUInt32.toInt32)), .val (.int ((((p0.toUInt32 >>> ((8 : Int32) &&& 31).toUInt32).toInt32) &&& (255 : Int32)).toUInt32.toUInt16.toUInt32.toInt32)), .unset, .unset, .unset, .unset, .unset, .unset, .unset, .unset, .unset, .unset]) rfl) ?_
  show Go p.tables e below _ (T0.setTop (mkF m 19 #[.val (.int p0), .val (.int p1), .val (.long p2), .second, .val (.long p3), .second, .val (.int p4), .val (.int ((p0 &&& (255 : Int32)).toUInt32.toUInt16.toUInt32.toInt32)), .val (.int ((((p0.toUInt32 >>> ((8 : Int32) &&& 31).toUInt32).toInt32) &&& (255 : Int32)).toUInt32.toUInt16.toUInt32.toInt32)), .unset, .unset, .unset, .unset, .unset, .unset, .unset, .unset, .unset, .unset] []))
  refine Go.by (fun _ => XS.iloadN X0.here hx rfl (hb hby at_19) rfl) ?_
  show Go p.tables e below _ (T0.setTop (mkF m 20 #[.val (.int p0), .val (.int p1), .val (.long p2), .second, .val (.long p3), .second, .val (.int p4), .val (.int ((p0 &&& (255 : Int32)).toUInt32.toUInt16.toUInt32.toInt32)), .val (.int ((((p0.toUInt32 >>> ((8 : Int32) &&& 31).toUInt32).toInt32) &&& (255 : Int32)).toUInt32.toUInt16.toUInt32.toInt32)), .unset, .unset, .unset, .unset, .unset, .unset, .unset, .unset, .unset, .unset] [(.int p0)]))
  refine Go.by (fun _ => XS.bipush X0.here hx rfl (hb hby at_20)) ?_
  show Go p.tables e below _ (T0.setTop (mkF m 22 #[.val (.int p0), .val (.int p1), .val (.long p2), .second, .val (.long p3), .second, .val (.int p4), .val (.int ((p0 &&& (255 : Int32)).toUInt32.toUInt16.toUInt32.toInt32)), .val (.int ((((p0.toUInt32 >>> ((8 : Int32) &&& 31).toUInt32).toInt32) &&& (255 : Int32)).toUInt32.toUInt16.toUInt32.toInt32)), .unset, .unset, .unset, .unset, .unset, .unset, .unset, .unset, .unset, .unset] [(.int (16 : Int32)), (.int p0)]))
  refine Go.by (fun _ => XS.iushr X0.here hx rfl (hb hby at_22) rfl) ?_
  show Go p.tables e below _ (T0.setTop (mkF m 23 #[.val (.int p0), .val (.int p1), .val (.long p2), .second, .val (.long p3), .second, .val (.int p4), .val (.int ((p0 &&& (255 : Int32)).toUInt32.toUInt16.toUInt32.toInt32)), .val (.int ((((p0.toUInt32 >>> ((8 : Int32) &&& 31).toUInt32).toInt32) &&& (255 : Int32)).toUInt32.toUInt16.toUInt32.toInt32)), .unset, .unset, .unset, .unset, .unset, .unset, .unset, .unset, .unset, .unset] [(.int ((p0.toUInt32 >>> ((16 : Int32) &&& 31).toUInt32).toInt32))]))
  refine Go.by (fun _ => XS.sipush X0.here hx rfl (hb hby at_23)) ?_
  show Go p.tables e below _ (T0.setTop (mkF m 26 #[.val (.int p0), .val (.int p1), .val (.long p2), .second, .val (.long p3), .second, .val (.int p4), .val (.int ((p0 &&& (255 : Int32)).toUInt32.toUInt16.toUInt32.toInt32)), .val (.int ((((p0.toUInt32 >>> ((8 : Int32) &&& 31).toUInt32).toInt32) &&& (255 : Int32)).toUInt32.toUInt16.toUInt32.toInt32)), .unset, .unset, .unset, .unset, .unset, .unset, .unset, .unset, .unset, .unset] [(.int (255 : Int32)), (.int ((p0.toUInt32 >>> ((16 : Int32) &&& 31).toUInt32).toInt32))]))
  refine Go.by (fun _ => XS.iand X0.here hx rfl (hb hby at_26) rfl) ?_
  show Go p.tables e below _ (T0.setTop (mkF m 27 #[.val (.int p0), .val (.int p1), .val (.long p2), .second, .val (.long p3), .second, .val (.int p4), .val (.int ((p0 &&& (255 : Int32)).toUInt32.toUInt16.toUInt32.toInt32)), .val (.int ((((p0.toUInt32 >>> ((8 : Int32) &&& 31).toUInt32).toInt32) &&& (255 : Int32)).toUInt32.toUInt16.toUInt32.toInt32)), .unset, .unset, .unset, .unset, .unset, .unset, .unset, .unset, .unset, .unset] [(.int (((p0.toUInt32 >>> ((16 : Int32) &&& 31).toUInt32).toInt32) &&& (255 : Int32)))]))
  refine Go.by (fun _ => XS.i2c X0.here hx rfl (hb hby at_27) rfl) ?_
  show Go p.tables e below _ (T0.setTop (mkF m 28 #[.val (.int p0), .val (.int p1), .val (.long p2), .second, .val (.long p3), .second, .val (.int p4), .val (.int ((p0 &&& (255 : Int32)).toUInt32.toUInt16.toUInt32.toInt32)), .val (.int ((((p0.toUInt32 >>> ((8 : Int32) &&& 31).toUInt32).toInt32) &&& (255 : Int32)).toUInt32.toUInt16.toUInt32.toInt32)), .unset, .unset, .unset, .unset, .unset, .unset, .unset, .unset, .unset, .unset] [(.int ((((p0.toUInt32 >>> ((16 : Int32) &&& 31).toUInt32).toInt32) &&& (255 : Int32)).toUInt32.toUInt16.toUInt32.toInt32))]))
  refine Go.by (fun _ => XS.istore X0.here hx rfl (hb hby at_28) rfl (l' := #[.val (.int p0), .val (.int p1), .val (.long p2), .second, .val (.long p3), .second, .val (.int p4), .val (.int ((p0 &&& (255 : Int32)).toUInt32.toUInt16.toUInt32.toInt32)), .val (.int ((((p0.toUInt32 >>> ((8 : Int32) &&& 31).toUInt32).toInt32) &&& (255 : Int32)).toUInt32.toUInt16.toUInt32.toInt32)), .val (.int ((((p0.toUInt32 >>> ((16 : Int32) &&& 31).toUInt32).toInt32) &&& (255 : Int32)).toUInt32.toUInt16.toUInt32.toInt32)), .unset, .unset, .unset, .unset, .unset, .unset, .unset, .unset, .unset]) rfl) ?_
  show Go p.tables e below _ (T0.setTop (mkF m 30 #[.val (.int p0), .val (.int p1), .val (.long p2), .second, .val (.long p3), .second, .val (.int p4), .val (.int ((p0 &&& (255 : Int32)).toUInt32.toUInt16.toUInt32.toInt32)), .val (.int ((((p0.toUInt32 >>> ((8 : Int32) &&& 31).toUInt32).toInt32) &&& (255 : Int32)).toUInt32.toUInt16.toUInt32.toInt32)), .val (.int ((((p0.toUInt32 >>> ((16 : Int32) &&& 31).toUInt32).toInt32) &&& (255 : Int32)).toUInt32.toUInt16.toUInt32.toInt32)), .unset, .unset, .unset, .unset, .unset, .unset, .unset, .unset, .unset] []))
  have hr_k1 := own_c p0
  generalize ((p0 &&& (255 : Int32)).toUInt32.toUInt16.toUInt32.toInt32) = k1 at *
  have hr_n1 := own_c ((p0.toUInt32 >>> ((8 : Int32) &&& 31).toUInt32).toInt32)
  generalize ((((p0.toUInt32 >>> ((8 : Int32) &&& 31).toUInt32).toInt32) &&& (255 : Int32)).toUInt32.toUInt16.toUInt32.toInt32) = n1 at *
  have hr_u1 := own_c ((p0.toUInt32 >>> ((16 : Int32) &&& 31).toUInt32).toInt32)
  generalize ((((p0.toUInt32 >>> ((16 : Int32) &&& 31).toUInt32).toInt32) &&& (255 : Int32)).toUInt32.toUInt16.toUInt32.toInt32) = u1 at *
  show Go p.tables e below _ (T0.setTop (mkF m 30 #[.val (.int p0), .val (.int p1), .val (.long p2), .second, .val (.long p3), .second, .val (.int p4), .val (.int k1), .val (.int n1), .val (.int u1), .unset, .unset, .unset, .unset, .unset, .unset, .unset, .unset, .unset] []))
  refine Go.by (fun _ => XS.iload X0.here hx rfl (hb hby at_30) rfl) ?_
  show Go p.tables e below _ (T0.setTop (mkF m 32 #[.val (.int p0), .val (.int p1), .val (.long p2), .second, .val (.long p3), .second, .val (.int p4), .val (.int k1), .val (.int n1), .val (.int u1), .unset, .unset, .unset, .unset, .unset, .unset, .unset, .unset, .unset] [(.int p4)]))
  refine Go.by (fun _ => XS.iconst X0.here hx rfl (hb hby at_32)) ?_
  show Go p.tables e below _ (T0.setTop (mkF m 33 #[.val (.int p0), .val (.int p1), .val (.long p2), .second, .val (.long p3), .second, .val (.int p4), .val (.int k1), .val (.int n1), .val (.int u1), .unset, .unset, .unset, .unset, .unset, .unset, .unset, .unset, .unset] [(.int (1 : Int32)), (.int p4)]))
  refine Go.by (fun _ => XS.iand X0.here hx rfl (hb hby at_33) rfl) ?_
  show Go p.tables e below _ (T0.setTop (mkF m 34 #[.val (.int p0), .val (.int p1), .val (.long p2), .second, .val (.long p3), .second, .val (.int p4), .val (.int k1), .val (.int n1), .val (.int u1), .unset, .unset, .unset, .unset, .unset, .unset, .unset, .unset, .unset] [(.int (p4 &&& (1 : Int32)))]))
  have J1 : ∀ (Tj1 : State), Sd n0 p l e room_1 s m #[(.int p0), (.int p1), (.long p2), (.long p3), (.int p4)] below meth c Tj1 h0 0 0 → ∀ (k2 : Int32), (¬ (255 : Int32) < k2 ∧ ¬ k2 < 0) → Go p.tables e below (Ret s n0 (fun v h => v = some (.int 1)) room_1.cells room_1.slots) (Tj1.setTop (mkF m 48 #[.val (.int p0), .val (.int p1), .val (.long p2), .second, .val (.long p3), .second, .val (.int p4), .val (.int k1), .val (.int n1), .val (.int u1), .unset, .unset, .unset, .unset, .unset, .unset, .unset, .unset, .unset] [(.int k2)])) := by
    intro Tj1 Xj1 k2 hj1
    have hr_k2 := hj1
    refine Go.by (fun _ => XS.istore Xj1.here hx rfl (hb hby at_48) rfl (l' := #[.val (.int p0), .val (.int p1), .val (.long p2), .second, .val (.long p3), .second, .val (.int p4), .val (.int k1), .val (.int n1), .val (.int u1), .val (.int k2), .unset, .unset, .unset, .unset, .unset, .unset, .unset, .unset]) rfl) ?_
    show Go p.tables e below _ (Tj1.setTop (mkF m 50 #[.val (.int p0), .val (.int p1), .val (.long p2), .second, .val (.long p3), .second, .val (.int p4), .val (.int k1), .val (.int n1), .val (.int u1), .val (.int k2), .unset, .unset, .unset, .unset, .unset, .unset, .unset, .unset] []))
    refine Go.by (fun _ => XS.iload Xj1.here hx rfl (hb hby at_50) rfl) ?_
    show Go p.tables e below _ (Tj1.setTop (mkF m 52 #[.val (.int p0), .val (.int p1), .val (.long p2), .second, .val (.long p3), .second, .val (.int p4), .val (.int k1), .val (.int n1), .val (.int u1), .val (.int k2), .unset, .unset, .unset, .unset, .unset, .unset, .unset, .unset] [(.int p4)]))
    refine Go.by (fun _ => XS.iconst Xj1.here hx rfl (hb hby at_52)) ?_
    show Go p.tables e below _ (Tj1.setTop (mkF m 53 #[.val (.int p0), .val (.int p1), .val (.long p2), .second, .val (.long p3), .second, .val (.int p4), .val (.int k1), .val (.int n1), .val (.int u1), .val (.int k2), .unset, .unset, .unset, .unset, .unset, .unset, .unset, .unset] [(.int (2 : Int32)), (.int p4)]))
    refine Go.by (fun _ => XS.iand Xj1.here hx rfl (hb hby at_53) rfl) ?_
    show Go p.tables e below _ (Tj1.setTop (mkF m 54 #[.val (.int p0), .val (.int p1), .val (.long p2), .second, .val (.long p3), .second, .val (.int p4), .val (.int k1), .val (.int n1), .val (.int u1), .val (.int k2), .unset, .unset, .unset, .unset, .unset, .unset, .unset, .unset] [(.int (p4 &&& (2 : Int32)))]))
    have J2 : ∀ (Tj2 : State), Sd n0 p l e room_1 s m #[(.int p0), (.int p1), (.long p2), (.long p3), (.int p4)] below meth c Tj2 h0 0 0 → ∀ (n2 : Int32), (¬ (255 : Int32) < n2 ∧ ¬ n2 < 0) → Go p.tables e below (Ret s n0 (fun v h => v = some (.int 1)) room_1.cells room_1.slots) (Tj2.setTop (mkF m 71 #[.val (.int p0), .val (.int p1), .val (.long p2), .second, .val (.long p3), .second, .val (.int p4), .val (.int k1), .val (.int n1), .val (.int u1), .val (.int k2), .unset, .unset, .unset, .unset, .unset, .unset, .unset, .unset] [(.int n2)])) := by
      intro Tj2 Xj2 n2 hj2
      have hr_n2 := hj2
      refine Go.by (fun _ => XS.istore Xj2.here hx rfl (hb hby at_71) rfl (l' := #[.val (.int p0), .val (.int p1), .val (.long p2), .second, .val (.long p3), .second, .val (.int p4), .val (.int k1), .val (.int n1), .val (.int u1), .val (.int k2), .val (.int n2), .unset, .unset, .unset, .unset, .unset, .unset, .unset]) rfl) ?_
      show Go p.tables e below _ (Tj2.setTop (mkF m 73 #[.val (.int p0), .val (.int p1), .val (.long p2), .second, .val (.long p3), .second, .val (.int p4), .val (.int k1), .val (.int n1), .val (.int u1), .val (.int k2), .val (.int n2), .unset, .unset, .unset, .unset, .unset, .unset, .unset] []))
      refine Go.by (fun _ => XS.iload Xj2.here hx rfl (hb hby at_73) rfl) ?_
      show Go p.tables e below _ (Tj2.setTop (mkF m 75 #[.val (.int p0), .val (.int p1), .val (.long p2), .second, .val (.long p3), .second, .val (.int p4), .val (.int k1), .val (.int n1), .val (.int u1), .val (.int k2), .val (.int n2), .unset, .unset, .unset, .unset, .unset, .unset, .unset] [(.int p4)]))
      refine Go.by (fun _ => XS.iconst Xj2.here hx rfl (hb hby at_75)) ?_
      show Go p.tables e below _ (Tj2.setTop (mkF m 76 #[.val (.int p0), .val (.int p1), .val (.long p2), .second, .val (.long p3), .second, .val (.int p4), .val (.int k1), .val (.int n1), .val (.int u1), .val (.int k2), .val (.int n2), .unset, .unset, .unset, .unset, .unset, .unset, .unset] [(.int (4 : Int32)), (.int p4)]))
      refine Go.by (fun _ => XS.iand Xj2.here hx rfl (hb hby at_76) rfl) ?_
      show Go p.tables e below _ (Tj2.setTop (mkF m 77 #[.val (.int p0), .val (.int p1), .val (.long p2), .second, .val (.long p3), .second, .val (.int p4), .val (.int k1), .val (.int n1), .val (.int u1), .val (.int k2), .val (.int n2), .unset, .unset, .unset, .unset, .unset, .unset, .unset] [(.int (p4 &&& (4 : Int32)))]))
      have J3 : ∀ (Tj3 : State), Sd n0 p l e room_1 s m #[(.int p0), (.int p1), (.long p2), (.long p3), (.int p4)] below meth c Tj3 h0 0 0 → ∀ (u2 : Int32), (¬ (255 : Int32) < u2 ∧ ¬ u2 < 0) → Go p.tables e below (Ret s n0 (fun v h => v = some (.int 1)) room_1.cells room_1.slots) (Tj3.setTop (mkF m 94 #[.val (.int p0), .val (.int p1), .val (.long p2), .second, .val (.long p3), .second, .val (.int p4), .val (.int k1), .val (.int n1), .val (.int u1), .val (.int k2), .val (.int n2), .unset, .unset, .unset, .unset, .unset, .unset, .unset] [(.int u2)])) := by
        intro Tj3 Xj3 u2 hj3
        have hr_u2 := hj3
        refine Go.by (fun _ => XS.istore Xj3.here hx rfl (hb hby at_94) rfl (l' := #[.val (.int p0), .val (.int p1), .val (.long p2), .second, .val (.long p3), .second, .val (.int p4), .val (.int k1), .val (.int n1), .val (.int u1), .val (.int k2), .val (.int n2), .val (.int u2), .unset, .unset, .unset, .unset, .unset, .unset]) rfl) ?_
        show Go p.tables e below _ (Tj3.setTop (mkF m 96 #[.val (.int p0), .val (.int p1), .val (.long p2), .second, .val (.long p3), .second, .val (.int p4), .val (.int k1), .val (.int n1), .val (.int u1), .val (.int k2), .val (.int n2), .val (.int u2), .unset, .unset, .unset, .unset, .unset, .unset] []))
        refine Go.by (fun _ => XS.iload Xj3.here hx rfl (hb hby at_96) rfl) ?_
        show Go p.tables e below _ (Tj3.setTop (mkF m 98 #[.val (.int p0), .val (.int p1), .val (.long p2), .second, .val (.long p3), .second, .val (.int p4), .val (.int k1), .val (.int n1), .val (.int u1), .val (.int k2), .val (.int n2), .val (.int u2), .unset, .unset, .unset, .unset, .unset, .unset] [(.int p4)]))
        refine Go.by (fun _ => XS.bipush Xj3.here hx rfl (hb hby at_98)) ?_
        show Go p.tables e below _ (Tj3.setTop (mkF m 100 #[.val (.int p0), .val (.int p1), .val (.long p2), .second, .val (.long p3), .second, .val (.int p4), .val (.int k1), .val (.int n1), .val (.int u1), .val (.int k2), .val (.int n2), .val (.int u2), .unset, .unset, .unset, .unset, .unset, .unset] [(.int (8 : Int32)), (.int p4)]))
        refine Go.by (fun _ => XS.iand Xj3.here hx rfl (hb hby at_100) rfl) ?_
        show Go p.tables e below _ (Tj3.setTop (mkF m 101 #[.val (.int p0), .val (.int p1), .val (.long p2), .second, .val (.long p3), .second, .val (.int p4), .val (.int k1), .val (.int n1), .val (.int u1), .val (.int k2), .val (.int n2), .val (.int u2), .unset, .unset, .unset, .unset, .unset, .unset] [(.int (p4 &&& (8 : Int32)))]))
        have J4 : ∀ (Tj4 : State), Sd n0 p l e room_1 s m #[(.int p0), (.int p1), (.long p2), (.long p3), (.int p4)] below meth c Tj4 h0 0 0 → ∀ (w2 : Int64), True → Go p.tables e below (Ret s n0 (fun v h => v = some (.int 1)) room_1.cells room_1.slots) (Tj4.setTop (mkF m 110 #[.val (.int p0), .val (.int p1), .val (.long p2), .second, .val (.long p3), .second, .val (.int p4), .val (.int k1), .val (.int n1), .val (.int u1), .val (.int k2), .val (.int n2), .val (.int u2), .unset, .unset, .unset, .unset, .unset, .unset] [(.long w2)])) := by
          intro Tj4 Xj4 w2 hj4
          refine Go.by (fun _ => XS.lstore Xj4.here hx rfl (hb hby at_110) rfl (l' := #[.val (.int p0), .val (.int p1), .val (.long p2), .second, .val (.long p3), .second, .val (.int p4), .val (.int k1), .val (.int n1), .val (.int u1), .val (.int k2), .val (.int n2), .val (.int u2), .val (.long w2), .second, .unset, .unset, .unset, .unset]) rfl) ?_
          show Go p.tables e below _ (Tj4.setTop (mkF m 112 #[.val (.int p0), .val (.int p1), .val (.long p2), .second, .val (.long p3), .second, .val (.int p4), .val (.int k1), .val (.int n1), .val (.int u1), .val (.int k2), .val (.int n2), .val (.int u2), .val (.long w2), .second, .unset, .unset, .unset, .unset] []))
          obtain ⟨T5, h5, b5, X5, g5, E5, A5, D5, st5⟩ := Xj4.newO hx hZ hown (tw hw 0 rfl) (tw hw 1 rfl) (tw hw 2 rfl) (g := (mkF m 112 #[.val (.int p0), .val (.int p1), .val (.long p2), .second, .val (.long p3), .second, .val (.int p4), .val (.int k1), .val (.int n1), .val (.int u1), .val (.int k2), .val (.int n2), .val (.int u2), .val (.long w2), .second, .unset, .unset, .unset, .unset] [])) rfl (hb hby at_112) (k' := 1) (n' := 4) rfl rfl (by decide) (by decide)
          have g_b5 : n0 ≤ b5 := by rw [g5]; exact Z0
          have f6_91 := O0.ext E5
          have Zs6 : n0 ≤ h5.size := Nat.le_trans Z0 E5.1
          have F5_kind : Fld Z h5 b5 "com/example/preference_store/preferencestore/storage/Entry" "kind" "Ljava/lang/String;" .null := D5 (Or.inr (tw hw 34 rfl)) (ty := (.object "java/lang/String")) (by decide)
          have F5_name : Fld Z h5 b5 "com/example/preference_store/preferencestore/storage/Entry" "name" "Ljava/lang/String;" .null := D5 (Or.inr (tw hw 36 rfl)) (ty := (.object "java/lang/String")) (by decide)
          have F5_value : Fld Z h5 b5 "com/example/preference_store/preferencestore/storage/Entry" "value" "Ljava/lang/String;" .null := D5 (Or.inr (tw hw 38 rfl)) (ty := (.object "java/lang/String")) (by decide)
          have F5_version : Fld Z h5 b5 "com/example/preference_store/preferencestore/storage/Entry" "version" "J" (.long (0 : Int64)) := D5 (Or.inr (tw hw 40 rfl)) (ty := .long) (by decide)
          refine Go.by st5 ?_
          show Go p.tables e below _ (T5.setTop (mkF m 115 #[.val (.int p0), .val (.int p1), .val (.long p2), .second, .val (.long p3), .second, .val (.int p4), .val (.int k1), .val (.int n1), .val (.int u1), .val (.int k2), .val (.int n2), .val (.int u2), .val (.long w2), .second, .unset, .unset, .unset, .unset] [(.ref b5)]))
          refine Go.by (fun _ => XS.dup X5.here hx rfl (hb hby at_115) rfl rfl) ?_
          show Go p.tables e below _ (T5.setTop (mkF m 116 #[.val (.int p0), .val (.int p1), .val (.long p2), .second, .val (.long p3), .second, .val (.int p4), .val (.int k1), .val (.int n1), .val (.int u1), .val (.int k2), .val (.int n2), .val (.int u2), .val (.long w2), .second, .unset, .unset, .unset, .unset] [(.ref b5), (.ref b5)]))
          refine Go.by (fun _ => XS.iload X5.here hx rfl (hb hby at_116) rfl) ?_
          show Go p.tables e below _ (T5.setTop (mkF m 118 #[.val (.int p0), .val (.int p1), .val (.long p2), .second, .val (.long p3), .second, .val (.int p4), .val (.int k1), .val (.int n1), .val (.int u1), .val (.int k2), .val (.int n2), .val (.int u2), .val (.long w2), .second, .unset, .unset, .unset, .unset] [(.int k1), (.ref b5), (.ref b5)]))
          obtain ⟨v7, T7, h7, X7, q7, st7⟩ := X5.callS hx hZ (y := (⟨"java/lang/String", "valueOf", "(C)Ljava/lang/String;"⟩ : MethodName)) hown (tw hw 3 rfl) (tw hw 4 rfl) (tw hw 5 rfl) (tw hw 6 rfl) (by decide) (rm1 l Z a0 hw [] k1 cs h5 n0 Zs6 f6_91 S_CS0 hcs hr_k1.1) (g := (mkF m 118 #[.val (.int p0), .val (.int p1), .val (.long p2), .second, .val (.long p3), .second, .val (.int p4), .val (.int k1), .val (.int n1), .val (.int u1), .val (.int k2), .val (.int n2), .val (.int u2), .val (.long w2), .second, .unset, .unset, .unset, .unset] [(.int k1), (.ref b5), (.ref b5)])) rfl (by rw [hml]; rfl) (argsL := [(.int k1)]) (rest := [(.ref b5), (.ref b5)]) (lenOf pd5 rfl) rfl (hb hby at_118) rfl (by decide) (Nat.le_of_ble_eq_true rfl) (k' := 3) (n' := 9) rfl rfl (by decide) (by decide)
          refine Go.by st7 ?_
          obtain ⟨r7, d7, kc7, rfl, sr7, sd7, K7, Ex7, Fv7, Fc7, V7⟩ := q7
          have g_r7 : n0 ≤ r7 := Nat.le_trans Zs6 sr7
          have ne_b5_r7 : b5 ≠ r7 := Nat.ne_of_lt (Nat.lt_of_lt_of_le A5.lt sr7)
          have g_d7 : n0 ≤ d7 := Nat.le_trans Zs6 sd7
          have ne_b5_d7 : b5 ≠ d7 := Nat.ne_of_lt (Nat.lt_of_lt_of_le A5.lt sd7)
          have f8_110 := f6_91.ext (keep_ext K7)
          have f8_111 := A5.ext (keep_ext K7)
          have f8_112 := F5_kind.ext (keep_ext K7)
          have f8_113 := F5_name.ext (keep_ext K7)
          have f8_114 := F5_value.ext (keep_ext K7)
          have f8_115 := F5_version.ext (keep_ext K7)
          have Zs8 : n0 ≤ h7.size := Nat.le_trans Zs6 (keep_ext K7).1
          show Go p.tables e below _ (T7.setTop (mkF m 121 #[.val (.int p0), .val (.int p1), .val (.long p2), .second, .val (.long p3), .second, .val (.int p4), .val (.int k1), .val (.int n1), .val (.int u1), .val (.int k2), .val (.int n2), .val (.int u2), .val (.long w2), .second, .unset, .unset, .unset, .unset] [(.ref r7), (.ref b5), (.ref b5)]))
          refine Go.by (fun _ => XS.iload X7.here hx rfl (hb hby at_121) rfl) ?_
          show Go p.tables e below _ (T7.setTop (mkF m 123 #[.val (.int p0), .val (.int p1), .val (.long p2), .second, .val (.long p3), .second, .val (.int p4), .val (.int k1), .val (.int n1), .val (.int u1), .val (.int k2), .val (.int n2), .val (.int u2), .val (.long w2), .second, .unset, .unset, .unset, .unset] [(.int n1), (.ref r7), (.ref b5), (.ref b5)]))
          obtain ⟨v9, T9, h9, X9, q9, st9⟩ := X7.callS hx hZ (y := (⟨"java/lang/String", "valueOf", "(C)Ljava/lang/String;"⟩ : MethodName)) hown (tw hw 3 rfl) (tw hw 4 rfl) (tw hw 5 rfl) (tw hw 6 rfl) (by decide) (rm1 l Z a0 hw [] n1 cs h7 n0 Zs8 f8_110 S_CS0 hcs hr_n1.1) (g := (mkF m 123 #[.val (.int p0), .val (.int p1), .val (.long p2), .second, .val (.long p3), .second, .val (.int p4), .val (.int k1), .val (.int n1), .val (.int u1), .val (.int k2), .val (.int n2), .val (.int u2), .val (.long w2), .second, .unset, .unset, .unset, .unset] [(.int n1), (.ref r7), (.ref b5), (.ref b5)])) rfl (by rw [hml]; rfl) (argsL := [(.int n1)]) (rest := [(.ref r7), (.ref b5), (.ref b5)]) (lenOf pd5 rfl) rfl (hb hby at_123) rfl (by decide) (Nat.le_of_ble_eq_true rfl) (k' := 5) (n' := 14) rfl rfl (by decide) (by decide)
          refine Go.by st9 ?_
          obtain ⟨r9, d9, kc9, rfl, sr9, sd9, K9, Ex9, Fv9, Fc9, V9⟩ := q9
          have g_r9 : n0 ≤ r9 := Nat.le_trans Zs8 sr9
          have ne_b5_r9 : b5 ≠ r9 := Nat.ne_of_lt (Nat.lt_of_lt_of_le f8_111.lt sr9)
          have ne_r7_r9 : r7 ≠ r9 := Nat.ne_of_lt (Nat.lt_of_lt_of_le Ex7.lt sr9)
          have ne_d7_r9 : d7 ≠ r9 := Nat.ne_of_lt (Nat.lt_of_lt_of_le V7.lt sr9)
          have g_d9 : n0 ≤ d9 := Nat.le_trans Zs8 sd9
          have ne_b5_d9 : b5 ≠ d9 := Nat.ne_of_lt (Nat.lt_of_lt_of_le f8_111.lt sd9)
          have ne_r7_d9 : r7 ≠ d9 := Nat.ne_of_lt (Nat.lt_of_lt_of_le Ex7.lt sd9)
          have ne_d7_d9 : d7 ≠ d9 := Nat.ne_of_lt (Nat.lt_of_lt_of_le V7.lt sd9)
          have f10_131 := f8_110.ext (keep_ext K9)
          have f10_132 := f8_111.ext (keep_ext K9)
          have f10_133 := f8_112.ext (keep_ext K9)
          have f10_134 := f8_113.ext (keep_ext K9)
          have f10_135 := f8_114.ext (keep_ext K9)
          have f10_136 := f8_115.ext (keep_ext K9)
          have f10_137 := Ex7.ext (keep_ext K9)
          have f10_138 := Fv7.ext (keep_ext K9)
          have f10_139 := Fc7.ext (keep_ext K9)
          have f10_140 := Avf.ext V7 (keep_ext K9)
          have Zs10 : n0 ≤ h9.size := Nat.le_trans Zs8 (keep_ext K9).1
          show Go p.tables e below _ (T9.setTop (mkF m 126 #[.val (.int p0), .val (.int p1), .val (.long p2), .second, .val (.long p3), .second, .val (.int p4), .val (.int k1), .val (.int n1), .val (.int u1), .val (.int k2), .val (.int n2), .val (.int u2), .val (.long w2), .second, .unset, .unset, .unset, .unset] [(.ref r9), (.ref r7), (.ref b5), (.ref b5)]))
          refine Go.by (fun _ => XS.iload X9.here hx rfl (hb hby at_126) rfl) ?_
          show Go p.tables e below _ (T9.setTop (mkF m 128 #[.val (.int p0), .val (.int p1), .val (.long p2), .second, .val (.long p3), .second, .val (.int p4), .val (.int k1), .val (.int n1), .val (.int u1), .val (.int k2), .val (.int n2), .val (.int u2), .val (.long w2), .second, .unset, .unset, .unset, .unset] [(.int u1), (.ref r9), (.ref r7), (.ref b5), (.ref b5)]))
          obtain ⟨v11, T11, h11, X11, q11, st11⟩ := X9.callS hx hZ (y := (⟨"java/lang/String", "valueOf", "(C)Ljava/lang/String;"⟩ : MethodName)) hown (tw hw 3 rfl) (tw hw 4 rfl) (tw hw 5 rfl) (tw hw 6 rfl) (by decide) (rm1 l Z a0 hw [] u1 cs h9 n0 Zs10 f10_131 S_CS0 hcs hr_u1.1) (g := (mkF m 128 #[.val (.int p0), .val (.int p1), .val (.long p2), .second, .val (.long p3), .second, .val (.int p4), .val (.int k1), .val (.int n1), .val (.int u1), .val (.int k2), .val (.int n2), .val (.int u2), .val (.long w2), .second, .unset, .unset, .unset, .unset] [(.int u1), (.ref r9), (.ref r7), (.ref b5), (.ref b5)])) rfl (by rw [hml]; rfl) (argsL := [(.int u1)]) (rest := [(.ref r9), (.ref r7), (.ref b5), (.ref b5)]) (lenOf pd5 rfl) rfl (hb hby at_128) rfl (by decide) (Nat.le_of_ble_eq_true rfl) (k' := 7) (n' := 19) rfl rfl (by decide) (by decide)
          refine Go.by st11 ?_
          obtain ⟨r11, d11, kc11, rfl, sr11, sd11, K11, Ex11, Fv11, Fc11, V11⟩ := q11
          have g_r11 : n0 ≤ r11 := Nat.le_trans Zs10 sr11
          have ne_b5_r11 : b5 ≠ r11 := Nat.ne_of_lt (Nat.lt_of_lt_of_le f10_132.lt sr11)
          have ne_r7_r11 : r7 ≠ r11 := Nat.ne_of_lt (Nat.lt_of_lt_of_le f10_137.lt sr11)
          have ne_d7_r11 : d7 ≠ r11 := Nat.ne_of_lt (Nat.lt_of_lt_of_le f10_140.lt sr11)
          have ne_r9_r11 : r9 ≠ r11 := Nat.ne_of_lt (Nat.lt_of_lt_of_le Ex9.lt sr11)
          have ne_d9_r11 : d9 ≠ r11 := Nat.ne_of_lt (Nat.lt_of_lt_of_le V9.lt sr11)
          have g_d11 : n0 ≤ d11 := Nat.le_trans Zs10 sd11
          have ne_b5_d11 : b5 ≠ d11 := Nat.ne_of_lt (Nat.lt_of_lt_of_le f10_132.lt sd11)
          have ne_r7_d11 : r7 ≠ d11 := Nat.ne_of_lt (Nat.lt_of_lt_of_le f10_137.lt sd11)
          have ne_d7_d11 : d7 ≠ d11 := Nat.ne_of_lt (Nat.lt_of_lt_of_le f10_140.lt sd11)
          have ne_r9_d11 : r9 ≠ d11 := Nat.ne_of_lt (Nat.lt_of_lt_of_le Ex9.lt sd11)
          have ne_d9_d11 : d9 ≠ d11 := Nat.ne_of_lt (Nat.lt_of_lt_of_le V9.lt sd11)
          have f12_160 := f10_131.ext (keep_ext K11)
          have f12_161 := f10_132.ext (keep_ext K11)
          have f12_162 := f10_133.ext (keep_ext K11)
          have f12_163 := f10_134.ext (keep_ext K11)
          have f12_164 := f10_135.ext (keep_ext K11)
          have f12_165 := f10_136.ext (keep_ext K11)
          have f12_166 := f10_137.ext (keep_ext K11)
          have f12_167 := f10_138.ext (keep_ext K11)
          have f12_168 := f10_139.ext (keep_ext K11)
          have f12_169 := Avf.ext f10_140 (keep_ext K11)
          have f12_170 := Ex9.ext (keep_ext K11)
          have f12_171 := Fv9.ext (keep_ext K11)
          have f12_172 := Fc9.ext (keep_ext K11)
          have f12_173 := Avf.ext V9 (keep_ext K11)
          have Zs12 : n0 ≤ h11.size := Nat.le_trans Zs10 (keep_ext K11).1
          show Go p.tables e below _ (T11.setTop (mkF m 131 #[.val (.int p0), .val (.int p1), .val (.long p2), .second, .val (.long p3), .second, .val (.int p4), .val (.int k1), .val (.int n1), .val (.int u1), .val (.int k2), .val (.int n2), .val (.int u2), .val (.long w2), .second, .unset, .unset, .unset, .unset] [(.ref r11), (.ref r9), (.ref r7), (.ref b5), (.ref b5)]))
          refine Go.by (fun _ => XS.lloadN X11.here hx rfl (hb hby at_131) rfl) ?_
          show Go p.tables e below _ (T11.setTop (mkF m 132 #[.val (.int p0), .val (.int p1), .val (.long p2), .second, .val (.long p3), .second, .val (.int p4), .val (.int k1), .val (.int n1), .val (.int u1), .val (.int k2), .val (.int n2), .val (.int u2), .val (.long w2), .second, .unset, .unset, .unset, .unset] [(.long p2), (.ref r11), (.ref r9), (.ref r7), (.ref b5), (.ref b5)]))
          obtain ⟨v13, T13, h13, X13, q13, st13⟩ := X11.callI hx hZ (y := (⟨"com/example/preference_store/preferencestore/storage/Entry", "<init>", "(Ljava/lang/String;Ljava/lang/String;Ljava/lang/String;J)V"⟩ : MethodName)) rfl hown (tw hw 29 rfl) (tw hw 30 rfl) (tw hw 2 rfl) (tw hw 31 rfl) (by decide) (rm6 l Z a0 hw [] b5 r7 r9 r11 p2 h11 n0 Zs12 f12_161 g_b5 f12_165 f12_162 f12_163 f12_164) (g := (mkF m 132 #[.val (.int p0), .val (.int p1), .val (.long p2), .second, .val (.long p3), .second, .val (.int p4), .val (.int k1), .val (.int n1), .val (.int u1), .val (.int k2), .val (.int n2), .val (.int u2), .val (.long w2), .second, .unset, .unset, .unset, .unset] [(.long p2), (.ref r11), (.ref r9), (.ref r7), (.ref b5), (.ref b5)])) rfl (by rw [hml]; rfl) (argsL := [(.ref r7), (.ref r9), (.ref r11), (.long p2)]) (rest := [(.ref b5)]) (lenOf pd6 rfl) rfl (hb hby at_132) rfl (by decide) (Nat.le_of_ble_eq_true rfl) (k' := 7) (n' := 19) rfl rfl (by decide) (by decide)
          refine Go.by st13 ?_
          obtain ⟨rfl, K13, Ex13, Fkind13, Fname13, Fvalue13, Fver13⟩ := q13
          have f14_181 := f12_160.keep K13 (allS g_b5 all0)
          have f14_182 := f12_161.keep K13
          have f14_183 := f12_166.keep K13
          have f14_184 := f12_167.keep K13 (ninS (Ne.symm ne_b5_r7) nin0)
          have f14_185 := f12_168.keep K13 (ninS (Ne.symm ne_b5_r7) nin0)
          have f14_186 := Avf.keep f12_169 K13 (ninS (Ne.symm ne_b5_d7) nin0)
          have f14_187 := f12_170.keep K13
          have f14_188 := f12_171.keep K13 (ninS (Ne.symm ne_b5_r9) nin0)
          have f14_189 := f12_172.keep K13 (ninS (Ne.symm ne_b5_r9) nin0)
          have f14_190 := Avf.keep f12_173 K13 (ninS (Ne.symm ne_b5_d9) nin0)
          have f14_191 := Ex11.keep K13
          have f14_192 := Fv11.keep K13 (ninS (Ne.symm ne_b5_r11) nin0)
          have f14_193 := Fc11.keep K13 (ninS (Ne.symm ne_b5_r11) nin0)
          have f14_194 := Avf.keep V11 K13 (ninS (Ne.symm ne_b5_d11) nin0)
          have Zs14 : n0 ≤ h13.size := Nat.le_trans Zs12 K13.1
          show Go p.tables e below _ (T13.setTop (mkF m 135 #[.val (.int p0), .val (.int p1), .val (.long p2), .second, .val (.long p3), .second, .val (.int p4), .val (.int k1), .val (.int n1), .val (.int u1), .val (.int k2), .val (.int n2), .val (.int u2), .val (.long w2), .second, .unset, .unset, .unset, .unset] [(.ref b5)]))
          refine Go.by (fun _ => XS.astore X13.here hx rfl (hb hby at_135) rfl rfl (l' := #[.val (.int p0), .val (.int p1), .val (.long p2), .second, .val (.long p3), .second, .val (.int p4), .val (.int k1), .val (.int n1), .val (.int u1), .val (.int k2), .val (.int n2), .val (.int u2), .val (.long w2), .second, .val (.ref b5), .unset, .unset, .unset]) rfl) ?_
          show Go p.tables e below _ (T13.setTop (mkF m 137 #[.val (.int p0), .val (.int p1), .val (.long p2), .second, .val (.long p3), .second, .val (.int p4), .val (.int k1), .val (.int n1), .val (.int u1), .val (.int k2), .val (.int n2), .val (.int u2), .val (.long w2), .second, .val (.ref b5), .unset, .unset, .unset] []))
          refine Go.by (fun _ => XS.iload X13.here hx rfl (hb hby at_137) rfl) ?_
          show Go p.tables e below _ (T13.setTop (mkF m 139 #[.val (.int p0), .val (.int p1), .val (.long p2), .second, .val (.long p3), .second, .val (.int p4), .val (.int k1), .val (.int n1), .val (.int u1), .val (.int k2), .val (.int n2), .val (.int u2), .val (.long w2), .second, .val (.ref b5), .unset, .unset, .unset] [(.int p4)]))
          refine Go.by (fun _ => XS.iconst X13.here hx rfl (hb hby at_139)) ?_
          show Go p.tables e below _ (T13.setTop (mkF m 140 #[.val (.int p0), .val (.int p1), .val (.long p2), .second, .val (.long p3), .second, .val (.int p4), .val (.int k1), .val (.int n1), .val (.int u1), .val (.int k2), .val (.int n2), .val (.int u2), .val (.long w2), .second, .val (.ref b5), .unset, .unset, .unset] [(.int (4 : Int32)), (.int p4)]))
          refine Go.by (fun _ => XS.iushr X13.here hx rfl (hb hby at_140) rfl) ?_
          show Go p.tables e below _ (T13.setTop (mkF m 141 #[.val (.int p0), .val (.int p1), .val (.long p2), .second, .val (.long p3), .second, .val (.int p4), .val (.int k1), .val (.int n1), .val (.int u1), .val (.int k2), .val (.int n2), .val (.int u2), .val (.long w2), .second, .val (.ref b5), .unset, .unset, .unset] [(.int ((p4.toUInt32 >>> ((4 : Int32) &&& 31).toUInt32).toInt32))]))
          refine Go.by (fun _ => XS.bipush X13.here hx rfl (hb hby at_141)) ?_
          show Go p.tables e below _ (T13.setTop (mkF m 143 #[.val (.int p0), .val (.int p1), .val (.long p2), .second, .val (.long p3), .second, .val (.int p4), .val (.int k1), .val (.int n1), .val (.int u1), .val (.int k2), .val (.int n2), .val (.int u2), .val (.long w2), .second, .val (.ref b5), .unset, .unset, .unset] [(.int (7 : Int32)), (.int ((p4.toUInt32 >>> ((4 : Int32) &&& 31).toUInt32).toInt32))]))
          refine Go.by (fun _ => XS.iand X13.here hx rfl (hb hby at_143) rfl) ?_
          show Go p.tables e below _ (T13.setTop (mkF m 144 #[.val (.int p0), .val (.int p1), .val (.long p2), .second, .val (.long p3), .second, .val (.int p4), .val (.int k1), .val (.int n1), .val (.int u1), .val (.int k2), .val (.int n2), .val (.int u2), .val (.long w2), .second, .val (.ref b5), .unset, .unset, .unset] [(.int (((p4.toUInt32 >>> ((4 : Int32) &&& 31).toUInt32).toInt32) &&& (7 : Int32)))]))
          refine Go.by (fun _ => XS.istore X13.here hx rfl (hb hby at_144) rfl (l' := #[.val (.int p0), .val (.int p1), .val (.long p2), .second, .val (.long p3), .second, .val (.int p4), .val (.int k1), .val (.int n1), .val (.int u1), .val (.int k2), .val (.int n2), .val (.int u2), .val (.long w2), .second, .val (.ref b5), .val (.int (((p4.toUInt32 >>> ((4 : Int32) &&& 31).toUInt32).toInt32) &&& (7 : Int32))), .unset, .unset]) rfl) ?_
          show Go p.tables e below _ (T13.setTop (mkF m 146 #[.val (.int p0), .val (.int p1), .val (.long p2), .second, .val (.long p3), .second, .val (.int p4), .val (.int k1), .val (.int n1), .val (.int u1), .val (.int k2), .val (.int n2), .val (.int u2), .val (.long w2), .second, .val (.ref b5), .val (.int (((p4.toUInt32 >>> ((4 : Int32) &&& 31).toUInt32).toInt32) &&& (7 : Int32))), .unset, .unset] []))
          refine Go.by (fun _ => XS.iload X13.here hx rfl (hb hby at_146) rfl) ?_
          show Go p.tables e below _ (T13.setTop (mkF m 148 #[.val (.int p0), .val (.int p1), .val (.long p2), .second, .val (.long p3), .second, .val (.int p4), .val (.int k1), .val (.int n1), .val (.int u1), .val (.int k2), .val (.int n2), .val (.int u2), .val (.long w2), .second, .val (.ref b5), .val (.int (((p4.toUInt32 >>> ((4 : Int32) &&& 31).toUInt32).toInt32) &&& (7 : Int32))), .unset, .unset] [(.int (((p4.toUInt32 >>> ((4 : Int32) &&& 31).toUInt32).toInt32) &&& (7 : Int32)))]))
          refine Go.by (fun _ => XS.iconst X13.here hx rfl (hb hby at_148)) ?_
          show Go p.tables e below _ (T13.setTop (mkF m 149 #[.val (.int p0), .val (.int p1), .val (.long p2), .second, .val (.long p3), .second, .val (.int p4), .val (.int k1), .val (.int n1), .val (.int u1), .val (.int k2), .val (.int n2), .val (.int u2), .val (.long w2), .second, .val (.ref b5), .val (.int (((p4.toUInt32 >>> ((4 : Int32) &&& 31).toUInt32).toInt32) &&& (7 : Int32))), .unset, .unset] [(.int (1 : Int32)), (.int (((p4.toUInt32 >>> ((4 : Int32) &&& 31).toUInt32).toInt32) &&& (7 : Int32)))]))
          by_cases hc149_15 : (((p4.toUInt32 >>> ((4 : Int32) &&& 31).toUInt32).toInt32) &&& (7 : Int32)) = (1 : Int32)
          · skip
            refine Go.by (fun _ => XS.icmpNo X13.here hx rfl (hb hby at_149) rfl (teq hc149_15).2) ?_
            show Go p.tables e below _ (T13.setTop (mkF m 152 #[.val (.int p0), .val (.int p1), .val (.long p2), .second, .val (.long p3), .second, .val (.int p4), .val (.int k1), .val (.int n1), .val (.int u1), .val (.int k2), .val (.int n2), .val (.int u2), .val (.long w2), .second, .val (.ref b5), .val (.int (((p4.toUInt32 >>> ((4 : Int32) &&& 31).toUInt32).toInt32) &&& (7 : Int32))), .unset, .unset] []))
            refine Go.by (fun _ => XS.aconstNull X13.here hx rfl (hb hby at_152)) ?_
            show Go p.tables e below _ (T13.setTop (mkF m 153 #[.val (.int p0), .val (.int p1), .val (.long p2), .second, .val (.long p3), .second, .val (.int p4), .val (.int k1), .val (.int n1), .val (.int u1), .val (.int k2), .val (.int n2), .val (.int u2), .val (.long w2), .second, .val (.ref b5), .val (.int (((p4.toUInt32 >>> ((4 : Int32) &&& 31).toUInt32).toInt32) &&& (7 : Int32))), .unset, .unset] [.null]))
            refine Go.by (fun _ => XS.astore X13.here hx rfl (hb hby at_153) rfl rfl (l' := #[.val (.int p0), .val (.int p1), .val (.long p2), .second, .val (.long p3), .second, .val (.int p4), .val (.int k1), .val (.int n1), .val (.int u1), .val (.int k2), .val (.int n2), .val (.int u2), .val (.long w2), .second, .val (.ref b5), .val (.int (((p4.toUInt32 >>> ((4 : Int32) &&& 31).toUInt32).toInt32) &&& (7 : Int32))), .val .null, .unset]) rfl) ?_
            show Go p.tables e below _ (T13.setTop (mkF m 155 #[.val (.int p0), .val (.int p1), .val (.long p2), .second, .val (.long p3), .second, .val (.int p4), .val (.int k1), .val (.int n1), .val (.int u1), .val (.int k2), .val (.int n2), .val (.int u2), .val (.long w2), .second, .val (.ref b5), .val (.int (((p4.toUInt32 >>> ((4 : Int32) &&& 31).toUInt32).toInt32) &&& (7 : Int32))), .val .null, .unset] []))
            refine Go.by (fun _ => XS.aload X13.here hx rfl (hb hby at_155) rfl rfl) ?_
            show Go p.tables e below _ (T13.setTop (mkF m 157 #[.val (.int p0), .val (.int p1), .val (.long p2), .second, .val (.long p3), .second, .val (.int p4), .val (.int k1), .val (.int n1), .val (.int u1), .val (.int k2), .val (.int n2), .val (.int u2), .val (.long w2), .second, .val (.ref b5), .val (.int (((p4.toUInt32 >>> ((4 : Int32) &&& 31).toUInt32).toInt32) &&& (7 : Int32))), .val .null, .unset] [(.ref b5)]))
            refine Go.by (fun _ => XS.aload X13.here hx rfl (hb hby at_157) rfl rfl) ?_
            show Go p.tables e below _ (T13.setTop (mkF m 159 #[.val (.int p0), .val (.int p1), .val (.long p2), .second, .val (.long p3), .second, .val (.int p4), .val (.int k1), .val (.int n1), .val (.int u1), .val (.int k2), .val (.int n2), .val (.int u2), .val (.long w2), .second, .val (.ref b5), .val (.int (((p4.toUInt32 >>> ((4 : Int32) &&& 31).toUInt32).toInt32) &&& (7 : Int32))), .val .null, .unset] [.null, (.ref b5)]))
            obtain ⟨v16, T16, h16, X16, q16, st16⟩ := X13.callV hx hZ (y := (⟨"com/example/preference_store/preferencestore/storage/Entry", "equals", "(Ljava/lang/Object;)Z"⟩ : MethodName)) (z := (⟨"com/example/preference_store/preferencestore/storage/Entry", "equals", "(Ljava/lang/Object;)Z"⟩ : MethodName)) hown (tw hw 41 rfl) (tw hw 42 rfl) (notFace_of_selects (args := #[]) (mvT hZ (tw hw 44 rfl))) (tw hw 44 rfl) (tw hw 43 rfl) (tw hw 2 rfl) (tw hw 45 rfl) (by decide) (rm7n l Z a0 hw [] b5 h13 n0 Zs14) Ex13 (g := (mkF m 159 #[.val (.int p0), .val (.int p1), .val (.long p2), .second, .val (.long p3), .second, .val (.int p4), .val (.int k1), .val (.int n1), .val (.int u1), .val (.int k2), .val (.int n2), .val (.int u2), .val (.long w2), .second, .val (.ref b5), .val (.int (((p4.toUInt32 >>> ((4 : Int32) &&& 31).toUInt32).toInt32) &&& (7 : Int32))), .val .null, .unset] [.null, (.ref b5)])) rfl (by rw [hml]; rfl) (argsL := [.null]) (rest := []) (lenOf pd4 rfl) rfl (hb hby at_159) rfl (by decide) (Nat.le_of_ble_eq_true rfl) (k' := 7) (n' := 19) rfl rfl (by decide) (by decide)
            refine Go.by st16 ?_
            obtain ⟨rfl, rfl⟩ := q16
            show Go p.tables e below _ (T16.setTop (mkF m 162 #[.val (.int p0), .val (.int p1), .val (.long p2), .second, .val (.long p3), .second, .val (.int p4), .val (.int k1), .val (.int n1), .val (.int u1), .val (.int k2), .val (.int n2), .val (.int u2), .val (.long w2), .second, .val (.ref b5), .val (.int (((p4.toUInt32 >>> ((4 : Int32) &&& 31).toUInt32).toInt32) &&& (7 : Int32))), .val .null, .unset] [(.int (0 : Int32))]))
            refine Go.by (fun _ => XS.ifNo X16.here hx rfl (hb hby at_162) rfl ((if0 _ _).trans (teq (by decide)).2)) ?_
            show Go p.tables e below _ (T16.setTop (mkF m 165 #[.val (.int p0), .val (.int p1), .val (.long p2), .second, .val (.long p3), .second, .val (.int p4), .val (.int k1), .val (.int n1), .val (.int u1), .val (.int k2), .val (.int n2), .val (.int u2), .val (.long w2), .second, .val (.ref b5), .val (.int (((p4.toUInt32 >>> ((4 : Int32) &&& 31).toUInt32).toInt32) &&& (7 : Int32))), .val .null, .unset] []))
            refine Go.by (fun _ => XS.iconst X16.here hx rfl (hb hby at_165)) ?_
            show Go p.tables e below _ (T16.setTop (mkF m 166 #[.val (.int p0), .val (.int p1), .val (.long p2), .second, .val (.long p3), .second, .val (.int p4), .val (.int k1), .val (.int n1), .val (.int u1), .val (.int k2), .val (.int n2), .val (.int u2), .val (.long w2), .second, .val (.ref b5), .val (.int (((p4.toUInt32 >>> ((4 : Int32) &&& 31).toUInt32).toInt32) &&& (7 : Int32))), .val .null, .unset] [(.int (1 : Int32))]))
            refine Go.by (fun _ => XS.goto X16.here hx rfl (pc0 := 166) (pc' := 170) rfl (hb hby at_166) (by decide) (by decide)) ?_
            show Go p.tables e below _ (T16.setTop (mkF m 170 #[.val (.int p0), .val (.int p1), .val (.long p2), .second, .val (.long p3), .second, .val (.int p4), .val (.int k1), .val (.int n1), .val (.int u1), .val (.int k2), .val (.int n2), .val (.int u2), .val (.long w2), .second, .val (.ref b5), .val (.int (((p4.toUInt32 >>> ((4 : Int32) &&& 31).toUInt32).toInt32) &&& (7 : Int32))), .val .null, .unset] [(.int (1 : Int32))]))
            exact Go.retN X16 hx hlk (z' := (1 : Int32)) hret (by simp) (hb hby at_170) rfl (by decide) (by decide) rfl
          · skip
            refine Go.by (fun _ => XS.icmpYes X13.here hx rfl (pc0 := 149) (pc' := 171) rfl (hb hby at_149) rfl (feq hc149_15).2 (by decide) (by decide)) ?_
            show Go p.tables e below _ (T13.setTop (mkF m 171 #[.val (.int p0), .val (.int p1), .val (.long p2), .second, .val (.long p3), .second, .val (.int p4), .val (.int k1), .val (.int n1), .val (.int u1), .val (.int k2), .val (.int n2), .val (.int u2), .val (.long w2), .second, .val (.ref b5), .val (.int (((p4.toUInt32 >>> ((4 : Int32) &&& 31).toUInt32).toInt32) &&& (7 : Int32))), .unset, .unset] []))
            refine Go.by (fun _ => XS.iload X13.here hx rfl (hb hby at_171) rfl) ?_
            show Go p.tables e below _ (T13.setTop (mkF m 173 #[.val (.int p0), .val (.int p1), .val (.long p2), .second, .val (.long p3), .second, .val (.int p4), .val (.int k1), .val (.int n1), .val (.int u1), .val (.int k2), .val (.int n2), .val (.int u2), .val (.long w2), .second, .val (.ref b5), .val (.int (((p4.toUInt32 >>> ((4 : Int32) &&& 31).toUInt32).toInt32) &&& (7 : Int32))), .unset, .unset] [(.int (((p4.toUInt32 >>> ((4 : Int32) &&& 31).toUInt32).toInt32) &&& (7 : Int32)))]))
            refine Go.by (fun _ => XS.iconst X13.here hx rfl (hb hby at_173)) ?_
            show Go p.tables e below _ (T13.setTop (mkF m 174 #[.val (.int p0), .val (.int p1), .val (.long p2), .second, .val (.long p3), .second, .val (.int p4), .val (.int k1), .val (.int n1), .val (.int u1), .val (.int k2), .val (.int n2), .val (.int u2), .val (.long w2), .second, .val (.ref b5), .val (.int (((p4.toUInt32 >>> ((4 : Int32) &&& 31).toUInt32).toInt32) &&& (7 : Int32))), .unset, .unset] [(.int (2 : Int32)), (.int (((p4.toUInt32 >>> ((4 : Int32) &&& 31).toUInt32).toInt32) &&& (7 : Int32)))]))
            by_cases hc174_17 : (((p4.toUInt32 >>> ((4 : Int32) &&& 31).toUInt32).toInt32) &&& (7 : Int32)) = (2 : Int32)
            · skip
              refine Go.by (fun _ => XS.icmpNo X13.here hx rfl (hb hby at_174) rfl (teq hc174_17).2) ?_
              show Go p.tables e below _ (T13.setTop (mkF m 177 #[.val (.int p0), .val (.int p1), .val (.long p2), .second, .val (.long p3), .second, .val (.int p4), .val (.int k1), .val (.int n1), .val (.int u1), .val (.int k2), .val (.int n2), .val (.int u2), .val (.long w2), .second, .val (.ref b5), .val (.int (((p4.toUInt32 >>> ((4 : Int32) &&& 31).toUInt32).toInt32) &&& (7 : Int32))), .unset, .unset] []))
              refine Go.by (fun _ => XS.iload X13.here hx rfl (hb hby at_177) rfl) ?_
              show Go p.tables e below _ (T13.setTop (mkF m 179 #[.val (.int p0), .val (.int p1), .val (.long p2), .second, .val (.long p3), .second, .val (.int p4), .val (.int k1), .val (.int n1), .val (.int u1), .val (.int k2), .val (.int n2), .val (.int u2), .val (.long w2), .second, .val (.ref b5), .val (.int (((p4.toUInt32 >>> ((4 : Int32) &&& 31).toUInt32).toInt32) &&& (7 : Int32))), .unset, .unset] [(.int k1)]))
              obtain ⟨v18, T18, h18, X18, q18, st18⟩ := X13.callS hx hZ (y := (⟨"java/lang/String", "valueOf", "(C)Ljava/lang/String;"⟩ : MethodName)) hown (tw hw 3 rfl) (tw hw 4 rfl) (tw hw 5 rfl) (tw hw 6 rfl) (by decide) (rm1 l Z a0 hw [] k1 cs h13 n0 Zs14 f14_181 S_CS0 hcs hr_k1.1) (g := (mkF m 179 #[.val (.int p0), .val (.int p1), .val (.long p2), .second, .val (.long p3), .second, .val (.int p4), .val (.int k1), .val (.int n1), .val (.int u1), .val (.int k2), .val (.int n2), .val (.int u2), .val (.long w2), .second, .val (.ref b5), .val (.int (((p4.toUInt32 >>> ((4 : Int32) &&& 31).toUInt32).toInt32) &&& (7 : Int32))), .unset, .unset] [(.int k1)])) rfl (by rw [hml]; rfl) (argsL := [(.int k1)]) (rest := []) (lenOf pd5 rfl) rfl (hb hby at_179) rfl (by decide) (Nat.le_of_ble_eq_true rfl) (k' := 9) (n' := 24) rfl rfl (by decide) (by decide)
              refine Go.by st18 ?_
              obtain ⟨r18, d18, kc18, rfl, sr18, sd18, K18, Ex18, Fv18, Fc18, V18⟩ := q18
              have g_r18 : n0 ≤ r18 := Nat.le_trans Zs14 sr18
              have ne_b5_r18 : b5 ≠ r18 := Nat.ne_of_lt (Nat.lt_of_lt_of_le Ex13.lt sr18)
              have ne_r7_r18 : r7 ≠ r18 := Nat.ne_of_lt (Nat.lt_of_lt_of_le f14_183.lt sr18)
              have ne_d7_r18 : d7 ≠ r18 := Nat.ne_of_lt (Nat.lt_of_lt_of_le f14_186.lt sr18)
              have ne_r9_r18 : r9 ≠ r18 := Nat.ne_of_lt (Nat.lt_of_lt_of_le f14_187.lt sr18)
              have ne_d9_r18 : d9 ≠ r18 := Nat.ne_of_lt (Nat.lt_of_lt_of_le f14_190.lt sr18)
              have ne_r11_r18 : r11 ≠ r18 := Nat.ne_of_lt (Nat.lt_of_lt_of_le f14_191.lt sr18)
              have ne_d11_r18 : d11 ≠ r18 := Nat.ne_of_lt (Nat.lt_of_lt_of_le f14_194.lt sr18)
              have g_d18 : n0 ≤ d18 := Nat.le_trans Zs14 sd18
              have ne_b5_d18 : b5 ≠ d18 := Nat.ne_of_lt (Nat.lt_of_lt_of_le Ex13.lt sd18)
              have ne_r7_d18 : r7 ≠ d18 := Nat.ne_of_lt (Nat.lt_of_lt_of_le f14_183.lt sd18)
              have ne_d7_d18 : d7 ≠ d18 := Nat.ne_of_lt (Nat.lt_of_lt_of_le f14_186.lt sd18)
              have ne_r9_d18 : r9 ≠ d18 := Nat.ne_of_lt (Nat.lt_of_lt_of_le f14_187.lt sd18)
              have ne_d9_d18 : d9 ≠ d18 := Nat.ne_of_lt (Nat.lt_of_lt_of_le f14_190.lt sd18)
              have ne_r11_d18 : r11 ≠ d18 := Nat.ne_of_lt (Nat.lt_of_lt_of_le f14_191.lt sd18)
              have ne_d11_d18 : d11 ≠ d18 := Nat.ne_of_lt (Nat.lt_of_lt_of_le f14_194.lt sd18)
              have f19_270 := f14_181.ext (keep_ext K18)
              have f19_271 := Ex13.ext (keep_ext K18)
              have f19_272 := f14_183.ext (keep_ext K18)
              have f19_273 := f14_184.ext (keep_ext K18)
              have f19_274 := f14_185.ext (keep_ext K18)
              have f19_275 := Avf.ext f14_186 (keep_ext K18)
              have f19_276 := f14_187.ext (keep_ext K18)
              have f19_277 := f14_188.ext (keep_ext K18)
              have f19_278 := f14_189.ext (keep_ext K18)
              have f19_279 := Avf.ext f14_190 (keep_ext K18)
              have f19_280 := f14_191.ext (keep_ext K18)
              have f19_281 := f14_192.ext (keep_ext K18)
              have f19_282 := f14_193.ext (keep_ext K18)
              have f19_283 := Avf.ext f14_194 (keep_ext K18)
              have f19_284 := Fkind13.ext (keep_ext K18)
              have f19_285 := Fname13.ext (keep_ext K18)
              have f19_286 := Fvalue13.ext (keep_ext K18)
              have f19_287 := Fver13.ext (keep_ext K18)
              have Zs19 : n0 ≤ h18.size := Nat.le_trans Zs14 (keep_ext K18).1
              show Go p.tables e below _ (T18.setTop (mkF m 182 #[.val (.int p0), .val (.int p1), .val (.long p2), .second, .val (.long p3), .second, .val (.int p4), .val (.int k1), .val (.int n1), .val (.int u1), .val (.int k2), .val (.int n2), .val (.int u2), .val (.long w2), .second, .val (.ref b5), .val (.int (((p4.toUInt32 >>> ((4 : Int32) &&& 31).toUInt32).toInt32) &&& (7 : Int32))), .unset, .unset] [(.ref r18)]))
              refine Go.by (fun _ => XS.astore X18.here hx rfl (hb hby at_182) rfl rfl (l' := #[.val (.int p0), .val (.int p1), .val (.long p2), .second, .val (.long p3), .second, .val (.int p4), .val (.int k1), .val (.int n1), .val (.int u1), .val (.int k2), .val (.int n2), .val (.int u2), .val (.long w2), .second, .val (.ref b5), .val (.int (((p4.toUInt32 >>> ((4 : Int32) &&& 31).toUInt32).toInt32) &&& (7 : Int32))), .val (.ref r18), .unset]) rfl) ?_
              show Go p.tables e below _ (T18.setTop (mkF m 184 #[.val (.int p0), .val (.int p1), .val (.long p2), .second, .val (.long p3), .second, .val (.int p4), .val (.int k1), .val (.int n1), .val (.int u1), .val (.int k2), .val (.int n2), .val (.int u2), .val (.long w2), .second, .val (.ref b5), .val (.int (((p4.toUInt32 >>> ((4 : Int32) &&& 31).toUInt32).toInt32) &&& (7 : Int32))), .val (.ref r18), .unset] []))
              refine Go.by (fun _ => XS.aload X18.here hx rfl (hb hby at_184) rfl rfl) ?_
              show Go p.tables e below _ (T18.setTop (mkF m 186 #[.val (.int p0), .val (.int p1), .val (.long p2), .second, .val (.long p3), .second, .val (.int p4), .val (.int k1), .val (.int n1), .val (.int u1), .val (.int k2), .val (.int n2), .val (.int u2), .val (.long w2), .second, .val (.ref b5), .val (.int (((p4.toUInt32 >>> ((4 : Int32) &&& 31).toUInt32).toInt32) &&& (7 : Int32))), .val (.ref r18), .unset] [(.ref b5)]))
              refine Go.by (fun _ => XS.aload X18.here hx rfl (hb hby at_186) rfl rfl) ?_
              show Go p.tables e below _ (T18.setTop (mkF m 188 #[.val (.int p0), .val (.int p1), .val (.long p2), .second, .val (.long p3), .second, .val (.int p4), .val (.int k1), .val (.int n1), .val (.int u1), .val (.int k2), .val (.int n2), .val (.int u2), .val (.long w2), .second, .val (.ref b5), .val (.int (((p4.toUInt32 >>> ((4 : Int32) &&& 31).toUInt32).toInt32) &&& (7 : Int32))), .val (.ref r18), .unset] [(.ref r18), (.ref b5)]))
              obtain ⟨v20, T20, h20, X20, q20, st20⟩ := X18.callV hx hZ (y := (⟨"com/example/preference_store/preferencestore/storage/Entry", "equals", "(Ljava/lang/Object;)Z"⟩ : MethodName)) (z := (⟨"com/example/preference_store/preferencestore/storage/Entry", "equals", "(Ljava/lang/Object;)Z"⟩ : MethodName)) hown (tw hw 41 rfl) (tw hw 42 rfl) (notFace_of_selects (args := #[]) (mvT hZ (tw hw 44 rfl))) (tw hw 44 rfl) (tw hw 43 rfl) (tw hw 2 rfl) (tw hw 45 rfl) (by decide) (rm7s l Z a0 hw [] b5 r18 h18 n0 Zs19 Ex18) f19_271 (g := (mkF m 188 #[.val (.int p0), .val (.int p1), .val (.long p2), .second, .val (.long p3), .second, .val (.int p4), .val (.int k1), .val (.int n1), .val (.int u1), .val (.int k2), .val (.int n2), .val (.int u2), .val (.long w2), .second, .val (.ref b5), .val (.int (((p4.toUInt32 >>> ((4 : Int32) &&& 31).toUInt32).toInt32) &&& (7 : Int32))), .val (.ref r18), .unset] [(.ref r18), (.ref b5)])) rfl (by rw [hml]; rfl) (argsL := [(.ref r18)]) (rest := []) (lenOf pd4 rfl) rfl (hb hby at_188) rfl (by decide) (Nat.le_of_ble_eq_true rfl) (k' := 9) (n' := 24) rfl rfl (by decide) (by decide)
              refine Go.by st20 ?_
              obtain ⟨rfl, rfl⟩ := q20
              show Go p.tables e below _ (T20.setTop (mkF m 191 #[.val (.int p0), .val (.int p1), .val (.long p2), .second, .val (.long p3), .second, .val (.int p4), .val (.int k1), .val (.int n1), .val (.int u1), .val (.int k2), .val (.int n2), .val (.int u2), .val (.long w2), .second, .val (.ref b5), .val (.int (((p4.toUInt32 >>> ((4 : Int32) &&& 31).toUInt32).toInt32) &&& (7 : Int32))), .val (.ref r18), .unset] [(.int (0 : Int32))]))
              refine Go.by (fun _ => XS.ifNo X20.here hx rfl (hb hby at_191) rfl ((if0 _ _).trans (teq (by decide)).2)) ?_
              show Go p.tables e below _ (T20.setTop (mkF m 194 #[.val (.int p0), .val (.int p1), .val (.long p2), .second, .val (.long p3), .second, .val (.int p4), .val (.int k1), .val (.int n1), .val (.int u1), .val (.int k2), .val (.int n2), .val (.int u2), .val (.long w2), .second, .val (.ref b5), .val (.int (((p4.toUInt32 >>> ((4 : Int32) &&& 31).toUInt32).toInt32) &&& (7 : Int32))), .val (.ref r18), .unset] []))
              refine Go.by (fun _ => XS.iconst X20.here hx rfl (hb hby at_194)) ?_
              show Go p.tables e below _ (T20.setTop (mkF m 195 #[.val (.int p0), .val (.int p1), .val (.long p2), .second, .val (.long p3), .second, .val (.int p4), .val (.int k1), .val (.int n1), .val (.int u1), .val (.int k2), .val (.int n2), .val (.int u2), .val (.long w2), .second, .val (.ref b5), .val (.int (((p4.toUInt32 >>> ((4 : Int32) &&& 31).toUInt32).toInt32) &&& (7 : Int32))), .val (.ref r18), .unset] [(.int (1 : Int32))]))
              refine Go.by (fun _ => XS.goto X20.here hx rfl (pc0 := 195) (pc' := 199) rfl (hb hby at_195) (by decide) (by decide)) ?_
              show Go p.tables e below _ (T20.setTop (mkF m 199 #[.val (.int p0), .val (.int p1), .val (.long p2), .second, .val (.long p3), .second, .val (.int p4), .val (.int k1), .val (.int n1), .val (.int u1), .val (.int k2), .val (.int n2), .val (.int u2), .val (.long w2), .second, .val (.ref b5), .val (.int (((p4.toUInt32 >>> ((4 : Int32) &&& 31).toUInt32).toInt32) &&& (7 : Int32))), .val (.ref r18), .unset] [(.int (1 : Int32))]))
              exact Go.retN X20 hx hlk (z' := (1 : Int32)) hret (by simp) (hb hby at_199) rfl (by decide) (by decide) rfl
            · skip
              refine Go.by (fun _ => XS.icmpYes X13.here hx rfl (pc0 := 174) (pc' := 200) rfl (hb hby at_174) rfl (feq hc174_17).2 (by decide) (by decide)) ?_
              show Go p.tables e below _ (T13.setTop (mkF m 200 #[.val (.int p0), .val (.int p1), .val (.long p2), .second, .val (.long p3), .second, .val (.int p4), .val (.int k1), .val (.int n1), .val (.int u1), .val (.int k2), .val (.int n2), .val (.int u2), .val (.long w2), .second, .val (.ref b5), .val (.int (((p4.toUInt32 >>> ((4 : Int32) &&& 31).toUInt32).toInt32) &&& (7 : Int32))), .unset, .unset] []))
              refine Go.by (fun _ => XS.iload X13.here hx rfl (hb hby at_200) rfl) ?_
              show Go p.tables e below _ (T13.setTop (mkF m 202 #[.val (.int p0), .val (.int p1), .val (.long p2), .second, .val (.long p3), .second, .val (.int p4), .val (.int k1), .val (.int n1), .val (.int u1), .val (.int k2), .val (.int n2), .val (.int u2), .val (.long w2), .second, .val (.ref b5), .val (.int (((p4.toUInt32 >>> ((4 : Int32) &&& 31).toUInt32).toInt32) &&& (7 : Int32))), .unset, .unset] [(.int (((p4.toUInt32 >>> ((4 : Int32) &&& 31).toUInt32).toInt32) &&& (7 : Int32)))]))
              refine Go.by (fun _ => XS.iconst X13.here hx rfl (hb hby at_202)) ?_
              show Go p.tables e below _ (T13.setTop (mkF m 203 #[.val (.int p0), .val (.int p1), .val (.long p2), .second, .val (.long p3), .second, .val (.int p4), .val (.int k1), .val (.int n1), .val (.int u1), .val (.int k2), .val (.int n2), .val (.int u2), .val (.long w2), .second, .val (.ref b5), .val (.int (((p4.toUInt32 >>> ((4 : Int32) &&& 31).toUInt32).toInt32) &&& (7 : Int32))), .unset, .unset] [(.int (3 : Int32)), (.int (((p4.toUInt32 >>> ((4 : Int32) &&& 31).toUInt32).toInt32) &&& (7 : Int32)))]))
              by_cases hc203_21 : (((p4.toUInt32 >>> ((4 : Int32) &&& 31).toUInt32).toInt32) &&& (7 : Int32)) = (3 : Int32)
              · skip
                refine Go.by (fun _ => XS.icmpNo X13.here hx rfl (hb hby at_203) rfl (teq hc203_21).2) ?_
                show Go p.tables e below _ (T13.setTop (mkF m 206 #[.val (.int p0), .val (.int p1), .val (.long p2), .second, .val (.long p3), .second, .val (.int p4), .val (.int k1), .val (.int n1), .val (.int u1), .val (.int k2), .val (.int n2), .val (.int u2), .val (.long w2), .second, .val (.ref b5), .val (.int (((p4.toUInt32 >>> ((4 : Int32) &&& 31).toUInt32).toInt32) &&& (7 : Int32))), .unset, .unset] []))
                refine Go.by (fun _ => XS.aload X13.here hx rfl (hb hby at_206) rfl rfl) ?_
                show Go p.tables e below _ (T13.setTop (mkF m 208 #[.val (.int p0), .val (.int p1), .val (.long p2), .second, .val (.long p3), .second, .val (.int p4), .val (.int k1), .val (.int n1), .val (.int u1), .val (.int k2), .val (.int n2), .val (.int u2), .val (.long w2), .second, .val (.ref b5), .val (.int (((p4.toUInt32 >>> ((4 : Int32) &&& 31).toUInt32).toInt32) &&& (7 : Int32))), .unset, .unset] [(.ref b5)]))
                refine Go.by (fun _ => XS.aload X13.here hx rfl (hb hby at_208) rfl rfl) ?_
                show Go p.tables e below _ (T13.setTop (mkF m 210 #[.val (.int p0), .val (.int p1), .val (.long p2), .second, .val (.long p3), .second, .val (.int p4), .val (.int k1), .val (.int n1), .val (.int u1), .val (.int k2), .val (.int n2), .val (.int u2), .val (.long w2), .second, .val (.ref b5), .val (.int (((p4.toUInt32 >>> ((4 : Int32) &&& 31).toUInt32).toInt32) &&& (7 : Int32))), .unset, .unset] [(.ref b5), (.ref b5)]))
                obtain ⟨v22, T22, h22, X22, q22, st22⟩ := X13.callV hx hZ (y := (⟨"com/example/preference_store/preferencestore/storage/Entry", "equals", "(Ljava/lang/Object;)Z"⟩ : MethodName)) (z := (⟨"com/example/preference_store/preferencestore/storage/Entry", "equals", "(Ljava/lang/Object;)Z"⟩ : MethodName)) hown (tw hw 41 rfl) (tw hw 42 rfl) (notFace_of_selects (args := #[]) (mvT hZ (tw hw 44 rfl))) (tw hw 44 rfl) (tw hw 43 rfl) (tw hw 2 rfl) (tw hw 45 rfl) (by decide) (rm7e l Z a0 hw [] b5 b5 cs r7 r9 r11 r7 r9 r11 d7 d9 d11 d7 d9 d11 kc7 kc9 kc11 kc7 kc9 kc11 (k1.toInt8.toInt32) (n1.toInt8.toInt32) (u1.toInt8.toInt32) (k1.toInt8.toInt32) (n1.toInt8.toInt32) (u1.toInt8.toInt32) p2 p2 h13 n0 Zs14 f14_181 S_CS0 hcs Ex13 Fkind13 Fname13 Fvalue13 Fver13 f14_183 f14_184 f14_185 f14_186 f14_187 f14_188 f14_189 f14_190 f14_191 f14_192 f14_193 f14_194 Ex13 Fkind13 Fname13 Fvalue13 Fver13 f14_183 f14_184 f14_185 f14_186 f14_187 f14_188 f14_189 f14_190 f14_191 f14_192 f14_193 f14_194 (fun _ => rfl) (fun _ => rfl) (fun _ => rfl)) Ex13 (g := (mkF m 210 #[.val (.int p0), .val (.int p1), .val (.long p2), .second, .val (.long p3), .second, .val (.int p4), .val (.int k1), .val (.int n1), .val (.int u1), .val (.int k2), .val (.int n2), .val (.int u2), .val (.long w2), .second, .val (.ref b5), .val (.int (((p4.toUInt32 >>> ((4 : Int32) &&& 31).toUInt32).toInt32) &&& (7 : Int32))), .unset, .unset] [(.ref b5), (.ref b5)])) rfl (by rw [hml]; rfl) (argsL := [(.ref b5)]) (rest := []) (lenOf pd4 rfl) rfl (hb hby at_210) rfl (by decide) (Nat.le_of_ble_eq_true rfl) (k' := 7) (n' := 19) rfl rfl (by decide) (by decide)
                refine Go.by st22 ?_
                rcases q22 with ⟨⟨he22, rfl⟩ | ⟨he22, rfl⟩, rfl⟩
                · skip
                  show Go p.tables e below _ (T22.setTop (mkF m 213 #[.val (.int p0), .val (.int p1), .val (.long p2), .second, .val (.long p3), .second, .val (.int p4), .val (.int k1), .val (.int n1), .val (.int u1), .val (.int k2), .val (.int n2), .val (.int u2), .val (.long w2), .second, .val (.ref b5), .val (.int (((p4.toUInt32 >>> ((4 : Int32) &&& 31).toUInt32).toInt32) &&& (7 : Int32))), .unset, .unset] [(.int (1 : Int32))]))
                  exact Go.retN X22 hx hlk (z' := (1 : Int32)) hret (by simp) (hb hby at_213) rfl (by decide) (by decide) rfl
                · skip
                  show Go p.tables e below _ (T22.setTop (mkF m 213 #[.val (.int p0), .val (.int p1), .val (.long p2), .second, .val (.long p3), .second, .val (.int p4), .val (.int k1), .val (.int n1), .val (.int u1), .val (.int k2), .val (.int n2), .val (.int u2), .val (.long w2), .second, .val (.ref b5), .val (.int (((p4.toUInt32 >>> ((4 : Int32) &&& 31).toUInt32).toInt32) &&& (7 : Int32))), .unset, .unset] [(.int (0 : Int32))]))
                  refine Go.retN X22 hx hlk (z' := (0 : Int32)) hret (by simp) (hb hby at_213) rfl (by decide) (by decide) ?_
                  exfalso
                  exact he22 ⟨rfl, rfl, rfl, rfl⟩
              · skip
                refine Go.by (fun _ => XS.icmpYes X13.here hx rfl (pc0 := 203) (pc' := 214) rfl (hb hby at_203) rfl (feq hc203_21).2 (by decide) (by decide)) ?_
                show Go p.tables e below _ (T13.setTop (mkF m 214 #[.val (.int p0), .val (.int p1), .val (.long p2), .second, .val (.long p3), .second, .val (.int p4), .val (.int k1), .val (.int n1), .val (.int u1), .val (.int k2), .val (.int n2), .val (.int u2), .val (.long w2), .second, .val (.ref b5), .val (.int (((p4.toUInt32 >>> ((4 : Int32) &&& 31).toUInt32).toInt32) &&& (7 : Int32))), .unset, .unset] []))
                obtain ⟨T23, h23, b23, X23, g23, E23, A23, D23, st23⟩ := X13.newO hx hZ hown (tw hw 0 rfl) (tw hw 1 rfl) (tw hw 2 rfl) (g := (mkF m 214 #[.val (.int p0), .val (.int p1), .val (.long p2), .second, .val (.long p3), .second, .val (.int p4), .val (.int k1), .val (.int n1), .val (.int u1), .val (.int k2), .val (.int n2), .val (.int u2), .val (.long w2), .second, .val (.ref b5), .val (.int (((p4.toUInt32 >>> ((4 : Int32) &&& 31).toUInt32).toInt32) &&& (7 : Int32))), .unset, .unset] [])) rfl (hb hby at_214) (k' := 8) (n' := 23) rfl rfl (by decide) (by decide)
                have g_b23 : n0 ≤ b23 := by rw [g23]; exact Zs14
                have ne_b5_b23 : b5 ≠ b23 := Nat.ne_of_lt (by rw [g23]; exact Ex13.lt)
                have ne_r7_b23 : r7 ≠ b23 := Nat.ne_of_lt (by rw [g23]; exact f14_183.lt)
                have ne_d7_b23 : d7 ≠ b23 := Nat.ne_of_lt (by rw [g23]; exact f14_186.lt)
                have ne_r9_b23 : r9 ≠ b23 := Nat.ne_of_lt (by rw [g23]; exact f14_187.lt)
                have ne_d9_b23 : d9 ≠ b23 := Nat.ne_of_lt (by rw [g23]; exact f14_190.lt)
                have ne_r11_b23 : r11 ≠ b23 := Nat.ne_of_lt (by rw [g23]; exact f14_191.lt)
                have ne_d11_b23 : d11 ≠ b23 := Nat.ne_of_lt (by rw [g23]; exact f14_194.lt)
                have f24_345 := f14_181.ext E23
                have f24_346 := Ex13.ext E23
                have f24_347 := f14_183.ext E23
                have f24_348 := f14_184.ext E23
                have f24_349 := f14_185.ext E23
                have f24_350 := Avf.ext f14_186 E23
                have f24_351 := f14_187.ext E23
                have f24_352 := f14_188.ext E23
                have f24_353 := f14_189.ext E23
                have f24_354 := Avf.ext f14_190 E23
                have f24_355 := f14_191.ext E23
                have f24_356 := f14_192.ext E23
                have f24_357 := f14_193.ext E23
                have f24_358 := Avf.ext f14_194 E23
                have f24_359 := Fkind13.ext E23
                have f24_360 := Fname13.ext E23
                have f24_361 := Fvalue13.ext E23
                have f24_362 := Fver13.ext E23
                have Zs24 : n0 ≤ h23.size := Nat.le_trans Zs14 E23.1
                have F23_kind : Fld Z h23 b23 "com/example/preference_store/preferencestore/storage/Entry" "kind" "Ljava/lang/String;" .null := D23 (Or.inr (tw hw 34 rfl)) (ty := (.object "java/lang/String")) (by decide)
                have F23_name : Fld Z h23 b23 "com/example/preference_store/preferencestore/storage/Entry" "name" "Ljava/lang/String;" .null := D23 (Or.inr (tw hw 36 rfl)) (ty := (.object "java/lang/String")) (by decide)
                have F23_value : Fld Z h23 b23 "com/example/preference_store/preferencestore/storage/Entry" "value" "Ljava/lang/String;" .null := D23 (Or.inr (tw hw 38 rfl)) (ty := (.object "java/lang/String")) (by decide)
                have F23_version : Fld Z h23 b23 "com/example/preference_store/preferencestore/storage/Entry" "version" "J" (.long (0 : Int64)) := D23 (Or.inr (tw hw 40 rfl)) (ty := .long) (by decide)
                refine Go.by st23 ?_
                show Go p.tables e below _ (T23.setTop (mkF m 217 #[.val (.int p0), .val (.int p1), .val (.long p2), .second, .val (.long p3), .second, .val (.int p4), .val (.int k1), .val (.int n1), .val (.int u1), .val (.int k2), .val (.int n2), .val (.int u2), .val (.long w2), .second, .val (.ref b5), .val (.int (((p4.toUInt32 >>> ((4 : Int32) &&& 31).toUInt32).toInt32) &&& (7 : Int32))), .unset, .unset] [(.ref b23)]))
                refine Go.by (fun _ => XS.dup X23.here hx rfl (hb hby at_217) rfl rfl) ?_
                show Go p.tables e below _ (T23.setTop (mkF m 218 #[.val (.int p0), .val (.int p1), .val (.long p2), .second, .val (.long p3), .second, .val (.int p4), .val (.int k1), .val (.int n1), .val (.int u1), .val (.int k2), .val (.int n2), .val (.int u2), .val (.long w2), .second, .val (.ref b5), .val (.int (((p4.toUInt32 >>> ((4 : Int32) &&& 31).toUInt32).toInt32) &&& (7 : Int32))), .unset, .unset] [(.ref b23), (.ref b23)]))
                refine Go.by (fun _ => XS.iload X23.here hx rfl (hb hby at_218) rfl) ?_
                show Go p.tables e below _ (T23.setTop (mkF m 220 #[.val (.int p0), .val (.int p1), .val (.long p2), .second, .val (.long p3), .second, .val (.int p4), .val (.int k1), .val (.int n1), .val (.int u1), .val (.int k2), .val (.int n2), .val (.int u2), .val (.long w2), .second, .val (.ref b5), .val (.int (((p4.toUInt32 >>> ((4 : Int32) &&& 31).toUInt32).toInt32) &&& (7 : Int32))), .unset, .unset] [(.int k2), (.ref b23), (.ref b23)]))
                obtain ⟨v25, T25, h25, X25, q25, st25⟩ := X23.callS hx hZ (y := (⟨"java/lang/String", "valueOf", "(C)Ljava/lang/String;"⟩ : MethodName)) hown (tw hw 3 rfl) (tw hw 4 rfl) (tw hw 5 rfl) (tw hw 6 rfl) (by decide) (rm1 l Z a0 hw [] k2 cs h23 n0 Zs24 f24_345 S_CS0 hcs hr_k2.1) (g := (mkF m 220 #[.val (.int p0), .val (.int p1), .val (.long p2), .second, .val (.long p3), .second, .val (.int p4), .val (.int k1), .val (.int n1), .val (.int u1), .val (.int k2), .val (.int n2), .val (.int u2), .val (.long w2), .second, .val (.ref b5), .val (.int (((p4.toUInt32 >>> ((4 : Int32) &&& 31).toUInt32).toInt32) &&& (7 : Int32))), .unset, .unset] [(.int k2), (.ref b23), (.ref b23)])) rfl (by rw [hml]; rfl) (argsL := [(.int k2)]) (rest := [(.ref b23), (.ref b23)]) (lenOf pd5 rfl) rfl (hb hby at_220) rfl (by decide) (Nat.le_of_ble_eq_true rfl) (k' := 10) (n' := 28) rfl rfl (by decide) (by decide)
                refine Go.by st25 ?_
                obtain ⟨r25, d25, kc25, rfl, sr25, sd25, K25, Ex25, Fv25, Fc25, V25⟩ := q25
                have g_r25 : n0 ≤ r25 := Nat.le_trans Zs24 sr25
                have ne_b5_r25 : b5 ≠ r25 := Nat.ne_of_lt (Nat.lt_of_lt_of_le f24_346.lt sr25)
                have ne_r7_r25 : r7 ≠ r25 := Nat.ne_of_lt (Nat.lt_of_lt_of_le f24_347.lt sr25)
                have ne_d7_r25 : d7 ≠ r25 := Nat.ne_of_lt (Nat.lt_of_lt_of_le f24_350.lt sr25)
                have ne_r9_r25 : r9 ≠ r25 := Nat.ne_of_lt (Nat.lt_of_lt_of_le f24_351.lt sr25)
                have ne_d9_r25 : d9 ≠ r25 := Nat.ne_of_lt (Nat.lt_of_lt_of_le f24_354.lt sr25)
                have ne_r11_r25 : r11 ≠ r25 := Nat.ne_of_lt (Nat.lt_of_lt_of_le f24_355.lt sr25)
                have ne_d11_r25 : d11 ≠ r25 := Nat.ne_of_lt (Nat.lt_of_lt_of_le f24_358.lt sr25)
                have ne_b23_r25 : b23 ≠ r25 := Nat.ne_of_lt (Nat.lt_of_lt_of_le A23.lt sr25)
                have g_d25 : n0 ≤ d25 := Nat.le_trans Zs24 sd25
                have ne_b5_d25 : b5 ≠ d25 := Nat.ne_of_lt (Nat.lt_of_lt_of_le f24_346.lt sd25)
                have ne_r7_d25 : r7 ≠ d25 := Nat.ne_of_lt (Nat.lt_of_lt_of_le f24_347.lt sd25)
                have ne_d7_d25 : d7 ≠ d25 := Nat.ne_of_lt (Nat.lt_of_lt_of_le f24_350.lt sd25)
                have ne_r9_d25 : r9 ≠ d25 := Nat.ne_of_lt (Nat.lt_of_lt_of_le f24_351.lt sd25)
                have ne_d9_d25 : d9 ≠ d25 := Nat.ne_of_lt (Nat.lt_of_lt_of_le f24_354.lt sd25)
                have ne_r11_d25 : r11 ≠ d25 := Nat.ne_of_lt (Nat.lt_of_lt_of_le f24_355.lt sd25)
                have ne_d11_d25 : d11 ≠ d25 := Nat.ne_of_lt (Nat.lt_of_lt_of_le f24_358.lt sd25)
                have ne_b23_d25 : b23 ≠ d25 := Nat.ne_of_lt (Nat.lt_of_lt_of_le A23.lt sd25)
                have f26_395 := f24_345.ext (keep_ext K25)
                have f26_396 := f24_346.ext (keep_ext K25)
                have f26_397 := f24_347.ext (keep_ext K25)
                have f26_398 := f24_348.ext (keep_ext K25)
                have f26_399 := f24_349.ext (keep_ext K25)
                have f26_400 := Avf.ext f24_350 (keep_ext K25)
                have f26_401 := f24_351.ext (keep_ext K25)
                have f26_402 := f24_352.ext (keep_ext K25)
                have f26_403 := f24_353.ext (keep_ext K25)
                have f26_404 := Avf.ext f24_354 (keep_ext K25)
                have f26_405 := f24_355.ext (keep_ext K25)
                have f26_406 := f24_356.ext (keep_ext K25)
                have f26_407 := f24_357.ext (keep_ext K25)
                have f26_408 := Avf.ext f24_358 (keep_ext K25)
                have f26_409 := f24_359.ext (keep_ext K25)
                have f26_410 := f24_360.ext (keep_ext K25)
                have f26_411 := f24_361.ext (keep_ext K25)
                have f26_412 := f24_362.ext (keep_ext K25)
                have f26_413 := A23.ext (keep_ext K25)
                have f26_414 := F23_kind.ext (keep_ext K25)
                have f26_415 := F23_name.ext (keep_ext K25)
                have f26_416 := F23_value.ext (keep_ext K25)
                have f26_417 := F23_version.ext (keep_ext K25)
                have Zs26 : n0 ≤ h25.size := Nat.le_trans Zs24 (keep_ext K25).1
                show Go p.tables e below _ (T25.setTop (mkF m 223 #[.val (.int p0), .val (.int p1), .val (.long p2), .second, .val (.long p3), .second, .val (.int p4), .val (.int k1), .val (.int n1), .val (.int u1), .val (.int k2), .val (.int n2), .val (.int u2), .val (.long w2), .second, .val (.ref b5), .val (.int (((p4.toUInt32 >>> ((4 : Int32) &&& 31).toUInt32).toInt32) &&& (7 : Int32))), .unset, .unset] [(.ref r25), (.ref b23), (.ref b23)]))
                refine Go.by (fun _ => XS.iload X25.here hx rfl (hb hby at_223) rfl) ?_
                show Go p.tables e below _ (T25.setTop (mkF m 225 #[.val (.int p0), .val (.int p1), .val (.long p2), .second, .val (.long p3), .second, .val (.int p4), .val (.int k1), .val (.int n1), .val (.int u1), .val (.int k2), .val (.int n2), .val (.int u2), .val (.long w2), .second, .val (.ref b5), .val (.int (((p4.toUInt32 >>> ((4 : Int32) &&& 31).toUInt32).toInt32) &&& (7 : Int32))), .unset, .unset] [(.int n2), (.ref r25), (.ref b23), (.ref b23)]))
                obtain ⟨v27, T27, h27, X27, q27, st27⟩ := X25.callS hx hZ (y := (⟨"java/lang/String", "valueOf", "(C)Ljava/lang/String;"⟩ : MethodName)) hown (tw hw 3 rfl) (tw hw 4 rfl) (tw hw 5 rfl) (tw hw 6 rfl) (by decide) (rm1 l Z a0 hw [] n2 cs h25 n0 Zs26 f26_395 S_CS0 hcs hr_n2.1) (g := (mkF m 225 #[.val (.int p0), .val (.int p1), .val (.long p2), .second, .val (.long p3), .second, .val (.int p4), .val (.int k1), .val (.int n1), .val (.int u1), .val (.int k2), .val (.int n2), .val (.int u2), .val (.long w2), .second, .val (.ref b5), .val (.int (((p4.toUInt32 >>> ((4 : Int32) &&& 31).toUInt32).toInt32) &&& (7 : Int32))), .unset, .unset] [(.int n2), (.ref r25), (.ref b23), (.ref b23)])) rfl (by rw [hml]; rfl) (argsL := [(.int n2)]) (rest := [(.ref r25), (.ref b23), (.ref b23)]) (lenOf pd5 rfl) rfl (hb hby at_225) rfl (by decide) (Nat.le_of_ble_eq_true rfl) (k' := 12) (n' := 33) rfl rfl (by decide) (by decide)
                refine Go.by st27 ?_
                obtain ⟨r27, d27, kc27, rfl, sr27, sd27, K27, Ex27, Fv27, Fc27, V27⟩ := q27
                have g_r27 : n0 ≤ r27 := Nat.le_trans Zs26 sr27
                have ne_b5_r27 : b5 ≠ r27 := Nat.ne_of_lt (Nat.lt_of_lt_of_le f26_396.lt sr27)
                have ne_r7_r27 : r7 ≠ r27 := Nat.ne_of_lt (Nat.lt_of_lt_of_le f26_397.lt sr27)
                have ne_d7_r27 : d7 ≠ r27 := Nat.ne_of_lt (Nat.lt_of_lt_of_le f26_400.lt sr27)
                have ne_r9_r27 : r9 ≠ r27 := Nat.ne_of_lt (Nat.lt_of_lt_of_le f26_401.lt sr27)
                have ne_d9_r27 : d9 ≠ r27 := Nat.ne_of_lt (Nat.lt_of_lt_of_le f26_404.lt sr27)
                have ne_r11_r27 : r11 ≠ r27 := Nat.ne_of_lt (Nat.lt_of_lt_of_le f26_405.lt sr27)
                have ne_d11_r27 : d11 ≠ r27 := Nat.ne_of_lt (Nat.lt_of_lt_of_le f26_408.lt sr27)
                have ne_b23_r27 : b23 ≠ r27 := Nat.ne_of_lt (Nat.lt_of_lt_of_le f26_413.lt sr27)
                have ne_r25_r27 : r25 ≠ r27 := Nat.ne_of_lt (Nat.lt_of_lt_of_le Ex25.lt sr27)
                have ne_d25_r27 : d25 ≠ r27 := Nat.ne_of_lt (Nat.lt_of_lt_of_le V25.lt sr27)
                have g_d27 : n0 ≤ d27 := Nat.le_trans Zs26 sd27
                have ne_b5_d27 : b5 ≠ d27 := Nat.ne_of_lt (Nat.lt_of_lt_of_le f26_396.lt sd27)
                have ne_r7_d27 : r7 ≠ d27 := Nat.ne_of_lt (Nat.lt_of_lt_of_le f26_397.lt sd27)
                have ne_d7_d27 : d7 ≠ d27 := Nat.ne_of_lt (Nat.lt_of_lt_of_le f26_400.lt sd27)
                have ne_r9_d27 : r9 ≠ d27 := Nat.ne_of_lt (Nat.lt_of_lt_of_le f26_401.lt sd27)
                have ne_d9_d27 : d9 ≠ d27 := Nat.ne_of_lt (Nat.lt_of_lt_of_le f26_404.lt sd27)
                have ne_r11_d27 : r11 ≠ d27 := Nat.ne_of_lt (Nat.lt_of_lt_of_le f26_405.lt sd27)
                have ne_d11_d27 : d11 ≠ d27 := Nat.ne_of_lt (Nat.lt_of_lt_of_le f26_408.lt sd27)
                have ne_b23_d27 : b23 ≠ d27 := Nat.ne_of_lt (Nat.lt_of_lt_of_le f26_413.lt sd27)
                have ne_r25_d27 : r25 ≠ d27 := Nat.ne_of_lt (Nat.lt_of_lt_of_le Ex25.lt sd27)
                have ne_d25_d27 : d25 ≠ d27 := Nat.ne_of_lt (Nat.lt_of_lt_of_le V25.lt sd27)
                have f28_447 := f26_395.ext (keep_ext K27)
                have f28_448 := f26_396.ext (keep_ext K27)
                have f28_449 := f26_397.ext (keep_ext K27)
                have f28_450 := f26_398.ext (keep_ext K27)
                have f28_451 := f26_399.ext (keep_ext K27)
                have f28_452 := Avf.ext f26_400 (keep_ext K27)
                have f28_453 := f26_401.ext (keep_ext K27)
                have f28_454 := f26_402.ext (keep_ext K27)
                have f28_455 := f26_403.ext (keep_ext K27)
                have f28_456 := Avf.ext f26_404 (keep_ext K27)
                have f28_457 := f26_405.ext (keep_ext K27)
                have f28_458 := f26_406.ext (keep_ext K27)
                have f28_459 := f26_407.ext (keep_ext K27)
                have f28_460 := Avf.ext f26_408 (keep_ext K27)
                have f28_461 := f26_409.ext (keep_ext K27)
                have f28_462 := f26_410.ext (keep_ext K27)
                have f28_463 := f26_411.ext (keep_ext K27)
                have f28_464 := f26_412.ext (keep_ext K27)
                have f28_465 := f26_413.ext (keep_ext K27)
                have f28_466 := f26_414.ext (keep_ext K27)
                have f28_467 := f26_415.ext (keep_ext K27)
                have f28_468 := f26_416.ext (keep_ext K27)
                have f28_469 := f26_417.ext (keep_ext K27)
                have f28_470 := Ex25.ext (keep_ext K27)
                have f28_471 := Fv25.ext (keep_ext K27)
                have f28_472 := Fc25.ext (keep_ext K27)
                have f28_473 := Avf.ext V25 (keep_ext K27)
                have Zs28 : n0 ≤ h27.size := Nat.le_trans Zs26 (keep_ext K27).1
                show Go p.tables e below _ (T27.setTop (mkF m 228 #[.val (.int p0), .val (.int p1), .val (.long p2), .second, .val (.long p3), .second, .val (.int p4), .val (.int k1), .val (.int n1), .val (.int u1), .val (.int k2), .val (.int n2), .val (.int u2), .val (.long w2), .second, .val (.ref b5), .val (.int (((p4.toUInt32 >>> ((4 : Int32) &&& 31).toUInt32).toInt32) &&& (7 : Int32))), .unset, .unset] [(.ref r27), (.ref r25), (.ref b23), (.ref b23)]))
                refine Go.by (fun _ => XS.iload X27.here hx rfl (hb hby at_228) rfl) ?_
                show Go p.tables e below _ (T27.setTop (mkF m 230 #[.val (.int p0), .val (.int p1), .val (.long p2), .second, .val (.long p3), .second, .val (.int p4), .val (.int k1), .val (.int n1), .val (.int u1), .val (.int k2), .val (.int n2), .val (.int u2), .val (.long w2), .second, .val (.ref b5), .val (.int (((p4.toUInt32 >>> ((4 : Int32) &&& 31).toUInt32).toInt32) &&& (7 : Int32))), .unset, .unset] [(.int u2), (.ref r27), (.ref r25), (.ref b23), (.ref b23)]))
                obtain ⟨v29, T29, h29, X29, q29, st29⟩ := X27.callS hx hZ (y := (⟨"java/lang/String", "valueOf", "(C)Ljava/lang/String;"⟩ : MethodName)) hown (tw hw 3 rfl) (tw hw 4 rfl) (tw hw 5 rfl) (tw hw 6 rfl) (by decide) (rm1 l Z a0 hw [] u2 cs h27 n0 Zs28 f28_447 S_CS0 hcs hr_u2.1) (g := (mkF m 230 #[.val (.int p0), .val (.int p1), .val (.long p2), .second, .val (.long p3), .second, .val (.int p4), .val (.int k1), .val (.int n1), .val (.int u1), .val (.int k2), .val (.int n2), .val (.int u2), .val (.long w2), .second, .val (.ref b5), .val (.int (((p4.toUInt32 >>> ((4 : Int32) &&& 31).toUInt32).toInt32) &&& (7 : Int32))), .unset, .unset] [(.int u2), (.ref r27), (.ref r25), (.ref b23), (.ref b23)])) rfl (by rw [hml]; rfl) (argsL := [(.int u2)]) (rest := [(.ref r27), (.ref r25), (.ref b23), (.ref b23)]) (lenOf pd5 rfl) rfl (hb hby at_230) rfl (by decide) (Nat.le_of_ble_eq_true rfl) (k' := 14) (n' := 38) rfl rfl (by decide) (by decide)
                refine Go.by st29 ?_
                obtain ⟨r29, d29, kc29, rfl, sr29, sd29, K29, Ex29, Fv29, Fc29, V29⟩ := q29
                have g_r29 : n0 ≤ r29 := Nat.le_trans Zs28 sr29
                have ne_b5_r29 : b5 ≠ r29 := Nat.ne_of_lt (Nat.lt_of_lt_of_le f28_448.lt sr29)
                have ne_r7_r29 : r7 ≠ r29 := Nat.ne_of_lt (Nat.lt_of_lt_of_le f28_449.lt sr29)
                have ne_d7_r29 : d7 ≠ r29 := Nat.ne_of_lt (Nat.lt_of_lt_of_le f28_452.lt sr29)
                have ne_r9_r29 : r9 ≠ r29 := Nat.ne_of_lt (Nat.lt_of_lt_of_le f28_453.lt sr29)
                have ne_d9_r29 : d9 ≠ r29 := Nat.ne_of_lt (Nat.lt_of_lt_of_le f28_456.lt sr29)
                have ne_r11_r29 : r11 ≠ r29 := Nat.ne_of_lt (Nat.lt_of_lt_of_le f28_457.lt sr29)
                have ne_d11_r29 : d11 ≠ r29 := Nat.ne_of_lt (Nat.lt_of_lt_of_le f28_460.lt sr29)
                have ne_b23_r29 : b23 ≠ r29 := Nat.ne_of_lt (Nat.lt_of_lt_of_le f28_465.lt sr29)
                have ne_r25_r29 : r25 ≠ r29 := Nat.ne_of_lt (Nat.lt_of_lt_of_le f28_470.lt sr29)
                have ne_d25_r29 : d25 ≠ r29 := Nat.ne_of_lt (Nat.lt_of_lt_of_le f28_473.lt sr29)
                have ne_r27_r29 : r27 ≠ r29 := Nat.ne_of_lt (Nat.lt_of_lt_of_le Ex27.lt sr29)
                have ne_d27_r29 : d27 ≠ r29 := Nat.ne_of_lt (Nat.lt_of_lt_of_le V27.lt sr29)
                have g_d29 : n0 ≤ d29 := Nat.le_trans Zs28 sd29
                have ne_b5_d29 : b5 ≠ d29 := Nat.ne_of_lt (Nat.lt_of_lt_of_le f28_448.lt sd29)
                have ne_r7_d29 : r7 ≠ d29 := Nat.ne_of_lt (Nat.lt_of_lt_of_le f28_449.lt sd29)
                have ne_d7_d29 : d7 ≠ d29 := Nat.ne_of_lt (Nat.lt_of_lt_of_le f28_452.lt sd29)
                have ne_r9_d29 : r9 ≠ d29 := Nat.ne_of_lt (Nat.lt_of_lt_of_le f28_453.lt sd29)
                have ne_d9_d29 : d9 ≠ d29 := Nat.ne_of_lt (Nat.lt_of_lt_of_le f28_456.lt sd29)
                have ne_r11_d29 : r11 ≠ d29 := Nat.ne_of_lt (Nat.lt_of_lt_of_le f28_457.lt sd29)
                have ne_d11_d29 : d11 ≠ d29 := Nat.ne_of_lt (Nat.lt_of_lt_of_le f28_460.lt sd29)
                have ne_b23_d29 : b23 ≠ d29 := Nat.ne_of_lt (Nat.lt_of_lt_of_le f28_465.lt sd29)
                have ne_r25_d29 : r25 ≠ d29 := Nat.ne_of_lt (Nat.lt_of_lt_of_le f28_470.lt sd29)
                have ne_d25_d29 : d25 ≠ d29 := Nat.ne_of_lt (Nat.lt_of_lt_of_le f28_473.lt sd29)
                have ne_r27_d29 : r27 ≠ d29 := Nat.ne_of_lt (Nat.lt_of_lt_of_le Ex27.lt sd29)
                have ne_d27_d29 : d27 ≠ d29 := Nat.ne_of_lt (Nat.lt_of_lt_of_le V27.lt sd29)
                have f30_507 := f28_447.ext (keep_ext K29)
                have f30_508 := f28_448.ext (keep_ext K29)
                have f30_509 := f28_449.ext (keep_ext K29)
                have f30_510 := f28_450.ext (keep_ext K29)
                have f30_511 := f28_451.ext (keep_ext K29)
                have f30_512 := Avf.ext f28_452 (keep_ext K29)
                have f30_513 := f28_453.ext (keep_ext K29)
                have f30_514 := f28_454.ext (keep_ext K29)
                have f30_515 := f28_455.ext (keep_ext K29)
                have f30_516 := Avf.ext f28_456 (keep_ext K29)
                have f30_517 := f28_457.ext (keep_ext K29)
                have f30_518 := f28_458.ext (keep_ext K29)
                have f30_519 := f28_459.ext (keep_ext K29)
                have f30_520 := Avf.ext f28_460 (keep_ext K29)
                have f30_521 := f28_461.ext (keep_ext K29)
                have f30_522 := f28_462.ext (keep_ext K29)
                have f30_523 := f28_463.ext (keep_ext K29)
                have f30_524 := f28_464.ext (keep_ext K29)
                have f30_525 := f28_465.ext (keep_ext K29)
                have f30_526 := f28_466.ext (keep_ext K29)
                have f30_527 := f28_467.ext (keep_ext K29)
                have f30_528 := f28_468.ext (keep_ext K29)
                have f30_529 := f28_469.ext (keep_ext K29)
                have f30_530 := f28_470.ext (keep_ext K29)
                have f30_531 := f28_471.ext (keep_ext K29)
                have f30_532 := f28_472.ext (keep_ext K29)
                have f30_533 := Avf.ext f28_473 (keep_ext K29)
                have f30_534 := Ex27.ext (keep_ext K29)
                have f30_535 := Fv27.ext (keep_ext K29)
                have f30_536 := Fc27.ext (keep_ext K29)
                have f30_537 := Avf.ext V27 (keep_ext K29)
                have Zs30 : n0 ≤ h29.size := Nat.le_trans Zs28 (keep_ext K29).1
                show Go p.tables e below _ (T29.setTop (mkF m 233 #[.val (.int p0), .val (.int p1), .val (.long p2), .second, .val (.long p3), .second, .val (.int p4), .val (.int k1), .val (.int n1), .val (.int u1), .val (.int k2), .val (.int n2), .val (.int u2), .val (.long w2), .second, .val (.ref b5), .val (.int (((p4.toUInt32 >>> ((4 : Int32) &&& 31).toUInt32).toInt32) &&& (7 : Int32))), .unset, .unset] [(.ref r29), (.ref r27), (.ref r25), (.ref b23), (.ref b23)]))
                refine Go.by (fun _ => XS.lload X29.here hx rfl (hb hby at_233) rfl) ?_
                show Go p.tables e below _ (T29.setTop (mkF m 235 #[.val (.int p0), .val (.int p1), .val (.long p2), .second, .val (.long p3), .second, .val (.int p4), .val (.int k1), .val (.int n1), .val (.int u1), .val (.int k2), .val (.int n2), .val (.int u2), .val (.long w2), .second, .val (.ref b5), .val (.int (((p4.toUInt32 >>> ((4 : Int32) &&& 31).toUInt32).toInt32) &&& (7 : Int32))), .unset, .unset] [(.long w2), (.ref r29), (.ref r27), (.ref r25), (.ref b23), (.ref b23)]))
                obtain ⟨v31, T31, h31, X31, q31, st31⟩ := X29.callI hx hZ (y := (⟨"com/example/preference_store/preferencestore/storage/Entry", "<init>", "(Ljava/lang/String;Ljava/lang/String;Ljava/lang/String;J)V"⟩ : MethodName)) rfl hown (tw hw 29 rfl) (tw hw 30 rfl) (tw hw 2 rfl) (tw hw 31 rfl) (by decide) (rm6 l Z a0 hw [] b23 r25 r27 r29 w2 h29 n0 Zs30 f30_525 g_b23 f30_529 f30_526 f30_527 f30_528) (g := (mkF m 235 #[.val (.int p0), .val (.int p1), .val (.long p2), .second, .val (.long p3), .second, .val (.int p4), .val (.int k1), .val (.int n1), .val (.int u1), .val (.int k2), .val (.int n2), .val (.int u2), .val (.long w2), .second, .val (.ref b5), .val (.int (((p4.toUInt32 >>> ((4 : Int32) &&& 31).toUInt32).toInt32) &&& (7 : Int32))), .unset, .unset] [(.long w2), (.ref r29), (.ref r27), (.ref r25), (.ref b23), (.ref b23)])) rfl (by rw [hml]; rfl) (argsL := [(.ref r25), (.ref r27), (.ref r29), (.long w2)]) (rest := [(.ref b23)]) (lenOf pd6 rfl) rfl (hb hby at_235) rfl (by decide) (Nat.le_of_ble_eq_true rfl) (k' := 14) (n' := 38) rfl rfl (by decide) (by decide)
                refine Go.by st31 ?_
                obtain ⟨rfl, K31, Ex31, Fkind31, Fname31, Fvalue31, Fver31⟩ := q31
                have f32_545 := f30_507.keep K31 (allS g_b23 all0)
                have f32_546 := f30_508.keep K31
                have f32_547 := f30_509.keep K31
                have f32_548 := f30_510.keep K31 (ninS ne_r7_b23 nin0)
                have f32_549 := f30_511.keep K31 (ninS ne_r7_b23 nin0)
                have f32_550 := Avf.keep f30_512 K31 (ninS ne_d7_b23 nin0)
                have f32_551 := f30_513.keep K31
                have f32_552 := f30_514.keep K31 (ninS ne_r9_b23 nin0)
                have f32_553 := f30_515.keep K31 (ninS ne_r9_b23 nin0)
                have f32_554 := Avf.keep f30_516 K31 (ninS ne_d9_b23 nin0)
                have f32_555 := f30_517.keep K31
                have f32_556 := f30_518.keep K31 (ninS ne_r11_b23 nin0)
                have f32_557 := f30_519.keep K31 (ninS ne_r11_b23 nin0)
                have f32_558 := Avf.keep f30_520 K31 (ninS ne_d11_b23 nin0)
                have f32_559 := f30_521.keep K31 (ninS ne_b5_b23 nin0)
                have f32_560 := f30_522.keep K31 (ninS ne_b5_b23 nin0)
                have f32_561 := f30_523.keep K31 (ninS ne_b5_b23 nin0)
                have f32_562 := f30_524.keep K31 (ninS ne_b5_b23 nin0)
                have f32_563 := f30_525.keep K31
                have f32_564 := f30_530.keep K31
                have f32_565 := f30_531.keep K31 (ninS (Ne.symm ne_b23_r25) nin0)
                have f32_566 := f30_532.keep K31 (ninS (Ne.symm ne_b23_r25) nin0)
                have f32_567 := Avf.keep f30_533 K31 (ninS (Ne.symm ne_b23_d25) nin0)
                have f32_568 := f30_534.keep K31
                have f32_569 := f30_535.keep K31 (ninS (Ne.symm ne_b23_r27) nin0)
                have f32_570 := f30_536.keep K31 (ninS (Ne.symm ne_b23_r27) nin0)
                have f32_571 := Avf.keep f30_537 K31 (ninS (Ne.symm ne_b23_d27) nin0)
                have f32_572 := Ex29.keep K31
                have f32_573 := Fv29.keep K31 (ninS (Ne.symm ne_b23_r29) nin0)
                have f32_574 := Fc29.keep K31 (ninS (Ne.symm ne_b23_r29) nin0)
                have f32_575 := Avf.keep V29 K31 (ninS (Ne.symm ne_b23_d29) nin0)
                have Zs32 : n0 ≤ h31.size := Nat.le_trans Zs30 K31.1
                show Go p.tables e below _ (T31.setTop (mkF m 238 #[.val (.int p0), .val (.int p1), .val (.long p2), .second, .val (.long p3), .second, .val (.int p4), .val (.int k1), .val (.int n1), .val (.int u1), .val (.int k2), .val (.int n2), .val (.int u2), .val (.long w2), .second, .val (.ref b5), .val (.int (((p4.toUInt32 >>> ((4 : Int32) &&& 31).toUInt32).toInt32) &&& (7 : Int32))), .unset, .unset] [(.ref b23)]))
                refine Go.by (fun _ => XS.astore X31.here hx rfl (hb hby at_238) rfl rfl (l' := #[.val (.int p0), .val (.int p1), .val (.long p2), .second, .val (.long p3), .second, .val (.int p4), .val (.int k1), .val (.int n1), .val (.int u1), .val (.int k2), .val (.int n2), .val (.int u2), .val (.long w2), .second, .val (.ref b5), .val (.int (((p4.toUInt32 >>> ((4 : Int32) &&& 31).toUInt32).toInt32) &&& (7 : Int32))), .val (.ref b23), .unset]) rfl) ?_
                show Go p.tables e below _ (T31.setTop (mkF m 240 #[.val (.int p0), .val (.int p1), .val (.long p2), .second, .val (.long p3), .second, .val (.int p4), .val (.int k1), .val (.int n1), .val (.int u1), .val (.int k2), .val (.int n2), .val (.int u2), .val (.long w2), .second, .val (.ref b5), .val (.int (((p4.toUInt32 >>> ((4 : Int32) &&& 31).toUInt32).toInt32) &&& (7 : Int32))), .val (.ref b23), .unset] []))
                have J33 : ∀ (Tj33 : State), Sd n0 p l e room_1 s m #[(.int p0), (.int p1), (.long p2), (.long p3), (.int p4)] below meth c Tj33 h31 14 38 → ∀ (jb : Int32), ((jb = 1 ∧ (k1 = k2 ∧ n1 = n2 ∧ u1 = u2 ∧ p2 = w2)) ∨ (jb = 0 ∧ ¬ (k1 = k2 ∧ n1 = n2 ∧ u1 = u2 ∧ p2 = w2))) → Go p.tables e below (Ret s n0 (fun v h => v = some (.int 1)) room_1.cells room_1.slots) (Tj33.setTop (mkF m 273 #[.val (.int p0), .val (.int p1), .val (.long p2), .second, .val (.long p3), .second, .val (.int p4), .val (.int k1), .val (.int n1), .val (.int u1), .val (.int k2), .val (.int n2), .val (.int u2), .val (.long w2), .second, .val (.ref b5), .val (.int (((p4.toUInt32 >>> ((4 : Int32) &&& 31).toUInt32).toInt32) &&& (7 : Int32))), .val (.ref b23), .unset] [(.int jb)])) := by
                  intro Tj33 Xj33 jb hj33
                  rcases hj33 with ⟨rfl, hP⟩ | ⟨rfl, hP⟩
                  · skip
                    show Go p.tables e below _ (Tj33.setTop (mkF m 273 #[.val (.int p0), .val (.int p1), .val (.long p2), .second, .val (.long p3), .second, .val (.int p4), .val (.int k1), .val (.int n1), .val (.int u1), .val (.int k2), .val (.int n2), .val (.int u2), .val (.long w2), .second, .val (.ref b5), .val (.int (((p4.toUInt32 >>> ((4 : Int32) &&& 31).toUInt32).toInt32) &&& (7 : Int32))), .val (.ref b23), .unset] [(.int (1 : Int32))]))
                    refine Go.by (fun _ => XS.istore Xj33.here hx rfl (hb hby at_273) rfl (l' := #[.val (.int p0), .val (.int p1), .val (.long p2), .second, .val (.long p3), .second, .val (.int p4), .val (.int k1), .val (.int n1), .val (.int u1), .val (.int k2), .val (.int n2), .val (.int u2), .val (.long w2), .second, .val (.ref b5), .val (.int (((p4.toUInt32 >>> ((4 : Int32) &&& 31).toUInt32).toInt32) &&& (7 : Int32))), .val (.ref b23), .val (.int (1 : Int32))]) rfl) ?_
                    show Go p.tables e below _ (Tj33.setTop (mkF m 275 #[.val (.int p0), .val (.int p1), .val (.long p2), .second, .val (.long p3), .second, .val (.int p4), .val (.int k1), .val (.int n1), .val (.int u1), .val (.int k2), .val (.int n2), .val (.int u2), .val (.long w2), .second, .val (.ref b5), .val (.int (((p4.toUInt32 >>> ((4 : Int32) &&& 31).toUInt32).toInt32) &&& (7 : Int32))), .val (.ref b23), .val (.int (1 : Int32))] []))
                    refine Go.by (fun _ => XS.aload Xj33.here hx rfl (hb hby at_275) rfl rfl) ?_
                    show Go p.tables e below _ (Tj33.setTop (mkF m 277 #[.val (.int p0), .val (.int p1), .val (.long p2), .second, .val (.long p3), .second, .val (.int p4), .val (.int k1), .val (.int n1), .val (.int u1), .val (.int k2), .val (.int n2), .val (.int u2), .val (.long w2), .second, .val (.ref b5), .val (.int (((p4.toUInt32 >>> ((4 : Int32) &&& 31).toUInt32).toInt32) &&& (7 : Int32))), .val (.ref b23), .val (.int (1 : Int32))] [(.ref b5)]))
                    refine Go.by (fun _ => XS.aload Xj33.here hx rfl (hb hby at_277) rfl rfl) ?_
                    show Go p.tables e below _ (Tj33.setTop (mkF m 279 #[.val (.int p0), .val (.int p1), .val (.long p2), .second, .val (.long p3), .second, .val (.int p4), .val (.int k1), .val (.int n1), .val (.int u1), .val (.int k2), .val (.int n2), .val (.int u2), .val (.long w2), .second, .val (.ref b5), .val (.int (((p4.toUInt32 >>> ((4 : Int32) &&& 31).toUInt32).toInt32) &&& (7 : Int32))), .val (.ref b23), .val (.int (1 : Int32))] [(.ref b23), (.ref b5)]))
                    obtain ⟨v34, T34, h34, X34, q34, st34⟩ := Xj33.callV hx hZ (y := (⟨"com/example/preference_store/preferencestore/storage/Entry", "equals", "(Ljava/lang/Object;)Z"⟩ : MethodName)) (z := (⟨"com/example/preference_store/preferencestore/storage/Entry", "equals", "(Ljava/lang/Object;)Z"⟩ : MethodName)) hown (tw hw 41 rfl) (tw hw 42 rfl) (notFace_of_selects (args := #[]) (mvT hZ (tw hw 44 rfl))) (tw hw 44 rfl) (tw hw 43 rfl) (tw hw 2 rfl) (tw hw 45 rfl) (by decide) (rm7e l Z a0 hw [] b5 b23 cs r7 r9 r11 r25 r27 r29 d7 d9 d11 d25 d27 d29 kc7 kc9 kc11 kc25 kc27 kc29 (k1.toInt8.toInt32) (n1.toInt8.toInt32) (u1.toInt8.toInt32) (k2.toInt8.toInt32) (n2.toInt8.toInt32) (u2.toInt8.toInt32) p2 w2 h31 n0 Zs32 f32_545 S_CS0 hcs f32_546 f32_559 f32_560 f32_561 f32_562 f32_547 f32_548 f32_549 f32_550 f32_551 f32_552 f32_553 f32_554 f32_555 f32_556 f32_557 f32_558 Ex31 Fkind31 Fname31 Fvalue31 Fver31 f32_564 f32_565 f32_566 f32_567 f32_568 f32_569 f32_570 f32_571 f32_572 f32_573 f32_574 f32_575 (fun q => absurd q ne_r7_r25) (fun q => absurd q ne_r9_r27) (fun q => absurd q ne_r11_r29)) f32_546 (g := (mkF m 279 #[.val (.int p0), .val (.int p1), .val (.long p2), .second, .val (.long p3), .second, .val (.int p4), .val (.int k1), .val (.int n1), .val (.int u1), .val (.int k2), .val (.int n2), .val (.int u2), .val (.long w2), .second, .val (.ref b5), .val (.int (((p4.toUInt32 >>> ((4 : Int32) &&& 31).toUInt32).toInt32) &&& (7 : Int32))), .val (.ref b23), .val (.int (1 : Int32))] [(.ref b23), (.ref b5)])) rfl (by rw [hml]; rfl) (argsL := [(.ref b23)]) (rest := []) (lenOf pd4 rfl) rfl (hb hby at_279) rfl (by decide) (Nat.le_of_ble_eq_true rfl) (k' := 14) (n' := 38) rfl rfl (by decide) (by decide)
                    refine Go.by st34 ?_
                    rcases q34 with ⟨⟨he34, rfl⟩ | ⟨he34, rfl⟩, rfl⟩
                    · skip
                      show Go p.tables e below _ (T34.setTop (mkF m 282 #[.val (.int p0), .val (.int p1), .val (.long p2), .second, .val (.long p3), .second, .val (.int p4), .val (.int k1), .val (.int n1), .val (.int u1), .val (.int k2), .val (.int n2), .val (.int u2), .val (.long w2), .second, .val (.ref b5), .val (.int (((p4.toUInt32 >>> ((4 : Int32) &&& 31).toUInt32).toInt32) &&& (7 : Int32))), .val (.ref b23), .val (.int (1 : Int32))] [(.int (1 : Int32))]))
                      refine Go.by (fun _ => XS.iload X34.here hx rfl (hb hby at_282) rfl) ?_
                      show Go p.tables e below _ (T34.setTop (mkF m 284 #[.val (.int p0), .val (.int p1), .val (.long p2), .second, .val (.long p3), .second, .val (.int p4), .val (.int k1), .val (.int n1), .val (.int u1), .val (.int k2), .val (.int n2), .val (.int u2), .val (.long w2), .second, .val (.ref b5), .val (.int (((p4.toUInt32 >>> ((4 : Int32) &&& 31).toUInt32).toInt32) &&& (7 : Int32))), .val (.ref b23), .val (.int (1 : Int32))] [(.int (1 : Int32)), (.int (1 : Int32))]))
                      refine Go.by (fun _ => XS.icmpNo X34.here hx rfl (hb hby at_284) rfl (teq (by decide)).2) ?_
                      show Go p.tables e below _ (T34.setTop (mkF m 287 #[.val (.int p0), .val (.int p1), .val (.long p2), .second, .val (.long p3), .second, .val (.int p4), .val (.int k1), .val (.int n1), .val (.int u1), .val (.int k2), .val (.int n2), .val (.int u2), .val (.long w2), .second, .val (.ref b5), .val (.int (((p4.toUInt32 >>> ((4 : Int32) &&& 31).toUInt32).toInt32) &&& (7 : Int32))), .val (.ref b23), .val (.int (1 : Int32))] []))
                      refine Go.by (fun _ => XS.aload X34.here hx rfl (hb hby at_287) rfl rfl) ?_
                      show Go p.tables e below _ (T34.setTop (mkF m 289 #[.val (.int p0), .val (.int p1), .val (.long p2), .second, .val (.long p3), .second, .val (.int p4), .val (.int k1), .val (.int n1), .val (.int u1), .val (.int k2), .val (.int n2), .val (.int u2), .val (.long w2), .second, .val (.ref b5), .val (.int (((p4.toUInt32 >>> ((4 : Int32) &&& 31).toUInt32).toInt32) &&& (7 : Int32))), .val (.ref b23), .val (.int (1 : Int32))] [(.ref b23)]))
                      refine Go.by (fun _ => XS.aload X34.here hx rfl (hb hby at_289) rfl rfl) ?_
                      show Go p.tables e below _ (T34.setTop (mkF m 291 #[.val (.int p0), .val (.int p1), .val (.long p2), .second, .val (.long p3), .second, .val (.int p4), .val (.int k1), .val (.int n1), .val (.int u1), .val (.int k2), .val (.int n2), .val (.int u2), .val (.long w2), .second, .val (.ref b5), .val (.int (((p4.toUInt32 >>> ((4 : Int32) &&& 31).toUInt32).toInt32) &&& (7 : Int32))), .val (.ref b23), .val (.int (1 : Int32))] [(.ref b5), (.ref b23)]))
                      obtain ⟨v35, T35, h35, X35, q35, st35⟩ := X34.callV hx hZ (y := (⟨"com/example/preference_store/preferencestore/storage/Entry", "equals", "(Ljava/lang/Object;)Z"⟩ : MethodName)) (z := (⟨"com/example/preference_store/preferencestore/storage/Entry", "equals", "(Ljava/lang/Object;)Z"⟩ : MethodName)) hown (tw hw 41 rfl) (tw hw 42 rfl) (notFace_of_selects (args := #[]) (mvT hZ (tw hw 44 rfl))) (tw hw 44 rfl) (tw hw 43 rfl) (tw hw 2 rfl) (tw hw 45 rfl) (by decide) (rm7e l Z a0 hw [] b23 b5 cs r25 r27 r29 r7 r9 r11 d25 d27 d29 d7 d9 d11 kc25 kc27 kc29 kc7 kc9 kc11 (k2.toInt8.toInt32) (n2.toInt8.toInt32) (u2.toInt8.toInt32) (k1.toInt8.toInt32) (n1.toInt8.toInt32) (u1.toInt8.toInt32) w2 p2 h31 n0 Zs32 f32_545 S_CS0 hcs Ex31 Fkind31 Fname31 Fvalue31 Fver31 f32_564 f32_565 f32_566 f32_567 f32_568 f32_569 f32_570 f32_571 f32_572 f32_573 f32_574 f32_575 f32_546 f32_559 f32_560 f32_561 f32_562 f32_547 f32_548 f32_549 f32_550 f32_551 f32_552 f32_553 f32_554 f32_555 f32_556 f32_557 f32_558 (fun q => absurd q (Ne.symm ne_r7_r25)) (fun q => absurd q (Ne.symm ne_r9_r27)) (fun q => absurd q (Ne.symm ne_r11_r29))) Ex31 (g := (mkF m 291 #[.val (.int p0), .val (.int p1), .val (.long p2), .second, .val (.long p3), .second, .val (.int p4), .val (.int k1), .val (.int n1), .val (.int u1), .val (.int k2), .val (.int n2), .val (.int u2), .val (.long w2), .second, .val (.ref b5), .val (.int (((p4.toUInt32 >>> ((4 : Int32) &&& 31).toUInt32).toInt32) &&& (7 : Int32))), .val (.ref b23), .val (.int (1 : Int32))] [(.ref b5), (.ref b23)])) rfl (by rw [hml]; rfl) (argsL := [(.ref b5)]) (rest := []) (lenOf pd4 rfl) rfl (hb hby at_291) rfl (by decide) (Nat.le_of_ble_eq_true rfl) (k' := 14) (n' := 38) rfl rfl (by decide) (by decide)
                      refine Go.by st35 ?_
                      rcases q35 with ⟨⟨he35, rfl⟩ | ⟨he35, rfl⟩, rfl⟩
                      · skip
                        show Go p.tables e below _ (T35.setTop (mkF m 294 #[.val (.int p0), .val (.int p1), .val (.long p2), .second, .val (.long p3), .second, .val (.int p4), .val (.int k1), .val (.int n1), .val (.int u1), .val (.int k2), .val (.int n2), .val (.int u2), .val (.long w2), .second, .val (.ref b5), .val (.int (((p4.toUInt32 >>> ((4 : Int32) &&& 31).toUInt32).toInt32) &&& (7 : Int32))), .val (.ref b23), .val (.int (1 : Int32))] [(.int (1 : Int32))]))
                        refine Go.by (fun _ => XS.iload X35.here hx rfl (hb hby at_294) rfl) ?_
                        show Go p.tables e below _ (T35.setTop (mkF m 296 #[.val (.int p0), .val (.int p1), .val (.long p2), .second, .val (.long p3), .second, .val (.int p4), .val (.int k1), .val (.int n1), .val (.int u1), .val (.int k2), .val (.int n2), .val (.int u2), .val (.long w2), .second, .val (.ref b5), .val (.int (((p4.toUInt32 >>> ((4 : Int32) &&& 31).toUInt32).toInt32) &&& (7 : Int32))), .val (.ref b23), .val (.int (1 : Int32))] [(.int (1 : Int32)), (.int (1 : Int32))]))
                        refine Go.by (fun _ => XS.icmpNo X35.here hx rfl (hb hby at_296) rfl (teq (by decide)).2) ?_
                        show Go p.tables e below _ (T35.setTop (mkF m 299 #[.val (.int p0), .val (.int p1), .val (.long p2), .second, .val (.long p3), .second, .val (.int p4), .val (.int k1), .val (.int n1), .val (.int u1), .val (.int k2), .val (.int n2), .val (.int u2), .val (.long w2), .second, .val (.ref b5), .val (.int (((p4.toUInt32 >>> ((4 : Int32) &&& 31).toUInt32).toInt32) &&& (7 : Int32))), .val (.ref b23), .val (.int (1 : Int32))] []))
                        refine Go.by (fun _ => XS.iconst X35.here hx rfl (hb hby at_299)) ?_
                        show Go p.tables e below _ (T35.setTop (mkF m 300 #[.val (.int p0), .val (.int p1), .val (.long p2), .second, .val (.long p3), .second, .val (.int p4), .val (.int k1), .val (.int n1), .val (.int u1), .val (.int k2), .val (.int n2), .val (.int u2), .val (.long w2), .second, .val (.ref b5), .val (.int (((p4.toUInt32 >>> ((4 : Int32) &&& 31).toUInt32).toInt32) &&& (7 : Int32))), .val (.ref b23), .val (.int (1 : Int32))] [(.int (1 : Int32))]))
                        refine Go.by (fun _ => XS.goto X35.here hx rfl (pc0 := 300) (pc' := 304) rfl (hb hby at_300) (by decide) (by decide)) ?_
                        show Go p.tables e below _ (T35.setTop (mkF m 304 #[.val (.int p0), .val (.int p1), .val (.long p2), .second, .val (.long p3), .second, .val (.int p4), .val (.int k1), .val (.int n1), .val (.int u1), .val (.int k2), .val (.int n2), .val (.int u2), .val (.long w2), .second, .val (.ref b5), .val (.int (((p4.toUInt32 >>> ((4 : Int32) &&& 31).toUInt32).toInt32) &&& (7 : Int32))), .val (.ref b23), .val (.int (1 : Int32))] [(.int (1 : Int32))]))
                        exact Go.retN X35 hx hlk (z' := (1 : Int32)) hret (by simp) (hb hby at_304) rfl (by decide) (by decide) rfl
                      · skip
                        show Go p.tables e below _ (T35.setTop (mkF m 294 #[.val (.int p0), .val (.int p1), .val (.long p2), .second, .val (.long p3), .second, .val (.int p4), .val (.int k1), .val (.int n1), .val (.int u1), .val (.int k2), .val (.int n2), .val (.int u2), .val (.long w2), .second, .val (.ref b5), .val (.int (((p4.toUInt32 >>> ((4 : Int32) &&& 31).toUInt32).toInt32) &&& (7 : Int32))), .val (.ref b23), .val (.int (1 : Int32))] [(.int (0 : Int32))]))
                        refine Go.by (fun _ => XS.iload X35.here hx rfl (hb hby at_294) rfl) ?_
                        show Go p.tables e below _ (T35.setTop (mkF m 296 #[.val (.int p0), .val (.int p1), .val (.long p2), .second, .val (.long p3), .second, .val (.int p4), .val (.int k1), .val (.int n1), .val (.int u1), .val (.int k2), .val (.int n2), .val (.int u2), .val (.long w2), .second, .val (.ref b5), .val (.int (((p4.toUInt32 >>> ((4 : Int32) &&& 31).toUInt32).toInt32) &&& (7 : Int32))), .val (.ref b23), .val (.int (1 : Int32))] [(.int (1 : Int32)), (.int (0 : Int32))]))
                        refine Go.by (fun _ => XS.icmpYes X35.here hx rfl (pc0 := 296) (pc' := 303) rfl (hb hby at_296) rfl (feq (by decide)).2 (by decide) (by decide)) ?_
                        show Go p.tables e below _ (T35.setTop (mkF m 303 #[.val (.int p0), .val (.int p1), .val (.long p2), .second, .val (.long p3), .second, .val (.int p4), .val (.int k1), .val (.int n1), .val (.int u1), .val (.int k2), .val (.int n2), .val (.int u2), .val (.long w2), .second, .val (.ref b5), .val (.int (((p4.toUInt32 >>> ((4 : Int32) &&& 31).toUInt32).toInt32) &&& (7 : Int32))), .val (.ref b23), .val (.int (1 : Int32))] []))
                        refine Go.by (fun _ => XS.iconst X35.here hx rfl (hb hby at_303)) ?_
                        show Go p.tables e below _ (T35.setTop (mkF m 304 #[.val (.int p0), .val (.int p1), .val (.long p2), .second, .val (.long p3), .second, .val (.int p4), .val (.int k1), .val (.int n1), .val (.int u1), .val (.int k2), .val (.int n2), .val (.int u2), .val (.long w2), .second, .val (.ref b5), .val (.int (((p4.toUInt32 >>> ((4 : Int32) &&& 31).toUInt32).toInt32) &&& (7 : Int32))), .val (.ref b23), .val (.int (1 : Int32))] [(.int (0 : Int32))]))
                        refine Go.retN X35 hx hlk (z' := (0 : Int32)) hret (by simp) (hb hby at_304) rfl (by decide) (by decide) ?_
                        exfalso
                        first | exact he35 ⟨(own_byte hr_k1 hr_k2).mpr hP.1, (own_byte hr_n1 hr_n2).mpr hP.2.1, (own_byte hr_u1 hr_u2).mpr hP.2.2.1, hP.2.2.2⟩ | exact he35 ⟨(own_byte hr_k2 hr_k1).mpr hP.1.symm, (own_byte hr_n2 hr_n1).mpr hP.2.1.symm, (own_byte hr_u2 hr_u1).mpr hP.2.2.1.symm, hP.2.2.2.symm⟩ | exact hP ⟨(own_byte hr_k1 hr_k2).mp he35.1, (own_byte hr_n1 hr_n2).mp he35.2.1, (own_byte hr_u1 hr_u2).mp he35.2.2.1, he35.2.2.2⟩ | exact hP ⟨((own_byte hr_k2 hr_k1).mp he35.1).symm, ((own_byte hr_n2 hr_n1).mp he35.2.1).symm, ((own_byte hr_u2 hr_u1).mp he35.2.2.1).symm, he35.2.2.2.symm⟩
                    · skip
                      show Go p.tables e below _ (T34.setTop (mkF m 282 #[.val (.int p0), .val (.int p1), .val (.long p2), .second, .val (.long p3), .second, .val (.int p4), .val (.int k1), .val (.int n1), .val (.int u1), .val (.int k2), .val (.int n2), .val (.int u2), .val (.long w2), .second, .val (.ref b5), .val (.int (((p4.toUInt32 >>> ((4 : Int32) &&& 31).toUInt32).toInt32) &&& (7 : Int32))), .val (.ref b23), .val (.int (1 : Int32))] [(.int (0 : Int32))]))
                      refine Go.by (fun _ => XS.iload X34.here hx rfl (hb hby at_282) rfl) ?_
                      show Go p.tables e below _ (T34.setTop (mkF m 284 #[.val (.int p0), .val (.int p1), .val (.long p2), .second, .val (.long p3), .second, .val (.int p4), .val (.int k1), .val (.int n1), .val (.int u1), .val (.int k2), .val (.int n2), .val (.int u2), .val (.long w2), .second, .val (.ref b5), .val (.int (((p4.toUInt32 >>> ((4 : Int32) &&& 31).toUInt32).toInt32) &&& (7 : Int32))), .val (.ref b23), .val (.int (1 : Int32))] [(.int (1 : Int32)), (.int (0 : Int32))]))
                      refine Go.by (fun _ => XS.icmpYes X34.here hx rfl (pc0 := 284) (pc' := 303) rfl (hb hby at_284) rfl (feq (by decide)).2 (by decide) (by decide)) ?_
                      show Go p.tables e below _ (T34.setTop (mkF m 303 #[.val (.int p0), .val (.int p1), .val (.long p2), .second, .val (.long p3), .second, .val (.int p4), .val (.int k1), .val (.int n1), .val (.int u1), .val (.int k2), .val (.int n2), .val (.int u2), .val (.long w2), .second, .val (.ref b5), .val (.int (((p4.toUInt32 >>> ((4 : Int32) &&& 31).toUInt32).toInt32) &&& (7 : Int32))), .val (.ref b23), .val (.int (1 : Int32))] []))
                      refine Go.by (fun _ => XS.iconst X34.here hx rfl (hb hby at_303)) ?_
                      show Go p.tables e below _ (T34.setTop (mkF m 304 #[.val (.int p0), .val (.int p1), .val (.long p2), .second, .val (.long p3), .second, .val (.int p4), .val (.int k1), .val (.int n1), .val (.int u1), .val (.int k2), .val (.int n2), .val (.int u2), .val (.long w2), .second, .val (.ref b5), .val (.int (((p4.toUInt32 >>> ((4 : Int32) &&& 31).toUInt32).toInt32) &&& (7 : Int32))), .val (.ref b23), .val (.int (1 : Int32))] [(.int (0 : Int32))]))
                      refine Go.retN X34 hx hlk (z' := (0 : Int32)) hret (by simp) (hb hby at_304) rfl (by decide) (by decide) ?_
                      exfalso
                      first | exact he34 ⟨(own_byte hr_k1 hr_k2).mpr hP.1, (own_byte hr_n1 hr_n2).mpr hP.2.1, (own_byte hr_u1 hr_u2).mpr hP.2.2.1, hP.2.2.2⟩ | exact he34 ⟨(own_byte hr_k2 hr_k1).mpr hP.1.symm, (own_byte hr_n2 hr_n1).mpr hP.2.1.symm, (own_byte hr_u2 hr_u1).mpr hP.2.2.1.symm, hP.2.2.2.symm⟩ | exact hP ⟨(own_byte hr_k1 hr_k2).mp he34.1, (own_byte hr_n1 hr_n2).mp he34.2.1, (own_byte hr_u1 hr_u2).mp he34.2.2.1, he34.2.2.2⟩ | exact hP ⟨((own_byte hr_k2 hr_k1).mp he34.1).symm, ((own_byte hr_n2 hr_n1).mp he34.2.1).symm, ((own_byte hr_u2 hr_u1).mp he34.2.2.1).symm, he34.2.2.2.symm⟩
                  · skip
                    show Go p.tables e below _ (Tj33.setTop (mkF m 273 #[.val (.int p0), .val (.int p1), .val (.long p2), .second, .val (.long p3), .second, .val (.int p4), .val (.int k1), .val (.int n1), .val (.int u1), .val (.int k2), .val (.int n2), .val (.int u2), .val (.long w2), .second, .val (.ref b5), .val (.int (((p4.toUInt32 >>> ((4 : Int32) &&& 31).toUInt32).toInt32) &&& (7 : Int32))), .val (.ref b23), .unset] [(.int (0 : Int32))]))
                    refine Go.by (fun _ => XS.istore Xj33.here hx rfl (hb hby at_273) rfl (l' := #[.val (.int p0), .val (.int p1), .val (.long p2), .second, .val (.long p3), .second, .val (.int p4), .val (.int k1), .val (.int n1), .val (.int u1), .val (.int k2), .val (.int n2), .val (.int u2), .val (.long w2), .second, .val (.ref b5), .val (.int (((p4.toUInt32 >>> ((4 : Int32) &&& 31).toUInt32).toInt32) &&& (7 : Int32))), .val (.ref b23), .val (.int (0 : Int32))]) rfl) ?_
                    show Go p.tables e below _ (Tj33.setTop (mkF m 275 #[.val (.int p0), .val (.int p1), .val (.long p2), .second, .val (.long p3), .second, .val (.int p4), .val (.int k1), .val (.int n1), .val (.int u1), .val (.int k2), .val (.int n2), .val (.int u2), .val (.long w2), .second, .val (.ref b5), .val (.int (((p4.toUInt32 >>> ((4 : Int32) &&& 31).toUInt32).toInt32) &&& (7 : Int32))), .val (.ref b23), .val (.int (0 : Int32))] []))
                    refine Go.by (fun _ => XS.aload Xj33.here hx rfl (hb hby at_275) rfl rfl) ?_
                    show Go p.tables e below _ (Tj33.setTop (mkF m 277 #[.val (.int p0), .val (.int p1), .val (.long p2), .second, .val (.long p3), .second, .val (.int p4), .val (.int k1), .val (.int n1), .val (.int u1), .val (.int k2), .val (.int n2), .val (.int u2), .val (.long w2), .second, .val (.ref b5), .val (.int (((p4.toUInt32 >>> ((4 : Int32) &&& 31).toUInt32).toInt32) &&& (7 : Int32))), .val (.ref b23), .val (.int (0 : Int32))] [(.ref b5)]))
                    refine Go.by (fun _ => XS.aload Xj33.here hx rfl (hb hby at_277) rfl rfl) ?_
                    show Go p.tables e below _ (Tj33.setTop (mkF m 279 #[.val (.int p0), .val (.int p1), .val (.long p2), .second, .val (.long p3), .second, .val (.int p4), .val (.int k1), .val (.int n1), .val (.int u1), .val (.int k2), .val (.int n2), .val (.int u2), .val (.long w2), .second, .val (.ref b5), .val (.int (((p4.toUInt32 >>> ((4 : Int32) &&& 31).toUInt32).toInt32) &&& (7 : Int32))), .val (.ref b23), .val (.int (0 : Int32))] [(.ref b23), (.ref b5)]))
                    obtain ⟨v36, T36, h36, X36, q36, st36⟩ := Xj33.callV hx hZ (y := (⟨"com/example/preference_store/preferencestore/storage/Entry", "equals", "(Ljava/lang/Object;)Z"⟩ : MethodName)) (z := (⟨"com/example/preference_store/preferencestore/storage/Entry", "equals", "(Ljava/lang/Object;)Z"⟩ : MethodName)) hown (tw hw 41 rfl) (tw hw 42 rfl) (notFace_of_selects (args := #[]) (mvT hZ (tw hw 44 rfl))) (tw hw 44 rfl) (tw hw 43 rfl) (tw hw 2 rfl) (tw hw 45 rfl) (by decide) (rm7e l Z a0 hw [] b5 b23 cs r7 r9 r11 r25 r27 r29 d7 d9 d11 d25 d27 d29 kc7 kc9 kc11 kc25 kc27 kc29 (k1.toInt8.toInt32) (n1.toInt8.toInt32) (u1.toInt8.toInt32) (k2.toInt8.toInt32) (n2.toInt8.toInt32) (u2.toInt8.toInt32) p2 w2 h31 n0 Zs32 f32_545 S_CS0 hcs f32_546 f32_559 f32_560 f32_561 f32_562 f32_547 f32_548 f32_549 f32_550 f32_551 f32_552 f32_553 f32_554 f32_555 f32_556 f32_557 f32_558 Ex31 Fkind31 Fname31 Fvalue31 Fver31 f32_564 f32_565 f32_566 f32_567 f32_568 f32_569 f32_570 f32_571 f32_572 f32_573 f32_574 f32_575 (fun q => absurd q ne_r7_r25) (fun q => absurd q ne_r9_r27) (fun q => absurd q ne_r11_r29)) f32_546 (g := (mkF m 279 #[.val (.int p0), .val (.int p1), .val (.long p2), .second, .val (.long p3), .second, .val (.int p4), .val (.int k1), .val (.int n1), .val (.int u1), .val (.int k2), .val (.int n2), .val (.int u2), .val (.long w2), .second, .val (.ref b5), .val (.int (((p4.toUInt32 >>> ((4 : Int32) &&& 31).toUInt32).toInt32) &&& (7 : Int32))), .val (.ref b23), .val (.int (0 : Int32))] [(.ref b23), (.ref b5)])) rfl (by rw [hml]; rfl) (argsL := [(.ref b23)]) (rest := []) (lenOf pd4 rfl) rfl (hb hby at_279) rfl (by decide) (Nat.le_of_ble_eq_true rfl) (k' := 14) (n' := 38) rfl rfl (by decide) (by decide)
                    refine Go.by st36 ?_
                    rcases q36 with ⟨⟨he36, rfl⟩ | ⟨he36, rfl⟩, rfl⟩
                    · skip
                      show Go p.tables e below _ (T36.setTop (mkF m 282 #[.val (.int p0), .val (.int p1), .val (.long p2), .second, .val (.long p3), .second, .val (.int p4), .val (.int k1), .val (.int n1), .val (.int u1), .val (.int k2), .val (.int n2), .val (.int u2), .val (.long w2), .second, .val (.ref b5), .val (.int (((p4.toUInt32 >>> ((4 : Int32) &&& 31).toUInt32).toInt32) &&& (7 : Int32))), .val (.ref b23), .val (.int (0 : Int32))] [(.int (1 : Int32))]))
                      refine Go.by (fun _ => XS.iload X36.here hx rfl (hb hby at_282) rfl) ?_
                      show Go p.tables e below _ (T36.setTop (mkF m 284 #[.val (.int p0), .val (.int p1), .val (.long p2), .second, .val (.long p3), .second, .val (.int p4), .val (.int k1), .val (.int n1), .val (.int u1), .val (.int k2), .val (.int n2), .val (.int u2), .val (.long w2), .second, .val (.ref b5), .val (.int (((p4.toUInt32 >>> ((4 : Int32) &&& 31).toUInt32).toInt32) &&& (7 : Int32))), .val (.ref b23), .val (.int (0 : Int32))] [(.int (0 : Int32)), (.int (1 : Int32))]))
                      refine Go.by (fun _ => XS.icmpYes X36.here hx rfl (pc0 := 284) (pc' := 303) rfl (hb hby at_284) rfl (feq (by decide)).2 (by decide) (by decide)) ?_
                      show Go p.tables e below _ (T36.setTop (mkF m 303 #[.val (.int p0), .val (.int p1), .val (.long p2), .second, .val (.long p3), .second, .val (.int p4), .val (.int k1), .val (.int n1), .val (.int u1), .val (.int k2), .val (.int n2), .val (.int u2), .val (.long w2), .second, .val (.ref b5), .val (.int (((p4.toUInt32 >>> ((4 : Int32) &&& 31).toUInt32).toInt32) &&& (7 : Int32))), .val (.ref b23), .val (.int (0 : Int32))] []))
                      refine Go.by (fun _ => XS.iconst X36.here hx rfl (hb hby at_303)) ?_
                      show Go p.tables e below _ (T36.setTop (mkF m 304 #[.val (.int p0), .val (.int p1), .val (.long p2), .second, .val (.long p3), .second, .val (.int p4), .val (.int k1), .val (.int n1), .val (.int u1), .val (.int k2), .val (.int n2), .val (.int u2), .val (.long w2), .second, .val (.ref b5), .val (.int (((p4.toUInt32 >>> ((4 : Int32) &&& 31).toUInt32).toInt32) &&& (7 : Int32))), .val (.ref b23), .val (.int (0 : Int32))] [(.int (0 : Int32))]))
                      refine Go.retN X36 hx hlk (z' := (0 : Int32)) hret (by simp) (hb hby at_304) rfl (by decide) (by decide) ?_
                      exfalso
                      first | exact he36 ⟨(own_byte hr_k1 hr_k2).mpr hP.1, (own_byte hr_n1 hr_n2).mpr hP.2.1, (own_byte hr_u1 hr_u2).mpr hP.2.2.1, hP.2.2.2⟩ | exact he36 ⟨(own_byte hr_k2 hr_k1).mpr hP.1.symm, (own_byte hr_n2 hr_n1).mpr hP.2.1.symm, (own_byte hr_u2 hr_u1).mpr hP.2.2.1.symm, hP.2.2.2.symm⟩ | exact hP ⟨(own_byte hr_k1 hr_k2).mp he36.1, (own_byte hr_n1 hr_n2).mp he36.2.1, (own_byte hr_u1 hr_u2).mp he36.2.2.1, he36.2.2.2⟩ | exact hP ⟨((own_byte hr_k2 hr_k1).mp he36.1).symm, ((own_byte hr_n2 hr_n1).mp he36.2.1).symm, ((own_byte hr_u2 hr_u1).mp he36.2.2.1).symm, he36.2.2.2.symm⟩
                    · skip
                      show Go p.tables e below _ (T36.setTop (mkF m 282 #[.val (.int p0), .val (.int p1), .val (.long p2), .second, .val (.long p3), .second, .val (.int p4), .val (.int k1), .val (.int n1), .val (.int u1), .val (.int k2), .val (.int n2), .val (.int u2), .val (.long w2), .second, .val (.ref b5), .val (.int (((p4.toUInt32 >>> ((4 : Int32) &&& 31).toUInt32).toInt32) &&& (7 : Int32))), .val (.ref b23), .val (.int (0 : Int32))] [(.int (0 : Int32))]))
                      refine Go.by (fun _ => XS.iload X36.here hx rfl (hb hby at_282) rfl) ?_
                      show Go p.tables e below _ (T36.setTop (mkF m 284 #[.val (.int p0), .val (.int p1), .val (.long p2), .second, .val (.long p3), .second, .val (.int p4), .val (.int k1), .val (.int n1), .val (.int u1), .val (.int k2), .val (.int n2), .val (.int u2), .val (.long w2), .second, .val (.ref b5), .val (.int (((p4.toUInt32 >>> ((4 : Int32) &&& 31).toUInt32).toInt32) &&& (7 : Int32))), .val (.ref b23), .val (.int (0 : Int32))] [(.int (0 : Int32)), (.int (0 : Int32))]))
                      refine Go.by (fun _ => XS.icmpNo X36.here hx rfl (hb hby at_284) rfl (teq (by decide)).2) ?_
                      show Go p.tables e below _ (T36.setTop (mkF m 287 #[.val (.int p0), .val (.int p1), .val (.long p2), .second, .val (.long p3), .second, .val (.int p4), .val (.int k1), .val (.int n1), .val (.int u1), .val (.int k2), .val (.int n2), .val (.int u2), .val (.long w2), .second, .val (.ref b5), .val (.int (((p4.toUInt32 >>> ((4 : Int32) &&& 31).toUInt32).toInt32) &&& (7 : Int32))), .val (.ref b23), .val (.int (0 : Int32))] []))
                      refine Go.by (fun _ => XS.aload X36.here hx rfl (hb hby at_287) rfl rfl) ?_
                      show Go p.tables e below _ (T36.setTop (mkF m 289 #[.val (.int p0), .val (.int p1), .val (.long p2), .second, .val (.long p3), .second, .val (.int p4), .val (.int k1), .val (.int n1), .val (.int u1), .val (.int k2), .val (.int n2), .val (.int u2), .val (.long w2), .second, .val (.ref b5), .val (.int (((p4.toUInt32 >>> ((4 : Int32) &&& 31).toUInt32).toInt32) &&& (7 : Int32))), .val (.ref b23), .val (.int (0 : Int32))] [(.ref b23)]))
                      refine Go.by (fun _ => XS.aload X36.here hx rfl (hb hby at_289) rfl rfl) ?_
                      show Go p.tables e below _ (T36.setTop (mkF m 291 #[.val (.int p0), .val (.int p1), .val (.long p2), .second, .val (.long p3), .second, .val (.int p4), .val (.int k1), .val (.int n1), .val (.int u1), .val (.int k2), .val (.int n2), .val (.int u2), .val (.long w2), .second, .val (.ref b5), .val (.int (((p4.toUInt32 >>> ((4 : Int32) &&& 31).toUInt32).toInt32) &&& (7 : Int32))), .val (.ref b23), .val (.int (0 : Int32))] [(.ref b5), (.ref b23)]))
                      obtain ⟨v37, T37, h37, X37, q37, st37⟩ := X36.callV hx hZ (y := (⟨"com/example/preference_store/preferencestore/storage/Entry", "equals", "(Ljava/lang/Object;)Z"⟩ : MethodName)) (z := (⟨"com/example/preference_store/preferencestore/storage/Entry", "equals", "(Ljava/lang/Object;)Z"⟩ : MethodName)) hown (tw hw 41 rfl) (tw hw 42 rfl) (notFace_of_selects (args := #[]) (mvT hZ (tw hw 44 rfl))) (tw hw 44 rfl) (tw hw 43 rfl) (tw hw 2 rfl) (tw hw 45 rfl) (by decide) (rm7e l Z a0 hw [] b23 b5 cs r25 r27 r29 r7 r9 r11 d25 d27 d29 d7 d9 d11 kc25 kc27 kc29 kc7 kc9 kc11 (k2.toInt8.toInt32) (n2.toInt8.toInt32) (u2.toInt8.toInt32) (k1.toInt8.toInt32) (n1.toInt8.toInt32) (u1.toInt8.toInt32) w2 p2 h31 n0 Zs32 f32_545 S_CS0 hcs Ex31 Fkind31 Fname31 Fvalue31 Fver31 f32_564 f32_565 f32_566 f32_567 f32_568 f32_569 f32_570 f32_571 f32_572 f32_573 f32_574 f32_575 f32_546 f32_559 f32_560 f32_561 f32_562 f32_547 f32_548 f32_549 f32_550 f32_551 f32_552 f32_553 f32_554 f32_555 f32_556 f32_557 f32_558 (fun q => absurd q (Ne.symm ne_r7_r25)) (fun q => absurd q (Ne.symm ne_r9_r27)) (fun q => absurd q (Ne.symm ne_r11_r29))) Ex31 (g := (mkF m 291 #[.val (.int p0), .val (.int p1), .val (.long p2), .second, .val (.long p3), .second, .val (.int p4), .val (.int k1), .val (.int n1), .val (.int u1), .val (.int k2), .val (.int n2), .val (.int u2), .val (.long w2), .second, .val (.ref b5), .val (.int (((p4.toUInt32 >>> ((4 : Int32) &&& 31).toUInt32).toInt32) &&& (7 : Int32))), .val (.ref b23), .val (.int (0 : Int32))] [(.ref b5), (.ref b23)])) rfl (by rw [hml]; rfl) (argsL := [(.ref b5)]) (rest := []) (lenOf pd4 rfl) rfl (hb hby at_291) rfl (by decide) (Nat.le_of_ble_eq_true rfl) (k' := 14) (n' := 38) rfl rfl (by decide) (by decide)
                      refine Go.by st37 ?_
                      rcases q37 with ⟨⟨he37, rfl⟩ | ⟨he37, rfl⟩, rfl⟩
                      · skip
                        show Go p.tables e below _ (T37.setTop (mkF m 294 #[.val (.int p0), .val (.int p1), .val (.long p2), .second, .val (.long p3), .second, .val (.int p4), .val (.int k1), .val (.int n1), .val (.int u1), .val (.int k2), .val (.int n2), .val (.int u2), .val (.long w2), .second, .val (.ref b5), .val (.int (((p4.toUInt32 >>> ((4 : Int32) &&& 31).toUInt32).toInt32) &&& (7 : Int32))), .val (.ref b23), .val (.int (0 : Int32))] [(.int (1 : Int32))]))
                        refine Go.by (fun _ => XS.iload X37.here hx rfl (hb hby at_294) rfl) ?_
                        show Go p.tables e below _ (T37.setTop (mkF m 296 #[.val (.int p0), .val (.int p1), .val (.long p2), .second, .val (.long p3), .second, .val (.int p4), .val (.int k1), .val (.int n1), .val (.int u1), .val (.int k2), .val (.int n2), .val (.int u2), .val (.long w2), .second, .val (.ref b5), .val (.int (((p4.toUInt32 >>> ((4 : Int32) &&& 31).toUInt32).toInt32) &&& (7 : Int32))), .val (.ref b23), .val (.int (0 : Int32))] [(.int (0 : Int32)), (.int (1 : Int32))]))
                        refine Go.by (fun _ => XS.icmpYes X37.here hx rfl (pc0 := 296) (pc' := 303) rfl (hb hby at_296) rfl (feq (by decide)).2 (by decide) (by decide)) ?_
                        show Go p.tables e below _ (T37.setTop (mkF m 303 #[.val (.int p0), .val (.int p1), .val (.long p2), .second, .val (.long p3), .second, .val (.int p4), .val (.int k1), .val (.int n1), .val (.int u1), .val (.int k2), .val (.int n2), .val (.int u2), .val (.long w2), .second, .val (.ref b5), .val (.int (((p4.toUInt32 >>> ((4 : Int32) &&& 31).toUInt32).toInt32) &&& (7 : Int32))), .val (.ref b23), .val (.int (0 : Int32))] []))
                        refine Go.by (fun _ => XS.iconst X37.here hx rfl (hb hby at_303)) ?_
                        show Go p.tables e below _ (T37.setTop (mkF m 304 #[.val (.int p0), .val (.int p1), .val (.long p2), .second, .val (.long p3), .second, .val (.int p4), .val (.int k1), .val (.int n1), .val (.int u1), .val (.int k2), .val (.int n2), .val (.int u2), .val (.long w2), .second, .val (.ref b5), .val (.int (((p4.toUInt32 >>> ((4 : Int32) &&& 31).toUInt32).toInt32) &&& (7 : Int32))), .val (.ref b23), .val (.int (0 : Int32))] [(.int (0 : Int32))]))
                        refine Go.retN X37 hx hlk (z' := (0 : Int32)) hret (by simp) (hb hby at_304) rfl (by decide) (by decide) ?_
                        exfalso
                        first | exact he37 ⟨(own_byte hr_k1 hr_k2).mpr hP.1, (own_byte hr_n1 hr_n2).mpr hP.2.1, (own_byte hr_u1 hr_u2).mpr hP.2.2.1, hP.2.2.2⟩ | exact he37 ⟨(own_byte hr_k2 hr_k1).mpr hP.1.symm, (own_byte hr_n2 hr_n1).mpr hP.2.1.symm, (own_byte hr_u2 hr_u1).mpr hP.2.2.1.symm, hP.2.2.2.symm⟩ | exact hP ⟨(own_byte hr_k1 hr_k2).mp he37.1, (own_byte hr_n1 hr_n2).mp he37.2.1, (own_byte hr_u1 hr_u2).mp he37.2.2.1, he37.2.2.2⟩ | exact hP ⟨((own_byte hr_k2 hr_k1).mp he37.1).symm, ((own_byte hr_n2 hr_n1).mp he37.2.1).symm, ((own_byte hr_u2 hr_u1).mp he37.2.2.1).symm, he37.2.2.2.symm⟩
                      · skip
                        show Go p.tables e below _ (T37.setTop (mkF m 294 #[.val (.int p0), .val (.int p1), .val (.long p2), .second, .val (.long p3), .second, .val (.int p4), .val (.int k1), .val (.int n1), .val (.int u1), .val (.int k2), .val (.int n2), .val (.int u2), .val (.long w2), .second, .val (.ref b5), .val (.int (((p4.toUInt32 >>> ((4 : Int32) &&& 31).toUInt32).toInt32) &&& (7 : Int32))), .val (.ref b23), .val (.int (0 : Int32))] [(.int (0 : Int32))]))
                        refine Go.by (fun _ => XS.iload X37.here hx rfl (hb hby at_294) rfl) ?_
                        show Go p.tables e below _ (T37.setTop (mkF m 296 #[.val (.int p0), .val (.int p1), .val (.long p2), .second, .val (.long p3), .second, .val (.int p4), .val (.int k1), .val (.int n1), .val (.int u1), .val (.int k2), .val (.int n2), .val (.int u2), .val (.long w2), .second, .val (.ref b5), .val (.int (((p4.toUInt32 >>> ((4 : Int32) &&& 31).toUInt32).toInt32) &&& (7 : Int32))), .val (.ref b23), .val (.int (0 : Int32))] [(.int (0 : Int32)), (.int (0 : Int32))]))
                        refine Go.by (fun _ => XS.icmpNo X37.here hx rfl (hb hby at_296) rfl (teq (by decide)).2) ?_
                        show Go p.tables e below _ (T37.setTop (mkF m 299 #[.val (.int p0), .val (.int p1), .val (.long p2), .second, .val (.long p3), .second, .val (.int p4), .val (.int k1), .val (.int n1), .val (.int u1), .val (.int k2), .val (.int n2), .val (.int u2), .val (.long w2), .second, .val (.ref b5), .val (.int (((p4.toUInt32 >>> ((4 : Int32) &&& 31).toUInt32).toInt32) &&& (7 : Int32))), .val (.ref b23), .val (.int (0 : Int32))] []))
                        refine Go.by (fun _ => XS.iconst X37.here hx rfl (hb hby at_299)) ?_
                        show Go p.tables e below _ (T37.setTop (mkF m 300 #[.val (.int p0), .val (.int p1), .val (.long p2), .second, .val (.long p3), .second, .val (.int p4), .val (.int k1), .val (.int n1), .val (.int u1), .val (.int k2), .val (.int n2), .val (.int u2), .val (.long w2), .second, .val (.ref b5), .val (.int (((p4.toUInt32 >>> ((4 : Int32) &&& 31).toUInt32).toInt32) &&& (7 : Int32))), .val (.ref b23), .val (.int (0 : Int32))] [(.int (1 : Int32))]))
                        refine Go.by (fun _ => XS.goto X37.here hx rfl (pc0 := 300) (pc' := 304) rfl (hb hby at_300) (by decide) (by decide)) ?_
                        show Go p.tables e below _ (T37.setTop (mkF m 304 #[.val (.int p0), .val (.int p1), .val (.long p2), .second, .val (.long p3), .second, .val (.int p4), .val (.int k1), .val (.int n1), .val (.int u1), .val (.int k2), .val (.int n2), .val (.int u2), .val (.long w2), .second, .val (.ref b5), .val (.int (((p4.toUInt32 >>> ((4 : Int32) &&& 31).toUInt32).toInt32) &&& (7 : Int32))), .val (.ref b23), .val (.int (0 : Int32))] [(.int (1 : Int32))]))
                        exact Go.retN X37 hx hlk (z' := (1 : Int32)) hret (by simp) (hb hby at_304) rfl (by decide) (by decide) rfl
                refine Go.by (fun _ => XS.iload X31.here hx rfl (hb hby at_240) rfl) ?_
                show Go p.tables e below _ (T31.setTop (mkF m 242 #[.val (.int p0), .val (.int p1), .val (.long p2), .second, .val (.long p3), .second, .val (.int p4), .val (.int k1), .val (.int n1), .val (.int u1), .val (.int k2), .val (.int n2), .val (.int u2), .val (.long w2), .second, .val (.ref b5), .val (.int (((p4.toUInt32 >>> ((4 : Int32) &&& 31).toUInt32).toInt32) &&& (7 : Int32))), .val (.ref b23), .unset] [(.int k1)]))
                refine Go.by (fun _ => XS.iload X31.here hx rfl (hb hby at_242) rfl) ?_
                show Go p.tables e below _ (T31.setTop (mkF m 244 #[.val (.int p0), .val (.int p1), .val (.long p2), .second, .val (.long p3), .second, .val (.int p4), .val (.int k1), .val (.int n1), .val (.int u1), .val (.int k2), .val (.int n2), .val (.int u2), .val (.long w2), .second, .val (.ref b5), .val (.int (((p4.toUInt32 >>> ((4 : Int32) &&& 31).toUInt32).toInt32) &&& (7 : Int32))), .val (.ref b23), .unset] [(.int k2), (.int k1)]))
                by_cases hc244_38 : k1 = k2
                · skip
                  refine Go.by (fun _ => XS.icmpNo X31.here hx rfl (hb hby at_244) rfl (teq hc244_38).2) ?_
                  show Go p.tables e below _ (T31.setTop (mkF m 247 #[.val (.int p0), .val (.int p1), .val (.long p2), .second, .val (.long p3), .second, .val (.int p4), .val (.int k1), .val (.int n1), .val (.int u1), .val (.int k2), .val (.int n2), .val (.int u2), .val (.long w2), .second, .val (.ref b5), .val (.int (((p4.toUInt32 >>> ((4 : Int32) &&& 31).toUInt32).toInt32) &&& (7 : Int32))), .val (.ref b23), .unset] []))
                  refine Go.by (fun _ => XS.iload X31.here hx rfl (hb hby at_247) rfl) ?_
                  show Go p.tables e below _ (T31.setTop (mkF m 249 #[.val (.int p0), .val (.int p1), .val (.long p2), .second, .val (.long p3), .second, .val (.int p4), .val (.int k1), .val (.int n1), .val (.int u1), .val (.int k2), .val (.int n2), .val (.int u2), .val (.long w2), .second, .val (.ref b5), .val (.int (((p4.toUInt32 >>> ((4 : Int32) &&& 31).toUInt32).toInt32) &&& (7 : Int32))), .val (.ref b23), .unset] [(.int n1)]))
                  refine Go.by (fun _ => XS.iload X31.here hx rfl (hb hby at_249) rfl) ?_
                  show Go p.tables e below _ (T31.setTop (mkF m 251 #[.val (.int p0), .val (.int p1), .val (.long p2), .second, .val (.long p3), .second, .val (.int p4), .val (.int k1), .val (.int n1), .val (.int u1), .val (.int k2), .val (.int n2), .val (.int u2), .val (.long w2), .second, .val (.ref b5), .val (.int (((p4.toUInt32 >>> ((4 : Int32) &&& 31).toUInt32).toInt32) &&& (7 : Int32))), .val (.ref b23), .unset] [(.int n2), (.int n1)]))
                  by_cases hc251_39 : n1 = n2
                  · skip
                    refine Go.by (fun _ => XS.icmpNo X31.here hx rfl (hb hby at_251) rfl (teq hc251_39).2) ?_
                    show Go p.tables e below _ (T31.setTop (mkF m 254 #[.val (.int p0), .val (.int p1), .val (.long p2), .second, .val (.long p3), .second, .val (.int p4), .val (.int k1), .val (.int n1), .val (.int u1), .val (.int k2), .val (.int n2), .val (.int u2), .val (.long w2), .second, .val (.ref b5), .val (.int (((p4.toUInt32 >>> ((4 : Int32) &&& 31).toUInt32).toInt32) &&& (7 : Int32))), .val (.ref b23), .unset] []))
                    refine Go.by (fun _ => XS.iload X31.here hx rfl (hb hby at_254) rfl) ?_
                    show Go p.tables e below _ (T31.setTop (mkF m 256 #[.val (.int p0), .val (.int p1), .val (.long p2), .second, .val (.long p3), .second, .val (.int p4), .val (.int k1), .val (.int n1), .val (.int u1), .val (.int k2), .val (.int n2), .val (.int u2), .val (.long w2), .second, .val (.ref b5), .val (.int (((p4.toUInt32 >>> ((4 : Int32) &&& 31).toUInt32).toInt32) &&& (7 : Int32))), .val (.ref b23), .unset] [(.int u1)]))
                    refine Go.by (fun _ => XS.iload X31.here hx rfl (hb hby at_256) rfl) ?_
                    show Go p.tables e below _ (T31.setTop (mkF m 258 #[.val (.int p0), .val (.int p1), .val (.long p2), .second, .val (.long p3), .second, .val (.int p4), .val (.int k1), .val (.int n1), .val (.int u1), .val (.int k2), .val (.int n2), .val (.int u2), .val (.long w2), .second, .val (.ref b5), .val (.int (((p4.toUInt32 >>> ((4 : Int32) &&& 31).toUInt32).toInt32) &&& (7 : Int32))), .val (.ref b23), .unset] [(.int u2), (.int u1)]))
                    by_cases hc258_40 : u1 = u2
                    · skip
                      refine Go.by (fun _ => XS.icmpNo X31.here hx rfl (hb hby at_258) rfl (teq hc258_40).2) ?_
                      show Go p.tables e below _ (T31.setTop (mkF m 261 #[.val (.int p0), .val (.int p1), .val (.long p2), .second, .val (.long p3), .second, .val (.int p4), .val (.int k1), .val (.int n1), .val (.int u1), .val (.int k2), .val (.int n2), .val (.int u2), .val (.long w2), .second, .val (.ref b5), .val (.int (((p4.toUInt32 >>> ((4 : Int32) &&& 31).toUInt32).toInt32) &&& (7 : Int32))), .val (.ref b23), .unset] []))
                      refine Go.by (fun _ => XS.lloadN X31.here hx rfl (hb hby at_261) rfl) ?_
                      show Go p.tables e below _ (T31.setTop (mkF m 262 #[.val (.int p0), .val (.int p1), .val (.long p2), .second, .val (.long p3), .second, .val (.int p4), .val (.int k1), .val (.int n1), .val (.int u1), .val (.int k2), .val (.int n2), .val (.int u2), .val (.long w2), .second, .val (.ref b5), .val (.int (((p4.toUInt32 >>> ((4 : Int32) &&& 31).toUInt32).toInt32) &&& (7 : Int32))), .val (.ref b23), .unset] [(.long p2)]))
                      refine Go.by (fun _ => XS.lload X31.here hx rfl (hb hby at_262) rfl) ?_
                      show Go p.tables e below _ (T31.setTop (mkF m 264 #[.val (.int p0), .val (.int p1), .val (.long p2), .second, .val (.long p3), .second, .val (.int p4), .val (.int k1), .val (.int n1), .val (.int u1), .val (.int k2), .val (.int n2), .val (.int u2), .val (.long w2), .second, .val (.ref b5), .val (.int (((p4.toUInt32 >>> ((4 : Int32) &&& 31).toUInt32).toInt32) &&& (7 : Int32))), .val (.ref b23), .unset] [(.long w2), (.long p2)]))
                      refine Go.by (fun _ => XS.lcmp X31.here hx rfl (hb hby at_264) rfl) ?_
                      show Go p.tables e below _ (T31.setTop (mkF m 265 #[.val (.int p0), .val (.int p1), .val (.long p2), .second, .val (.long p3), .second, .val (.int p4), .val (.int k1), .val (.int n1), .val (.int u1), .val (.int k2), .val (.int n2), .val (.int u2), .val (.long w2), .second, .val (.ref b5), .val (.int (((p4.toUInt32 >>> ((4 : Int32) &&& 31).toUInt32).toInt32) &&& (7 : Int32))), .val (.ref b23), .unset] [(.int (lcmpW p2 w2))]))
                      by_cases hc265_41 : (lcmpW p2 w2) = (0 : Int32)
                      · skip
                        refine Go.by (fun _ => XS.ifNo X31.here hx rfl (hb hby at_265) rfl ((if0 _ _).trans (teq hc265_41).2)) ?_
                        show Go p.tables e below _ (T31.setTop (mkF m 268 #[.val (.int p0), .val (.int p1), .val (.long p2), .second, .val (.long p3), .second, .val (.int p4), .val (.int k1), .val (.int n1), .val (.int u1), .val (.int k2), .val (.int n2), .val (.int u2), .val (.long w2), .second, .val (.ref b5), .val (.int (((p4.toUInt32 >>> ((4 : Int32) &&& 31).toUInt32).toInt32) &&& (7 : Int32))), .val (.ref b23), .unset] []))
                        refine Go.by (fun _ => XS.iconst X31.here hx rfl (hb hby at_268)) ?_
                        show Go p.tables e below _ (T31.setTop (mkF m 269 #[.val (.int p0), .val (.int p1), .val (.long p2), .second, .val (.long p3), .second, .val (.int p4), .val (.int k1), .val (.int n1), .val (.int u1), .val (.int k2), .val (.int n2), .val (.int u2), .val (.long w2), .second, .val (.ref b5), .val (.int (((p4.toUInt32 >>> ((4 : Int32) &&& 31).toUInt32).toInt32) &&& (7 : Int32))), .val (.ref b23), .unset] [(.int (1 : Int32))]))
                        refine Go.by (fun _ => XS.goto X31.here hx rfl (pc0 := 269) (pc' := 273) rfl (hb hby at_269) (by decide) (by decide)) ?_
                        show Go p.tables e below _ (T31.setTop (mkF m 273 #[.val (.int p0), .val (.int p1), .val (.long p2), .second, .val (.long p3), .second, .val (.int p4), .val (.int k1), .val (.int n1), .val (.int u1), .val (.int k2), .val (.int n2), .val (.int u2), .val (.long w2), .second, .val (.ref b5), .val (.int (((p4.toUInt32 >>> ((4 : Int32) &&& 31).toUInt32).toInt32) &&& (7 : Int32))), .val (.ref b23), .unset] [(.int (1 : Int32))]))
                        exact J33 _ X31 _ (Or.inl ⟨rfl, (⟨hc244_38, hc251_39, hc258_40, (lw_eq _ _).mp hc265_41⟩)⟩)
                      · skip
                        refine Go.by (fun _ => XS.ifYes X31.here hx rfl (pc0 := 265) (pc' := 272) rfl (hb hby at_265) rfl ((if0 _ _).trans (feq hc265_41).2) (by decide) (by decide)) ?_
                        show Go p.tables e below _ (T31.setTop (mkF m 272 #[.val (.int p0), .val (.int p1), .val (.long p2), .second, .val (.long p3), .second, .val (.int p4), .val (.int k1), .val (.int n1), .val (.int u1), .val (.int k2), .val (.int n2), .val (.int u2), .val (.long w2), .second, .val (.ref b5), .val (.int (((p4.toUInt32 >>> ((4 : Int32) &&& 31).toUInt32).toInt32) &&& (7 : Int32))), .val (.ref b23), .unset] []))
                        refine Go.by (fun _ => XS.iconst X31.here hx rfl (hb hby at_272)) ?_
                        show Go p.tables e below _ (T31.setTop (mkF m 273 #[.val (.int p0), .val (.int p1), .val (.long p2), .second, .val (.long p3), .second, .val (.int p4), .val (.int k1), .val (.int n1), .val (.int u1), .val (.int k2), .val (.int n2), .val (.int u2), .val (.long w2), .second, .val (.ref b5), .val (.int (((p4.toUInt32 >>> ((4 : Int32) &&& 31).toUInt32).toInt32) &&& (7 : Int32))), .val (.ref b23), .unset] [(.int (0 : Int32))]))
                        exact J33 _ X31 _ (Or.inr ⟨rfl, (fun q => hc265_41 ((lw_eq _ _).mpr q.2.2.2))⟩)
                    · skip
                      refine Go.by (fun _ => XS.icmpYes X31.here hx rfl (pc0 := 258) (pc' := 272) rfl (hb hby at_258) rfl (feq hc258_40).2 (by decide) (by decide)) ?_
                      show Go p.tables e below _ (T31.setTop (mkF m 272 #[.val (.int p0), .val (.int p1), .val (.long p2), .second, .val (.long p3), .second, .val (.int p4), .val (.int k1), .val (.int n1), .val (.int u1), .val (.int k2), .val (.int n2), .val (.int u2), .val (.long w2), .second, .val (.ref b5), .val (.int (((p4.toUInt32 >>> ((4 : Int32) &&& 31).toUInt32).toInt32) &&& (7 : Int32))), .val (.ref b23), .unset] []))
                      refine Go.by (fun _ => XS.iconst X31.here hx rfl (hb hby at_272)) ?_
                      show Go p.tables e below _ (T31.setTop (mkF m 273 #[.val (.int p0), .val (.int p1), .val (.long p2), .second, .val (.long p3), .second, .val (.int p4), .val (.int k1), .val (.int n1), .val (.int u1), .val (.int k2), .val (.int n2), .val (.int u2), .val (.long w2), .second, .val (.ref b5), .val (.int (((p4.toUInt32 >>> ((4 : Int32) &&& 31).toUInt32).toInt32) &&& (7 : Int32))), .val (.ref b23), .unset] [(.int (0 : Int32))]))
                      exact J33 _ X31 _ (Or.inr ⟨rfl, (fun q => hc258_40 q.2.2.1)⟩)
                  · skip
                    refine Go.by (fun _ => XS.icmpYes X31.here hx rfl (pc0 := 251) (pc' := 272) rfl (hb hby at_251) rfl (feq hc251_39).2 (by decide) (by decide)) ?_
                    show Go p.tables e below _ (T31.setTop (mkF m 272 #[.val (.int p0), .val (.int p1), .val (.long p2), .second, .val (.long p3), .second, .val (.int p4), .val (.int k1), .val (.int n1), .val (.int u1), .val (.int k2), .val (.int n2), .val (.int u2), .val (.long w2), .second, .val (.ref b5), .val (.int (((p4.toUInt32 >>> ((4 : Int32) &&& 31).toUInt32).toInt32) &&& (7 : Int32))), .val (.ref b23), .unset] []))
                    refine Go.by (fun _ => XS.iconst X31.here hx rfl (hb hby at_272)) ?_
                    show Go p.tables e below _ (T31.setTop (mkF m 273 #[.val (.int p0), .val (.int p1), .val (.long p2), .second, .val (.long p3), .second, .val (.int p4), .val (.int k1), .val (.int n1), .val (.int u1), .val (.int k2), .val (.int n2), .val (.int u2), .val (.long w2), .second, .val (.ref b5), .val (.int (((p4.toUInt32 >>> ((4 : Int32) &&& 31).toUInt32).toInt32) &&& (7 : Int32))), .val (.ref b23), .unset] [(.int (0 : Int32))]))
                    exact J33 _ X31 _ (Or.inr ⟨rfl, (fun q => hc251_39 q.2.1)⟩)
                · skip
                  refine Go.by (fun _ => XS.icmpYes X31.here hx rfl (pc0 := 244) (pc' := 272) rfl (hb hby at_244) rfl (feq hc244_38).2 (by decide) (by decide)) ?_
                  show Go p.tables e below _ (T31.setTop (mkF m 272 #[.val (.int p0), .val (.int p1), .val (.long p2), .second, .val (.long p3), .second, .val (.int p4), .val (.int k1), .val (.int n1), .val (.int u1), .val (.int k2), .val (.int n2), .val (.int u2), .val (.long w2), .second, .val (.ref b5), .val (.int (((p4.toUInt32 >>> ((4 : Int32) &&& 31).toUInt32).toInt32) &&& (7 : Int32))), .val (.ref b23), .unset] []))
                  refine Go.by (fun _ => XS.iconst X31.here hx rfl (hb hby at_272)) ?_
                  show Go p.tables e below _ (T31.setTop (mkF m 273 #[.val (.int p0), .val (.int p1), .val (.long p2), .second, .val (.long p3), .second, .val (.int p4), .val (.int k1), .val (.int n1), .val (.int u1), .val (.int k2), .val (.int n2), .val (.int u2), .val (.long w2), .second, .val (.ref b5), .val (.int (((p4.toUInt32 >>> ((4 : Int32) &&& 31).toUInt32).toInt32) &&& (7 : Int32))), .val (.ref b23), .unset] [(.int (0 : Int32))]))
                  exact J33 _ X31 _ (Or.inr ⟨rfl, (fun q => hc244_38 q.1)⟩)
        by_cases hc101_42 : (p4 &&& (8 : Int32)) = (0 : Int32)
        · skip
          refine Go.by (fun _ => XS.ifYes Xj3.here hx rfl (pc0 := 101) (pc' := 108) rfl (hb hby at_101) rfl ((if0 _ _).trans (teq hc101_42).1) (by decide) (by decide)) ?_
          show Go p.tables e below _ (Tj3.setTop (mkF m 108 #[.val (.int p0), .val (.int p1), .val (.long p2), .second, .val (.long p3), .second, .val (.int p4), .val (.int k1), .val (.int n1), .val (.int u1), .val (.int k2), .val (.int n2), .val (.int u2), .unset, .unset, .unset, .unset, .unset, .unset] []))
          refine Go.by (fun _ => XS.lload Xj3.here hx rfl (hb hby at_108) rfl) ?_
          show Go p.tables e below _ (Tj3.setTop (mkF m 110 #[.val (.int p0), .val (.int p1), .val (.long p2), .second, .val (.long p3), .second, .val (.int p4), .val (.int k1), .val (.int n1), .val (.int u1), .val (.int k2), .val (.int n2), .val (.int u2), .unset, .unset, .unset, .unset, .unset, .unset] [(.long p3)]))
          exact J4 _ Xj3 _ trivial
        · skip
          refine Go.by (fun _ => XS.ifNo Xj3.here hx rfl (hb hby at_101) rfl ((if0 _ _).trans (feq hc101_42).1)) ?_
          show Go p.tables e below _ (Tj3.setTop (mkF m 104 #[.val (.int p0), .val (.int p1), .val (.long p2), .second, .val (.long p3), .second, .val (.int p4), .val (.int k1), .val (.int n1), .val (.int u1), .val (.int k2), .val (.int n2), .val (.int u2), .unset, .unset, .unset, .unset, .unset, .unset] []))
          refine Go.by (fun _ => XS.lloadN Xj3.here hx rfl (hb hby at_104) rfl) ?_
          show Go p.tables e below _ (Tj3.setTop (mkF m 105 #[.val (.int p0), .val (.int p1), .val (.long p2), .second, .val (.long p3), .second, .val (.int p4), .val (.int k1), .val (.int n1), .val (.int u1), .val (.int k2), .val (.int n2), .val (.int u2), .unset, .unset, .unset, .unset, .unset, .unset] [(.long p2)]))
          refine Go.by (fun _ => XS.goto Xj3.here hx rfl (pc0 := 105) (pc' := 110) rfl (hb hby at_105) (by decide) (by decide)) ?_
          show Go p.tables e below _ (Tj3.setTop (mkF m 110 #[.val (.int p0), .val (.int p1), .val (.long p2), .second, .val (.long p3), .second, .val (.int p4), .val (.int k1), .val (.int n1), .val (.int u1), .val (.int k2), .val (.int n2), .val (.int u2), .unset, .unset, .unset, .unset, .unset, .unset] [(.long p2)]))
          exact J4 _ Xj3 _ trivial
      by_cases hc77_43 : (p4 &&& (4 : Int32)) = (0 : Int32)
      · skip
        refine Go.by (fun _ => XS.ifYes Xj2.here hx rfl (pc0 := 77) (pc' := 85) rfl (hb hby at_77) rfl ((if0 _ _).trans (teq hc77_43).1) (by decide) (by decide)) ?_
        show Go p.tables e below _ (Tj2.setTop (mkF m 85 #[.val (.int p0), .val (.int p1), .val (.long p2), .second, .val (.long p3), .second, .val (.int p4), .val (.int k1), .val (.int n1), .val (.int u1), .val (.int k2), .val (.int n2), .unset, .unset, .unset, .unset, .unset, .unset, .unset] []))
        refine Go.by (fun _ => XS.iloadN Xj2.here hx rfl (hb hby at_85) rfl) ?_
        show Go p.tables e below _ (Tj2.setTop (mkF m 86 #[.val (.int p0), .val (.int p1), .val (.long p2), .second, .val (.long p3), .second, .val (.int p4), .val (.int k1), .val (.int n1), .val (.int u1), .val (.int k2), .val (.int n2), .unset, .unset, .unset, .unset, .unset, .unset, .unset] [(.int p1)]))
        refine Go.by (fun _ => XS.bipush Xj2.here hx rfl (hb hby at_86)) ?_
        show Go p.tables e below _ (Tj2.setTop (mkF m 88 #[.val (.int p0), .val (.int p1), .val (.long p2), .second, .val (.long p3), .second, .val (.int p4), .val (.int k1), .val (.int n1), .val (.int u1), .val (.int k2), .val (.int n2), .unset, .unset, .unset, .unset, .unset, .unset, .unset] [(.int (16 : Int32)), (.int p1)]))
        refine Go.by (fun _ => XS.iushr Xj2.here hx rfl (hb hby at_88) rfl) ?_
        show Go p.tables e below _ (Tj2.setTop (mkF m 89 #[.val (.int p0), .val (.int p1), .val (.long p2), .second, .val (.long p3), .second, .val (.int p4), .val (.int k1), .val (.int n1), .val (.int u1), .val (.int k2), .val (.int n2), .unset, .unset, .unset, .unset, .unset, .unset, .unset] [(.int ((p1.toUInt32 >>> ((16 : Int32) &&& 31).toUInt32).toInt32))]))
        refine Go.by (fun _ => XS.sipush Xj2.here hx rfl (hb hby at_89)) ?_
        show Go p.tables e below _ (Tj2.setTop (mkF m 92 #[.val (.int p0), .val (.int p1), .val (.long p2), .second, .val (.long p3), .second, .val (.int p4), .val (.int k1), .val (.int n1), .val (.int u1), .val (.int k2), .val (.int n2), .unset, .unset, .unset, .unset, .unset, .unset, .unset] [(.int (255 : Int32)), (.int ((p1.toUInt32 >>> ((16 : Int32) &&& 31).toUInt32).toInt32))]))
        refine Go.by (fun _ => XS.iand Xj2.here hx rfl (hb hby at_92) rfl) ?_
        show Go p.tables e below _ (Tj2.setTop (mkF m 93 #[.val (.int p0), .val (.int p1), .val (.long p2), .second, .val (.long p3), .second, .val (.int p4), .val (.int k1), .val (.int n1), .val (.int u1), .val (.int k2), .val (.int n2), .unset, .unset, .unset, .unset, .unset, .unset, .unset] [(.int (((p1.toUInt32 >>> ((16 : Int32) &&& 31).toUInt32).toInt32) &&& (255 : Int32)))]))
        refine Go.by (fun _ => XS.i2c Xj2.here hx rfl (hb hby at_93) rfl) ?_
        show Go p.tables e below _ (Tj2.setTop (mkF m 94 #[.val (.int p0), .val (.int p1), .val (.long p2), .second, .val (.long p3), .second, .val (.int p4), .val (.int k1), .val (.int n1), .val (.int u1), .val (.int k2), .val (.int n2), .unset, .unset, .unset, .unset, .unset, .unset, .unset] [(.int ((((p1.toUInt32 >>> ((16 : Int32) &&& 31).toUInt32).toInt32) &&& (255 : Int32)).toUInt32.toUInt16.toUInt32.toInt32))]))
        exact J3 _ Xj2 _ (own_c _)
      · skip
        refine Go.by (fun _ => XS.ifNo Xj2.here hx rfl (hb hby at_77) rfl ((if0 _ _).trans (feq hc77_43).1)) ?_
        show Go p.tables e below _ (Tj2.setTop (mkF m 80 #[.val (.int p0), .val (.int p1), .val (.long p2), .second, .val (.long p3), .second, .val (.int p4), .val (.int k1), .val (.int n1), .val (.int u1), .val (.int k2), .val (.int n2), .unset, .unset, .unset, .unset, .unset, .unset, .unset] []))
        refine Go.by (fun _ => XS.iload Xj2.here hx rfl (hb hby at_80) rfl) ?_
        show Go p.tables e below _ (Tj2.setTop (mkF m 82 #[.val (.int p0), .val (.int p1), .val (.long p2), .second, .val (.long p3), .second, .val (.int p4), .val (.int k1), .val (.int n1), .val (.int u1), .val (.int k2), .val (.int n2), .unset, .unset, .unset, .unset, .unset, .unset, .unset] [(.int u1)]))
        refine Go.by (fun _ => XS.goto Xj2.here hx rfl (pc0 := 82) (pc' := 94) rfl (hb hby at_82) (by decide) (by decide)) ?_
        show Go p.tables e below _ (Tj2.setTop (mkF m 94 #[.val (.int p0), .val (.int p1), .val (.long p2), .second, .val (.long p3), .second, .val (.int p4), .val (.int k1), .val (.int n1), .val (.int u1), .val (.int k2), .val (.int n2), .unset, .unset, .unset, .unset, .unset, .unset, .unset] [(.int u1)]))
        exact J3 _ Xj2 _ hr_u1
    by_cases hc54_44 : (p4 &&& (2 : Int32)) = (0 : Int32)
    · skip
      refine Go.by (fun _ => XS.ifYes Xj1.here hx rfl (pc0 := 54) (pc' := 62) rfl (hb hby at_54) rfl ((if0 _ _).trans (teq hc54_44).1) (by decide) (by decide)) ?_
      show Go p.tables e below _ (Tj1.setTop (mkF m 62 #[.val (.int p0), .val (.int p1), .val (.long p2), .second, .val (.long p3), .second, .val (.int p4), .val (.int k1), .val (.int n1), .val (.int u1), .val (.int k2), .unset, .unset, .unset, .unset, .unset, .unset, .unset, .unset] []))
      refine Go.by (fun _ => XS.iloadN Xj1.here hx rfl (hb hby at_62) rfl) ?_
      show Go p.tables e below _ (Tj1.setTop (mkF m 63 #[.val (.int p0), .val (.int p1), .val (.long p2), .second, .val (.long p3), .second, .val (.int p4), .val (.int k1), .val (.int n1), .val (.int u1), .val (.int k2), .unset, .unset, .unset, .unset, .unset, .unset, .unset, .unset] [(.int p1)]))
      refine Go.by (fun _ => XS.bipush Xj1.here hx rfl (hb hby at_63)) ?_
      show Go p.tables e below _ (Tj1.setTop (mkF m 65 #[.val (.int p0), .val (.int p1), .val (.long p2), .second, .val (.long p3), .second, .val (.int p4), .val (.int k1), .val (.int n1), .val (.int u1), .val (.int k2), .unset, .unset, .unset, .unset, .unset, .unset, .unset, .unset] [(.int (8 : Int32)), (.int p1)]))
      refine Go.by (fun _ => XS.iushr Xj1.here hx rfl (hb hby at_65) rfl) ?_
      show Go p.tables e below _ (Tj1.setTop (mkF m 66 #[.val (.int p0), .val (.int p1), .val (.long p2), .second, .val (.long p3), .second, .val (.int p4), .val (.int k1), .val (.int n1), .val (.int u1), .val (.int k2), .unset, .unset, .unset, .unset, .unset, .unset, .unset, .unset] [(.int ((p1.toUInt32 >>> ((8 : Int32) &&& 31).toUInt32).toInt32))]))
      refine Go.by (fun _ => XS.sipush Xj1.here hx rfl (hb hby at_66)) ?_
      show Go p.tables e below _ (Tj1.setTop (mkF m 69 #[.val (.int p0), .val (.int p1), .val (.long p2), .second, .val (.long p3), .second, .val (.int p4), .val (.int k1), .val (.int n1), .val (.int u1), .val (.int k2), .unset, .unset, .unset, .unset, .unset, .unset, .unset, .unset] [(.int (255 : Int32)), (.int ((p1.toUInt32 >>> ((8 : Int32) &&& 31).toUInt32).toInt32))]))
      refine Go.by (fun _ => XS.iand Xj1.here hx rfl (hb hby at_69) rfl) ?_
      show Go p.tables e below _ (Tj1.setTop (mkF m 70 #[.val (.int p0), .val (.int p1), .val (.long p2), .second, .val (.long p3), .second, .val (.int p4), .val (.int k1), .val (.int n1), .val (.int u1), .val (.int k2), .unset, .unset, .unset, .unset, .unset, .unset, .unset, .unset] [(.int (((p1.toUInt32 >>> ((8 : Int32) &&& 31).toUInt32).toInt32) &&& (255 : Int32)))]))
      refine Go.by (fun _ => XS.i2c Xj1.here hx rfl (hb hby at_70) rfl) ?_
      show Go p.tables e below _ (Tj1.setTop (mkF m 71 #[.val (.int p0), .val (.int p1), .val (.long p2), .second, .val (.long p3), .second, .val (.int p4), .val (.int k1), .val (.int n1), .val (.int u1), .val (.int k2), .unset, .unset, .unset, .unset, .unset, .unset, .unset, .unset] [(.int ((((p1.toUInt32 >>> ((8 : Int32) &&& 31).toUInt32).toInt32) &&& (255 : Int32)).toUInt32.toUInt16.toUInt32.toInt32))]))
      exact J2 _ Xj1 _ (own_c _)
    · skip
      refine Go.by (fun _ => XS.ifNo Xj1.here hx rfl (hb hby at_54) rfl ((if0 _ _).trans (feq hc54_44).1)) ?_
      show Go p.tables e below _ (Tj1.setTop (mkF m 57 #[.val (.int p0), .val (.int p1), .val (.long p2), .second, .val (.long p3), .second, .val (.int p4), .val (.int k1), .val (.int n1), .val (.int u1), .val (.int k2), .unset, .unset, .unset, .unset, .unset, .unset, .unset, .unset] []))
      refine Go.by (fun _ => XS.iload Xj1.here hx rfl (hb hby at_57) rfl) ?_
      show Go p.tables e below _ (Tj1.setTop (mkF m 59 #[.val (.int p0), .val (.int p1), .val (.long p2), .second, .val (.long p3), .second, .val (.int p4), .val (.int k1), .val (.int n1), .val (.int u1), .val (.int k2), .unset, .unset, .unset, .unset, .unset, .unset, .unset, .unset] [(.int n1)]))
      refine Go.by (fun _ => XS.goto Xj1.here hx rfl (pc0 := 59) (pc' := 71) rfl (hb hby at_59) (by decide) (by decide)) ?_
      show Go p.tables e below _ (Tj1.setTop (mkF m 71 #[.val (.int p0), .val (.int p1), .val (.long p2), .second, .val (.long p3), .second, .val (.int p4), .val (.int k1), .val (.int n1), .val (.int u1), .val (.int k2), .unset, .unset, .unset, .unset, .unset, .unset, .unset, .unset] [(.int n1)]))
      exact J2 _ Xj1 _ hr_n1
  by_cases hc34_45 : (p4 &&& (1 : Int32)) = (0 : Int32)
  · skip
    refine Go.by (fun _ => XS.ifYes X0.here hx rfl (pc0 := 34) (pc' := 42) rfl (hb hby at_34) rfl ((if0 _ _).trans (teq hc34_45).1) (by decide) (by decide)) ?_
    show Go p.tables e below _ (T0.setTop (mkF m 42 #[.val (.int p0), .val (.int p1), .val (.long p2), .second, .val (.long p3), .second, .val (.int p4), .val (.int k1), .val (.int n1), .val (.int u1), .unset, .unset, .unset, .unset, .unset, .unset, .unset, .unset, .unset] []))
    refine Go.by (fun _ => XS.iloadN X0.here hx rfl (hb hby at_42) rfl) ?_
    show Go p.tables e below _ (T0.setTop (mkF m 43 #[.val (.int p0), .val (.int p1), .val (.long p2), .second, .val (.long p3), .second, .val (.int p4), .val (.int k1), .val (.int n1), .val (.int u1), .unset, .unset, .unset, .unset, .unset, .unset, .unset, .unset, .unset] [(.int p1)]))
    refine Go.by (fun _ => XS.sipush X0.here hx rfl (hb hby at_43)) ?_
    show Go p.tables e below _ (T0.setTop (mkF m 46 #[.val (.int p0), .val (.int p1), .val (.long p2), .second, .val (.long p3), .second, .val (.int p4), .val (.int k1), .val (.int n1), .val (.int u1), .unset, .unset, .unset, .unset, .unset, .unset, .unset, .unset, .unset] [(.int (255 : Int32)), (.int p1)]))
    refine Go.by (fun _ => XS.iand X0.here hx rfl (hb hby at_46) rfl) ?_
    show Go p.tables e below _ (T0.setTop (mkF m 47 #[.val (.int p0), .val (.int p1), .val (.long p2), .second, .val (.long p3), .second, .val (.int p4), .val (.int k1), .val (.int n1), .val (.int u1), .unset, .unset, .unset, .unset, .unset, .unset, .unset, .unset, .unset] [(.int (p1 &&& (255 : Int32)))]))
    refine Go.by (fun _ => XS.i2c X0.here hx rfl (hb hby at_47) rfl) ?_
    show Go p.tables e below _ (T0.setTop (mkF m 48 #[.val (.int p0), .val (.int p1), .val (.long p2), .second, .val (.long p3), .second, .val (.int p4), .val (.int k1), .val (.int n1), .val (.int u1), .unset, .unset, .unset, .unset, .unset, .unset, .unset, .unset, .unset] [(.int ((p1 &&& (255 : Int32)).toUInt32.toUInt16.toUInt32.toInt32))]))
    exact J1 _ X0 _ (own_c _)
  · skip
    refine Go.by (fun _ => XS.ifNo X0.here hx rfl (hb hby at_34) rfl ((if0 _ _).trans (feq hc34_45).1)) ?_
    show Go p.tables e below _ (T0.setTop (mkF m 37 #[.val (.int p0), .val (.int p1), .val (.long p2), .second, .val (.long p3), .second, .val (.int p4), .val (.int k1), .val (.int n1), .val (.int u1), .unset, .unset, .unset, .unset, .unset, .unset, .unset, .unset, .unset] []))
    refine Go.by (fun _ => XS.iload X0.here hx rfl (hb hby at_37) rfl) ?_
    show Go p.tables e below _ (T0.setTop (mkF m 39 #[.val (.int p0), .val (.int p1), .val (.long p2), .second, .val (.long p3), .second, .val (.int p4), .val (.int k1), .val (.int n1), .val (.int u1), .unset, .unset, .unset, .unset, .unset, .unset, .unset, .unset, .unset] [(.int k1)]))
    refine Go.by (fun _ => XS.goto X0.here hx rfl (pc0 := 39) (pc' := 48) rfl (hb hby at_39) (by decide) (by decide)) ?_
    show Go p.tables e below _ (T0.setTop (mkF m 48 #[.val (.int p0), .val (.int p1), .val (.long p2), .second, .val (.long p3), .second, .val (.int p4), .val (.int k1), .val (.int n1), .val (.int u1), .unset, .unset, .unset, .unset, .unset, .unset, .unset, .unset, .unset] [(.int k1)]))
    exact J1 _ X0 _ hr_k1
set_option maxRecDepth 65536 in
set_option maxHeartbeats 40000000 in
theorem comes_1 {Post : Tables → Env → Array Value → State → Outcome → State → Prop} (hpost : ∀ tb e args s v u, (limb_1_1.after args s (.returned v) u = true ∧ limb_1_2.after args s (.returned v) u = true ∧ True) → FrameEnd s (.returned v) u (Jvm.fieldLocs frame_1_writes args s ++ Jvm.arrayLocs frame_1_arrays args s ++ Jvm.staticLocs frame_1_statics s) 40 192 → Post tb e args s (.returned v) u) :
    ArmFor flags0 classFile x code maxLocals ret World_1 tables_1 room_1 Calls_1 rest_1 Pre_1 Post := by
  intro l hfl _ _ p e ha hc hk s m args below hf hA hF happ hP
  obtain ⟨hcalls, hrest, hpre⟩ := hP
  obtain ⟨-, -, -, hnamed, -, -, -, hat⟩ := (Spec.applies_iff hf).mp happ
  obtain ⟨hg, hn⟩ := and_e (Cond.before_iff.mp (show (Jvm.Cond.and given_1 narrow_1).before args s = true from hpre))
  obtain ⟨gc, gr0⟩ := and_e hg
  obtain ⟨ga0, gr1⟩ := and_e gr0
  obtain ⟨ga1, gr2⟩ := and_e gr1
  obtain ⟨ga2, gr3⟩ := and_e gr2
  obtain ⟨ga3, ga4⟩ := and_e gr3
  obtain ⟨w0, w1, w2, w3, w4, rfl⟩ : ∃ w0 w1 w2 w3 w4 : Value, args = #[w0, w1, w2, w3, w4] := by
    have hs : args.size = 5 := by simpa [Cond.value, given_1] using gc
    obtain ⟨L⟩ := args
    match L, hs with
    | [w0, w1, w2, w3, w4], _ => exact ⟨w0, w1, w2, w3, w4, rfl⟩
  have hw := fun d (hd : d ∈ tables_1) => atoms_spec (ws := Jvm.Cond.code x code maxLocals ret :: tables_1) hat d (List.mem_cons_of_mem _ hd)
  have hfit : Fit s := fun {y c} hc i hi => by
    obtain ⟨ha, rfl⟩ := Array.getElem?_eq_some_iff.mp hc
    have q := List.all_eq_true.mp ((Array.all_eq_true_iff_forall_mem.mp hF) _ (Array.getElem_mem ha)) i (List.mem_range.mpr hi)
    simpa [Array.getElem?_eq_getElem hi] using q
  obtain ⟨hsets, hown0⟩ := atoms_of _ (rest_1_c_eq ▸ (show rest_1_c.before _ s = true from hrest))
  have hr0 := Cond.before_iff.mp hown0
  obtain ⟨i0, ei0⟩ := is_v ga0
  obtain rfl : w0 = (.int i0) := Option.some.inj ei0
  obtain ⟨i1, ei1⟩ := is_v ga1
  obtain rfl : w1 = (.int i1) := Option.some.inj ei1
  obtain ⟨i2, ei2⟩ := isL_v ga2
  obtain rfl : w2 = (.long i2) := Option.some.inj ei2
  obtain ⟨i3, ei3⟩ := isL_v ga3
  obtain rfl : w3 = (.long i3) := Option.some.inj ei3
  obtain ⟨i4, ei4⟩ := is_v ga4
  obtain rfl : w4 = (.int i4) := Option.some.inj ei4
  obtain ⟨cs, evcs⟩ := is_v (Cond.before_iff.mp (hsets _ (List.mem_of_getElem? (i := 1) rfl)))
  have S_CS0 : Sta s s.heap "java/lang/String" "COMPACT_STRINGS" "Z" (.int cs) := Sta.start evcs (Or.inl (hsets _ (List.mem_of_getElem? (i := 0) rfl)))
  have hcs : ¬ cs = 0 := gotF (Cond.eq_ints evcs (Term.int_eval 0)) (not_v (Cond.before_iff.mp (hsets _ (List.mem_of_getElem? (i := 2) rfl))))
  obtain ⟨n, o, h1, h2, h3, _, L, rfl, ⟨rfl, N⟩, hq⟩ := rm0 l s _ hw tables_1 i0 i1 i2 i3 i4 cs s.heap s.heap.size (Nat.le_refl _) (Old.start s) S_CS0 hcs p e ha hc hk s m _ below hf ((Spec.applies_iff_loose hf).mp happ).1 ⟨rfl, State.Warmed39.refl s, rfl⟩ trivial
  refine ⟨n, _, h1, h2, h3, hpost _ _ _ _ _ _ ⟨Cond.after_iff.mpr rfl, Cond.after_iff.mpr (eq_i res_at (Term.int_eval (1)) rfl), trivial⟩ ⟨hq.1, hq.2.1, (hq.2.2.sift fun y hy => Or.inr (N y hy)).mono (by decide) (by decide)⟩⟩
theorem main_1_1 : Claimed_1_1 := comes_1 fun _ _ _ _ _ _ h hF => ⟨h.1, hF⟩
theorem main_1_2 : Claimed_1_2 := comes_1 fun _ _ _ _ _ _ h hF => ⟨h.2.1, hF⟩
end Jvm.Pilot.@@N@@
namespace Jvm.Pilot.@@N@@
open Jvm Jvm.ClassFile Sem Op Lib Jvm.Free Jvm.Stand Jvm.Pilot.@@N@@.Jvm.D
/-! MADE BY PROGRAM (witnessworld.py) out of the Statement's table words and the real class files: 17 classes; the members and pool entries that the words name. The judged class is class 1, her method 1. -/
namespace start1
open Jvm.ClassFile
def u (s : String) : CpInfo := .utf8 (stringToUtf16 s)
/-- a pool by its gaps: so many unusable entries, then the entry; so many at the end -/
def gap : Nat → List CpInfo → List CpInfo
  | 0, r => r
  | n + 1, r => .unusable :: gap n r
def poolList (es : List (Nat × CpInfo)) (last : Nat) : List CpInfo := es.foldr (fun e r => gap e.1 (e.2 :: r)) (gap last [])
def pool (es : List (Nat × CpInfo)) (last : Nat) : Array CpInfo := ⟨poolList es last⟩
def fileOf (pool : Array CpInfo) (this : Nat) (attrs : Array Attribute := #[]) (ms : Array MethodInfo := #[]) (fl : Nat := 33) (sup : Nat := 0) (ifs : Array Nat := #[]) (fds : Array FieldInfo := #[]) : ClassFile where
  minorVersion := 0
  majorVersion := 65
  constantPool := pool
  accessFlags := fl
  thisClass := this
  superClass := sup
  interfaces := ifs
  fields := fds
  methods := ms
  attributes := attrs
def plain (name : String) (sup : Option ClassId) : Class where
  name := name
  kind := .ordinary
  loader := none
  accessFlags := 33
  super := sup
  interfaces := #[]
  cf := none
  fields := #[]
  methods := #[]
  instanceTypes := #[]
  staticTypes := #[]
  resolved := #[]
  callSites := []
  init := .initialized
  statics := none
  mirror := none

def pool0 : Array CpInfo := pool [(5, u "<init>"), (0, u "()V"), (1, .class_ 10), (1, u "java/lang/Object")] 113

def k0c0 : Code := { maxStack := 0, maxLocals := 1, code := object_method_1_code, exceptionTable := #[], attributes := #[] }
def k0m0 : Method := { name := "<init>", desc := "()V", sig := { parameters := [], returnType := none }, accessFlags := 1, code := some k0c0 }
/-- java/lang/Object -/
def k0 : Class := { plain "java/lang/Object" none with
  accessFlags := 33
  interfaces := #[]
  cf := some (fileOf pool0 8 #[] #[{ accessFlags := 1, nameIndex := 5, descriptorIndex := 6, attributes := #[] }] 33 0 #[] #[])
  fields := #[]
  methods := #[k0m0]
  instanceTypes := #[]
  staticTypes := #[]
  resolved := Array.replicate 124 none
  statics := none }

def pool1 : Array CpInfo := pool [(2, .class_ 4), (1, u "java/lang/Object"), (0, u "<init>"), (0, u "()V"), (0, .class_ 8), (0, u "com/example/preference_store/preferencestore/storage/Entry"), (0, .methodref 10 11), (0, .class_ 12), (0, .nameAndType 13 14), (0, u "java/lang/String"), (0, u "valueOf"), (0, u "(C)Ljava/lang/String;"), (0, .methodref 7 16), (0, .nameAndType 5 17), (0, u "(Ljava/lang/String;Ljava/lang/String;Ljava/lang/String;J)V"), (0, .methodref 7 19), (0, .nameAndType 20 21), (0, u "equals"), (0, u "(Ljava/lang/Object;)Z"), (0, .class_ 23), (0, u "com/example/preference_store/preferencestore/storage/EntryEqualsPinLaw"), (2, u "law"), (0, u "(IIJJI)Z")] 3

def k1m0 : Method := { name := "<init>", desc := "()V", sig := { parameters := [], returnType := none }, accessFlags := 1, code := none }
def k1c1 : Code := { maxStack := 7, maxLocals := 19, code := code, exceptionTable := #[], attributes := #[] }
def k1m1 : Method := { name := "law", desc := "(IIJJI)Z", sig := { parameters := [.int, .int, .long, .long, .int], returnType := some .boolean }, accessFlags := 9, code := some k1c1 }
/-- com/example/preference_store/preferencestore/storage/EntryEqualsPinLaw -/
def k1 : Class := { plain "com/example/preference_store/preferencestore/storage/EntryEqualsPinLaw" (some 0) with
  accessFlags := 49
  interfaces := #[]
  cf := some (fileOf pool1 22 #[] #[{ accessFlags := 1, nameIndex := 5, descriptorIndex := 6, attributes := #[] }, { accessFlags := 9, nameIndex := 26, descriptorIndex := 27, attributes := #[] }] 49 2 #[] #[])
  fields := #[]
  methods := #[k1m0, k1m1]
  instanceTypes := #[]
  staticTypes := #[]
  resolved := Array.replicate 31 none
  statics := none }

def pool2 : Array CpInfo := pool [(1, .methodref 2 3), (0, .class_ 4), (0, .nameAndType 5 6), (0, u "java/lang/Object"), (0, u "<init>"), (0, u "()V"), (0, .fieldref 8 9), (0, .class_ 10), (0, .nameAndType 11 12), (0, u "com/example/preference_store/preferencestore/storage/Entry"), (0, u "kind"), (0, u "Ljava/lang/String;"), (0, .fieldref 8 14), (0, .nameAndType 15 12), (0, u "name"), (0, .fieldref 8 17), (0, .nameAndType 18 12), (0, u "value"), (0, .fieldref 8 20), (0, .nameAndType 21 22), (0, u "version"), (0, u "J"), (0, .methodref 24 25), (0, .class_ 26), (0, .nameAndType 27 28), (0, u "java/lang/String"), (0, u "equals"), (0, u "(Ljava/lang/Object;)Z"), (12, u "(Ljava/lang/String;Ljava/lang/String;Ljava/lang/String;J)V")] 9

def k2c0 : Code := { maxStack := 3, maxLocals := 6, code := prog_11_method_1_code, exceptionTable := #[], attributes := #[] }
def k2m0 : Method := { name := "<init>", desc := "(Ljava/lang/String;Ljava/lang/String;Ljava/lang/String;J)V", sig := { parameters := [(.object "java/lang/String"), (.object "java/lang/String"), (.object "java/lang/String"), .long], returnType := none }, accessFlags := 1, code := some k2c0 }
def k2c1 : Code := { maxStack := 4, maxLocals := 3, code := prog_11_method_6_code, exceptionTable := #[], attributes := #[] }
def k2m1 : Method := { name := "equals", desc := "(Ljava/lang/Object;)Z", sig := { parameters := [(.object "java/lang/Object")], returnType := some .boolean }, accessFlags := 1, code := some k2c1 }
/-- com/example/preference_store/preferencestore/storage/Entry -/
def k2 : Class := { plain "com/example/preference_store/preferencestore/storage/Entry" (some 0) with
  accessFlags := 49
  interfaces := #[]
  cf := some (fileOf pool2 8 #[] #[{ accessFlags := 1, nameIndex := 5, descriptorIndex := 41, attributes := #[] }, { accessFlags := 1, nameIndex := 27, descriptorIndex := 28, attributes := #[] }] 49 2 #[] #[{ accessFlags := 18, nameIndex := 11, descriptorIndex := 12, attributes := #[] }, { accessFlags := 18, nameIndex := 15, descriptorIndex := 12, attributes := #[] }, { accessFlags := 18, nameIndex := 18, descriptorIndex := 12, attributes := #[] }, { accessFlags := 18, nameIndex := 21, descriptorIndex := 22, attributes := #[] }])
  fields := #[{ name := "kind", type := (.object "java/lang/String"), accessFlags := 18, slot := 0, constantValue := 0 }, { name := "name", type := (.object "java/lang/String"), accessFlags := 18, slot := 1, constantValue := 0 }, { name := "value", type := (.object "java/lang/String"), accessFlags := 18, slot := 2, constantValue := 0 }, { name := "version", type := .long, accessFlags := 18, slot := 3, constantValue := 0 }]
  methods := #[k2m0, k2m1]
  instanceTypes := #[(.object "java/lang/String"), (.object "java/lang/String"), (.object "java/lang/String"), .long]
  staticTypes := #[]
  resolved := Array.replicate 51 none
  statics := none }

def pool3 : Array CpInfo := pool [(1, .class_ 2), (0, u "java/io/Serializable"), (0, .class_ 4), (0, u "java/lang/Object")] 2

/-- java/io/Serializable -/
def k3 : Class := { plain "java/io/Serializable" (some 0) with
  accessFlags := 1537
  interfaces := #[]
  cf := some (fileOf pool3 1 #[] #[] 1537 3 #[] #[])
  fields := #[]
  methods := #[]
  instanceTypes := #[]
  staticTypes := #[]
  resolved := Array.replicate 7 none
  statics := none }

def pool4 : Array CpInfo := pool [(1, .class_ 2), (0, u "java/lang/Comparable"), (0, .class_ 4), (0, u "java/lang/Object")] 7

/-- java/lang/Comparable -/
def k4 : Class := { plain "java/lang/Comparable" (some 0) with
  accessFlags := 1537
  interfaces := #[]
  cf := some (fileOf pool4 1 #[] #[] 1537 3 #[] #[])
  fields := #[]
  methods := #[]
  instanceTypes := #[]
  staticTypes := #[]
  resolved := Array.replicate 12 none
  statics := none }

def pool5 : Array CpInfo := pool [(2, .class_ 4), (1, u "java/lang/CharSequence"), (42, .class_ 48), (0, u "java/lang/CharSequence$1CodePointIterator"), (10, .class_ 60), (0, u "java/lang/CharSequence$1CharIterator"), (5, .class_ 67), (0, u "java/lang/Object")] 63

/-- java/lang/CharSequence -/
def k5 : Class := { plain "java/lang/CharSequence" (some 0) with
  accessFlags := 1537
  interfaces := #[]
  cf := some (fileOf pool5 2 #[.nestMembers #[47, 59]] #[] 1537 66 #[] #[])
  fields := #[]
  methods := #[]
  instanceTypes := #[]
  staticTypes := #[]
  resolved := Array.replicate 131 none
  statics := none }

def pool6 : Array CpInfo := pool [(1, .class_ 2), (0, u "java/lang/constant/Constable"), (0, .class_ 4), (0, u "java/lang/Object")] 6

/-- java/lang/constant/Constable -/
def k6 : Class := { plain "java/lang/constant/Constable" (some 0) with
  accessFlags := 1537
  interfaces := #[]
  cf := some (fileOf pool6 1 #[] #[] 1537 3 #[] #[])
  fields := #[]
  methods := #[]
  instanceTypes := #[]
  staticTypes := #[]
  resolved := Array.replicate 11 none
  statics := none }

def pool7 : Array CpInfo := pool [(1, .class_ 2), (0, u "java/lang/constant/ConstantDesc"), (0, .class_ 4), (0, u "java/lang/Object")] 32

/-- java/lang/constant/ConstantDesc -/
def k7 : Class := { plain "java/lang/constant/ConstantDesc" (some 0) with
  accessFlags := 1537
  interfaces := #[]
  cf := some (fileOf pool7 1 #[] #[] 1537 3 #[] #[])
  fields := #[]
  methods := #[]
  instanceTypes := #[]
  staticTypes := #[]
  resolved := Array.replicate 37 none
  statics := none }

def pool8 : Array CpInfo := pool [(1, .methodref 2 3), (0, .class_ 4), (0, .nameAndType 5 6), (0, u "java/lang/Object"), (0, u "<init>"), (0, u "()V"), (2, .fieldref 10 11), (0, .class_ 12), (0, .nameAndType 13 14), (0, u "java/lang/String"), (0, u "value"), (0, u "[B"), (0, .fieldref 10 16), (0, .nameAndType 17 18), (0, u "coder"), (0, u "B"), (2, u "hash"), (0, u "I"), (2, u "hashIsZero"), (0, u "Z"), (11, .fieldref 10 39), (0, .nameAndType 40 26), (0, u "COMPACT_STRINGS"), (12, u "toBytes"), (53, .class_ 109), (1, u "java/lang/StringLatin1"), (99, .methodref 10 210), (0, .nameAndType 5 211), (0, u "([BB)V"), (157, u "(C)Z"), (171, .methodref 107 542), (0, .nameAndType 543 544), (0, u "equals"), (0, u "([B[B)Z"), (28, u "(Ljava/lang/Object;)Z"), (1, .class_ 576), (0, u "java/lang/CharSequence"), (22, u "CASE_INSENSITIVE_ORDER"), (0, u "Ljava/util/Comparator;"), (181, u "valueOf"), (0, u "(C)Ljava/lang/String;"), (231, .methodref 107 1016), (0, .nameAndType 1017 369), (0, u "canEncode"), (0, .methodref 107 1019), (0, .nameAndType 53 1020), (0, u "(C)[B"), (80, u "serialPersistentFields"), (0, u "[Ljava/io/ObjectStreamField;"), (0, .class_ 1104), (0, u "java/lang/String$CaseInsensitiveComparator"), (1, .class_ 1107), (0, u "java/io/Serializable"), (0, .class_ 1109), (0, u "java/lang/Comparable"), (0, .class_ 1111), (0, u "java/lang/constant/Constable"), (0, .class_ 1113), (0, u "java/lang/constant/ConstantDesc"), (2, u "serialVersionUID"), (0, u "J"), (3, u "REPL"), (0, u "C"), (2, u "LATIN1"), (1, u "UTF16")] 323

def k8m0 : Method := { name := "<init>", desc := "()V", sig := { parameters := [], returnType := none }, accessFlags := 1, code := none }
def k8c1 : Code := { maxStack := 2, maxLocals := 3, code := jdk_42_method_66_code, exceptionTable := #[], attributes := #[] }
def k8m1 : Method := { name := "equals", desc := "(Ljava/lang/Object;)Z", sig := { parameters := [(.object "java/lang/Object")], returnType := some .boolean }, accessFlags := 1, code := some k8c1 }
def k8c2 : Code := { maxStack := 4, maxLocals := 1, code := jdk_42_method_139_code, exceptionTable := #[], attributes := #[] }
def k8m2 : Method := { name := "valueOf", desc := "(C)Ljava/lang/String;", sig := { parameters := [.char], returnType := some (.object "java/lang/String") }, accessFlags := 9, code := some k8c2 }
def k8c3 : Code := { maxStack := 2, maxLocals := 3, code := jdk_42_method_151_code, exceptionTable := #[], attributes := #[] }
def k8m3 : Method := { name := "<init>", desc := "([BB)V", sig := { parameters := [(.array .byte), .byte], returnType := none }, accessFlags := 0, code := some k8c3 }
/-- java/lang/String -/
def k8 : Class := { plain "java/lang/String" (some 0) with
  accessFlags := 49
  interfaces := #[3, 4, 5, 6, 7]
  cf := some (fileOf pool8 10 #[.nestMembers #[1103]] #[{ accessFlags := 1, nameIndex := 5, descriptorIndex := 6, attributes := #[] }, { accessFlags := 1, nameIndex := 543, descriptorIndex := 573, attributes := #[] }, { accessFlags := 9, nameIndex := 782, descriptorIndex := 783, attributes := #[] }, { accessFlags := 0, nameIndex := 5, descriptorIndex := 211, attributes := #[] }] 49 2 #[1106, 1108, 575, 1110, 1112] #[{ accessFlags := 18, nameIndex := 13, descriptorIndex := 14, attributes := #[] }, { accessFlags := 18, nameIndex := 17, descriptorIndex := 18, attributes := #[] }, { accessFlags := 2, nameIndex := 21, descriptorIndex := 22, attributes := #[] }, { accessFlags := 2, nameIndex := 25, descriptorIndex := 26, attributes := #[] }, { accessFlags := 26, nameIndex := 1116, descriptorIndex := 1117, attributes := #[] }, { accessFlags := 24, nameIndex := 40, descriptorIndex := 26, attributes := #[] }, { accessFlags := 26, nameIndex := 1101, descriptorIndex := 1102, attributes := #[] }, { accessFlags := 26, nameIndex := 1121, descriptorIndex := 1122, attributes := #[] }, { accessFlags := 25, nameIndex := 599, descriptorIndex := 600, attributes := #[] }, { accessFlags := 24, nameIndex := 1125, descriptorIndex := 18, attributes := #[] }, { accessFlags := 24, nameIndex := 1127, descriptorIndex := 18, attributes := #[] }])
  fields := #[{ name := "value", type := (.array .byte), accessFlags := 18, slot := 0, constantValue := 0 }, { name := "coder", type := .byte, accessFlags := 18, slot := 1, constantValue := 0 }, { name := "hash", type := .int, accessFlags := 2, slot := 2, constantValue := 0 }, { name := "hashIsZero", type := .boolean, accessFlags := 2, slot := 3, constantValue := 0 }, { name := "serialVersionUID", type := .long, accessFlags := 26, slot := 0, constantValue := 0 }, { name := "COMPACT_STRINGS", type := .boolean, accessFlags := 24, slot := 1, constantValue := 0 }, { name := "serialPersistentFields", type := (.array (.object "java/io/ObjectStreamField")), accessFlags := 26, slot := 2, constantValue := 0 }, { name := "REPL", type := .char, accessFlags := 26, slot := 3, constantValue := 0 }, { name := "CASE_INSENSITIVE_ORDER", type := (.object "java/util/Comparator"), accessFlags := 25, slot := 4, constantValue := 0 }, { name := "LATIN1", type := .byte, accessFlags := 24, slot := 5, constantValue := 0 }, { name := "UTF16", type := .byte, accessFlags := 24, slot := 6, constantValue := 0 }]
  methods := #[k8m0, k8m1, k8m2, k8m3]
  instanceTypes := #[(.array .byte), .byte, .int, .boolean]
  staticTypes := #[.long, .boolean, (.array (.object "java/io/ObjectStreamField")), .char, (.object "java/util/Comparator"), .byte, .byte]
  resolved := Array.replicate 1451 none
  statics := some 0 }

def pool9 : Array CpInfo := pool [(4, .class_ 6), (1, u "java/lang/Object"), (0, u "<init>"), (0, u "()V"), (5, .class_ 16), (1, u "java/lang/StringLatin1"), (73, u "canEncode"), (14, u "(C)Z"), (15, u "$assertionsDisabled"), (0, u "Z"), (98, .class_ 223), (1, u "java/lang/StringLatin1$LinesSpliterator"), (57, u "equals"), (0, u "([B[B)Z"), (97, u "toBytes"), (1, u "(C)[B"), (7, .class_ 391), (0, u "java/lang/StringLatin1$CharsSpliterator")] 3

def k9m0 : Method := { name := "<init>", desc := "()V", sig := { parameters := [], returnType := none }, accessFlags := 0, code := none }
def k9c1 : Code := { maxStack := 2, maxLocals := 1, code := jdk_43_method_3_code, exceptionTable := #[], attributes := #[] }
def k9m1 : Method := { name := "canEncode", desc := "(C)Z", sig := { parameters := [.char], returnType := some .boolean }, accessFlags := 9, code := some k9c1 }
def k9c2 : Code := { maxStack := 3, maxLocals := 3, code := jdk_43_method_13_code, exceptionTable := #[], attributes := #[] }
def k9m2 : Method := { name := "equals", desc := "([B[B)Z", sig := { parameters := [(.array .byte), (.array .byte)], returnType := some .boolean }, accessFlags := 9, code := some k9c2 }
def k9c3 : Code := { maxStack := 4, maxLocals := 1, code := jdk_43_method_46_code, exceptionTable := #[], attributes := #[] }
def k9m3 : Method := { name := "toBytes", desc := "(C)[B", sig := { parameters := [.char], returnType := some (.array .byte) }, accessFlags := 9, code := some k9c3 }
/-- java/lang/StringLatin1 -/
def k9 : Class := { plain "java/lang/StringLatin1" (some 0) with
  accessFlags := 48
  interfaces := #[]
  cf := some (fileOf pool9 14 #[.nestMembers #[390, 221]] #[{ accessFlags := 0, nameIndex := 7, descriptorIndex := 8, attributes := #[] }, { accessFlags := 9, nameIndex := 90, descriptorIndex := 105, attributes := #[] }, { accessFlags := 9, nameIndex := 281, descriptorIndex := 282, attributes := #[] }, { accessFlags := 9, nameIndex := 380, descriptorIndex := 382, attributes := #[] }] 48 4 #[] #[{ accessFlags := 4120, nameIndex := 121, descriptorIndex := 122, attributes := #[] }])
  fields := #[{ name := "$assertionsDisabled", type := .boolean, accessFlags := 4120, slot := 0, constantValue := 0 }]
  methods := #[k9m0, k9m1, k9m2, k9m3]
  instanceTypes := #[]
  staticTypes := #[.boolean]
  resolved := Array.replicate 395 none
  statics := none }

def pool10 : Array CpInfo := pool [(2, .class_ 4), (1, u "java/lang/Object"), (0, u "<init>"), (0, u "()V"), (17, .class_ 26), (1, u "jdk/internal/util/Preconditions"), (28, .class_ 56), (0, u "jdk/internal/util/Preconditions$4"), (57, .class_ 115), (0, u "jdk/internal/util/Preconditions$1"), (7, u "SIOOBE_FORMATTER"), (0, u "Ljava/util/function/BiFunction;"), (0, .class_ 126), (0, u "jdk/internal/util/Preconditions$2"), (3, u "AIOOBE_FORMATTER"), (0, .class_ 132), (0, u "jdk/internal/util/Preconditions$3"), (3, u "IOOBE_FORMATTER")] 57

def k10m0 : Method := { name := "<init>", desc := "()V", sig := { parameters := [], returnType := none }, accessFlags := 1, code := none }
/-- jdk/internal/util/Preconditions -/
def k10 : Class := { plain "jdk/internal/util/Preconditions" (some 0) with
  accessFlags := 33
  interfaces := #[]
  cf := some (fileOf pool10 24 #[.nestMembers #[55, 131, 125, 114]] #[{ accessFlags := 1, nameIndex := 5, descriptorIndex := 6, attributes := #[] }] 33 2 #[] #[{ accessFlags := 25, nameIndex := 123, descriptorIndex := 124, attributes := #[] }, { accessFlags := 25, nameIndex := 130, descriptorIndex := 124, attributes := #[] }, { accessFlags := 25, nameIndex := 136, descriptorIndex := 124, attributes := #[] }])
  fields := #[{ name := "SIOOBE_FORMATTER", type := (.object "java/util/function/BiFunction"), accessFlags := 25, slot := 0, constantValue := 0 }, { name := "AIOOBE_FORMATTER", type := (.object "java/util/function/BiFunction"), accessFlags := 25, slot := 1, constantValue := 0 }, { name := "IOOBE_FORMATTER", type := (.object "java/util/function/BiFunction"), accessFlags := 25, slot := 2, constantValue := 0 }]
  methods := #[k10m0]
  instanceTypes := #[]
  staticTypes := #[(.object "java/util/function/BiFunction"), (.object "java/util/function/BiFunction"), (.object "java/util/function/BiFunction")]
  resolved := Array.replicate 194 none
  statics := some 1 }

def pool11 : Array CpInfo := pool [(9, u "<init>"), (6, .class_ 18), (1, u "java/lang/Object"), (0, u "()V"), (1, .class_ 23), (1, u "jdk/internal/util/ArraysSupport"), (0, u "LOG2_ARRAY_LONG_INDEX_SCALE"), (0, u "I"), (2, u "U"), (0, u "Ljdk/internal/misc/Unsafe;"), (8, u "BIG_ENDIAN"), (0, u "Z"), (8, u "LOG2_BYTE_BIT_SIZE"), (4, u "LOG2_ARRAY_INT_INDEX_SCALE"), (54, u "JLA"), (0, u "Ljdk/internal/access/JavaLangAccess;"), (11, u "LOG2_ARRAY_BOOLEAN_INDEX_SCALE"), (9, u "LOG2_ARRAY_BYTE_INDEX_SCALE"), (5, u "LOG2_ARRAY_CHAR_INDEX_SCALE"), (5, u "LOG2_ARRAY_SHORT_INDEX_SCALE"), (18, u "LOG2_ARRAY_FLOAT_INDEX_SCALE"), (24, u "LOG2_ARRAY_DOUBLE_INDEX_SCALE"), (89, u "T_BOOLEAN"), (2, u "T_CHAR"), (1, u "T_FLOAT"), (1, u "T_DOUBLE"), (1, u "T_BYTE"), (1, u "T_SHORT"), (1, u "T_INT"), (1, u "T_LONG"), (1, u "SOFT_MAX_ARRAY_LENGTH")] 83

def k11m0 : Method := { name := "<init>", desc := "()V", sig := { parameters := [], returnType := none }, accessFlags := 2, code := none }
/-- jdk/internal/util/ArraysSupport -/
def k11 : Class := { plain "jdk/internal/util/ArraysSupport" (some 0) with
  accessFlags := 33
  interfaces := #[]
  cf := some (fileOf pool11 21 #[] #[{ accessFlags := 2, nameIndex := 9, descriptorIndex := 19, attributes := #[] }] 33 16 #[] #[{ accessFlags := 24, nameIndex := 28, descriptorIndex := 29, attributes := #[] }, { accessFlags := 26, nameIndex := 38, descriptorIndex := 39, attributes := #[] }, { accessFlags := 25, nameIndex := 121, descriptorIndex := 25, attributes := #[] }, { accessFlags := 25, nameIndex := 131, descriptorIndex := 25, attributes := #[] }, { accessFlags := 25, nameIndex := 137, descriptorIndex := 25, attributes := #[] }, { accessFlags := 25, nameIndex := 143, descriptorIndex := 25, attributes := #[] }, { accessFlags := 25, nameIndex := 53, descriptorIndex := 25, attributes := #[] }, { accessFlags := 25, nameIndex := 24, descriptorIndex := 25, attributes := #[] }, { accessFlags := 25, nameIndex := 162, descriptorIndex := 25, attributes := #[] }, { accessFlags := 25, nameIndex := 187, descriptorIndex := 25, attributes := #[] }, { accessFlags := 26, nameIndex := 48, descriptorIndex := 25, attributes := #[] }, { accessFlags := 25, nameIndex := 277, descriptorIndex := 25, attributes := #[] }, { accessFlags := 25, nameIndex := 280, descriptorIndex := 25, attributes := #[] }, { accessFlags := 25, nameIndex := 282, descriptorIndex := 25, attributes := #[] }, { accessFlags := 25, nameIndex := 284, descriptorIndex := 25, attributes := #[] }, { accessFlags := 25, nameIndex := 286, descriptorIndex := 25, attributes := #[] }, { accessFlags := 25, nameIndex := 288, descriptorIndex := 25, attributes := #[] }, { accessFlags := 25, nameIndex := 290, descriptorIndex := 25, attributes := #[] }, { accessFlags := 25, nameIndex := 292, descriptorIndex := 25, attributes := #[] }, { accessFlags := 26, nameIndex := 108, descriptorIndex := 109, attributes := #[] }, { accessFlags := 25, nameIndex := 294, descriptorIndex := 25, attributes := #[] }])
  fields := #[{ name := "U", type := (.object "jdk/internal/misc/Unsafe"), accessFlags := 24, slot := 0, constantValue := 0 }, { name := "BIG_ENDIAN", type := .boolean, accessFlags := 26, slot := 1, constantValue := 0 }, { name := "LOG2_ARRAY_BOOLEAN_INDEX_SCALE", type := .int, accessFlags := 25, slot := 2, constantValue := 0 }, { name := "LOG2_ARRAY_BYTE_INDEX_SCALE", type := .int, accessFlags := 25, slot := 3, constantValue := 0 }, { name := "LOG2_ARRAY_CHAR_INDEX_SCALE", type := .int, accessFlags := 25, slot := 4, constantValue := 0 }, { name := "LOG2_ARRAY_SHORT_INDEX_SCALE", type := .int, accessFlags := 25, slot := 5, constantValue := 0 }, { name := "LOG2_ARRAY_INT_INDEX_SCALE", type := .int, accessFlags := 25, slot := 6, constantValue := 0 }, { name := "LOG2_ARRAY_LONG_INDEX_SCALE", type := .int, accessFlags := 25, slot := 7, constantValue := 0 }, { name := "LOG2_ARRAY_FLOAT_INDEX_SCALE", type := .int, accessFlags := 25, slot := 8, constantValue := 0 }, { name := "LOG2_ARRAY_DOUBLE_INDEX_SCALE", type := .int, accessFlags := 25, slot := 9, constantValue := 0 }, { name := "LOG2_BYTE_BIT_SIZE", type := .int, accessFlags := 26, slot := 10, constantValue := 0 }, { name := "T_BOOLEAN", type := .int, accessFlags := 25, slot := 11, constantValue := 0 }, { name := "T_CHAR", type := .int, accessFlags := 25, slot := 12, constantValue := 0 }, { name := "T_FLOAT", type := .int, accessFlags := 25, slot := 13, constantValue := 0 }, { name := "T_DOUBLE", type := .int, accessFlags := 25, slot := 14, constantValue := 0 }, { name := "T_BYTE", type := .int, accessFlags := 25, slot := 15, constantValue := 0 }, { name := "T_SHORT", type := .int, accessFlags := 25, slot := 16, constantValue := 0 }, { name := "T_INT", type := .int, accessFlags := 25, slot := 17, constantValue := 0 }, { name := "T_LONG", type := .int, accessFlags := 25, slot := 18, constantValue := 0 }, { name := "JLA", type := (.object "jdk/internal/access/JavaLangAccess"), accessFlags := 26, slot := 19, constantValue := 0 }, { name := "SOFT_MAX_ARRAY_LENGTH", type := .int, accessFlags := 25, slot := 20, constantValue := 0 }]
  methods := #[k11m0]
  instanceTypes := #[]
  staticTypes := #[(.object "jdk/internal/misc/Unsafe"), .boolean, .int, .int, .int, .int, .int, .int, .int, .int, .int, .int, .int, .int, .int, .int, .int, .int, .int, (.object "jdk/internal/access/JavaLangAccess"), .int]
  resolved := Array.replicate 378 none
  statics := none }

def pool12 : Array CpInfo := pool [(1, u "java/lang/Cloneable"), (0, .class_ 1), (0, u "java/lang/Object"), (0, .class_ 3)] 3

/-- java/lang/Cloneable -/
def k12 : Class := { plain "java/lang/Cloneable" (some 0) with
  accessFlags := 1537
  interfaces := #[]
  cf := some (fileOf pool12 2 #[] #[] 1537 4 #[] #[])
  fields := #[]
  methods := #[]
  instanceTypes := #[]
  staticTypes := #[]
  resolved := Array.replicate 8 none
  statics := none }

/-- the primitive byte -/
def k13 : Class := { plain "byte" none with kind := .primitive 'B', accessFlags := 0x411 }
/-- [B -/
def k14 : Class := { plain "[B" (some 0) with kind := .array 13 .byte, interfaces := #[12, 3], accessFlags := 1041 }

/-- the primitive int -/
def k15 : Class := { plain "int" none with kind := .primitive 'I', accessFlags := 0x411 }
/-- [I -/
def k16 : Class := { plain "[I" (some 0) with kind := .array 15 .int, interfaces := #[12, 3], accessFlags := 1041 }

def heap : Heap := #[{ cls := 8, slots := #[.long 0, .int 1, .null, .int 0, .null, .int 0, .int 0], vm := .statics 8 },
  { cls := 10, slots := #[.null, .null, .null], vm := .statics 10 }]
def classes : Array Class := #[k0, k1, k2, k3, k4, k5, k6, k7, k8, k9, k10, k11, k12, k13, k14, k15, k16]
def interned : List (Array UInt16 × Addr) := []
def slotsUsed : Nat := 10
def theMethod : MethodId := ⟨1, 1⟩
def args0 : Array Value := #[.int 5, .int 7, .long 5, .long 8, .int 0]
def aboutOver (below : List Frame) : State where
  vm := { classes := classes, interned := interned.toArray }
  heap := heap
  slotsUsed := slotsUsed
  threads := #[{ frames := .invoking theMethod args0 :: below }]
def below0 : List Frame := [.native { method := ⟨0, 0⟩, args := #[] }]
def about1 : State := aboutOver below0
def p0 : Program := .bare "" "" ""
def e0 : Env := launch0.env 0 0 0
theorem w_frames : about1.frames = Frame.invoking theMethod args0 :: below0 := rfl
set_option maxRecDepth 65536 in
theorem w_args : argsFit about1.vm theMethod args0 = true := by decide +kernel
set_option maxRecDepth 65536 in
theorem w_heap : heapFits about1 = true := by decide +kernel
set_option maxRecDepth 65536 in
theorem w_runnable : about1.curStatus? = some .runnable := by decide +kernel
set_option maxRecDepth 65536 in
theorem w_alone : about1.alone = true := by decide +kernel
set_option maxRecDepth 65536 in
theorem w_named : about1.methodNamed? x = some theMethod := by decide +kernel
set_option maxRecDepth 65536 in
theorem w_hears : about1.hears theMethod below0 = true := by decide +kernel
set_option maxRecDepth 65536 in
theorem w_ripe : about1.ripe theMethod args0 below0 = true := by decide +kernel
theorem w_running : about1.status = .running := rfl
set_option maxRecDepth 65536 in
theorem w_room : about1.hasRoom e0.platform room_1 = true :=
  launch0.hasRoom_least _ room_1 (by decide +kernel) (by decide +kernel) (by decide +kernel) (by decide +kernel) (by decide +kernel) (by decide +kernel)
theorem allAtoms_all (ts : List Jvm.Cond) (a : Array Jvm.Value) (st : Jvm.State) : (allAtoms ts).before a st = ts.all (fun c => c.before a st) := by
  induction ts with
  | nil => rfl
  | cons c t ih =>
    show (Jvm.Cond.and c (allAtoms t)).before a st = _
    rw [Jvm.Cond.before_and, ih, List.all_cons]
def words1 : List Jvm.Cond := Jvm.Cond.code x code maxLocals ret :: tables_1
/-- a 'code' word, met by the world's own term for the bytes: nothing is compared byte by byte -/
theorem code_word {y : MethodName} {bytes : ByteArray} {mx : Nat} {rt : Option FieldType} {a : Array Value} {s : State} {m : MethodId} {meth : Method} {c : Code} (h1 : s.methodNamed? y = some m) (h2 : s.vm.method? m = some meth) (h3 : meth.code = some c) (h4 : c.code = bytes)
    (h5 : (c.maxLocals == mx && c.exceptionTable.isEmpty && decide (c.maxStack ≤ mostOperands) && decide (meth.sig.returnType = rt) && !meth.locks && decide (parseMethodDescriptor y.desc = some meth.sig)) = true) : (Jvm.Cond.code y bytes mx rt).before a s = true := by
  simp only [Bool.and_eq_true, beq_iff_eq, Bool.not_eq_true', decide_eq_true_eq] at h5
  obtain ⟨⟨⟨⟨⟨g1, g2⟩, g3⟩, g4⟩, g5⟩, g6⟩ := h5
  simp [Cond.before, Cond.holds, Cond.value, h1, h2, h3, h4, g1, g2, g3, g4, g5, g6]
def isCode : Jvm.Cond → Bool
  | .code _ _ _ _ => true
  | _ => false
theorem all_split {L : List Jvm.Cond} {P : Jvm.Cond → Bool} (h1 : L.all (fun c => isCode c || P c) = true) (h2 : ∀ c ∈ L.filter isCode, P c = true) : L.all P = true := by
  refine List.all_eq_true.mpr fun c hc => ?_
  have h := List.all_eq_true.mp h1 c hc
  rcases Bool.eq_false_or_eq_true (isCode c) with hi | hi
  · exact h2 c (List.mem_filter.mpr ⟨hc, hi⟩)
  · simpa [hi] using h
set_option maxRecDepth 65536 in
theorem w_c0 : (Jvm.Cond.code x code maxLocals ret).before args0 about1 = true := code_word (m := ⟨1, 1⟩) (meth := k1m1) (c := k1c1) (by decide +kernel) rfl rfl rfl (by decide +kernel)
set_option maxRecDepth 65536 in
theorem w_c1 : (Jvm.Cond.code ({ cls := "java/lang/String", name := "valueOf", desc := "(C)Ljava/lang/String;" } : Jvm.MethodName) jdk_42_method_139_code (1 : Nat) (Option.some (Jvm.ClassFile.FieldType.object "java/lang/String"))).before args0 about1 = true := code_word (m := ⟨8, 2⟩) (meth := k8m2) (c := k8c2) (by decide +kernel) rfl rfl rfl (by decide +kernel)
set_option maxRecDepth 65536 in
theorem w_c2 : (Jvm.Cond.code ({ cls := "java/lang/StringLatin1", name := "canEncode", desc := "(C)Z" } : Jvm.MethodName) jdk_43_method_3_code (1 : Nat) (Option.some Jvm.ClassFile.FieldType.boolean)).before args0 about1 = true := code_word (m := ⟨9, 1⟩) (meth := k9m1) (c := k9c1) (by decide +kernel) rfl rfl rfl (by decide +kernel)
set_option maxRecDepth 65536 in
theorem w_c3 : (Jvm.Cond.code ({ cls := "java/lang/StringLatin1", name := "toBytes", desc := "(C)[B" } : Jvm.MethodName) jdk_43_method_46_code (1 : Nat) (Option.some (Jvm.ClassFile.FieldType.array Jvm.ClassFile.FieldType.byte))).before args0 about1 = true := code_word (m := ⟨9, 3⟩) (meth := k9m3) (c := k9c3) (by decide +kernel) rfl rfl rfl (by decide +kernel)
set_option maxRecDepth 65536 in
theorem w_c4 : (Jvm.Cond.code ({ cls := "java/lang/String", name := "<init>", desc := "([BB)V" } : Jvm.MethodName) jdk_42_method_151_code (3 : Nat) (Option.none : Option Jvm.ClassFile.FieldType)).before args0 about1 = true := code_word (m := ⟨8, 3⟩) (meth := k8m3) (c := k8c3) (by decide +kernel) rfl rfl rfl (by decide +kernel)
set_option maxRecDepth 65536 in
theorem w_c5 : (Jvm.Cond.code ({ cls := "java/lang/Object", name := "<init>", desc := "()V" } : Jvm.MethodName) object_method_1_code (1 : Nat) (Option.none : Option Jvm.ClassFile.FieldType)).before args0 about1 = true := code_word (m := ⟨0, 0⟩) (meth := k0m0) (c := k0c0) (by decide +kernel) rfl rfl rfl (by decide +kernel)
set_option maxRecDepth 65536 in
theorem w_c6 : (Jvm.Cond.code ({ cls := "com/example/preference_store/preferencestore/storage/Entry", name := "<init>", desc := "(Ljava/lang/String;Ljava/lang/String;Ljava/lang/String;J)V" } : Jvm.MethodName) prog_11_method_1_code (6 : Nat) (Option.none : Option Jvm.ClassFile.FieldType)).before args0 about1 = true := code_word (m := ⟨2, 0⟩) (meth := k2m0) (c := k2c0) (by decide +kernel) rfl rfl rfl (by decide +kernel)
set_option maxRecDepth 65536 in
theorem w_c7 : (Jvm.Cond.code ({ cls := "com/example/preference_store/preferencestore/storage/Entry", name := "equals", desc := "(Ljava/lang/Object;)Z" } : Jvm.MethodName) prog_11_method_6_code (3 : Nat) (Option.some Jvm.ClassFile.FieldType.boolean)).before args0 about1 = true := code_word (m := ⟨2, 1⟩) (meth := k2m1) (c := k2c1) (by decide +kernel) rfl rfl rfl (by decide +kernel)
set_option maxRecDepth 65536 in
theorem w_c8 : (Jvm.Cond.code ({ cls := "java/lang/String", name := "equals", desc := "(Ljava/lang/Object;)Z" } : Jvm.MethodName) jdk_42_method_66_code (3 : Nat) (Option.some Jvm.ClassFile.FieldType.boolean)).before args0 about1 = true := code_word (m := ⟨8, 1⟩) (meth := k8m1) (c := k8c1) (by decide +kernel) rfl rfl rfl (by decide +kernel)
set_option maxRecDepth 65536 in
theorem w_c9 : (Jvm.Cond.code ({ cls := "java/lang/StringLatin1", name := "equals", desc := "([B[B)Z" } : Jvm.MethodName) jdk_43_method_13_code (3 : Nat) (Option.some Jvm.ClassFile.FieldType.boolean)).before args0 about1 = true := code_word (m := ⟨9, 2⟩) (meth := k9m2) (c := k9c2) (by decide +kernel) rfl rfl rfl (by decide +kernel)
def codes1 : List Jvm.Cond := [Jvm.Cond.code x code maxLocals ret, Jvm.Cond.code ({ cls := "java/lang/String", name := "valueOf", desc := "(C)Ljava/lang/String;" } : Jvm.MethodName) jdk_42_method_139_code (1 : Nat) (Option.some (Jvm.ClassFile.FieldType.object "java/lang/String")), Jvm.Cond.code ({ cls := "java/lang/StringLatin1", name := "canEncode", desc := "(C)Z" } : Jvm.MethodName) jdk_43_method_3_code (1 : Nat) (Option.some Jvm.ClassFile.FieldType.boolean), Jvm.Cond.code ({ cls := "java/lang/StringLatin1", name := "toBytes", desc := "(C)[B" } : Jvm.MethodName) jdk_43_method_46_code (1 : Nat) (Option.some (Jvm.ClassFile.FieldType.array Jvm.ClassFile.FieldType.byte)), Jvm.Cond.code ({ cls := "java/lang/String", name := "<init>", desc := "([BB)V" } : Jvm.MethodName) jdk_42_method_151_code (3 : Nat) (Option.none : Option Jvm.ClassFile.FieldType), Jvm.Cond.code ({ cls := "java/lang/Object", name := "<init>", desc := "()V" } : Jvm.MethodName) object_method_1_code (1 : Nat) (Option.none : Option Jvm.ClassFile.FieldType), Jvm.Cond.code ({ cls := "com/example/preference_store/preferencestore/storage/Entry", name := "<init>", desc := "(Ljava/lang/String;Ljava/lang/String;Ljava/lang/String;J)V" } : Jvm.MethodName) prog_11_method_1_code (6 : Nat) (Option.none : Option Jvm.ClassFile.FieldType), Jvm.Cond.code ({ cls := "com/example/preference_store/preferencestore/storage/Entry", name := "equals", desc := "(Ljava/lang/Object;)Z" } : Jvm.MethodName) prog_11_method_6_code (3 : Nat) (Option.some Jvm.ClassFile.FieldType.boolean), Jvm.Cond.code ({ cls := "java/lang/String", name := "equals", desc := "(Ljava/lang/Object;)Z" } : Jvm.MethodName) jdk_42_method_66_code (3 : Nat) (Option.some Jvm.ClassFile.FieldType.boolean), Jvm.Cond.code ({ cls := "java/lang/StringLatin1", name := "equals", desc := "([B[B)Z" } : Jvm.MethodName) jdk_43_method_13_code (3 : Nat) (Option.some Jvm.ClassFile.FieldType.boolean)]
set_option maxRecDepth 65536 in
theorem codes_eq : words1.filter isCode = codes1 := rfl
theorem w_codes : ∀ c ∈ words1.filter isCode, c.before args0 about1 = true := by
  rw [codes_eq]
  intro c hc
  simp only [codes1, List.mem_cons, List.not_mem_nil, or_false] at hc
  rcases hc with rfl | rfl | rfl | rfl | rfl | rfl | rfl | rfl | rfl | rfl
  · exact w_c0
  · exact w_c1
  · exact w_c2
  · exact w_c3
  · exact w_c4
  · exact w_c5
  · exact w_c6
  · exact w_c7
  · exact w_c8
  · exact w_c9
set_option maxRecDepth 65536 in
theorem w_t1 : (words1.take 24).all (fun c => isCode c || c.before args0 about1) = true := by decide +kernel
set_option maxRecDepth 65536 in
theorem w_t2 : ((words1.drop 24).take 24).all (fun c => isCode c || c.before args0 about1) = true := by decide +kernel
set_option maxRecDepth 65536 in
theorem w_t3 : ((words1.drop 24).drop 24).all (fun c => isCode c || c.before args0 about1) = true := by decide +kernel
theorem w_tables : (allAtoms (Jvm.Cond.code x code maxLocals ret :: tables_1)).before args0 about1 = true := by
  rw [allAtoms_all]
  show words1.all (fun c => c.before args0 about1) = true
  refine all_split ?_ w_codes
  rw [← List.take_append_drop 24 words1, List.all_append, w_t1, ← List.take_append_drop 24 (words1.drop 24), List.all_append, w_t2, w_t3]
  rfl
set_option maxRecDepth 65536 in
theorem w_rest : rest_1_c.before args0 about1 = true := by decide +kernel
set_option maxRecDepth 65536 in
theorem w_case : (Jvm.Cond.and given_1 narrow_1).before args0 about1 = true := by decide +kernel
theorem w_applies : (headSpec (Jvm.Cond.code x code maxLocals ret :: tables_1) room_1).applies x e0.platform about1 = true :=
  (Spec.applies_iff w_frames).mpr ⟨w_running, w_runnable, w_alone, w_named, w_hears, w_ripe, w_room, w_tables⟩
theorem atStart : AtStart classFile x code maxLocals ret World_1 tables_1 room_1 Calls_1 rest_1 Pre_1 launch0 p0 e0 about1 theMethod args0 below0 :=
  ⟨lists_1, trivial, launch0.admits_env _ _ _, launch0.least_env, fairChoices_fair.cas, fairChoices_fair.clock, w_frames, w_args, w_heap, w_applies, trivial, w_rest, w_case⟩
end start1
theorem witness_1 : WitnessClaimed_1 := ⟨start1.p0, start1.e0, start1.about1, start1.theMethod, start1.args0, start1.below0, start1.atStart⟩
end Jvm.Pilot.@@N@@
