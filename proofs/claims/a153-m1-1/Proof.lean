import JvmDerived
import JvmDerived.Pilot.@@N@@Statement
import JvmDerived.Pilot.@@N@@Code
set_option linter.unusedVariables false
set_option linter.unusedSimpArgs false
namespace Jvm.RoadKit
open Sem ClassFile Op Lib Jvm.Stand Jvm.Free Jvm.LawKit
/-- the run from S ends, and ends as Q says -/
def Go (tb : Tables) (e : Env) (below : List Frame) (Q : Outcome → State → Prop) (S : State) : Prop := ∃ s₂ o, Steps tb e below S s₂ ∧ s₂.status = .running ∧ Ended s₂ below o ∧ Q o s₂
theorem Go.by {tb : Tables} {e : Env} {below : List Frame} {Q : Outcome → State → Prop} {S S' : State} (h : ∀ t, Steps tb e below S' t → Steps tb e below S t) (k : Go tb e below Q S') : Go tb e below Q S := by
  obtain ⟨s₂, o, h1, r⟩ := k
  exact ⟨s₂, o, h _ h1, r⟩
/-- what a contract says of the end -/
def Ret (s : State) (n0 : Nat) (Q : Option Value → Heap → Prop) (C S : Nat) : Outcome → State → Prop := fun o U => ∃ v L, o = .returned v ∧ (Q v U.heap ∧ Fr n0 L) ∧ FrameEnd s o U L C S
def Met (l : Launch) (Z : State) (n0 : Nat) (y : MethodName) (bytes : ByteArray) (maxL : Nat) (ret : Option FieldType) (ws : List Cond) (rm : Room) (as : Array Value) (h0 : Heap) (Q : Option Value → Heap → Prop) : Prop :=
  MetFree l y (head1 (Cond.code y bytes maxL ret :: ws) rm) (fun a U => a = as ∧ Z.Warmed39 U.vm ∧ U.heap = h0) (fun _ _ _ _ _ => True) (fun _ U o U' => ∃ v L, o = .returned v ∧ (Q v U'.heap ∧ Fr n0 L) ∧ FrameEnd U o U' L rm.cells rm.slots)
/-- where the walk stands: the heap is h, k cells of n slots were made, nothing below n0 was written -/
def Sd (n0 : Nat) (p : Program) (l : Launch) (e : Env) (R : Room) (s : State) (m : MethodId) (args : Array Value) (below : List Frame) (meth : Method) (c : Code) (T : State) (h : Heap) (k n : Nat) : Prop :=
  ∃ locs, Stand p l e R s m args below meth c T locs k n ∧ Fr n0 locs ∧ T.heap = h
section Sds
variable {n0 : Nat} {p : Program} {l : Launch} {e : Env} {R : Room} {s : State} {m : MethodId} {args : Array Value} {below : List Frame} {meth : Method} {c : Code} {T : State} {h : Heap} {k n : Nat} {Z : State} {a0 : Array Value}
theorem catV {v : Value} (h : v.isRef = true) : v.category = 1 := by cases v <;> first | rfl | (cases h; done)
theorem Sd.here (X : Sd n0 p l e R s m args below meth c T h k n) : At T m c below := by obtain ⟨_, X, -⟩ := X; exact X.here
theorem Sd.more (X : Sd n0 p l e R s m args below meth c T h k n) {k' n' : Nat} (hk : k ≤ k') (hn : n ≤ n') : Sd n0 p l e R s m args below meth c T h k' n' := by
  obtain ⟨L, X, N, q⟩ := X; exact ⟨L, X.more hk hn, N, q⟩
theorem enter {y : MethodName} {bytes : ByteArray} {maxL : Nat} {ret : Option FieldType} {ws : List Cond} {rm : Room} {as : Array Value} {h0 : Heap} {Q : Option Value → Heap → Prop} {Ls : Array Slot}
    (hpl : plainFor y = true) (hef : ∀ m, entryFrame m as maxL = mkF m 0 Ls [])
    (body : ∀ (p : Program) (e : Env) (s : State) (m : MethodId) (below : List Frame) (meth : Method) (c : Code) (T0 : State), p.tables.exec = Jvm.exec → c.code = bytes → c.maxLocals = maxL → s.vm.findClass y.cls = some m.cls → meth.name = y.name → meth.sig.returnType = ret → meth.locks = false → Z.Warmed39 s.vm →
      Sd n0 p l e rm s m as below meth c T0 h0 0 0 → Go p.tables e below (Ret s n0 Q rm.cells rm.slots) (T0.setTop (mkF m 0 Ls []))) : Met l Z n0 y bytes maxL ret ws rm as h0 Q := by
  refine MetFree.of_bodySF hpl hisR ?_
  intro p e s m args below meth c s₁ Bd hml0 hP hK
  obtain ⟨rfl, hZ, hh⟩ := hP
  have X0 : Stand p l e rm s m args below meth c s₁ [] 0 0 := Stand.of_body Bd
  have e0 : s₁.heap = h0 := by rw [← hh, Bd.state]; rfl
  have hlk : meth.locks = false := BodyLoose.notSynchronized Bd
  have k := body p e s m below meth c s₁ Bd.exec Bd.bytes hml0 (findClass_of_methodNamed Bd.named) (name_of_methodNamed Bd.named Bd.method).1 Bd.returns hlk hZ ⟨[], X0, Fr.nil n0, e0⟩
  obtain ⟨s₂, o, h1, h2, h3, h4⟩ := k
  exact ⟨s₂, o, castTop (hef m) h1, h2, h3, h4⟩
/-! returns -/
theorem Go.leave (X : Sd n0 p l e R s m args below meth c T h k n) {Q : Option Value → Heap → Prop} {C S : Nat} {v : Option Value} {g : JFrame} (hlk : meth.locks = false) (hv : meth.sig.returnType = none → v = none)
    (hst : ∀ fs, (∀ (f : JFrame) (acts : List Action), f.method = m → f.locked = none → f.entered = [] → (doReturn e (T.setTop f) acts v).1 = T.setFrames fs) → Steps p.tables e below (T.setTop g) (T.setFrames fs))
    (hk : k ≤ C) (hn : n ≤ S) (hQ : Q v h) : Go p.tables e below (Ret s n0 Q C S) (T.setTop g) := by
  obtain ⟨L, X, N, q⟩ := X
  obtain ⟨fs, hr, hrun, hended, hW, hsame⟩ := X.leave (v := v) hv hlk
  refine ⟨_, _, hst fs hr, hrun, hended, _, L, rfl, ⟨?_, N⟩, ⟨_, rfl⟩, hW, hsame.mono hk hn⟩
  show Q v T.heap
  rw [q]; exact hQ
theorem Go.retN (X : Sd n0 p l e R s m args below meth c T h k n) (hx : p.tables.exec = Jvm.exec) (hlk : meth.locks = false) {Q : Option Value → Heap → Prop} {C S : Nat} {t : FieldType} {pc : Nat} {Ls : Array Slot} {z z' : Int32} {rest : List Value} (hret : meth.sig.returnType = some t) (ht : t = .boolean ∨ t = .byte ∨ t = .char ∨ t = .short)
    (hd : decode c.code pc = .ok (.ireturn, 1)) (hz : nar t z = z') (hk : k ≤ C) (hn : n ≤ S) (hQ : Q (some (.int z')) h) : Go p.tables e below (Ret s n0 Q C S) (T.setTop (mkF m pc Ls (.int z :: rest))) := by
  subst hz
  refine Go.leave X hlk (fun q => by rw [hret] at q; cases q) (fun fs hr => ?_) hk hn hQ
  obtain ⟨L, X, -⟩ := X
  exact Jvm.RoadKit.retN X hx hret ht hd hr
theorem Go.retI (X : Sd n0 p l e R s m args below meth c T h k n) (hx : p.tables.exec = Jvm.exec) (hlk : meth.locks = false) {Q : Option Value → Heap → Prop} {C S : Nat} {pc : Nat} {Ls : Array Slot} {z : Int32} {rest : List Value} (hret : meth.sig.returnType = some .int)
    (hd : decode c.code pc = .ok (.ireturn, 1)) (hk : k ≤ C) (hn : n ≤ S) (hQ : Q (some (.int z)) h) : Go p.tables e below (Ret s n0 Q C S) (T.setTop (mkF m pc Ls (.int z :: rest))) := by
  refine Go.leave X hlk (fun q => by rw [hret] at q; cases q) (fun fs hr => ?_) hk hn hQ
  obtain ⟨L, X, -⟩ := X
  exact retOut X hx hret rfl (Or.inl ⟨rfl, Or.inl rfl, _, rfl⟩) hd hr
theorem Go.retL (X : Sd n0 p l e R s m args below meth c T h k n) (hx : p.tables.exec = Jvm.exec) (hlk : meth.locks = false) {Q : Option Value → Heap → Prop} {C S : Nat} {pc : Nat} {Ls : Array Slot} {z : Int64} {rest : List Value} (hret : meth.sig.returnType = some .long)
    (hd : decode c.code pc = .ok (.lreturn, 1)) (hk : k ≤ C) (hn : n ≤ S) (hQ : Q (some (.long z)) h) : Go p.tables e below (Ret s n0 Q C S) (T.setTop (mkF m pc Ls (.long z :: rest))) := by
  refine Go.leave X hlk (fun q => by rw [hret] at q; cases q) (fun fs hr => ?_) hk hn hQ
  obtain ⟨L, X, -⟩ := X
  exact retOut X hx hret rfl (Or.inr (Or.inl ⟨rfl, rfl, _, rfl⟩)) hd hr
theorem Go.retA (X : Sd n0 p l e R s m args below meth c T h k n) (hx : p.tables.exec = Jvm.exec) (hlk : meth.locks = false) {Q : Option Value → Heap → Prop} {C S : Nat} {t : FieldType} {pc : Nat} {Ls : Array Slot} {w : Value} {rest : List Value} (hret : meth.sig.returnType = some t) (ht : t.isReference = true) (hw : w.isRef = true)
    (hd : decode c.code pc = .ok (.areturn, 1)) (hk : k ≤ C) (hn : n ≤ S) (hQ : Q (some w) h) : Go p.tables e below (Ret s n0 Q C S) (T.setTop (mkF m pc Ls (w :: rest))) := by
  refine Go.leave X hlk (fun q => by rw [hret] at q; cases q) (fun fs hr => ?_) hk hn hQ
  obtain ⟨L, X, -⟩ := X
  have hnar : narrow t w = w := by cases t <;> first | (cases ht; done) | (cases w <;> first | rfl | (cases hw; done))
  exact retOut X hx hret hnar (Or.inr (Or.inr (Or.inr (Or.inr ⟨rfl, ht, hw⟩)))) hd hr
theorem Go.ret0 (X : Sd n0 p l e R s m args below meth c T h k n) (hx : p.tables.exec = Jvm.exec) (hlk : meth.locks = false) {Q : Option Value → Heap → Prop} {C S : Nat} {pc : Nat} {Ls : Array Slot} (hret : meth.sig.returnType = none)
    (hd : decode c.code pc = .ok (.return_, 1)) (hk : k ≤ C) (hn : n ≤ S) (hQ : Q none h) : Go p.tables e below (Ret s n0 Q C S) (T.setTop (mkF m pc Ls [])) := by
  refine Go.leave X hlk (fun _ => rfl) (fun fs hr => ?_) hk hn hQ
  obtain ⟨L, X, -⟩ := X
  exact X.returnOut hx hret hd hr
/-! fields, statics, casts -/
theorem Sd.getF (X : Sd n0 p l e R s m args below meth c T h k n) (hx : p.tables.exec = Jvm.exec) (hZ : Z.Warmed39 s.vm) {own R0 O nm d host : String} {index : Nat} (hown : s.vm.findClass own = some m.cls) (w : (Cond.fieldLink own index R0 nm d).before a0 Z = true ∨ (Cond.fieldLinkNest own index R0 nm d host).before a0 Z = true) (via : Via Z R0 O nm d)
    {a : Addr} {v : Value} (F : Fld Z h a O nm d v) {g : JFrame} (hg : g.method = m) {rest : List Value} (hs : g.stack = .ref a :: rest) (hd : decode c.code g.pc = .ok (.getfield index, 3)) :
    ∃ T', Sd n0 p l e R s m args below meth c T' h k n ∧ ∀ target, Steps p.tables e below (T'.setTop { g with pc := g.pc + 3, stack := v :: rest }) target → Steps p.tables e below (T.setTop g) target := by
  obtain ⟨L, X, N, q⟩ := X
  obtain ⟨T', X', e', st⟩ := Jvm.RoadKit.getF X hx hZ hown w via q F hg hs hd
  exact ⟨T', ⟨L, X', N, e'⟩, st⟩
theorem Sd.getS (X : Sd n0 p l e R s m args below meth c T h k n) (hx : p.tables.exec = Jvm.exec) (hZ : Z.Warmed39 s.vm) {own R0 O nm d host : String} {index : Nat} (hown : s.vm.findClass own = some m.cls) (w : (Cond.fieldLink own index R0 nm d).before a0 Z = true ∨ (Cond.fieldLinkNest own index R0 nm d host).before a0 Z = true) (via : Via Z R0 O nm d)
    {v : Value} (F : Sta Z h O nm d v) {g : JFrame} (hg : g.method = m) (hd : decode c.code g.pc = .ok (.getstatic index, 3)) :
    ∃ T', Sd n0 p l e R s m args below meth c T' h k n ∧ ∀ target, Steps p.tables e below (T'.setTop { g with pc := g.pc + 3, stack := v :: g.stack }) target → Steps p.tables e below (T.setTop g) target := by
  obtain ⟨L, X, N, q⟩ := X
  obtain ⟨T', X', e', st⟩ := getS2 X hx hZ hown w via q F hg hd
  exact ⟨T', ⟨L, X', N, e'⟩, st⟩
theorem Sd.putF (X : Sd n0 p l e R s m args below meth c T h k n) (hx : p.tables.exec = Jvm.exec) (hZ : Z.Warmed39 s.vm) {own R0 O nm d host C : String} {index kk : Nat} {ty : FieldType} (hown : s.vm.findClass own = some m.cls) (w : (Cond.fieldLink own index R0 nm d).before a0 Z = true ∨ (Cond.fieldLinkNest own index R0 nm d host).before a0 Z = true) (via : Via Z R0 O nm d)
    {a : Addr} {v old : Value} (F : Fld Z h a O nm d old) (E : Exa Z h a C) (ga : n0 ≤ a) (L : (Cond.lays C O nm d).before a0 Z = true ∨ ((Cond.laysFinal C O nm d).before a0 Z = true ∧ own = O ∧ meth.name = "<init>")) (wi : (Cond.instantiable C kk).before a0 Z = true)
    (hty : parseFieldDescriptor d = some ty) (hnr : narrow ty v = v) (hf : fits ty v = true) {g : JFrame} (hg : g.method = m) {rest : List Value} (hs : g.stack = v :: .ref a :: rest) (hd : decode c.code g.pc = .ok (.putfield index, 3)) :
    ∃ T' h', Sd n0 p l e R s m args below meth c T' h' k n ∧ Wr h h' a (slotOf Z O nm d) v ∧ ∀ target, Steps p.tables e below (T'.setTop { g with pc := g.pc + 3, stack := rest }) target → Steps p.tables e below (T.setTop g) target := by
  obtain ⟨Lc, X, N, q⟩ := X
  obtain ⟨T', h', X', e', W, st⟩ := Jvm.RoadKit.putF X hx hZ hown w via q F E L wi hty hnr hf hg hs hd
  exact ⟨T', h', ⟨_, X', Fr.snoc X' N ga, e'⟩, W, st⟩
theorem Sd.putFN (X : Sd n0 p l e R s m args below meth c T h k n) (hx : p.tables.exec = Jvm.exec) (hZ : Z.Warmed39 s.vm) {own R0 O nm d C : String} {index kk : Nat} {ty : FieldType} (hown : s.vm.findClass own = some m.cls) (w : (Cond.fieldLink own index R0 nm d).before a0 Z = true) (via : Via Z R0 O nm d)
    {a : Addr} {v v' old : Value} (F : Fld Z h a O nm d old) (E : Exa Z h a C) (ga : n0 ≤ a) (L : (Cond.lays C O nm d).before a0 Z = true ∨ ((Cond.laysFinal C O nm d).before a0 Z = true ∧ own = O ∧ meth.name = "<init>")) (wi : (Cond.instantiable C kk).before a0 Z = true)
    (hty : parseFieldDescriptor d = some ty) (hnr : narrow ty v = v') (hf : fits ty v' = true) {g : JFrame} (hg : g.method = m) {rest : List Value} (hs : g.stack = v :: .ref a :: rest) (hd : decode c.code g.pc = .ok (.putfield index, 3)) :
    ∃ T' h', Sd n0 p l e R s m args below meth c T' h' k n ∧ Wr h h' a (slotOf Z O nm d) v' ∧ ∀ target, Steps p.tables e below (T'.setTop { g with pc := g.pc + 3, stack := rest }) target → Steps p.tables e below (T.setTop g) target := by
  obtain ⟨Lc, X, N, q⟩ := X
  obtain ⟨T', h', X', e', W, st⟩ := Jvm.RoadKit.putFN X hx hZ hown w via q F E L wi hty hnr hf hg hs hd
  exact ⟨T', h', ⟨_, X', Fr.snoc X' N ga, e'⟩, W, st⟩
theorem Sd.castY (X : Sd n0 p l e R s m args below meth c T h k n) (hx : p.tables.exec = Jvm.exec) (hZ : Z.Warmed39 s.vm) {own K : String} {index : Nat} (hown : s.vm.findClass own = some m.cls) (w : (Cond.classLink own index K).before a0 Z = true) {a : Addr} (F : Ins Z h a K true)
    {g : JFrame} (hg : g.method = m) {rest : List Value} (hs : g.stack = .ref a :: rest) (hd : decode c.code g.pc = .ok (.checkcast index, 3)) :
    ∃ T', Sd n0 p l e R s m args below meth c T' h k n ∧ ∀ target, Steps p.tables e below (T'.setTop { g with pc := g.pc + 3 }) target → Steps p.tables e below (T.setTop g) target := by
  obtain ⟨L, X, N, q⟩ := X
  obtain ⟨T', X', e', st⟩ := Jvm.RoadKit.castY X hx hZ hown w q F hg hs hd
  exact ⟨T', ⟨L, X', N, e'⟩, st⟩
theorem Sd.instY (X : Sd n0 p l e R s m args below meth c T h k n) (hx : p.tables.exec = Jvm.exec) (hZ : Z.Warmed39 s.vm) {own K : String} {index : Nat} (hown : s.vm.findClass own = some m.cls) (w : (Cond.classLink own index K).before a0 Z = true) {a : Addr} (F : Ins Z h a K true)
    {g : JFrame} (hg : g.method = m) {rest : List Value} (hs : g.stack = .ref a :: rest) (hd : decode c.code g.pc = .ok (.instanceof index, 3)) :
    ∃ T', Sd n0 p l e R s m args below meth c T' h k n ∧ ∀ target, Steps p.tables e below (T'.setTop { g with pc := g.pc + 3, stack := .int 1 :: rest }) target → Steps p.tables e below (T.setTop g) target := by
  obtain ⟨L, X, N, q⟩ := X
  obtain ⟨T', X', e', st⟩ := Jvm.RoadKit.instY X hx hZ hown w q F hg hs hd
  exact ⟨T', ⟨L, X', N, e'⟩, st⟩
theorem Sd.instNull (X : Sd n0 p l e R s m args below meth c T h k n) (hx : p.tables.exec = Jvm.exec) {index : Nat} {g : JFrame} (hg : g.method = m) {rest : List Value} (hs : g.stack = .null :: rest) (hd : decode c.code g.pc = .ok (.instanceof index, 3)) :
    ∀ target, Steps p.tables e below (T.setTop { g with pc := g.pc + 3, stack := .int 0 :: rest }) target → Steps p.tables e below (T.setTop g) target := by
  obtain ⟨L, X, -⟩ := X; exact X.instanceofNull hx hg hs hd
theorem Sd.ldcInt (X : Sd n0 p l e R s m args below meth c T h k n) (hx : p.tables.exec = Jvm.exec) (hZ : Z.Warmed39 s.vm) {own : String} {index : Nat} {v : Int32} (hown : s.vm.findClass own = some m.cls) (w : (Cond.constant own index v).before a0 Z = true) {g : JFrame} (hg : g.method = m) (hd : decode c.code g.pc = .ok (.ldc index, 2)) :
    ∀ target, Steps p.tables e below (T.setTop { g with pc := g.pc + 2, stack := .int v :: g.stack }) target → Steps p.tables e below (T.setTop g) target := by
  obtain ⟨L, X, -⟩ := X; exact X.ldcInt hx hown (mvT hZ w) hg hd
theorem Sd.ldc2Long (X : Sd n0 p l e R s m args below meth c T h k n) (hx : p.tables.exec = Jvm.exec) (hZ : Z.Warmed39 s.vm) {own : String} {index : Nat} {v : Int64} (hown : s.vm.findClass own = some m.cls) (w : (Cond.constantLong own index v).before a0 Z = true) {g : JFrame} (hg : g.method = m) (hd : decode c.code g.pc = .ok (.ldc2_w index, 3)) :
    ∀ target, Steps p.tables e below (T.setTop { g with pc := g.pc + 3, stack := .long v :: g.stack }) target → Steps p.tables e below (T.setTop g) target := by
  obtain ⟨L, X, -⟩ := X; exact X.ldc2Long hx hown (mvT hZ w) hg hd
theorem Sd.acmp {g : JFrame} (X : Sd n0 p l e R s m args below meth c T h k n) (hx : p.tables.exec = Jvm.exec) (hg : g.method = m) {cd : ACond} {x y : Value} (h1 : x.isRef = true) (h2 : y.isRef = true) {rest : List Value} {o : Int} {pc0 pc' : Nat} {same : Bool} (hpc : g.pc = pc0)
    (hd : decode c.code g.pc = .ok (.if_acmp cd o, 3)) (hs : g.stack = y :: x :: rest) (hq : decide (x = y) = same) (ho : 0 ≤ (pc0 : Int) + o) (hp : pc' = if acV cd same = true then ((pc0 : Int) + o).toNat else pc0 + 3) :
    ∀ target, Steps p.tables e below (T.setTop { g with pc := pc', stack := rest }) target → Steps p.tables e below (T.setTop g) target := by
  obtain ⟨L, X, -⟩ := X; exact fun _ => Jvm.RoadKit.acmp X hx hg h1 h2 hpc hd hs hq ho hp
theorem Sd.getFR (X : Sd n0 p l e R s m args below meth c T h k n) (hx : p.tables.exec = Jvm.exec) (hZ : Z.Warmed39 s.vm) {own O nm d : String} {index : Nat} (hown : s.vm.findClass own = some m.cls) (w : (Cond.fieldRef own index O nm d).before a0 Z = true)
    {a : Addr} {v : Value} (F : Fld Z h a O nm d v) {g : JFrame} (hg : g.method = m) {rest : List Value} (hs : g.stack = .ref a :: rest) (hd : decode c.code g.pc = .ok (.getfield index, 3)) :
    ∀ target, Steps p.tables e below (T.setTop { g with pc := g.pc + 3, stack := v :: rest }) target → Steps p.tables e below (T.setTop g) target := by
  obtain ⟨L, X, N, q⟩ := X
  obtain ⟨cell, cf, kk, i, f, h1, h2, h3, h4, h5, h6, h7⟩ := F
  have hT : Z.Warmed39 T.vm := wtrans hZ X.warmed
  have w' := Cond.fieldRef_warmed39 hT w
  have hcur : (Z.setVm T.vm).vm.findClass own = some m.cls := by show T.vm.findClass own = _; rw [X.warmed.alike.findClass]; exact hown
  obtain ⟨c', k', i', f', e1, e2⟩ := Cond.fieldRef_spec hcur w'
  obtain ⟨k2, hi, -⟩ := State.fieldFound?_setVm (s := Z) hT.alike h2
  cases e1.symm.trans hi
  intro target hrest
  subst hg
  jvm_step X.here [hx, hd, getfield.wp_ready (e := e) (s := T) (f := g) X.here.top e2 h3 hs (by rw [q]; exact h1) h4 h7]
  exact hrest
/-! making -/
theorem Sd.newO (X : Sd n0 p l e R s m args below meth c T h k n) (hx : p.tables.exec = Jvm.exec) (hZ : Z.Warmed39 s.vm) {own C : String} {index sz k' n' : Nat} (hown : s.vm.findClass own = some m.cls) (w : (Cond.classLink own index C).before a0 Z = true) (wi : (Cond.instantiable C sz).before a0 Z = true) (wz : (Cond.initialized C).before a0 Z = true)
    {g : JFrame} (hg : g.method = m) (hd : decode c.code g.pc = .ok (.new index, 3)) (hk : k + 1 = k') (hn : n + sz = n') (hc : k' ≤ R.cells) (hl : n' ≤ R.slots) :
    ∃ T' h' a, Sd n0 p l e R s m args below meth c T' h' k' n' ∧ a = h.size ∧ Ext h h' ∧ Exa Z h' a C ∧ (∀ {O nm d : String} {ty : FieldType}, Laid Z a0 C O nm d → parseFieldDescriptor d = some ty → Fld Z h' a O nm d (defaultValue ty)) ∧
      ∀ target, Steps p.tables e below (T'.setTop { g with pc := g.pc + 3, stack := .ref a :: g.stack }) target → Steps p.tables e below (T.setTop g) target := by
  subst hk hn
  obtain ⟨L, X, N, q⟩ := X
  obtain ⟨T', h', X', e', E, A, D, -, st⟩ := Jvm.RoadKit.newO X hx hZ hown w wi wz q hg hd hc hl
  exact ⟨T', h', _, ⟨L, X', N, e'⟩, rfl, E, A, D, st⟩
theorem Sd.initO (X : Sd n0 p l e R s m args below meth c T h k n) (hx : p.tables.exec = Jvm.exec) (hZ : Z.Warmed39 s.vm) {own : String} {idx : Nat} (hown : s.vm.findClass own = some m.cls) (w1 : (Cond.methodLink own idx Lib.objectInit).before a0 Z = true) (w2 : (Cond.instanceMethod Lib.objectInit).before a0 Z = true)
    (w3 : (Cond.code Lib.objectInit ⟨#[0xb1]⟩ 1 none).before a0 Z = true) {g : JFrame} (hg : g.method = m) (hsize : g.locals.size = c.maxLocals) {a : Addr} {rest : List Value} (hs : g.stack = .ref a :: rest) (hd : decode c.code g.pc = .ok (.invokespecial idx, 3))
    (hf : 1 ≤ R.frames) (hl : 2 * g.monitorRoom + (rest.map fun v => v.category).sum + 12 ≤ R.locals) :
    ∃ T', Sd n0 p l e R s m args below meth c T' h k n ∧ ∀ target, Steps p.tables e below (T'.setTop { g with pc := g.pc + 3, stack := rest }) target → Steps p.tables e below (T.setTop g) target := by
  obtain ⟨L, X, N, q⟩ := X
  obtain ⟨T', X', e', st⟩ := Jvm.RoadKit.initO X hx hZ hown w1 w2 w3 q hg hsize hs hd hf (W := 2 * g.monitorRoom + (rest.map fun v => v.category).sum) (Nat.le_refl _) hl
  exact ⟨T', ⟨L, X', N, e'⟩, st⟩
/-- an array of n' places, place i holds f i -/
def Avf (Z : State) (h : Heap) (a : Addr) (kc : ClassId) (ty : FieldType) (sz : Nat) (f : Nat → Value) : Prop := ∃ cl : Cell, Arr Z h a cl ty ∧ cl.cls = kc ∧ cl.slots.size = sz ∧ sz < 2 ^ 31 ∧ ∀ i, i < sz → cl.slots[i]? = some (f i) ∧ fits ty (f i) = true
theorem Avf.lt {h : Heap} {a : Addr} {kc : ClassId} {ty : FieldType} {sz : Nat} {f : Nat → Value} (F : Avf Z h a kc ty sz f) : a < h.size := by obtain ⟨_, A, -⟩ := F; exact A.lt
theorem Avf.ext {h h' : Heap} {a : Addr} {kc : ClassId} {ty : FieldType} {sz : Nat} {f : Nat → Value} (F : Avf Z h a kc ty sz f) (E : Ext h h') : Avf Z h' a kc ty sz f := by obtain ⟨cl, A, r⟩ := F; exact ⟨cl, A.ext E, r⟩
theorem Avf.other {h h' : Heap} {a b : Addr} {kc : ClassId} {ty : FieldType} {sz sl : Nat} {f : Nat → Value} {v : Value} (F : Avf Z h b kc ty sz f) (W : Wr h h' a sl v) (q : b ≠ a) : Avf Z h' b kc ty sz f := by obtain ⟨cl, A, r⟩ := F; exact ⟨cl, A.other W q, r⟩
theorem Avf.keep {h h' : Heap} {a : Addr} {kc : ClassId} {ty : FieldType} {sz : Nat} {f : Nat → Value} {ws : List Addr} (F : Avf Z h a kc ty sz f) (K : Keep h h' ws) (q : a ∉ ws) : Avf Z h' a kc ty sz f := by obtain ⟨cl, A, r⟩ := F; exact ⟨cl, ⟨K.2.1 a cl A.1 q, A.2⟩, r⟩
theorem Avf.cong {h : Heap} {a : Addr} {kc : ClassId} {ty : FieldType} {sz : Nat} {f g : Nat → Value} (F : Avf Z h a kc ty sz f) (q : ∀ i, i < sz → f i = g i) : Avf Z h a kc ty sz g := by
  obtain ⟨cl, A, r1, r2, r3, r4⟩ := F; exact ⟨cl, A, r1, r2, r3, fun i hi => by rw [← q i hi]; exact r4 i hi⟩
theorem Avf.set {h h' : Heap} {a : Addr} {kc : ClassId} {ty : FieldType} {sz : Nat} {f : Nat → Value} {v : Value} {j : Nat} (F : Avf Z h a kc ty sz f) (W : Wr h h' a j v) (hv : fits ty v = true) : Avf Z h' a kc ty sz (fun i => if i = j then v else f i) := by
  obtain ⟨cl, A, r1, r2, r3, r4⟩ := F
  refine ⟨_, A.same W, r1, by rw [sz_set]; exact r2, r3, fun i hi => ?_⟩
  by_cases q : i = j
  · subst q; simp [Cell.setSlot, r2, hi, hv]
  · simp [Cell.setSlot, q, r4 i hi, Array.getElem?_setIfInBounds_ne (Ne.symm q)]
theorem Avf.of_arv {h : Heap} {a : Addr} {kc : ClassId} {ty : FieldType} {z : Int32} {vs : List Value} {dv : Value} (F : Arv Z h a kc ty z vs dv) : Avf Z h a kc ty z.toNatClampNeg (fun i => vs.getD i dv) := by
  obtain ⟨cl, A, r1, r2, r3, H, G⟩ := F
  exact ⟨cl, A, r1, r2, (back32 r3).2, fun i hi => ⟨H i (by rw [r2]; exact hi), G i (by rw [r2]; exact hi)⟩⟩
theorem Sd.newP (X : Sd n0 p l e R s m args below meth c T h k n) (hx : p.tables.exec = Jvm.exec) (hZ : Z.Warmed39 s.vm) {aty : ArrayType} (w : (Cond.arrayClass (newarray.typeOf aty)).before a0 Z = true) {g : JFrame} (hg : g.method = m) (hd : decode c.code g.pc = .ok (.newarray aty, 2)) {z : Int32} {rest : List Value} (hs : g.stack = .int z :: rest)
    (hz : ¬ z < 0) {sz cap k' n' : Nat} (hsz : z.toNatClampNeg = sz) (hcap : sz ≤ cap) (hb : cap * 8 ≤ 536870912) (hk : k + 1 = k') (hn : n + cap = n') (hc : k' ≤ R.cells) (hl : n' ≤ R.slots) {ad : String} (had : "[" ++ (newarray.typeOf aty).toString = ad) :
    ∃ T' h' kc a, Sd n0 p l e R s m args below meth c T' h' k' n' ∧ a = h.size ∧ Ext h h' ∧ Exa Z h' a ad ∧ Avf Z h' a kc (newarray.typeOf aty) sz (fun _ => defaultValue (newarray.typeOf aty)) ∧
      ∀ target, Steps p.tables e below (T'.setTop { g with pc := g.pc + 2, stack := .ref a :: rest }) target → Steps p.tables e below (T.setTop g) target := by
  subst hk hn hsz
  obtain ⟨L, X, N, q⟩ := X
  obtain ⟨T', h', kc, X', e', E, A, Ex, st⟩ := Jvm.RoadKit.newPE X hx hZ w q hg hd hs hz hcap hb hc hl had
  refine ⟨T', h', kc, _, ⟨L, X', N, e'⟩, rfl, E, Ex, ⟨_, A, rfl, sz_new _ _ _, (back32 hz).2, fun i hi => ⟨by simp [newA, hi], ?_⟩⟩, st⟩
  cases aty <;> rfl
theorem Sd.newR (X : Sd n0 p l e R s m args below meth c T h k n) (hx : p.tables.exec = Jvm.exec) (hZ : Z.Warmed39 s.vm) {own C : String} {index : Nat} (hown : s.vm.findClass own = some m.cls) (w1 : (Cond.classLink own index C).before a0 Z = true) (w2 : (Cond.arrayOver (.object C)).before a0 Z = true)
    {g : JFrame} (hg : g.method = m) (hd : decode c.code g.pc = .ok (.anewarray index, 3)) {z : Int32} {rest : List Value} (hs : g.stack = .int z :: rest)
    (hz : ¬ z < 0) {sz cap k' n' : Nat} (hsz : z.toNatClampNeg = sz) (hcap : sz ≤ cap) (hb : cap * 8 ≤ 536870912) (hk : k + 1 = k') (hn : n + cap = n') (hc : k' ≤ R.cells) (hl : n' ≤ R.slots) {ad : String} (had : "[" ++ (FieldType.object C).toString = ad) :
    ∃ T' h' kc a, Sd n0 p l e R s m args below meth c T' h' k' n' ∧ a = h.size ∧ Ext h h' ∧ Exa Z h' a ad ∧ Avf Z h' a kc (.object C) sz (fun _ => .null) ∧ Ovr Z kc C ∧
      ∀ target, Steps p.tables e below (T'.setTop { g with pc := g.pc + 3, stack := .ref a :: rest }) target → Steps p.tables e below (T.setTop g) target := by
  subst hk hn hsz
  obtain ⟨L, X, N, q⟩ := X
  obtain ⟨T', h', kc, X', e', E, A, Ex, O, st⟩ := Jvm.RoadKit.newRE X hx hZ hown w1 w2 q hg hd hs hz hcap hb hc hl had
  exact ⟨T', h', kc, _, ⟨L, X', N, e'⟩, rfl, E, Ex, ⟨_, A, rfl, sz_new _ _ _, (back32 hz).2, fun i hi => ⟨by simp [newA, hi, defaultValue], rfl⟩⟩, O, st⟩
theorem Sd.clone (X : Sd n0 p l e R s m args below meth c T h k n) (hx : p.tables.exec = Jvm.exec) (hZ : Z.Warmed39 s.vm) {own ad : String} {index : Nat} (hown : s.vm.findClass own = some m.cls)
    (w1 : (Cond.methodLink own index ⟨ad, "clone", "()Ljava/lang/Object;"⟩).before a0 Z = true) (w2 : (Cond.sameMethod ad "java/lang/Object" "clone" "()Ljava/lang/Object;").before a0 Z = true) (w3 : (Cond.native ⟨"java/lang/Object", "clone", "()Ljava/lang/Object;"⟩).before a0 Z = true)
    (w4 : (Cond.instanceMethod ⟨"java/lang/Object", "clone", "()Ljava/lang/Object;"⟩).before a0 Z = true) (w5 : (Cond.selects ad ⟨ad, "clone", "()Ljava/lang/Object;"⟩ ⟨"java/lang/Object", "clone", "()Ljava/lang/Object;"⟩).before a0 Z = true) (w6 : (Cond.castable ad "java/lang/Cloneable").before a0 Z = true)
    {a : Addr} {kc : ClassId} {ty : FieldType} {sz : Nat} {f : Nat → Value} (F : Avf Z h a kc ty sz f) (E : Exa Z h a ad) {g : JFrame} (hg : g.method = m) (hsize : g.locals.size = c.maxLocals) {rest : List Value} (hst : g.stack = .ref a :: rest) (hd : decode c.code g.pc = .ok (.invokevirtual index, 3))
    (hf : 1 ≤ R.frames) (hl : 2 * g.monitorRoom + (rest.map fun v => v.category).sum + 14 ≤ R.locals) {cap k' n' : Nat} (hcap : sz ≤ cap) (hk : k + 1 = k') (hn : n + cap = n') (hc : k' ≤ R.cells) (hs : n' ≤ R.slots) :
    ∃ T' h' b, Sd n0 p l e R s m args below meth c T' h' k' n' ∧ b = h.size ∧ Ext h h' ∧ Exa Z h' b ad ∧ Avf Z h' b kc ty sz f ∧ ∀ target, Steps p.tables e below (T'.setTop { g with pc := g.pc + 3, stack := .ref b :: rest }) target → Steps p.tables e below (T.setTop g) target := by
  subst hk hn
  obtain ⟨L, X, N, q⟩ := X
  obtain ⟨cl, A, r1, r2, r3, r4⟩ := F
  have FC : FitC Z cl := fitC_of A fun i hi v hv => by rw [(r4 i (r2 ▸ hi)).1] at hv; cases hv; exact (r4 i (r2 ▸ hi)).2
  obtain ⟨T', h', X', e', ex, A', E', st⟩ := cloneA X hx hZ hown w1 w2 w3 w4 w5 w6 q A E FC hg hsize hst hd hf (W := 2 * g.monitorRoom + (rest.map fun v => v.category).sum) (Nat.le_refl _) hl (by rw [r2]; exact hcap) hc hs
  exact ⟨T', h', _, ⟨L, X', N, e'⟩, rfl, ex, E', ⟨cloneOf cl, A', r1, r2, r3, r4⟩, st⟩
/-! arrays: length, load, store -/
theorem Sd.len (X : Sd n0 p l e R s m args below meth c T h k n) (hx : p.tables.exec = Jvm.exec) (hZ : Z.Warmed39 s.vm) {a : Addr} {kc : ClassId} {ty : FieldType} {sz : Nat} {f : Nat → Value} (F : Avf Z h a kc ty sz f) {z : Int32} (hz : sz.toInt32 = z)
    {g : JFrame} (hg : g.method = m) {rest : List Value} (hs : g.stack = .ref a :: rest) (hd : decode c.code g.pc = .ok (.arraylength, 1)) :
    ∀ target, Steps p.tables e below (T.setTop { g with pc := g.pc + 1, stack := .int z :: rest }) target → Steps p.tables e below (T.setTop g) target := by
  obtain ⟨L, X, -, q⟩ := X
  obtain ⟨cl, A, r1, r2, r3, r4⟩ := F
  intro t kt
  refine X.arraylength hx (by rw [q]; exact A.1) (State.isArrayOf_alike hZ.alike A.2.1) hg hs hd _ ?_
  rw [r2, hz]; exact kt
theorem inb {cl : Cell} {sz i : Nat} {j : Int32} (r2 : cl.slots.size = sz) (hj : ¬ j < 0) (hi : j.toNatClampNeg = i) (hlt : i < sz) : ¬ (j < 0 ∨ cl.slots.size ≤ j.toNatClampNeg) := fun q => q.elim hj fun q => by omega
theorem Sd.ldI (X : Sd n0 p l e R s m args below meth c T h k n) (hx : p.tables.exec = Jvm.exec) (hZ : Z.Warmed39 s.vm) {a : Addr} {kc : ClassId} {sz : Nat} {f : Nat → Value} (F : Avf Z h a kc .int sz f) {j : Int32} (hj : ¬ j < 0) {i : Nat} (hi : j.toNatClampNeg = i) (hlt : i < sz) {v : Value} (hv : f i = v)
    {g : JFrame} (hg : g.method = m) {rest : List Value} (hs : g.stack = .int j :: .ref a :: rest) (hd : decode c.code g.pc = .ok (.iaload, 1)) :
    ∀ target, Steps p.tables e below (T.setTop { g with pc := g.pc + 1, stack := v :: rest }) target → Steps p.tables e below (T.setTop g) target := by
  subst hv
  obtain ⟨L, X, -, q⟩ := X
  obtain ⟨cl, A, r1, r2, r3, r4⟩ := F
  exact X.iaload hx (by rw [q]; exact A.1) (State.isArrayOf_alike hZ.alike A.2.1) A.2.2 (inb r2 hj hi hlt) (by rw [hi]; exact (r4 i hlt).1) hg hs hd
theorem Sd.ldJ (X : Sd n0 p l e R s m args below meth c T h k n) (hx : p.tables.exec = Jvm.exec) (hZ : Z.Warmed39 s.vm) {a : Addr} {kc : ClassId} {sz : Nat} {f : Nat → Value} (F : Avf Z h a kc .long sz f) {j : Int32} (hj : ¬ j < 0) {i : Nat} (hi : j.toNatClampNeg = i) (hlt : i < sz) {v : Value} (hv : f i = v)
    {g : JFrame} (hg : g.method = m) {rest : List Value} (hs : g.stack = .int j :: .ref a :: rest) (hd : decode c.code g.pc = .ok (.laload, 1)) :
    ∀ target, Steps p.tables e below (T.setTop { g with pc := g.pc + 1, stack := v :: rest }) target → Steps p.tables e below (T.setTop g) target := by
  subst hv
  obtain ⟨L, X, -, q⟩ := X
  obtain ⟨cl, A, r1, r2, r3, r4⟩ := F
  exact X.laload hx (by rw [q]; exact A.1) (State.isArrayOf_alike hZ.alike A.2.1) A.2.2 (inb r2 hj hi hlt) (by rw [hi]; exact (r4 i hlt).1) hg hs hd
theorem Sd.ldC (X : Sd n0 p l e R s m args below meth c T h k n) (hx : p.tables.exec = Jvm.exec) (hZ : Z.Warmed39 s.vm) {a : Addr} {kc : ClassId} {sz : Nat} {f : Nat → Value} (F : Avf Z h a kc .char sz f) {j : Int32} (hj : ¬ j < 0) {i : Nat} (hi : j.toNatClampNeg = i) (hlt : i < sz) {v : Value} (hv : f i = v)
    {g : JFrame} (hg : g.method = m) {rest : List Value} (hs : g.stack = .int j :: .ref a :: rest) (hd : decode c.code g.pc = .ok (.caload, 1)) :
    ∀ target, Steps p.tables e below (T.setTop { g with pc := g.pc + 1, stack := v :: rest }) target → Steps p.tables e below (T.setTop g) target := by
  subst hv
  obtain ⟨L, X, -, q⟩ := X
  obtain ⟨cl, A, r1, r2, r3, r4⟩ := F
  exact X.caload hx (by rw [q]; exact A.1) (State.isArrayOf_alike hZ.alike A.2.1) A.2.2 (inb r2 hj hi hlt) (by rw [hi]; exact (r4 i hlt).1) hg hs hd
theorem Sd.ldB (X : Sd n0 p l e R s m args below meth c T h k n) (hx : p.tables.exec = Jvm.exec) (hZ : Z.Warmed39 s.vm) {a : Addr} {kc : ClassId} {sz : Nat} {f : Nat → Value} (F : Avf Z h a kc .byte sz f) {j : Int32} (hj : ¬ j < 0) {i : Nat} (hi : j.toNatClampNeg = i) (hlt : i < sz) {v : Value} (hv : f i = v)
    {g : JFrame} (hg : g.method = m) {rest : List Value} (hs : g.stack = .int j :: .ref a :: rest) (hd : decode c.code g.pc = .ok (.baload, 1)) :
    ∀ target, Steps p.tables e below (T.setTop { g with pc := g.pc + 1, stack := v :: rest }) target → Steps p.tables e below (T.setTop g) target := by
  subst hv
  obtain ⟨L, X, -, q⟩ := X
  obtain ⟨cl, A, r1, r2, r3, r4⟩ := F
  exact X.baloadBytes hx (by rw [q]; exact A.1) (State.isArrayOf_alike hZ.alike A.2.1) A.2.2 (inb r2 hj hi hlt) (by rw [hi]; exact (r4 i hlt).1) hg hs hd
theorem Sd.ldA (X : Sd n0 p l e R s m args below meth c T h k n) (hx : p.tables.exec = Jvm.exec) (hZ : Z.Warmed39 s.vm) {a : Addr} {kc : ClassId} {ty : FieldType} {sz : Nat} {f : Nat → Value} (F : Avf Z h a kc ty sz f) (hty : ty.isReference = true) {j : Int32} (hj : ¬ j < 0) {i : Nat} (hi : j.toNatClampNeg = i) (hlt : i < sz) {v : Value} (hv : f i = v)
    {g : JFrame} (hg : g.method = m) {rest : List Value} (hs : g.stack = .int j :: .ref a :: rest) (hd : decode c.code g.pc = .ok (.aaload, 1)) :
    ∀ target, Steps p.tables e below (T.setTop { g with pc := g.pc + 1, stack := v :: rest }) target → Steps p.tables e below (T.setTop g) target := by
  subst hv
  obtain ⟨L, X, -, q⟩ := X
  obtain ⟨cl, A, r1, r2, r3, r4⟩ := F
  exact X.aaload hx (by rw [q]; exact A.1) (State.isArrayOf_alike hZ.alike A.2.1) hty A.2.2 (inb r2 hj hi hlt) (by rw [hi]; exact (r4 i hlt).1) hg hs hd
theorem Sd.stI (X : Sd n0 p l e R s m args below meth c T h k n) (hx : p.tables.exec = Jvm.exec) (hZ : Z.Warmed39 s.vm) {a : Addr} {kc : ClassId} {sz : Nat} {f : Nat → Value} (F : Avf Z h a kc .int sz f) (ga : n0 ≤ a) {j x : Int32} (hj : ¬ j < 0) {i : Nat} (hi : j.toNatClampNeg = i) (hlt : i < sz)
    {g : JFrame} (hg : g.method = m) {rest : List Value} (hs : g.stack = .int x :: .int j :: .ref a :: rest) (hd : decode c.code g.pc = .ok (.iastore, 1)) :
    ∃ T' h', Sd n0 p l e R s m args below meth c T' h' k n ∧ Wr h h' a i (.int x) ∧ Avf Z h' a kc .int sz (fun t => if t = i then .int x else f t) ∧ ∀ target, Steps p.tables e below (T'.setTop { g with pc := g.pc + 1, stack := rest }) target → Steps p.tables e below (T.setTop g) target := by
  obtain ⟨L, X, N, q⟩ := X
  obtain ⟨cl, A, r1, r2, r3, r4⟩ := F
  obtain ⟨T', h', X', e', W, st⟩ := Jvm.RoadKit.stI X hx hZ q A (inb r2 hj hi hlt) hg hs hd
  subst hi
  exact ⟨T', h', ⟨_, X', Fr.snoc X' N ga, e'⟩, W, Avf.set ⟨cl, A, r1, r2, r3, r4⟩ W rfl, st⟩
theorem Sd.stJ (X : Sd n0 p l e R s m args below meth c T h k n) (hx : p.tables.exec = Jvm.exec) (hZ : Z.Warmed39 s.vm) {a : Addr} {kc : ClassId} {sz : Nat} {f : Nat → Value} (F : Avf Z h a kc .long sz f) (ga : n0 ≤ a) {j : Int32} {x : Int64} (hj : ¬ j < 0) {i : Nat} (hi : j.toNatClampNeg = i) (hlt : i < sz)
    {g : JFrame} (hg : g.method = m) {rest : List Value} (hs : g.stack = .long x :: .int j :: .ref a :: rest) (hd : decode c.code g.pc = .ok (.lastore, 1)) :
    ∃ T' h', Sd n0 p l e R s m args below meth c T' h' k n ∧ Wr h h' a i (.long x) ∧ Avf Z h' a kc .long sz (fun t => if t = i then .long x else f t) ∧ ∀ target, Steps p.tables e below (T'.setTop { g with pc := g.pc + 1, stack := rest }) target → Steps p.tables e below (T.setTop g) target := by
  obtain ⟨L, X, N, q⟩ := X
  obtain ⟨cl, A, r1, r2, r3, r4⟩ := F
  obtain ⟨T', h', X', e', W, st⟩ := Jvm.RoadKit.stJ X hx hZ q A (inb r2 hj hi hlt) hg hs hd
  subst hi
  exact ⟨T', h', ⟨_, X', Fr.snoc X' N ga, e'⟩, W, Avf.set ⟨cl, A, r1, r2, r3, r4⟩ W rfl, st⟩
theorem Sd.stB (X : Sd n0 p l e R s m args below meth c T h k n) (hx : p.tables.exec = Jvm.exec) (hZ : Z.Warmed39 s.vm) {a : Addr} {kc : ClassId} {sz : Nat} {f : Nat → Value} (F : Avf Z h a kc .byte sz f) (ga : n0 ≤ a) {j x : Int32} (hj : ¬ j < 0) {i : Nat} (hi : j.toNatClampNeg = i) (hlt : i < sz)
    {g : JFrame} (hg : g.method = m) {rest : List Value} (hs : g.stack = .int x :: .int j :: .ref a :: rest) (hd : decode c.code g.pc = .ok (.bastore, 1)) :
    ∃ T' h', Sd n0 p l e R s m args below meth c T' h' k n ∧ Wr h h' a i (.int x.toInt8.toInt32) ∧ Avf Z h' a kc .byte sz (fun t => if t = i then .int x.toInt8.toInt32 else f t) ∧ ∀ target, Steps p.tables e below (T'.setTop { g with pc := g.pc + 1, stack := rest }) target → Steps p.tables e below (T.setTop g) target := by
  obtain ⟨L, X, N, q⟩ := X
  obtain ⟨cl, A, r1, r2, r3, r4⟩ := F
  obtain ⟨T', h', X', e', W, st⟩ := Jvm.RoadKit.stB X hx hZ q A (inb r2 hj hi hlt) hg hs hd
  subst hi
  exact ⟨T', h', ⟨_, X', Fr.snoc X' N ga, e'⟩, W, Avf.set ⟨cl, A, r1, r2, r3, r4⟩ W (fits_nar_byte _), st⟩
theorem Sd.stC (X : Sd n0 p l e R s m args below meth c T h k n) (hx : p.tables.exec = Jvm.exec) (hZ : Z.Warmed39 s.vm) {a : Addr} {kc : ClassId} {sz : Nat} {f : Nat → Value} (F : Avf Z h a kc .char sz f) (ga : n0 ≤ a) {j x : Int32} (hj : ¬ j < 0) {i : Nat} (hi : j.toNatClampNeg = i) (hlt : i < sz)
    {g : JFrame} (hg : g.method = m) {rest : List Value} (hs : g.stack = .int x :: .int j :: .ref a :: rest) (hd : decode c.code g.pc = .ok (.castore, 1)) :
    ∃ T' h', Sd n0 p l e R s m args below meth c T' h' k n ∧ Wr h h' a i (.int (nar .char x)) ∧ Avf Z h' a kc .char sz (fun t => if t = i then .int (nar .char x) else f t) ∧ ∀ target, Steps p.tables e below (T'.setTop { g with pc := g.pc + 1, stack := rest }) target → Steps p.tables e below (T.setTop g) target := by
  obtain ⟨L, X, N, q⟩ := X
  obtain ⟨cl, A, r1, r2, r3, r4⟩ := F
  obtain ⟨T', h', X', e', W, st⟩ := Jvm.RoadKit.stC X hx hZ q A (inb r2 hj hi hlt) hg hs hd
  subst hi
  exact ⟨T', h', ⟨_, X', Fr.snoc X' N ga, e'⟩, W, Avf.set ⟨cl, A, r1, r2, r3, r4⟩ W (fits_nar_char _), st⟩
theorem Sd.newRA (X : Sd n0 p l e R s m args below meth c T h k n) (hx : p.tables.exec = Jvm.exec) (hZ : Z.Warmed39 s.vm) {own C : String} {ty : FieldType} {index : Nat} (hown : s.vm.findClass own = some m.cls) (hC : (FieldType.array ty).toString = C) (w1 : (Cond.classLink own index C).before a0 Z = true) (w2 : (Cond.arrayOver (.array ty)).before a0 Z = true)
    {g : JFrame} (hg : g.method = m) (hd : decode c.code g.pc = .ok (.anewarray index, 3)) {z : Int32} {rest : List Value} (hs : g.stack = .int z :: rest)
    (hz : ¬ z < 0) {sz cap k' n' : Nat} (hsz : z.toNatClampNeg = sz) (hcap : sz ≤ cap) (hb : cap * 8 ≤ 536870912) (hk : k + 1 = k') (hn : n + cap = n') (hc : k' ≤ R.cells) (hl : n' ≤ R.slots) {ad : String} (had : "[" ++ C = ad) :
    ∃ T' h' kc a, Sd n0 p l e R s m args below meth c T' h' k' n' ∧ a = h.size ∧ Ext h h' ∧ Exa Z h' a ad ∧ Avf Z h' a kc (.array ty) sz (fun _ => .null) ∧ OvrA Z kc ty C ∧
      ∀ target, Steps p.tables e below (T'.setTop { g with pc := g.pc + 3, stack := .ref a :: rest }) target → Steps p.tables e below (T.setTop g) target := by
  subst hk hn hsz
  obtain ⟨L, X, N, q⟩ := X
  obtain ⟨T', h', kc, X', e', E, A, Ex, O, st⟩ := Jvm.RoadKit.newRA X hx hZ hown hC w1 w2 q hg hd hs hz hcap hb hc hl had
  exact ⟨T', h', kc, _, ⟨L, X', N, e'⟩, rfl, E, Ex, ⟨_, A, rfl, sz_new _ _ _, (back32 hz).2, fun i hi => ⟨by simp [newA, hi, defaultValue], rfl⟩⟩, O, st⟩
theorem Sd.stR (X : Sd n0 p l e R s m args below meth c T h k n) (hx : p.tables.exec = Jvm.exec) (hZ : Z.Warmed39 s.vm) {a : Addr} {kc : ClassId} {ty : FieldType} {sz : Nat} {f : Nat → Value} (F : Avf Z h a kc ty sz f) (ga : n0 ≤ a) (hty : ty.isReference = true) {j : Int32} {v : Value} (hv : v.isRef = true) (St : Sto Z h a v) (hj : ¬ j < 0) {i : Nat} (hi : j.toNatClampNeg = i) (hlt : i < sz)
    {g : JFrame} (hg : g.method = m) {rest : List Value} (hs : g.stack = v :: .int j :: .ref a :: rest) (hd : decode c.code g.pc = .ok (.aastore, 1)) :
    ∃ T' h', Sd n0 p l e R s m args below meth c T' h' k n ∧ Wr h h' a i v ∧ Avf Z h' a kc ty sz (fun t => if t = i then v else f t) ∧ ∀ target, Steps p.tables e below (T'.setTop { g with pc := g.pc + 1, stack := rest }) target → Steps p.tables e below (T.setTop g) target := by
  obtain ⟨L, X, N, q⟩ := X
  obtain ⟨cl, A, r1, r2, r3, r4⟩ := F
  obtain ⟨T', h', X', e', W, st⟩ := Jvm.RoadKit.stR X hx hZ q A (inb r2 hj hi hlt) hty St hg hs hd
  subst hi
  have hf : fits ty v = true := by cases ty <;> first | (cases hty; done) | (cases v <;> first | rfl | (cases hv; done))
  exact ⟨T', h', ⟨_, X', Fr.snoc X' N ga, e'⟩, W, Avf.set ⟨cl, A, r1, r2, r3, r4⟩ W hf, st⟩
/-! calls -/
theorem Sd.callS (X : Sd n0 p l e R s m args below meth c T h k n) (hx : p.tables.exec = Jvm.exec) (hZ : Z.Warmed39 s.vm) {own : String} {index : Nat} {y : MethodName} {bytes : ByteArray} {maxL : Nat} {ret : Option FieldType} {rm : Room} {as' : Array Value} {Q : Option Value → Heap → Prop}
    (hown : s.vm.findClass own = some m.cls) (w1 : (Cond.methodLink own index y).before a0 Z = true) (w2 : (Cond.static y).before a0 Z = true) (w3 : (Cond.initialized y.cls).before a0 Z = true) (w4 : (Cond.code y bytes maxL ret).before a0 Z = true) (hy : y.cls ≠ "java/lang/invoke/MethodHandle" ∧ y.cls ≠ "java/lang/invoke/VarHandle")
    (hM : Met l Z n0 y bytes maxL ret [] rm as' h Q) {g : JFrame} (hg : g.method = m) (hsize : g.locals.size = c.maxLocals) {argsL rest : List Value} (hlen : ∀ sig, parseMethodDescriptor y.desc = some sig → argsL.length = sig.parameters.length)
    (hstack : g.stack = argsL.reverse ++ rest) (hd : decode c.code g.pc = .ok (.invokestatic index, 3)) (has : argsL.toArray = as') (hf : rm.frames + 1 ≤ R.frames) (hl : 2 * g.monitorRoom + (rest.map fun v => v.category).sum + (maxL + 11) + rm.locals ≤ R.locals)
    {k' n' : Nat} (hk : k + rm.cells = k') (hn : n + rm.slots = n') (hc : k' ≤ R.cells) (hs : n' ≤ R.slots) :
    ∃ v T' h', Sd n0 p l e R s m args below meth c T' h' k' n' ∧ Q v h' ∧ ∀ target, Steps p.tables e below (T'.setTop { g with pc := g.pc + 3, stack := v.toList ++ rest }) target → Steps p.tables e below (T.setTop g) target := by
  subst hk hn
  obtain ⟨L, X, N, q⟩ := X
  obtain ⟨v, _, ⟨T', L', k1, n1⟩, -, X', ⟨Lc, hQ, q1, q2, q3⟩, st⟩ := Jvm.LawKit.callS X hx (y := y) hown (mvT hZ w1) (mvT hZ w2) (mvT hZ w3) (mvT hZ w4) hy (backOf (Q := fun v h L => Q v h ∧ Fr n0 L) hM hZ w4 w3 hf hl) hg hsize hlen hstack (Nat.le_refl _) hd (fun _ _ => ⟨has, q, hc, hs⟩)
  dsimp only [Pt.U, Pt.locs, Pt.cells, Pt.slots] at X' q1 q2 q3 st hQ
  subst q1 q2 q3
  exact ⟨v, T', _, ⟨_, X', Fr.app N hQ.2, rfl⟩, hQ.1, st⟩
theorem Sd.callI (X : Sd n0 p l e R s m args below meth c T h k n) (hx : p.tables.exec = Jvm.exec) (hZ : Z.Warmed39 s.vm) {own : String} {index : Nat} {y : MethodName} {bytes : ByteArray} {maxL : Nat} {rm : Room} {as' : Array Value} {Q : Option Value → Heap → Prop} (hy1 : y.name = "<init>")
    (hown : s.vm.findClass own = some m.cls) (w1 : (Cond.methodLink own index y).before a0 Z = true) (w2 : (Cond.instanceMethod y).before a0 Z = true) (w3 : (Cond.initialized y.cls).before a0 Z = true) (w4 : (Cond.code y bytes maxL none).before a0 Z = true) (hy : y.cls ≠ "java/lang/invoke/MethodHandle" ∧ y.cls ≠ "java/lang/invoke/VarHandle")
    (hM : Met l Z n0 y bytes maxL none [] rm as' h Q) {g : JFrame} (hg : g.method = m) (hsize : g.locals.size = c.maxLocals) {a : Addr} {argsL rest : List Value} (hlen : ∀ sig, parseMethodDescriptor y.desc = some sig → argsL.length = sig.parameters.length)
    (hstack : g.stack = argsL.reverse ++ .ref a :: rest) (hd : decode c.code g.pc = .ok (.invokespecial index, 3)) (has : (.ref a :: argsL).toArray = as') (hf : rm.frames + 1 ≤ R.frames) (hl : 2 * g.monitorRoom + (rest.map fun v => v.category).sum + (maxL + 11) + rm.locals ≤ R.locals)
    {k' n' : Nat} (hk : k + rm.cells = k') (hn : n + rm.slots = n') (hc : k' ≤ R.cells) (hs : n' ≤ R.slots) :
    ∃ v T' h', Sd n0 p l e R s m args below meth c T' h' k' n' ∧ Q v h' ∧ ∀ target, Steps p.tables e below (T'.setTop { g with pc := g.pc + 3, stack := v.toList ++ rest }) target → Steps p.tables e below (T.setTop g) target := by
  subst hk hn
  obtain ⟨L, X, N, q⟩ := X
  obtain ⟨v, _, ⟨T', L', k1, n1⟩, -, X', ⟨Lc, hQ, q1, q2, q3⟩, st⟩ := X.specialBack hx (y := y) hy1 hown (mvT hZ w1) (mvT hZ w2) (mvT hZ w4) hy (backOf (Q := fun v h L => Q v h ∧ Fr n0 L) hM hZ w4 w3 hf hl) hg hsize (Steps.refl _) hlen hstack (Nat.le_refl _) hd (fun _ _ => ⟨has, q, hc, hs⟩)
  dsimp only [Pt.U, Pt.locs, Pt.cells, Pt.slots] at X' q1 q2 q3 st hQ
  subst q1 q2 q3
  exact ⟨v, T', _, ⟨_, X', Fr.app N hQ.2, rfl⟩, hQ.1, fun _ kt => st.trans kt⟩
theorem Sd.callV (X : Sd n0 p l e R s m args below meth c T h k n) (hx : p.tables.exec = Jvm.exec) (hZ : Z.Warmed39 s.vm) {own C : String} {index : Nat} {y z : MethodName} {bytes : ByteArray} {maxL : Nat} {ret : Option FieldType} {rm : Room} {as' : Array Value} {Q : Option Value → Heap → Prop}
    (hown : s.vm.findClass own = some m.cls) (w1 : (Cond.methodLink own index y).before a0 Z = true) (w2 : (Cond.declares y).before a0 Z = true) (hnf : NotFace s y) (w5 : (Cond.selects C y z).before a0 Z = true) (w6 : (Cond.instanceMethod z).before a0 Z = true) (w3 : (Cond.initialized z.cls).before a0 Z = true) (w4 : (Cond.code z bytes maxL ret).before a0 Z = true) (hy : y.cls ≠ "java/lang/invoke/MethodHandle" ∧ y.cls ≠ "java/lang/invoke/VarHandle")
    (hM : Met l Z n0 z bytes maxL ret [] rm as' h Q) {a : Addr} (E : Exa Z h a C) {g : JFrame} (hg : g.method = m) (hsize : g.locals.size = c.maxLocals) {argsL rest : List Value} (hlen : ∀ sig, parseMethodDescriptor y.desc = some sig → argsL.length = sig.parameters.length)
    (hstack : g.stack = argsL.reverse ++ .ref a :: rest) (hd : decode c.code g.pc = .ok (.invokevirtual index, 3)) (has : (.ref a :: argsL).toArray = as') (hf : rm.frames + 1 ≤ R.frames) (hl : 2 * g.monitorRoom + (rest.map fun v => v.category).sum + (maxL + 11) + rm.locals ≤ R.locals)
    {k' n' : Nat} (hk : k + rm.cells = k') (hn : n + rm.slots = n') (hc : k' ≤ R.cells) (hs : n' ≤ R.slots) :
    ∃ v T' h', Sd n0 p l e R s m args below meth c T' h' k' n' ∧ Q v h' ∧ ∀ target, Steps p.tables e below (T'.setTop { g with pc := g.pc + 3, stack := v.toList ++ rest }) target → Steps p.tables e below (T.setTop g) target := by
  subst hk hn
  obtain ⟨L, X, N, q⟩ := X
  obtain ⟨cB, kB, b1, b2, b3⟩ := isOf (T := T) hZ q E
  obtain ⟨v, _, ⟨T', L', k1, n1⟩, -, X', ⟨Lc, hQ, q1, q2, q3⟩, st⟩ := X.virtualBack hx (y := y) (z := z) hown (mvT hZ w1) (mvT hZ w2) hnf (mvT hZ w5) (mvT hZ w6) hy (backOf (Q := fun v h L => Q v h ∧ Fr n0 L) hM hZ w4 w3 hf hl) b1 b3 hg hsize (Steps.refl _) hlen hstack (Nat.le_refl _) hd (fun _ _ => ⟨has, q, hc, hs⟩)
  dsimp only [Pt.U, Pt.locs, Pt.cells, Pt.slots] at X' q1 q2 q3 st hQ
  subst q1 q2 q3
  exact ⟨v, T', _, ⟨_, X', Fr.app N hQ.2, rfl⟩, hQ.1, fun _ kt => st.trans kt⟩
theorem Sd.callP (X : Sd n0 p l e R s m args below meth c T h k n) (hx : p.tables.exec = Jvm.exec) (hZ : Z.Warmed39 s.vm) {own C : String} {index : Nat} {y : MethodName} {bytes : ByteArray} {maxL : Nat} {ret : Option FieldType} {rm : Room} {as' : Array Value} {Q : Option Value → Heap → Prop}
    (hown : s.vm.findClass own = some m.cls) (w1 : (Cond.methodLink own index y).before a0 Z = true) (w6 : (Cond.instanceMethod y).before a0 Z = true) (w5 : (Cond.selects y.cls y y).before a0 Z = true) (w7 : (Cond.privateMethod y).before a0 Z = true) (w3 : (Cond.initialized y.cls).before a0 Z = true) (w4 : (Cond.code y bytes maxL ret).before a0 Z = true) (hy : y.cls ≠ "java/lang/invoke/MethodHandle" ∧ y.cls ≠ "java/lang/invoke/VarHandle")
    (hM : Met l Z n0 y bytes maxL ret [] rm as' h Q) {a : Addr} (E : Exa Z h a C) {g : JFrame} (hg : g.method = m) (hsize : g.locals.size = c.maxLocals) {argsL rest : List Value} (hlen : ∀ sig, parseMethodDescriptor y.desc = some sig → argsL.length = sig.parameters.length)
    (hstack : g.stack = argsL.reverse ++ .ref a :: rest) (hd : decode c.code g.pc = .ok (.invokevirtual index, 3)) (has : (.ref a :: argsL).toArray = as') (hf : rm.frames + 1 ≤ R.frames) (hl : 2 * g.monitorRoom + (rest.map fun v => v.category).sum + (maxL + 11) + rm.locals ≤ R.locals)
    {k' n' : Nat} (hk : k + rm.cells = k') (hn : n + rm.slots = n') (hc : k' ≤ R.cells) (hs : n' ≤ R.slots) :
    ∃ v T' h', Sd n0 p l e R s m args below meth c T' h' k' n' ∧ Q v h' ∧ ∀ target, Steps p.tables e below (T'.setTop { g with pc := g.pc + 3, stack := v.toList ++ rest }) target → Steps p.tables e below (T.setTop g) target := by
  subst hk hn
  obtain ⟨L, X, N, q⟩ := X
  obtain ⟨cl, b1, b2⟩ := E.cell
  obtain ⟨v, _, ⟨T', L', k1, n1⟩, -, X', ⟨Lc, hQ, q1, q2, q3⟩, st⟩ := X.privateBack hx (y := y) hown (mvT hZ w1) (mvT hZ w6) (mvT hZ w5) (Cond.privateMethod_at (mvP hZ w7 (args := #[]))) (mvT hZ w4) hy (backOf (Q := fun v h L => Q v h ∧ Fr n0 L) hM hZ w4 w3 hf hl) hg hsize (Steps.refl _) (a := a) (by rw [q]; exact b1) b2 hlen hstack (Nat.le_refl _) hd (fun _ _ => ⟨has, q, hc, hs⟩)
  dsimp only [Pt.U, Pt.locs, Pt.cells, Pt.slots] at X' q1 q2 q3 st hQ
  subst q1 q2 q3
  exact ⟨v, T', _, ⟨_, X', Fr.app N hQ.2, rfl⟩, hQ.1, fun _ kt => st.trans kt⟩
theorem Sd.callU (X : Sd n0 p l e R s m args below meth c T h k n) (hx : p.tables.exec = Jvm.exec) (hZ : Z.Warmed39 s.vm) {own C owner : String} {index : Nat} {y z : MethodName} {bytes : ByteArray} {maxL : Nat} {ret : Option FieldType} {rm : Room} {as' : Array Value} {Q : Option Value → Heap → Prop}
    (hown : s.vm.findClass own = some m.cls) (w1 : (Cond.methodLink own index y).before a0 Z = true) (w2 : (Cond.sameMethod y.cls owner y.name y.desc).before a0 Z = true) (w7 : (Cond.declares ⟨owner, y.name, y.desc⟩).before a0 Z = true) (ho : owner ≠ "java/lang/invoke/MethodHandle" ∧ owner ≠ "java/lang/invoke/VarHandle") (w5 : (Cond.selects C y z).before a0 Z = true) (w6 : (Cond.instanceMethod z).before a0 Z = true) (w3 : (Cond.initialized z.cls).before a0 Z = true) (w4 : (Cond.code z bytes maxL ret).before a0 Z = true)
    (hM : Met l Z n0 z bytes maxL ret [] rm as' h Q) {a : Addr} (E : Exa Z h a C) {g : JFrame} (hg : g.method = m) (hsize : g.locals.size = c.maxLocals) {argsL rest : List Value} (hlen : ∀ sig, parseMethodDescriptor y.desc = some sig → argsL.length = sig.parameters.length)
    (hstack : g.stack = argsL.reverse ++ .ref a :: rest) (hd : decode c.code g.pc = .ok (.invokevirtual index, 3)) (has : (.ref a :: argsL).toArray = as') (hf : rm.frames + 1 ≤ R.frames) (hl : 2 * g.monitorRoom + (rest.map fun v => v.category).sum + (maxL + 11) + rm.locals ≤ R.locals)
    {k' n' : Nat} (hk : k + rm.cells = k') (hn : n + rm.slots = n') (hc : k' ≤ R.cells) (hs : n' ≤ R.slots) :
    ∃ v T' h', Sd n0 p l e R s m args below meth c T' h' k' n' ∧ Q v h' ∧ ∀ target, Steps p.tables e below (T'.setTop { g with pc := g.pc + 3, stack := v.toList ++ rest }) target → Steps p.tables e below (T.setTop g) target := by
  subst hk hn
  obtain ⟨L, X, N, q⟩ := X
  obtain ⟨cB, kB, b1, b2, b3⟩ := isOf (T := T) hZ q E
  obtain ⟨v, _, ⟨T', L', k1, n1⟩, -, X', ⟨Lc, hQ, q1, q2, q3⟩, st⟩ := X.virtualBackUp hx (x := y) (y := z) hown (mvT hZ w1) (mvT hZ w2) (mvT hZ w7) ho (mvT hZ w5) (mvT hZ w6) (backOf (Q := fun v h L => Q v h ∧ Fr n0 L) hM hZ w4 w3 hf hl) b1 b3 hg hsize (Steps.refl _) hlen hstack (Nat.le_refl _) hd (fun _ _ => ⟨has, q, hc, hs⟩)
  dsimp only [Pt.U, Pt.locs, Pt.cells, Pt.slots] at X' q1 q2 q3 st hQ
  subst q1 q2 q3
  exact ⟨v, T', _, ⟨_, X', Fr.app N hQ.2, rfl⟩, hQ.1, fun _ kt => st.trans kt⟩
theorem Sd.instNo (X : Sd n0 p l e R s m args below meth c T h k n) (hx : p.tables.exec = Jvm.exec) (hZ : Z.Warmed39 s.vm) {own K C : String} {index : Nat} (hown : s.vm.findClass own = some m.cls) (w : (Cond.classLink own index K).before a0 Z = true) {a : Addr} (E : Exa Z h a C) (F : ∃ c t, Z.vm.findClass C = some c ∧ Z.vm.findClass K = some t ∧ Z.vm.assignable c t = false)
    {g : JFrame} (hg : g.method = m) {rest : List Value} (hs : g.stack = .ref a :: rest) (hd : decode c.code g.pc = .ok (.instanceof index, 3)) :
    ∃ T', Sd n0 p l e R s m args below meth c T' h k n ∧ ∀ target, Steps p.tables e below (T'.setTop { g with pc := g.pc + 3, stack := .int 0 :: rest }) target → Steps p.tables e below (T.setTop g) target := by
  obtain ⟨L, X, N, q⟩ := X
  obtain ⟨T', X', e', st⟩ := Jvm.RoadKit.instNo X hx hZ hown w q E F hg hs hd
  exact ⟨T', ⟨L, X', N, e'⟩, st⟩
theorem ns_root {O K : String} {kk : Nat} (w : (Cond.noSuperclass O).before a0 Z = true) (wk : (Cond.instantiable K kk).before a0 Z = true) (hn : O ≠ K) : NS Z O K := by
  obtain ⟨c, k, h1, h2, h3, -, -⟩ := Cond.noSuperclass_spec w
  obtain ⟨t, k2, g1, -⟩ := Cond.instantiable_spec wk
  have ne := ids_ne h1 g1 hn
  refine ⟨c, t, h1, g1, fun fuel => ?_⟩
  cases fuel with
  | zero => rfl
  | succ f => simp [Vm.isSubclassAux, ne, h2, h3]
theorem ns_no {C K : String} {k1 k2 : Nat} (w : (Cond.instantiable C k1).before a0 Z = true) (wk : (Cond.instantiable K k2).before a0 Z = true) (n : NS Z C K) (hn : C ≠ K) : ∃ c t, Z.vm.findClass C = some c ∧ Z.vm.findClass K = some t ∧ Z.vm.assignable c t = false := by
  obtain ⟨c, t, h0, g0, n3⟩ := n
  obtain ⟨c', kc, h1, h2, h3, h4, -⟩ := Cond.instantiable_spec w
  obtain ⟨t', kt, g1, g2, g3, g4, -⟩ := Cond.instantiable_spec wk
  cases h0.symm.trans h1
  cases g0.symm.trans g1
  have ne := ids_ne h0 g0 hn
  refine ⟨c, t, h0, g0, ?_⟩
  have g5 : kt.isInterface = false := by simp at g4; exact g4.1
  show Z.vm.assignableAux (255 + 1) c t = false
  simp [Vm.assignableAux, ne, h2, g2, h3, g3, g5, Vm.isSubclass, n3]
theorem keep_ext {h h' : Heap} (K : Keep h h' []) : Ext h h' := ⟨K.1, fun x c q => K.2.1 x c q nin0⟩
theorem Exa.plain {h : Heap} {a : Addr} {C : String} (F : Exa Z h a C) : ∀ cell : Cell, h[a]? = some cell → cell.vm.isStatics = false := fun cell hc => by
  obtain ⟨c, k, h1, -, -, h4, -⟩ := F
  cases h1.symm.trans hc; exact h4
theorem Avf.plain {h : Heap} {a : Addr} {kc : ClassId} {ty : FieldType} {sz : Nat} {f : Nat → Value} (F : Avf Z h a kc ty sz f) : ∀ cell : Cell, h[a]? = some cell → cell.vm.isStatics = false := fun cell hc => by
  obtain ⟨cl, A, -⟩ := F
  cases A.1.symm.trans hc; exact Arr.plain A
theorem Sta.keepN {h h' : Heap} {C f d : String} {v : Value} {ws : List Addr} (F : Sta Z h C f d v) (K : Keep h h' ws) (q : ∀ x ∈ ws, ∀ cell : Cell, h[x]? = some cell → cell.vm.isStatics = false) : Sta Z h' C f d v := by
  obtain ⟨cf, i, k, fl, st, cell, h1, h2, h3, h4, h5, h6, h7⟩ := F
  exact ⟨cf, i, k, fl, st, cell, h1, h2, h3, h4, K.2.1 st cell h5 (fun z => by rw [q st z cell h5] at h6; cases h6), h6, h7⟩
/-! at the start -/
theorem sta_exa {args : Array Value} {C f d K : String} (hx : (Cond.exactly (.static C f d) K).value args Z none Z [] = some true) (wi : (Cond.initialized C).before args Z = true) (wl : (Cond.laysStatic C f d).before args Z = true) : ∃ a, (Term.static C f d).eval args Z none [] Z = some (.ref a) ∧ Sta Z Z.heap C f d (.ref a) ∧ Exa Z Z.heap a K := by
  obtain ⟨a, ev⟩ := exa_v hx
  exact ⟨a, ev, Sta.start ev (Or.inr ⟨wi, wl⟩), Exa.start ev hx⟩
theorem sta_arr {args : Array Value} {C f d : String} {ty : FieldType} (hx : (Cond.arrayOf (.static C f d) ty).value args Z none Z [] = some true) (wi : (Cond.initialized C).before args Z = true) (wl : (Cond.laysStatic C f d).before args Z = true) : ∃ a cl, (Term.static C f d).eval args Z none [] Z = some (.ref a) ∧ Sta Z Z.heap C f d (.ref a) ∧ Arr Z Z.heap a cl ty := by
  obtain ⟨a, ev⟩ := arr_v hx
  obtain ⟨cl, A⟩ := Arr.start ev hx
  exact ⟨a, cl, ev, Sta.start ev (Or.inr ⟨wi, wl⟩), A⟩
theorem int_of_eq {args : Array Value} {t : Term} {kk : Int32} (h : (Cond.eq t (.int kk)).value args Z none Z [] = some true) : t.eval args Z none [] Z = some (.int kk) := by
  obtain ⟨x, y, h1, h2, k1, k2⟩ := cmp_v (Or.inl h)
  cases (Option.some.inj h2 : Value.int kk = y)
  obtain ⟨z, rfl⟩ : ∃ z, x = .int z := k2
  have q : z = kk := by simpa [Cond.value, h1, Term.eval] using h
  rw [h1, q]
theorem fld_eq {args : Array Value} {t : Term} {C f d : String} {a : Addr} {kk : Int32} (ht : t.eval args Z none [] Z = some (.ref a)) (h : (Cond.eq (.field t C f d) (.int kk)).value args Z none Z [] = some true) : Fld Z Z.heap a C f d (.int kk) :=
  Fld.start ((fld_at ht).symm.trans (int_of_eq h))
theorem ref_of_eq {args : Array Value} {t u : Term} {a : Addr} (hu : u.eval args Z none [] Z = some (.ref a)) (h : (Cond.eq t u).value args Z none Z [] = some true) : t.eval args Z none [] Z = some (.ref a) := by
  obtain ⟨x, y, h1, h2, k1, k2⟩ := cmp_v (Or.inl h)
  cases (Option.some.inj (hu.symm.trans h2) : Value.ref a = y)
  have kx : x.isRef = true := k2.2
  rw [h1, gotT (eq_R h1 hu kx rfl) h]
theorem avf_len {args : Array Value} {t : Term} {a : Addr} {cl : Cell} {ty : FieldType} {z : Int32} {sz : Nat} (A : Arr Z Z.heap a cl ty) (ev : t.eval args Z none [] Z = some (.ref a)) (h : (Term.length t).eval args Z none [] Z = some (.int z)) (hz : z.toNatClampNeg = sz) : cl.slots.size = sz := by
  have ha : Z.arrayAt? a = some cl := A.fin (Vm.Alike.refl _)
  simp only [Term.eval, ev, ha, Option.bind_eq_bind, Option.bind_some] at h
  split at h
  · rename_i hl
    have e : cl.slots.size.toInt32 = z := by simpa using h
    rw [← hz, ← e]
    have q := len_toInt hl
    simp only [Int32.toNatClampNeg, q]; omega
  · cases h
theorem iremS {g : JFrame} {target : State} (X : Sd n0 p l e R s m args below meth c T h k n) (hx : p.tables.exec = Jvm.exec) (hg : g.method = m) {x y : Int32} {rest : List Value} (hd : decode c.code g.pc = .ok (.irem, 1)) (hs : g.stack = .int y :: .int x :: rest) (hy : y ≠ 0)
    (hr : Steps p.tables e below (T.setTop { g with pc := g.pc + 1, stack := .int (x % y) :: rest }) target) : Steps p.tables e below (T.setTop g) target := by
  obtain ⟨L, X, -⟩ := X; exact iremM X hx hg hd hs hy hr
end Sds
end Jvm.RoadKit
namespace Jvm.Pilot.@@N@@
open Jvm Jvm.ClassFile Sem Op Lib Jvm.Free Jvm.Stand Jvm.LawKit Jvm.RoadKit Bundle Jvm.Pilot.@@N@@.Jvm.D
theorem tw {a0 : Array Value} {Z : State} (hw : ∀ d ∈ tables_1, d.before a0 Z = true) (i : Nat) {d : Jvm.Cond} (h : tables_1[i]? = some d) : d.before a0 Z = true := hw _ (List.mem_of_getElem? h)
def own_tag (i : Int32) : Int32 := if i = 0 then 99 else if i = 1 then 104 else 105
theorem own_tag8 (i : Int32) : (own_tag i).toInt8.toInt32 = own_tag i := by
  unfold own_tag; split
  · rfl
  · split <;> rfl
theorem own_m3 (x : Int32) : (x &&& (2147483647 : Int32)) % (3 : Int32) = 0 ∨ (x &&& (2147483647 : Int32)) % (3 : Int32) = 1 ∨ (x &&& (2147483647 : Int32)) % (3 : Int32) = 2 := by
  have q := c_mask x 2147483647 31 (by decide) (by decide)
  have r := Int32.toInt_mod (x &&& (2147483647 : Int32)) 3
  have e3 : (3 : Int32).toInt = 3 := rfl
  have e0 : (0 : Int32).toInt = 0 := rfl
  have e1 : (1 : Int32).toInt = 1 := rfl
  have e2 : (2 : Int32).toInt = 2 := rfl
  rw [e3, Int.tmod_eq_emod_of_nonneg (by omega)] at r
  simp only [← Int32.toInt_inj, e0, e1, e2]
  omega
theorem d1_0 : decode method_2_code 0 = .ok (.iload_n 0, 1) := by decide +kernel
theorem d1_1 : decode method_2_code 1 = .ok (.ifCond .ne 7, 3) := by decide +kernel
theorem d1_4 : decode method_2_code 4 = .ok (.getstatic 7, 3) := by decide +kernel
theorem d1_7 : decode method_2_code 7 = .ok (.areturn, 1) := by decide +kernel
theorem d1_8 : decode method_2_code 8 = .ok (.iload_n 0, 1) := by decide +kernel
theorem d1_9 : decode method_2_code 9 = .ok (.iconst 1, 1) := by decide +kernel
theorem d1_10 : decode method_2_code 10 = .ok (.if_icmp .ne 7, 3) := by decide +kernel
theorem d1_13 : decode method_2_code 13 = .ok (.getstatic 13, 3) := by decide +kernel
theorem d1_16 : decode method_2_code 16 = .ok (.areturn, 1) := by decide +kernel
theorem d1_17 : decode method_2_code 17 = .ok (.getstatic 16, 3) := by decide +kernel
theorem d1_20 : decode method_2_code 20 = .ok (.areturn, 1) := by decide +kernel
abbrev Rm1 : Room := { frames := 0, cells := 0, slots := 0, locals := 0 }
theorem pn0 : plainName "com/example/clio/clio/LayoutCountPinLaw" = true := by first | (simp [plainName, overriddenIn]; done) | decide +kernel
set_option maxRecDepth 65536 in
set_option maxHeartbeats 40000000 in
theorem rm1 (l : Launch) (Z : State) (a0 : Array Value) (hw : ∀ d ∈ tables_1, d.before a0 Z = true) (ws : List Jvm.Cond) (p1 : Int32) (a_CONVERSATIONS : Addr) (a_INBOX_ENTRIES : Addr) (a_HISTORY_ENTRIES : Addr) (h0 : Heap) (n0 : Nat) (Z0 : n0 ≤ h0.size) (S_CONVERSATIONS : Sta Z h0 "com/example/clio/clio/Layout$Count" "CONVERSATIONS" "Lcom/example/clio/clio/Layout$Count;" (.ref a_CONVERSATIONS)) (E_CONVERSATIONS : Exa Z h0 a_CONVERSATIONS "com/example/clio/clio/Layout$Count") (S_INBOX_ENTRIES : Sta Z h0 "com/example/clio/clio/Layout$Count" "INBOX_ENTRIES" "Lcom/example/clio/clio/Layout$Count;" (.ref a_INBOX_ENTRIES)) (E_INBOX_ENTRIES : Exa Z h0 a_INBOX_ENTRIES "com/example/clio/clio/Layout$Count") (S_HISTORY_ENTRIES : Sta Z h0 "com/example/clio/clio/Layout$Count" "HISTORY_ENTRIES" "Lcom/example/clio/clio/Layout$Count;" (.ref a_HISTORY_ENTRIES)) (E_HISTORY_ENTRIES : Exa Z h0 a_HISTORY_ENTRIES "com/example/clio/clio/Layout$Count") (F_CONVERSATIONS_tag : Fld Z h0 a_CONVERSATIONS "com/example/clio/clio/Layout$Count" "tag" "B" (.int (99 : Int32))) (F_INBOX_ENTRIES_tag : Fld Z h0 a_INBOX_ENTRIES "com/example/clio/clio/Layout$Count" "tag" "B" (.int (105 : Int32))) (F_HISTORY_ENTRIES_tag : Fld Z h0 a_HISTORY_ENTRIES "com/example/clio/clio/Layout$Count" "tag" "B" (.int (104 : Int32))) :
    Met l Z n0 (⟨"com/example/clio/clio/LayoutCountPinLaw", "pick", "(I)Lcom/example/clio/clio/Layout$Count;"⟩ : MethodName) method_2_code 1 (some (.object "com/example/clio/clio/Layout$Count")) ws Rm1 #[(.int p1)] h0 (fun v h => ∃ r, v = some (.ref r) ∧ Fld Z h r "com/example/clio/clio/Layout$Count" "tag" "B" (.int (own_tag p1)) ∧ h0 = h) := by
  refine enter (Ls := #[.val (.int p1)]) (plainFor_of_name pn0) (fun m => by first | rfl | (simp [entryFrame, mkF, argsToLocals, Value.category]; done)) ?_
  intro p e s m below meth c T0 hx hby hml hown hnm hret hlk hZ X0
  show Go p.tables e below _ (T0.setTop (mkF m 0 #[.val (.int p1)] []))
  refine Go.by (fun _ => XS.iloadN X0.here hx rfl (hb hby d1_0) rfl) ?_
  show Go p.tables e below _ (T0.setTop (mkF m 1 #[.val (.int p1)] [(.int p1)]))
  by_cases hc1_1 : p1 = (0 : Int32)
  · skip
    refine Go.by (fun _ => XS.ifNo X0.here hx rfl (hb hby d1_1) rfl ((if0 _ _).trans (teq hc1_1).2)) ?_
    show Go p.tables e below _ (T0.setTop (mkF m 4 #[.val (.int p1)] []))
    obtain ⟨T2, X2, st2⟩ := X0.getS hx hZ hown (host := "") (Or.inl (tw hw 5 rfl)) Via.refl S_CONVERSATIONS (g := (mkF m 4 #[.val (.int p1)] [])) rfl (hb hby d1_4)
    refine Go.by st2 ?_
    show Go p.tables e below _ (T2.setTop (mkF m 7 #[.val (.int p1)] [(.ref a_CONVERSATIONS)]))
    refine Go.retA X2 hx hlk hret rfl rfl (hb hby d1_7) (by decide) (by decide) ?_
    refine ⟨a_CONVERSATIONS, rfl, ?_, rfl⟩
    have q : own_tag p1 = 99 := by simp [own_tag, *]
    rw [q]; exact F_CONVERSATIONS_tag
  · skip
    refine Go.by (fun _ => XS.ifYes X0.here hx rfl (pc0 := 1) (pc' := 8) rfl (hb hby d1_1) rfl ((if0 _ _).trans (feq hc1_1).2) (by decide) (by decide)) ?_
    show Go p.tables e below _ (T0.setTop (mkF m 8 #[.val (.int p1)] []))
    refine Go.by (fun _ => XS.iloadN X0.here hx rfl (hb hby d1_8) rfl) ?_
    show Go p.tables e below _ (T0.setTop (mkF m 9 #[.val (.int p1)] [(.int p1)]))
    refine Go.by (fun _ => XS.iconst X0.here hx rfl (hb hby d1_9)) ?_
    show Go p.tables e below _ (T0.setTop (mkF m 10 #[.val (.int p1)] [(.int (1 : Int32)), (.int p1)]))
    by_cases hc10_3 : p1 = (1 : Int32)
    · skip
      refine Go.by (fun _ => XS.icmpNo X0.here hx rfl (hb hby d1_10) rfl (teq hc10_3).2) ?_
      show Go p.tables e below _ (T0.setTop (mkF m 13 #[.val (.int p1)] []))
      obtain ⟨T4, X4, st4⟩ := X0.getS hx hZ hown (host := "") (Or.inl (tw hw 23 rfl)) Via.refl S_HISTORY_ENTRIES (g := (mkF m 13 #[.val (.int p1)] [])) rfl (hb hby d1_13)
      refine Go.by st4 ?_
      show Go p.tables e below _ (T4.setTop (mkF m 16 #[.val (.int p1)] [(.ref a_HISTORY_ENTRIES)]))
      refine Go.retA X4 hx hlk hret rfl rfl (hb hby d1_16) (by decide) (by decide) ?_
      refine ⟨a_HISTORY_ENTRIES, rfl, ?_, rfl⟩
      have q : own_tag p1 = 104 := by simp [own_tag, *]
      rw [q]; exact F_HISTORY_ENTRIES_tag
    · skip
      refine Go.by (fun _ => XS.icmpYes X0.here hx rfl (pc0 := 10) (pc' := 17) rfl (hb hby d1_10) rfl (feq hc10_3).2 (by decide) (by decide)) ?_
      show Go p.tables e below _ (T0.setTop (mkF m 17 #[.val (.int p1)] []))
      obtain ⟨T5, X5, st5⟩ := X0.getS hx hZ hown (host := "") (Or.inl (tw hw 21 rfl)) Via.refl S_INBOX_ENTRIES (g := (mkF m 17 #[.val (.int p1)] [])) rfl (hb hby d1_17)
      refine Go.by st5 ?_
      show Go p.tables e below _ (T5.setTop (mkF m 20 #[.val (.int p1)] [(.ref a_INBOX_ENTRIES)]))
      refine Go.retA X5 hx hlk hret rfl rfl (hb hby d1_20) (by decide) (by decide) ?_
      refine ⟨a_INBOX_ENTRIES, rfl, ?_, rfl⟩
      have q : own_tag p1 = 105 := by simp [own_tag, *]
      rw [q]; exact F_INBOX_ENTRIES_tag
theorem d2_0 : decode prog_20_method_18_code 0 = .ok (.iconst 2, 1) := by decide +kernel
theorem d2_1 : decode prog_20_method_18_code 1 = .ok (.newarray .byte, 2) := by decide +kernel
theorem d2_3 : decode prog_20_method_18_code 3 = .ok (.dup, 1) := by decide +kernel
theorem d2_4 : decode prog_20_method_18_code 4 = .ok (.iconst 0, 1) := by decide +kernel
theorem d2_5 : decode prog_20_method_18_code 5 = .ok (.bipush 110, 2) := by decide +kernel
theorem d2_7 : decode prog_20_method_18_code 7 = .ok (.bastore, 1) := by decide +kernel
theorem d2_8 : decode prog_20_method_18_code 8 = .ok (.dup, 1) := by decide +kernel
theorem d2_9 : decode prog_20_method_18_code 9 = .ok (.iconst 1, 1) := by decide +kernel
theorem d2_10 : decode prog_20_method_18_code 10 = .ok (.aload_n 0, 1) := by decide +kernel
theorem d2_11 : decode prog_20_method_18_code 11 = .ok (.getfield 97, 3) := by decide +kernel
theorem d2_14 : decode prog_20_method_18_code 14 = .ok (.bastore, 1) := by decide +kernel
theorem d2_15 : decode prog_20_method_18_code 15 = .ok (.areturn, 1) := by decide +kernel
abbrev Rm2 : Room := { frames := 0, cells := 1, slots := 2, locals := 0 }
theorem pn1 : plainName "com/example/clio/clio/Layout" = true := by first | (simp [plainName, overriddenIn]; done) | decide +kernel
set_option maxRecDepth 65536 in
set_option maxHeartbeats 40000000 in
theorem rm2 (l : Launch) (Z : State) (a0 : Array Value) (hw : ∀ d ∈ tables_1, d.before a0 Z = true) (ws : List Jvm.Cond) (a1 : Addr) (t1 : Int32) (h0 : Heap) (n0 : Nat) (Z0 : n0 ≤ h0.size) (F_t : Fld Z h0 a1 "com/example/clio/clio/Layout$Count" "tag" "B" (.int t1)) (ht : t1.toInt8.toInt32 = t1) :
    Met l Z n0 (⟨"com/example/clio/clio/Layout", "count", "(Lcom/example/clio/clio/Layout$Count;)[B"⟩ : MethodName) prog_20_method_18_code 1 (some (.array .byte)) ws Rm2 #[(.ref a1)] h0 (fun v h => ∃ r kc, v = some (.ref r) ∧ h0.size ≤ r ∧ Keep h0 h [] ∧ Avf Z h r kc .byte 2 (fun i => if i = 0 then (.int (110 : Int32)) else (.int t1))) := by
  refine enter (Ls := #[.val (.ref a1)]) (plainFor_of_name pn1) (fun m => by first | rfl | (simp [entryFrame, mkF, argsToLocals, Value.category]; done)) ?_
  intro p e s m below meth c T0 hx hby hml hown hnm hret hlk hZ X0
  have K0 := Keep.refl h0 []
  show Go p.tables e below _ (T0.setTop (mkF m 0 #[.val (.ref a1)] []))
  refine Go.by (fun _ => XS.iconst X0.here hx rfl (hb hby d2_0)) ?_
  show Go p.tables e below _ (T0.setTop (mkF m 1 #[.val (.ref a1)] [(.int (2 : Int32))]))
  obtain ⟨T1, h1, kc1, b1, X1, g1, E1, A1, V1, st1⟩ := X0.newP hx hZ (tw hw 12 rfl) (g := (mkF m 1 #[.val (.ref a1)] [(.int (2 : Int32))])) rfl (hb hby d2_1) rfl (by decide) (sz := 2) (cap := 2) (k' := 1) (n' := 2) rfl (Nat.le_refl _) (by decide) rfl rfl (by decide) (by decide) (ad := "[B") (by decide)
  have g_b1 : n0 ≤ b1 := by rw [g1]; exact Z0
  have sz_b1 : h0.size ≤ b1 := by rw [g1]; exact K0.1
  have ne_a1_b1 : a1 ≠ b1 := Nat.ne_of_lt (by rw [g1]; exact F_t.lt)
  have f2_8 := F_t.ext E1
  have f2_9 := K0.ext E1
  have Zs2 : n0 ≤ h1.size := Nat.le_trans Z0 E1.1
  refine Go.by st1 ?_
  show Go p.tables e below _ (T1.setTop (mkF m 3 #[.val (.ref a1)] [(.ref b1)]))
  refine Go.by (fun _ => XS.dup X1.here hx rfl (hb hby d2_3) rfl rfl) ?_
  show Go p.tables e below _ (T1.setTop (mkF m 4 #[.val (.ref a1)] [(.ref b1), (.ref b1)]))
  refine Go.by (fun _ => XS.iconst X1.here hx rfl (hb hby d2_4)) ?_
  show Go p.tables e below _ (T1.setTop (mkF m 5 #[.val (.ref a1)] [(.int (0 : Int32)), (.ref b1), (.ref b1)]))
  refine Go.by (fun _ => XS.bipush X1.here hx rfl (hb hby d2_5)) ?_
  show Go p.tables e below _ (T1.setTop (mkF m 7 #[.val (.ref a1)] [(.int (110 : Int32)), (.int (0 : Int32)), (.ref b1), (.ref b1)]))
  obtain ⟨T3, h3, X3, W3, V3, st3⟩ := X1.stB hx hZ V1 g_b1 (by decide) (i := 0) rfl (by decide) (g := (mkF m 7 #[.val (.ref a1)] [(.int (110 : Int32)), (.int (0 : Int32)), (.ref b1), (.ref b1)])) rfl rfl (hb hby d2_7)
  have f4_20 := f2_8.other W3 (Or.inl ne_a1_b1)
  have f4_21 := f2_9.wr W3 (Or.inr sz_b1)
  have f4_22 := A1.wr W3
  have Zs4 : n0 ≤ h3.size := by rw [W3.size]; exact Zs2
  refine Go.by st3 ?_
  show Go p.tables e below _ (T3.setTop (mkF m 8 #[.val (.ref a1)] [(.ref b1)]))
  refine Go.by (fun _ => XS.dup X3.here hx rfl (hb hby d2_8) rfl rfl) ?_
  show Go p.tables e below _ (T3.setTop (mkF m 9 #[.val (.ref a1)] [(.ref b1), (.ref b1)]))
  refine Go.by (fun _ => XS.iconst X3.here hx rfl (hb hby d2_9)) ?_
  show Go p.tables e below _ (T3.setTop (mkF m 10 #[.val (.ref a1)] [(.int (1 : Int32)), (.ref b1), (.ref b1)]))
  refine Go.by (fun _ => XS.aloadN X3.here hx rfl (hb hby d2_10) rfl rfl) ?_
  show Go p.tables e below _ (T3.setTop (mkF m 11 #[.val (.ref a1)] [(.ref a1), (.int (1 : Int32)), (.ref b1), (.ref b1)]))
  refine Go.by (X3.getFR hx hZ hown (tw hw 13 rfl) f4_20 (g := (mkF m 11 #[.val (.ref a1)] [(.ref a1), (.int (1 : Int32)), (.ref b1), (.ref b1)])) rfl rfl (hb hby d2_11)) ?_
  show Go p.tables e below _ (T3.setTop (mkF m 14 #[.val (.ref a1)] [(.int t1), (.int (1 : Int32)), (.ref b1), (.ref b1)]))
  obtain ⟨T6, h6, X6, W6, V6, st6⟩ := X3.stB hx hZ V3 g_b1 (by decide) (i := 1) rfl (by decide) (g := (mkF m 14 #[.val (.ref a1)] [(.int t1), (.int (1 : Int32)), (.ref b1), (.ref b1)])) rfl rfl (hb hby d2_14)
  have f7_35 := f4_20.other W6 (Or.inl ne_a1_b1)
  have f7_36 := f4_21.wr W6 (Or.inr sz_b1)
  have f7_37 := f4_22.wr W6
  have Zs7 : n0 ≤ h6.size := by rw [W6.size]; exact Zs4
  refine Go.by st6 ?_
  show Go p.tables e below _ (T6.setTop (mkF m 15 #[.val (.ref a1)] [(.ref b1)]))
  refine Go.retA X6 hx hlk hret rfl rfl (hb hby d2_15) (by decide) (by decide) ?_
  refine ⟨b1, kc1, rfl, sz_b1, f7_36, Avf.cong V6 (fun i hi => ?_)⟩
  match i, hi with
  | 0, _ => rfl
  | 1, _ => exact congrArg Value.int ht
theorem d4_0 : decode method_3_code 0 = .ok (.iload_n 0, 1) := by decide +kernel
theorem d4_1 : decode method_3_code 1 = .ok (.ifCond .ne 6, 3) := by decide +kernel
theorem d4_4 : decode method_3_code 4 = .ok (.bipush 99, 2) := by decide +kernel
theorem d4_6 : decode method_3_code 6 = .ok (.ireturn, 1) := by decide +kernel
theorem d4_7 : decode method_3_code 7 = .ok (.iload_n 0, 1) := by decide +kernel
theorem d4_8 : decode method_3_code 8 = .ok (.iconst 1, 1) := by decide +kernel
theorem d4_9 : decode method_3_code 9 = .ok (.if_icmp .ne 6, 3) := by decide +kernel
theorem d4_12 : decode method_3_code 12 = .ok (.bipush 104, 2) := by decide +kernel
theorem d4_14 : decode method_3_code 14 = .ok (.ireturn, 1) := by decide +kernel
theorem d4_15 : decode method_3_code 15 = .ok (.bipush 105, 2) := by decide +kernel
theorem d4_17 : decode method_3_code 17 = .ok (.ireturn, 1) := by decide +kernel
abbrev Rm4 : Room := { frames := 0, cells := 0, slots := 0, locals := 0 }
set_option maxRecDepth 65536 in
set_option maxHeartbeats 40000000 in
theorem rm4 (l : Launch) (Z : State) (a0 : Array Value) (hw : ∀ d ∈ tables_1, d.before a0 Z = true) (ws : List Jvm.Cond) (p1 : Int32) (h0 : Heap) (n0 : Nat) (Z0 : n0 ≤ h0.size) :
    Met l Z n0 (⟨"com/example/clio/clio/LayoutCountPinLaw", "tagOf", "(I)B"⟩ : MethodName) method_3_code 1 (some .byte) ws Rm4 #[(.int p1)] h0 (fun v h => v = some (.int (own_tag p1)) ∧ h0 = h) := by
  refine enter (Ls := #[.val (.int p1)]) (plainFor_of_name pn0) (fun m => by first | rfl | (simp [entryFrame, mkF, argsToLocals, Value.category]; done)) ?_
  intro p e s m below meth c T0 hx hby hml hown hnm hret hlk hZ X0
  show Go p.tables e below _ (T0.setTop (mkF m 0 #[.val (.int p1)] []))
  refine Go.by (fun _ => XS.iloadN X0.here hx rfl (hb hby d4_0) rfl) ?_
  show Go p.tables e below _ (T0.setTop (mkF m 1 #[.val (.int p1)] [(.int p1)]))
  by_cases hc1_1 : p1 = (0 : Int32)
  · skip
    refine Go.by (fun _ => XS.ifNo X0.here hx rfl (hb hby d4_1) rfl ((if0 _ _).trans (teq hc1_1).2)) ?_
    show Go p.tables e below _ (T0.setTop (mkF m 4 #[.val (.int p1)] []))
    refine Go.by (fun _ => XS.bipush X0.here hx rfl (hb hby d4_4)) ?_
    show Go p.tables e below _ (T0.setTop (mkF m 6 #[.val (.int p1)] [(.int (99 : Int32))]))
    refine Go.retN X0 hx hlk (z' := (99 : Int32)) hret (by simp) (hb hby d4_6) rfl (by decide) (by decide) ?_
    have q : own_tag p1 = (99 : Int32) := by simp [own_tag, *]
    rw [q]; exact ⟨rfl, rfl⟩
  · skip
    refine Go.by (fun _ => XS.ifYes X0.here hx rfl (pc0 := 1) (pc' := 7) rfl (hb hby d4_1) rfl ((if0 _ _).trans (feq hc1_1).2) (by decide) (by decide)) ?_
    show Go p.tables e below _ (T0.setTop (mkF m 7 #[.val (.int p1)] []))
    refine Go.by (fun _ => XS.iloadN X0.here hx rfl (hb hby d4_7) rfl) ?_
    show Go p.tables e below _ (T0.setTop (mkF m 8 #[.val (.int p1)] [(.int p1)]))
    refine Go.by (fun _ => XS.iconst X0.here hx rfl (hb hby d4_8)) ?_
    show Go p.tables e below _ (T0.setTop (mkF m 9 #[.val (.int p1)] [(.int (1 : Int32)), (.int p1)]))
    by_cases hc9_2 : p1 = (1 : Int32)
    · skip
      refine Go.by (fun _ => XS.icmpNo X0.here hx rfl (hb hby d4_9) rfl (teq hc9_2).2) ?_
      show Go p.tables e below _ (T0.setTop (mkF m 12 #[.val (.int p1)] []))
      refine Go.by (fun _ => XS.bipush X0.here hx rfl (hb hby d4_12)) ?_
      show Go p.tables e below _ (T0.setTop (mkF m 14 #[.val (.int p1)] [(.int (104 : Int32))]))
      refine Go.retN X0 hx hlk (z' := (104 : Int32)) hret (by simp) (hb hby d4_14) rfl (by decide) (by decide) ?_
      have q : own_tag p1 = (104 : Int32) := by simp [own_tag, *]
      rw [q]; exact ⟨rfl, rfl⟩
    · skip
      refine Go.by (fun _ => XS.icmpYes X0.here hx rfl (pc0 := 9) (pc' := 15) rfl (hb hby d4_9) rfl (feq hc9_2).2 (by decide) (by decide)) ?_
      show Go p.tables e below _ (T0.setTop (mkF m 15 #[.val (.int p1)] []))
      refine Go.by (fun _ => XS.bipush X0.here hx rfl (hb hby d4_15)) ?_
      show Go p.tables e below _ (T0.setTop (mkF m 17 #[.val (.int p1)] [(.int (105 : Int32))]))
      refine Go.retN X0 hx hlk (z' := (105 : Int32)) hret (by simp) (hb hby d4_17) rfl (by decide) (by decide) ?_
      have q : own_tag p1 = (105 : Int32) := by simp [own_tag, *]
      rw [q]; exact ⟨rfl, rfl⟩
theorem d3_0 : decode method_4_code 0 = .ok (.aload_n 0, 1) := by decide +kernel
theorem d3_1 : decode method_4_code 1 = .ok (.arraylength, 1) := by decide +kernel
theorem d3_2 : decode method_4_code 2 = .ok (.iconst 2, 1) := by decide +kernel
theorem d3_3 : decode method_4_code 3 = .ok (.if_icmp .ne 25, 3) := by decide +kernel
theorem d3_6 : decode method_4_code 6 = .ok (.aload_n 0, 1) := by decide +kernel
theorem d3_7 : decode method_4_code 7 = .ok (.iconst 0, 1) := by decide +kernel
theorem d3_8 : decode method_4_code 8 = .ok (.baload, 1) := by decide +kernel
theorem d3_9 : decode method_4_code 9 = .ok (.bipush 110, 2) := by decide +kernel
theorem d3_11 : decode method_4_code 11 = .ok (.if_icmp .ne 17, 3) := by decide +kernel
theorem d3_14 : decode method_4_code 14 = .ok (.aload_n 0, 1) := by decide +kernel
theorem d3_15 : decode method_4_code 15 = .ok (.iconst 1, 1) := by decide +kernel
theorem d3_16 : decode method_4_code 16 = .ok (.baload, 1) := by decide +kernel
theorem d3_17 : decode method_4_code 17 = .ok (.iload_n 1, 1) := by decide +kernel
theorem d3_18 : decode method_4_code 18 = .ok (.invokestatic 19, 3) := by decide +kernel
theorem pd0 : parseMethodDescriptor "(I)B" = some ⟨[.int], some .byte⟩ := by decide +kernel
theorem d3_21 : decode method_4_code 21 = .ok (.if_icmp .ne 7, 3) := by decide +kernel
theorem d3_24 : decode method_4_code 24 = .ok (.iconst 1, 1) := by decide +kernel
theorem d3_25 : decode method_4_code 25 = .ok (.goto 4, 3) := by decide +kernel
theorem d3_29 : decode method_4_code 29 = .ok (.ireturn, 1) := by decide +kernel
abbrev Rm3 : Room := { frames := 1, cells := 0, slots := 0, locals := 13 }
set_option maxRecDepth 65536 in
set_option maxHeartbeats 40000000 in
theorem rm3 (l : Launch) (Z : State) (a0 : Array Value) (hw : ∀ d ∈ tables_1, d.before a0 Z = true) (ws : List Jvm.Cond) (a1 : Addr) (p2 : Int32) (kc : ClassId) (h0 : Heap) (n0 : Nat) (Z0 : n0 ≤ h0.size) (V_a : Avf Z h0 a1 kc .byte 2 (fun i => if i = 0 then (.int (110 : Int32)) else (.int (own_tag p2)))) :
    Met l Z n0 (⟨"com/example/clio/clio/LayoutCountPinLaw", "isKey", "([BI)Z"⟩ : MethodName) method_4_code 2 (some .boolean) ws Rm3 #[(.ref a1), (.int p2)] h0 (fun v h => v = some (.int 1) ∧ h0 = h) := by
  refine enter (Ls := #[.val (.ref a1), .val (.int p2)]) (plainFor_of_name pn0) (fun m => by first | rfl | (simp [entryFrame, mkF, argsToLocals, Value.category]; done)) ?_
  intro p e s m below meth c T0 hx hby hml hown hnm hret hlk hZ X0
  show Go p.tables e below _ (T0.setTop (mkF m 0 #[.val (.ref a1), .val (.int p2)] []))
  refine Go.by (fun _ => XS.aloadN X0.here hx rfl (hb hby d3_0) rfl rfl) ?_
  show Go p.tables e below _ (T0.setTop (mkF m 1 #[.val (.ref a1), .val (.int p2)] [(.ref a1)]))
  refine Go.by (X0.len hx hZ V_a (z := (2 : Int32)) rfl (g := (mkF m 1 #[.val (.ref a1), .val (.int p2)] [(.ref a1)])) rfl rfl (hb hby d3_1)) ?_
  show Go p.tables e below _ (T0.setTop (mkF m 2 #[.val (.ref a1), .val (.int p2)] [(.int (2 : Int32))]))
  refine Go.by (fun _ => XS.iconst X0.here hx rfl (hb hby d3_2)) ?_
  show Go p.tables e below _ (T0.setTop (mkF m 3 #[.val (.ref a1), .val (.int p2)] [(.int (2 : Int32)), (.int (2 : Int32))]))
  refine Go.by (fun _ => XS.icmpNo X0.here hx rfl (hb hby d3_3) rfl (teq (by decide)).2) ?_
  show Go p.tables e below _ (T0.setTop (mkF m 6 #[.val (.ref a1), .val (.int p2)] []))
  refine Go.by (fun _ => XS.aloadN X0.here hx rfl (hb hby d3_6) rfl rfl) ?_
  show Go p.tables e below _ (T0.setTop (mkF m 7 #[.val (.ref a1), .val (.int p2)] [(.ref a1)]))
  refine Go.by (fun _ => XS.iconst X0.here hx rfl (hb hby d3_7)) ?_
  show Go p.tables e below _ (T0.setTop (mkF m 8 #[.val (.ref a1), .val (.int p2)] [(.int (0 : Int32)), (.ref a1)]))
  refine Go.by (X0.ldB hx hZ V_a (by decide) (i := 0) rfl (by decide) (v := (.int (110 : Int32))) rfl (g := (mkF m 8 #[.val (.ref a1), .val (.int p2)] [(.int (0 : Int32)), (.ref a1)])) rfl rfl (hb hby d3_8)) ?_
  show Go p.tables e below _ (T0.setTop (mkF m 9 #[.val (.ref a1), .val (.int p2)] [(.int (110 : Int32))]))
  refine Go.by (fun _ => XS.bipush X0.here hx rfl (hb hby d3_9)) ?_
  show Go p.tables e below _ (T0.setTop (mkF m 11 #[.val (.ref a1), .val (.int p2)] [(.int (110 : Int32)), (.int (110 : Int32))]))
  refine Go.by (fun _ => XS.icmpNo X0.here hx rfl (hb hby d3_11) rfl (teq (by decide)).2) ?_
  show Go p.tables e below _ (T0.setTop (mkF m 14 #[.val (.ref a1), .val (.int p2)] []))
  refine Go.by (fun _ => XS.aloadN X0.here hx rfl (hb hby d3_14) rfl rfl) ?_
  show Go p.tables e below _ (T0.setTop (mkF m 15 #[.val (.ref a1), .val (.int p2)] [(.ref a1)]))
  refine Go.by (fun _ => XS.iconst X0.here hx rfl (hb hby d3_15)) ?_
  show Go p.tables e below _ (T0.setTop (mkF m 16 #[.val (.ref a1), .val (.int p2)] [(.int (1 : Int32)), (.ref a1)]))
  refine Go.by (X0.ldB hx hZ V_a (by decide) (i := 1) rfl (by decide) (v := (.int (own_tag p2))) rfl (g := (mkF m 16 #[.val (.ref a1), .val (.int p2)] [(.int (1 : Int32)), (.ref a1)])) rfl rfl (hb hby d3_16)) ?_
  show Go p.tables e below _ (T0.setTop (mkF m 17 #[.val (.ref a1), .val (.int p2)] [(.int (own_tag p2))]))
  refine Go.by (fun _ => XS.iloadN X0.here hx rfl (hb hby d3_17) rfl) ?_
  show Go p.tables e below _ (T0.setTop (mkF m 18 #[.val (.ref a1), .val (.int p2)] [(.int p2), (.int (own_tag p2))]))
  obtain ⟨v1, T1, h1, X1, q1, st1⟩ := X0.callS hx hZ (y := (⟨"com/example/clio/clio/LayoutCountPinLaw", "tagOf", "(I)B"⟩ : MethodName)) hown (tw hw 18 rfl) (tw hw 19 rfl) (tw hw 3 rfl) (tw hw 20 rfl) (by decide) (rm4 l Z a0 hw [] p2 h0 n0 Z0) (g := (mkF m 18 #[.val (.ref a1), .val (.int p2)] [(.int p2), (.int (own_tag p2))])) rfl (by rw [hml]; rfl) (argsL := [(.int p2)]) (rest := [(.int (own_tag p2))]) (lenOf pd0 rfl) rfl (hb hby d3_18) rfl (by decide) (Nat.le_of_ble_eq_true rfl) (k' := 0) (n' := 0) rfl rfl (by decide) (by decide)
  refine Go.by st1 ?_
  obtain ⟨rfl, rfl⟩ := q1
  show Go p.tables e below _ (T1.setTop (mkF m 21 #[.val (.ref a1), .val (.int p2)] [(.int (own_tag p2)), (.int (own_tag p2))]))
  refine Go.by (fun _ => XS.icmpNo X1.here hx rfl (hb hby d3_21) rfl (teq rfl).2) ?_
  show Go p.tables e below _ (T1.setTop (mkF m 24 #[.val (.ref a1), .val (.int p2)] []))
  refine Go.by (fun _ => XS.iconst X1.here hx rfl (hb hby d3_24)) ?_
  show Go p.tables e below _ (T1.setTop (mkF m 25 #[.val (.ref a1), .val (.int p2)] [(.int (1 : Int32))]))
  refine Go.by (fun _ => XS.goto X1.here hx rfl (pc0 := 25) (pc' := 29) rfl (hb hby d3_25) (by decide) (by decide)) ?_
  show Go p.tables e below _ (T1.setTop (mkF m 29 #[.val (.ref a1), .val (.int p2)] [(.int (1 : Int32))]))
  exact Go.retN X1 hx hlk (z' := (1 : Int32)) hret (by simp) (hb hby d3_29) rfl (by decide) (by decide) ⟨rfl, rfl⟩
theorem pd1 : parseMethodDescriptor "(I)Lcom/example/clio/clio/Layout$Count;" = some ⟨[.int], some (.object "com/example/clio/clio/Layout$Count")⟩ := by decide +kernel
theorem pd2 : parseMethodDescriptor "(Lcom/example/clio/clio/Layout$Count;)[B" = some ⟨[(.object "com/example/clio/clio/Layout$Count")], some (.array .byte)⟩ := by decide +kernel
theorem pd3 : parseMethodDescriptor "([BI)Z" = some ⟨[(.array .byte), .int], some .boolean⟩ := by decide +kernel
set_option maxRecDepth 65536 in
set_option maxHeartbeats 40000000 in
theorem rm0 (l : Launch) (Z : State) (a0 : Array Value) (hw : ∀ d ∈ tables_1, d.before a0 Z = true) (ws : List Jvm.Cond) (p0 : Int32) (p1 : Int32) (a_CONVERSATIONS : Addr) (a_INBOX_ENTRIES : Addr) (a_HISTORY_ENTRIES : Addr) (h0 : Heap) (n0 : Nat) (Z0 : n0 ≤ h0.size) (S_CONVERSATIONS : Sta Z h0 "com/example/clio/clio/Layout$Count" "CONVERSATIONS" "Lcom/example/clio/clio/Layout$Count;" (.ref a_CONVERSATIONS)) (E_CONVERSATIONS : Exa Z h0 a_CONVERSATIONS "com/example/clio/clio/Layout$Count") (S_INBOX_ENTRIES : Sta Z h0 "com/example/clio/clio/Layout$Count" "INBOX_ENTRIES" "Lcom/example/clio/clio/Layout$Count;" (.ref a_INBOX_ENTRIES)) (E_INBOX_ENTRIES : Exa Z h0 a_INBOX_ENTRIES "com/example/clio/clio/Layout$Count") (S_HISTORY_ENTRIES : Sta Z h0 "com/example/clio/clio/Layout$Count" "HISTORY_ENTRIES" "Lcom/example/clio/clio/Layout$Count;" (.ref a_HISTORY_ENTRIES)) (E_HISTORY_ENTRIES : Exa Z h0 a_HISTORY_ENTRIES "com/example/clio/clio/Layout$Count") (F_CONVERSATIONS_tag : Fld Z h0 a_CONVERSATIONS "com/example/clio/clio/Layout$Count" "tag" "B" (.int (99 : Int32))) (F_INBOX_ENTRIES_tag : Fld Z h0 a_INBOX_ENTRIES "com/example/clio/clio/Layout$Count" "tag" "B" (.int (105 : Int32))) (F_HISTORY_ENTRIES_tag : Fld Z h0 a_HISTORY_ENTRIES "com/example/clio/clio/Layout$Count" "tag" "B" (.int (104 : Int32))) :
    Met l Z n0 x code maxLocals ret ws room_1 #[(.int p0), (.int p1)] h0 (fun v h => v = some (.int 1)) := by
  refine enter (Ls := #[.val (.int p0), .val (.int p1), .unset, .unset, .unset, .unset, .unset, .unset]) (plainFor_of_name pn0) (fun m => by first | rfl | (simp [entryFrame, mkF, argsToLocals, Value.category, maxLocals]; done)) ?_
  intro p e s m below meth c T0 hx hby hml hown hnm hret hlk hZ X0
  show Go p.tables e below _ (T0.setTop (mkF m 0 #[.val (.int p0), .val (.int p1), .unset, .unset, .unset, .unset, .unset, .unset] []))
  refine Go.by (fun _ => XS.iloadN X0.here hx rfl (hb hby at_0) rfl) ?_
  show Go p.tables e below _ (T0.setTop (mkF m 1 #[.val (.int p0), .val (.int p1), .unset, .unset, .unset, .unset, .unset, .unset] [(.int p0)]))
  refine Go.by (X0.ldcInt hx hZ hown (tw hw 0 rfl) (g := (mkF m 1 #[.val (.int p0), .val (.int p1), .unset, .unset, .unset, .unset, .unset, .unset] [(.int p0)])) rfl (hb hby at_1)) ?_
  show Go p.tables e below _ (T0.setTop (mkF m 3 #[.val (.int p0), .val (.int p1), .unset, .unset, .unset, .unset, .unset, .unset] [(.int (2147483647 : Int32)), (.int p0)]))
  refine Go.by (fun _ => XS.iand X0.here hx rfl (hb hby at_3) rfl) ?_
  show Go p.tables e below _ (T0.setTop (mkF m 4 #[.val (.int p0), .val (.int p1), .unset, .unset, .unset, .unset, .unset, .unset] [(.int (p0 &&& (2147483647 : Int32)))]))
  refine Go.by (fun _ => XS.iconst X0.here hx rfl (hb hby at_4)) ?_
  show Go p.tables e below _ (T0.setTop (mkF m 5 #[.val (.int p0), .val (.int p1), .unset, .unset, .unset, .unset, .unset, .unset] [(.int (3 : Int32)), (.int (p0 &&& (2147483647 : Int32)))]))
  refine Go.by (fun _ => iremS X0 hx rfl (hb hby at_5) rfl (by decide)) ?_
  show Go p.tables e below _ (T0.setTop (mkF m 6 #[.val (.int p0), .val (.int p1), .unset, .unset, .unset, .unset, .unset, .unset] [(.int ((p0 &&& (2147483647 : Int32)) % (3 : Int32)))]))
  refine Go.by (fun _ => XS.istoreN X0.here hx rfl (hb hby at_6) rfl (l' := #[.val (.int p0), .val (.int p1), .val (.int ((p0 &&& (2147483647 : Int32)) % (3 : Int32))), .unset, .unset, .unset, .unset, .unset]) rfl) ?_
  show Go p.tables e below _ (T0.setTop (mkF m 7 #[.val (.int p0), .val (.int p1), .val (.int ((p0 &&& (2147483647 : Int32)) % (3 : Int32))), .unset, .unset, .unset, .unset, .unset] []))
  refine Go.by (fun _ => XS.iloadN X0.here hx rfl (hb hby at_7) rfl) ?_
  show Go p.tables e below _ (T0.setTop (mkF m 8 #[.val (.int p0), .val (.int p1), .val (.int ((p0 &&& (2147483647 : Int32)) % (3 : Int32))), .unset, .unset, .unset, .unset, .unset] [(.int p1)]))
  refine Go.by (X0.ldcInt hx hZ hown (tw hw 0 rfl) (g := (mkF m 8 #[.val (.int p0), .val (.int p1), .val (.int ((p0 &&& (2147483647 : Int32)) % (3 : Int32))), .unset, .unset, .unset, .unset, .unset] [(.int p1)])) rfl (hb hby at_8)) ?_
  show Go p.tables e below _ (T0.setTop (mkF m 10 #[.val (.int p0), .val (.int p1), .val (.int ((p0 &&& (2147483647 : Int32)) % (3 : Int32))), .unset, .unset, .unset, .unset, .unset] [(.int (2147483647 : Int32)), (.int p1)]))
  refine Go.by (fun _ => XS.iand X0.here hx rfl (hb hby at_10) rfl) ?_
  show Go p.tables e below _ (T0.setTop (mkF m 11 #[.val (.int p0), .val (.int p1), .val (.int ((p0 &&& (2147483647 : Int32)) % (3 : Int32))), .unset, .unset, .unset, .unset, .unset] [(.int (p1 &&& (2147483647 : Int32)))]))
  refine Go.by (fun _ => XS.iconst X0.here hx rfl (hb hby at_11)) ?_
  show Go p.tables e below _ (T0.setTop (mkF m 12 #[.val (.int p0), .val (.int p1), .val (.int ((p0 &&& (2147483647 : Int32)) % (3 : Int32))), .unset, .unset, .unset, .unset, .unset] [(.int (3 : Int32)), (.int (p1 &&& (2147483647 : Int32)))]))
  refine Go.by (fun _ => iremS X0 hx rfl (hb hby at_12) rfl (by decide)) ?_
  show Go p.tables e below _ (T0.setTop (mkF m 13 #[.val (.int p0), .val (.int p1), .val (.int ((p0 &&& (2147483647 : Int32)) % (3 : Int32))), .unset, .unset, .unset, .unset, .unset] [(.int ((p1 &&& (2147483647 : Int32)) % (3 : Int32)))]))
  refine Go.by (fun _ => XS.istoreN X0.here hx rfl (hb hby at_13) rfl (l' := #[.val (.int p0), .val (.int p1), .val (.int ((p0 &&& (2147483647 : Int32)) % (3 : Int32))), .val (.int ((p1 &&& (2147483647 : Int32)) % (3 : Int32))), .unset, .unset, .unset, .unset]) rfl) ?_
  show Go p.tables e below _ (T0.setTop (mkF m 14 #[.val (.int p0), .val (.int p1), .val (.int ((p0 &&& (2147483647 : Int32)) % (3 : Int32))), .val (.int ((p1 &&& (2147483647 : Int32)) % (3 : Int32))), .unset, .unset, .unset, .unset] []))
  have hi := own_m3 p0
  have hj := own_m3 p1
  generalize ((p0 &&& (2147483647 : Int32)) % (3 : Int32)) = ii at *
  generalize ((p1 &&& (2147483647 : Int32)) % (3 : Int32)) = jj at *
  show Go p.tables e below _ (T0.setTop (mkF m 14 #[.val (.int p0), .val (.int p1), .val (.int ii), .val (.int jj), .unset, .unset, .unset, .unset] []))
  refine Go.by (fun _ => XS.iloadN X0.here hx rfl (hb hby at_14) rfl) ?_
  show Go p.tables e below _ (T0.setTop (mkF m 15 #[.val (.int p0), .val (.int p1), .val (.int ii), .val (.int jj), .unset, .unset, .unset, .unset] [(.int ii)]))
  obtain ⟨v1, T1, h1, X1, q1, st1⟩ := X0.callS hx hZ (y := (⟨"com/example/clio/clio/LayoutCountPinLaw", "pick", "(I)Lcom/example/clio/clio/Layout$Count;"⟩ : MethodName)) hown (tw hw 1 rfl) (tw hw 2 rfl) (tw hw 3 rfl) (tw hw 4 rfl) (by decide) (rm1 l Z a0 hw [] ii a_CONVERSATIONS a_INBOX_ENTRIES a_HISTORY_ENTRIES h0 n0 Z0 S_CONVERSATIONS E_CONVERSATIONS S_INBOX_ENTRIES E_INBOX_ENTRIES S_HISTORY_ENTRIES E_HISTORY_ENTRIES F_CONVERSATIONS_tag F_INBOX_ENTRIES_tag F_HISTORY_ENTRIES_tag) (g := (mkF m 15 #[.val (.int p0), .val (.int p1), .val (.int ii), .val (.int jj), .unset, .unset, .unset, .unset] [(.int ii)])) rfl (by rw [hml]; rfl) (argsL := [(.int ii)]) (rest := []) (lenOf pd1 rfl) rfl (hb hby at_15) rfl (by decide) (Nat.le_of_ble_eq_true rfl) (k' := 0) (n' := 0) rfl rfl (by decide) (by decide)
  refine Go.by st1 ?_
  obtain ⟨r1, rfl, Ft1, rfl⟩ := q1
  show Go p.tables e below _ (T1.setTop (mkF m 18 #[.val (.int p0), .val (.int p1), .val (.int ii), .val (.int jj), .unset, .unset, .unset, .unset] [(.ref r1)]))
  obtain ⟨v2, T2, h2, X2, q2, st2⟩ := X1.callS hx hZ (y := (⟨"com/example/clio/clio/Layout", "count", "(Lcom/example/clio/clio/Layout$Count;)[B"⟩ : MethodName)) hown (tw hw 8 rfl) (tw hw 9 rfl) (tw hw 10 rfl) (tw hw 11 rfl) (by decide) (rm2 l Z a0 hw [] r1 (own_tag ii) h0 n0 Z0 Ft1 (own_tag8 _)) (g := (mkF m 18 #[.val (.int p0), .val (.int p1), .val (.int ii), .val (.int jj), .unset, .unset, .unset, .unset] [(.ref r1)])) rfl (by rw [hml]; rfl) (argsL := [(.ref r1)]) (rest := []) (lenOf pd2 rfl) rfl (hb hby at_18) rfl (by decide) (Nat.le_of_ble_eq_true rfl) (k' := 1) (n' := 2) rfl rfl (by decide) (by decide)
  refine Go.by st2 ?_
  obtain ⟨r2, kc2, rfl, sr2, K2, V2⟩ := q2
  have g_r2 : n0 ≤ r2 := Nat.le_trans Z0 sr2
  have ne_a_CONVERSATIONS_r2 : a_CONVERSATIONS ≠ r2 := Nat.ne_of_lt (Nat.lt_of_lt_of_le E_CONVERSATIONS.lt sr2)
  have ne_a_INBOX_ENTRIES_r2 : a_INBOX_ENTRIES ≠ r2 := Nat.ne_of_lt (Nat.lt_of_lt_of_le E_INBOX_ENTRIES.lt sr2)
  have ne_a_HISTORY_ENTRIES_r2 : a_HISTORY_ENTRIES ≠ r2 := Nat.ne_of_lt (Nat.lt_of_lt_of_le E_HISTORY_ENTRIES.lt sr2)
  have f3_43 := S_CONVERSATIONS.ext (keep_ext K2)
  have f3_44 := E_CONVERSATIONS.ext (keep_ext K2)
  have f3_45 := S_INBOX_ENTRIES.ext (keep_ext K2)
  have f3_46 := E_INBOX_ENTRIES.ext (keep_ext K2)
  have f3_47 := S_HISTORY_ENTRIES.ext (keep_ext K2)
  have f3_48 := E_HISTORY_ENTRIES.ext (keep_ext K2)
  have f3_49 := F_CONVERSATIONS_tag.ext (keep_ext K2)
  have f3_50 := F_INBOX_ENTRIES_tag.ext (keep_ext K2)
  have f3_51 := F_HISTORY_ENTRIES_tag.ext (keep_ext K2)
  have Zs3 : n0 ≤ h2.size := Nat.le_trans Z0 (keep_ext K2).1
  show Go p.tables e below _ (T2.setTop (mkF m 21 #[.val (.int p0), .val (.int p1), .val (.int ii), .val (.int jj), .unset, .unset, .unset, .unset] [(.ref r2)]))
  refine Go.by (fun _ => XS.astore X2.here hx rfl (hb hby at_21) rfl rfl (l' := #[.val (.int p0), .val (.int p1), .val (.int ii), .val (.int jj), .val (.ref r2), .unset, .unset, .unset]) rfl) ?_
  show Go p.tables e below _ (T2.setTop (mkF m 23 #[.val (.int p0), .val (.int p1), .val (.int ii), .val (.int jj), .val (.ref r2), .unset, .unset, .unset] []))
  refine Go.by (fun _ => XS.iloadN X2.here hx rfl (hb hby at_23) rfl) ?_
  show Go p.tables e below _ (T2.setTop (mkF m 24 #[.val (.int p0), .val (.int p1), .val (.int ii), .val (.int jj), .val (.ref r2), .unset, .unset, .unset] [(.int jj)]))
  obtain ⟨v4, T4, h4, X4, q4, st4⟩ := X2.callS hx hZ (y := (⟨"com/example/clio/clio/LayoutCountPinLaw", "pick", "(I)Lcom/example/clio/clio/Layout$Count;"⟩ : MethodName)) hown (tw hw 1 rfl) (tw hw 2 rfl) (tw hw 3 rfl) (tw hw 4 rfl) (by decide) (rm1 l Z a0 hw [] jj a_CONVERSATIONS a_INBOX_ENTRIES a_HISTORY_ENTRIES h2 n0 Zs3 f3_43 f3_44 f3_45 f3_46 f3_47 f3_48 f3_49 f3_50 f3_51) (g := (mkF m 24 #[.val (.int p0), .val (.int p1), .val (.int ii), .val (.int jj), .val (.ref r2), .unset, .unset, .unset] [(.int jj)])) rfl (by rw [hml]; rfl) (argsL := [(.int jj)]) (rest := []) (lenOf pd1 rfl) rfl (hb hby at_24) rfl (by decide) (Nat.le_of_ble_eq_true rfl) (k' := 1) (n' := 2) rfl rfl (by decide) (by decide)
  refine Go.by st4 ?_
  obtain ⟨r4, rfl, Ft4, rfl⟩ := q4
  show Go p.tables e below _ (T4.setTop (mkF m 27 #[.val (.int p0), .val (.int p1), .val (.int ii), .val (.int jj), .val (.ref r2), .unset, .unset, .unset] [(.ref r4)]))
  obtain ⟨v5, T5, h5, X5, q5, st5⟩ := X4.callS hx hZ (y := (⟨"com/example/clio/clio/Layout", "count", "(Lcom/example/clio/clio/Layout$Count;)[B"⟩ : MethodName)) hown (tw hw 8 rfl) (tw hw 9 rfl) (tw hw 10 rfl) (tw hw 11 rfl) (by decide) (rm2 l Z a0 hw [] r4 (own_tag jj) h2 n0 Zs3 Ft4 (own_tag8 _)) (g := (mkF m 27 #[.val (.int p0), .val (.int p1), .val (.int ii), .val (.int jj), .val (.ref r2), .unset, .unset, .unset] [(.ref r4)])) rfl (by rw [hml]; rfl) (argsL := [(.ref r4)]) (rest := []) (lenOf pd2 rfl) rfl (hb hby at_27) rfl (by decide) (Nat.le_of_ble_eq_true rfl) (k' := 2) (n' := 4) rfl rfl (by decide) (by decide)
  refine Go.by st5 ?_
  obtain ⟨r5, kc5, rfl, sr5, K5, V5⟩ := q5
  have g_r5 : n0 ≤ r5 := Nat.le_trans Zs3 sr5
  have ne_a_CONVERSATIONS_r5 : a_CONVERSATIONS ≠ r5 := Nat.ne_of_lt (Nat.lt_of_lt_of_le f3_44.lt sr5)
  have ne_a_INBOX_ENTRIES_r5 : a_INBOX_ENTRIES ≠ r5 := Nat.ne_of_lt (Nat.lt_of_lt_of_le f3_46.lt sr5)
  have ne_a_HISTORY_ENTRIES_r5 : a_HISTORY_ENTRIES ≠ r5 := Nat.ne_of_lt (Nat.lt_of_lt_of_le f3_48.lt sr5)
  have ne_r2_r5 : r2 ≠ r5 := Nat.ne_of_lt (Nat.lt_of_lt_of_le V2.lt sr5)
  have f6_70 := f3_43.ext (keep_ext K5)
  have f6_71 := f3_44.ext (keep_ext K5)
  have f6_72 := f3_45.ext (keep_ext K5)
  have f6_73 := f3_46.ext (keep_ext K5)
  have f6_74 := f3_47.ext (keep_ext K5)
  have f6_75 := f3_48.ext (keep_ext K5)
  have f6_76 := f3_49.ext (keep_ext K5)
  have f6_77 := f3_50.ext (keep_ext K5)
  have f6_78 := f3_51.ext (keep_ext K5)
  have f6_79 := Avf.ext V2 (keep_ext K5)
  have Zs6 : n0 ≤ h5.size := Nat.le_trans Zs3 (keep_ext K5).1
  show Go p.tables e below _ (T5.setTop (mkF m 30 #[.val (.int p0), .val (.int p1), .val (.int ii), .val (.int jj), .val (.ref r2), .unset, .unset, .unset] [(.ref r5)]))
  refine Go.by (fun _ => XS.astore X5.here hx rfl (hb hby at_30) rfl rfl (l' := #[.val (.int p0), .val (.int p1), .val (.int ii), .val (.int jj), .val (.ref r2), .val (.ref r5), .unset, .unset]) rfl) ?_
  show Go p.tables e below _ (T5.setTop (mkF m 32 #[.val (.int p0), .val (.int p1), .val (.int ii), .val (.int jj), .val (.ref r2), .val (.ref r5), .unset, .unset] []))
  refine Go.by (fun _ => XS.aload X5.here hx rfl (hb hby at_32) rfl rfl) ?_
  show Go p.tables e below _ (T5.setTop (mkF m 34 #[.val (.int p0), .val (.int p1), .val (.int ii), .val (.int jj), .val (.ref r2), .val (.ref r5), .unset, .unset] [(.ref r2)]))
  refine Go.by (fun _ => XS.iloadN X5.here hx rfl (hb hby at_34) rfl) ?_
  show Go p.tables e below _ (T5.setTop (mkF m 35 #[.val (.int p0), .val (.int p1), .val (.int ii), .val (.int jj), .val (.ref r2), .val (.ref r5), .unset, .unset] [(.int ii), (.ref r2)]))
  obtain ⟨v7, T7, h7, X7, q7, st7⟩ := X5.callS hx hZ (y := (⟨"com/example/clio/clio/LayoutCountPinLaw", "isKey", "([BI)Z"⟩ : MethodName)) hown (tw hw 15 rfl) (tw hw 16 rfl) (tw hw 3 rfl) (tw hw 17 rfl) (by decide) (rm3 l Z a0 hw [] r2 ii kc2 h5 n0 Zs6 f6_79) (g := (mkF m 35 #[.val (.int p0), .val (.int p1), .val (.int ii), .val (.int jj), .val (.ref r2), .val (.ref r5), .unset, .unset] [(.int ii), (.ref r2)])) rfl (by rw [hml]; rfl) (argsL := [(.ref r2), (.int ii)]) (rest := []) (lenOf pd3 rfl) rfl (hb hby at_35) rfl (by decide) (Nat.le_of_ble_eq_true rfl) (k' := 2) (n' := 4) rfl rfl (by decide) (by decide)
  refine Go.by st7 ?_
  obtain ⟨rfl, rfl⟩ := q7
  show Go p.tables e below _ (T7.setTop (mkF m 38 #[.val (.int p0), .val (.int p1), .val (.int ii), .val (.int jj), .val (.ref r2), .val (.ref r5), .unset, .unset] [(.int (1 : Int32))]))
  refine Go.by (fun _ => XS.ifNo X7.here hx rfl (hb hby at_38) rfl ((if0 _ _).trans (feq (by decide)).1)) ?_
  show Go p.tables e below _ (T7.setTop (mkF m 41 #[.val (.int p0), .val (.int p1), .val (.int ii), .val (.int jj), .val (.ref r2), .val (.ref r5), .unset, .unset] []))
  refine Go.by (fun _ => XS.aload X7.here hx rfl (hb hby at_41) rfl rfl) ?_
  show Go p.tables e below _ (T7.setTop (mkF m 43 #[.val (.int p0), .val (.int p1), .val (.int ii), .val (.int jj), .val (.ref r2), .val (.ref r5), .unset, .unset] [(.ref r5)]))
  refine Go.by (fun _ => XS.iloadN X7.here hx rfl (hb hby at_43) rfl) ?_
  show Go p.tables e below _ (T7.setTop (mkF m 44 #[.val (.int p0), .val (.int p1), .val (.int ii), .val (.int jj), .val (.ref r2), .val (.ref r5), .unset, .unset] [(.int jj), (.ref r5)]))
  obtain ⟨v8, T8, h8, X8, q8, st8⟩ := X7.callS hx hZ (y := (⟨"com/example/clio/clio/LayoutCountPinLaw", "isKey", "([BI)Z"⟩ : MethodName)) hown (tw hw 15 rfl) (tw hw 16 rfl) (tw hw 3 rfl) (tw hw 17 rfl) (by decide) (rm3 l Z a0 hw [] r5 jj kc5 h5 n0 Zs6 V5) (g := (mkF m 44 #[.val (.int p0), .val (.int p1), .val (.int ii), .val (.int jj), .val (.ref r2), .val (.ref r5), .unset, .unset] [(.int jj), (.ref r5)])) rfl (by rw [hml]; rfl) (argsL := [(.ref r5), (.int jj)]) (rest := []) (lenOf pd3 rfl) rfl (hb hby at_44) rfl (by decide) (Nat.le_of_ble_eq_true rfl) (k' := 2) (n' := 4) rfl rfl (by decide) (by decide)
  refine Go.by st8 ?_
  obtain ⟨rfl, rfl⟩ := q8
  show Go p.tables e below _ (T8.setTop (mkF m 47 #[.val (.int p0), .val (.int p1), .val (.int ii), .val (.int jj), .val (.ref r2), .val (.ref r5), .unset, .unset] [(.int (1 : Int32))]))
  refine Go.by (fun _ => XS.ifNo X8.here hx rfl (hb hby at_47) rfl ((if0 _ _).trans (feq (by decide)).1)) ?_
  show Go p.tables e below _ (T8.setTop (mkF m 50 #[.val (.int p0), .val (.int p1), .val (.int ii), .val (.int jj), .val (.ref r2), .val (.ref r5), .unset, .unset] []))
  refine Go.by (fun _ => XS.iconst X8.here hx rfl (hb hby at_50)) ?_
  show Go p.tables e below _ (T8.setTop (mkF m 51 #[.val (.int p0), .val (.int p1), .val (.int ii), .val (.int jj), .val (.ref r2), .val (.ref r5), .unset, .unset] [(.int (1 : Int32))]))
  refine Go.by (fun _ => XS.goto X8.here hx rfl (pc0 := 51) (pc' := 55) rfl (hb hby at_51) (by decide) (by decide)) ?_
  show Go p.tables e below _ (T8.setTop (mkF m 55 #[.val (.int p0), .val (.int p1), .val (.int ii), .val (.int jj), .val (.ref r2), .val (.ref r5), .unset, .unset] [(.int (1 : Int32))]))
  refine Go.by (fun _ => XS.istore X8.here hx rfl (hb hby at_55) rfl (l' := #[.val (.int p0), .val (.int p1), .val (.int ii), .val (.int jj), .val (.ref r2), .val (.ref r5), .val (.int (1 : Int32)), .unset]) rfl) ?_
  show Go p.tables e below _ (T8.setTop (mkF m 57 #[.val (.int p0), .val (.int p1), .val (.int ii), .val (.int jj), .val (.ref r2), .val (.ref r5), .val (.int (1 : Int32)), .unset] []))
  refine Go.by (fun _ => XS.iload X8.here hx rfl (hb hby at_57) rfl) ?_
  show Go p.tables e below _ (T8.setTop (mkF m 59 #[.val (.int p0), .val (.int p1), .val (.int ii), .val (.int jj), .val (.ref r2), .val (.ref r5), .val (.int (1 : Int32)), .unset] [(.int (1 : Int32))]))
  refine Go.by (fun _ => XS.ifNo X8.here hx rfl (hb hby at_59) rfl ((if0 _ _).trans (feq (by decide)).1)) ?_
  show Go p.tables e below _ (T8.setTop (mkF m 62 #[.val (.int p0), .val (.int p1), .val (.int ii), .val (.int jj), .val (.ref r2), .val (.ref r5), .val (.int (1 : Int32)), .unset] []))
  refine Go.by (fun _ => XS.aload X8.here hx rfl (hb hby at_62) rfl rfl) ?_
  show Go p.tables e below _ (T8.setTop (mkF m 64 #[.val (.int p0), .val (.int p1), .val (.int ii), .val (.int jj), .val (.ref r2), .val (.ref r5), .val (.int (1 : Int32)), .unset] [(.ref r2)]))
  refine Go.by (fun _ => XS.iconst X8.here hx rfl (hb hby at_64)) ?_
  show Go p.tables e below _ (T8.setTop (mkF m 65 #[.val (.int p0), .val (.int p1), .val (.int ii), .val (.int jj), .val (.ref r2), .val (.ref r5), .val (.int (1 : Int32)), .unset] [(.int (1 : Int32)), (.ref r2)]))
  refine Go.by (X8.ldB hx hZ f6_79 (by decide) (i := 1) rfl (by decide) (v := (.int (own_tag ii))) rfl (g := (mkF m 65 #[.val (.int p0), .val (.int p1), .val (.int ii), .val (.int jj), .val (.ref r2), .val (.ref r5), .val (.int (1 : Int32)), .unset] [(.int (1 : Int32)), (.ref r2)])) rfl rfl (hb hby at_65)) ?_
  show Go p.tables e below _ (T8.setTop (mkF m 66 #[.val (.int p0), .val (.int p1), .val (.int ii), .val (.int jj), .val (.ref r2), .val (.ref r5), .val (.int (1 : Int32)), .unset] [(.int (own_tag ii))]))
  refine Go.by (fun _ => XS.aload X8.here hx rfl (hb hby at_66) rfl rfl) ?_
  show Go p.tables e below _ (T8.setTop (mkF m 68 #[.val (.int p0), .val (.int p1), .val (.int ii), .val (.int jj), .val (.ref r2), .val (.ref r5), .val (.int (1 : Int32)), .unset] [(.ref r5), (.int (own_tag ii))]))
  refine Go.by (fun _ => XS.iconst X8.here hx rfl (hb hby at_68)) ?_
  show Go p.tables e below _ (T8.setTop (mkF m 69 #[.val (.int p0), .val (.int p1), .val (.int ii), .val (.int jj), .val (.ref r2), .val (.ref r5), .val (.int (1 : Int32)), .unset] [(.int (1 : Int32)), (.ref r5), (.int (own_tag ii))]))
  refine Go.by (X8.ldB hx hZ V5 (by decide) (i := 1) rfl (by decide) (v := (.int (own_tag jj))) rfl (g := (mkF m 69 #[.val (.int p0), .val (.int p1), .val (.int ii), .val (.int jj), .val (.ref r2), .val (.ref r5), .val (.int (1 : Int32)), .unset] [(.int (1 : Int32)), (.ref r5), (.int (own_tag ii))])) rfl rfl (hb hby at_69)) ?_
  show Go p.tables e below _ (T8.setTop (mkF m 70 #[.val (.int p0), .val (.int p1), .val (.int ii), .val (.int jj), .val (.ref r2), .val (.ref r5), .val (.int (1 : Int32)), .unset] [(.int (own_tag jj)), (.int (own_tag ii))]))
  by_cases hc70_9 : (own_tag ii) = (own_tag jj)
  · skip
    refine Go.by (fun _ => XS.icmpNo X8.here hx rfl (hb hby at_70) rfl (teq hc70_9).2) ?_
    show Go p.tables e below _ (T8.setTop (mkF m 73 #[.val (.int p0), .val (.int p1), .val (.int ii), .val (.int jj), .val (.ref r2), .val (.ref r5), .val (.int (1 : Int32)), .unset] []))
    refine Go.by (fun _ => XS.iconst X8.here hx rfl (hb hby at_73)) ?_
    show Go p.tables e below _ (T8.setTop (mkF m 74 #[.val (.int p0), .val (.int p1), .val (.int ii), .val (.int jj), .val (.ref r2), .val (.ref r5), .val (.int (1 : Int32)), .unset] [(.int (1 : Int32))]))
    refine Go.by (fun _ => XS.goto X8.here hx rfl (pc0 := 74) (pc' := 78) rfl (hb hby at_74) (by decide) (by decide)) ?_
    show Go p.tables e below _ (T8.setTop (mkF m 78 #[.val (.int p0), .val (.int p1), .val (.int ii), .val (.int jj), .val (.ref r2), .val (.ref r5), .val (.int (1 : Int32)), .unset] [(.int (1 : Int32))]))
    refine Go.by (fun _ => XS.iloadN X8.here hx rfl (hb hby at_78) rfl) ?_
    show Go p.tables e below _ (T8.setTop (mkF m 79 #[.val (.int p0), .val (.int p1), .val (.int ii), .val (.int jj), .val (.ref r2), .val (.ref r5), .val (.int (1 : Int32)), .unset] [(.int ii), (.int (1 : Int32))]))
    refine Go.by (fun _ => XS.iloadN X8.here hx rfl (hb hby at_79) rfl) ?_
    show Go p.tables e below _ (T8.setTop (mkF m 80 #[.val (.int p0), .val (.int p1), .val (.int ii), .val (.int jj), .val (.ref r2), .val (.ref r5), .val (.int (1 : Int32)), .unset] [(.int jj), (.int ii), (.int (1 : Int32))]))
    by_cases hc80_10 : ii = jj
    · skip
      refine Go.by (fun _ => XS.icmpNo X8.here hx rfl (hb hby at_80) rfl (teq hc80_10).2) ?_
      show Go p.tables e below _ (T8.setTop (mkF m 83 #[.val (.int p0), .val (.int p1), .val (.int ii), .val (.int jj), .val (.ref r2), .val (.ref r5), .val (.int (1 : Int32)), .unset] [(.int (1 : Int32))]))
      refine Go.by (fun _ => XS.iconst X8.here hx rfl (hb hby at_83)) ?_
      show Go p.tables e below _ (T8.setTop (mkF m 84 #[.val (.int p0), .val (.int p1), .val (.int ii), .val (.int jj), .val (.ref r2), .val (.ref r5), .val (.int (1 : Int32)), .unset] [(.int (1 : Int32)), (.int (1 : Int32))]))
      refine Go.by (fun _ => XS.goto X8.here hx rfl (pc0 := 84) (pc' := 88) rfl (hb hby at_84) (by decide) (by decide)) ?_
      show Go p.tables e below _ (T8.setTop (mkF m 88 #[.val (.int p0), .val (.int p1), .val (.int ii), .val (.int jj), .val (.ref r2), .val (.ref r5), .val (.int (1 : Int32)), .unset] [(.int (1 : Int32)), (.int (1 : Int32))]))
      refine Go.by (fun _ => XS.icmpNo X8.here hx rfl (hb hby at_88) rfl (teq (by decide)).2) ?_
      show Go p.tables e below _ (T8.setTop (mkF m 91 #[.val (.int p0), .val (.int p1), .val (.int ii), .val (.int jj), .val (.ref r2), .val (.ref r5), .val (.int (1 : Int32)), .unset] []))
      refine Go.by (fun _ => XS.iconst X8.here hx rfl (hb hby at_91)) ?_
      show Go p.tables e below _ (T8.setTop (mkF m 92 #[.val (.int p0), .val (.int p1), .val (.int ii), .val (.int jj), .val (.ref r2), .val (.ref r5), .val (.int (1 : Int32)), .unset] [(.int (1 : Int32))]))
      refine Go.by (fun _ => XS.goto X8.here hx rfl (pc0 := 92) (pc' := 96) rfl (hb hby at_92) (by decide) (by decide)) ?_
      show Go p.tables e below _ (T8.setTop (mkF m 96 #[.val (.int p0), .val (.int p1), .val (.int ii), .val (.int jj), .val (.ref r2), .val (.ref r5), .val (.int (1 : Int32)), .unset] [(.int (1 : Int32))]))
      refine Go.by (fun _ => XS.istore X8.here hx rfl (hb hby at_96) rfl (l' := #[.val (.int p0), .val (.int p1), .val (.int ii), .val (.int jj), .val (.ref r2), .val (.ref r5), .val (.int (1 : Int32)), .unset]) rfl) ?_
      show Go p.tables e below _ (T8.setTop (mkF m 98 #[.val (.int p0), .val (.int p1), .val (.int ii), .val (.int jj), .val (.ref r2), .val (.ref r5), .val (.int (1 : Int32)), .unset] []))
      refine Go.by (fun _ => XS.iload X8.here hx rfl (hb hby at_98) rfl) ?_
      show Go p.tables e below _ (T8.setTop (mkF m 100 #[.val (.int p0), .val (.int p1), .val (.int ii), .val (.int jj), .val (.ref r2), .val (.ref r5), .val (.int (1 : Int32)), .unset] [(.int (1 : Int32))]))
      refine Go.by (fun _ => XS.ifYes X8.here hx rfl (pc0 := 100) (pc' := 105) rfl (hb hby at_100) rfl ((if0 _ _).trans (feq (by decide)).2) (by decide) (by decide)) ?_
      show Go p.tables e below _ (T8.setTop (mkF m 105 #[.val (.int p0), .val (.int p1), .val (.int ii), .val (.int jj), .val (.ref r2), .val (.ref r5), .val (.int (1 : Int32)), .unset] []))
      refine Go.by (fun _ => XS.aload X8.here hx rfl (hb hby at_105) rfl rfl) ?_
      show Go p.tables e below _ (T8.setTop (mkF m 107 #[.val (.int p0), .val (.int p1), .val (.int ii), .val (.int jj), .val (.ref r2), .val (.ref r5), .val (.int (1 : Int32)), .unset] [(.ref r2)]))
      refine Go.by (fun _ => XS.iconst X8.here hx rfl (hb hby at_107)) ?_
      show Go p.tables e below _ (T8.setTop (mkF m 108 #[.val (.int p0), .val (.int p1), .val (.int ii), .val (.int jj), .val (.ref r2), .val (.ref r5), .val (.int (1 : Int32)), .unset] [(.int (0 : Int32)), (.ref r2)]))
      refine Go.by (fun _ => XS.iconst X8.here hx rfl (hb hby at_108)) ?_
      show Go p.tables e below _ (T8.setTop (mkF m 109 #[.val (.int p0), .val (.int p1), .val (.int ii), .val (.int jj), .val (.ref r2), .val (.ref r5), .val (.int (1 : Int32)), .unset] [(.int (0 : Int32)), (.int (0 : Int32)), (.ref r2)]))
      obtain ⟨T11, h11, X11, W11, V11, st11⟩ := X8.stB hx hZ f6_79 g_r2 (by decide) (i := 0) rfl (by decide) (g := (mkF m 109 #[.val (.int p0), .val (.int p1), .val (.int ii), .val (.int jj), .val (.ref r2), .val (.ref r5), .val (.int (1 : Int32)), .unset] [(.int (0 : Int32)), (.int (0 : Int32)), (.ref r2)])) rfl rfl (hb hby at_109)
      have f12_165 := f6_70.wr W11
      have f12_166 := f6_71.wr W11
      have f12_167 := f6_72.wr W11
      have f12_168 := f6_73.wr W11
      have f12_169 := f6_74.wr W11
      have f12_170 := f6_75.wr W11
      have f12_171 := f6_76.other W11 (Or.inl ne_a_CONVERSATIONS_r2)
      have f12_172 := f6_77.other W11 (Or.inl ne_a_INBOX_ENTRIES_r2)
      have f12_173 := f6_78.other W11 (Or.inl ne_a_HISTORY_ENTRIES_r2)
      have f12_174 := Avf.other V5 W11 (Ne.symm ne_r2_r5)
      have Zs12 : n0 ≤ h11.size := by rw [W11.size]; exact Zs6
      refine Go.by st11 ?_
      show Go p.tables e below _ (T11.setTop (mkF m 110 #[.val (.int p0), .val (.int p1), .val (.int ii), .val (.int jj), .val (.ref r2), .val (.ref r5), .val (.int (1 : Int32)), .unset] []))
      refine Go.by (fun _ => XS.aload X11.here hx rfl (hb hby at_110) rfl rfl) ?_
      show Go p.tables e below _ (T11.setTop (mkF m 112 #[.val (.int p0), .val (.int p1), .val (.int ii), .val (.int jj), .val (.ref r2), .val (.ref r5), .val (.int (1 : Int32)), .unset] [(.ref r2)]))
      refine Go.by (fun _ => XS.iconst X11.here hx rfl (hb hby at_112)) ?_
      show Go p.tables e below _ (T11.setTop (mkF m 113 #[.val (.int p0), .val (.int p1), .val (.int ii), .val (.int jj), .val (.ref r2), .val (.ref r5), .val (.int (1 : Int32)), .unset] [(.int (1 : Int32)), (.ref r2)]))
      refine Go.by (fun _ => XS.iconst X11.here hx rfl (hb hby at_113)) ?_
      show Go p.tables e below _ (T11.setTop (mkF m 114 #[.val (.int p0), .val (.int p1), .val (.int ii), .val (.int jj), .val (.ref r2), .val (.ref r5), .val (.int (1 : Int32)), .unset] [(.int (0 : Int32)), (.int (1 : Int32)), (.ref r2)]))
      obtain ⟨T13, h13, X13, W13, V13, st13⟩ := X11.stB hx hZ V11 g_r2 (by decide) (i := 1) rfl (by decide) (g := (mkF m 114 #[.val (.int p0), .val (.int p1), .val (.int ii), .val (.int jj), .val (.ref r2), .val (.ref r5), .val (.int (1 : Int32)), .unset] [(.int (0 : Int32)), (.int (1 : Int32)), (.ref r2)])) rfl rfl (hb hby at_114)
      have f14_185 := f12_165.wr W13
      have f14_186 := f12_166.wr W13
      have f14_187 := f12_167.wr W13
      have f14_188 := f12_168.wr W13
      have f14_189 := f12_169.wr W13
      have f14_190 := f12_170.wr W13
      have f14_191 := f12_171.other W13 (Or.inl ne_a_CONVERSATIONS_r2)
      have f14_192 := f12_172.other W13 (Or.inl ne_a_INBOX_ENTRIES_r2)
      have f14_193 := f12_173.other W13 (Or.inl ne_a_HISTORY_ENTRIES_r2)
      have f14_194 := Avf.other f12_174 W13 (Ne.symm ne_r2_r5)
      have Zs14 : n0 ≤ h13.size := by rw [W13.size]; exact Zs12
      refine Go.by st13 ?_
      show Go p.tables e below _ (T13.setTop (mkF m 115 #[.val (.int p0), .val (.int p1), .val (.int ii), .val (.int jj), .val (.ref r2), .val (.ref r5), .val (.int (1 : Int32)), .unset] []))
      refine Go.by (fun _ => XS.iloadN X13.here hx rfl (hb hby at_115) rfl) ?_
      show Go p.tables e below _ (T13.setTop (mkF m 116 #[.val (.int p0), .val (.int p1), .val (.int ii), .val (.int jj), .val (.ref r2), .val (.ref r5), .val (.int (1 : Int32)), .unset] [(.int ii)]))
      obtain ⟨v15, T15, h15, X15, q15, st15⟩ := X13.callS hx hZ (y := (⟨"com/example/clio/clio/LayoutCountPinLaw", "pick", "(I)Lcom/example/clio/clio/Layout$Count;"⟩ : MethodName)) hown (tw hw 1 rfl) (tw hw 2 rfl) (tw hw 3 rfl) (tw hw 4 rfl) (by decide) (rm1 l Z a0 hw [] ii a_CONVERSATIONS a_INBOX_ENTRIES a_HISTORY_ENTRIES h13 n0 Zs14 f14_185 f14_186 f14_187 f14_188 f14_189 f14_190 f14_191 f14_192 f14_193) (g := (mkF m 116 #[.val (.int p0), .val (.int p1), .val (.int ii), .val (.int jj), .val (.ref r2), .val (.ref r5), .val (.int (1 : Int32)), .unset] [(.int ii)])) rfl (by rw [hml]; rfl) (argsL := [(.int ii)]) (rest := []) (lenOf pd1 rfl) rfl (hb hby at_116) rfl (by decide) (Nat.le_of_ble_eq_true rfl) (k' := 2) (n' := 4) rfl rfl (by decide) (by decide)
      refine Go.by st15 ?_
      obtain ⟨r15, rfl, Ft15, rfl⟩ := q15
      show Go p.tables e below _ (T15.setTop (mkF m 119 #[.val (.int p0), .val (.int p1), .val (.int ii), .val (.int jj), .val (.ref r2), .val (.ref r5), .val (.int (1 : Int32)), .unset] [(.ref r15)]))
      obtain ⟨v16, T16, h16, X16, q16, st16⟩ := X15.callS hx hZ (y := (⟨"com/example/clio/clio/Layout", "count", "(Lcom/example/clio/clio/Layout$Count;)[B"⟩ : MethodName)) hown (tw hw 8 rfl) (tw hw 9 rfl) (tw hw 10 rfl) (tw hw 11 rfl) (by decide) (rm2 l Z a0 hw [] r15 (own_tag ii) h13 n0 Zs14 Ft15 (own_tag8 _)) (g := (mkF m 119 #[.val (.int p0), .val (.int p1), .val (.int ii), .val (.int jj), .val (.ref r2), .val (.ref r5), .val (.int (1 : Int32)), .unset] [(.ref r15)])) rfl (by rw [hml]; rfl) (argsL := [(.ref r15)]) (rest := []) (lenOf pd2 rfl) rfl (hb hby at_119) rfl (by decide) (Nat.le_of_ble_eq_true rfl) (k' := 3) (n' := 6) rfl rfl (by decide) (by decide)
      refine Go.by st16 ?_
      obtain ⟨r16, kc16, rfl, sr16, K16, V16⟩ := q16
      have g_r16 : n0 ≤ r16 := Nat.le_trans Zs14 sr16
      have ne_a_CONVERSATIONS_r16 : a_CONVERSATIONS ≠ r16 := Nat.ne_of_lt (Nat.lt_of_lt_of_le f14_186.lt sr16)
      have ne_a_INBOX_ENTRIES_r16 : a_INBOX_ENTRIES ≠ r16 := Nat.ne_of_lt (Nat.lt_of_lt_of_le f14_188.lt sr16)
      have ne_a_HISTORY_ENTRIES_r16 : a_HISTORY_ENTRIES ≠ r16 := Nat.ne_of_lt (Nat.lt_of_lt_of_le f14_190.lt sr16)
      have ne_r2_r16 : r2 ≠ r16 := Nat.ne_of_lt (Nat.lt_of_lt_of_le V13.lt sr16)
      have ne_r5_r16 : r5 ≠ r16 := Nat.ne_of_lt (Nat.lt_of_lt_of_le f14_194.lt sr16)
      have f17_213 := f14_185.ext (keep_ext K16)
      have f17_214 := f14_186.ext (keep_ext K16)
      have f17_215 := f14_187.ext (keep_ext K16)
      have f17_216 := f14_188.ext (keep_ext K16)
      have f17_217 := f14_189.ext (keep_ext K16)
      have f17_218 := f14_190.ext (keep_ext K16)
      have f17_219 := f14_191.ext (keep_ext K16)
      have f17_220 := f14_192.ext (keep_ext K16)
      have f17_221 := f14_193.ext (keep_ext K16)
      have f17_222 := Avf.ext V13 (keep_ext K16)
      have f17_223 := Avf.ext f14_194 (keep_ext K16)
      have Zs17 : n0 ≤ h16.size := Nat.le_trans Zs14 (keep_ext K16).1
      show Go p.tables e below _ (T16.setTop (mkF m 122 #[.val (.int p0), .val (.int p1), .val (.int ii), .val (.int jj), .val (.ref r2), .val (.ref r5), .val (.int (1 : Int32)), .unset] [(.ref r16)]))
      refine Go.by (fun _ => XS.astore X16.here hx rfl (hb hby at_122) rfl rfl (l' := #[.val (.int p0), .val (.int p1), .val (.int ii), .val (.int jj), .val (.ref r2), .val (.ref r5), .val (.int (1 : Int32)), .val (.ref r16)]) rfl) ?_
      show Go p.tables e below _ (T16.setTop (mkF m 124 #[.val (.int p0), .val (.int p1), .val (.int ii), .val (.int jj), .val (.ref r2), .val (.ref r5), .val (.int (1 : Int32)), .val (.ref r16)] []))
      refine Go.by (fun _ => XS.aload X16.here hx rfl (hb hby at_124) rfl rfl) ?_
      show Go p.tables e below _ (T16.setTop (mkF m 126 #[.val (.int p0), .val (.int p1), .val (.int ii), .val (.int jj), .val (.ref r2), .val (.ref r5), .val (.int (1 : Int32)), .val (.ref r16)] [(.ref r16)]))
      refine Go.by (fun _ => XS.iloadN X16.here hx rfl (hb hby at_126) rfl) ?_
      show Go p.tables e below _ (T16.setTop (mkF m 127 #[.val (.int p0), .val (.int p1), .val (.int ii), .val (.int jj), .val (.ref r2), .val (.ref r5), .val (.int (1 : Int32)), .val (.ref r16)] [(.int ii), (.ref r16)]))
      obtain ⟨v18, T18, h18, X18, q18, st18⟩ := X16.callS hx hZ (y := (⟨"com/example/clio/clio/LayoutCountPinLaw", "isKey", "([BI)Z"⟩ : MethodName)) hown (tw hw 15 rfl) (tw hw 16 rfl) (tw hw 3 rfl) (tw hw 17 rfl) (by decide) (rm3 l Z a0 hw [] r16 ii kc16 h16 n0 Zs17 V16) (g := (mkF m 127 #[.val (.int p0), .val (.int p1), .val (.int ii), .val (.int jj), .val (.ref r2), .val (.ref r5), .val (.int (1 : Int32)), .val (.ref r16)] [(.int ii), (.ref r16)])) rfl (by rw [hml]; rfl) (argsL := [(.ref r16), (.int ii)]) (rest := []) (lenOf pd3 rfl) rfl (hb hby at_127) rfl (by decide) (Nat.le_of_ble_eq_true rfl) (k' := 3) (n' := 6) rfl rfl (by decide) (by decide)
      refine Go.by st18 ?_
      obtain ⟨rfl, rfl⟩ := q18
      show Go p.tables e below _ (T18.setTop (mkF m 130 #[.val (.int p0), .val (.int p1), .val (.int ii), .val (.int jj), .val (.ref r2), .val (.ref r5), .val (.int (1 : Int32)), .val (.ref r16)] [(.int (1 : Int32))]))
      exact Go.retN X18 hx hlk (z' := (1 : Int32)) hret (by simp) (hb hby at_130) rfl (by decide) (by decide) rfl
    · skip
      refine Go.by (fun _ => XS.icmpYes X8.here hx rfl (pc0 := 80) (pc' := 87) rfl (hb hby at_80) rfl (feq hc80_10).2 (by decide) (by decide)) ?_
      show Go p.tables e below _ (T8.setTop (mkF m 87 #[.val (.int p0), .val (.int p1), .val (.int ii), .val (.int jj), .val (.ref r2), .val (.ref r5), .val (.int (1 : Int32)), .unset] [(.int (1 : Int32))]))
      refine Go.by (fun _ => XS.iconst X8.here hx rfl (hb hby at_87)) ?_
      show Go p.tables e below _ (T8.setTop (mkF m 88 #[.val (.int p0), .val (.int p1), .val (.int ii), .val (.int jj), .val (.ref r2), .val (.ref r5), .val (.int (1 : Int32)), .unset] [(.int (0 : Int32)), (.int (1 : Int32))]))
      refine Go.by (fun _ => XS.icmpYes X8.here hx rfl (pc0 := 88) (pc' := 95) rfl (hb hby at_88) rfl (feq (by decide)).2 (by decide) (by decide)) ?_
      show Go p.tables e below _ (T8.setTop (mkF m 95 #[.val (.int p0), .val (.int p1), .val (.int ii), .val (.int jj), .val (.ref r2), .val (.ref r5), .val (.int (1 : Int32)), .unset] []))
      refine Go.by (fun _ => XS.iconst X8.here hx rfl (hb hby at_95)) ?_
      show Go p.tables e below _ (T8.setTop (mkF m 96 #[.val (.int p0), .val (.int p1), .val (.int ii), .val (.int jj), .val (.ref r2), .val (.ref r5), .val (.int (1 : Int32)), .unset] [(.int (0 : Int32))]))
      refine Go.by (fun _ => XS.istore X8.here hx rfl (hb hby at_96) rfl (l' := #[.val (.int p0), .val (.int p1), .val (.int ii), .val (.int jj), .val (.ref r2), .val (.ref r5), .val (.int (0 : Int32)), .unset]) rfl) ?_
      show Go p.tables e below _ (T8.setTop (mkF m 98 #[.val (.int p0), .val (.int p1), .val (.int ii), .val (.int jj), .val (.ref r2), .val (.ref r5), .val (.int (0 : Int32)), .unset] []))
      refine Go.by (fun _ => XS.iload X8.here hx rfl (hb hby at_98) rfl) ?_
      show Go p.tables e below _ (T8.setTop (mkF m 100 #[.val (.int p0), .val (.int p1), .val (.int ii), .val (.int jj), .val (.ref r2), .val (.ref r5), .val (.int (0 : Int32)), .unset] [(.int (0 : Int32))]))
      refine Go.by (fun _ => XS.ifNo X8.here hx rfl (hb hby at_100) rfl ((if0 _ _).trans (teq (by decide)).2)) ?_
      show Go p.tables e below _ (T8.setTop (mkF m 103 #[.val (.int p0), .val (.int p1), .val (.int ii), .val (.int jj), .val (.ref r2), .val (.ref r5), .val (.int (0 : Int32)), .unset] []))
      refine Go.by (fun _ => XS.iconst X8.here hx rfl (hb hby at_103)) ?_
      show Go p.tables e below _ (T8.setTop (mkF m 104 #[.val (.int p0), .val (.int p1), .val (.int ii), .val (.int jj), .val (.ref r2), .val (.ref r5), .val (.int (0 : Int32)), .unset] [(.int (0 : Int32))]))
      refine Go.retN X8 hx hlk (z' := (0 : Int32)) hret (by simp) (hb hby at_104) rfl (by decide) (by decide) ?_
      exfalso
      rcases hi with rfl | rfl | rfl <;> rcases hj with rfl | rfl | rfl <;> simp_all [own_tag]
  · skip
    refine Go.by (fun _ => XS.icmpYes X8.here hx rfl (pc0 := 70) (pc' := 77) rfl (hb hby at_70) rfl (feq hc70_9).2 (by decide) (by decide)) ?_
    show Go p.tables e below _ (T8.setTop (mkF m 77 #[.val (.int p0), .val (.int p1), .val (.int ii), .val (.int jj), .val (.ref r2), .val (.ref r5), .val (.int (1 : Int32)), .unset] []))
    refine Go.by (fun _ => XS.iconst X8.here hx rfl (hb hby at_77)) ?_
    show Go p.tables e below _ (T8.setTop (mkF m 78 #[.val (.int p0), .val (.int p1), .val (.int ii), .val (.int jj), .val (.ref r2), .val (.ref r5), .val (.int (1 : Int32)), .unset] [(.int (0 : Int32))]))
    refine Go.by (fun _ => XS.iloadN X8.here hx rfl (hb hby at_78) rfl) ?_
    show Go p.tables e below _ (T8.setTop (mkF m 79 #[.val (.int p0), .val (.int p1), .val (.int ii), .val (.int jj), .val (.ref r2), .val (.ref r5), .val (.int (1 : Int32)), .unset] [(.int ii), (.int (0 : Int32))]))
    refine Go.by (fun _ => XS.iloadN X8.here hx rfl (hb hby at_79) rfl) ?_
    show Go p.tables e below _ (T8.setTop (mkF m 80 #[.val (.int p0), .val (.int p1), .val (.int ii), .val (.int jj), .val (.ref r2), .val (.ref r5), .val (.int (1 : Int32)), .unset] [(.int jj), (.int ii), (.int (0 : Int32))]))
    by_cases hc80_19 : ii = jj
    · skip
      refine Go.by (fun _ => XS.icmpNo X8.here hx rfl (hb hby at_80) rfl (teq hc80_19).2) ?_
      show Go p.tables e below _ (T8.setTop (mkF m 83 #[.val (.int p0), .val (.int p1), .val (.int ii), .val (.int jj), .val (.ref r2), .val (.ref r5), .val (.int (1 : Int32)), .unset] [(.int (0 : Int32))]))
      refine Go.by (fun _ => XS.iconst X8.here hx rfl (hb hby at_83)) ?_
      show Go p.tables e below _ (T8.setTop (mkF m 84 #[.val (.int p0), .val (.int p1), .val (.int ii), .val (.int jj), .val (.ref r2), .val (.ref r5), .val (.int (1 : Int32)), .unset] [(.int (1 : Int32)), (.int (0 : Int32))]))
      refine Go.by (fun _ => XS.goto X8.here hx rfl (pc0 := 84) (pc' := 88) rfl (hb hby at_84) (by decide) (by decide)) ?_
      show Go p.tables e below _ (T8.setTop (mkF m 88 #[.val (.int p0), .val (.int p1), .val (.int ii), .val (.int jj), .val (.ref r2), .val (.ref r5), .val (.int (1 : Int32)), .unset] [(.int (1 : Int32)), (.int (0 : Int32))]))
      refine Go.by (fun _ => XS.icmpYes X8.here hx rfl (pc0 := 88) (pc' := 95) rfl (hb hby at_88) rfl (feq (by decide)).2 (by decide) (by decide)) ?_
      show Go p.tables e below _ (T8.setTop (mkF m 95 #[.val (.int p0), .val (.int p1), .val (.int ii), .val (.int jj), .val (.ref r2), .val (.ref r5), .val (.int (1 : Int32)), .unset] []))
      refine Go.by (fun _ => XS.iconst X8.here hx rfl (hb hby at_95)) ?_
      show Go p.tables e below _ (T8.setTop (mkF m 96 #[.val (.int p0), .val (.int p1), .val (.int ii), .val (.int jj), .val (.ref r2), .val (.ref r5), .val (.int (1 : Int32)), .unset] [(.int (0 : Int32))]))
      refine Go.by (fun _ => XS.istore X8.here hx rfl (hb hby at_96) rfl (l' := #[.val (.int p0), .val (.int p1), .val (.int ii), .val (.int jj), .val (.ref r2), .val (.ref r5), .val (.int (0 : Int32)), .unset]) rfl) ?_
      show Go p.tables e below _ (T8.setTop (mkF m 98 #[.val (.int p0), .val (.int p1), .val (.int ii), .val (.int jj), .val (.ref r2), .val (.ref r5), .val (.int (0 : Int32)), .unset] []))
      refine Go.by (fun _ => XS.iload X8.here hx rfl (hb hby at_98) rfl) ?_
      show Go p.tables e below _ (T8.setTop (mkF m 100 #[.val (.int p0), .val (.int p1), .val (.int ii), .val (.int jj), .val (.ref r2), .val (.ref r5), .val (.int (0 : Int32)), .unset] [(.int (0 : Int32))]))
      refine Go.by (fun _ => XS.ifNo X8.here hx rfl (hb hby at_100) rfl ((if0 _ _).trans (teq (by decide)).2)) ?_
      show Go p.tables e below _ (T8.setTop (mkF m 103 #[.val (.int p0), .val (.int p1), .val (.int ii), .val (.int jj), .val (.ref r2), .val (.ref r5), .val (.int (0 : Int32)), .unset] []))
      refine Go.by (fun _ => XS.iconst X8.here hx rfl (hb hby at_103)) ?_
      show Go p.tables e below _ (T8.setTop (mkF m 104 #[.val (.int p0), .val (.int p1), .val (.int ii), .val (.int jj), .val (.ref r2), .val (.ref r5), .val (.int (0 : Int32)), .unset] [(.int (0 : Int32))]))
      refine Go.retN X8 hx hlk (z' := (0 : Int32)) hret (by simp) (hb hby at_104) rfl (by decide) (by decide) ?_
      exfalso
      rcases hi with rfl | rfl | rfl <;> rcases hj with rfl | rfl | rfl <;> simp_all [own_tag]
    · skip
      refine Go.by (fun _ => XS.icmpYes X8.here hx rfl (pc0 := 80) (pc' := 87) rfl (hb hby at_80) rfl (feq hc80_19).2 (by decide) (by decide)) ?_
      show Go p.tables e below _ (T8.setTop (mkF m 87 #[.val (.int p0), .val (.int p1), .val (.int ii), .val (.int jj), .val (.ref r2), .val (.ref r5), .val (.int (1 : Int32)), .unset] [(.int (0 : Int32))]))
      refine Go.by (fun _ => XS.iconst X8.here hx rfl (hb hby at_87)) ?_
      show Go p.tables e below _ (T8.setTop (mkF m 88 #[.val (.int p0), .val (.int p1), .val (.int ii), .val (.int jj), .val (.ref r2), .val (.ref r5), .val (.int (1 : Int32)), .unset] [(.int (0 : Int32)), (.int (0 : Int32))]))
      refine Go.by (fun _ => XS.icmpNo X8.here hx rfl (hb hby at_88) rfl (teq (by decide)).2) ?_
      show Go p.tables e below _ (T8.setTop (mkF m 91 #[.val (.int p0), .val (.int p1), .val (.int ii), .val (.int jj), .val (.ref r2), .val (.ref r5), .val (.int (1 : Int32)), .unset] []))
      refine Go.by (fun _ => XS.iconst X8.here hx rfl (hb hby at_91)) ?_
      show Go p.tables e below _ (T8.setTop (mkF m 92 #[.val (.int p0), .val (.int p1), .val (.int ii), .val (.int jj), .val (.ref r2), .val (.ref r5), .val (.int (1 : Int32)), .unset] [(.int (1 : Int32))]))
      refine Go.by (fun _ => XS.goto X8.here hx rfl (pc0 := 92) (pc' := 96) rfl (hb hby at_92) (by decide) (by decide)) ?_
      show Go p.tables e below _ (T8.setTop (mkF m 96 #[.val (.int p0), .val (.int p1), .val (.int ii), .val (.int jj), .val (.ref r2), .val (.ref r5), .val (.int (1 : Int32)), .unset] [(.int (1 : Int32))]))
      refine Go.by (fun _ => XS.istore X8.here hx rfl (hb hby at_96) rfl (l' := #[.val (.int p0), .val (.int p1), .val (.int ii), .val (.int jj), .val (.ref r2), .val (.ref r5), .val (.int (1 : Int32)), .unset]) rfl) ?_
      show Go p.tables e below _ (T8.setTop (mkF m 98 #[.val (.int p0), .val (.int p1), .val (.int ii), .val (.int jj), .val (.ref r2), .val (.ref r5), .val (.int (1 : Int32)), .unset] []))
      refine Go.by (fun _ => XS.iload X8.here hx rfl (hb hby at_98) rfl) ?_
      show Go p.tables e below _ (T8.setTop (mkF m 100 #[.val (.int p0), .val (.int p1), .val (.int ii), .val (.int jj), .val (.ref r2), .val (.ref r5), .val (.int (1 : Int32)), .unset] [(.int (1 : Int32))]))
      refine Go.by (fun _ => XS.ifYes X8.here hx rfl (pc0 := 100) (pc' := 105) rfl (hb hby at_100) rfl ((if0 _ _).trans (feq (by decide)).2) (by decide) (by decide)) ?_
      show Go p.tables e below _ (T8.setTop (mkF m 105 #[.val (.int p0), .val (.int p1), .val (.int ii), .val (.int jj), .val (.ref r2), .val (.ref r5), .val (.int (1 : Int32)), .unset] []))
      refine Go.by (fun _ => XS.aload X8.here hx rfl (hb hby at_105) rfl rfl) ?_
      show Go p.tables e below _ (T8.setTop (mkF m 107 #[.val (.int p0), .val (.int p1), .val (.int ii), .val (.int jj), .val (.ref r2), .val (.ref r5), .val (.int (1 : Int32)), .unset] [(.ref r2)]))
      refine Go.by (fun _ => XS.iconst X8.here hx rfl (hb hby at_107)) ?_
      show Go p.tables e below _ (T8.setTop (mkF m 108 #[.val (.int p0), .val (.int p1), .val (.int ii), .val (.int jj), .val (.ref r2), .val (.ref r5), .val (.int (1 : Int32)), .unset] [(.int (0 : Int32)), (.ref r2)]))
      refine Go.by (fun _ => XS.iconst X8.here hx rfl (hb hby at_108)) ?_
      show Go p.tables e below _ (T8.setTop (mkF m 109 #[.val (.int p0), .val (.int p1), .val (.int ii), .val (.int jj), .val (.ref r2), .val (.ref r5), .val (.int (1 : Int32)), .unset] [(.int (0 : Int32)), (.int (0 : Int32)), (.ref r2)]))
      obtain ⟨T20, h20, X20, W20, V20, st20⟩ := X8.stB hx hZ f6_79 g_r2 (by decide) (i := 0) rfl (by decide) (g := (mkF m 109 #[.val (.int p0), .val (.int p1), .val (.int ii), .val (.int jj), .val (.ref r2), .val (.ref r5), .val (.int (1 : Int32)), .unset] [(.int (0 : Int32)), (.int (0 : Int32)), (.ref r2)])) rfl rfl (hb hby at_109)
      have f21_313 := f6_70.wr W20
      have f21_314 := f6_71.wr W20
      have f21_315 := f6_72.wr W20
      have f21_316 := f6_73.wr W20
      have f21_317 := f6_74.wr W20
      have f21_318 := f6_75.wr W20
      have f21_319 := f6_76.other W20 (Or.inl ne_a_CONVERSATIONS_r2)
      have f21_320 := f6_77.other W20 (Or.inl ne_a_INBOX_ENTRIES_r2)
      have f21_321 := f6_78.other W20 (Or.inl ne_a_HISTORY_ENTRIES_r2)
      have f21_322 := Avf.other V5 W20 (Ne.symm ne_r2_r5)
      have Zs21 : n0 ≤ h20.size := by rw [W20.size]; exact Zs6
      refine Go.by st20 ?_
      show Go p.tables e below _ (T20.setTop (mkF m 110 #[.val (.int p0), .val (.int p1), .val (.int ii), .val (.int jj), .val (.ref r2), .val (.ref r5), .val (.int (1 : Int32)), .unset] []))
      refine Go.by (fun _ => XS.aload X20.here hx rfl (hb hby at_110) rfl rfl) ?_
      show Go p.tables e below _ (T20.setTop (mkF m 112 #[.val (.int p0), .val (.int p1), .val (.int ii), .val (.int jj), .val (.ref r2), .val (.ref r5), .val (.int (1 : Int32)), .unset] [(.ref r2)]))
      refine Go.by (fun _ => XS.iconst X20.here hx rfl (hb hby at_112)) ?_
      show Go p.tables e below _ (T20.setTop (mkF m 113 #[.val (.int p0), .val (.int p1), .val (.int ii), .val (.int jj), .val (.ref r2), .val (.ref r5), .val (.int (1 : Int32)), .unset] [(.int (1 : Int32)), (.ref r2)]))
      refine Go.by (fun _ => XS.iconst X20.here hx rfl (hb hby at_113)) ?_
      show Go p.tables e below _ (T20.setTop (mkF m 114 #[.val (.int p0), .val (.int p1), .val (.int ii), .val (.int jj), .val (.ref r2), .val (.ref r5), .val (.int (1 : Int32)), .unset] [(.int (0 : Int32)), (.int (1 : Int32)), (.ref r2)]))
      obtain ⟨T22, h22, X22, W22, V22, st22⟩ := X20.stB hx hZ V20 g_r2 (by decide) (i := 1) rfl (by decide) (g := (mkF m 114 #[.val (.int p0), .val (.int p1), .val (.int ii), .val (.int jj), .val (.ref r2), .val (.ref r5), .val (.int (1 : Int32)), .unset] [(.int (0 : Int32)), (.int (1 : Int32)), (.ref r2)])) rfl rfl (hb hby at_114)
      have f23_333 := f21_313.wr W22
      have f23_334 := f21_314.wr W22
      have f23_335 := f21_315.wr W22
      have f23_336 := f21_316.wr W22
      have f23_337 := f21_317.wr W22
      have f23_338 := f21_318.wr W22
      have f23_339 := f21_319.other W22 (Or.inl ne_a_CONVERSATIONS_r2)
      have f23_340 := f21_320.other W22 (Or.inl ne_a_INBOX_ENTRIES_r2)
      have f23_341 := f21_321.other W22 (Or.inl ne_a_HISTORY_ENTRIES_r2)
      have f23_342 := Avf.other f21_322 W22 (Ne.symm ne_r2_r5)
      have Zs23 : n0 ≤ h22.size := by rw [W22.size]; exact Zs21
      refine Go.by st22 ?_
      show Go p.tables e below _ (T22.setTop (mkF m 115 #[.val (.int p0), .val (.int p1), .val (.int ii), .val (.int jj), .val (.ref r2), .val (.ref r5), .val (.int (1 : Int32)), .unset] []))
      refine Go.by (fun _ => XS.iloadN X22.here hx rfl (hb hby at_115) rfl) ?_
      show Go p.tables e below _ (T22.setTop (mkF m 116 #[.val (.int p0), .val (.int p1), .val (.int ii), .val (.int jj), .val (.ref r2), .val (.ref r5), .val (.int (1 : Int32)), .unset] [(.int ii)]))
      obtain ⟨v24, T24, h24, X24, q24, st24⟩ := X22.callS hx hZ (y := (⟨"com/example/clio/clio/LayoutCountPinLaw", "pick", "(I)Lcom/example/clio/clio/Layout$Count;"⟩ : MethodName)) hown (tw hw 1 rfl) (tw hw 2 rfl) (tw hw 3 rfl) (tw hw 4 rfl) (by decide) (rm1 l Z a0 hw [] ii a_CONVERSATIONS a_INBOX_ENTRIES a_HISTORY_ENTRIES h22 n0 Zs23 f23_333 f23_334 f23_335 f23_336 f23_337 f23_338 f23_339 f23_340 f23_341) (g := (mkF m 116 #[.val (.int p0), .val (.int p1), .val (.int ii), .val (.int jj), .val (.ref r2), .val (.ref r5), .val (.int (1 : Int32)), .unset] [(.int ii)])) rfl (by rw [hml]; rfl) (argsL := [(.int ii)]) (rest := []) (lenOf pd1 rfl) rfl (hb hby at_116) rfl (by decide) (Nat.le_of_ble_eq_true rfl) (k' := 2) (n' := 4) rfl rfl (by decide) (by decide)
      refine Go.by st24 ?_
      obtain ⟨r24, rfl, Ft24, rfl⟩ := q24
      show Go p.tables e below _ (T24.setTop (mkF m 119 #[.val (.int p0), .val (.int p1), .val (.int ii), .val (.int jj), .val (.ref r2), .val (.ref r5), .val (.int (1 : Int32)), .unset] [(.ref r24)]))
      obtain ⟨v25, T25, h25, X25, q25, st25⟩ := X24.callS hx hZ (y := (⟨"com/example/clio/clio/Layout", "count", "(Lcom/example/clio/clio/Layout$Count;)[B"⟩ : MethodName)) hown (tw hw 8 rfl) (tw hw 9 rfl) (tw hw 10 rfl) (tw hw 11 rfl) (by decide) (rm2 l Z a0 hw [] r24 (own_tag ii) h22 n0 Zs23 Ft24 (own_tag8 _)) (g := (mkF m 119 #[.val (.int p0), .val (.int p1), .val (.int ii), .val (.int jj), .val (.ref r2), .val (.ref r5), .val (.int (1 : Int32)), .unset] [(.ref r24)])) rfl (by rw [hml]; rfl) (argsL := [(.ref r24)]) (rest := []) (lenOf pd2 rfl) rfl (hb hby at_119) rfl (by decide) (Nat.le_of_ble_eq_true rfl) (k' := 3) (n' := 6) rfl rfl (by decide) (by decide)
      refine Go.by st25 ?_
      obtain ⟨r25, kc25, rfl, sr25, K25, V25⟩ := q25
      have g_r25 : n0 ≤ r25 := Nat.le_trans Zs23 sr25
      have ne_a_CONVERSATIONS_r25 : a_CONVERSATIONS ≠ r25 := Nat.ne_of_lt (Nat.lt_of_lt_of_le f23_334.lt sr25)
      have ne_a_INBOX_ENTRIES_r25 : a_INBOX_ENTRIES ≠ r25 := Nat.ne_of_lt (Nat.lt_of_lt_of_le f23_336.lt sr25)
      have ne_a_HISTORY_ENTRIES_r25 : a_HISTORY_ENTRIES ≠ r25 := Nat.ne_of_lt (Nat.lt_of_lt_of_le f23_338.lt sr25)
      have ne_r2_r25 : r2 ≠ r25 := Nat.ne_of_lt (Nat.lt_of_lt_of_le V22.lt sr25)
      have ne_r5_r25 : r5 ≠ r25 := Nat.ne_of_lt (Nat.lt_of_lt_of_le f23_342.lt sr25)
      have f26_361 := f23_333.ext (keep_ext K25)
      have f26_362 := f23_334.ext (keep_ext K25)
      have f26_363 := f23_335.ext (keep_ext K25)
      have f26_364 := f23_336.ext (keep_ext K25)
      have f26_365 := f23_337.ext (keep_ext K25)
      have f26_366 := f23_338.ext (keep_ext K25)
      have f26_367 := f23_339.ext (keep_ext K25)
      have f26_368 := f23_340.ext (keep_ext K25)
      have f26_369 := f23_341.ext (keep_ext K25)
      have f26_370 := Avf.ext V22 (keep_ext K25)
      have f26_371 := Avf.ext f23_342 (keep_ext K25)
      have Zs26 : n0 ≤ h25.size := Nat.le_trans Zs23 (keep_ext K25).1
      show Go p.tables e below _ (T25.setTop (mkF m 122 #[.val (.int p0), .val (.int p1), .val (.int ii), .val (.int jj), .val (.ref r2), .val (.ref r5), .val (.int (1 : Int32)), .unset] [(.ref r25)]))
      refine Go.by (fun _ => XS.astore X25.here hx rfl (hb hby at_122) rfl rfl (l' := #[.val (.int p0), .val (.int p1), .val (.int ii), .val (.int jj), .val (.ref r2), .val (.ref r5), .val (.int (1 : Int32)), .val (.ref r25)]) rfl) ?_
      show Go p.tables e below _ (T25.setTop (mkF m 124 #[.val (.int p0), .val (.int p1), .val (.int ii), .val (.int jj), .val (.ref r2), .val (.ref r5), .val (.int (1 : Int32)), .val (.ref r25)] []))
      refine Go.by (fun _ => XS.aload X25.here hx rfl (hb hby at_124) rfl rfl) ?_
      show Go p.tables e below _ (T25.setTop (mkF m 126 #[.val (.int p0), .val (.int p1), .val (.int ii), .val (.int jj), .val (.ref r2), .val (.ref r5), .val (.int (1 : Int32)), .val (.ref r25)] [(.ref r25)]))
      refine Go.by (fun _ => XS.iloadN X25.here hx rfl (hb hby at_126) rfl) ?_
      show Go p.tables e below _ (T25.setTop (mkF m 127 #[.val (.int p0), .val (.int p1), .val (.int ii), .val (.int jj), .val (.ref r2), .val (.ref r5), .val (.int (1 : Int32)), .val (.ref r25)] [(.int ii), (.ref r25)]))
      obtain ⟨v27, T27, h27, X27, q27, st27⟩ := X25.callS hx hZ (y := (⟨"com/example/clio/clio/LayoutCountPinLaw", "isKey", "([BI)Z"⟩ : MethodName)) hown (tw hw 15 rfl) (tw hw 16 rfl) (tw hw 3 rfl) (tw hw 17 rfl) (by decide) (rm3 l Z a0 hw [] r25 ii kc25 h25 n0 Zs26 V25) (g := (mkF m 127 #[.val (.int p0), .val (.int p1), .val (.int ii), .val (.int jj), .val (.ref r2), .val (.ref r5), .val (.int (1 : Int32)), .val (.ref r25)] [(.int ii), (.ref r25)])) rfl (by rw [hml]; rfl) (argsL := [(.ref r25), (.int ii)]) (rest := []) (lenOf pd3 rfl) rfl (hb hby at_127) rfl (by decide) (Nat.le_of_ble_eq_true rfl) (k' := 3) (n' := 6) rfl rfl (by decide) (by decide)
      refine Go.by st27 ?_
      obtain ⟨rfl, rfl⟩ := q27
      show Go p.tables e below _ (T27.setTop (mkF m 130 #[.val (.int p0), .val (.int p1), .val (.int ii), .val (.int jj), .val (.ref r2), .val (.ref r5), .val (.int (1 : Int32)), .val (.ref r25)] [(.int (1 : Int32))]))
      exact Go.retN X27 hx hlk (z' := (1 : Int32)) hret (by simp) (hb hby at_130) rfl (by decide) (by decide) rfl
set_option maxRecDepth 65536 in
set_option maxHeartbeats 40000000 in
theorem comes_1 {Post : Tables → Env → Array Value → State → Outcome → State → Prop} (hpost : ∀ tb e args s v u, (limb_1_1.after args s (.returned v) u = true ∧ limb_1_2.after args s (.returned v) u = true ∧ True) → FrameEnd s (.returned v) u (Jvm.fieldLocs frame_1_writes args s ++ Jvm.arrayLocs frame_1_arrays args s ++ Jvm.staticLocs frame_1_statics s) 16 128 → Post tb e args s (.returned v) u) :
    ArmFor flags0 classFile x code maxLocals ret World_1 tables_1 room_1 Calls_1 rest_1 Pre_1 Post := by
  intro l hfl _ _ p e ha hc hk s m args below hf hA hF happ hP
  obtain ⟨hcalls, hrest, hpre⟩ := hP
  obtain ⟨-, -, -, hnamed, -, -, -, hat⟩ := (Spec.applies_iff hf).mp happ
  obtain ⟨hg, hn⟩ := and_e (Cond.before_iff.mp (show (Jvm.Cond.and given_1 narrow_1).before args s = true from hpre))
  obtain ⟨gc, gr0⟩ := and_e hg
  obtain ⟨ga0, ga1⟩ := and_e gr0
  obtain ⟨w0, w1, rfl⟩ : ∃ w0 w1 : Value, args = #[w0, w1] := by
    have hs : args.size = 2 := by simpa [Cond.value, given_1] using gc
    obtain ⟨L⟩ := args
    match L, hs with
    | [w0, w1], _ => exact ⟨w0, w1, rfl⟩
  have hw := fun d (hd : d ∈ tables_1) => atoms_spec (ws := Jvm.Cond.code x code maxLocals ret :: tables_1) hat d (List.mem_cons_of_mem _ hd)
  have hfit : Fit s := fun {y c} hc i hi => by
    obtain ⟨ha, rfl⟩ := Array.getElem?_eq_some_iff.mp hc
    have q := List.all_eq_true.mp ((Array.all_eq_true_iff_forall_mem.mp hF) _ (Array.getElem_mem ha)) i (List.mem_range.mpr hi)
    simpa [Array.getElem?_eq_getElem hi] using q
  obtain ⟨i0, ei0⟩ := is_v ga0
  obtain rfl : w0 = (.int i0) := Option.some.inj ei0
  obtain ⟨i1, ei1⟩ := is_v ga1
  obtain rfl : w1 = (.int i1) := Option.some.inj ei1
  obtain ⟨nw0, nwr0⟩ := and_e hn
  obtain ⟨nw1, nwr1⟩ := and_e nwr0
  obtain ⟨nw2, nwr2⟩ := and_e nwr1
  obtain ⟨nw3, nwr3⟩ := and_e nwr2
  obtain ⟨nw4, nw5⟩ := and_e nwr3
  obtain ⟨a_CONVERSATIONS, ev_CONVERSATIONS, S_CONVERSATIONS, E_CONVERSATIONS⟩ := sta_exa nw0 (tw hw 6 rfl) (tw hw 7 rfl)
  obtain ⟨a_INBOX_ENTRIES, ev_INBOX_ENTRIES, S_INBOX_ENTRIES, E_INBOX_ENTRIES⟩ := sta_exa nw2 (tw hw 6 rfl) (tw hw 22 rfl)
  obtain ⟨a_HISTORY_ENTRIES, ev_HISTORY_ENTRIES, S_HISTORY_ENTRIES, E_HISTORY_ENTRIES⟩ := sta_exa nw4 (tw hw 6 rfl) (tw hw 24 rfl)
  have F_CONVERSATIONS_tag := fld_eq ev_CONVERSATIONS nw1
  have F_INBOX_ENTRIES_tag := fld_eq ev_INBOX_ENTRIES nw3
  have F_HISTORY_ENTRIES_tag := fld_eq ev_HISTORY_ENTRIES nw5
  obtain ⟨n, o, h1, h2, h3, _, L, rfl, ⟨rfl, N⟩, hq⟩ := rm0 l s _ hw tables_1 i0 i1 a_CONVERSATIONS a_INBOX_ENTRIES a_HISTORY_ENTRIES s.heap s.heap.size (Nat.le_refl _) S_CONVERSATIONS E_CONVERSATIONS S_INBOX_ENTRIES E_INBOX_ENTRIES S_HISTORY_ENTRIES E_HISTORY_ENTRIES F_CONVERSATIONS_tag F_INBOX_ENTRIES_tag F_HISTORY_ENTRIES_tag p e ha hc hk s m _ below hf ((Spec.applies_iff_loose hf).mp happ).1 ⟨rfl, State.Warmed39.refl s, rfl⟩ trivial
  refine ⟨n, _, h1, h2, h3, hpost _ _ _ _ _ _ ⟨Cond.after_iff.mpr rfl, Cond.after_iff.mpr (eq_i res_at (Term.int_eval (1)) rfl), trivial⟩ ⟨hq.1, hq.2.1, (hq.2.2.sift fun y hy => Or.inr (N y hy)).mono (by decide) (by decide)⟩⟩
theorem main_1_1 : Claimed_1_1 := comes_1 fun _ _ _ _ _ _ h hF => ⟨h.1, hF⟩
theorem main_1_2 : Claimed_1_2 := comes_1 fun _ _ _ _ _ _ h hF => ⟨h.2.1, hF⟩
end Jvm.Pilot.@@N@@
namespace Jvm.Pilot.@@N@@
open Jvm Jvm.ClassFile Sem Op Lib Jvm.Free Jvm.Stand Jvm.Pilot.@@N@@.Jvm.D
/-! MADE BY PROGRAM (witnessworld.py) out of the Statement's table words and the real class files: 13 classes; the members and pool entries that the words name. The judged class is class 1, her method 4. -/
namespace start1
open Jvm.ClassFile
def u (s : String) : CpInfo := .utf8 (stringToUtf16 s)
/-- a pool by its gaps: so many unusable entries, then the entry; so many at the end -/
def gap : Nat → List CpInfo → List CpInfo
  | 0, r => r
  | n + 1, r => .unusable :: gap n r
def poolList (es : List (Nat × CpInfo)) (last : Nat) : List CpInfo := es.foldr (fun e r => gap e.1 (e.2 :: r)) (gap last [])
def pool (es : List (Nat × CpInfo)) (last : Nat) : Array CpInfo := ⟨poolList es last⟩
def fileOf (pool : Array CpInfo) (this : Nat) (attrs : Array Attribute := #[]) (ms : Array MethodInfo := #[]) (fl : Nat := 33) (sup : Nat := 0) (ifs : Array Nat := #[]) (fds : Array FieldInfo := #[]) : ClassFile where
  minorVersion := 0
  majorVersion := 65
  constantPool := pool
  accessFlags := fl
  thisClass := this
  superClass := sup
  interfaces := ifs
  fields := fds
  methods := ms
  attributes := attrs
def plain (name : String) (sup : Option ClassId) : Class where
  name := name
  kind := .ordinary
  loader := none
  accessFlags := 33
  super := sup
  interfaces := #[]
  cf := none
  fields := #[]
  methods := #[]
  instanceTypes := #[]
  staticTypes := #[]
  resolved := #[]
  callSites := []
  init := .initialized
  statics := none
  mirror := none

def pool0 : Array CpInfo := pool [(5, u "<init>"), (0, u "()V"), (1, .class_ 10), (1, u "java/lang/Object")] 113

def k0m0 : Method := { name := "<init>", desc := "()V", sig := { parameters := [], returnType := none }, accessFlags := 1, code := none }
/-- java/lang/Object -/
def k0 : Class := { plain "java/lang/Object" none with
  accessFlags := 33
  interfaces := #[]
  cf := some (fileOf pool0 8 #[] #[{ accessFlags := 1, nameIndex := 5, descriptorIndex := 6, attributes := #[] }] 33 0 #[] #[])
  fields := #[]
  methods := #[k0m0]
  instanceTypes := #[]
  staticTypes := #[]
  resolved := Array.replicate 124 none
  statics := none }

def pool1 : Array CpInfo := pool [(2, .class_ 4), (1, u "java/lang/Object"), (0, u "<init>"), (0, u "()V"), (0, .fieldref 8 9), (0, .class_ 10), (0, .nameAndType 11 12), (0, u "com/example/clio/clio/Layout$Count"), (0, u "CONVERSATIONS"), (0, u "Lcom/example/clio/clio/Layout$Count;"), (0, .fieldref 8 14), (0, .nameAndType 15 12), (0, u "HISTORY_ENTRIES"), (0, .fieldref 8 17), (0, .nameAndType 18 12), (0, u "INBOX_ENTRIES"), (0, .methodref 20 21), (0, .class_ 22), (0, .nameAndType 23 24), (0, u "com/example/clio/clio/LayoutCountPinLaw"), (0, u "tagOf"), (0, u "(I)B"), (0, .integer 2147483647), (0, .methodref 20 27), (0, .nameAndType 28 29), (0, u "pick"), (0, u "(I)Lcom/example/clio/clio/Layout$Count;"), (0, .methodref 31 32), (0, .class_ 33), (0, .nameAndType 34 35), (0, u "com/example/clio/clio/Layout"), (0, u "count"), (0, u "(Lcom/example/clio/clio/Layout$Count;)[B"), (0, .methodref 20 37), (0, .nameAndType 38 39), (0, u "isKey"), (0, u "([BI)Z"), (3, u "law"), (0, u "(II)Z")] 6

def k1m0 : Method := { name := "<init>", desc := "()V", sig := { parameters := [], returnType := none }, accessFlags := 1, code := none }
def k1c1 : Code := { maxStack := 2, maxLocals := 1, code := method_2_code, exceptionTable := #[], attributes := #[] }
def k1m1 : Method := { name := "pick", desc := "(I)Lcom/example/clio/clio/Layout$Count;", sig := { parameters := [.int], returnType := some (.object "com/example/clio/clio/Layout$Count") }, accessFlags := 10, code := some k1c1 }
def k1c2 : Code := { maxStack := 2, maxLocals := 1, code := method_3_code, exceptionTable := #[], attributes := #[] }
def k1m2 : Method := { name := "tagOf", desc := "(I)B", sig := { parameters := [.int], returnType := some .byte }, accessFlags := 10, code := some k1c2 }
def k1c3 : Code := { maxStack := 2, maxLocals := 2, code := method_4_code, exceptionTable := #[], attributes := #[] }
def k1m3 : Method := { name := "isKey", desc := "([BI)Z", sig := { parameters := [(.array .byte), .int], returnType := some .boolean }, accessFlags := 10, code := some k1c3 }
def k1c4 : Code := { maxStack := 3, maxLocals := 8, code := code, exceptionTable := #[], attributes := #[] }
def k1m4 : Method := { name := "law", desc := "(II)Z", sig := { parameters := [.int, .int], returnType := some .boolean }, accessFlags := 9, code := some k1c4 }
/-- com/example/clio/clio/LayoutCountPinLaw -/
def k1 : Class := { plain "com/example/clio/clio/LayoutCountPinLaw" (some 0) with
  accessFlags := 49
  interfaces := #[]
  cf := some (fileOf pool1 20 #[] #[{ accessFlags := 1, nameIndex := 5, descriptorIndex := 6, attributes := #[] }, { accessFlags := 10, nameIndex := 28, descriptorIndex := 29, attributes := #[] }, { accessFlags := 10, nameIndex := 23, descriptorIndex := 24, attributes := #[] }, { accessFlags := 10, nameIndex := 38, descriptorIndex := 39, attributes := #[] }, { accessFlags := 9, nameIndex := 43, descriptorIndex := 44, attributes := #[] }] 49 2 #[] #[])
  fields := #[]
  methods := #[k1m0, k1m1, k1m2, k1m3, k1m4]
  instanceTypes := #[]
  staticTypes := #[]
  resolved := Array.replicate 51 none
  statics := none }

def pool2 : Array CpInfo := pool [(1, .class_ 2), (0, u "java/lang/constant/Constable"), (0, .class_ 4), (0, u "java/lang/Object")] 6

/-- java/lang/constant/Constable -/
def k2 : Class := { plain "java/lang/constant/Constable" (some 0) with
  accessFlags := 1537
  interfaces := #[]
  cf := some (fileOf pool2 1 #[] #[] 1537 3 #[] #[])
  fields := #[]
  methods := #[]
  instanceTypes := #[]
  staticTypes := #[]
  resolved := Array.replicate 11 none
  statics := none }

def pool3 : Array CpInfo := pool [(1, .class_ 2), (0, u "java/lang/Comparable"), (0, .class_ 4), (0, u "java/lang/Object")] 7

/-- java/lang/Comparable -/
def k3 : Class := { plain "java/lang/Comparable" (some 0) with
  accessFlags := 1537
  interfaces := #[]
  cf := some (fileOf pool3 1 #[] #[] 1537 3 #[] #[])
  fields := #[]
  methods := #[]
  instanceTypes := #[]
  staticTypes := #[]
  resolved := Array.replicate 12 none
  statics := none }

def pool4 : Array CpInfo := pool [(1, .class_ 2), (0, u "java/io/Serializable"), (0, .class_ 4), (0, u "java/lang/Object")] 2

/-- java/io/Serializable -/
def k4 : Class := { plain "java/io/Serializable" (some 0) with
  accessFlags := 1537
  interfaces := #[]
  cf := some (fileOf pool4 1 #[] #[] 1537 3 #[] #[])
  fields := #[]
  methods := #[]
  instanceTypes := #[]
  staticTypes := #[]
  resolved := Array.replicate 7 none
  statics := none }

def pool5 : Array CpInfo := pool [(2, .class_ 4), (1, u "java/lang/Enum"), (0, u "name"), (0, u "Ljava/lang/String;"), (2, u "ordinal"), (0, u "I"), (1, .class_ 14), (1, u "java/lang/Object"), (4, u "hash"), (86, .class_ 108), (1, u "java/lang/Enum$EnumDesc"), (2, .class_ 112), (0, u "java/lang/constant/Constable"), (0, .class_ 114), (0, u "java/lang/Comparable"), (0, .class_ 116), (0, u "java/io/Serializable")] 87

/-- java/lang/Enum -/
def k5 : Class := { plain "java/lang/Enum" (some 0) with
  accessFlags := 1057
  interfaces := #[2, 3, 4]
  cf := some (fileOf pool5 2 #[.nestMembers #[106]] #[] 1057 12 #[111, 113, 115] #[{ accessFlags := 18, nameIndex := 5, descriptorIndex := 6, attributes := #[] }, { accessFlags := 18, nameIndex := 9, descriptorIndex := 10, attributes := #[] }, { accessFlags := 2, nameIndex := 19, descriptorIndex := 10, attributes := #[] }])
  fields := #[{ name := "name", type := (.object "java/lang/String"), accessFlags := 18, slot := 0, constantValue := 0 }, { name := "ordinal", type := .int, accessFlags := 18, slot := 1, constantValue := 0 }, { name := "hash", type := .int, accessFlags := 2, slot := 2, constantValue := 0 }]
  methods := #[]
  instanceTypes := #[(.object "java/lang/String"), .int, .int]
  staticTypes := #[]
  resolved := Array.replicate 204 none
  statics := none }

def pool6 : Array CpInfo := pool [(1, .class_ 2), (0, u "com/example/clio/clio/Layout$Count"), (2, u "CONVERSATIONS"), (0, u "Lcom/example/clio/clio/Layout$Count;"), (2, u "HISTORY_ENTRIES"), (2, u "INBOX_ENTRIES"), (2, u "$VALUES"), (0, u "[Lcom/example/clio/clio/Layout$Count;"), (6, .class_ 25), (1, u "java/lang/Enum"), (8, u "tag"), (0, u "B"), (23, .class_ 60), (0, u "com/example/clio/clio/Layout")] 2

/-- com/example/clio/clio/Layout$Count -/
def k6 : Class := { plain "com/example/clio/clio/Layout$Count" (some 5) with
  accessFlags := 16432
  interfaces := #[]
  cf := some (fileOf pool6 1 #[.nestHost 59] #[] 16432 23 #[] #[{ accessFlags := 16409, nameIndex := 5, descriptorIndex := 6, attributes := #[] }, { accessFlags := 16409, nameIndex := 9, descriptorIndex := 6, attributes := #[] }, { accessFlags := 16409, nameIndex := 12, descriptorIndex := 6, attributes := #[] }, { accessFlags := 18, nameIndex := 34, descriptorIndex := 35, attributes := #[] }, { accessFlags := 4122, nameIndex := 15, descriptorIndex := 16, attributes := #[] }])
  fields := #[{ name := "CONVERSATIONS", type := (.object "com/example/clio/clio/Layout$Count"), accessFlags := 16409, slot := 0, constantValue := 0 }, { name := "HISTORY_ENTRIES", type := (.object "com/example/clio/clio/Layout$Count"), accessFlags := 16409, slot := 1, constantValue := 0 }, { name := "INBOX_ENTRIES", type := (.object "com/example/clio/clio/Layout$Count"), accessFlags := 16409, slot := 2, constantValue := 0 }, { name := "tag", type := .byte, accessFlags := 18, slot := 3, constantValue := 0 }, { name := "$VALUES", type := (.array (.object "com/example/clio/clio/Layout$Count")), accessFlags := 4122, slot := 3, constantValue := 0 }]
  methods := #[]
  instanceTypes := #[(.object "java/lang/String"), .int, .int, .byte]
  staticTypes := #[(.object "com/example/clio/clio/Layout$Count"), (.object "com/example/clio/clio/Layout$Count"), (.object "com/example/clio/clio/Layout$Count"), (.array (.object "com/example/clio/clio/Layout$Count"))]
  resolved := Array.replicate 63 none
  statics := some 0 }

def pool7 : Array CpInfo := pool [(2, .class_ 4), (1, u "java/lang/Object"), (0, u "<init>"), (0, u "()V"), (0, .class_ 8), (0, u "com/example/clio/clio/Layout"), (64, .class_ 75), (1, u "com/example/clio/clio/Layout$InboxSeq"), (21, .fieldref 98 99), (0, .class_ 100), (0, .nameAndType 101 102), (0, u "com/example/clio/clio/Layout$Count"), (0, u "tag"), (0, u "B"), (1, .class_ 105), (0, u "com/example/clio/clio/Layout$Timeline"), (78, .class_ 185), (0, u "com/example/clio/clio/Layout$EntryRef"), (89, u "VERSION"), (0, u "J"), (3, u "CONVERSATION"), (1, u "LARGE"), (1, u "SENT"), (1, u "MEMBERSHIP"), (1, u "LARGE_MEMBERSHIP"), (1, u "SENT_BY"), (1, u "READ_POSITION"), (1, u "MEMBERSHIP_CHANGES"), (1, u "INBOX_START"), (1, u "EXPIRY"), (1, u "NEWEST_TIME"), (1, u "COUNT"), (1, u "LAYOUT_VERSION"), (1, u "MESSAGE"), (1, u "MEMBERS_CHANGED"), (25, u "count"), (0, u "(Lcom/example/clio/clio/Layout$Count;)[B")] 90

def k7m0 : Method := { name := "<init>", desc := "()V", sig := { parameters := [], returnType := none }, accessFlags := 2, code := none }
def k7c1 : Code := { maxStack := 4, maxLocals := 1, code := prog_20_method_18_code, exceptionTable := #[], attributes := #[] }
def k7m1 : Method := { name := "count", desc := "(Lcom/example/clio/clio/Layout$Count;)[B", sig := { parameters := [(.object "com/example/clio/clio/Layout$Count")], returnType := some (.array .byte) }, accessFlags := 8, code := some k7c1 }
/-- com/example/clio/clio/Layout -/
def k7 : Class := { plain "com/example/clio/clio/Layout" (some 0) with
  accessFlags := 48
  interfaces := #[]
  cf := some (fileOf pool7 7 #[.nestMembers #[73, 184, 98, 104]] #[{ accessFlags := 2, nameIndex := 5, descriptorIndex := 6, attributes := #[] }, { accessFlags := 8, nameIndex := 334, descriptorIndex := 335, attributes := #[] }] 48 2 #[] #[{ accessFlags := 24, nameIndex := 275, descriptorIndex := 276, attributes := #[] }, { accessFlags := 26, nameIndex := 280, descriptorIndex := 102, attributes := #[] }, { accessFlags := 26, nameIndex := 282, descriptorIndex := 102, attributes := #[] }, { accessFlags := 26, nameIndex := 284, descriptorIndex := 102, attributes := #[] }, { accessFlags := 26, nameIndex := 286, descriptorIndex := 102, attributes := #[] }, { accessFlags := 26, nameIndex := 288, descriptorIndex := 102, attributes := #[] }, { accessFlags := 26, nameIndex := 290, descriptorIndex := 102, attributes := #[] }, { accessFlags := 26, nameIndex := 292, descriptorIndex := 102, attributes := #[] }, { accessFlags := 26, nameIndex := 294, descriptorIndex := 102, attributes := #[] }, { accessFlags := 26, nameIndex := 296, descriptorIndex := 102, attributes := #[] }, { accessFlags := 26, nameIndex := 298, descriptorIndex := 102, attributes := #[] }, { accessFlags := 26, nameIndex := 300, descriptorIndex := 102, attributes := #[] }, { accessFlags := 26, nameIndex := 302, descriptorIndex := 102, attributes := #[] }, { accessFlags := 26, nameIndex := 304, descriptorIndex := 102, attributes := #[] }, { accessFlags := 26, nameIndex := 306, descriptorIndex := 102, attributes := #[] }, { accessFlags := 26, nameIndex := 308, descriptorIndex := 102, attributes := #[] }])
  fields := #[{ name := "VERSION", type := .long, accessFlags := 24, slot := 0, constantValue := 0 }, { name := "CONVERSATION", type := .byte, accessFlags := 26, slot := 1, constantValue := 0 }, { name := "LARGE", type := .byte, accessFlags := 26, slot := 2, constantValue := 0 }, { name := "SENT", type := .byte, accessFlags := 26, slot := 3, constantValue := 0 }, { name := "MEMBERSHIP", type := .byte, accessFlags := 26, slot := 4, constantValue := 0 }, { name := "LARGE_MEMBERSHIP", type := .byte, accessFlags := 26, slot := 5, constantValue := 0 }, { name := "SENT_BY", type := .byte, accessFlags := 26, slot := 6, constantValue := 0 }, { name := "READ_POSITION", type := .byte, accessFlags := 26, slot := 7, constantValue := 0 }, { name := "MEMBERSHIP_CHANGES", type := .byte, accessFlags := 26, slot := 8, constantValue := 0 }, { name := "INBOX_START", type := .byte, accessFlags := 26, slot := 9, constantValue := 0 }, { name := "EXPIRY", type := .byte, accessFlags := 26, slot := 10, constantValue := 0 }, { name := "NEWEST_TIME", type := .byte, accessFlags := 26, slot := 11, constantValue := 0 }, { name := "COUNT", type := .byte, accessFlags := 26, slot := 12, constantValue := 0 }, { name := "LAYOUT_VERSION", type := .byte, accessFlags := 26, slot := 13, constantValue := 0 }, { name := "MESSAGE", type := .byte, accessFlags := 26, slot := 14, constantValue := 0 }, { name := "MEMBERS_CHANGED", type := .byte, accessFlags := 26, slot := 15, constantValue := 0 }]
  methods := #[k7m0, k7m1]
  instanceTypes := #[]
  staticTypes := #[.long, .byte, .byte, .byte, .byte, .byte, .byte, .byte, .byte, .byte, .byte, .byte, .byte, .byte, .byte, .byte]
  resolved := (Array.replicate 426 none).setIfInBounds 97 (some (.field 6 3))
  statics := none }

def pool8 : Array CpInfo := pool [(1, u "java/lang/Cloneable"), (0, .class_ 1), (0, u "java/lang/Object"), (0, .class_ 3)] 3

/-- java/lang/Cloneable -/
def k8 : Class := { plain "java/lang/Cloneable" (some 0) with
  accessFlags := 1537
  interfaces := #[]
  cf := some (fileOf pool8 2 #[] #[] 1537 4 #[] #[])
  fields := #[]
  methods := #[]
  instanceTypes := #[]
  staticTypes := #[]
  resolved := Array.replicate 8 none
  statics := none }

/-- the primitive byte -/
def k9 : Class := { plain "byte" none with kind := .primitive 'B', accessFlags := 0x411 }
/-- [B -/
def k10 : Class := { plain "[B" (some 0) with kind := .array 9 .byte, interfaces := #[8, 4], accessFlags := 1041 }

/-- the primitive int -/
def k11 : Class := { plain "int" none with kind := .primitive 'I', accessFlags := 0x411 }
/-- [I -/
def k12 : Class := { plain "[I" (some 0) with kind := .array 11 .int, interfaces := #[8, 4], accessFlags := 1041 }

def heap : Heap := #[{ cls := 6, slots := #[.ref 1, .ref 2, .ref 3, .null], vm := .statics 6 },
  { cls := 6, slots := #[.null, .int 0, .int 0, .int 99], vm := .none },
  { cls := 6, slots := #[.null, .int 1, .int 0, .int 104], vm := .none },
  { cls := 6, slots := #[.null, .int 2, .int 0, .int 105], vm := .none }]
def classes : Array Class := #[k0, k1, k2, k3, k4, k5, k6, k7, k8, k9, k10, k11, k12]
def interned : List (Array UInt16 × Addr) := []
def slotsUsed : Nat := 16
def theMethod : MethodId := ⟨1, 4⟩
def args0 : Array Value := #[.int 5, .int 7]
def aboutOver (below : List Frame) : State where
  vm := { classes := classes, interned := interned.toArray }
  heap := heap
  slotsUsed := slotsUsed
  threads := #[{ frames := .invoking theMethod args0 :: below }]
def below0 : List Frame := [.native { method := ⟨0, 0⟩, args := #[] }]
def about1 : State := aboutOver below0
def p0 : Program := .bare "" "" ""
def e0 : Env := launch0.env 0 0 0
theorem w_frames : about1.frames = Frame.invoking theMethod args0 :: below0 := rfl
set_option maxRecDepth 65536 in
theorem w_args : argsFit about1.vm theMethod args0 = true := by decide +kernel
set_option maxRecDepth 65536 in
theorem w_heap : heapFits about1 = true := by decide +kernel
set_option maxRecDepth 65536 in
theorem w_runnable : about1.curStatus? = some .runnable := by decide +kernel
set_option maxRecDepth 65536 in
theorem w_alone : about1.alone = true := by decide +kernel
set_option maxRecDepth 65536 in
theorem w_named : about1.methodNamed? x = some theMethod := by decide +kernel
set_option maxRecDepth 65536 in
theorem w_hears : about1.hears theMethod below0 = true := by decide +kernel
set_option maxRecDepth 65536 in
theorem w_ripe : about1.ripe theMethod args0 below0 = true := by decide +kernel
theorem w_running : about1.status = .running := rfl
set_option maxRecDepth 65536 in
theorem w_room : about1.hasRoom e0.platform room_1 = true :=
  launch0.hasRoom_least _ room_1 (by decide +kernel) (by decide +kernel) (by decide +kernel) (by decide +kernel) (by decide +kernel) (by decide +kernel)
theorem allAtoms_all (ts : List Jvm.Cond) (a : Array Jvm.Value) (st : Jvm.State) : (allAtoms ts).before a st = ts.all (fun c => c.before a st) := by
  induction ts with
  | nil => rfl
  | cons c t ih =>
    show (Jvm.Cond.and c (allAtoms t)).before a st = _
    rw [Jvm.Cond.before_and, ih, List.all_cons]
def words1 : List Jvm.Cond := Jvm.Cond.code x code maxLocals ret :: tables_1
/-- a 'code' word, met by the world's own term for the bytes: nothing is compared byte by byte -/
theorem code_word {y : MethodName} {bytes : ByteArray} {mx : Nat} {rt : Option FieldType} {a : Array Value} {s : State} {m : MethodId} {meth : Method} {c : Code} (h1 : s.methodNamed? y = some m) (h2 : s.vm.method? m = some meth) (h3 : meth.code = some c) (h4 : c.code = bytes)
    (h5 : (c.maxLocals == mx && c.exceptionTable.isEmpty && decide (c.maxStack ≤ mostOperands) && decide (meth.sig.returnType = rt) && !meth.locks && decide (parseMethodDescriptor y.desc = some meth.sig)) = true) : (Jvm.Cond.code y bytes mx rt).before a s = true := by
  simp only [Bool.and_eq_true, beq_iff_eq, Bool.not_eq_true', decide_eq_true_eq] at h5
  obtain ⟨⟨⟨⟨⟨g1, g2⟩, g3⟩, g4⟩, g5⟩, g6⟩ := h5
  simp [Cond.before, Cond.holds, Cond.value, h1, h2, h3, h4, g1, g2, g3, g4, g5, g6]
def isCode : Jvm.Cond → Bool
  | .code _ _ _ _ => true
  | _ => false
theorem all_split {L : List Jvm.Cond} {P : Jvm.Cond → Bool} (h1 : L.all (fun c => isCode c || P c) = true) (h2 : ∀ c ∈ L.filter isCode, P c = true) : L.all P = true := by
  refine List.all_eq_true.mpr fun c hc => ?_
  have h := List.all_eq_true.mp h1 c hc
  rcases Bool.eq_false_or_eq_true (isCode c) with hi | hi
  · exact h2 c (List.mem_filter.mpr ⟨hc, hi⟩)
  · simpa [hi] using h
set_option maxRecDepth 65536 in
theorem w_c0 : (Jvm.Cond.code x code maxLocals ret).before args0 about1 = true := code_word (m := ⟨1, 4⟩) (meth := k1m4) (c := k1c4) (by decide +kernel) rfl rfl rfl (by decide +kernel)
set_option maxRecDepth 65536 in
theorem w_c1 : (Jvm.Cond.code ({ cls := "com/example/clio/clio/LayoutCountPinLaw", name := "pick", desc := "(I)Lcom/example/clio/clio/Layout$Count;" } : Jvm.MethodName) method_2_code (1 : Nat) (Option.some (Jvm.ClassFile.FieldType.object "com/example/clio/clio/Layout$Count"))).before args0 about1 = true := code_word (m := ⟨1, 1⟩) (meth := k1m1) (c := k1c1) (by decide +kernel) rfl rfl rfl (by decide +kernel)
set_option maxRecDepth 65536 in
theorem w_c2 : (Jvm.Cond.code ({ cls := "com/example/clio/clio/Layout", name := "count", desc := "(Lcom/example/clio/clio/Layout$Count;)[B" } : Jvm.MethodName) prog_20_method_18_code (1 : Nat) (Option.some (Jvm.ClassFile.FieldType.array Jvm.ClassFile.FieldType.byte))).before args0 about1 = true := code_word (m := ⟨7, 1⟩) (meth := k7m1) (c := k7c1) (by decide +kernel) rfl rfl rfl (by decide +kernel)
set_option maxRecDepth 65536 in
theorem w_c3 : (Jvm.Cond.code ({ cls := "com/example/clio/clio/LayoutCountPinLaw", name := "isKey", desc := "([BI)Z" } : Jvm.MethodName) method_4_code (2 : Nat) (Option.some Jvm.ClassFile.FieldType.boolean)).before args0 about1 = true := code_word (m := ⟨1, 3⟩) (meth := k1m3) (c := k1c3) (by decide +kernel) rfl rfl rfl (by decide +kernel)
set_option maxRecDepth 65536 in
theorem w_c4 : (Jvm.Cond.code ({ cls := "com/example/clio/clio/LayoutCountPinLaw", name := "tagOf", desc := "(I)B" } : Jvm.MethodName) method_3_code (1 : Nat) (Option.some Jvm.ClassFile.FieldType.byte)).before args0 about1 = true := code_word (m := ⟨1, 2⟩) (meth := k1m2) (c := k1c2) (by decide +kernel) rfl rfl rfl (by decide +kernel)
def codes1 : List Jvm.Cond := [Jvm.Cond.code x code maxLocals ret, Jvm.Cond.code ({ cls := "com/example/clio/clio/LayoutCountPinLaw", name := "pick", desc := "(I)Lcom/example/clio/clio/Layout$Count;" } : Jvm.MethodName) method_2_code (1 : Nat) (Option.some (Jvm.ClassFile.FieldType.object "com/example/clio/clio/Layout$Count")), Jvm.Cond.code ({ cls := "com/example/clio/clio/Layout", name := "count", desc := "(Lcom/example/clio/clio/Layout$Count;)[B" } : Jvm.MethodName) prog_20_method_18_code (1 : Nat) (Option.some (Jvm.ClassFile.FieldType.array Jvm.ClassFile.FieldType.byte)), Jvm.Cond.code ({ cls := "com/example/clio/clio/LayoutCountPinLaw", name := "isKey", desc := "([BI)Z" } : Jvm.MethodName) method_4_code (2 : Nat) (Option.some Jvm.ClassFile.FieldType.boolean), Jvm.Cond.code ({ cls := "com/example/clio/clio/LayoutCountPinLaw", name := "tagOf", desc := "(I)B" } : Jvm.MethodName) method_3_code (1 : Nat) (Option.some Jvm.ClassFile.FieldType.byte)]
set_option maxRecDepth 65536 in
theorem codes_eq : words1.filter isCode = codes1 := rfl
theorem w_codes : ∀ c ∈ words1.filter isCode, c.before args0 about1 = true := by
  rw [codes_eq]
  intro c hc
  simp only [codes1, List.mem_cons, List.not_mem_nil, or_false] at hc
  rcases hc with rfl | rfl | rfl | rfl | rfl
  · exact w_c0
  · exact w_c1
  · exact w_c2
  · exact w_c3
  · exact w_c4
set_option maxRecDepth 65536 in
theorem w_t1 : (words1.take 24).all (fun c => isCode c || c.before args0 about1) = true := by decide +kernel
set_option maxRecDepth 65536 in
theorem w_t2 : (words1.drop 24).all (fun c => isCode c || c.before args0 about1) = true := by decide +kernel
theorem w_tables : (allAtoms (Jvm.Cond.code x code maxLocals ret :: tables_1)).before args0 about1 = true := by
  rw [allAtoms_all]
  show words1.all (fun c => c.before args0 about1) = true
  refine all_split ?_ w_codes
  rw [← List.take_append_drop 24 words1, List.all_append, w_t1, w_t2]
  rfl
set_option maxRecDepth 65536 in
theorem w_case : (Jvm.Cond.and given_1 narrow_1).before args0 about1 = true := by decide +kernel
theorem w_applies : (headSpec (Jvm.Cond.code x code maxLocals ret :: tables_1) room_1).applies x e0.platform about1 = true :=
  (Spec.applies_iff w_frames).mpr ⟨w_running, w_runnable, w_alone, w_named, w_hears, w_ripe, w_room, w_tables⟩
theorem atStart : AtStart classFile x code maxLocals ret World_1 tables_1 room_1 Calls_1 rest_1 Pre_1 launch0 p0 e0 about1 theMethod args0 below0 :=
  ⟨lists_1, trivial, launch0.admits_env _ _ _, launch0.least_env, fairChoices_fair.cas, fairChoices_fair.clock, w_frames, w_args, w_heap, w_applies, trivial, trivial, w_case⟩
end start1
theorem witness_1 : WitnessClaimed_1 := ⟨start1.p0, start1.e0, start1.about1, start1.theMethod, start1.args0, start1.below0, start1.atStart⟩
end Jvm.Pilot.@@N@@
