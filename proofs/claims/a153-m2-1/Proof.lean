import JvmDerived
import JvmDerived.Pilot.@@N@@Statement
import JvmDerived.Pilot.@@N@@Code
set_option linter.unusedVariables false
set_option linter.unusedSimpArgs false
namespace Jvm.RoadKit
open Sem ClassFile Op Lib Jvm.Stand Jvm.Free Jvm.LawKit
/-- the run from S ends, and ends as Q says -/
def Go (tb : Tables) (e : Env) (below : List Frame) (Q : Outcome → State → Prop) (S : State) : Prop := ∃ s₂ o, Steps tb e below S s₂ ∧ s₂.status = .running ∧ Ended s₂ below o ∧ Q o s₂
theorem Go.by {tb : Tables} {e : Env} {below : List Frame} {Q : Outcome → State → Prop} {S S' : State} (h : ∀ t, Steps tb e below S' t → Steps tb e below S t) (k : Go tb e below Q S') : Go tb e below Q S := by
  obtain ⟨s₂, o, h1, r⟩ := k
  exact ⟨s₂, o, h _ h1, r⟩
/-- what a contract says of the end -/
def Ret (s : State) (n0 : Nat) (Q : Option Value → Heap → Prop) (C S : Nat) : Outcome → State → Prop := fun o U => ∃ v L, o = .returned v ∧ (Q v U.heap ∧ Fr n0 L) ∧ FrameEnd s o U L C S
def Met (l : Launch) (Z : State) (n0 : Nat) (y : MethodName) (bytes : ByteArray) (maxL : Nat) (ret : Option FieldType) (ws : List Cond) (rm : Room) (as : Array Value) (h0 : Heap) (Q : Option Value → Heap → Prop) : Prop :=
  MetFree l y (head1 (Cond.code y bytes maxL ret :: ws) rm) (fun a U => a = as ∧ Z.Warmed39 U.vm ∧ U.heap = h0) (fun _ _ _ _ _ => True) (fun _ U o U' => ∃ v L, o = .returned v ∧ (Q v U'.heap ∧ Fr n0 L) ∧ FrameEnd U o U' L rm.cells rm.slots)
/-- where the walk stands: the heap is h, k cells of n slots were made, nothing below n0 was written -/
def Sd (n0 : Nat) (p : Program) (l : Launch) (e : Env) (R : Room) (s : State) (m : MethodId) (args : Array Value) (below : List Frame) (meth : Method) (c : Code) (T : State) (h : Heap) (k n : Nat) : Prop :=
  ∃ locs, Stand p l e R s m args below meth c T locs k n ∧ Fr n0 locs ∧ T.heap = h
section Sds
variable {n0 : Nat} {p : Program} {l : Launch} {e : Env} {R : Room} {s : State} {m : MethodId} {args : Array Value} {below : List Frame} {meth : Method} {c : Code} {T : State} {h : Heap} {k n : Nat} {Z : State} {a0 : Array Value}
theorem catV {v : Value} (h : v.isRef = true) : v.category = 1 := by cases v <;> first | rfl | (cases h; done)
theorem Sd.here (X : Sd n0 p l e R s m args below meth c T h k n) : At T m c below := by obtain ⟨_, X, -⟩ := X; exact X.here
theorem Sd.more (X : Sd n0 p l e R s m args below meth c T h k n) {k' n' : Nat} (hk : k ≤ k') (hn : n ≤ n') : Sd n0 p l e R s m args below meth c T h k' n' := by
  obtain ⟨L, X, N, q⟩ := X; exact ⟨L, X.more hk hn, N, q⟩
theorem enter {y : MethodName} {bytes : ByteArray} {maxL : Nat} {ret : Option FieldType} {ws : List Cond} {rm : Room} {as : Array Value} {h0 : Heap} {Q : Option Value → Heap → Prop} {Ls : Array Slot}
    (hpl : plainFor y = true) (hef : ∀ m, entryFrame m as maxL = mkF m 0 Ls [])
    (body : ∀ (p : Program) (e : Env) (s : State) (m : MethodId) (below : List Frame) (meth : Method) (c : Code) (T0 : State), p.tables.exec = Jvm.exec → c.code = bytes → c.maxLocals = maxL → s.vm.findClass y.cls = some m.cls → meth.name = y.name → meth.sig.returnType = ret → meth.locks = false → Z.Warmed39 s.vm →
      Sd n0 p l e rm s m as below meth c T0 h0 0 0 → Go p.tables e below (Ret s n0 Q rm.cells rm.slots) (T0.setTop (mkF m 0 Ls []))) : Met l Z n0 y bytes maxL ret ws rm as h0 Q := by
  refine MetFree.of_bodySF hpl hisR ?_
  intro p e s m args below meth c s₁ Bd hml0 hP hK
  obtain ⟨rfl, hZ, hh⟩ := hP
  have X0 : Stand p l e rm s m args below meth c s₁ [] 0 0 := Stand.of_body Bd
  have e0 : s₁.heap = h0 := by rw [← hh, Bd.state]; rfl
  have hlk : meth.locks = false := BodyLoose.notSynchronized Bd
  have k := body p e s m below meth c s₁ Bd.exec Bd.bytes hml0 (findClass_of_methodNamed Bd.named) (name_of_methodNamed Bd.named Bd.method).1 Bd.returns hlk hZ ⟨[], X0, Fr.nil n0, e0⟩
  obtain ⟨s₂, o, h1, h2, h3, h4⟩ := k
  exact ⟨s₂, o, castTop (hef m) h1, h2, h3, h4⟩
/-! returns -/
theorem Go.leave (X : Sd n0 p l e R s m args below meth c T h k n) {Q : Option Value → Heap → Prop} {C S : Nat} {v : Option Value} {g : JFrame} (hlk : meth.locks = false) (hv : meth.sig.returnType = none → v = none)
    (hst : ∀ fs, (∀ (f : JFrame) (acts : List Action), f.method = m → f.locked = none → f.entered = [] → (doReturn e (T.setTop f) acts v).1 = T.setFrames fs) → Steps p.tables e below (T.setTop g) (T.setFrames fs))
    (hk : k ≤ C) (hn : n ≤ S) (hQ : Q v h) : Go p.tables e below (Ret s n0 Q C S) (T.setTop g) := by
  obtain ⟨L, X, N, q⟩ := X
  obtain ⟨fs, hr, hrun, hended, hW, hsame⟩ := X.leave (v := v) hv hlk
  refine ⟨_, _, hst fs hr, hrun, hended, _, L, rfl, ⟨?_, N⟩, ⟨_, rfl⟩, hW, hsame.mono hk hn⟩
  show Q v T.heap
  rw [q]; exact hQ
theorem Go.retN (X : Sd n0 p l e R s m args below meth c T h k n) (hx : p.tables.exec = Jvm.exec) (hlk : meth.locks = false) {Q : Option Value → Heap → Prop} {C S : Nat} {t : FieldType} {pc : Nat} {Ls : Array Slot} {z z' : Int32} {rest : List Value} (hret : meth.sig.returnType = some t) (ht : t = .boolean ∨ t = .byte ∨ t = .char ∨ t = .short)
    (hd : decode c.code pc = .ok (.ireturn, 1)) (hz : nar t z = z') (hk : k ≤ C) (hn : n ≤ S) (hQ : Q (some (.int z')) h) : Go p.tables e below (Ret s n0 Q C S) (T.setTop (mkF m pc Ls (.int z :: rest))) := by
  subst hz
  refine Go.leave X hlk (fun q => by rw [hret] at q; cases q) (fun fs hr => ?_) hk hn hQ
  obtain ⟨L, X, -⟩ := X
  exact Jvm.RoadKit.retN X hx hret ht hd hr
theorem Go.retI (X : Sd n0 p l e R s m args below meth c T h k n) (hx : p.tables.exec = Jvm.exec) (hlk : meth.locks = false) {Q : Option Value → Heap → Prop} {C S : Nat} {pc : Nat} {Ls : Array Slot} {z : Int32} {rest : List Value} (hret : meth.sig.returnType = some .int)
    (hd : decode c.code pc = .ok (.ireturn, 1)) (hk : k ≤ C) (hn : n ≤ S) (hQ : Q (some (.int z)) h) : Go p.tables e below (Ret s n0 Q C S) (T.setTop (mkF m pc Ls (.int z :: rest))) := by
  refine Go.leave X hlk (fun q => by rw [hret] at q; cases q) (fun fs hr => ?_) hk hn hQ
  obtain ⟨L, X, -⟩ := X
  exact retOut X hx hret rfl (Or.inl ⟨rfl, Or.inl rfl, _, rfl⟩) hd hr
theorem Go.retL (X : Sd n0 p l e R s m args below meth c T h k n) (hx : p.tables.exec = Jvm.exec) (hlk : meth.locks = false) {Q : Option Value → Heap → Prop} {C S : Nat} {pc : Nat} {Ls : Array Slot} {z : Int64} {rest : List Value} (hret : meth.sig.returnType = some .long)
    (hd : decode c.code pc = .ok (.lreturn, 1)) (hk : k ≤ C) (hn : n ≤ S) (hQ : Q (some (.long z)) h) : Go p.tables e below (Ret s n0 Q C S) (T.setTop (mkF m pc Ls (.long z :: rest))) := by
  refine Go.leave X hlk (fun q => by rw [hret] at q; cases q) (fun fs hr => ?_) hk hn hQ
  obtain ⟨L, X, -⟩ := X
  exact retOut X hx hret rfl (Or.inr (Or.inl ⟨rfl, rfl, _, rfl⟩)) hd hr
theorem Go.retA (X : Sd n0 p l e R s m args below meth c T h k n) (hx : p.tables.exec = Jvm.exec) (hlk : meth.locks = false) {Q : Option Value → Heap → Prop} {C S : Nat} {t : FieldType} {pc : Nat} {Ls : Array Slot} {w : Value} {rest : List Value} (hret : meth.sig.returnType = some t) (ht : t.isReference = true) (hw : w.isRef = true)
    (hd : decode c.code pc = .ok (.areturn, 1)) (hk : k ≤ C) (hn : n ≤ S) (hQ : Q (some w) h) : Go p.tables e below (Ret s n0 Q C S) (T.setTop (mkF m pc Ls (w :: rest))) := by
  refine Go.leave X hlk (fun q => by rw [hret] at q; cases q) (fun fs hr => ?_) hk hn hQ
  obtain ⟨L, X, -⟩ := X
  have hnar : narrow t w = w := by cases t <;> first | (cases ht; done) | (cases w <;> first | rfl | (cases hw; done))
  exact retOut X hx hret hnar (Or.inr (Or.inr (Or.inr (Or.inr ⟨rfl, ht, hw⟩)))) hd hr
theorem Go.ret0 (X : Sd n0 p l e R s m args below meth c T h k n) (hx : p.tables.exec = Jvm.exec) (hlk : meth.locks = false) {Q : Option Value → Heap → Prop} {C S : Nat} {pc : Nat} {Ls : Array Slot} (hret : meth.sig.returnType = none)
    (hd : decode c.code pc = .ok (.return_, 1)) (hk : k ≤ C) (hn : n ≤ S) (hQ : Q none h) : Go p.tables e below (Ret s n0 Q C S) (T.setTop (mkF m pc Ls [])) := by
  refine Go.leave X hlk (fun _ => rfl) (fun fs hr => ?_) hk hn hQ
  obtain ⟨L, X, -⟩ := X
  exact X.returnOut hx hret hd hr
/-! fields, statics, casts -/
theorem Sd.getF (X : Sd n0 p l e R s m args below meth c T h k n) (hx : p.tables.exec = Jvm.exec) (hZ : Z.Warmed39 s.vm) {own R0 O nm d host : String} {index : Nat} (hown : s.vm.findClass own = some m.cls) (w : (Cond.fieldLink own index R0 nm d).before a0 Z = true ∨ (Cond.fieldLinkNest own index R0 nm d host).before a0 Z = true) (via : Via Z R0 O nm d)
    {a : Addr} {v : Value} (F : Fld Z h a O nm d v) {g : JFrame} (hg : g.method = m) {rest : List Value} (hs : g.stack = .ref a :: rest) (hd : decode c.code g.pc = .ok (.getfield index, 3)) :
    ∃ T', Sd n0 p l e R s m args below meth c T' h k n ∧ ∀ target, Steps p.tables e below (T'.setTop { g with pc := g.pc + 3, stack := v :: rest }) target → Steps p.tables e below (T.setTop g) target := by
  obtain ⟨L, X, N, q⟩ := X
  obtain ⟨T', X', e', st⟩ := Jvm.RoadKit.getF X hx hZ hown w via q F hg hs hd
  exact ⟨T', ⟨L, X', N, e'⟩, st⟩
theorem Sd.getS (X : Sd n0 p l e R s m args below meth c T h k n) (hx : p.tables.exec = Jvm.exec) (hZ : Z.Warmed39 s.vm) {own R0 O nm d host : String} {index : Nat} (hown : s.vm.findClass own = some m.cls) (w : (Cond.fieldLink own index R0 nm d).before a0 Z = true ∨ (Cond.fieldLinkNest own index R0 nm d host).before a0 Z = true) (via : Via Z R0 O nm d)
    {v : Value} (F : Sta Z h O nm d v) {g : JFrame} (hg : g.method = m) (hd : decode c.code g.pc = .ok (.getstatic index, 3)) :
    ∃ T', Sd n0 p l e R s m args below meth c T' h k n ∧ ∀ target, Steps p.tables e below (T'.setTop { g with pc := g.pc + 3, stack := v :: g.stack }) target → Steps p.tables e below (T.setTop g) target := by
  obtain ⟨L, X, N, q⟩ := X
  obtain ⟨T', X', e', st⟩ := getS2 X hx hZ hown w via q F hg hd
  exact ⟨T', ⟨L, X', N, e'⟩, st⟩
theorem Sd.putF (X : Sd n0 p l e R s m args below meth c T h k n) (hx : p.tables.exec = Jvm.exec) (hZ : Z.Warmed39 s.vm) {own R0 O nm d host C : String} {index kk : Nat} {ty : FieldType} (hown : s.vm.findClass own = some m.cls) (w : (Cond.fieldLink own index R0 nm d).before a0 Z = true ∨ (Cond.fieldLinkNest own index R0 nm d host).before a0 Z = true) (via : Via Z R0 O nm d)
    {a : Addr} {v old : Value} (F : Fld Z h a O nm d old) (E : Exa Z h a C) (ga : n0 ≤ a) (L : (Cond.lays C O nm d).before a0 Z = true ∨ ((Cond.laysFinal C O nm d).before a0 Z = true ∧ own = O ∧ meth.name = "<init>")) (wi : (Cond.instantiable C kk).before a0 Z = true)
    (hty : parseFieldDescriptor d = some ty) (hnr : narrow ty v = v) (hf : fits ty v = true) {g : JFrame} (hg : g.method = m) {rest : List Value} (hs : g.stack = v :: .ref a :: rest) (hd : decode c.code g.pc = .ok (.putfield index, 3)) :
    ∃ T' h', Sd n0 p l e R s m args below meth c T' h' k n ∧ Wr h h' a (slotOf Z O nm d) v ∧ ∀ target, Steps p.tables e below (T'.setTop { g with pc := g.pc + 3, stack := rest }) target → Steps p.tables e below (T.setTop g) target := by
  obtain ⟨Lc, X, N, q⟩ := X
  obtain ⟨T', h', X', e', W, st⟩ := Jvm.RoadKit.putF X hx hZ hown w via q F E L wi hty hnr hf hg hs hd
  exact ⟨T', h', ⟨_, X', Fr.snoc X' N ga, e'⟩, W, st⟩
theorem Sd.putFN (X : Sd n0 p l e R s m args below meth c T h k n) (hx : p.tables.exec = Jvm.exec) (hZ : Z.Warmed39 s.vm) {own R0 O nm d C : String} {index kk : Nat} {ty : FieldType} (hown : s.vm.findClass own = some m.cls) (w : (Cond.fieldLink own index R0 nm d).before a0 Z = true) (via : Via Z R0 O nm d)
    {a : Addr} {v v' old : Value} (F : Fld Z h a O nm d old) (E : Exa Z h a C) (ga : n0 ≤ a) (L : (Cond.lays C O nm d).before a0 Z = true ∨ ((Cond.laysFinal C O nm d).before a0 Z = true ∧ own = O ∧ meth.name = "<init>")) (wi : (Cond.instantiable C kk).before a0 Z = true)
    (hty : parseFieldDescriptor d = some ty) (hnr : narrow ty v = v') (hf : fits ty v' = true) {g : JFrame} (hg : g.method = m) {rest : List Value} (hs : g.stack = v :: .ref a :: rest) (hd : decode c.code g.pc = .ok (.putfield index, 3)) :
    ∃ T' h', Sd n0 p l e R s m args below meth c T' h' k n ∧ Wr h h' a (slotOf Z O nm d) v' ∧ ∀ target, Steps p.tables e below (T'.setTop { g with pc := g.pc + 3, stack := rest }) target → Steps p.tables e below (T.setTop g) target := by
  obtain ⟨Lc, X, N, q⟩ := X
  obtain ⟨T', h', X', e', W, st⟩ := Jvm.RoadKit.putFN X hx hZ hown w via q F E L wi hty hnr hf hg hs hd
  exact ⟨T', h', ⟨_, X', Fr.snoc X' N ga, e'⟩, W, st⟩
theorem Sd.castY (X : Sd n0 p l e R s m args below meth c T h k n) (hx : p.tables.exec = Jvm.exec) (hZ : Z.Warmed39 s.vm) {own K : String} {index : Nat} (hown : s.vm.findClass own = some m.cls) (w : (Cond.classLink own index K).before a0 Z = true) {a : Addr} (F : Ins Z h a K true)
    {g : JFrame} (hg : g.method = m) {rest : List Value} (hs : g.stack = .ref a :: rest) (hd : decode c.code g.pc = .ok (.checkcast index, 3)) :
    ∃ T', Sd n0 p l e R s m args below meth c T' h k n ∧ ∀ target, Steps p.tables e below (T'.setTop { g with pc := g.pc + 3 }) target → Steps p.tables e below (T.setTop g) target := by
  obtain ⟨L, X, N, q⟩ := X
  obtain ⟨T', X', e', st⟩ := Jvm.RoadKit.castY X hx hZ hown w q F hg hs hd
  exact ⟨T', ⟨L, X', N, e'⟩, st⟩
theorem Sd.instY (X : Sd n0 p l e R s m args below meth c T h k n) (hx : p.tables.exec = Jvm.exec) (hZ : Z.Warmed39 s.vm) {own K : String} {index : Nat} (hown : s.vm.findClass own = some m.cls) (w : (Cond.classLink own index K).before a0 Z = true) {a : Addr} (F : Ins Z h a K true)
    {g : JFrame} (hg : g.method = m) {rest : List Value} (hs : g.stack = .ref a :: rest) (hd : decode c.code g.pc = .ok (.instanceof index, 3)) :
    ∃ T', Sd n0 p l e R s m args below meth c T' h k n ∧ ∀ target, Steps p.tables e below (T'.setTop { g with pc := g.pc + 3, stack := .int 1 :: rest }) target → Steps p.tables e below (T.setTop g) target := by
  obtain ⟨L, X, N, q⟩ := X
  obtain ⟨T', X', e', st⟩ := Jvm.RoadKit.instY X hx hZ hown w q F hg hs hd
  exact ⟨T', ⟨L, X', N, e'⟩, st⟩
theorem Sd.instNull (X : Sd n0 p l e R s m args below meth c T h k n) (hx : p.tables.exec = Jvm.exec) {index : Nat} {g : JFrame} (hg : g.method = m) {rest : List Value} (hs : g.stack = .null :: rest) (hd : decode c.code g.pc = .ok (.instanceof index, 3)) :
    ∀ target, Steps p.tables e below (T.setTop { g with pc := g.pc + 3, stack := .int 0 :: rest }) target → Steps p.tables e below (T.setTop g) target := by
  obtain ⟨L, X, -⟩ := X; exact X.instanceofNull hx hg hs hd
theorem Sd.ldcInt (X : Sd n0 p l e R s m args below meth c T h k n) (hx : p.tables.exec = Jvm.exec) (hZ : Z.Warmed39 s.vm) {own : String} {index : Nat} {v : Int32} (hown : s.vm.findClass own = some m.cls) (w : (Cond.constant own index v).before a0 Z = true) {g : JFrame} (hg : g.method = m) (hd : decode c.code g.pc = .ok (.ldc index, 2)) :
    ∀ target, Steps p.tables e below (T.setTop { g with pc := g.pc + 2, stack := .int v :: g.stack }) target → Steps p.tables e below (T.setTop g) target := by
  obtain ⟨L, X, -⟩ := X; exact X.ldcInt hx hown (mvT hZ w) hg hd
theorem Sd.ldc2Long (X : Sd n0 p l e R s m args below meth c T h k n) (hx : p.tables.exec = Jvm.exec) (hZ : Z.Warmed39 s.vm) {own : String} {index : Nat} {v : Int64} (hown : s.vm.findClass own = some m.cls) (w : (Cond.constantLong own index v).before a0 Z = true) {g : JFrame} (hg : g.method = m) (hd : decode c.code g.pc = .ok (.ldc2_w index, 3)) :
    ∀ target, Steps p.tables e below (T.setTop { g with pc := g.pc + 3, stack := .long v :: g.stack }) target → Steps p.tables e below (T.setTop g) target := by
  obtain ⟨L, X, -⟩ := X; exact X.ldc2Long hx hown (mvT hZ w) hg hd
theorem Sd.acmp {g : JFrame} (X : Sd n0 p l e R s m args below meth c T h k n) (hx : p.tables.exec = Jvm.exec) (hg : g.method = m) {cd : ACond} {x y : Value} (h1 : x.isRef = true) (h2 : y.isRef = true) {rest : List Value} {o : Int} {pc0 pc' : Nat} {same : Bool} (hpc : g.pc = pc0)
    (hd : decode c.code g.pc = .ok (.if_acmp cd o, 3)) (hs : g.stack = y :: x :: rest) (hq : decide (x = y) = same) (ho : 0 ≤ (pc0 : Int) + o) (hp : pc' = if acV cd same = true then ((pc0 : Int) + o).toNat else pc0 + 3) :
    ∀ target, Steps p.tables e below (T.setTop { g with pc := pc', stack := rest }) target → Steps p.tables e below (T.setTop g) target := by
  obtain ⟨L, X, -⟩ := X; exact fun _ => Jvm.RoadKit.acmp X hx hg h1 h2 hpc hd hs hq ho hp
theorem Sd.getFR (X : Sd n0 p l e R s m args below meth c T h k n) (hx : p.tables.exec = Jvm.exec) (hZ : Z.Warmed39 s.vm) {own O nm d : String} {index : Nat} (hown : s.vm.findClass own = some m.cls) (w : (Cond.fieldRef own index O nm d).before a0 Z = true)
    {a : Addr} {v : Value} (F : Fld Z h a O nm d v) {g : JFrame} (hg : g.method = m) {rest : List Value} (hs : g.stack = .ref a :: rest) (hd : decode c.code g.pc = .ok (.getfield index, 3)) :
    ∀ target, Steps p.tables e below (T.setTop { g with pc := g.pc + 3, stack := v :: rest }) target → Steps p.tables e below (T.setTop g) target := by
  obtain ⟨L, X, N, q⟩ := X
  obtain ⟨cell, cf, kk, i, f, h1, h2, h3, h4, h5, h6, h7⟩ := F
  have hT : Z.Warmed39 T.vm := wtrans hZ X.warmed
  have w' := Cond.fieldRef_warmed39 hT w
  have hcur : (Z.setVm T.vm).vm.findClass own = some m.cls := by show T.vm.findClass own = _; rw [X.warmed.alike.findClass]; exact hown
  obtain ⟨c', k', i', f', e1, e2⟩ := Cond.fieldRef_spec hcur w'
  obtain ⟨k2, hi, -⟩ := State.fieldFound?_setVm (s := Z) hT.alike h2
  cases e1.symm.trans hi
  intro target hrest
  subst hg
  jvm_step X.here [hx, hd, getfield.wp_ready (e := e) (s := T) (f := g) X.here.top e2 h3 hs (by rw [q]; exact h1) h4 h7]
  exact hrest
/-! making -/
theorem Sd.newO (X : Sd n0 p l e R s m args below meth c T h k n) (hx : p.tables.exec = Jvm.exec) (hZ : Z.Warmed39 s.vm) {own C : String} {index sz k' n' : Nat} (hown : s.vm.findClass own = some m.cls) (w : (Cond.classLink own index C).before a0 Z = true) (wi : (Cond.instantiable C sz).before a0 Z = true) (wz : (Cond.initialized C).before a0 Z = true)
    {g : JFrame} (hg : g.method = m) (hd : decode c.code g.pc = .ok (.new index, 3)) (hk : k + 1 = k') (hn : n + sz = n') (hc : k' ≤ R.cells) (hl : n' ≤ R.slots) :
    ∃ T' h' a, Sd n0 p l e R s m args below meth c T' h' k' n' ∧ a = h.size ∧ Ext h h' ∧ Exa Z h' a C ∧ (∀ {O nm d : String} {ty : FieldType}, Laid Z a0 C O nm d → parseFieldDescriptor d = some ty → Fld Z h' a O nm d (defaultValue ty)) ∧
      ∀ target, Steps p.tables e below (T'.setTop { g with pc := g.pc + 3, stack := .ref a :: g.stack }) target → Steps p.tables e below (T.setTop g) target := by
  subst hk hn
  obtain ⟨L, X, N, q⟩ := X
  obtain ⟨T', h', X', e', E, A, D, -, st⟩ := Jvm.RoadKit.newO X hx hZ hown w wi wz q hg hd hc hl
  exact ⟨T', h', _, ⟨L, X', N, e'⟩, rfl, E, A, D, st⟩
theorem Sd.initO (X : Sd n0 p l e R s m args below meth c T h k n) (hx : p.tables.exec = Jvm.exec) (hZ : Z.Warmed39 s.vm) {own : String} {idx : Nat} (hown : s.vm.findClass own = some m.cls) (w1 : (Cond.methodLink own idx Lib.objectInit).before a0 Z = true) (w2 : (Cond.instanceMethod Lib.objectInit).before a0 Z = true)
    (w3 : (Cond.code Lib.objectInit ⟨#[0xb1]⟩ 1 none).before a0 Z = true) {g : JFrame} (hg : g.method = m) (hsize : g.locals.size = c.maxLocals) {a : Addr} {rest : List Value} (hs : g.stack = .ref a :: rest) (hd : decode c.code g.pc = .ok (.invokespecial idx, 3))
    (hf : 1 ≤ R.frames) (hl : 2 * g.monitorRoom + (rest.map fun v => v.category).sum + 12 ≤ R.locals) :
    ∃ T', Sd n0 p l e R s m args below meth c T' h k n ∧ ∀ target, Steps p.tables e below (T'.setTop { g with pc := g.pc + 3, stack := rest }) target → Steps p.tables e below (T.setTop g) target := by
  obtain ⟨L, X, N, q⟩ := X
  obtain ⟨T', X', e', st⟩ := Jvm.RoadKit.initO X hx hZ hown w1 w2 w3 q hg hsize hs hd hf (W := 2 * g.monitorRoom + (rest.map fun v => v.category).sum) (Nat.le_refl _) hl
  exact ⟨T', ⟨L, X', N, e'⟩, st⟩
/-- an array of n' places, place i holds f i -/
def Avf (Z : State) (h : Heap) (a : Addr) (kc : ClassId) (ty : FieldType) (sz : Nat) (f : Nat → Value) : Prop := ∃ cl : Cell, Arr Z h a cl ty ∧ cl.cls = kc ∧ cl.slots.size = sz ∧ sz < 2 ^ 31 ∧ ∀ i, i < sz → cl.slots[i]? = some (f i) ∧ fits ty (f i) = true
theorem Avf.lt {h : Heap} {a : Addr} {kc : ClassId} {ty : FieldType} {sz : Nat} {f : Nat → Value} (F : Avf Z h a kc ty sz f) : a < h.size := by obtain ⟨_, A, -⟩ := F; exact A.lt
theorem Avf.ext {h h' : Heap} {a : Addr} {kc : ClassId} {ty : FieldType} {sz : Nat} {f : Nat → Value} (F : Avf Z h a kc ty sz f) (E : Ext h h') : Avf Z h' a kc ty sz f := by obtain ⟨cl, A, r⟩ := F; exact ⟨cl, A.ext E, r⟩
theorem Avf.other {h h' : Heap} {a b : Addr} {kc : ClassId} {ty : FieldType} {sz sl : Nat} {f : Nat → Value} {v : Value} (F : Avf Z h b kc ty sz f) (W : Wr h h' a sl v) (q : b ≠ a) : Avf Z h' b kc ty sz f := by obtain ⟨cl, A, r⟩ := F; exact ⟨cl, A.other W q, r⟩
theorem Avf.keep {h h' : Heap} {a : Addr} {kc : ClassId} {ty : FieldType} {sz : Nat} {f : Nat → Value} {ws : List Addr} (F : Avf Z h a kc ty sz f) (K : Keep h h' ws) (q : a ∉ ws) : Avf Z h' a kc ty sz f := by obtain ⟨cl, A, r⟩ := F; exact ⟨cl, ⟨K.2.1 a cl A.1 q, A.2⟩, r⟩
theorem Avf.cong {h : Heap} {a : Addr} {kc : ClassId} {ty : FieldType} {sz : Nat} {f g : Nat → Value} (F : Avf Z h a kc ty sz f) (q : ∀ i, i < sz → f i = g i) : Avf Z h a kc ty sz g := by
  obtain ⟨cl, A, r1, r2, r3, r4⟩ := F; exact ⟨cl, A, r1, r2, r3, fun i hi => by rw [← q i hi]; exact r4 i hi⟩
theorem Avf.set {h h' : Heap} {a : Addr} {kc : ClassId} {ty : FieldType} {sz : Nat} {f : Nat → Value} {v : Value} {j : Nat} (F : Avf Z h a kc ty sz f) (W : Wr h h' a j v) (hv : fits ty v = true) : Avf Z h' a kc ty sz (fun i => if i = j then v else f i) := by
  obtain ⟨cl, A, r1, r2, r3, r4⟩ := F
  refine ⟨_, A.same W, r1, by rw [sz_set]; exact r2, r3, fun i hi => ?_⟩
  by_cases q : i = j
  · subst q; simp [Cell.setSlot, r2, hi, hv]
  · simp [Cell.setSlot, q, r4 i hi, Array.getElem?_setIfInBounds_ne (Ne.symm q)]
theorem Avf.of_arv {h : Heap} {a : Addr} {kc : ClassId} {ty : FieldType} {z : Int32} {vs : List Value} {dv : Value} (F : Arv Z h a kc ty z vs dv) : Avf Z h a kc ty z.toNatClampNeg (fun i => vs.getD i dv) := by
  obtain ⟨cl, A, r1, r2, r3, H, G⟩ := F
  exact ⟨cl, A, r1, r2, (back32 r3).2, fun i hi => ⟨H i (by rw [r2]; exact hi), G i (by rw [r2]; exact hi)⟩⟩
theorem Sd.newP (X : Sd n0 p l e R s m args below meth c T h k n) (hx : p.tables.exec = Jvm.exec) (hZ : Z.Warmed39 s.vm) {aty : ArrayType} (w : (Cond.arrayClass (newarray.typeOf aty)).before a0 Z = true) {g : JFrame} (hg : g.method = m) (hd : decode c.code g.pc = .ok (.newarray aty, 2)) {z : Int32} {rest : List Value} (hs : g.stack = .int z :: rest)
    (hz : ¬ z < 0) {sz cap k' n' : Nat} (hsz : z.toNatClampNeg = sz) (hcap : sz ≤ cap) (hb : cap * 8 ≤ 536870912) (hk : k + 1 = k') (hn : n + cap = n') (hc : k' ≤ R.cells) (hl : n' ≤ R.slots) {ad : String} (had : "[" ++ (newarray.typeOf aty).toString = ad) :
    ∃ T' h' kc a, Sd n0 p l e R s m args below meth c T' h' k' n' ∧ a = h.size ∧ Ext h h' ∧ Exa Z h' a ad ∧ Avf Z h' a kc (newarray.typeOf aty) sz (fun _ => defaultValue (newarray.typeOf aty)) ∧
      ∀ target, Steps p.tables e below (T'.setTop { g with pc := g.pc + 2, stack := .ref a :: rest }) target → Steps p.tables e below (T.setTop g) target := by
  subst hk hn hsz
  obtain ⟨L, X, N, q⟩ := X
  obtain ⟨T', h', kc, X', e', E, A, Ex, st⟩ := Jvm.RoadKit.newPE X hx hZ w q hg hd hs hz hcap hb hc hl had
  refine ⟨T', h', kc, _, ⟨L, X', N, e'⟩, rfl, E, Ex, ⟨_, A, rfl, sz_new _ _ _, (back32 hz).2, fun i hi => ⟨by simp [newA, hi], ?_⟩⟩, st⟩
  cases aty <;> rfl
theorem Sd.newR (X : Sd n0 p l e R s m args below meth c T h k n) (hx : p.tables.exec = Jvm.exec) (hZ : Z.Warmed39 s.vm) {own C : String} {index : Nat} (hown : s.vm.findClass own = some m.cls) (w1 : (Cond.classLink own index C).before a0 Z = true) (w2 : (Cond.arrayOver (.object C)).before a0 Z = true)
    {g : JFrame} (hg : g.method = m) (hd : decode c.code g.pc = .ok (.anewarray index, 3)) {z : Int32} {rest : List Value} (hs : g.stack = .int z :: rest)
    (hz : ¬ z < 0) {sz cap k' n' : Nat} (hsz : z.toNatClampNeg = sz) (hcap : sz ≤ cap) (hb : cap * 8 ≤ 536870912) (hk : k + 1 = k') (hn : n + cap = n') (hc : k' ≤ R.cells) (hl : n' ≤ R.slots) {ad : String} (had : "[" ++ (FieldType.object C).toString = ad) :
    ∃ T' h' kc a, Sd n0 p l e R s m args below meth c T' h' k' n' ∧ a = h.size ∧ Ext h h' ∧ Exa Z h' a ad ∧ Avf Z h' a kc (.object C) sz (fun _ => .null) ∧ Ovr Z kc C ∧
      ∀ target, Steps p.tables e below (T'.setTop { g with pc := g.pc + 3, stack := .ref a :: rest }) target → Steps p.tables e below (T.setTop g) target := by
  subst hk hn hsz
  obtain ⟨L, X, N, q⟩ := X
  obtain ⟨T', h', kc, X', e', E, A, Ex, O, st⟩ := Jvm.RoadKit.newRE X hx hZ hown w1 w2 q hg hd hs hz hcap hb hc hl had
  exact ⟨T', h', kc, _, ⟨L, X', N, e'⟩, rfl, E, Ex, ⟨_, A, rfl, sz_new _ _ _, (back32 hz).2, fun i hi => ⟨by simp [newA, hi, defaultValue], rfl⟩⟩, O, st⟩
theorem Sd.clone (X : Sd n0 p l e R s m args below meth c T h k n) (hx : p.tables.exec = Jvm.exec) (hZ : Z.Warmed39 s.vm) {own ad : String} {index : Nat} (hown : s.vm.findClass own = some m.cls)
    (w1 : (Cond.methodLink own index ⟨ad, "clone", "()Ljava/lang/Object;"⟩).before a0 Z = true) (w2 : (Cond.sameMethod ad "java/lang/Object" "clone" "()Ljava/lang/Object;").before a0 Z = true) (w3 : (Cond.native ⟨"java/lang/Object", "clone", "()Ljava/lang/Object;"⟩).before a0 Z = true)
    (w4 : (Cond.instanceMethod ⟨"java/lang/Object", "clone", "()Ljava/lang/Object;"⟩).before a0 Z = true) (w5 : (Cond.selects ad ⟨ad, "clone", "()Ljava/lang/Object;"⟩ ⟨"java/lang/Object", "clone", "()Ljava/lang/Object;"⟩).before a0 Z = true) (w6 : (Cond.castable ad "java/lang/Cloneable").before a0 Z = true)
    {a : Addr} {kc : ClassId} {ty : FieldType} {sz : Nat} {f : Nat → Value} (F : Avf Z h a kc ty sz f) (E : Exa Z h a ad) {g : JFrame} (hg : g.method = m) (hsize : g.locals.size = c.maxLocals) {rest : List Value} (hst : g.stack = .ref a :: rest) (hd : decode c.code g.pc = .ok (.invokevirtual index, 3))
    (hf : 1 ≤ R.frames) (hl : 2 * g.monitorRoom + (rest.map fun v => v.category).sum + 14 ≤ R.locals) {cap k' n' : Nat} (hcap : sz ≤ cap) (hk : k + 1 = k') (hn : n + cap = n') (hc : k' ≤ R.cells) (hs : n' ≤ R.slots) :
    ∃ T' h' b, Sd n0 p l e R s m args below meth c T' h' k' n' ∧ b = h.size ∧ Ext h h' ∧ Exa Z h' b ad ∧ Avf Z h' b kc ty sz f ∧ ∀ target, Steps p.tables e below (T'.setTop { g with pc := g.pc + 3, stack := .ref b :: rest }) target → Steps p.tables e below (T.setTop g) target := by
  subst hk hn
  obtain ⟨L, X, N, q⟩ := X
  obtain ⟨cl, A, r1, r2, r3, r4⟩ := F
  have FC : FitC Z cl := fitC_of A fun i hi v hv => by rw [(r4 i (r2 ▸ hi)).1] at hv; cases hv; exact (r4 i (r2 ▸ hi)).2
  obtain ⟨T', h', X', e', ex, A', E', st⟩ := cloneA X hx hZ hown w1 w2 w3 w4 w5 w6 q A E FC hg hsize hst hd hf (W := 2 * g.monitorRoom + (rest.map fun v => v.category).sum) (Nat.le_refl _) hl (by rw [r2]; exact hcap) hc hs
  exact ⟨T', h', _, ⟨L, X', N, e'⟩, rfl, ex, E', ⟨cloneOf cl, A', r1, r2, r3, r4⟩, st⟩
theorem Sd.grid (X : Sd n0 p l e R s m args below meth c T h k n) (hx : p.tables.exec = Jvm.exec) (hZ : Z.Warmed39 s.vm) {own : String} {index : Nat} (hown : s.vm.findClass own = some m.cls)
    (w1 : (Cond.classLink own index "[[J").before a0 Z = true) (w2 : (Cond.arrayOver (.array .long)).before a0 Z = true) (w3 : (Cond.arrayClass .long).before a0 Z = true) {g : JFrame} (hg : g.method = m) (hd : decode c.code g.pc = .ok (.multianewarray index 2, 4)) {z y : Int32} {rest : List Value} (hs : g.stack = .int y :: .int z :: rest)
    (hz : ¬ z < 0) (hy : ¬ y < 0) {N sz cap k' n' : Nat} (hN : z.toNatClampNeg = N) (hsz : y.toNatClampNeg = sz) (hcap : sz ≤ cap) (hb : cap * 8 ≤ 536870912) (hb1 : N ≤ 1000) (hk : k + (1 + N) = k') (hn : n + (N + N * cap) = n') (hc : k' ≤ R.cells) (hl : n' ≤ R.slots) :
    ∃ T' h' kc kd a, Sd n0 p l e R s m args below meth c T' h' k' n' ∧ a = h.size ∧ Ext h h' ∧ Exa Z h' a "[[J" ∧ Avf Z h' a kc (.array .long) N (fun i => .ref (a + 1 + i)) ∧ (∀ i, i < N → Avf Z h' (a + 1 + i) kd .long sz (fun _ => .long 0)) ∧
      ∀ target, Steps p.tables e below (T'.setTop { g with pc := g.pc + 4, stack := .ref a :: rest }) target → Steps p.tables e below (T.setTop g) target := by
  subst hk hn hN hsz
  obtain ⟨L, X, Nn, q⟩ := X
  obtain ⟨T', h', kc, kd, X', e', E, A, O, Ex, D, st⟩ := gridM X hx hZ hown (ty := .long) (C := "[J") (ad := "[[J") (by decide) (by decide) w1 w2 w3 q hg hd hs hz hy (xs := (List.range z.toNatClampNeg).map fun j => h.size + 1 + j) rfl rfl hcap hb hb1 rfl rfl hc hl
  refine ⟨T', h', kc, kd, _, ⟨L, X', Nn, e'⟩, rfl, E, Ex, ?_, fun i hi => ?_, st⟩
  · refine Avf.cong (Avf.of_arv A) fun i hi => ?_
    simp [hi, List.getD_eq_getElem?_getD]
  · obtain ⟨AI, -⟩ := D i (h.size + 1 + i) (by simp [hi])
    exact ⟨_, AI, rfl, sz_new _ _ _, (back32 hy).2, fun j hj => ⟨by simp [newA, hj, defaultValue], rfl⟩⟩
theorem Avf.arv {h : Heap} {a : Addr} {kc : ClassId} {ty : FieldType} {sz : Nat} {f : Nat → Value} (F : Avf Z h a kc ty sz f) (d : Value) : Arv Z h a kc ty sz.toInt32 ((List.range sz).map f) d := by
  obtain ⟨cl, A, r1, r2, r3, r4⟩ := F
  have q1 : sz.toInt32.toInt = sz := len_toInt r3
  have q2 : sz.toInt32.toNatClampNeg = sz := by simp only [Int32.toNatClampNeg, q1]; omega
  have q3 : ¬ sz.toInt32 < 0 := by
    rw [Int32.lt_iff_toInt_lt, q1]
    have : (0 : Int32).toInt = 0 := rfl
    omega
  have g : ∀ i, i < sz → ((List.range sz).map f).getD i d = f i := fun i hi => by simp [List.getD_eq_getElem?_getD, hi]
  refine ⟨cl, A, r1, by rw [q2]; exact r2, q3, fun i hi => ?_, fun i hi => ?_⟩
  · rw [g i (r2 ▸ hi)]; exact (r4 i (r2 ▸ hi)).1
  · rw [g i (r2 ▸ hi)]; exact (r4 i (r2 ▸ hi)).2
theorem Sd.acopy (X : Sd n0 p l e R s m args below meth c T h k n) (hx : p.tables.exec = Jvm.exec) (hZ : Z.Warmed39 s.vm) {own : String} {index : Nat} (hown : s.vm.findClass own = some m.cls)
    (w1 : (Cond.methodLink own index Jvm.Stand.acN).before a0 Z = true) (w2 : (Cond.native Jvm.Stand.acN).before a0 Z = true) (w3 : (Cond.static Jvm.Stand.acN).before a0 Z = true) (w4 : (Cond.initialized "java/lang/System").before a0 Z = true)
    {a b : Addr} {ka kb : ClassId} {ty : FieldType} {sa sb : Nat} {f f' : Nat → Value} (A : Avf Z h a ka ty sa f) (B : Avf Z h b kb ty sb f') (hty : refKind ty = false) (gb : n0 ≤ b) {sp dp nn : Int32} (h1 : ¬ sp < 0) (h2 : ¬ dp < 0) (h3 : ¬ nn < 0) {i j cc : Nat} (hi : sp.toNatClampNeg = i) (hj : dp.toNatClampNeg = j) (hc : nn.toNatClampNeg = cc) (h4 : i + cc ≤ sa) (h5 : j + cc ≤ sb)
    {g : JFrame} (hg : g.method = m) (hsize : g.locals.size = c.maxLocals) {rest : List Value} (hs : g.stack = .int nn :: .int dp :: .ref b :: .int sp :: .ref a :: rest) (hd : decode c.code g.pc = .ok (.invokestatic index, 3))
    (hf : 1 ≤ R.frames) (hlo : 2 * g.monitorRoom + (rest.map fun v => v.category).sum + (nativeFrameWords "java/lang/System" "arraycopy" 5 + 11) ≤ R.locals) :
    ∃ T' h', Sd n0 p l e R s m args below meth c T' h' k n ∧ Keep h h' [b] ∧ Avf Z h' b kb ty sb (fun t => if j ≤ t ∧ t < j + cc then f (i + (t - j)) else f' t) ∧
      ∀ target, Steps p.tables e below (T'.setTop { g with pc := g.pc + 3, stack := rest }) target → Steps p.tables e below (T.setTop g) target := by
  subst hi hj hc
  obtain ⟨L, X, N, q⟩ := X
  have ra : sa.toInt32.toNatClampNeg = sa := by obtain ⟨_, _, _, _, r3, _⟩ := A; simp only [Int32.toNatClampNeg, len_toInt r3]; omega
  have rb : sb.toInt32.toNatClampNeg = sb := by obtain ⟨_, _, _, _, r3, _⟩ := B; simp only [Int32.toNatClampNeg, len_toInt r3]; omega
  obtain ⟨T', h', L', X', e', N', K, V, st⟩ := cpA X hx hZ hown w1 w2 w3 w4 q (A.arv .null) (B.arv .null) (us := (List.range nn.toNatClampNeg).map fun t => ((List.range sa).map f).getD (sp.toNatClampNeg + t) .null) (Or.inl ⟨rfl, hty⟩) h1 h2 h3 (by rw [ra]; exact h4) (by rw [rb]; exact h5) rfl (by simpa using h5) N gb hg hsize hs hd hf (W := 2 * g.monitorRoom + (rest.map fun v => v.category).sum) (Nat.le_refl _) hlo
  refine ⟨T', h', ⟨L', X', N', e'⟩, K, ?_, st⟩
  have V' := Avf.of_arv V
  rw [rb] at V'
  refine V'.cong fun t ht => ?_
  have hj : dp.toNatClampNeg ≤ sb := by omega
  simp only [List.getD_eq_getElem?_getD]
  by_cases c1 : t < dp.toNatClampNeg
  · have c2 : ¬ (dp.toNatClampNeg ≤ t ∧ t < dp.toNatClampNeg + nn.toNatClampNeg) := by omega
    rw [if_neg c2, List.append_assoc, List.getElem?_append_left (by simp; omega)]
    simp [c1, ht]
  · by_cases c2 : t < dp.toNatClampNeg + nn.toNatClampNeg
    · have c3 : dp.toNatClampNeg ≤ t ∧ t < dp.toNatClampNeg + nn.toNatClampNeg := by omega
      have c4 : t - dp.toNatClampNeg < nn.toNatClampNeg := by omega
      have c5 : sp.toNatClampNeg + (t - dp.toNatClampNeg) < sa := by omega
      rw [if_pos c3, List.append_assoc, List.getElem?_append_right (by simp; omega), List.getElem?_append_left (by simp; omega)]
      simp [Nat.min_eq_left hj, c4, c5]
    · have c3 : ¬ (dp.toNatClampNeg ≤ t ∧ t < dp.toNatClampNeg + nn.toNatClampNeg) := by omega
      rw [if_neg c3, List.getElem?_append_right (by simp; omega)]
      have c6 : dp.toNatClampNeg + nn.toNatClampNeg + (t - (dp.toNatClampNeg + nn.toNatClampNeg)) = t := by omega
      simp [Nat.min_eq_left hj, c6, ht]
/-! arrays: length, load, store -/
theorem Sd.len (X : Sd n0 p l e R s m args below meth c T h k n) (hx : p.tables.exec = Jvm.exec) (hZ : Z.Warmed39 s.vm) {a : Addr} {kc : ClassId} {ty : FieldType} {sz : Nat} {f : Nat → Value} (F : Avf Z h a kc ty sz f) {z : Int32} (hz : sz.toInt32 = z)
    {g : JFrame} (hg : g.method = m) {rest : List Value} (hs : g.stack = .ref a :: rest) (hd : decode c.code g.pc = .ok (.arraylength, 1)) :
    ∀ target, Steps p.tables e below (T.setTop { g with pc := g.pc + 1, stack := .int z :: rest }) target → Steps p.tables e below (T.setTop g) target := by
  obtain ⟨L, X, -, q⟩ := X
  obtain ⟨cl, A, r1, r2, r3, r4⟩ := F
  intro t kt
  refine X.arraylength hx (by rw [q]; exact A.1) (State.isArrayOf_alike hZ.alike A.2.1) hg hs hd _ ?_
  rw [r2, hz]; exact kt
theorem inb {cl : Cell} {sz i : Nat} {j : Int32} (r2 : cl.slots.size = sz) (hj : ¬ j < 0) (hi : j.toNatClampNeg = i) (hlt : i < sz) : ¬ (j < 0 ∨ cl.slots.size ≤ j.toNatClampNeg) := fun q => q.elim hj fun q => by omega
theorem Sd.ldI (X : Sd n0 p l e R s m args below meth c T h k n) (hx : p.tables.exec = Jvm.exec) (hZ : Z.Warmed39 s.vm) {a : Addr} {kc : ClassId} {sz : Nat} {f : Nat → Value} (F : Avf Z h a kc .int sz f) {j : Int32} (hj : ¬ j < 0) {i : Nat} (hi : j.toNatClampNeg = i) (hlt : i < sz) {v : Value} (hv : f i = v)
    {g : JFrame} (hg : g.method = m) {rest : List Value} (hs : g.stack = .int j :: .ref a :: rest) (hd : decode c.code g.pc = .ok (.iaload, 1)) :
    ∀ target, Steps p.tables e below (T.setTop { g with pc := g.pc + 1, stack := v :: rest }) target → Steps p.tables e below (T.setTop g) target := by
  subst hv
  obtain ⟨L, X, -, q⟩ := X
  obtain ⟨cl, A, r1, r2, r3, r4⟩ := F
  exact X.iaload hx (by rw [q]; exact A.1) (State.isArrayOf_alike hZ.alike A.2.1) A.2.2 (inb r2 hj hi hlt) (by rw [hi]; exact (r4 i hlt).1) hg hs hd
theorem Sd.ldJ (X : Sd n0 p l e R s m args below meth c T h k n) (hx : p.tables.exec = Jvm.exec) (hZ : Z.Warmed39 s.vm) {a : Addr} {kc : ClassId} {sz : Nat} {f : Nat → Value} (F : Avf Z h a kc .long sz f) {j : Int32} (hj : ¬ j < 0) {i : Nat} (hi : j.toNatClampNeg = i) (hlt : i < sz) {v : Value} (hv : f i = v)
    {g : JFrame} (hg : g.method = m) {rest : List Value} (hs : g.stack = .int j :: .ref a :: rest) (hd : decode c.code g.pc = .ok (.laload, 1)) :
    ∀ target, Steps p.tables e below (T.setTop { g with pc := g.pc + 1, stack := v :: rest }) target → Steps p.tables e below (T.setTop g) target := by
  subst hv
  obtain ⟨L, X, -, q⟩ := X
  obtain ⟨cl, A, r1, r2, r3, r4⟩ := F
  exact X.laload hx (by rw [q]; exact A.1) (State.isArrayOf_alike hZ.alike A.2.1) A.2.2 (inb r2 hj hi hlt) (by rw [hi]; exact (r4 i hlt).1) hg hs hd
theorem Sd.ldC (X : Sd n0 p l e R s m args below meth c T h k n) (hx : p.tables.exec = Jvm.exec) (hZ : Z.Warmed39 s.vm) {a : Addr} {kc : ClassId} {sz : Nat} {f : Nat → Value} (F : Avf Z h a kc .char sz f) {j : Int32} (hj : ¬ j < 0) {i : Nat} (hi : j.toNatClampNeg = i) (hlt : i < sz) {v : Value} (hv : f i = v)
    {g : JFrame} (hg : g.method = m) {rest : List Value} (hs : g.stack = .int j :: .ref a :: rest) (hd : decode c.code g.pc = .ok (.caload, 1)) :
    ∀ target, Steps p.tables e below (T.setTop { g with pc := g.pc + 1, stack := v :: rest }) target → Steps p.tables e below (T.setTop g) target := by
  subst hv
  obtain ⟨L, X, -, q⟩ := X
  obtain ⟨cl, A, r1, r2, r3, r4⟩ := F
  exact X.caload hx (by rw [q]; exact A.1) (State.isArrayOf_alike hZ.alike A.2.1) A.2.2 (inb r2 hj hi hlt) (by rw [hi]; exact (r4 i hlt).1) hg hs hd
theorem Sd.ldB (X : Sd n0 p l e R s m args below meth c T h k n) (hx : p.tables.exec = Jvm.exec) (hZ : Z.Warmed39 s.vm) {a : Addr} {kc : ClassId} {sz : Nat} {f : Nat → Value} (F : Avf Z h a kc .byte sz f) {j : Int32} (hj : ¬ j < 0) {i : Nat} (hi : j.toNatClampNeg = i) (hlt : i < sz) {v : Value} (hv : f i = v)
    {g : JFrame} (hg : g.method = m) {rest : List Value} (hs : g.stack = .int j :: .ref a :: rest) (hd : decode c.code g.pc = .ok (.baload, 1)) :
    ∀ target, Steps p.tables e below (T.setTop { g with pc := g.pc + 1, stack := v :: rest }) target → Steps p.tables e below (T.setTop g) target := by
  subst hv
  obtain ⟨L, X, -, q⟩ := X
  obtain ⟨cl, A, r1, r2, r3, r4⟩ := F
  exact X.baloadBytes hx (by rw [q]; exact A.1) (State.isArrayOf_alike hZ.alike A.2.1) A.2.2 (inb r2 hj hi hlt) (by rw [hi]; exact (r4 i hlt).1) hg hs hd
theorem Sd.ldA (X : Sd n0 p l e R s m args below meth c T h k n) (hx : p.tables.exec = Jvm.exec) (hZ : Z.Warmed39 s.vm) {a : Addr} {kc : ClassId} {ty : FieldType} {sz : Nat} {f : Nat → Value} (F : Avf Z h a kc ty sz f) (hty : ty.isReference = true) {j : Int32} (hj : ¬ j < 0) {i : Nat} (hi : j.toNatClampNeg = i) (hlt : i < sz) {v : Value} (hv : f i = v)
    {g : JFrame} (hg : g.method = m) {rest : List Value} (hs : g.stack = .int j :: .ref a :: rest) (hd : decode c.code g.pc = .ok (.aaload, 1)) :
    ∀ target, Steps p.tables e below (T.setTop { g with pc := g.pc + 1, stack := v :: rest }) target → Steps p.tables e below (T.setTop g) target := by
  subst hv
  obtain ⟨L, X, -, q⟩ := X
  obtain ⟨cl, A, r1, r2, r3, r4⟩ := F
  exact X.aaload hx (by rw [q]; exact A.1) (State.isArrayOf_alike hZ.alike A.2.1) hty A.2.2 (inb r2 hj hi hlt) (by rw [hi]; exact (r4 i hlt).1) hg hs hd
theorem Sd.stI (X : Sd n0 p l e R s m args below meth c T h k n) (hx : p.tables.exec = Jvm.exec) (hZ : Z.Warmed39 s.vm) {a : Addr} {kc : ClassId} {sz : Nat} {f : Nat → Value} (F : Avf Z h a kc .int sz f) (ga : n0 ≤ a) {j x : Int32} (hj : ¬ j < 0) {i : Nat} (hi : j.toNatClampNeg = i) (hlt : i < sz)
    {g : JFrame} (hg : g.method = m) {rest : List Value} (hs : g.stack = .int x :: .int j :: .ref a :: rest) (hd : decode c.code g.pc = .ok (.iastore, 1)) :
    ∃ T' h', Sd n0 p l e R s m args below meth c T' h' k n ∧ Wr h h' a i (.int x) ∧ Avf Z h' a kc .int sz (fun t => if t = i then .int x else f t) ∧ ∀ target, Steps p.tables e below (T'.setTop { g with pc := g.pc + 1, stack := rest }) target → Steps p.tables e below (T.setTop g) target := by
  obtain ⟨L, X, N, q⟩ := X
  obtain ⟨cl, A, r1, r2, r3, r4⟩ := F
  obtain ⟨T', h', X', e', W, st⟩ := Jvm.RoadKit.stI X hx hZ q A (inb r2 hj hi hlt) hg hs hd
  subst hi
  exact ⟨T', h', ⟨_, X', Fr.snoc X' N ga, e'⟩, W, Avf.set ⟨cl, A, r1, r2, r3, r4⟩ W rfl, st⟩
theorem Sd.stJ (X : Sd n0 p l e R s m args below meth c T h k n) (hx : p.tables.exec = Jvm.exec) (hZ : Z.Warmed39 s.vm) {a : Addr} {kc : ClassId} {sz : Nat} {f : Nat → Value} (F : Avf Z h a kc .long sz f) (ga : n0 ≤ a) {j : Int32} {x : Int64} (hj : ¬ j < 0) {i : Nat} (hi : j.toNatClampNeg = i) (hlt : i < sz)
    {g : JFrame} (hg : g.method = m) {rest : List Value} (hs : g.stack = .long x :: .int j :: .ref a :: rest) (hd : decode c.code g.pc = .ok (.lastore, 1)) :
    ∃ T' h', Sd n0 p l e R s m args below meth c T' h' k n ∧ Wr h h' a i (.long x) ∧ Avf Z h' a kc .long sz (fun t => if t = i then .long x else f t) ∧ ∀ target, Steps p.tables e below (T'.setTop { g with pc := g.pc + 1, stack := rest }) target → Steps p.tables e below (T.setTop g) target := by
  obtain ⟨L, X, N, q⟩ := X
  obtain ⟨cl, A, r1, r2, r3, r4⟩ := F
  obtain ⟨T', h', X', e', W, st⟩ := Jvm.RoadKit.stJ X hx hZ q A (inb r2 hj hi hlt) hg hs hd
  subst hi
  exact ⟨T', h', ⟨_, X', Fr.snoc X' N ga, e'⟩, W, Avf.set ⟨cl, A, r1, r2, r3, r4⟩ W rfl, st⟩
theorem Sd.stB (X : Sd n0 p l e R s m args below meth c T h k n) (hx : p.tables.exec = Jvm.exec) (hZ : Z.Warmed39 s.vm) {a : Addr} {kc : ClassId} {sz : Nat} {f : Nat → Value} (F : Avf Z h a kc .byte sz f) (ga : n0 ≤ a) {j x : Int32} (hj : ¬ j < 0) {i : Nat} (hi : j.toNatClampNeg = i) (hlt : i < sz)
    {g : JFrame} (hg : g.method = m) {rest : List Value} (hs : g.stack = .int x :: .int j :: .ref a :: rest) (hd : decode c.code g.pc = .ok (.bastore, 1)) :
    ∃ T' h', Sd n0 p l e R s m args below meth c T' h' k n ∧ Wr h h' a i (.int x.toInt8.toInt32) ∧ Avf Z h' a kc .byte sz (fun t => if t = i then .int x.toInt8.toInt32 else f t) ∧ ∀ target, Steps p.tables e below (T'.setTop { g with pc := g.pc + 1, stack := rest }) target → Steps p.tables e below (T.setTop g) target := by
  obtain ⟨L, X, N, q⟩ := X
  obtain ⟨cl, A, r1, r2, r3, r4⟩ := F
  obtain ⟨T', h', X', e', W, st⟩ := Jvm.RoadKit.stB X hx hZ q A (inb r2 hj hi hlt) hg hs hd
  subst hi
  exact ⟨T', h', ⟨_, X', Fr.snoc X' N ga, e'⟩, W, Avf.set ⟨cl, A, r1, r2, r3, r4⟩ W (fits_nar_byte _), st⟩
theorem Sd.stC (X : Sd n0 p l e R s m args below meth c T h k n) (hx : p.tables.exec = Jvm.exec) (hZ : Z.Warmed39 s.vm) {a : Addr} {kc : ClassId} {sz : Nat} {f : Nat → Value} (F : Avf Z h a kc .char sz f) (ga : n0 ≤ a) {j x : Int32} (hj : ¬ j < 0) {i : Nat} (hi : j.toNatClampNeg = i) (hlt : i < sz)
    {g : JFrame} (hg : g.method = m) {rest : List Value} (hs : g.stack = .int x :: .int j :: .ref a :: rest) (hd : decode c.code g.pc = .ok (.castore, 1)) :
    ∃ T' h', Sd n0 p l e R s m args below meth c T' h' k n ∧ Wr h h' a i (.int (nar .char x)) ∧ Avf Z h' a kc .char sz (fun t => if t = i then .int (nar .char x) else f t) ∧ ∀ target, Steps p.tables e below (T'.setTop { g with pc := g.pc + 1, stack := rest }) target → Steps p.tables e below (T.setTop g) target := by
  obtain ⟨L, X, N, q⟩ := X
  obtain ⟨cl, A, r1, r2, r3, r4⟩ := F
  obtain ⟨T', h', X', e', W, st⟩ := Jvm.RoadKit.stC X hx hZ q A (inb r2 hj hi hlt) hg hs hd
  subst hi
  exact ⟨T', h', ⟨_, X', Fr.snoc X' N ga, e'⟩, W, Avf.set ⟨cl, A, r1, r2, r3, r4⟩ W (fits_nar_char _), st⟩
theorem Sd.newRA (X : Sd n0 p l e R s m args below meth c T h k n) (hx : p.tables.exec = Jvm.exec) (hZ : Z.Warmed39 s.vm) {own C : String} {ty : FieldType} {index : Nat} (hown : s.vm.findClass own = some m.cls) (hC : (FieldType.array ty).toString = C) (w1 : (Cond.classLink own index C).before a0 Z = true) (w2 : (Cond.arrayOver (.array ty)).before a0 Z = true)
    {g : JFrame} (hg : g.method = m) (hd : decode c.code g.pc = .ok (.anewarray index, 3)) {z : Int32} {rest : List Value} (hs : g.stack = .int z :: rest)
    (hz : ¬ z < 0) {sz cap k' n' : Nat} (hsz : z.toNatClampNeg = sz) (hcap : sz ≤ cap) (hb : cap * 8 ≤ 536870912) (hk : k + 1 = k') (hn : n + cap = n') (hc : k' ≤ R.cells) (hl : n' ≤ R.slots) {ad : String} (had : "[" ++ C = ad) :
    ∃ T' h' kc a, Sd n0 p l e R s m args below meth c T' h' k' n' ∧ a = h.size ∧ Ext h h' ∧ Exa Z h' a ad ∧ Avf Z h' a kc (.array ty) sz (fun _ => .null) ∧ OvrA Z kc ty C ∧
      ∀ target, Steps p.tables e below (T'.setTop { g with pc := g.pc + 3, stack := .ref a :: rest }) target → Steps p.tables e below (T.setTop g) target := by
  subst hk hn hsz
  obtain ⟨L, X, N, q⟩ := X
  obtain ⟨T', h', kc, X', e', E, A, Ex, O, st⟩ := Jvm.RoadKit.newRA X hx hZ hown hC w1 w2 q hg hd hs hz hcap hb hc hl had
  exact ⟨T', h', kc, _, ⟨L, X', N, e'⟩, rfl, E, Ex, ⟨_, A, rfl, sz_new _ _ _, (back32 hz).2, fun i hi => ⟨by simp [newA, hi, defaultValue], rfl⟩⟩, O, st⟩
theorem Sd.stR (X : Sd n0 p l e R s m args below meth c T h k n) (hx : p.tables.exec = Jvm.exec) (hZ : Z.Warmed39 s.vm) {a : Addr} {kc : ClassId} {ty : FieldType} {sz : Nat} {f : Nat → Value} (F : Avf Z h a kc ty sz f) (ga : n0 ≤ a) (hty : ty.isReference = true) {j : Int32} {v : Value} (hv : v.isRef = true) (St : Sto Z h a v) (hj : ¬ j < 0) {i : Nat} (hi : j.toNatClampNeg = i) (hlt : i < sz)
    {g : JFrame} (hg : g.method = m) {rest : List Value} (hs : g.stack = v :: .int j :: .ref a :: rest) (hd : decode c.code g.pc = .ok (.aastore, 1)) :
    ∃ T' h', Sd n0 p l e R s m args below meth c T' h' k n ∧ Wr h h' a i v ∧ Avf Z h' a kc ty sz (fun t => if t = i then v else f t) ∧ ∀ target, Steps p.tables e below (T'.setTop { g with pc := g.pc + 1, stack := rest }) target → Steps p.tables e below (T.setTop g) target := by
  obtain ⟨L, X, N, q⟩ := X
  obtain ⟨cl, A, r1, r2, r3, r4⟩ := F
  obtain ⟨T', h', X', e', W, st⟩ := Jvm.RoadKit.stR X hx hZ q A (inb r2 hj hi hlt) hty St hg hs hd
  subst hi
  have hf : fits ty v = true := by cases ty <;> first | (cases hty; done) | (cases v <;> first | rfl | (cases hv; done))
  exact ⟨T', h', ⟨_, X', Fr.snoc X' N ga, e'⟩, W, Avf.set ⟨cl, A, r1, r2, r3, r4⟩ W hf, st⟩
theorem sto_avf {h : Heap} {a y : Addr} {kc : ClassId} {ty ty' : FieldType} {sz : Nat} {f : Nat → Value} {C : String} (F : Avf Z h a kc ty sz f) (O : OvrA Z kc ty' C) (I : Ins Z h y C true) : Sto Z h a (.ref y) := by
  obtain ⟨cl, A, r1, -⟩ := F
  exact Sto.ofVA A r1 O I
/-! calls -/
theorem Sd.callS (X : Sd n0 p l e R s m args below meth c T h k n) (hx : p.tables.exec = Jvm.exec) (hZ : Z.Warmed39 s.vm) {own : String} {index : Nat} {y : MethodName} {bytes : ByteArray} {maxL : Nat} {ret : Option FieldType} {rm : Room} {as' : Array Value} {Q : Option Value → Heap → Prop}
    (hown : s.vm.findClass own = some m.cls) (w1 : (Cond.methodLink own index y).before a0 Z = true) (w2 : (Cond.static y).before a0 Z = true) (w3 : (Cond.initialized y.cls).before a0 Z = true) (w4 : (Cond.code y bytes maxL ret).before a0 Z = true) (hy : y.cls ≠ "java/lang/invoke/MethodHandle" ∧ y.cls ≠ "java/lang/invoke/VarHandle")
    (hM : Met l Z n0 y bytes maxL ret [] rm as' h Q) {g : JFrame} (hg : g.method = m) (hsize : g.locals.size = c.maxLocals) {argsL rest : List Value} (hlen : ∀ sig, parseMethodDescriptor y.desc = some sig → argsL.length = sig.parameters.length)
    (hstack : g.stack = argsL.reverse ++ rest) (hd : decode c.code g.pc = .ok (.invokestatic index, 3)) (has : argsL.toArray = as') (hf : rm.frames + 1 ≤ R.frames) (hl : 2 * g.monitorRoom + (rest.map fun v => v.category).sum + (maxL + 11) + rm.locals ≤ R.locals)
    {k' n' : Nat} (hk : k + rm.cells = k') (hn : n + rm.slots = n') (hc : k' ≤ R.cells) (hs : n' ≤ R.slots) :
    ∃ v T' h', Sd n0 p l e R s m args below meth c T' h' k' n' ∧ Q v h' ∧ ∀ target, Steps p.tables e below (T'.setTop { g with pc := g.pc + 3, stack := v.toList ++ rest }) target → Steps p.tables e below (T.setTop g) target := by
  subst hk hn
  obtain ⟨L, X, N, q⟩ := X
  obtain ⟨v, _, ⟨T', L', k1, n1⟩, -, X', ⟨Lc, hQ, q1, q2, q3⟩, st⟩ := Jvm.LawKit.callS X hx (y := y) hown (mvT hZ w1) (mvT hZ w2) (mvT hZ w3) (mvT hZ w4) hy (backOf (Q := fun v h L => Q v h ∧ Fr n0 L) hM hZ w4 w3 hf hl) hg hsize hlen hstack (Nat.le_refl _) hd (fun _ _ => ⟨has, q, hc, hs⟩)
  dsimp only [Pt.U, Pt.locs, Pt.cells, Pt.slots] at X' q1 q2 q3 st hQ
  subst q1 q2 q3
  exact ⟨v, T', _, ⟨_, X', Fr.app N hQ.2, rfl⟩, hQ.1, st⟩
theorem Sd.callI (X : Sd n0 p l e R s m args below meth c T h k n) (hx : p.tables.exec = Jvm.exec) (hZ : Z.Warmed39 s.vm) {own : String} {index : Nat} {y : MethodName} {bytes : ByteArray} {maxL : Nat} {rm : Room} {as' : Array Value} {Q : Option Value → Heap → Prop} (hy1 : y.name = "<init>")
    (hown : s.vm.findClass own = some m.cls) (w1 : (Cond.methodLink own index y).before a0 Z = true) (w2 : (Cond.instanceMethod y).before a0 Z = true) (w3 : (Cond.initialized y.cls).before a0 Z = true) (w4 : (Cond.code y bytes maxL none).before a0 Z = true) (hy : y.cls ≠ "java/lang/invoke/MethodHandle" ∧ y.cls ≠ "java/lang/invoke/VarHandle")
    (hM : Met l Z n0 y bytes maxL none [] rm as' h Q) {g : JFrame} (hg : g.method = m) (hsize : g.locals.size = c.maxLocals) {a : Addr} {argsL rest : List Value} (hlen : ∀ sig, parseMethodDescriptor y.desc = some sig → argsL.length = sig.parameters.length)
    (hstack : g.stack = argsL.reverse ++ .ref a :: rest) (hd : decode c.code g.pc = .ok (.invokespecial index, 3)) (has : (.ref a :: argsL).toArray = as') (hf : rm.frames + 1 ≤ R.frames) (hl : 2 * g.monitorRoom + (rest.map fun v => v.category).sum + (maxL + 11) + rm.locals ≤ R.locals)
    {k' n' : Nat} (hk : k + rm.cells = k') (hn : n + rm.slots = n') (hc : k' ≤ R.cells) (hs : n' ≤ R.slots) :
    ∃ v T' h', Sd n0 p l e R s m args below meth c T' h' k' n' ∧ Q v h' ∧ ∀ target, Steps p.tables e below (T'.setTop { g with pc := g.pc + 3, stack := v.toList ++ rest }) target → Steps p.tables e below (T.setTop g) target := by
  subst hk hn
  obtain ⟨L, X, N, q⟩ := X
  obtain ⟨v, _, ⟨T', L', k1, n1⟩, -, X', ⟨Lc, hQ, q1, q2, q3⟩, st⟩ := X.specialBack hx (y := y) hy1 hown (mvT hZ w1) (mvT hZ w2) (mvT hZ w4) hy (backOf (Q := fun v h L => Q v h ∧ Fr n0 L) hM hZ w4 w3 hf hl) hg hsize (Steps.refl _) hlen hstack (Nat.le_refl _) hd (fun _ _ => ⟨has, q, hc, hs⟩)
  dsimp only [Pt.U, Pt.locs, Pt.cells, Pt.slots] at X' q1 q2 q3 st hQ
  subst q1 q2 q3
  exact ⟨v, T', _, ⟨_, X', Fr.app N hQ.2, rfl⟩, hQ.1, fun _ kt => st.trans kt⟩
theorem Sd.callV (X : Sd n0 p l e R s m args below meth c T h k n) (hx : p.tables.exec = Jvm.exec) (hZ : Z.Warmed39 s.vm) {own C : String} {index : Nat} {y z : MethodName} {bytes : ByteArray} {maxL : Nat} {ret : Option FieldType} {rm : Room} {as' : Array Value} {Q : Option Value → Heap → Prop}
    (hown : s.vm.findClass own = some m.cls) (w1 : (Cond.methodLink own index y).before a0 Z = true) (w2 : (Cond.declares y).before a0 Z = true) (hnf : NotFace s y) (w5 : (Cond.selects C y z).before a0 Z = true) (w6 : (Cond.instanceMethod z).before a0 Z = true) (w3 : (Cond.initialized z.cls).before a0 Z = true) (w4 : (Cond.code z bytes maxL ret).before a0 Z = true) (hy : y.cls ≠ "java/lang/invoke/MethodHandle" ∧ y.cls ≠ "java/lang/invoke/VarHandle")
    (hM : Met l Z n0 z bytes maxL ret [] rm as' h Q) {a : Addr} (E : Exa Z h a C) {g : JFrame} (hg : g.method = m) (hsize : g.locals.size = c.maxLocals) {argsL rest : List Value} (hlen : ∀ sig, parseMethodDescriptor y.desc = some sig → argsL.length = sig.parameters.length)
    (hstack : g.stack = argsL.reverse ++ .ref a :: rest) (hd : decode c.code g.pc = .ok (.invokevirtual index, 3)) (has : (.ref a :: argsL).toArray = as') (hf : rm.frames + 1 ≤ R.frames) (hl : 2 * g.monitorRoom + (rest.map fun v => v.category).sum + (maxL + 11) + rm.locals ≤ R.locals)
    {k' n' : Nat} (hk : k + rm.cells = k') (hn : n + rm.slots = n') (hc : k' ≤ R.cells) (hs : n' ≤ R.slots) :
    ∃ v T' h', Sd n0 p l e R s m args below meth c T' h' k' n' ∧ Q v h' ∧ ∀ target, Steps p.tables e below (T'.setTop { g with pc := g.pc + 3, stack := v.toList ++ rest }) target → Steps p.tables e below (T.setTop g) target := by
  subst hk hn
  obtain ⟨L, X, N, q⟩ := X
  obtain ⟨cB, kB, b1, b2, b3⟩ := isOf (T := T) hZ q E
  obtain ⟨v, _, ⟨T', L', k1, n1⟩, -, X', ⟨Lc, hQ, q1, q2, q3⟩, st⟩ := X.virtualBack hx (y := y) (z := z) hown (mvT hZ w1) (mvT hZ w2) hnf (mvT hZ w5) (mvT hZ w6) hy (backOf (Q := fun v h L => Q v h ∧ Fr n0 L) hM hZ w4 w3 hf hl) b1 b3 hg hsize (Steps.refl _) hlen hstack (Nat.le_refl _) hd (fun _ _ => ⟨has, q, hc, hs⟩)
  dsimp only [Pt.U, Pt.locs, Pt.cells, Pt.slots] at X' q1 q2 q3 st hQ
  subst q1 q2 q3
  exact ⟨v, T', _, ⟨_, X', Fr.app N hQ.2, rfl⟩, hQ.1, fun _ kt => st.trans kt⟩
theorem Sd.callP (X : Sd n0 p l e R s m args below meth c T h k n) (hx : p.tables.exec = Jvm.exec) (hZ : Z.Warmed39 s.vm) {own C : String} {index : Nat} {y : MethodName} {bytes : ByteArray} {maxL : Nat} {ret : Option FieldType} {rm : Room} {as' : Array Value} {Q : Option Value → Heap → Prop}
    (hown : s.vm.findClass own = some m.cls) (w1 : (Cond.methodLink own index y).before a0 Z = true) (w6 : (Cond.instanceMethod y).before a0 Z = true) (w5 : (Cond.selects y.cls y y).before a0 Z = true) (w7 : (Cond.privateMethod y).before a0 Z = true) (w3 : (Cond.initialized y.cls).before a0 Z = true) (w4 : (Cond.code y bytes maxL ret).before a0 Z = true) (hy : y.cls ≠ "java/lang/invoke/MethodHandle" ∧ y.cls ≠ "java/lang/invoke/VarHandle")
    (hM : Met l Z n0 y bytes maxL ret [] rm as' h Q) {a : Addr} (E : Exa Z h a C) {g : JFrame} (hg : g.method = m) (hsize : g.locals.size = c.maxLocals) {argsL rest : List Value} (hlen : ∀ sig, parseMethodDescriptor y.desc = some sig → argsL.length = sig.parameters.length)
    (hstack : g.stack = argsL.reverse ++ .ref a :: rest) (hd : decode c.code g.pc = .ok (.invokevirtual index, 3)) (has : (.ref a :: argsL).toArray = as') (hf : rm.frames + 1 ≤ R.frames) (hl : 2 * g.monitorRoom + (rest.map fun v => v.category).sum + (maxL + 11) + rm.locals ≤ R.locals)
    {k' n' : Nat} (hk : k + rm.cells = k') (hn : n + rm.slots = n') (hc : k' ≤ R.cells) (hs : n' ≤ R.slots) :
    ∃ v T' h', Sd n0 p l e R s m args below meth c T' h' k' n' ∧ Q v h' ∧ ∀ target, Steps p.tables e below (T'.setTop { g with pc := g.pc + 3, stack := v.toList ++ rest }) target → Steps p.tables e below (T.setTop g) target := by
  subst hk hn
  obtain ⟨L, X, N, q⟩ := X
  obtain ⟨cl, b1, b2⟩ := E.cell
  obtain ⟨v, _, ⟨T', L', k1, n1⟩, -, X', ⟨Lc, hQ, q1, q2, q3⟩, st⟩ := X.privateBack hx (y := y) hown (mvT hZ w1) (mvT hZ w6) (mvT hZ w5) (Cond.privateMethod_at (mvP hZ w7 (args := #[]))) (mvT hZ w4) hy (backOf (Q := fun v h L => Q v h ∧ Fr n0 L) hM hZ w4 w3 hf hl) hg hsize (Steps.refl _) (a := a) (by rw [q]; exact b1) b2 hlen hstack (Nat.le_refl _) hd (fun _ _ => ⟨has, q, hc, hs⟩)
  dsimp only [Pt.U, Pt.locs, Pt.cells, Pt.slots] at X' q1 q2 q3 st hQ
  subst q1 q2 q3
  exact ⟨v, T', _, ⟨_, X', Fr.app N hQ.2, rfl⟩, hQ.1, fun _ kt => st.trans kt⟩
theorem Sd.callU (X : Sd n0 p l e R s m args below meth c T h k n) (hx : p.tables.exec = Jvm.exec) (hZ : Z.Warmed39 s.vm) {own C owner : String} {index : Nat} {y z : MethodName} {bytes : ByteArray} {maxL : Nat} {ret : Option FieldType} {rm : Room} {as' : Array Value} {Q : Option Value → Heap → Prop}
    (hown : s.vm.findClass own = some m.cls) (w1 : (Cond.methodLink own index y).before a0 Z = true) (w2 : (Cond.sameMethod y.cls owner y.name y.desc).before a0 Z = true) (w7 : (Cond.declares ⟨owner, y.name, y.desc⟩).before a0 Z = true) (ho : owner ≠ "java/lang/invoke/MethodHandle" ∧ owner ≠ "java/lang/invoke/VarHandle") (w5 : (Cond.selects C y z).before a0 Z = true) (w6 : (Cond.instanceMethod z).before a0 Z = true) (w3 : (Cond.initialized z.cls).before a0 Z = true) (w4 : (Cond.code z bytes maxL ret).before a0 Z = true)
    (hM : Met l Z n0 z bytes maxL ret [] rm as' h Q) {a : Addr} (E : Exa Z h a C) {g : JFrame} (hg : g.method = m) (hsize : g.locals.size = c.maxLocals) {argsL rest : List Value} (hlen : ∀ sig, parseMethodDescriptor y.desc = some sig → argsL.length = sig.parameters.length)
    (hstack : g.stack = argsL.reverse ++ .ref a :: rest) (hd : decode c.code g.pc = .ok (.invokevirtual index, 3)) (has : (.ref a :: argsL).toArray = as') (hf : rm.frames + 1 ≤ R.frames) (hl : 2 * g.monitorRoom + (rest.map fun v => v.category).sum + (maxL + 11) + rm.locals ≤ R.locals)
    {k' n' : Nat} (hk : k + rm.cells = k') (hn : n + rm.slots = n') (hc : k' ≤ R.cells) (hs : n' ≤ R.slots) :
    ∃ v T' h', Sd n0 p l e R s m args below meth c T' h' k' n' ∧ Q v h' ∧ ∀ target, Steps p.tables e below (T'.setTop { g with pc := g.pc + 3, stack := v.toList ++ rest }) target → Steps p.tables e below (T.setTop g) target := by
  subst hk hn
  obtain ⟨L, X, N, q⟩ := X
  obtain ⟨cB, kB, b1, b2, b3⟩ := isOf (T := T) hZ q E
  obtain ⟨v, _, ⟨T', L', k1, n1⟩, -, X', ⟨Lc, hQ, q1, q2, q3⟩, st⟩ := X.virtualBackUp hx (x := y) (y := z) hown (mvT hZ w1) (mvT hZ w2) (mvT hZ w7) ho (mvT hZ w5) (mvT hZ w6) (backOf (Q := fun v h L => Q v h ∧ Fr n0 L) hM hZ w4 w3 hf hl) b1 b3 hg hsize (Steps.refl _) hlen hstack (Nat.le_refl _) hd (fun _ _ => ⟨has, q, hc, hs⟩)
  dsimp only [Pt.U, Pt.locs, Pt.cells, Pt.slots] at X' q1 q2 q3 st hQ
  subst q1 q2 q3
  exact ⟨v, T', _, ⟨_, X', Fr.app N hQ.2, rfl⟩, hQ.1, fun _ kt => st.trans kt⟩
theorem Sd.instNo (X : Sd n0 p l e R s m args below meth c T h k n) (hx : p.tables.exec = Jvm.exec) (hZ : Z.Warmed39 s.vm) {own K C : String} {index : Nat} (hown : s.vm.findClass own = some m.cls) (w : (Cond.classLink own index K).before a0 Z = true) {a : Addr} (E : Exa Z h a C) (F : ∃ c t, Z.vm.findClass C = some c ∧ Z.vm.findClass K = some t ∧ Z.vm.assignable c t = false)
    {g : JFrame} (hg : g.method = m) {rest : List Value} (hs : g.stack = .ref a :: rest) (hd : decode c.code g.pc = .ok (.instanceof index, 3)) :
    ∃ T', Sd n0 p l e R s m args below meth c T' h k n ∧ ∀ target, Steps p.tables e below (T'.setTop { g with pc := g.pc + 3, stack := .int 0 :: rest }) target → Steps p.tables e below (T.setTop g) target := by
  obtain ⟨L, X, N, q⟩ := X
  obtain ⟨T', X', e', st⟩ := Jvm.RoadKit.instNo X hx hZ hown w q E F hg hs hd
  exact ⟨T', ⟨L, X', N, e'⟩, st⟩
theorem ns_root {O K : String} {kk : Nat} (w : (Cond.noSuperclass O).before a0 Z = true) (wk : (Cond.instantiable K kk).before a0 Z = true) (hn : O ≠ K) : NS Z O K := by
  obtain ⟨c, k, h1, h2, h3, -, -⟩ := Cond.noSuperclass_spec w
  obtain ⟨t, k2, g1, -⟩ := Cond.instantiable_spec wk
  have ne := ids_ne h1 g1 hn
  refine ⟨c, t, h1, g1, fun fuel => ?_⟩
  cases fuel with
  | zero => rfl
  | succ f => simp [Vm.isSubclassAux, ne, h2, h3]
theorem ns_no {C K : String} {k1 k2 : Nat} (w : (Cond.instantiable C k1).before a0 Z = true) (wk : (Cond.instantiable K k2).before a0 Z = true) (n : NS Z C K) (hn : C ≠ K) : ∃ c t, Z.vm.findClass C = some c ∧ Z.vm.findClass K = some t ∧ Z.vm.assignable c t = false := by
  obtain ⟨c, t, h0, g0, n3⟩ := n
  obtain ⟨c', kc, h1, h2, h3, h4, -⟩ := Cond.instantiable_spec w
  obtain ⟨t', kt, g1, g2, g3, g4, -⟩ := Cond.instantiable_spec wk
  cases h0.symm.trans h1
  cases g0.symm.trans g1
  have ne := ids_ne h0 g0 hn
  refine ⟨c, t, h0, g0, ?_⟩
  have g5 : kt.isInterface = false := by simp at g4; exact g4.1
  show Z.vm.assignableAux (255 + 1) c t = false
  simp [Vm.assignableAux, ne, h2, g2, h3, g3, g5, Vm.isSubclass, n3]
theorem keep_ext {h h' : Heap} (K : Keep h h' []) : Ext h h' := ⟨K.1, fun x c q => K.2.1 x c q nin0⟩
theorem Exa.plain {h : Heap} {a : Addr} {C : String} (F : Exa Z h a C) : ∀ cell : Cell, h[a]? = some cell → cell.vm.isStatics = false := fun cell hc => by
  obtain ⟨c, k, h1, -, -, h4, -⟩ := F
  cases h1.symm.trans hc; exact h4
theorem Avf.plain {h : Heap} {a : Addr} {kc : ClassId} {ty : FieldType} {sz : Nat} {f : Nat → Value} (F : Avf Z h a kc ty sz f) : ∀ cell : Cell, h[a]? = some cell → cell.vm.isStatics = false := fun cell hc => by
  obtain ⟨cl, A, -⟩ := F
  cases A.1.symm.trans hc; exact Arr.plain A
theorem Sta.keepN {h h' : Heap} {C f d : String} {v : Value} {ws : List Addr} (F : Sta Z h C f d v) (K : Keep h h' ws) (q : ∀ x ∈ ws, ∀ cell : Cell, h[x]? = some cell → cell.vm.isStatics = false) : Sta Z h' C f d v := by
  obtain ⟨cf, i, k, fl, st, cell, h1, h2, h3, h4, h5, h6, h7⟩ := F
  exact ⟨cf, i, k, fl, st, cell, h1, h2, h3, h4, K.2.1 st cell h5 (fun z => by rw [q st z cell h5] at h6; cases h6), h6, h7⟩
/-! at the start -/
theorem sta_exa {args : Array Value} {C f d K : String} (hx : (Cond.exactly (.static C f d) K).value args Z none Z [] = some true) (wi : (Cond.initialized C).before args Z = true) (wl : (Cond.laysStatic C f d).before args Z = true) : ∃ a, (Term.static C f d).eval args Z none [] Z = some (.ref a) ∧ Sta Z Z.heap C f d (.ref a) ∧ Exa Z Z.heap a K := by
  obtain ⟨a, ev⟩ := exa_v hx
  exact ⟨a, ev, Sta.start ev (Or.inr ⟨wi, wl⟩), Exa.start ev hx⟩
theorem sta_arr {args : Array Value} {C f d : String} {ty : FieldType} (hx : (Cond.arrayOf (.static C f d) ty).value args Z none Z [] = some true) (wi : (Cond.initialized C).before args Z = true) (wl : (Cond.laysStatic C f d).before args Z = true) : ∃ a cl, (Term.static C f d).eval args Z none [] Z = some (.ref a) ∧ Sta Z Z.heap C f d (.ref a) ∧ Arr Z Z.heap a cl ty := by
  obtain ⟨a, ev⟩ := arr_v hx
  obtain ⟨cl, A⟩ := Arr.start ev hx
  exact ⟨a, cl, ev, Sta.start ev (Or.inr ⟨wi, wl⟩), A⟩
theorem int_of_eq {args : Array Value} {t : Term} {kk : Int32} (h : (Cond.eq t (.int kk)).value args Z none Z [] = some true) : t.eval args Z none [] Z = some (.int kk) := by
  obtain ⟨x, y, h1, h2, k1, k2⟩ := cmp_v (Or.inl h)
  cases (Option.some.inj h2 : Value.int kk = y)
  obtain ⟨z, rfl⟩ : ∃ z, x = .int z := k2
  have q : z = kk := by simpa [Cond.value, h1, Term.eval] using h
  rw [h1, q]
theorem fld_eq {args : Array Value} {t : Term} {C f d : String} {a : Addr} {kk : Int32} (ht : t.eval args Z none [] Z = some (.ref a)) (h : (Cond.eq (.field t C f d) (.int kk)).value args Z none Z [] = some true) : Fld Z Z.heap a C f d (.int kk) :=
  Fld.start ((fld_at ht).symm.trans (int_of_eq h))
theorem ref_of_eq {args : Array Value} {t u : Term} {a : Addr} (hu : u.eval args Z none [] Z = some (.ref a)) (h : (Cond.eq t u).value args Z none Z [] = some true) : t.eval args Z none [] Z = some (.ref a) := by
  obtain ⟨x, y, h1, h2, k1, k2⟩ := cmp_v (Or.inl h)
  cases (Option.some.inj (hu.symm.trans h2) : Value.ref a = y)
  have kx : x.isRef = true := k2.2
  rw [h1, gotT (eq_R h1 hu kx rfl) h]
theorem avf_len {args : Array Value} {t : Term} {a : Addr} {cl : Cell} {ty : FieldType} {z : Int32} {sz : Nat} (A : Arr Z Z.heap a cl ty) (ev : t.eval args Z none [] Z = some (.ref a)) (h : (Term.length t).eval args Z none [] Z = some (.int z)) (hz : z.toNatClampNeg = sz) : cl.slots.size = sz := by
  have ha : Z.arrayAt? a = some cl := A.fin (Vm.Alike.refl _)
  simp only [Term.eval, ev, ha, Option.bind_eq_bind, Option.bind_some] at h
  split at h
  · rename_i hl
    have e : cl.slots.size.toInt32 = z := by simpa using h
    rw [← hz, ← e]
    have q := len_toInt hl
    simp only [Int32.toNatClampNeg, q]; omega
  · cases h
theorem iremS {g : JFrame} {target : State} (X : Sd n0 p l e R s m args below meth c T h k n) (hx : p.tables.exec = Jvm.exec) (hg : g.method = m) {x y : Int32} {rest : List Value} (hd : decode c.code g.pc = .ok (.irem, 1)) (hs : g.stack = .int y :: .int x :: rest) (hy : y ≠ 0)
    (hr : Steps p.tables e below (T.setTop { g with pc := g.pc + 1, stack := .int (x % y) :: rest }) target) : Steps p.tables e below (T.setTop g) target := by
  obtain ⟨L, X, -⟩ := X; exact iremM X hx hg hd hs hy hr
end Sds
end Jvm.RoadKit
namespace Jvm.Pilot.@@N@@
open Jvm Jvm.ClassFile Sem Op Lib Jvm.Free Jvm.Stand Jvm.LawKit Jvm.RoadKit Bundle Jvm.Pilot.@@N@@.Jvm.D
theorem tw {a0 : Array Value} {Z : State} (hw : ∀ d ∈ tables_1, d.before a0 Z = true) (i : Nat) {d : Jvm.Cond} (h : tables_1[i]? = some d) : d.before a0 Z = true := hw _ (List.mem_of_getElem? h)
def own_b (q : Int64) (i : Int32) : Int32 := ((((q.toUInt64 >>> (((8 : Int32) * i) &&& 0x3f).toInt64.toUInt64).toInt64)).toInt32).toInt8.toInt32
def own_fi (q : Int64) (t : Nat) : Int32 := if t = ((7 : Int32).toNatClampNeg) then own_b q (7 : Int32) else (if t = ((6 : Int32).toNatClampNeg) then own_b q (6 : Int32) else (if t = ((5 : Int32).toNatClampNeg) then own_b q (5 : Int32) else (if t = ((4 : Int32).toNatClampNeg) then own_b q (4 : Int32) else (if t = ((3 : Int32).toNatClampNeg) then own_b q (3 : Int32) else (if t = ((2 : Int32).toNatClampNeg) then own_b q (2 : Int32) else (if t = ((1 : Int32).toNatClampNeg) then own_b q (1 : Int32) else (if t = ((0 : Int32).toNatClampNeg) then own_b q (0 : Int32) else (0))))))))
theorem own_m9 (x : Int32) : ∃ k : Nat, k < 9 ∧ (x &&& (2147483647 : Int32)) % (9 : Int32) = k.toInt32 := by
  have q := c_mask x 2147483647 31 (by decide) (by decide)
  have r := Int32.toInt_mod (x &&& (2147483647 : Int32)) 9
  have e3 : (9 : Int32).toInt = 9 := rfl
  rw [e3, Int.tmod_eq_emod_of_nonneg (by omega)] at r
  refine ⟨((x &&& (2147483647 : Int32)) % (9 : Int32)).toInt.toNat, by omega, ?_⟩
  rw [← Int32.toInt_inj, len_toInt (by omega)]
  omega
theorem own_ni {k : Nat} (h : k < 32) : k.toInt32.toInt = k := len_toInt (by omega)
theorem own_n0 {k : Nat} (h : k < 9) : ¬ k.toInt32 < 0 := by
  rw [Int32.lt_iff_toInt_lt, own_ni (by omega)]
  have : (0 : Int32).toInt = 0 := rfl
  omega
theorem own_nc {k : Nat} (h : k < 9) : k.toInt32.toNatClampNeg = k := by simp only [Int32.toNatClampNeg, own_ni (show k < 32 by omega)]; omega
theorem own_8 {k : Nat} (h : k < 9) : (k.toInt32 + (8 : Int32)).toInt = k + 8 := by
  have a := c_iadd k.toInt32 8
  have b := rng32 (k.toInt32 + (8 : Int32))
  have e : (8 : Int32).toInt = 8 := rfl
  rw [e, own_ni (by omega)] at a
  omega
theorem own_len {k : Nat} (h : k < 9) : (k + 8).toInt32 = k.toInt32 + (8 : Int32) := by
  rw [← Int32.toInt_inj, own_8 h, own_ni (by omega)]
  omega
theorem own_lt {k : Nat} {i : Int32} (h : k < 9) (h0 : ¬ i < 0) (hi : i < k.toInt32) : i.toNatClampNeg < k := by
  rw [Int32.lt_iff_toInt_lt, own_ni (by omega)] at hi
  rw [Int32.lt_iff_toInt_lt] at h0
  have : (0 : Int32).toInt = 0 := rfl
  simp only [Int32.toNatClampNeg]; omega
theorem own_nlt {k : Nat} {i : Int32} (h : k < 9) (h0 : ¬ i < 0) (hi : ¬ i < k.toInt32) : ¬ i.toNatClampNeg < k := by
  rw [Int32.lt_iff_toInt_lt, own_ni (by omega)] at hi
  rw [Int32.lt_iff_toInt_lt] at h0
  have : (0 : Int32).toInt = 0 := rfl
  simp only [Int32.toNatClampNeg]; omega
theorem own_lt8 {k : Nat} {i : Int32} (h : k < 9) (h0 : ¬ i < 0) (hi : i < k.toInt32 + (8 : Int32)) : i.toNatClampNeg < k + 8 := by
  rw [Int32.lt_iff_toInt_lt, own_8 h] at hi
  rw [Int32.lt_iff_toInt_lt] at h0
  have : (0 : Int32).toInt = 0 := rfl
  simp only [Int32.toNatClampNeg]; omega
theorem d2_0 : decode method_4_code 0 = .ok (.iload_n 2, 1) := by decide +kernel
theorem d2_1 : decode method_4_code 1 = .ok (.iload_n 1, 1) := by decide +kernel
theorem d2_2 : decode method_4_code 2 = .ok (.if_icmp .ge 14, 3) := by decide +kernel
theorem d2_5 : decode method_4_code 5 = .ok (.aload_n 0, 1) := by decide +kernel
theorem d2_6 : decode method_4_code 6 = .ok (.iload_n 2, 1) := by decide +kernel
theorem d2_7 : decode method_4_code 7 = .ok (.lload_n 3, 1) := by decide +kernel
theorem d2_8 : decode method_4_code 8 = .ok (.bipush 8, 2) := by decide +kernel
theorem d2_10 : decode method_4_code 10 = .ok (.iload_n 2, 1) := by decide +kernel
theorem d2_11 : decode method_4_code 11 = .ok (.imul, 1) := by decide +kernel
theorem d2_12 : decode method_4_code 12 = .ok (.lushr, 1) := by decide +kernel
theorem d2_13 : decode method_4_code 13 = .ok (.l2i, 1) := by decide +kernel
theorem d2_14 : decode method_4_code 14 = .ok (.i2b, 1) := by decide +kernel
theorem d2_15 : decode method_4_code 15 = .ok (.bastore, 1) := by decide +kernel
theorem d2_16 : decode method_4_code 16 = .ok (.return_, 1) := by decide +kernel
abbrev Rm2 : Room := { frames := 0, cells := 0, slots := 0, locals := 0 }
theorem pn0 : plainName "com/example/clio/clio/LayoutPastEntriesPinLaw" = true := by first | (simp [plainName, overriddenIn]; done) | decide +kernel
set_option maxRecDepth 65536 in
set_option maxHeartbeats 40000000 in
theorem rm2 (l : Launch) (Z : State) (a0 : Array Value) (hw : ∀ d ∈ tables_1, d.before a0 Z = true) (ws : List Jvm.Cond) (a1 : Addr) (p3 : Int32) (q4 : Int64) (nn : Nat) (kc : ClassId) (fi : Nat → Int32) (h0 : Heap) (n0 : Nat) (Z0 : n0 ≤ h0.size) (hk : nn < 9) (hi0 : ¬ p3 < 0) (g_a1 : n0 ≤ a1) (V_a : Avf Z h0 a1 kc .byte nn (fun t => (.int (fi t)))) :
    Met l Z n0 (⟨"com/example/clio/clio/LayoutPastEntriesPinLaw", "put", "([BIIJ)V"⟩ : MethodName) method_4_code 5 none ws Rm2 #[(.ref a1), (.int (nn.toInt32)), (.int p3), (.long q4)] h0 (fun v h => v = none ∧ Keep h0 h [a1] ∧ Avf Z h a1 kc .byte nn (fun t => (.int (if t = p3.toNatClampNeg then own_b q4 p3 else fi t)))) := by
  refine enter (Ls := #[.val (.ref a1), .val (.int (nn.toInt32)), .val (.int p3), .val (.long q4), .second]) (plainFor_of_name pn0) (fun m => by first | (simp [entryFrame, mkF, argsToLocals, Value.category]; done) | rfl) ?_
  intro p e s m below meth c T0 hx hby hml hown hnm hret hlk hZ X0
  have K0 := Keep.refl h0 [a1]
  show Go p.tables e below _ (T0.setTop (mkF m 0 #[.val (.ref a1), .val (.int (nn.toInt32)), .val (.int p3), .val (.long q4), .second] []))
  refine Go.by (fun _ => XS.iloadN X0.here hx rfl (hb hby d2_0) rfl) ?_
  show Go p.tables e below _ (T0.setTop (mkF m 1 #[.val (.ref a1), .val (.int (nn.toInt32)), .val (.int p3), .val (.long q4), .second] [(.int p3)]))
  refine Go.by (fun _ => XS.iloadN X0.here hx rfl (hb hby d2_1) rfl) ?_
  show Go p.tables e below _ (T0.setTop (mkF m 2 #[.val (.ref a1), .val (.int (nn.toInt32)), .val (.int p3), .val (.long q4), .second] [(.int (nn.toInt32)), (.int p3)]))
  by_cases hc2_1 : p3 < (nn.toInt32)
  · skip
    refine Go.by (fun _ => XS.icmpNo X0.here hx rfl (hb hby d2_2) rfl (tlt hc2_1).2.1) ?_
    show Go p.tables e below _ (T0.setTop (mkF m 5 #[.val (.ref a1), .val (.int (nn.toInt32)), .val (.int p3), .val (.long q4), .second] []))
    refine Go.by (fun _ => XS.aloadN X0.here hx rfl (hb hby d2_5) rfl rfl) ?_
    show Go p.tables e below _ (T0.setTop (mkF m 6 #[.val (.ref a1), .val (.int (nn.toInt32)), .val (.int p3), .val (.long q4), .second] [(.ref a1)]))
    refine Go.by (fun _ => XS.iloadN X0.here hx rfl (hb hby d2_6) rfl) ?_
    show Go p.tables e below _ (T0.setTop (mkF m 7 #[.val (.ref a1), .val (.int (nn.toInt32)), .val (.int p3), .val (.long q4), .second] [(.int p3), (.ref a1)]))
    refine Go.by (fun _ => XS.lloadN X0.here hx rfl (hb hby d2_7) rfl) ?_
    show Go p.tables e below _ (T0.setTop (mkF m 8 #[.val (.ref a1), .val (.int (nn.toInt32)), .val (.int p3), .val (.long q4), .second] [(.long q4), (.int p3), (.ref a1)]))
    refine Go.by (fun _ => XS.bipush X0.here hx rfl (hb hby d2_8)) ?_
    show Go p.tables e below _ (T0.setTop (mkF m 10 #[.val (.ref a1), .val (.int (nn.toInt32)), .val (.int p3), .val (.long q4), .second] [(.int (8 : Int32)), (.long q4), (.int p3), (.ref a1)]))
    refine Go.by (fun _ => XS.iloadN X0.here hx rfl (hb hby d2_10) rfl) ?_
    show Go p.tables e below _ (T0.setTop (mkF m 11 #[.val (.ref a1), .val (.int (nn.toInt32)), .val (.int p3), .val (.long q4), .second] [(.int p3), (.int (8 : Int32)), (.long q4), (.int p3), (.ref a1)]))
    refine Go.by (fun _ => XS.imul X0.here hx rfl (hb hby d2_11) rfl) ?_
    show Go p.tables e below _ (T0.setTop (mkF m 12 #[.val (.ref a1), .val (.int (nn.toInt32)), .val (.int p3), .val (.long q4), .second] [(.int ((8 : Int32) * p3)), (.long q4), (.int p3), (.ref a1)]))
    refine Go.by (fun _ => XS.lushr X0.here hx rfl (hb hby d2_12) rfl) ?_
    show Go p.tables e below _ (T0.setTop (mkF m 13 #[.val (.ref a1), .val (.int (nn.toInt32)), .val (.int p3), .val (.long q4), .second] [(.long ((q4.toUInt64 >>> (((8 : Int32) * p3) &&& 0x3f).toInt64.toUInt64).toInt64)), (.int p3), (.ref a1)]))
    refine Go.by (fun _ => XS.l2i X0.here hx rfl (hb hby d2_13) rfl) ?_
    show Go p.tables e below _ (T0.setTop (mkF m 14 #[.val (.ref a1), .val (.int (nn.toInt32)), .val (.int p3), .val (.long q4), .second] [(.int (((q4.toUInt64 >>> (((8 : Int32) * p3) &&& 0x3f).toInt64.toUInt64).toInt64).toInt32)), (.int p3), (.ref a1)]))
    refine Go.by (fun _ => XS.i2b X0.here hx rfl (hb hby d2_14) rfl) ?_
    show Go p.tables e below _ (T0.setTop (mkF m 15 #[.val (.ref a1), .val (.int (nn.toInt32)), .val (.int p3), .val (.long q4), .second] [(.int ((((q4.toUInt64 >>> (((8 : Int32) * p3) &&& 0x3f).toInt64.toUInt64).toInt64).toInt32).toInt8.toInt32)), (.int p3), (.ref a1)]))
    obtain ⟨T2, h2, X2, W2, V2, st2⟩ := X0.stB hx hZ V_a g_a1 hi0 (i := (p3.toNatClampNeg)) rfl (own_lt hk hi0 hc2_1) (g := (mkF m 15 #[.val (.ref a1), .val (.int (nn.toInt32)), .val (.int p3), .val (.long q4), .second] [(.int ((((q4.toUInt64 >>> (((8 : Int32) * p3) &&& 0x3f).toInt64.toUInt64).toInt64).toInt32).toInt8.toInt32)), (.int p3), (.ref a1)])) rfl rfl (hb hby d2_15)
    have f3_29 := K0.wr W2 (Or.inl (List.mem_of_getElem? (i := 0) rfl))
    have Zs3 : n0 ≤ h2.size := by rw [W2.size]; exact Z0
    refine Go.by st2 ?_
    show Go p.tables e below _ (T2.setTop (mkF m 16 #[.val (.ref a1), .val (.int (nn.toInt32)), .val (.int p3), .val (.long q4), .second] []))
    refine Go.ret0 X2 hx hlk hret (hb hby d2_16) (by decide) (by decide) ?_
    refine ⟨rfl, f3_29, Avf.cong V2 (fun i hi => ?_)⟩
    by_cases q : i = p3.toNatClampNeg <;> simp [q, own_b]
  · skip
    refine Go.by (fun _ => XS.icmpYes X0.here hx rfl (pc0 := 2) (pc' := 16) rfl (hb hby d2_2) rfl (flt hc2_1).2.1 (by decide) (by decide)) ?_
    show Go p.tables e below _ (T0.setTop (mkF m 16 #[.val (.ref a1), .val (.int (nn.toInt32)), .val (.int p3), .val (.long q4), .second] []))
    refine Go.ret0 X0 hx hlk hret (hb hby d2_16) (by decide) (by decide) ?_
    refine ⟨rfl, K0, Avf.cong V_a (fun i hi => ?_)⟩
    have q : ¬ i = p3.toNatClampNeg := fun q => own_nlt hk hi0 hc2_1 (q ▸ hi)
    simp [q]
theorem d1_0 : decode method_3_code 0 = .ok (.aload_n 0, 1) := by decide +kernel
theorem d1_1 : decode method_3_code 1 = .ok (.iload_n 1, 1) := by decide +kernel
theorem d1_2 : decode method_3_code 2 = .ok (.iconst 0, 1) := by decide +kernel
theorem d1_3 : decode method_3_code 3 = .ok (.lload_n 2, 1) := by decide +kernel
theorem d1_4 : decode method_3_code 4 = .ok (.invokestatic 27, 3) := by decide +kernel
theorem pd0 : parseMethodDescriptor "([BIIJ)V" = some ⟨[(.array .byte), .int, .int, .long], none⟩ := by decide +kernel
theorem d1_7 : decode method_3_code 7 = .ok (.aload_n 0, 1) := by decide +kernel
theorem d1_8 : decode method_3_code 8 = .ok (.iload_n 1, 1) := by decide +kernel
theorem d1_9 : decode method_3_code 9 = .ok (.iconst 1, 1) := by decide +kernel
theorem d1_10 : decode method_3_code 10 = .ok (.lload_n 2, 1) := by decide +kernel
theorem d1_11 : decode method_3_code 11 = .ok (.invokestatic 27, 3) := by decide +kernel
theorem d1_14 : decode method_3_code 14 = .ok (.aload_n 0, 1) := by decide +kernel
theorem d1_15 : decode method_3_code 15 = .ok (.iload_n 1, 1) := by decide +kernel
theorem d1_16 : decode method_3_code 16 = .ok (.iconst 2, 1) := by decide +kernel
theorem d1_17 : decode method_3_code 17 = .ok (.lload_n 2, 1) := by decide +kernel
theorem d1_18 : decode method_3_code 18 = .ok (.invokestatic 27, 3) := by decide +kernel
theorem d1_21 : decode method_3_code 21 = .ok (.aload_n 0, 1) := by decide +kernel
theorem d1_22 : decode method_3_code 22 = .ok (.iload_n 1, 1) := by decide +kernel
theorem d1_23 : decode method_3_code 23 = .ok (.iconst 3, 1) := by decide +kernel
theorem d1_24 : decode method_3_code 24 = .ok (.lload_n 2, 1) := by decide +kernel
theorem d1_25 : decode method_3_code 25 = .ok (.invokestatic 27, 3) := by decide +kernel
theorem d1_28 : decode method_3_code 28 = .ok (.aload_n 0, 1) := by decide +kernel
theorem d1_29 : decode method_3_code 29 = .ok (.iload_n 1, 1) := by decide +kernel
theorem d1_30 : decode method_3_code 30 = .ok (.iconst 4, 1) := by decide +kernel
theorem d1_31 : decode method_3_code 31 = .ok (.lload_n 2, 1) := by decide +kernel
theorem d1_32 : decode method_3_code 32 = .ok (.invokestatic 27, 3) := by decide +kernel
theorem d1_35 : decode method_3_code 35 = .ok (.aload_n 0, 1) := by decide +kernel
theorem d1_36 : decode method_3_code 36 = .ok (.iload_n 1, 1) := by decide +kernel
theorem d1_37 : decode method_3_code 37 = .ok (.iconst 5, 1) := by decide +kernel
theorem d1_38 : decode method_3_code 38 = .ok (.lload_n 2, 1) := by decide +kernel
theorem d1_39 : decode method_3_code 39 = .ok (.invokestatic 27, 3) := by decide +kernel
theorem d1_42 : decode method_3_code 42 = .ok (.aload_n 0, 1) := by decide +kernel
theorem d1_43 : decode method_3_code 43 = .ok (.iload_n 1, 1) := by decide +kernel
theorem d1_44 : decode method_3_code 44 = .ok (.bipush 6, 2) := by decide +kernel
theorem d1_46 : decode method_3_code 46 = .ok (.lload_n 2, 1) := by decide +kernel
theorem d1_47 : decode method_3_code 47 = .ok (.invokestatic 27, 3) := by decide +kernel
theorem d1_50 : decode method_3_code 50 = .ok (.aload_n 0, 1) := by decide +kernel
theorem d1_51 : decode method_3_code 51 = .ok (.iload_n 1, 1) := by decide +kernel
theorem d1_52 : decode method_3_code 52 = .ok (.bipush 7, 2) := by decide +kernel
theorem d1_54 : decode method_3_code 54 = .ok (.lload_n 2, 1) := by decide +kernel
theorem d1_55 : decode method_3_code 55 = .ok (.invokestatic 27, 3) := by decide +kernel
theorem d1_58 : decode method_3_code 58 = .ok (.return_, 1) := by decide +kernel
abbrev Rm1 : Room := { frames := 1, cells := 0, slots := 0, locals := 16 }
set_option maxRecDepth 65536 in
set_option maxHeartbeats 40000000 in
theorem rm1 (l : Launch) (Z : State) (a0 : Array Value) (hw : ∀ d ∈ tables_1, d.before a0 Z = true) (ws : List Jvm.Cond) (a1 : Addr) (q3 : Int64) (nn : Nat) (kc : ClassId) (h0 : Heap) (n0 : Nat) (Z0 : n0 ≤ h0.size) (hk : nn < 9) (g_a1 : n0 ≤ a1) (V_a : Avf Z h0 a1 kc .byte nn (fun t => (.int ((fun _ => 0) t)))) :
    Met l Z n0 (⟨"com/example/clio/clio/LayoutPastEntriesPinLaw", "fill", "([BIJ)V"⟩ : MethodName) method_3_code 4 none ws Rm1 #[(.ref a1), (.int (nn.toInt32)), (.long q3)] h0 (fun v h => v = none ∧ Keep h0 h [a1] ∧ Avf Z h a1 kc .byte nn (fun t => (.int (own_fi q3 t)))) := by
  refine enter (Ls := #[.val (.ref a1), .val (.int (nn.toInt32)), .val (.long q3), .second]) (plainFor_of_name pn0) (fun m => by first | (simp [entryFrame, mkF, argsToLocals, Value.category]; done) | rfl) ?_
  intro p e s m below meth c T0 hx hby hml hown hnm hret hlk hZ X0
  have K0 := Keep.refl h0 [a1]
  show Go p.tables e below _ (T0.setTop (mkF m 0 #[.val (.ref a1), .val (.int (nn.toInt32)), .val (.long q3), .second] []))
  refine Go.by (fun _ => XS.aloadN X0.here hx rfl (hb hby d1_0) rfl rfl) ?_
  show Go p.tables e below _ (T0.setTop (mkF m 1 #[.val (.ref a1), .val (.int (nn.toInt32)), .val (.long q3), .second] [(.ref a1)]))
  refine Go.by (fun _ => XS.iloadN X0.here hx rfl (hb hby d1_1) rfl) ?_
  show Go p.tables e below _ (T0.setTop (mkF m 2 #[.val (.ref a1), .val (.int (nn.toInt32)), .val (.long q3), .second] [(.int (nn.toInt32)), (.ref a1)]))
  refine Go.by (fun _ => XS.iconst X0.here hx rfl (hb hby d1_2)) ?_
  show Go p.tables e below _ (T0.setTop (mkF m 3 #[.val (.ref a1), .val (.int (nn.toInt32)), .val (.long q3), .second] [(.int (0 : Int32)), (.int (nn.toInt32)), (.ref a1)]))
  refine Go.by (fun _ => XS.lloadN X0.here hx rfl (hb hby d1_3) rfl) ?_
  show Go p.tables e below _ (T0.setTop (mkF m 4 #[.val (.ref a1), .val (.int (nn.toInt32)), .val (.long q3), .second] [(.long q3), (.int (0 : Int32)), (.int (nn.toInt32)), (.ref a1)]))
  obtain ⟨v1, T1, h1, X1, q1, st1⟩ := X0.callS hx hZ (y := (⟨"com/example/clio/clio/LayoutPastEntriesPinLaw", "put", "([BIIJ)V"⟩ : MethodName)) hown (tw hw 6 rfl) (tw hw 7 rfl) (tw hw 4 rfl) (tw hw 8 rfl) (by decide) (rm2 l Z a0 hw [] a1 (0 : Int32) q3 nn kc (fun _ => 0) h0 n0 Z0 hk (by decide) g_a1 V_a) (g := (mkF m 4 #[.val (.ref a1), .val (.int (nn.toInt32)), .val (.long q3), .second] [(.long q3), (.int (0 : Int32)), (.int (nn.toInt32)), (.ref a1)])) rfl (by rw [hml]; rfl) (argsL := [(.ref a1), (.int (nn.toInt32)), (.int (0 : Int32)), (.long q3)]) (rest := []) (lenOf pd0 rfl) rfl (hb hby d1_4) rfl (by decide) (Nat.le_of_ble_eq_true rfl) (k' := 0) (n' := 0) rfl rfl (by decide) (by decide)
  refine Go.by st1 ?_
  obtain ⟨rfl, K1, V1⟩ := q1
  have f2_13 := K0.trans K1 (allS (Or.inl (List.mem_of_getElem? (i := 0) rfl)) all0)
  have Zs2 : n0 ≤ h1.size := Nat.le_trans Z0 K1.1
  show Go p.tables e below _ (T1.setTop (mkF m 7 #[.val (.ref a1), .val (.int (nn.toInt32)), .val (.long q3), .second] []))
  refine Go.by (fun _ => XS.aloadN X1.here hx rfl (hb hby d1_7) rfl rfl) ?_
  show Go p.tables e below _ (T1.setTop (mkF m 8 #[.val (.ref a1), .val (.int (nn.toInt32)), .val (.long q3), .second] [(.ref a1)]))
  refine Go.by (fun _ => XS.iloadN X1.here hx rfl (hb hby d1_8) rfl) ?_
  show Go p.tables e below _ (T1.setTop (mkF m 9 #[.val (.ref a1), .val (.int (nn.toInt32)), .val (.long q3), .second] [(.int (nn.toInt32)), (.ref a1)]))
  refine Go.by (fun _ => XS.iconst X1.here hx rfl (hb hby d1_9)) ?_
  show Go p.tables e below _ (T1.setTop (mkF m 10 #[.val (.ref a1), .val (.int (nn.toInt32)), .val (.long q3), .second] [(.int (1 : Int32)), (.int (nn.toInt32)), (.ref a1)]))
  refine Go.by (fun _ => XS.lloadN X1.here hx rfl (hb hby d1_10) rfl) ?_
  show Go p.tables e below _ (T1.setTop (mkF m 11 #[.val (.ref a1), .val (.int (nn.toInt32)), .val (.long q3), .second] [(.long q3), (.int (1 : Int32)), (.int (nn.toInt32)), (.ref a1)]))
  obtain ⟨v3, T3, h3, X3, q3, st3⟩ := X1.callS hx hZ (y := (⟨"com/example/clio/clio/LayoutPastEntriesPinLaw", "put", "([BIIJ)V"⟩ : MethodName)) hown (tw hw 6 rfl) (tw hw 7 rfl) (tw hw 4 rfl) (tw hw 8 rfl) (by decide) (rm2 l Z a0 hw [] a1 (1 : Int32) q3 nn kc (fun t => if t = ((0 : Int32).toNatClampNeg) then own_b q3 (0 : Int32) else (fun _ => 0) t) h1 n0 Zs2 hk (by decide) g_a1 V1) (g := (mkF m 11 #[.val (.ref a1), .val (.int (nn.toInt32)), .val (.long q3), .second] [(.long q3), (.int (1 : Int32)), (.int (nn.toInt32)), (.ref a1)])) rfl (by rw [hml]; rfl) (argsL := [(.ref a1), (.int (nn.toInt32)), (.int (1 : Int32)), (.long q3)]) (rest := []) (lenOf pd0 rfl) rfl (hb hby d1_11) rfl (by decide) (Nat.le_of_ble_eq_true rfl) (k' := 0) (n' := 0) rfl rfl (by decide) (by decide)
  refine Go.by st3 ?_
  obtain ⟨rfl, K3, V3⟩ := q3
  have f4_27 := f2_13.trans K3 (allS (Or.inl (List.mem_of_getElem? (i := 0) rfl)) all0)
  have Zs4 : n0 ≤ h3.size := Nat.le_trans Zs2 K3.1
  show Go p.tables e below _ (T3.setTop (mkF m 14 #[.val (.ref a1), .val (.int (nn.toInt32)), .val (.long q3), .second] []))
  refine Go.by (fun _ => XS.aloadN X3.here hx rfl (hb hby d1_14) rfl rfl) ?_
  show Go p.tables e below _ (T3.setTop (mkF m 15 #[.val (.ref a1), .val (.int (nn.toInt32)), .val (.long q3), .second] [(.ref a1)]))
  refine Go.by (fun _ => XS.iloadN X3.here hx rfl (hb hby d1_15) rfl) ?_
  show Go p.tables e below _ (T3.setTop (mkF m 16 #[.val (.ref a1), .val (.int (nn.toInt32)), .val (.long q3), .second] [(.int (nn.toInt32)), (.ref a1)]))
  refine Go.by (fun _ => XS.iconst X3.here hx rfl (hb hby d1_16)) ?_
  show Go p.tables e below _ (T3.setTop (mkF m 17 #[.val (.ref a1), .val (.int (nn.toInt32)), .val (.long q3), .second] [(.int (2 : Int32)), (.int (nn.toInt32)), (.ref a1)]))
  refine Go.by (fun _ => XS.lloadN X3.here hx rfl (hb hby d1_17) rfl) ?_
  show Go p.tables e below _ (T3.setTop (mkF m 18 #[.val (.ref a1), .val (.int (nn.toInt32)), .val (.long q3), .second] [(.long q3), (.int (2 : Int32)), (.int (nn.toInt32)), (.ref a1)]))
  obtain ⟨v5, T5, h5, X5, q5, st5⟩ := X3.callS hx hZ (y := (⟨"com/example/clio/clio/LayoutPastEntriesPinLaw", "put", "([BIIJ)V"⟩ : MethodName)) hown (tw hw 6 rfl) (tw hw 7 rfl) (tw hw 4 rfl) (tw hw 8 rfl) (by decide) (rm2 l Z a0 hw [] a1 (2 : Int32) q3 nn kc (fun t => if t = ((1 : Int32).toNatClampNeg) then own_b q3 (1 : Int32) else (fun t => if t = ((0 : Int32).toNatClampNeg) then own_b q3 (0 : Int32) else (fun _ => 0) t) t) h3 n0 Zs4 hk (by decide) g_a1 V3) (g := (mkF m 18 #[.val (.ref a1), .val (.int (nn.toInt32)), .val (.long q3), .second] [(.long q3), (.int (2 : Int32)), (.int (nn.toInt32)), (.ref a1)])) rfl (by rw [hml]; rfl) (argsL := [(.ref a1), (.int (nn.toInt32)), (.int (2 : Int32)), (.long q3)]) (rest := []) (lenOf pd0 rfl) rfl (hb hby d1_18) rfl (by decide) (Nat.le_of_ble_eq_true rfl) (k' := 0) (n' := 0) rfl rfl (by decide) (by decide)
  refine Go.by st5 ?_
  obtain ⟨rfl, K5, V5⟩ := q5
  have f6_41 := f4_27.trans K5 (allS (Or.inl (List.mem_of_getElem? (i := 0) rfl)) all0)
  have Zs6 : n0 ≤ h5.size := Nat.le_trans Zs4 K5.1
  show Go p.tables e below _ (T5.setTop (mkF m 21 #[.val (.ref a1), .val (.int (nn.toInt32)), .val (.long q3), .second] []))
  refine Go.by (fun _ => XS.aloadN X5.here hx rfl (hb hby d1_21) rfl rfl) ?_
  show Go p.tables e below _ (T5.setTop (mkF m 22 #[.val (.ref a1), .val (.int (nn.toInt32)), .val (.long q3), .second] [(.ref a1)]))
  refine Go.by (fun _ => XS.iloadN X5.here hx rfl (hb hby d1_22) rfl) ?_
  show Go p.tables e below _ (T5.setTop (mkF m 23 #[.val (.ref a1), .val (.int (nn.toInt32)), .val (.long q3), .second] [(.int (nn.toInt32)), (.ref a1)]))
  refine Go.by (fun _ => XS.iconst X5.here hx rfl (hb hby d1_23)) ?_
  show Go p.tables e below _ (T5.setTop (mkF m 24 #[.val (.ref a1), .val (.int (nn.toInt32)), .val (.long q3), .second] [(.int (3 : Int32)), (.int (nn.toInt32)), (.ref a1)]))
  refine Go.by (fun _ => XS.lloadN X5.here hx rfl (hb hby d1_24) rfl) ?_
  show Go p.tables e below _ (T5.setTop (mkF m 25 #[.val (.ref a1), .val (.int (nn.toInt32)), .val (.long q3), .second] [(.long q3), (.int (3 : Int32)), (.int (nn.toInt32)), (.ref a1)]))
  obtain ⟨v7, T7, h7, X7, q7, st7⟩ := X5.callS hx hZ (y := (⟨"com/example/clio/clio/LayoutPastEntriesPinLaw", "put", "([BIIJ)V"⟩ : MethodName)) hown (tw hw 6 rfl) (tw hw 7 rfl) (tw hw 4 rfl) (tw hw 8 rfl) (by decide) (rm2 l Z a0 hw [] a1 (3 : Int32) q3 nn kc (fun t => if t = ((2 : Int32).toNatClampNeg) then own_b q3 (2 : Int32) else (fun t => if t = ((1 : Int32).toNatClampNeg) then own_b q3 (1 : Int32) else (fun t => if t = ((0 : Int32).toNatClampNeg) then own_b q3 (0 : Int32) else (fun _ => 0) t) t) t) h5 n0 Zs6 hk (by decide) g_a1 V5) (g := (mkF m 25 #[.val (.ref a1), .val (.int (nn.toInt32)), .val (.long q3), .second] [(.long q3), (.int (3 : Int32)), (.int (nn.toInt32)), (.ref a1)])) rfl (by rw [hml]; rfl) (argsL := [(.ref a1), (.int (nn.toInt32)), (.int (3 : Int32)), (.long q3)]) (rest := []) (lenOf pd0 rfl) rfl (hb hby d1_25) rfl (by decide) (Nat.le_of_ble_eq_true rfl) (k' := 0) (n' := 0) rfl rfl (by decide) (by decide)
  refine Go.by st7 ?_
  obtain ⟨rfl, K7, V7⟩ := q7
  have f8_55 := f6_41.trans K7 (allS (Or.inl (List.mem_of_getElem? (i := 0) rfl)) all0)
  have Zs8 : n0 ≤ h7.size := Nat.le_trans Zs6 K7.1
  show Go p.tables e below _ (T7.setTop (mkF m 28 #[.val (.ref a1), .val (.int (nn.toInt32)), .val (.long q3), .second] []))
  refine Go.by (fun _ => XS.aloadN X7.here hx rfl (hb hby d1_28) rfl rfl) ?_
  show Go p.tables e below _ (T7.setTop (mkF m 29 #[.val (.ref a1), .val (.int (nn.toInt32)), .val (.long q3), .second] [(.ref a1)]))
  refine Go.by (fun _ => XS.iloadN X7.here hx rfl (hb hby d1_29) rfl) ?_
  show Go p.tables e below _ (T7.setTop (mkF m 30 #[.val (.ref a1), .val (.int (nn.toInt32)), .val (.long q3), .second] [(.int (nn.toInt32)), (.ref a1)]))
  refine Go.by (fun _ => XS.iconst X7.here hx rfl (hb hby d1_30)) ?_
  show Go p.tables e below _ (T7.setTop (mkF m 31 #[.val (.ref a1), .val (.int (nn.toInt32)), .val (.long q3), .second] [(.int (4 : Int32)), (.int (nn.toInt32)), (.ref a1)]))
  refine Go.by (fun _ => XS.lloadN X7.here hx rfl (hb hby d1_31) rfl) ?_
  show Go p.tables e below _ (T7.setTop (mkF m 32 #[.val (.ref a1), .val (.int (nn.toInt32)), .val (.long q3), .second] [(.long q3), (.int (4 : Int32)), (.int (nn.toInt32)), (.ref a1)]))
  obtain ⟨v9, T9, h9, X9, q9, st9⟩ := X7.callS hx hZ (y := (⟨"com/example/clio/clio/LayoutPastEntriesPinLaw", "put", "([BIIJ)V"⟩ : MethodName)) hown (tw hw 6 rfl) (tw hw 7 rfl) (tw hw 4 rfl) (tw hw 8 rfl) (by decide) (rm2 l Z a0 hw [] a1 (4 : Int32) q3 nn kc (fun t => if t = ((3 : Int32).toNatClampNeg) then own_b q3 (3 : Int32) else (fun t => if t = ((2 : Int32).toNatClampNeg) then own_b q3 (2 : Int32) else (fun t => if t = ((1 : Int32).toNatClampNeg) then own_b q3 (1 : Int32) else (fun t => if t = ((0 : Int32).toNatClampNeg) then own_b q3 (0 : Int32) else (fun _ => 0) t) t) t) t) h7 n0 Zs8 hk (by decide) g_a1 V7) (g := (mkF m 32 #[.val (.ref a1), .val (.int (nn.toInt32)), .val (.long q3), .second] [(.long q3), (.int (4 : Int32)), (.int (nn.toInt32)), (.ref a1)])) rfl (by rw [hml]; rfl) (argsL := [(.ref a1), (.int (nn.toInt32)), (.int (4 : Int32)), (.long q3)]) (rest := []) (lenOf pd0 rfl) rfl (hb hby d1_32) rfl (by decide) (Nat.le_of_ble_eq_true rfl) (k' := 0) (n' := 0) rfl rfl (by decide) (by decide)
  refine Go.by st9 ?_
  obtain ⟨rfl, K9, V9⟩ := q9
  have f10_69 := f8_55.trans K9 (allS (Or.inl (List.mem_of_getElem? (i := 0) rfl)) all0)
  have Zs10 : n0 ≤ h9.size := Nat.le_trans Zs8 K9.1
  show Go p.tables e below _ (T9.setTop (mkF m 35 #[.val (.ref a1), .val (.int (nn.toInt32)), .val (.long q3), .second] []))
  refine Go.by (fun _ => XS.aloadN X9.here hx rfl (hb hby d1_35) rfl rfl) ?_
  show Go p.tables e below _ (T9.setTop (mkF m 36 #[.val (.ref a1), .val (.int (nn.toInt32)), .val (.long q3), .second] [(.ref a1)]))
  refine Go.by (fun _ => XS.iloadN X9.here hx rfl (hb hby d1_36) rfl) ?_
  show Go p.tables e below _ (T9.setTop (mkF m 37 #[.val (.ref a1), .val (.int (nn.toInt32)), .val (.long q3), .second] [(.int (nn.toInt32)), (.ref a1)]))
  refine Go.by (fun _ => XS.iconst X9.here hx rfl (hb hby d1_37)) ?_
  show Go p.tables e below _ (T9.setTop (mkF m 38 #[.val (.ref a1), .val (.int (nn.toInt32)), .val (.long q3), .second] [(.int (5 : Int32)), (.int (nn.toInt32)), (.ref a1)]))
  refine Go.by (fun _ => XS.lloadN X9.here hx rfl (hb hby d1_38) rfl) ?_
  show Go p.tables e below _ (T9.setTop (mkF m 39 #[.val (.ref a1), .val (.int (nn.toInt32)), .val (.long q3), .second] [(.long q3), (.int (5 : Int32)), (.int (nn.toInt32)), (.ref a1)]))
  obtain ⟨v11, T11, h11, X11, q11, st11⟩ := X9.callS hx hZ (y := (⟨"com/example/clio/clio/LayoutPastEntriesPinLaw", "put", "([BIIJ)V"⟩ : MethodName)) hown (tw hw 6 rfl) (tw hw 7 rfl) (tw hw 4 rfl) (tw hw 8 rfl) (by decide) (rm2 l Z a0 hw [] a1 (5 : Int32) q3 nn kc (fun t => if t = ((4 : Int32).toNatClampNeg) then own_b q3 (4 : Int32) else (fun t => if t = ((3 : Int32).toNatClampNeg) then own_b q3 (3 : Int32) else (fun t => if t = ((2 : Int32).toNatClampNeg) then own_b q3 (2 : Int32) else (fun t => if t = ((1 : Int32).toNatClampNeg) then own_b q3 (1 : Int32) else (fun t => if t = ((0 : Int32).toNatClampNeg) then own_b q3 (0 : Int32) else (fun _ => 0) t) t) t) t) t) h9 n0 Zs10 hk (by decide) g_a1 V9) (g := (mkF m 39 #[.val (.ref a1), .val (.int (nn.toInt32)), .val (.long q3), .second] [(.long q3), (.int (5 : Int32)), (.int (nn.toInt32)), (.ref a1)])) rfl (by rw [hml]; rfl) (argsL := [(.ref a1), (.int (nn.toInt32)), (.int (5 : Int32)), (.long q3)]) (rest := []) (lenOf pd0 rfl) rfl (hb hby d1_39) rfl (by decide) (Nat.le_of_ble_eq_true rfl) (k' := 0) (n' := 0) rfl rfl (by decide) (by decide)
  refine Go.by st11 ?_
  obtain ⟨rfl, K11, V11⟩ := q11
  have f12_83 := f10_69.trans K11 (allS (Or.inl (List.mem_of_getElem? (i := 0) rfl)) all0)
  have Zs12 : n0 ≤ h11.size := Nat.le_trans Zs10 K11.1
  show Go p.tables e below _ (T11.setTop (mkF m 42 #[.val (.ref a1), .val (.int (nn.toInt32)), .val (.long q3), .second] []))
  refine Go.by (fun _ => XS.aloadN X11.here hx rfl (hb hby d1_42) rfl rfl) ?_
  show Go p.tables e below _ (T11.setTop (mkF m 43 #[.val (.ref a1), .val (.int (nn.toInt32)), .val (.long q3), .second] [(.ref a1)]))
  refine Go.by (fun _ => XS.iloadN X11.here hx rfl (hb hby d1_43) rfl) ?_
  show Go p.tables e below _ (T11.setTop (mkF m 44 #[.val (.ref a1), .val (.int (nn.toInt32)), .val (.long q3), .second] [(.int (nn.toInt32)), (.ref a1)]))
  refine Go.by (fun _ => XS.bipush X11.here hx rfl (hb hby d1_44)) ?_
  show Go p.tables e below _ (T11.setTop (mkF m 46 #[.val (.ref a1), .val (.int (nn.toInt32)), .val (.long q3), .second] [(.int (6 : Int32)), (.int (nn.toInt32)), (.ref a1)]))
  refine Go.by (fun _ => XS.lloadN X11.here hx rfl (hb hby d1_46) rfl) ?_
  show Go p.tables e below _ (T11.setTop (mkF m 47 #[.val (.ref a1), .val (.int (nn.toInt32)), .val (.long q3), .second] [(.long q3), (.int (6 : Int32)), (.int (nn.toInt32)), (.ref a1)]))
  obtain ⟨v13, T13, h13, X13, q13, st13⟩ := X11.callS hx hZ (y := (⟨"com/example/clio/clio/LayoutPastEntriesPinLaw", "put", "([BIIJ)V"⟩ : MethodName)) hown (tw hw 6 rfl) (tw hw 7 rfl) (tw hw 4 rfl) (tw hw 8 rfl) (by decide) (rm2 l Z a0 hw [] a1 (6 : Int32) q3 nn kc (fun t => if t = ((5 : Int32).toNatClampNeg) then own_b q3 (5 : Int32) else (fun t => if t = ((4 : Int32).toNatClampNeg) then own_b q3 (4 : Int32) else (fun t => if t = ((3 : Int32).toNatClampNeg) then own_b q3 (3 : Int32) else (fun t => if t = ((2 : Int32).toNatClampNeg) then own_b q3 (2 : Int32) else (fun t => if t = ((1 : Int32).toNatClampNeg) then own_b q3 (1 : Int32) else (fun t => if t = ((0 : Int32).toNatClampNeg) then own_b q3 (0 : Int32) else (fun _ => 0) t) t) t) t) t) t) h11 n0 Zs12 hk (by decide) g_a1 V11) (g := (mkF m 47 #[.val (.ref a1), .val (.int (nn.toInt32)), .val (.long q3), .second] [(.long q3), (.int (6 : Int32)), (.int (nn.toInt32)), (.ref a1)])) rfl (by rw [hml]; rfl) (argsL := [(.ref a1), (.int (nn.toInt32)), (.int (6 : Int32)), (.long q3)]) (rest := []) (lenOf pd0 rfl) rfl (hb hby d1_47) rfl (by decide) (Nat.le_of_ble_eq_true rfl) (k' := 0) (n' := 0) rfl rfl (by decide) (by decide)
  refine Go.by st13 ?_
  obtain ⟨rfl, K13, V13⟩ := q13
  have f14_97 := f12_83.trans K13 (allS (Or.inl (List.mem_of_getElem? (i := 0) rfl)) all0)
  have Zs14 : n0 ≤ h13.size := Nat.le_trans Zs12 K13.1
  show Go p.tables e below _ (T13.setTop (mkF m 50 #[.val (.ref a1), .val (.int (nn.toInt32)), .val (.long q3), .second] []))
  refine Go.by (fun _ => XS.aloadN X13.here hx rfl (hb hby d1_50) rfl rfl) ?_
  show Go p.tables e below _ (T13.setTop (mkF m 51 #[.val (.ref a1), .val (.int (nn.toInt32)), .val (.long q3), .second] [(.ref a1)]))
  refine Go.by (fun _ => XS.iloadN X13.here hx rfl (hb hby d1_51) rfl) ?_
  show Go p.tables e below _ (T13.setTop (mkF m 52 #[.val (.ref a1), .val (.int (nn.toInt32)), .val (.long q3), .second] [(.int (nn.toInt32)), (.ref a1)]))
  refine Go.by (fun _ => XS.bipush X13.here hx rfl (hb hby d1_52)) ?_
  show Go p.tables e below _ (T13.setTop (mkF m 54 #[.val (.ref a1), .val (.int (nn.toInt32)), .val (.long q3), .second] [(.int (7 : Int32)), (.int (nn.toInt32)), (.ref a1)]))
  refine Go.by (fun _ => XS.lloadN X13.here hx rfl (hb hby d1_54) rfl) ?_
  show Go p.tables e below _ (T13.setTop (mkF m 55 #[.val (.ref a1), .val (.int (nn.toInt32)), .val (.long q3), .second] [(.long q3), (.int (7 : Int32)), (.int (nn.toInt32)), (.ref a1)]))
  obtain ⟨v15, T15, h15, X15, q15, st15⟩ := X13.callS hx hZ (y := (⟨"com/example/clio/clio/LayoutPastEntriesPinLaw", "put", "([BIIJ)V"⟩ : MethodName)) hown (tw hw 6 rfl) (tw hw 7 rfl) (tw hw 4 rfl) (tw hw 8 rfl) (by decide) (rm2 l Z a0 hw [] a1 (7 : Int32) q3 nn kc (fun t => if t = ((6 : Int32).toNatClampNeg) then own_b q3 (6 : Int32) else (fun t => if t = ((5 : Int32).toNatClampNeg) then own_b q3 (5 : Int32) else (fun t => if t = ((4 : Int32).toNatClampNeg) then own_b q3 (4 : Int32) else (fun t => if t = ((3 : Int32).toNatClampNeg) then own_b q3 (3 : Int32) else (fun t => if t = ((2 : Int32).toNatClampNeg) then own_b q3 (2 : Int32) else (fun t => if t = ((1 : Int32).toNatClampNeg) then own_b q3 (1 : Int32) else (fun t => if t = ((0 : Int32).toNatClampNeg) then own_b q3 (0 : Int32) else (fun _ => 0) t) t) t) t) t) t) t) h13 n0 Zs14 hk (by decide) g_a1 V13) (g := (mkF m 55 #[.val (.ref a1), .val (.int (nn.toInt32)), .val (.long q3), .second] [(.long q3), (.int (7 : Int32)), (.int (nn.toInt32)), (.ref a1)])) rfl (by rw [hml]; rfl) (argsL := [(.ref a1), (.int (nn.toInt32)), (.int (7 : Int32)), (.long q3)]) (rest := []) (lenOf pd0 rfl) rfl (hb hby d1_55) rfl (by decide) (Nat.le_of_ble_eq_true rfl) (k' := 0) (n' := 0) rfl rfl (by decide) (by decide)
  refine Go.by st15 ?_
  obtain ⟨rfl, K15, V15⟩ := q15
  have f16_111 := f14_97.trans K15 (allS (Or.inl (List.mem_of_getElem? (i := 0) rfl)) all0)
  have Zs16 : n0 ≤ h15.size := Nat.le_trans Zs14 K15.1
  show Go p.tables e below _ (T15.setTop (mkF m 58 #[.val (.ref a1), .val (.int (nn.toInt32)), .val (.long q3), .second] []))
  exact Go.ret0 X15 hx hlk hret (hb hby d1_58) (by decide) (by decide) ⟨rfl, f16_111, Avf.cong V15 (fun i hi => rfl)⟩
theorem d5_0 : decode jdk_29_method_69_code 0 = .ok (.iload_n 0, 1) := by decide +kernel
theorem d5_1 : decode jdk_29_method_69_code 1 = .ok (.iload_n 1, 1) := by decide +kernel
theorem d5_2 : decode jdk_29_method_69_code 2 = .ok (.if_icmp .gt 7, 3) := by decide +kernel
theorem d5_5 : decode jdk_29_method_69_code 5 = .ok (.iload_n 0, 1) := by decide +kernel
theorem d5_6 : decode jdk_29_method_69_code 6 = .ok (.goto 4, 3) := by decide +kernel
theorem d5_10 : decode jdk_29_method_69_code 10 = .ok (.ireturn, 1) := by decide +kernel
abbrev Rm5_0 : Room := { frames := 0, cells := 0, slots := 0, locals := 0 }
set_option maxRecDepth 65536 in
set_option maxHeartbeats 40000000 in
theorem rm5_0 (l : Launch) (Z : State) (a0 : Array Value) (hw : ∀ d ∈ tables_1, d.before a0 Z = true) (ws : List Jvm.Cond)  (h0 : Heap) (n0 : Nat) (Z0 : n0 ≤ h0.size) :
    Met l Z n0 (⟨"java/lang/Math", "min", "(II)I"⟩ : MethodName) jdk_29_method_69_code 2 (some .int) ws Rm5_0 #[(.int (0 : Int32)), (.int (8 : Int32))] h0 (fun v h => v = some (.int (0 : Int32)) ∧ h0 = h) := by
  refine enter (Ls := #[.val (.int (0 : Int32)), .val (.int (8 : Int32))]) (Jvm.Free.JP.mathPlain rfl (by decide +kernel)) (fun m => by first | (simp [entryFrame, mkF, argsToLocals, Value.category]; done) | rfl) ?_
  intro p e s m below meth c T0 hx hby hml hown hnm hret hlk hZ X0
  show Go p.tables e below _ (T0.setTop (mkF m 0 #[.val (.int (0 : Int32)), .val (.int (8 : Int32))] []))
  refine Go.by (fun _ => XS.iloadN X0.here hx rfl (hb hby d5_0) rfl) ?_
  show Go p.tables e below _ (T0.setTop (mkF m 1 #[.val (.int (0 : Int32)), .val (.int (8 : Int32))] [(.int (0 : Int32))]))
  refine Go.by (fun _ => XS.iloadN X0.here hx rfl (hb hby d5_1) rfl) ?_
  show Go p.tables e below _ (T0.setTop (mkF m 2 #[.val (.int (0 : Int32)), .val (.int (8 : Int32))] [(.int (8 : Int32)), (.int (0 : Int32))]))
  refine Go.by (fun _ => XS.icmpNo X0.here hx rfl (hb hby d5_2) rfl (flt (by decide)).2.2.1) ?_
  show Go p.tables e below _ (T0.setTop (mkF m 5 #[.val (.int (0 : Int32)), .val (.int (8 : Int32))] []))
  refine Go.by (fun _ => XS.iloadN X0.here hx rfl (hb hby d5_5) rfl) ?_
  show Go p.tables e below _ (T0.setTop (mkF m 6 #[.val (.int (0 : Int32)), .val (.int (8 : Int32))] [(.int (0 : Int32))]))
  refine Go.by (fun _ => XS.goto X0.here hx rfl (pc0 := 6) (pc' := 10) rfl (hb hby d5_6) (by decide) (by decide)) ?_
  show Go p.tables e below _ (T0.setTop (mkF m 10 #[.val (.int (0 : Int32)), .val (.int (8 : Int32))] [(.int (0 : Int32))]))
  exact Go.retI X0 hx hlk hret (hb hby d5_10) (by decide) (by decide) ⟨rfl, rfl⟩
theorem d7_0 : decode jdk_65_method_30_code 0 = .ok (.iload_n 1, 1) := by decide +kernel
theorem d7_1 : decode jdk_65_method_30_code 1 = .ok (.iload_n 2, 1) := by decide +kernel
theorem d7_2 : decode jdk_65_method_30_code 2 = .ok (.if_icmp .le 44, 3) := by decide +kernel
theorem d7_46 : decode jdk_65_method_30_code 46 = .ok (.iload_n 1, 1) := by decide +kernel
theorem d7_47 : decode jdk_65_method_30_code 47 = .ok (.ifCond .ge 12, 3) := by decide +kernel
theorem d7_59 : decode jdk_65_method_30_code 59 = .ok (.iload_n 2, 1) := by decide +kernel
theorem d7_60 : decode jdk_65_method_30_code 60 = .ok (.iload_n 0, 1) := by decide +kernel
theorem d7_61 : decode jdk_65_method_30_code 61 = .ok (.if_icmp .le 12, 3) := by decide +kernel
theorem d7_73 : decode jdk_65_method_30_code 73 = .ok (.return_, 1) := by decide +kernel
abbrev Rm7_0 : Room := { frames := 0, cells := 0, slots := 0, locals := 0 }
theorem pn1 : plainName "java/util/Arrays" = true := by first | (simp [plainName, overriddenIn]; done) | decide +kernel
set_option maxRecDepth 65536 in
set_option maxHeartbeats 40000000 in
theorem rm7_0 (l : Launch) (Z : State) (a0 : Array Value) (hw : ∀ d ∈ tables_1, d.before a0 Z = true) (ws : List Jvm.Cond)  (h0 : Heap) (n0 : Nat) (Z0 : n0 ≤ h0.size) :
    Met l Z n0 (⟨"java/util/Arrays", "rangeCheck", "(III)V"⟩ : MethodName) jdk_65_method_30_code 3 none ws Rm7_0 #[(.int (8 : Int32)), (.int (0 : Int32)), (.int (8 : Int32))] h0 (fun v h => v = none ∧ h0 = h) := by
  refine enter (Ls := #[.val (.int (8 : Int32)), .val (.int (0 : Int32)), .val (.int (8 : Int32))]) (plainFor_of_name pn1) (fun m => by first | (simp [entryFrame, mkF, argsToLocals, Value.category]; done) | rfl) ?_
  intro p e s m below meth c T0 hx hby hml hown hnm hret hlk hZ X0
  show Go p.tables e below _ (T0.setTop (mkF m 0 #[.val (.int (8 : Int32)), .val (.int (0 : Int32)), .val (.int (8 : Int32))] []))
  refine Go.by (fun _ => XS.iloadN X0.here hx rfl (hb hby d7_0) rfl) ?_
  show Go p.tables e below _ (T0.setTop (mkF m 1 #[.val (.int (8 : Int32)), .val (.int (0 : Int32)), .val (.int (8 : Int32))] [(.int (0 : Int32))]))
  refine Go.by (fun _ => XS.iloadN X0.here hx rfl (hb hby d7_1) rfl) ?_
  show Go p.tables e below _ (T0.setTop (mkF m 2 #[.val (.int (8 : Int32)), .val (.int (0 : Int32)), .val (.int (8 : Int32))] [(.int (8 : Int32)), (.int (0 : Int32))]))
  refine Go.by (fun _ => XS.icmpYes X0.here hx rfl (pc0 := 2) (pc' := 46) rfl (hb hby d7_2) rfl (flt (by decide)).2.2.2 (by decide) (by decide)) ?_
  show Go p.tables e below _ (T0.setTop (mkF m 46 #[.val (.int (8 : Int32)), .val (.int (0 : Int32)), .val (.int (8 : Int32))] []))
  refine Go.by (fun _ => XS.iloadN X0.here hx rfl (hb hby d7_46) rfl) ?_
  show Go p.tables e below _ (T0.setTop (mkF m 47 #[.val (.int (8 : Int32)), .val (.int (0 : Int32)), .val (.int (8 : Int32))] [(.int (0 : Int32))]))
  refine Go.by (fun _ => XS.ifYes X0.here hx rfl (pc0 := 47) (pc' := 59) rfl (hb hby d7_47) rfl ((if0 _ _).trans (flt (by decide)).2.1) (by decide) (by decide)) ?_
  show Go p.tables e below _ (T0.setTop (mkF m 59 #[.val (.int (8 : Int32)), .val (.int (0 : Int32)), .val (.int (8 : Int32))] []))
  refine Go.by (fun _ => XS.iloadN X0.here hx rfl (hb hby d7_59) rfl) ?_
  show Go p.tables e below _ (T0.setTop (mkF m 60 #[.val (.int (8 : Int32)), .val (.int (0 : Int32)), .val (.int (8 : Int32))] [(.int (8 : Int32))]))
  refine Go.by (fun _ => XS.iloadN X0.here hx rfl (hb hby d7_60) rfl) ?_
  show Go p.tables e below _ (T0.setTop (mkF m 61 #[.val (.int (8 : Int32)), .val (.int (0 : Int32)), .val (.int (8 : Int32))] [(.int (8 : Int32)), (.int (8 : Int32))]))
  refine Go.by (fun _ => XS.icmpYes X0.here hx rfl (pc0 := 61) (pc' := 73) rfl (hb hby d7_61) rfl (flt (by decide)).2.2.2 (by decide) (by decide)) ?_
  show Go p.tables e below _ (T0.setTop (mkF m 73 #[.val (.int (8 : Int32)), .val (.int (0 : Int32)), .val (.int (8 : Int32))] []))
  exact Go.ret0 X0 hx hlk hret (hb hby d7_73) (by decide) (by decide) ⟨rfl, rfl⟩
theorem d4_0 : decode jdk_65_method_121_code 0 = .ok (.iload_n 1, 1) := by decide +kernel
theorem d4_1 : decode jdk_65_method_121_code 1 = .ok (.aload_n 0, 1) := by decide +kernel
theorem d4_2 : decode jdk_65_method_121_code 2 = .ok (.arraylength, 1) := by decide +kernel
theorem d4_3 : decode jdk_65_method_121_code 3 = .ok (.if_icmp .ne 11, 3) := by decide +kernel
theorem d4_14 : decode jdk_65_method_121_code 14 = .ok (.iload_n 1, 1) := by decide +kernel
theorem d4_15 : decode jdk_65_method_121_code 15 = .ok (.newarray .byte, 2) := by decide +kernel
theorem d4_17 : decode jdk_65_method_121_code 17 = .ok (.astore_n 2, 1) := by decide +kernel
theorem d4_18 : decode jdk_65_method_121_code 18 = .ok (.aload_n 0, 1) := by decide +kernel
theorem d4_19 : decode jdk_65_method_121_code 19 = .ok (.iconst 0, 1) := by decide +kernel
theorem d4_20 : decode jdk_65_method_121_code 20 = .ok (.aload_n 2, 1) := by decide +kernel
theorem d4_21 : decode jdk_65_method_121_code 21 = .ok (.iconst 0, 1) := by decide +kernel
theorem d4_22 : decode jdk_65_method_121_code 22 = .ok (.aload_n 0, 1) := by decide +kernel
theorem d4_23 : decode jdk_65_method_121_code 23 = .ok (.arraylength, 1) := by decide +kernel
theorem d4_24 : decode jdk_65_method_121_code 24 = .ok (.iload_n 1, 1) := by decide +kernel
theorem d4_25 : decode jdk_65_method_121_code 25 = .ok (.invokestatic 304, 3) := by decide +kernel
theorem pd1 : parseMethodDescriptor "(II)I" = some ⟨[.int, .int], some .int⟩ := by decide +kernel
theorem d4_28 : decode jdk_65_method_121_code 28 = .ok (.invokestatic 150, 3) := by decide +kernel
theorem d4_31 : decode jdk_65_method_121_code 31 = .ok (.aload_n 2, 1) := by decide +kernel
theorem d4_32 : decode jdk_65_method_121_code 32 = .ok (.areturn, 1) := by decide +kernel
abbrev Rm4_0 : Room := { frames := 1, cells := 1, slots := 16, locals := 18 }
set_option maxRecDepth 65536 in
set_option maxHeartbeats 40000000 in
theorem rm4_0 (l : Launch) (Z : State) (a0 : Array Value) (hw : ∀ d ∈ tables_1, d.before a0 Z = true) (ws : List Jvm.Cond) (a1 : Addr) (kc : ClassId) (fi : Nat → Int32) (h0 : Heap) (n0 : Nat) (Z0 : n0 ≤ h0.size) (V_a : Avf Z h0 a1 kc .byte 0 (fun t => (.int (fi t)))) :
    Met l Z n0 (⟨"java/util/Arrays", "copyOf", "([BI)[B"⟩ : MethodName) jdk_65_method_121_code 3 (some (.array .byte)) ws Rm4_0 #[(.ref a1), (.int (8 : Int32))] h0 (fun v h => ∃ r kr, v = some (.ref r) ∧ h0.size ≤ r ∧ Keep h0 h [] ∧ Avf Z h r kr .byte (0 + 8) (fun t => (.int (if t < 0 then fi t else 0)))) := by
  refine enter (Ls := #[.val (.ref a1), .val (.int (8 : Int32)), .unset]) (plainFor_of_name pn1) (fun m => by first | (simp [entryFrame, mkF, argsToLocals, Value.category]; done) | rfl) ?_
  intro p e s m below meth c T0 hx hby hml hown hnm hret hlk hZ X0
  have K0 := Keep.refl h0 []
  show Go p.tables e below _ (T0.setTop (mkF m 0 #[.val (.ref a1), .val (.int (8 : Int32)), .unset] []))
  refine Go.by (fun _ => XS.iloadN X0.here hx rfl (hb hby d4_0) rfl) ?_
  show Go p.tables e below _ (T0.setTop (mkF m 1 #[.val (.ref a1), .val (.int (8 : Int32)), .unset] [(.int (8 : Int32))]))
  refine Go.by (fun _ => XS.aloadN X0.here hx rfl (hb hby d4_1) rfl rfl) ?_
  show Go p.tables e below _ (T0.setTop (mkF m 2 #[.val (.ref a1), .val (.int (8 : Int32)), .unset] [(.ref a1), (.int (8 : Int32))]))
  refine Go.by (X0.len hx hZ V_a (z := (0 : Int32)) rfl (g := (mkF m 2 #[.val (.ref a1), .val (.int (8 : Int32)), .unset] [(.ref a1), (.int (8 : Int32))])) rfl rfl (hb hby d4_2)) ?_
  show Go p.tables e below _ (T0.setTop (mkF m 3 #[.val (.ref a1), .val (.int (8 : Int32)), .unset] [(.int (0 : Int32)), (.int (8 : Int32))]))
  refine Go.by (fun _ => XS.icmpYes X0.here hx rfl (pc0 := 3) (pc' := 14) rfl (hb hby d4_3) rfl (feq (by decide)).2 (by decide) (by decide)) ?_
  show Go p.tables e below _ (T0.setTop (mkF m 14 #[.val (.ref a1), .val (.int (8 : Int32)), .unset] []))
  refine Go.by (fun _ => XS.iloadN X0.here hx rfl (hb hby d4_14) rfl) ?_
  show Go p.tables e below _ (T0.setTop (mkF m 15 #[.val (.ref a1), .val (.int (8 : Int32)), .unset] [(.int (8 : Int32))]))
  obtain ⟨T1, h1, kc1, b1, X1, g1, E1, A1, V1, st1⟩ := X0.newP hx hZ (tw hw 1 rfl) (g := (mkF m 15 #[.val (.ref a1), .val (.int (8 : Int32)), .unset] [(.int (8 : Int32))])) rfl (hb hby d4_15) rfl (by decide) (sz := 8) (cap := 16) (k' := 1) (n' := 16) rfl (by decide) (by decide) rfl rfl (by decide) (by decide) (ad := "[B") (by decide)
  have g_b1 : n0 ≤ b1 := by rw [g1]; exact Z0
  have sz_b1 : h0.size ≤ b1 := by rw [g1]; exact K0.1
  have ne_a1_b1 : a1 ≠ b1 := Nat.ne_of_lt (by rw [g1]; exact V_a.lt)
  have f2_16 := Avf.ext V_a E1
  have f2_17 := K0.ext E1
  have Zs2 : n0 ≤ h1.size := Nat.le_trans Z0 E1.1
  refine Go.by st1 ?_
  show Go p.tables e below _ (T1.setTop (mkF m 17 #[.val (.ref a1), .val (.int (8 : Int32)), .unset] [(.ref b1)]))
  refine Go.by (fun _ => XS.astoreN X1.here hx rfl (hb hby d4_17) rfl rfl (l' := #[.val (.ref a1), .val (.int (8 : Int32)), .val (.ref b1)]) rfl) ?_
  show Go p.tables e below _ (T1.setTop (mkF m 18 #[.val (.ref a1), .val (.int (8 : Int32)), .val (.ref b1)] []))
  refine Go.by (fun _ => XS.aloadN X1.here hx rfl (hb hby d4_18) rfl rfl) ?_
  show Go p.tables e below _ (T1.setTop (mkF m 19 #[.val (.ref a1), .val (.int (8 : Int32)), .val (.ref b1)] [(.ref a1)]))
  refine Go.by (fun _ => XS.iconst X1.here hx rfl (hb hby d4_19)) ?_
  show Go p.tables e below _ (T1.setTop (mkF m 20 #[.val (.ref a1), .val (.int (8 : Int32)), .val (.ref b1)] [(.int (0 : Int32)), (.ref a1)]))
  refine Go.by (fun _ => XS.aloadN X1.here hx rfl (hb hby d4_20) rfl rfl) ?_
  show Go p.tables e below _ (T1.setTop (mkF m 21 #[.val (.ref a1), .val (.int (8 : Int32)), .val (.ref b1)] [(.ref b1), (.int (0 : Int32)), (.ref a1)]))
  refine Go.by (fun _ => XS.iconst X1.here hx rfl (hb hby d4_21)) ?_
  show Go p.tables e below _ (T1.setTop (mkF m 22 #[.val (.ref a1), .val (.int (8 : Int32)), .val (.ref b1)] [(.int (0 : Int32)), (.ref b1), (.int (0 : Int32)), (.ref a1)]))
  refine Go.by (fun _ => XS.aloadN X1.here hx rfl (hb hby d4_22) rfl rfl) ?_
  show Go p.tables e below _ (T1.setTop (mkF m 23 #[.val (.ref a1), .val (.int (8 : Int32)), .val (.ref b1)] [(.ref a1), (.int (0 : Int32)), (.ref b1), (.int (0 : Int32)), (.ref a1)]))
  refine Go.by (X1.len hx hZ f2_16 (z := (0 : Int32)) rfl (g := (mkF m 23 #[.val (.ref a1), .val (.int (8 : Int32)), .val (.ref b1)] [(.ref a1), (.int (0 : Int32)), (.ref b1), (.int (0 : Int32)), (.ref a1)])) rfl rfl (hb hby d4_23)) ?_
  show Go p.tables e below _ (T1.setTop (mkF m 24 #[.val (.ref a1), .val (.int (8 : Int32)), .val (.ref b1)] [(.int (0 : Int32)), (.int (0 : Int32)), (.ref b1), (.int (0 : Int32)), (.ref a1)]))
  refine Go.by (fun _ => XS.iloadN X1.here hx rfl (hb hby d4_24) rfl) ?_
  show Go p.tables e below _ (T1.setTop (mkF m 25 #[.val (.ref a1), .val (.int (8 : Int32)), .val (.ref b1)] [(.int (8 : Int32)), (.int (0 : Int32)), (.int (0 : Int32)), (.ref b1), (.int (0 : Int32)), (.ref a1)]))
  obtain ⟨v3, T3, h3, X3, q3, st3⟩ := X1.callS hx hZ (y := (⟨"java/lang/Math", "min", "(II)I"⟩ : MethodName)) hown (tw hw 17 rfl) (tw hw 18 rfl) (tw hw 19 rfl) (tw hw 20 rfl) (by decide) (rm5_0 l Z a0 hw [] h1 n0 Zs2) (g := (mkF m 25 #[.val (.ref a1), .val (.int (8 : Int32)), .val (.ref b1)] [(.int (8 : Int32)), (.int (0 : Int32)), (.int (0 : Int32)), (.ref b1), (.int (0 : Int32)), (.ref a1)])) rfl (by rw [hml]; rfl) (argsL := [(.int (0 : Int32)), (.int (8 : Int32))]) (rest := [(.int (0 : Int32)), (.ref b1), (.int (0 : Int32)), (.ref a1)]) (lenOf pd1 rfl) rfl (hb hby d4_25) rfl (by decide) (Nat.le_of_ble_eq_true rfl) (k' := 1) (n' := 16) rfl rfl (by decide) (by decide)
  refine Go.by st3 ?_
  obtain ⟨rfl, rfl⟩ := q3
  show Go p.tables e below _ (T3.setTop (mkF m 28 #[.val (.ref a1), .val (.int (8 : Int32)), .val (.ref b1)] [(.int (0 : Int32)), (.int (0 : Int32)), (.ref b1), (.int (0 : Int32)), (.ref a1)]))
  obtain ⟨T4, h4, X4, K4, V4, st4⟩ := X3.acopy hx hZ hown (tw hw 21 rfl) (tw hw 24 rfl) (tw hw 22 rfl) (tw hw 23 rfl) f2_16 V1 rfl g_b1 (by decide) (by decide) (by decide) (i := 0) (j := 0) (cc := 0) rfl rfl rfl (by decide) (by decide) (g := (mkF m 28 #[.val (.ref a1), .val (.int (8 : Int32)), .val (.ref b1)] [(.int (0 : Int32)), (.int (0 : Int32)), (.ref b1), (.int (0 : Int32)), (.ref a1)])) rfl (by rw [hml]; rfl) rfl (hb hby d4_28) (by decide) (Nat.le_of_ble_eq_true rfl)
  have f5_42 := Avf.keep f2_16 K4 (ninS ne_a1_b1 nin0)
  have f5_43 := f2_17.trans K4 (allS (Or.inr sz_b1) all0)
  have f5_44 := A1.keep K4
  have Zs5 : n0 ≤ h4.size := Nat.le_trans Zs2 K4.1
  refine Go.by st4 ?_
  show Go p.tables e below _ (T4.setTop (mkF m 31 #[.val (.ref a1), .val (.int (8 : Int32)), .val (.ref b1)] []))
  refine Go.by (fun _ => XS.aloadN X4.here hx rfl (hb hby d4_31) rfl rfl) ?_
  show Go p.tables e below _ (T4.setTop (mkF m 32 #[.val (.ref a1), .val (.int (8 : Int32)), .val (.ref b1)] [(.ref b1)]))
  refine Go.retA X4 hx hlk hret rfl rfl (hb hby d4_32) (by decide) (by decide) ?_
  refine ⟨b1, kc1, rfl, sz_b1, f5_43, Avf.cong V4 (fun i hi => ?_)⟩
  by_cases q : i < 0 <;> first | (simp [q]; done) | (simp [q]; rfl)
theorem d6_0 : decode jdk_65_method_110_code 0 = .ok (.aload_n 0, 1) := by decide +kernel
theorem d6_1 : decode jdk_65_method_110_code 1 = .ok (.arraylength, 1) := by decide +kernel
theorem d6_2 : decode jdk_65_method_110_code 2 = .ok (.iload_n 1, 1) := by decide +kernel
theorem d6_3 : decode jdk_65_method_110_code 3 = .ok (.iload_n 2, 1) := by decide +kernel
theorem d6_4 : decode jdk_65_method_110_code 4 = .ok (.invokestatic 13, 3) := by decide +kernel
theorem pd2 : parseMethodDescriptor "(III)V" = some ⟨[.int, .int, .int], none⟩ := by decide +kernel
theorem d6_7 : decode jdk_65_method_110_code 7 = .ok (.iload_n 1, 1) := by decide +kernel
theorem d6_8 : decode jdk_65_method_110_code 8 = .ok (.istore 4, 2) := by decide +kernel
theorem d6_10 : decode jdk_65_method_110_code 10 = .ok (.iload 4, 2) := by decide +kernel
theorem d6_12 : decode jdk_65_method_110_code 12 = .ok (.iload_n 2, 1) := by decide +kernel
theorem d6_13 : decode jdk_65_method_110_code 13 = .ok (.if_icmp .ge 14, 3) := by decide +kernel
theorem d6_16 : decode jdk_65_method_110_code 16 = .ok (.aload_n 0, 1) := by decide +kernel
theorem d6_17 : decode jdk_65_method_110_code 17 = .ok (.iload 4, 2) := by decide +kernel
theorem d6_19 : decode jdk_65_method_110_code 19 = .ok (.iload_n 3, 1) := by decide +kernel
theorem d6_20 : decode jdk_65_method_110_code 20 = .ok (.bastore, 1) := by decide +kernel
theorem d6_21 : decode jdk_65_method_110_code 21 = .ok (.iinc 4 1, 3) := by decide +kernel
theorem d6_24 : decode jdk_65_method_110_code 24 = .ok (.goto (-14), 3) := by decide +kernel
theorem d6_27 : decode jdk_65_method_110_code 27 = .ok (.return_, 1) := by decide +kernel
abbrev Rm6_0 : Room := { frames := 1, cells := 0, slots := 0, locals := 14 }
set_option maxRecDepth 65536 in
set_option maxHeartbeats 40000000 in
theorem rm6_0 (l : Launch) (Z : State) (a0 : Array Value) (hw : ∀ d ∈ tables_1, d.before a0 Z = true) (ws : List Jvm.Cond) (a1 : Addr) (kc : ClassId) (fi : Nat → Int32) (h0 : Heap) (n0 : Nat) (Z0 : n0 ≤ h0.size) (g_a1 : n0 ≤ a1) (V_a : Avf Z h0 a1 kc .byte 8 (fun t => (.int (fi t)))) :
    Met l Z n0 (⟨"java/util/Arrays", "fill", "([BIIB)V"⟩ : MethodName) jdk_65_method_110_code 5 none ws Rm6_0 #[(.ref a1), (.int (0 : Int32)), (.int (8 : Int32)), (.int (-1 : Int32))] h0 (fun v h => v = none ∧ Keep h0 h [a1] ∧ Avf Z h a1 kc .byte 8 (fun t => (.int (if t < 0 then fi t else -1)))) := by
  refine enter (Ls := #[.val (.ref a1), .val (.int (0 : Int32)), .val (.int (8 : Int32)), .val (.int (-1 : Int32)), .unset]) (plainFor_of_name pn1) (fun m => by first | (simp [entryFrame, mkF, argsToLocals, Value.category]; done) | rfl) ?_
  intro p e s m below meth c T0 hx hby hml hown hnm hret hlk hZ X0
  have K0 := Keep.refl h0 [a1]
  show Go p.tables e below _ (T0.setTop (mkF m 0 #[.val (.ref a1), .val (.int (0 : Int32)), .val (.int (8 : Int32)), .val (.int (-1 : Int32)), .unset] []))
  refine Go.by (fun _ => XS.aloadN X0.here hx rfl (hb hby d6_0) rfl rfl) ?_
  show Go p.tables e below _ (T0.setTop (mkF m 1 #[.val (.ref a1), .val (.int (0 : Int32)), .val (.int (8 : Int32)), .val (.int (-1 : Int32)), .unset] [(.ref a1)]))
  refine Go.by (X0.len hx hZ V_a (z := (8 : Int32)) rfl (g := (mkF m 1 #[.val (.ref a1), .val (.int (0 : Int32)), .val (.int (8 : Int32)), .val (.int (-1 : Int32)), .unset] [(.ref a1)])) rfl rfl (hb hby d6_1)) ?_
  show Go p.tables e below _ (T0.setTop (mkF m 2 #[.val (.ref a1), .val (.int (0 : Int32)), .val (.int (8 : Int32)), .val (.int (-1 : Int32)), .unset] [(.int (8 : Int32))]))
  refine Go.by (fun _ => XS.iloadN X0.here hx rfl (hb hby d6_2) rfl) ?_
  show Go p.tables e below _ (T0.setTop (mkF m 3 #[.val (.ref a1), .val (.int (0 : Int32)), .val (.int (8 : Int32)), .val (.int (-1 : Int32)), .unset] [(.int (0 : Int32)), (.int (8 : Int32))]))
  refine Go.by (fun _ => XS.iloadN X0.here hx rfl (hb hby d6_3) rfl) ?_
  show Go p.tables e below _ (T0.setTop (mkF m 4 #[.val (.ref a1), .val (.int (0 : Int32)), .val (.int (8 : Int32)), .val (.int (-1 : Int32)), .unset] [(.int (8 : Int32)), (.int (0 : Int32)), (.int (8 : Int32))]))
  obtain ⟨v1, T1, h1, X1, q1, st1⟩ := X0.callS hx hZ (y := (⟨"java/util/Arrays", "rangeCheck", "(III)V"⟩ : MethodName)) hown (tw hw 28 rfl) (tw hw 29 rfl) (tw hw 15 rfl) (tw hw 30 rfl) (by decide) (rm7_0 l Z a0 hw [] h0 n0 Z0) (g := (mkF m 4 #[.val (.ref a1), .val (.int (0 : Int32)), .val (.int (8 : Int32)), .val (.int (-1 : Int32)), .unset] [(.int (8 : Int32)), (.int (0 : Int32)), (.int (8 : Int32))])) rfl (by rw [hml]; rfl) (argsL := [(.int (8 : Int32)), (.int (0 : Int32)), (.int (8 : Int32))]) (rest := []) (lenOf pd2 rfl) rfl (hb hby d6_4) rfl (by decide) (Nat.le_of_ble_eq_true rfl) (k' := 0) (n' := 0) rfl rfl (by decide) (by decide)
  refine Go.by st1 ?_
  obtain ⟨rfl, rfl⟩ := q1
  show Go p.tables e below _ (T1.setTop (mkF m 7 #[.val (.ref a1), .val (.int (0 : Int32)), .val (.int (8 : Int32)), .val (.int (-1 : Int32)), .unset] []))
  refine Go.by (fun _ => XS.iloadN X1.here hx rfl (hb hby d6_7) rfl) ?_
  show Go p.tables e below _ (T1.setTop (mkF m 8 #[.val (.ref a1), .val (.int (0 : Int32)), .val (.int (8 : Int32)), .val (.int (-1 : Int32)), .unset] [(.int (0 : Int32))]))
  refine Go.by (fun _ => XS.istore X1.here hx rfl (hb hby d6_8) rfl (l' := #[.val (.ref a1), .val (.int (0 : Int32)), .val (.int (8 : Int32)), .val (.int (-1 : Int32)), .val (.int (0 : Int32))]) rfl) ?_
  show Go p.tables e below _ (T1.setTop (mkF m 10 #[.val (.ref a1), .val (.int (0 : Int32)), .val (.int (8 : Int32)), .val (.int (-1 : Int32)), .val (.int (0 : Int32))] []))
  refine Go.by (fun _ => XS.iload X1.here hx rfl (hb hby d6_10) rfl) ?_
  show Go p.tables e below _ (T1.setTop (mkF m 12 #[.val (.ref a1), .val (.int (0 : Int32)), .val (.int (8 : Int32)), .val (.int (-1 : Int32)), .val (.int (0 : Int32))] [(.int (0 : Int32))]))
  refine Go.by (fun _ => XS.iloadN X1.here hx rfl (hb hby d6_12) rfl) ?_
  show Go p.tables e below _ (T1.setTop (mkF m 13 #[.val (.ref a1), .val (.int (0 : Int32)), .val (.int (8 : Int32)), .val (.int (-1 : Int32)), .val (.int (0 : Int32))] [(.int (8 : Int32)), (.int (0 : Int32))]))
  refine Go.by (fun _ => XS.icmpNo X1.here hx rfl (hb hby d6_13) rfl (tlt (by decide)).2.1) ?_
  show Go p.tables e below _ (T1.setTop (mkF m 16 #[.val (.ref a1), .val (.int (0 : Int32)), .val (.int (8 : Int32)), .val (.int (-1 : Int32)), .val (.int (0 : Int32))] []))
  refine Go.by (fun _ => XS.aloadN X1.here hx rfl (hb hby d6_16) rfl rfl) ?_
  show Go p.tables e below _ (T1.setTop (mkF m 17 #[.val (.ref a1), .val (.int (0 : Int32)), .val (.int (8 : Int32)), .val (.int (-1 : Int32)), .val (.int (0 : Int32))] [(.ref a1)]))
  refine Go.by (fun _ => XS.iload X1.here hx rfl (hb hby d6_17) rfl) ?_
  show Go p.tables e below _ (T1.setTop (mkF m 19 #[.val (.ref a1), .val (.int (0 : Int32)), .val (.int (8 : Int32)), .val (.int (-1 : Int32)), .val (.int (0 : Int32))] [(.int (0 : Int32)), (.ref a1)]))
  refine Go.by (fun _ => XS.iloadN X1.here hx rfl (hb hby d6_19) rfl) ?_
  show Go p.tables e below _ (T1.setTop (mkF m 20 #[.val (.ref a1), .val (.int (0 : Int32)), .val (.int (8 : Int32)), .val (.int (-1 : Int32)), .val (.int (0 : Int32))] [(.int (-1 : Int32)), (.int (0 : Int32)), (.ref a1)]))
  obtain ⟨T2, h2, X2, W2, V2, st2⟩ := X1.stB hx hZ V_a g_a1 (by decide) (i := 0) rfl (by decide) (g := (mkF m 20 #[.val (.ref a1), .val (.int (0 : Int32)), .val (.int (8 : Int32)), .val (.int (-1 : Int32)), .val (.int (0 : Int32))] [(.int (-1 : Int32)), (.int (0 : Int32)), (.ref a1)])) rfl rfl (hb hby d6_20)
  have f3_31 := K0.wr W2 (Or.inl (List.mem_of_getElem? (i := 0) rfl))
  have Zs3 : n0 ≤ h2.size := by rw [W2.size]; exact Z0
  refine Go.by st2 ?_
  show Go p.tables e below _ (T2.setTop (mkF m 21 #[.val (.ref a1), .val (.int (0 : Int32)), .val (.int (8 : Int32)), .val (.int (-1 : Int32)), .val (.int (0 : Int32))] []))
  refine Go.by (fun _ => XS.iinc X2.here hx rfl (hb hby d6_21) rfl (l' := #[.val (.ref a1), .val (.int (0 : Int32)), .val (.int (8 : Int32)), .val (.int (-1 : Int32)), .val (.int (1 : Int32))]) rfl) ?_
  show Go p.tables e below _ (T2.setTop (mkF m 24 #[.val (.ref a1), .val (.int (0 : Int32)), .val (.int (8 : Int32)), .val (.int (-1 : Int32)), .val (.int (1 : Int32))] []))
  refine Go.by (fun _ => XS.goto X2.here hx rfl (pc0 := 24) (pc' := 10) rfl (hb hby d6_24) (by decide) (by decide)) ?_
  show Go p.tables e below _ (T2.setTop (mkF m 10 #[.val (.ref a1), .val (.int (0 : Int32)), .val (.int (8 : Int32)), .val (.int (-1 : Int32)), .val (.int (1 : Int32))] []))
  refine Go.by (fun _ => XS.iload X2.here hx rfl (hb hby d6_10) rfl) ?_
  show Go p.tables e below _ (T2.setTop (mkF m 12 #[.val (.ref a1), .val (.int (0 : Int32)), .val (.int (8 : Int32)), .val (.int (-1 : Int32)), .val (.int (1 : Int32))] [(.int (1 : Int32))]))
  refine Go.by (fun _ => XS.iloadN X2.here hx rfl (hb hby d6_12) rfl) ?_
  show Go p.tables e below _ (T2.setTop (mkF m 13 #[.val (.ref a1), .val (.int (0 : Int32)), .val (.int (8 : Int32)), .val (.int (-1 : Int32)), .val (.int (1 : Int32))] [(.int (8 : Int32)), (.int (1 : Int32))]))
  refine Go.by (fun _ => XS.icmpNo X2.here hx rfl (hb hby d6_13) rfl (tlt (by decide)).2.1) ?_
  show Go p.tables e below _ (T2.setTop (mkF m 16 #[.val (.ref a1), .val (.int (0 : Int32)), .val (.int (8 : Int32)), .val (.int (-1 : Int32)), .val (.int (1 : Int32))] []))
  refine Go.by (fun _ => XS.aloadN X2.here hx rfl (hb hby d6_16) rfl rfl) ?_
  show Go p.tables e below _ (T2.setTop (mkF m 17 #[.val (.ref a1), .val (.int (0 : Int32)), .val (.int (8 : Int32)), .val (.int (-1 : Int32)), .val (.int (1 : Int32))] [(.ref a1)]))
  refine Go.by (fun _ => XS.iload X2.here hx rfl (hb hby d6_17) rfl) ?_
  show Go p.tables e below _ (T2.setTop (mkF m 19 #[.val (.ref a1), .val (.int (0 : Int32)), .val (.int (8 : Int32)), .val (.int (-1 : Int32)), .val (.int (1 : Int32))] [(.int (1 : Int32)), (.ref a1)]))
  refine Go.by (fun _ => XS.iloadN X2.here hx rfl (hb hby d6_19) rfl) ?_
  show Go p.tables e below _ (T2.setTop (mkF m 20 #[.val (.ref a1), .val (.int (0 : Int32)), .val (.int (8 : Int32)), .val (.int (-1 : Int32)), .val (.int (1 : Int32))] [(.int (-1 : Int32)), (.int (1 : Int32)), (.ref a1)]))
  obtain ⟨T4, h4, X4, W4, V4, st4⟩ := X2.stB hx hZ V2 g_a1 (by decide) (i := 1) rfl (by decide) (g := (mkF m 20 #[.val (.ref a1), .val (.int (0 : Int32)), .val (.int (8 : Int32)), .val (.int (-1 : Int32)), .val (.int (1 : Int32))] [(.int (-1 : Int32)), (.int (1 : Int32)), (.ref a1)])) rfl rfl (hb hby d6_20)
  have f5_52 := f3_31.wr W4 (Or.inl (List.mem_of_getElem? (i := 0) rfl))
  have Zs5 : n0 ≤ h4.size := by rw [W4.size]; exact Zs3
  refine Go.by st4 ?_
  show Go p.tables e below _ (T4.setTop (mkF m 21 #[.val (.ref a1), .val (.int (0 : Int32)), .val (.int (8 : Int32)), .val (.int (-1 : Int32)), .val (.int (1 : Int32))] []))
  refine Go.by (fun _ => XS.iinc X4.here hx rfl (hb hby d6_21) rfl (l' := #[.val (.ref a1), .val (.int (0 : Int32)), .val (.int (8 : Int32)), .val (.int (-1 : Int32)), .val (.int (2 : Int32))]) rfl) ?_
  show Go p.tables e below _ (T4.setTop (mkF m 24 #[.val (.ref a1), .val (.int (0 : Int32)), .val (.int (8 : Int32)), .val (.int (-1 : Int32)), .val (.int (2 : Int32))] []))
  refine Go.by (fun _ => XS.goto X4.here hx rfl (pc0 := 24) (pc' := 10) rfl (hb hby d6_24) (by decide) (by decide)) ?_
  show Go p.tables e below _ (T4.setTop (mkF m 10 #[.val (.ref a1), .val (.int (0 : Int32)), .val (.int (8 : Int32)), .val (.int (-1 : Int32)), .val (.int (2 : Int32))] []))
  refine Go.by (fun _ => XS.iload X4.here hx rfl (hb hby d6_10) rfl) ?_
  show Go p.tables e below _ (T4.setTop (mkF m 12 #[.val (.ref a1), .val (.int (0 : Int32)), .val (.int (8 : Int32)), .val (.int (-1 : Int32)), .val (.int (2 : Int32))] [(.int (2 : Int32))]))
  refine Go.by (fun _ => XS.iloadN X4.here hx rfl (hb hby d6_12) rfl) ?_
  show Go p.tables e below _ (T4.setTop (mkF m 13 #[.val (.ref a1), .val (.int (0 : Int32)), .val (.int (8 : Int32)), .val (.int (-1 : Int32)), .val (.int (2 : Int32))] [(.int (8 : Int32)), (.int (2 : Int32))]))
  refine Go.by (fun _ => XS.icmpNo X4.here hx rfl (hb hby d6_13) rfl (tlt (by decide)).2.1) ?_
  show Go p.tables e below _ (T4.setTop (mkF m 16 #[.val (.ref a1), .val (.int (0 : Int32)), .val (.int (8 : Int32)), .val (.int (-1 : Int32)), .val (.int (2 : Int32))] []))
  refine Go.by (fun _ => XS.aloadN X4.here hx rfl (hb hby d6_16) rfl rfl) ?_
  show Go p.tables e below _ (T4.setTop (mkF m 17 #[.val (.ref a1), .val (.int (0 : Int32)), .val (.int (8 : Int32)), .val (.int (-1 : Int32)), .val (.int (2 : Int32))] [(.ref a1)]))
  refine Go.by (fun _ => XS.iload X4.here hx rfl (hb hby d6_17) rfl) ?_
  show Go p.tables e below _ (T4.setTop (mkF m 19 #[.val (.ref a1), .val (.int (0 : Int32)), .val (.int (8 : Int32)), .val (.int (-1 : Int32)), .val (.int (2 : Int32))] [(.int (2 : Int32)), (.ref a1)]))
  refine Go.by (fun _ => XS.iloadN X4.here hx rfl (hb hby d6_19) rfl) ?_
  show Go p.tables e below _ (T4.setTop (mkF m 20 #[.val (.ref a1), .val (.int (0 : Int32)), .val (.int (8 : Int32)), .val (.int (-1 : Int32)), .val (.int (2 : Int32))] [(.int (-1 : Int32)), (.int (2 : Int32)), (.ref a1)]))
  obtain ⟨T6, h6, X6, W6, V6, st6⟩ := X4.stB hx hZ V4 g_a1 (by decide) (i := 2) rfl (by decide) (g := (mkF m 20 #[.val (.ref a1), .val (.int (0 : Int32)), .val (.int (8 : Int32)), .val (.int (-1 : Int32)), .val (.int (2 : Int32))] [(.int (-1 : Int32)), (.int (2 : Int32)), (.ref a1)])) rfl rfl (hb hby d6_20)
  have f7_73 := f5_52.wr W6 (Or.inl (List.mem_of_getElem? (i := 0) rfl))
  have Zs7 : n0 ≤ h6.size := by rw [W6.size]; exact Zs5
  refine Go.by st6 ?_
  show Go p.tables e below _ (T6.setTop (mkF m 21 #[.val (.ref a1), .val (.int (0 : Int32)), .val (.int (8 : Int32)), .val (.int (-1 : Int32)), .val (.int (2 : Int32))] []))
  refine Go.by (fun _ => XS.iinc X6.here hx rfl (hb hby d6_21) rfl (l' := #[.val (.ref a1), .val (.int (0 : Int32)), .val (.int (8 : Int32)), .val (.int (-1 : Int32)), .val (.int (3 : Int32))]) rfl) ?_
  show Go p.tables e below _ (T6.setTop (mkF m 24 #[.val (.ref a1), .val (.int (0 : Int32)), .val (.int (8 : Int32)), .val (.int (-1 : Int32)), .val (.int (3 : Int32))] []))
  refine Go.by (fun _ => XS.goto X6.here hx rfl (pc0 := 24) (pc' := 10) rfl (hb hby d6_24) (by decide) (by decide)) ?_
  show Go p.tables e below _ (T6.setTop (mkF m 10 #[.val (.ref a1), .val (.int (0 : Int32)), .val (.int (8 : Int32)), .val (.int (-1 : Int32)), .val (.int (3 : Int32))] []))
  refine Go.by (fun _ => XS.iload X6.here hx rfl (hb hby d6_10) rfl) ?_
  show Go p.tables e below _ (T6.setTop (mkF m 12 #[.val (.ref a1), .val (.int (0 : Int32)), .val (.int (8 : Int32)), .val (.int (-1 : Int32)), .val (.int (3 : Int32))] [(.int (3 : Int32))]))
  refine Go.by (fun _ => XS.iloadN X6.here hx rfl (hb hby d6_12) rfl) ?_
  show Go p.tables e below _ (T6.setTop (mkF m 13 #[.val (.ref a1), .val (.int (0 : Int32)), .val (.int (8 : Int32)), .val (.int (-1 : Int32)), .val (.int (3 : Int32))] [(.int (8 : Int32)), (.int (3 : Int32))]))
  refine Go.by (fun _ => XS.icmpNo X6.here hx rfl (hb hby d6_13) rfl (tlt (by decide)).2.1) ?_
  show Go p.tables e below _ (T6.setTop (mkF m 16 #[.val (.ref a1), .val (.int (0 : Int32)), .val (.int (8 : Int32)), .val (.int (-1 : Int32)), .val (.int (3 : Int32))] []))
  refine Go.by (fun _ => XS.aloadN X6.here hx rfl (hb hby d6_16) rfl rfl) ?_
  show Go p.tables e below _ (T6.setTop (mkF m 17 #[.val (.ref a1), .val (.int (0 : Int32)), .val (.int (8 : Int32)), .val (.int (-1 : Int32)), .val (.int (3 : Int32))] [(.ref a1)]))
  refine Go.by (fun _ => XS.iload X6.here hx rfl (hb hby d6_17) rfl) ?_
  show Go p.tables e below _ (T6.setTop (mkF m 19 #[.val (.ref a1), .val (.int (0 : Int32)), .val (.int (8 : Int32)), .val (.int (-1 : Int32)), .val (.int (3 : Int32))] [(.int (3 : Int32)), (.ref a1)]))
  refine Go.by (fun _ => XS.iloadN X6.here hx rfl (hb hby d6_19) rfl) ?_
  show Go p.tables e below _ (T6.setTop (mkF m 20 #[.val (.ref a1), .val (.int (0 : Int32)), .val (.int (8 : Int32)), .val (.int (-1 : Int32)), .val (.int (3 : Int32))] [(.int (-1 : Int32)), (.int (3 : Int32)), (.ref a1)]))
  obtain ⟨T8, h8, X8, W8, V8, st8⟩ := X6.stB hx hZ V6 g_a1 (by decide) (i := 3) rfl (by decide) (g := (mkF m 20 #[.val (.ref a1), .val (.int (0 : Int32)), .val (.int (8 : Int32)), .val (.int (-1 : Int32)), .val (.int (3 : Int32))] [(.int (-1 : Int32)), (.int (3 : Int32)), (.ref a1)])) rfl rfl (hb hby d6_20)
  have f9_94 := f7_73.wr W8 (Or.inl (List.mem_of_getElem? (i := 0) rfl))
  have Zs9 : n0 ≤ h8.size := by rw [W8.size]; exact Zs7
  refine Go.by st8 ?_
  show Go p.tables e below _ (T8.setTop (mkF m 21 #[.val (.ref a1), .val (.int (0 : Int32)), .val (.int (8 : Int32)), .val (.int (-1 : Int32)), .val (.int (3 : Int32))] []))
  refine Go.by (fun _ => XS.iinc X8.here hx rfl (hb hby d6_21) rfl (l' := #[.val (.ref a1), .val (.int (0 : Int32)), .val (.int (8 : Int32)), .val (.int (-1 : Int32)), .val (.int (4 : Int32))]) rfl) ?_
  show Go p.tables e below _ (T8.setTop (mkF m 24 #[.val (.ref a1), .val (.int (0 : Int32)), .val (.int (8 : Int32)), .val (.int (-1 : Int32)), .val (.int (4 : Int32))] []))
  refine Go.by (fun _ => XS.goto X8.here hx rfl (pc0 := 24) (pc' := 10) rfl (hb hby d6_24) (by decide) (by decide)) ?_
  show Go p.tables e below _ (T8.setTop (mkF m 10 #[.val (.ref a1), .val (.int (0 : Int32)), .val (.int (8 : Int32)), .val (.int (-1 : Int32)), .val (.int (4 : Int32))] []))
  refine Go.by (fun _ => XS.iload X8.here hx rfl (hb hby d6_10) rfl) ?_
  show Go p.tables e below _ (T8.setTop (mkF m 12 #[.val (.ref a1), .val (.int (0 : Int32)), .val (.int (8 : Int32)), .val (.int (-1 : Int32)), .val (.int (4 : Int32))] [(.int (4 : Int32))]))
  refine Go.by (fun _ => XS.iloadN X8.here hx rfl (hb hby d6_12) rfl) ?_
  show Go p.tables e below _ (T8.setTop (mkF m 13 #[.val (.ref a1), .val (.int (0 : Int32)), .val (.int (8 : Int32)), .val (.int (-1 : Int32)), .val (.int (4 : Int32))] [(.int (8 : Int32)), (.int (4 : Int32))]))
  refine Go.by (fun _ => XS.icmpNo X8.here hx rfl (hb hby d6_13) rfl (tlt (by decide)).2.1) ?_
  show Go p.tables e below _ (T8.setTop (mkF m 16 #[.val (.ref a1), .val (.int (0 : Int32)), .val (.int (8 : Int32)), .val (.int (-1 : Int32)), .val (.int (4 : Int32))] []))
  refine Go.by (fun _ => XS.aloadN X8.here hx rfl (hb hby d6_16) rfl rfl) ?_
  show Go p.tables e below _ (T8.setTop (mkF m 17 #[.val (.ref a1), .val (.int (0 : Int32)), .val (.int (8 : Int32)), .val (.int (-1 : Int32)), .val (.int (4 : Int32))] [(.ref a1)]))
  refine Go.by (fun _ => XS.iload X8.here hx rfl (hb hby d6_17) rfl) ?_
  show Go p.tables e below _ (T8.setTop (mkF m 19 #[.val (.ref a1), .val (.int (0 : Int32)), .val (.int (8 : Int32)), .val (.int (-1 : Int32)), .val (.int (4 : Int32))] [(.int (4 : Int32)), (.ref a1)]))
  refine Go.by (fun _ => XS.iloadN X8.here hx rfl (hb hby d6_19) rfl) ?_
  show Go p.tables e below _ (T8.setTop (mkF m 20 #[.val (.ref a1), .val (.int (0 : Int32)), .val (.int (8 : Int32)), .val (.int (-1 : Int32)), .val (.int (4 : Int32))] [(.int (-1 : Int32)), (.int (4 : Int32)), (.ref a1)]))
  obtain ⟨T10, h10, X10, W10, V10, st10⟩ := X8.stB hx hZ V8 g_a1 (by decide) (i := 4) rfl (by decide) (g := (mkF m 20 #[.val (.ref a1), .val (.int (0 : Int32)), .val (.int (8 : Int32)), .val (.int (-1 : Int32)), .val (.int (4 : Int32))] [(.int (-1 : Int32)), (.int (4 : Int32)), (.ref a1)])) rfl rfl (hb hby d6_20)
  have f11_115 := f9_94.wr W10 (Or.inl (List.mem_of_getElem? (i := 0) rfl))
  have Zs11 : n0 ≤ h10.size := by rw [W10.size]; exact Zs9
  refine Go.by st10 ?_
  show Go p.tables e below _ (T10.setTop (mkF m 21 #[.val (.ref a1), .val (.int (0 : Int32)), .val (.int (8 : Int32)), .val (.int (-1 : Int32)), .val (.int (4 : Int32))] []))
  refine Go.by (fun _ => XS.iinc X10.here hx rfl (hb hby d6_21) rfl (l' := #[.val (.ref a1), .val (.int (0 : Int32)), .val (.int (8 : Int32)), .val (.int (-1 : Int32)), .val (.int (5 : Int32))]) rfl) ?_
  show Go p.tables e below _ (T10.setTop (mkF m 24 #[.val (.ref a1), .val (.int (0 : Int32)), .val (.int (8 : Int32)), .val (.int (-1 : Int32)), .val (.int (5 : Int32))] []))
  refine Go.by (fun _ => XS.goto X10.here hx rfl (pc0 := 24) (pc' := 10) rfl (hb hby d6_24) (by decide) (by decide)) ?_
  show Go p.tables e below _ (T10.setTop (mkF m 10 #[.val (.ref a1), .val (.int (0 : Int32)), .val (.int (8 : Int32)), .val (.int (-1 : Int32)), .val (.int (5 : Int32))] []))
  refine Go.by (fun _ => XS.iload X10.here hx rfl (hb hby d6_10) rfl) ?_
  show Go p.tables e below _ (T10.setTop (mkF m 12 #[.val (.ref a1), .val (.int (0 : Int32)), .val (.int (8 : Int32)), .val (.int (-1 : Int32)), .val (.int (5 : Int32))] [(.int (5 : Int32))]))
  refine Go.by (fun _ => XS.iloadN X10.here hx rfl (hb hby d6_12) rfl) ?_
  show Go p.tables e below _ (T10.setTop (mkF m 13 #[.val (.ref a1), .val (.int (0 : Int32)), .val (.int (8 : Int32)), .val (.int (-1 : Int32)), .val (.int (5 : Int32))] [(.int (8 : Int32)), (.int (5 : Int32))]))
  refine Go.by (fun _ => XS.icmpNo X10.here hx rfl (hb hby d6_13) rfl (tlt (by decide)).2.1) ?_
  show Go p.tables e below _ (T10.setTop (mkF m 16 #[.val (.ref a1), .val (.int (0 : Int32)), .val (.int (8 : Int32)), .val (.int (-1 : Int32)), .val (.int (5 : Int32))] []))
  refine Go.by (fun _ => XS.aloadN X10.here hx rfl (hb hby d6_16) rfl rfl) ?_
  show Go p.tables e below _ (T10.setTop (mkF m 17 #[.val (.ref a1), .val (.int (0 : Int32)), .val (.int (8 : Int32)), .val (.int (-1 : Int32)), .val (.int (5 : Int32))] [(.ref a1)]))
  refine Go.by (fun _ => XS.iload X10.here hx rfl (hb hby d6_17) rfl) ?_
  show Go p.tables e below _ (T10.setTop (mkF m 19 #[.val (.ref a1), .val (.int (0 : Int32)), .val (.int (8 : Int32)), .val (.int (-1 : Int32)), .val (.int (5 : Int32))] [(.int (5 : Int32)), (.ref a1)]))
  refine Go.by (fun _ => XS.iloadN X10.here hx rfl (hb hby d6_19) rfl) ?_
  show Go p.tables e below _ (T10.setTop (mkF m 20 #[.val (.ref a1), .val (.int (0 : Int32)), .val (.int (8 : Int32)), .val (.int (-1 : Int32)), .val (.int (5 : Int32))] [(.int (-1 : Int32)), (.int (5 : Int32)), (.ref a1)]))
  obtain ⟨T12, h12, X12, W12, V12, st12⟩ := X10.stB hx hZ V10 g_a1 (by decide) (i := 5) rfl (by decide) (g := (mkF m 20 #[.val (.ref a1), .val (.int (0 : Int32)), .val (.int (8 : Int32)), .val (.int (-1 : Int32)), .val (.int (5 : Int32))] [(.int (-1 : Int32)), (.int (5 : Int32)), (.ref a1)])) rfl rfl (hb hby d6_20)
  have f13_136 := f11_115.wr W12 (Or.inl (List.mem_of_getElem? (i := 0) rfl))
  have Zs13 : n0 ≤ h12.size := by rw [W12.size]; exact Zs11
  refine Go.by st12 ?_
  show Go p.tables e below _ (T12.setTop (mkF m 21 #[.val (.ref a1), .val (.int (0 : Int32)), .val (.int (8 : Int32)), .val (.int (-1 : Int32)), .val (.int (5 : Int32))] []))
  refine Go.by (fun _ => XS.iinc X12.here hx rfl (hb hby d6_21) rfl (l' := #[.val (.ref a1), .val (.int (0 : Int32)), .val (.int (8 : Int32)), .val (.int (-1 : Int32)), .val (.int (6 : Int32))]) rfl) ?_
  show Go p.tables e below _ (T12.setTop (mkF m 24 #[.val (.ref a1), .val (.int (0 : Int32)), .val (.int (8 : Int32)), .val (.int (-1 : Int32)), .val (.int (6 : Int32))] []))
  refine Go.by (fun _ => XS.goto X12.here hx rfl (pc0 := 24) (pc' := 10) rfl (hb hby d6_24) (by decide) (by decide)) ?_
  show Go p.tables e below _ (T12.setTop (mkF m 10 #[.val (.ref a1), .val (.int (0 : Int32)), .val (.int (8 : Int32)), .val (.int (-1 : Int32)), .val (.int (6 : Int32))] []))
  refine Go.by (fun _ => XS.iload X12.here hx rfl (hb hby d6_10) rfl) ?_
  show Go p.tables e below _ (T12.setTop (mkF m 12 #[.val (.ref a1), .val (.int (0 : Int32)), .val (.int (8 : Int32)), .val (.int (-1 : Int32)), .val (.int (6 : Int32))] [(.int (6 : Int32))]))
  refine Go.by (fun _ => XS.iloadN X12.here hx rfl (hb hby d6_12) rfl) ?_
  show Go p.tables e below _ (T12.setTop (mkF m 13 #[.val (.ref a1), .val (.int (0 : Int32)), .val (.int (8 : Int32)), .val (.int (-1 : Int32)), .val (.int (6 : Int32))] [(.int (8 : Int32)), (.int (6 : Int32))]))
  refine Go.by (fun _ => XS.icmpNo X12.here hx rfl (hb hby d6_13) rfl (tlt (by decide)).2.1) ?_
  show Go p.tables e below _ (T12.setTop (mkF m 16 #[.val (.ref a1), .val (.int (0 : Int32)), .val (.int (8 : Int32)), .val (.int (-1 : Int32)), .val (.int (6 : Int32))] []))
  refine Go.by (fun _ => XS.aloadN X12.here hx rfl (hb hby d6_16) rfl rfl) ?_
  show Go p.tables e below _ (T12.setTop (mkF m 17 #[.val (.ref a1), .val (.int (0 : Int32)), .val (.int (8 : Int32)), .val (.int (-1 : Int32)), .val (.int (6 : Int32))] [(.ref a1)]))
  refine Go.by (fun _ => XS.iload X12.here hx rfl (hb hby d6_17) rfl) ?_
  show Go p.tables e below _ (T12.setTop (mkF m 19 #[.val (.ref a1), .val (.int (0 : Int32)), .val (.int (8 : Int32)), .val (.int (-1 : Int32)), .val (.int (6 : Int32))] [(.int (6 : Int32)), (.ref a1)]))
  refine Go.by (fun _ => XS.iloadN X12.here hx rfl (hb hby d6_19) rfl) ?_
  show Go p.tables e below _ (T12.setTop (mkF m 20 #[.val (.ref a1), .val (.int (0 : Int32)), .val (.int (8 : Int32)), .val (.int (-1 : Int32)), .val (.int (6 : Int32))] [(.int (-1 : Int32)), (.int (6 : Int32)), (.ref a1)]))
  obtain ⟨T14, h14, X14, W14, V14, st14⟩ := X12.stB hx hZ V12 g_a1 (by decide) (i := 6) rfl (by decide) (g := (mkF m 20 #[.val (.ref a1), .val (.int (0 : Int32)), .val (.int (8 : Int32)), .val (.int (-1 : Int32)), .val (.int (6 : Int32))] [(.int (-1 : Int32)), (.int (6 : Int32)), (.ref a1)])) rfl rfl (hb hby d6_20)
  have f15_157 := f13_136.wr W14 (Or.inl (List.mem_of_getElem? (i := 0) rfl))
  have Zs15 : n0 ≤ h14.size := by rw [W14.size]; exact Zs13
  refine Go.by st14 ?_
  show Go p.tables e below _ (T14.setTop (mkF m 21 #[.val (.ref a1), .val (.int (0 : Int32)), .val (.int (8 : Int32)), .val (.int (-1 : Int32)), .val (.int (6 : Int32))] []))
  refine Go.by (fun _ => XS.iinc X14.here hx rfl (hb hby d6_21) rfl (l' := #[.val (.ref a1), .val (.int (0 : Int32)), .val (.int (8 : Int32)), .val (.int (-1 : Int32)), .val (.int (7 : Int32))]) rfl) ?_
  show Go p.tables e below _ (T14.setTop (mkF m 24 #[.val (.ref a1), .val (.int (0 : Int32)), .val (.int (8 : Int32)), .val (.int (-1 : Int32)), .val (.int (7 : Int32))] []))
  refine Go.by (fun _ => XS.goto X14.here hx rfl (pc0 := 24) (pc' := 10) rfl (hb hby d6_24) (by decide) (by decide)) ?_
  show Go p.tables e below _ (T14.setTop (mkF m 10 #[.val (.ref a1), .val (.int (0 : Int32)), .val (.int (8 : Int32)), .val (.int (-1 : Int32)), .val (.int (7 : Int32))] []))
  refine Go.by (fun _ => XS.iload X14.here hx rfl (hb hby d6_10) rfl) ?_
  show Go p.tables e below _ (T14.setTop (mkF m 12 #[.val (.ref a1), .val (.int (0 : Int32)), .val (.int (8 : Int32)), .val (.int (-1 : Int32)), .val (.int (7 : Int32))] [(.int (7 : Int32))]))
  refine Go.by (fun _ => XS.iloadN X14.here hx rfl (hb hby d6_12) rfl) ?_
  show Go p.tables e below _ (T14.setTop (mkF m 13 #[.val (.ref a1), .val (.int (0 : Int32)), .val (.int (8 : Int32)), .val (.int (-1 : Int32)), .val (.int (7 : Int32))] [(.int (8 : Int32)), (.int (7 : Int32))]))
  refine Go.by (fun _ => XS.icmpNo X14.here hx rfl (hb hby d6_13) rfl (tlt (by decide)).2.1) ?_
  show Go p.tables e below _ (T14.setTop (mkF m 16 #[.val (.ref a1), .val (.int (0 : Int32)), .val (.int (8 : Int32)), .val (.int (-1 : Int32)), .val (.int (7 : Int32))] []))
  refine Go.by (fun _ => XS.aloadN X14.here hx rfl (hb hby d6_16) rfl rfl) ?_
  show Go p.tables e below _ (T14.setTop (mkF m 17 #[.val (.ref a1), .val (.int (0 : Int32)), .val (.int (8 : Int32)), .val (.int (-1 : Int32)), .val (.int (7 : Int32))] [(.ref a1)]))
  refine Go.by (fun _ => XS.iload X14.here hx rfl (hb hby d6_17) rfl) ?_
  show Go p.tables e below _ (T14.setTop (mkF m 19 #[.val (.ref a1), .val (.int (0 : Int32)), .val (.int (8 : Int32)), .val (.int (-1 : Int32)), .val (.int (7 : Int32))] [(.int (7 : Int32)), (.ref a1)]))
  refine Go.by (fun _ => XS.iloadN X14.here hx rfl (hb hby d6_19) rfl) ?_
  show Go p.tables e below _ (T14.setTop (mkF m 20 #[.val (.ref a1), .val (.int (0 : Int32)), .val (.int (8 : Int32)), .val (.int (-1 : Int32)), .val (.int (7 : Int32))] [(.int (-1 : Int32)), (.int (7 : Int32)), (.ref a1)]))
  obtain ⟨T16, h16, X16, W16, V16, st16⟩ := X14.stB hx hZ V14 g_a1 (by decide) (i := 7) rfl (by decide) (g := (mkF m 20 #[.val (.ref a1), .val (.int (0 : Int32)), .val (.int (8 : Int32)), .val (.int (-1 : Int32)), .val (.int (7 : Int32))] [(.int (-1 : Int32)), (.int (7 : Int32)), (.ref a1)])) rfl rfl (hb hby d6_20)
  have f17_178 := f15_157.wr W16 (Or.inl (List.mem_of_getElem? (i := 0) rfl))
  have Zs17 : n0 ≤ h16.size := by rw [W16.size]; exact Zs15
  refine Go.by st16 ?_
  show Go p.tables e below _ (T16.setTop (mkF m 21 #[.val (.ref a1), .val (.int (0 : Int32)), .val (.int (8 : Int32)), .val (.int (-1 : Int32)), .val (.int (7 : Int32))] []))
  refine Go.by (fun _ => XS.iinc X16.here hx rfl (hb hby d6_21) rfl (l' := #[.val (.ref a1), .val (.int (0 : Int32)), .val (.int (8 : Int32)), .val (.int (-1 : Int32)), .val (.int (8 : Int32))]) rfl) ?_
  show Go p.tables e below _ (T16.setTop (mkF m 24 #[.val (.ref a1), .val (.int (0 : Int32)), .val (.int (8 : Int32)), .val (.int (-1 : Int32)), .val (.int (8 : Int32))] []))
  refine Go.by (fun _ => XS.goto X16.here hx rfl (pc0 := 24) (pc' := 10) rfl (hb hby d6_24) (by decide) (by decide)) ?_
  show Go p.tables e below _ (T16.setTop (mkF m 10 #[.val (.ref a1), .val (.int (0 : Int32)), .val (.int (8 : Int32)), .val (.int (-1 : Int32)), .val (.int (8 : Int32))] []))
  refine Go.by (fun _ => XS.iload X16.here hx rfl (hb hby d6_10) rfl) ?_
  show Go p.tables e below _ (T16.setTop (mkF m 12 #[.val (.ref a1), .val (.int (0 : Int32)), .val (.int (8 : Int32)), .val (.int (-1 : Int32)), .val (.int (8 : Int32))] [(.int (8 : Int32))]))
  refine Go.by (fun _ => XS.iloadN X16.here hx rfl (hb hby d6_12) rfl) ?_
  show Go p.tables e below _ (T16.setTop (mkF m 13 #[.val (.ref a1), .val (.int (0 : Int32)), .val (.int (8 : Int32)), .val (.int (-1 : Int32)), .val (.int (8 : Int32))] [(.int (8 : Int32)), (.int (8 : Int32))]))
  refine Go.by (fun _ => XS.icmpYes X16.here hx rfl (pc0 := 13) (pc' := 27) rfl (hb hby d6_13) rfl (flt (by decide)).2.1 (by decide) (by decide)) ?_
  show Go p.tables e below _ (T16.setTop (mkF m 27 #[.val (.ref a1), .val (.int (0 : Int32)), .val (.int (8 : Int32)), .val (.int (-1 : Int32)), .val (.int (8 : Int32))] []))
  refine Go.ret0 X16 hx hlk hret (hb hby d6_27) (by decide) (by decide) ?_
  refine ⟨rfl, f17_178, Avf.cong V16 (fun i hi => ?_)⟩
  by_cases q : i < 0
  · have y0 : ¬ i = 0 := by omega
    have y1 : ¬ i = 1 := by omega
    have y2 : ¬ i = 2 := by omega
    have y3 : ¬ i = 3 := by omega
    have y4 : ¬ i = 4 := by omega
    have y5 : ¬ i = 5 := by omega
    have y6 : ¬ i = 6 := by omega
    have y7 : ¬ i = 7 := by omega
    simp [q, y0, y1, y2, y3, y4, y5, y6, y7]
  · have y : i = 0 ∨ i = 1 ∨ i = 2 ∨ i = 3 ∨ i = 4 ∨ i = 5 ∨ i = 6 ∨ i = 7 := by omega
    rcases y with rfl | rfl | rfl | rfl | rfl | rfl | rfl | rfl <;> rfl
theorem d3_0 : decode prog_20_method_22_code 0 = .ok (.aload_n 0, 1) := by decide +kernel
theorem d3_1 : decode prog_20_method_22_code 1 = .ok (.aload_n 0, 1) := by decide +kernel
theorem d3_2 : decode prog_20_method_22_code 2 = .ok (.arraylength, 1) := by decide +kernel
theorem d3_3 : decode prog_20_method_22_code 3 = .ok (.bipush 8, 2) := by decide +kernel
theorem d3_5 : decode prog_20_method_22_code 5 = .ok (.iadd, 1) := by decide +kernel
theorem d3_6 : decode prog_20_method_22_code 6 = .ok (.invokestatic 106, 3) := by decide +kernel
theorem pd3 : parseMethodDescriptor "([BI)[B" = some ⟨[(.array .byte), .int], some (.array .byte)⟩ := by decide +kernel
theorem d3_9 : decode prog_20_method_22_code 9 = .ok (.astore_n 1, 1) := by decide +kernel
theorem d3_10 : decode prog_20_method_22_code 10 = .ok (.aload_n 1, 1) := by decide +kernel
theorem d3_11 : decode prog_20_method_22_code 11 = .ok (.aload_n 0, 1) := by decide +kernel
theorem d3_12 : decode prog_20_method_22_code 12 = .ok (.arraylength, 1) := by decide +kernel
theorem d3_13 : decode prog_20_method_22_code 13 = .ok (.aload_n 1, 1) := by decide +kernel
theorem d3_14 : decode prog_20_method_22_code 14 = .ok (.arraylength, 1) := by decide +kernel
theorem d3_15 : decode prog_20_method_22_code 15 = .ok (.iconst (-1), 1) := by decide +kernel
theorem d3_16 : decode prog_20_method_22_code 16 = .ok (.invokestatic 110, 3) := by decide +kernel
theorem pd4 : parseMethodDescriptor "([BIIB)V" = some ⟨[(.array .byte), .int, .int, .byte], none⟩ := by decide +kernel
theorem d3_19 : decode prog_20_method_22_code 19 = .ok (.aload_n 1, 1) := by decide +kernel
theorem d3_20 : decode prog_20_method_22_code 20 = .ok (.areturn, 1) := by decide +kernel
abbrev Rm3_0 : Room := { frames := 2, cells := 1, slots := 16, locals := 32 }
theorem pn2 : plainName "com/example/clio/clio/Layout" = true := by first | (simp [plainName, overriddenIn]; done) | decide +kernel
set_option maxRecDepth 65536 in
set_option maxHeartbeats 40000000 in
theorem rm3_0 (l : Launch) (Z : State) (a0 : Array Value) (hw : ∀ d ∈ tables_1, d.before a0 Z = true) (ws : List Jvm.Cond) (a1 : Addr) (kc : ClassId) (fi : Nat → Int32) (h0 : Heap) (n0 : Nat) (Z0 : n0 ≤ h0.size) (V_a : Avf Z h0 a1 kc .byte 0 (fun t => (.int (fi t)))) :
    Met l Z n0 (⟨"com/example/clio/clio/Layout", "pastEntries", "([B)[B"⟩ : MethodName) prog_20_method_22_code 2 (some (.array .byte)) ws Rm3_0 #[(.ref a1)] h0 (fun v h => ∃ r kr, v = some (.ref r) ∧ h0.size ≤ r ∧ Keep h0 h [] ∧ Avf Z h r kr .byte (0 + 8) (fun t => (.int (if t < 0 then fi t else -1)))) := by
  refine enter (Ls := #[.val (.ref a1), .unset]) (plainFor_of_name pn2) (fun m => by first | (simp [entryFrame, mkF, argsToLocals, Value.category]; done) | rfl) ?_
  intro p e s m below meth c T0 hx hby hml hown hnm hret hlk hZ X0
  have K0 := Keep.refl h0 []
  show Go p.tables e below _ (T0.setTop (mkF m 0 #[.val (.ref a1), .unset] []))
  refine Go.by (fun _ => XS.aloadN X0.here hx rfl (hb hby d3_0) rfl rfl) ?_
  show Go p.tables e below _ (T0.setTop (mkF m 1 #[.val (.ref a1), .unset] [(.ref a1)]))
  refine Go.by (fun _ => XS.aloadN X0.here hx rfl (hb hby d3_1) rfl rfl) ?_
  show Go p.tables e below _ (T0.setTop (mkF m 2 #[.val (.ref a1), .unset] [(.ref a1), (.ref a1)]))
  refine Go.by (X0.len hx hZ V_a (z := (0 : Int32)) rfl (g := (mkF m 2 #[.val (.ref a1), .unset] [(.ref a1), (.ref a1)])) rfl rfl (hb hby d3_2)) ?_
  show Go p.tables e below _ (T0.setTop (mkF m 3 #[.val (.ref a1), .unset] [(.int (0 : Int32)), (.ref a1)]))
  refine Go.by (fun _ => XS.bipush X0.here hx rfl (hb hby d3_3)) ?_
  show Go p.tables e below _ (T0.setTop (mkF m 5 #[.val (.ref a1), .unset] [(.int (8 : Int32)), (.int (0 : Int32)), (.ref a1)]))
  refine Go.by (fun _ => XS.iadd X0.here hx rfl (hb hby d3_5) rfl) ?_
  show Go p.tables e below _ (T0.setTop (mkF m 6 #[.val (.ref a1), .unset] [(.int (8 : Int32)), (.ref a1)]))
  obtain ⟨v1, T1, h1, X1, q1, st1⟩ := X0.callS hx hZ (y := (⟨"java/util/Arrays", "copyOf", "([BI)[B"⟩ : MethodName)) hown (tw hw 13 rfl) (tw hw 14 rfl) (tw hw 15 rfl) (tw hw 16 rfl) (by decide) (rm4_0 l Z a0 hw [] a1 kc fi h0 n0 Z0 V_a) (g := (mkF m 6 #[.val (.ref a1), .unset] [(.int (8 : Int32)), (.ref a1)])) rfl (by rw [hml]; rfl) (argsL := [(.ref a1), (.int (8 : Int32))]) (rest := []) (lenOf pd3 rfl) rfl (hb hby d3_6) rfl (by decide) (Nat.le_of_ble_eq_true rfl) (k' := 1) (n' := 16) rfl rfl (by decide) (by decide)
  refine Go.by st1 ?_
  obtain ⟨r1, kr1, rfl, sr1, K1, V1⟩ := q1
  have g_r1 : n0 ≤ r1 := Nat.le_trans Z0 sr1
  have sz_r1 : h0.size ≤ r1 := Nat.le_trans K0.1 sr1
  have ne_a1_r1 : a1 ≠ r1 := Nat.ne_of_lt (Nat.lt_of_lt_of_le V_a.lt sr1)
  have f2_18 := Avf.ext V_a (keep_ext K1)
  have f2_19 := K0.ext (keep_ext K1)
  have Zs2 : n0 ≤ h1.size := Nat.le_trans Z0 (keep_ext K1).1
  show Go p.tables e below _ (T1.setTop (mkF m 9 #[.val (.ref a1), .unset] [(.ref r1)]))
  refine Go.by (fun _ => XS.astoreN X1.here hx rfl (hb hby d3_9) rfl rfl (l' := #[.val (.ref a1), .val (.ref r1)]) rfl) ?_
  show Go p.tables e below _ (T1.setTop (mkF m 10 #[.val (.ref a1), .val (.ref r1)] []))
  refine Go.by (fun _ => XS.aloadN X1.here hx rfl (hb hby d3_10) rfl rfl) ?_
  show Go p.tables e below _ (T1.setTop (mkF m 11 #[.val (.ref a1), .val (.ref r1)] [(.ref r1)]))
  refine Go.by (fun _ => XS.aloadN X1.here hx rfl (hb hby d3_11) rfl rfl) ?_
  show Go p.tables e below _ (T1.setTop (mkF m 12 #[.val (.ref a1), .val (.ref r1)] [(.ref a1), (.ref r1)]))
  refine Go.by (X1.len hx hZ f2_18 (z := (0 : Int32)) rfl (g := (mkF m 12 #[.val (.ref a1), .val (.ref r1)] [(.ref a1), (.ref r1)])) rfl rfl (hb hby d3_12)) ?_
  show Go p.tables e below _ (T1.setTop (mkF m 13 #[.val (.ref a1), .val (.ref r1)] [(.int (0 : Int32)), (.ref r1)]))
  refine Go.by (fun _ => XS.aloadN X1.here hx rfl (hb hby d3_13) rfl rfl) ?_
  show Go p.tables e below _ (T1.setTop (mkF m 14 #[.val (.ref a1), .val (.ref r1)] [(.ref r1), (.int (0 : Int32)), (.ref r1)]))
  refine Go.by (X1.len hx hZ V1 (z := (8 : Int32)) rfl (g := (mkF m 14 #[.val (.ref a1), .val (.ref r1)] [(.ref r1), (.int (0 : Int32)), (.ref r1)])) rfl rfl (hb hby d3_14)) ?_
  show Go p.tables e below _ (T1.setTop (mkF m 15 #[.val (.ref a1), .val (.ref r1)] [(.int (8 : Int32)), (.int (0 : Int32)), (.ref r1)]))
  refine Go.by (fun _ => XS.iconst X1.here hx rfl (hb hby d3_15)) ?_
  show Go p.tables e below _ (T1.setTop (mkF m 16 #[.val (.ref a1), .val (.ref r1)] [(.int (-1 : Int32)), (.int (8 : Int32)), (.int (0 : Int32)), (.ref r1)]))
  obtain ⟨v3, T3, h3, X3, q3, st3⟩ := X1.callS hx hZ (y := (⟨"java/util/Arrays", "fill", "([BIIB)V"⟩ : MethodName)) hown (tw hw 25 rfl) (tw hw 26 rfl) (tw hw 15 rfl) (tw hw 27 rfl) (by decide) (rm6_0 l Z a0 hw [] r1 kr1 (fun t => if t < 0 then fi t else 0) h1 n0 Zs2 g_r1 V1) (g := (mkF m 16 #[.val (.ref a1), .val (.ref r1)] [(.int (-1 : Int32)), (.int (8 : Int32)), (.int (0 : Int32)), (.ref r1)])) rfl (by rw [hml]; rfl) (argsL := [(.ref r1), (.int (0 : Int32)), (.int (8 : Int32)), (.int (-1 : Int32))]) (rest := []) (lenOf pd4 rfl) rfl (hb hby d3_16) rfl (by decide) (Nat.le_of_ble_eq_true rfl) (k' := 1) (n' := 16) rfl rfl (by decide) (by decide)
  refine Go.by st3 ?_
  obtain ⟨rfl, K3, V3⟩ := q3
  have f4_39 := Avf.keep f2_18 K3 (ninS ne_a1_r1 nin0)
  have f4_40 := f2_19.trans K3 (allS (Or.inr sz_r1) all0)
  have Zs4 : n0 ≤ h3.size := Nat.le_trans Zs2 K3.1
  show Go p.tables e below _ (T3.setTop (mkF m 19 #[.val (.ref a1), .val (.ref r1)] []))
  refine Go.by (fun _ => XS.aloadN X3.here hx rfl (hb hby d3_19) rfl rfl) ?_
  show Go p.tables e below _ (T3.setTop (mkF m 20 #[.val (.ref a1), .val (.ref r1)] [(.ref r1)]))
  refine Go.retA X3 hx hlk hret rfl rfl (hb hby d3_20) (by decide) (by decide) ?_
  refine ⟨r1, kr1, rfl, sz_r1, f4_40, Avf.cong V3 (fun i hi => ?_)⟩
  by_cases q : i < 0 <;> first | (simp [q]; done) | (simp [q]; rfl)
abbrev Rm5_1 : Room := { frames := 0, cells := 0, slots := 0, locals := 0 }
set_option maxRecDepth 65536 in
set_option maxHeartbeats 40000000 in
theorem rm5_1 (l : Launch) (Z : State) (a0 : Array Value) (hw : ∀ d ∈ tables_1, d.before a0 Z = true) (ws : List Jvm.Cond)  (h0 : Heap) (n0 : Nat) (Z0 : n0 ≤ h0.size) :
    Met l Z n0 (⟨"java/lang/Math", "min", "(II)I"⟩ : MethodName) jdk_29_method_69_code 2 (some .int) ws Rm5_1 #[(.int (1 : Int32)), (.int (9 : Int32))] h0 (fun v h => v = some (.int (1 : Int32)) ∧ h0 = h) := by
  refine enter (Ls := #[.val (.int (1 : Int32)), .val (.int (9 : Int32))]) (Jvm.Free.JP.mathPlain rfl (by decide +kernel)) (fun m => by first | (simp [entryFrame, mkF, argsToLocals, Value.category]; done) | rfl) ?_
  intro p e s m below meth c T0 hx hby hml hown hnm hret hlk hZ X0
  show Go p.tables e below _ (T0.setTop (mkF m 0 #[.val (.int (1 : Int32)), .val (.int (9 : Int32))] []))
  refine Go.by (fun _ => XS.iloadN X0.here hx rfl (hb hby d5_0) rfl) ?_
  show Go p.tables e below _ (T0.setTop (mkF m 1 #[.val (.int (1 : Int32)), .val (.int (9 : Int32))] [(.int (1 : Int32))]))
  refine Go.by (fun _ => XS.iloadN X0.here hx rfl (hb hby d5_1) rfl) ?_
  show Go p.tables e below _ (T0.setTop (mkF m 2 #[.val (.int (1 : Int32)), .val (.int (9 : Int32))] [(.int (9 : Int32)), (.int (1 : Int32))]))
  refine Go.by (fun _ => XS.icmpNo X0.here hx rfl (hb hby d5_2) rfl (flt (by decide)).2.2.1) ?_
  show Go p.tables e below _ (T0.setTop (mkF m 5 #[.val (.int (1 : Int32)), .val (.int (9 : Int32))] []))
  refine Go.by (fun _ => XS.iloadN X0.here hx rfl (hb hby d5_5) rfl) ?_
  show Go p.tables e below _ (T0.setTop (mkF m 6 #[.val (.int (1 : Int32)), .val (.int (9 : Int32))] [(.int (1 : Int32))]))
  refine Go.by (fun _ => XS.goto X0.here hx rfl (pc0 := 6) (pc' := 10) rfl (hb hby d5_6) (by decide) (by decide)) ?_
  show Go p.tables e below _ (T0.setTop (mkF m 10 #[.val (.int (1 : Int32)), .val (.int (9 : Int32))] [(.int (1 : Int32))]))
  exact Go.retI X0 hx hlk hret (hb hby d5_10) (by decide) (by decide) ⟨rfl, rfl⟩
abbrev Rm7_1 : Room := { frames := 0, cells := 0, slots := 0, locals := 0 }
set_option maxRecDepth 65536 in
set_option maxHeartbeats 40000000 in
theorem rm7_1 (l : Launch) (Z : State) (a0 : Array Value) (hw : ∀ d ∈ tables_1, d.before a0 Z = true) (ws : List Jvm.Cond)  (h0 : Heap) (n0 : Nat) (Z0 : n0 ≤ h0.size) :
    Met l Z n0 (⟨"java/util/Arrays", "rangeCheck", "(III)V"⟩ : MethodName) jdk_65_method_30_code 3 none ws Rm7_1 #[(.int (9 : Int32)), (.int (1 : Int32)), (.int (9 : Int32))] h0 (fun v h => v = none ∧ h0 = h) := by
  refine enter (Ls := #[.val (.int (9 : Int32)), .val (.int (1 : Int32)), .val (.int (9 : Int32))]) (plainFor_of_name pn1) (fun m => by first | (simp [entryFrame, mkF, argsToLocals, Value.category]; done) | rfl) ?_
  intro p e s m below meth c T0 hx hby hml hown hnm hret hlk hZ X0
  show Go p.tables e below _ (T0.setTop (mkF m 0 #[.val (.int (9 : Int32)), .val (.int (1 : Int32)), .val (.int (9 : Int32))] []))
  refine Go.by (fun _ => XS.iloadN X0.here hx rfl (hb hby d7_0) rfl) ?_
  show Go p.tables e below _ (T0.setTop (mkF m 1 #[.val (.int (9 : Int32)), .val (.int (1 : Int32)), .val (.int (9 : Int32))] [(.int (1 : Int32))]))
  refine Go.by (fun _ => XS.iloadN X0.here hx rfl (hb hby d7_1) rfl) ?_
  show Go p.tables e below _ (T0.setTop (mkF m 2 #[.val (.int (9 : Int32)), .val (.int (1 : Int32)), .val (.int (9 : Int32))] [(.int (9 : Int32)), (.int (1 : Int32))]))
  refine Go.by (fun _ => XS.icmpYes X0.here hx rfl (pc0 := 2) (pc' := 46) rfl (hb hby d7_2) rfl (flt (by decide)).2.2.2 (by decide) (by decide)) ?_
  show Go p.tables e below _ (T0.setTop (mkF m 46 #[.val (.int (9 : Int32)), .val (.int (1 : Int32)), .val (.int (9 : Int32))] []))
  refine Go.by (fun _ => XS.iloadN X0.here hx rfl (hb hby d7_46) rfl) ?_
  show Go p.tables e below _ (T0.setTop (mkF m 47 #[.val (.int (9 : Int32)), .val (.int (1 : Int32)), .val (.int (9 : Int32))] [(.int (1 : Int32))]))
  refine Go.by (fun _ => XS.ifYes X0.here hx rfl (pc0 := 47) (pc' := 59) rfl (hb hby d7_47) rfl ((if0 _ _).trans (flt (by decide)).2.1) (by decide) (by decide)) ?_
  show Go p.tables e below _ (T0.setTop (mkF m 59 #[.val (.int (9 : Int32)), .val (.int (1 : Int32)), .val (.int (9 : Int32))] []))
  refine Go.by (fun _ => XS.iloadN X0.here hx rfl (hb hby d7_59) rfl) ?_
  show Go p.tables e below _ (T0.setTop (mkF m 60 #[.val (.int (9 : Int32)), .val (.int (1 : Int32)), .val (.int (9 : Int32))] [(.int (9 : Int32))]))
  refine Go.by (fun _ => XS.iloadN X0.here hx rfl (hb hby d7_60) rfl) ?_
  show Go p.tables e below _ (T0.setTop (mkF m 61 #[.val (.int (9 : Int32)), .val (.int (1 : Int32)), .val (.int (9 : Int32))] [(.int (9 : Int32)), (.int (9 : Int32))]))
  refine Go.by (fun _ => XS.icmpYes X0.here hx rfl (pc0 := 61) (pc' := 73) rfl (hb hby d7_61) rfl (flt (by decide)).2.2.2 (by decide) (by decide)) ?_
  show Go p.tables e below _ (T0.setTop (mkF m 73 #[.val (.int (9 : Int32)), .val (.int (1 : Int32)), .val (.int (9 : Int32))] []))
  exact Go.ret0 X0 hx hlk hret (hb hby d7_73) (by decide) (by decide) ⟨rfl, rfl⟩
abbrev Rm4_1 : Room := { frames := 1, cells := 1, slots := 16, locals := 18 }
set_option maxRecDepth 65536 in
set_option maxHeartbeats 40000000 in
theorem rm4_1 (l : Launch) (Z : State) (a0 : Array Value) (hw : ∀ d ∈ tables_1, d.before a0 Z = true) (ws : List Jvm.Cond) (a1 : Addr) (kc : ClassId) (fi : Nat → Int32) (h0 : Heap) (n0 : Nat) (Z0 : n0 ≤ h0.size) (V_a : Avf Z h0 a1 kc .byte 1 (fun t => (.int (fi t)))) :
    Met l Z n0 (⟨"java/util/Arrays", "copyOf", "([BI)[B"⟩ : MethodName) jdk_65_method_121_code 3 (some (.array .byte)) ws Rm4_1 #[(.ref a1), (.int (9 : Int32))] h0 (fun v h => ∃ r kr, v = some (.ref r) ∧ h0.size ≤ r ∧ Keep h0 h [] ∧ Avf Z h r kr .byte (1 + 8) (fun t => (.int (if t < 1 then fi t else 0)))) := by
  refine enter (Ls := #[.val (.ref a1), .val (.int (9 : Int32)), .unset]) (plainFor_of_name pn1) (fun m => by first | (simp [entryFrame, mkF, argsToLocals, Value.category]; done) | rfl) ?_
  intro p e s m below meth c T0 hx hby hml hown hnm hret hlk hZ X0
  have K0 := Keep.refl h0 []
  show Go p.tables e below _ (T0.setTop (mkF m 0 #[.val (.ref a1), .val (.int (9 : Int32)), .unset] []))
  refine Go.by (fun _ => XS.iloadN X0.here hx rfl (hb hby d4_0) rfl) ?_
  show Go p.tables e below _ (T0.setTop (mkF m 1 #[.val (.ref a1), .val (.int (9 : Int32)), .unset] [(.int (9 : Int32))]))
  refine Go.by (fun _ => XS.aloadN X0.here hx rfl (hb hby d4_1) rfl rfl) ?_
  show Go p.tables e below _ (T0.setTop (mkF m 2 #[.val (.ref a1), .val (.int (9 : Int32)), .unset] [(.ref a1), (.int (9 : Int32))]))
  refine Go.by (X0.len hx hZ V_a (z := (1 : Int32)) rfl (g := (mkF m 2 #[.val (.ref a1), .val (.int (9 : Int32)), .unset] [(.ref a1), (.int (9 : Int32))])) rfl rfl (hb hby d4_2)) ?_
  show Go p.tables e below _ (T0.setTop (mkF m 3 #[.val (.ref a1), .val (.int (9 : Int32)), .unset] [(.int (1 : Int32)), (.int (9 : Int32))]))
  refine Go.by (fun _ => XS.icmpYes X0.here hx rfl (pc0 := 3) (pc' := 14) rfl (hb hby d4_3) rfl (feq (by decide)).2 (by decide) (by decide)) ?_
  show Go p.tables e below _ (T0.setTop (mkF m 14 #[.val (.ref a1), .val (.int (9 : Int32)), .unset] []))
  refine Go.by (fun _ => XS.iloadN X0.here hx rfl (hb hby d4_14) rfl) ?_
  show Go p.tables e below _ (T0.setTop (mkF m 15 #[.val (.ref a1), .val (.int (9 : Int32)), .unset] [(.int (9 : Int32))]))
  obtain ⟨T1, h1, kc1, b1, X1, g1, E1, A1, V1, st1⟩ := X0.newP hx hZ (tw hw 1 rfl) (g := (mkF m 15 #[.val (.ref a1), .val (.int (9 : Int32)), .unset] [(.int (9 : Int32))])) rfl (hb hby d4_15) rfl (by decide) (sz := 9) (cap := 16) (k' := 1) (n' := 16) rfl (by decide) (by decide) rfl rfl (by decide) (by decide) (ad := "[B") (by decide)
  have g_b1 : n0 ≤ b1 := by rw [g1]; exact Z0
  have sz_b1 : h0.size ≤ b1 := by rw [g1]; exact K0.1
  have ne_a1_b1 : a1 ≠ b1 := Nat.ne_of_lt (by rw [g1]; exact V_a.lt)
  have f2_16 := Avf.ext V_a E1
  have f2_17 := K0.ext E1
  have Zs2 : n0 ≤ h1.size := Nat.le_trans Z0 E1.1
  refine Go.by st1 ?_
  show Go p.tables e below _ (T1.setTop (mkF m 17 #[.val (.ref a1), .val (.int (9 : Int32)), .unset] [(.ref b1)]))
  refine Go.by (fun _ => XS.astoreN X1.here hx rfl (hb hby d4_17) rfl rfl (l' := #[.val (.ref a1), .val (.int (9 : Int32)), .val (.ref b1)]) rfl) ?_
  show Go p.tables e below _ (T1.setTop (mkF m 18 #[.val (.ref a1), .val (.int (9 : Int32)), .val (.ref b1)] []))
  refine Go.by (fun _ => XS.aloadN X1.here hx rfl (hb hby d4_18) rfl rfl) ?_
  show Go p.tables e below _ (T1.setTop (mkF m 19 #[.val (.ref a1), .val (.int (9 : Int32)), .val (.ref b1)] [(.ref a1)]))
  refine Go.by (fun _ => XS.iconst X1.here hx rfl (hb hby d4_19)) ?_
  show Go p.tables e below _ (T1.setTop (mkF m 20 #[.val (.ref a1), .val (.int (9 : Int32)), .val (.ref b1)] [(.int (0 : Int32)), (.ref a1)]))
  refine Go.by (fun _ => XS.aloadN X1.here hx rfl (hb hby d4_20) rfl rfl) ?_
  show Go p.tables e below _ (T1.setTop (mkF m 21 #[.val (.ref a1), .val (.int (9 : Int32)), .val (.ref b1)] [(.ref b1), (.int (0 : Int32)), (.ref a1)]))
  refine Go.by (fun _ => XS.iconst X1.here hx rfl (hb hby d4_21)) ?_
  show Go p.tables e below _ (T1.setTop (mkF m 22 #[.val (.ref a1), .val (.int (9 : Int32)), .val (.ref b1)] [(.int (0 : Int32)), (.ref b1), (.int (0 : Int32)), (.ref a1)]))
  refine Go.by (fun _ => XS.aloadN X1.here hx rfl (hb hby d4_22) rfl rfl) ?_
  show Go p.tables e below _ (T1.setTop (mkF m 23 #[.val (.ref a1), .val (.int (9 : Int32)), .val (.ref b1)] [(.ref a1), (.int (0 : Int32)), (.ref b1), (.int (0 : Int32)), (.ref a1)]))
  refine Go.by (X1.len hx hZ f2_16 (z := (1 : Int32)) rfl (g := (mkF m 23 #[.val (.ref a1), .val (.int (9 : Int32)), .val (.ref b1)] [(.ref a1), (.int (0 : Int32)), (.ref b1), (.int (0 : Int32)), (.ref a1)])) rfl rfl (hb hby d4_23)) ?_
  show Go p.tables e below _ (T1.setTop (mkF m 24 #[.val (.ref a1), .val (.int (9 : Int32)), .val (.ref b1)] [(.int (1 : Int32)), (.int (0 : Int32)), (.ref b1), (.int (0 : Int32)), (.ref a1)]))
  refine Go.by (fun _ => XS.iloadN X1.here hx rfl (hb hby d4_24) rfl) ?_
  show Go p.tables e below _ (T1.setTop (mkF m 25 #[.val (.ref a1), .val (.int (9 : Int32)), .val (.ref b1)] [(.int (9 : Int32)), (.int (1 : Int32)), (.int (0 : Int32)), (.ref b1), (.int (0 : Int32)), (.ref a1)]))
  obtain ⟨v3, T3, h3, X3, q3, st3⟩ := X1.callS hx hZ (y := (⟨"java/lang/Math", "min", "(II)I"⟩ : MethodName)) hown (tw hw 17 rfl) (tw hw 18 rfl) (tw hw 19 rfl) (tw hw 20 rfl) (by decide) (rm5_1 l Z a0 hw [] h1 n0 Zs2) (g := (mkF m 25 #[.val (.ref a1), .val (.int (9 : Int32)), .val (.ref b1)] [(.int (9 : Int32)), (.int (1 : Int32)), (.int (0 : Int32)), (.ref b1), (.int (0 : Int32)), (.ref a1)])) rfl (by rw [hml]; rfl) (argsL := [(.int (1 : Int32)), (.int (9 : Int32))]) (rest := [(.int (0 : Int32)), (.ref b1), (.int (0 : Int32)), (.ref a1)]) (lenOf pd1 rfl) rfl (hb hby d4_25) rfl (by decide) (Nat.le_of_ble_eq_true rfl) (k' := 1) (n' := 16) rfl rfl (by decide) (by decide)
  refine Go.by st3 ?_
  obtain ⟨rfl, rfl⟩ := q3
  show Go p.tables e below _ (T3.setTop (mkF m 28 #[.val (.ref a1), .val (.int (9 : Int32)), .val (.ref b1)] [(.int (1 : Int32)), (.int (0 : Int32)), (.ref b1), (.int (0 : Int32)), (.ref a1)]))
  obtain ⟨T4, h4, X4, K4, V4, st4⟩ := X3.acopy hx hZ hown (tw hw 21 rfl) (tw hw 24 rfl) (tw hw 22 rfl) (tw hw 23 rfl) f2_16 V1 rfl g_b1 (by decide) (by decide) (by decide) (i := 0) (j := 0) (cc := 1) rfl rfl rfl (by decide) (by decide) (g := (mkF m 28 #[.val (.ref a1), .val (.int (9 : Int32)), .val (.ref b1)] [(.int (1 : Int32)), (.int (0 : Int32)), (.ref b1), (.int (0 : Int32)), (.ref a1)])) rfl (by rw [hml]; rfl) rfl (hb hby d4_28) (by decide) (Nat.le_of_ble_eq_true rfl)
  have f5_42 := Avf.keep f2_16 K4 (ninS ne_a1_b1 nin0)
  have f5_43 := f2_17.trans K4 (allS (Or.inr sz_b1) all0)
  have f5_44 := A1.keep K4
  have Zs5 : n0 ≤ h4.size := Nat.le_trans Zs2 K4.1
  refine Go.by st4 ?_
  show Go p.tables e below _ (T4.setTop (mkF m 31 #[.val (.ref a1), .val (.int (9 : Int32)), .val (.ref b1)] []))
  refine Go.by (fun _ => XS.aloadN X4.here hx rfl (hb hby d4_31) rfl rfl) ?_
  show Go p.tables e below _ (T4.setTop (mkF m 32 #[.val (.ref a1), .val (.int (9 : Int32)), .val (.ref b1)] [(.ref b1)]))
  refine Go.retA X4 hx hlk hret rfl rfl (hb hby d4_32) (by decide) (by decide) ?_
  refine ⟨b1, kc1, rfl, sz_b1, f5_43, Avf.cong V4 (fun i hi => ?_)⟩
  by_cases q : i < 1 <;> first | (simp [q]; done) | (simp [q]; rfl)
abbrev Rm6_1 : Room := { frames := 1, cells := 0, slots := 0, locals := 14 }
set_option maxRecDepth 65536 in
set_option maxHeartbeats 40000000 in
theorem rm6_1 (l : Launch) (Z : State) (a0 : Array Value) (hw : ∀ d ∈ tables_1, d.before a0 Z = true) (ws : List Jvm.Cond) (a1 : Addr) (kc : ClassId) (fi : Nat → Int32) (h0 : Heap) (n0 : Nat) (Z0 : n0 ≤ h0.size) (g_a1 : n0 ≤ a1) (V_a : Avf Z h0 a1 kc .byte 9 (fun t => (.int (fi t)))) :
    Met l Z n0 (⟨"java/util/Arrays", "fill", "([BIIB)V"⟩ : MethodName) jdk_65_method_110_code 5 none ws Rm6_1 #[(.ref a1), (.int (1 : Int32)), (.int (9 : Int32)), (.int (-1 : Int32))] h0 (fun v h => v = none ∧ Keep h0 h [a1] ∧ Avf Z h a1 kc .byte 9 (fun t => (.int (if t < 1 then fi t else -1)))) := by
  refine enter (Ls := #[.val (.ref a1), .val (.int (1 : Int32)), .val (.int (9 : Int32)), .val (.int (-1 : Int32)), .unset]) (plainFor_of_name pn1) (fun m => by first | (simp [entryFrame, mkF, argsToLocals, Value.category]; done) | rfl) ?_
  intro p e s m below meth c T0 hx hby hml hown hnm hret hlk hZ X0
  have K0 := Keep.refl h0 [a1]
  show Go p.tables e below _ (T0.setTop (mkF m 0 #[.val (.ref a1), .val (.int (1 : Int32)), .val (.int (9 : Int32)), .val (.int (-1 : Int32)), .unset] []))
  refine Go.by (fun _ => XS.aloadN X0.here hx rfl (hb hby d6_0) rfl rfl) ?_
  show Go p.tables e below _ (T0.setTop (mkF m 1 #[.val (.ref a1), .val (.int (1 : Int32)), .val (.int (9 : Int32)), .val (.int (-1 : Int32)), .unset] [(.ref a1)]))
  refine Go.by (X0.len hx hZ V_a (z := (9 : Int32)) rfl (g := (mkF m 1 #[.val (.ref a1), .val (.int (1 : Int32)), .val (.int (9 : Int32)), .val (.int (-1 : Int32)), .unset] [(.ref a1)])) rfl rfl (hb hby d6_1)) ?_
  show Go p.tables e below _ (T0.setTop (mkF m 2 #[.val (.ref a1), .val (.int (1 : Int32)), .val (.int (9 : Int32)), .val (.int (-1 : Int32)), .unset] [(.int (9 : Int32))]))
  refine Go.by (fun _ => XS.iloadN X0.here hx rfl (hb hby d6_2) rfl) ?_
  show Go p.tables e below _ (T0.setTop (mkF m 3 #[.val (.ref a1), .val (.int (1 : Int32)), .val (.int (9 : Int32)), .val (.int (-1 : Int32)), .unset] [(.int (1 : Int32)), (.int (9 : Int32))]))
  refine Go.by (fun _ => XS.iloadN X0.here hx rfl (hb hby d6_3) rfl) ?_
  show Go p.tables e below _ (T0.setTop (mkF m 4 #[.val (.ref a1), .val (.int (1 : Int32)), .val (.int (9 : Int32)), .val (.int (-1 : Int32)), .unset] [(.int (9 : Int32)), (.int (1 : Int32)), (.int (9 : Int32))]))
  obtain ⟨v1, T1, h1, X1, q1, st1⟩ := X0.callS hx hZ (y := (⟨"java/util/Arrays", "rangeCheck", "(III)V"⟩ : MethodName)) hown (tw hw 28 rfl) (tw hw 29 rfl) (tw hw 15 rfl) (tw hw 30 rfl) (by decide) (rm7_1 l Z a0 hw [] h0 n0 Z0) (g := (mkF m 4 #[.val (.ref a1), .val (.int (1 : Int32)), .val (.int (9 : Int32)), .val (.int (-1 : Int32)), .unset] [(.int (9 : Int32)), (.int (1 : Int32)), (.int (9 : Int32))])) rfl (by rw [hml]; rfl) (argsL := [(.int (9 : Int32)), (.int (1 : Int32)), (.int (9 : Int32))]) (rest := []) (lenOf pd2 rfl) rfl (hb hby d6_4) rfl (by decide) (Nat.le_of_ble_eq_true rfl) (k' := 0) (n' := 0) rfl rfl (by decide) (by decide)
  refine Go.by st1 ?_
  obtain ⟨rfl, rfl⟩ := q1
  show Go p.tables e below _ (T1.setTop (mkF m 7 #[.val (.ref a1), .val (.int (1 : Int32)), .val (.int (9 : Int32)), .val (.int (-1 : Int32)), .unset] []))
  refine Go.by (fun _ => XS.iloadN X1.here hx rfl (hb hby d6_7) rfl) ?_
  show Go p.tables e below _ (T1.setTop (mkF m 8 #[.val (.ref a1), .val (.int (1 : Int32)), .val (.int (9 : Int32)), .val (.int (-1 : Int32)), .unset] [(.int (1 : Int32))]))
  refine Go.by (fun _ => XS.istore X1.here hx rfl (hb hby d6_8) rfl (l' := #[.val (.ref a1), .val (.int (1 : Int32)), .val (.int (9 : Int32)), .val (.int (-1 : Int32)), .val (.int (1 : Int32))]) rfl) ?_
  show Go p.tables e below _ (T1.setTop (mkF m 10 #[.val (.ref a1), .val (.int (1 : Int32)), .val (.int (9 : Int32)), .val (.int (-1 : Int32)), .val (.int (1 : Int32))] []))
  refine Go.by (fun _ => XS.iload X1.here hx rfl (hb hby d6_10) rfl) ?_
  show Go p.tables e below _ (T1.setTop (mkF m 12 #[.val (.ref a1), .val (.int (1 : Int32)), .val (.int (9 : Int32)), .val (.int (-1 : Int32)), .val (.int (1 : Int32))] [(.int (1 : Int32))]))
  refine Go.by (fun _ => XS.iloadN X1.here hx rfl (hb hby d6_12) rfl) ?_
  show Go p.tables e below _ (T1.setTop (mkF m 13 #[.val (.ref a1), .val (.int (1 : Int32)), .val (.int (9 : Int32)), .val (.int (-1 : Int32)), .val (.int (1 : Int32))] [(.int (9 : Int32)), (.int (1 : Int32))]))
  refine Go.by (fun _ => XS.icmpNo X1.here hx rfl (hb hby d6_13) rfl (tlt (by decide)).2.1) ?_
  show Go p.tables e below _ (T1.setTop (mkF m 16 #[.val (.ref a1), .val (.int (1 : Int32)), .val (.int (9 : Int32)), .val (.int (-1 : Int32)), .val (.int (1 : Int32))] []))
  refine Go.by (fun _ => XS.aloadN X1.here hx rfl (hb hby d6_16) rfl rfl) ?_
  show Go p.tables e below _ (T1.setTop (mkF m 17 #[.val (.ref a1), .val (.int (1 : Int32)), .val (.int (9 : Int32)), .val (.int (-1 : Int32)), .val (.int (1 : Int32))] [(.ref a1)]))
  refine Go.by (fun _ => XS.iload X1.here hx rfl (hb hby d6_17) rfl) ?_
  show Go p.tables e below _ (T1.setTop (mkF m 19 #[.val (.ref a1), .val (.int (1 : Int32)), .val (.int (9 : Int32)), .val (.int (-1 : Int32)), .val (.int (1 : Int32))] [(.int (1 : Int32)), (.ref a1)]))
  refine Go.by (fun _ => XS.iloadN X1.here hx rfl (hb hby d6_19) rfl) ?_
  show Go p.tables e below _ (T1.setTop (mkF m 20 #[.val (.ref a1), .val (.int (1 : Int32)), .val (.int (9 : Int32)), .val (.int (-1 : Int32)), .val (.int (1 : Int32))] [(.int (-1 : Int32)), (.int (1 : Int32)), (.ref a1)]))
  obtain ⟨T2, h2, X2, W2, V2, st2⟩ := X1.stB hx hZ V_a g_a1 (by decide) (i := 1) rfl (by decide) (g := (mkF m 20 #[.val (.ref a1), .val (.int (1 : Int32)), .val (.int (9 : Int32)), .val (.int (-1 : Int32)), .val (.int (1 : Int32))] [(.int (-1 : Int32)), (.int (1 : Int32)), (.ref a1)])) rfl rfl (hb hby d6_20)
  have f3_31 := K0.wr W2 (Or.inl (List.mem_of_getElem? (i := 0) rfl))
  have Zs3 : n0 ≤ h2.size := by rw [W2.size]; exact Z0
  refine Go.by st2 ?_
  show Go p.tables e below _ (T2.setTop (mkF m 21 #[.val (.ref a1), .val (.int (1 : Int32)), .val (.int (9 : Int32)), .val (.int (-1 : Int32)), .val (.int (1 : Int32))] []))
  refine Go.by (fun _ => XS.iinc X2.here hx rfl (hb hby d6_21) rfl (l' := #[.val (.ref a1), .val (.int (1 : Int32)), .val (.int (9 : Int32)), .val (.int (-1 : Int32)), .val (.int (2 : Int32))]) rfl) ?_
  show Go p.tables e below _ (T2.setTop (mkF m 24 #[.val (.ref a1), .val (.int (1 : Int32)), .val (.int (9 : Int32)), .val (.int (-1 : Int32)), .val (.int (2 : Int32))] []))
  refine Go.by (fun _ => XS.goto X2.here hx rfl (pc0 := 24) (pc' := 10) rfl (hb hby d6_24) (by decide) (by decide)) ?_
  show Go p.tables e below _ (T2.setTop (mkF m 10 #[.val (.ref a1), .val (.int (1 : Int32)), .val (.int (9 : Int32)), .val (.int (-1 : Int32)), .val (.int (2 : Int32))] []))
  refine Go.by (fun _ => XS.iload X2.here hx rfl (hb hby d6_10) rfl) ?_
  show Go p.tables e below _ (T2.setTop (mkF m 12 #[.val (.ref a1), .val (.int (1 : Int32)), .val (.int (9 : Int32)), .val (.int (-1 : Int32)), .val (.int (2 : Int32))] [(.int (2 : Int32))]))
  refine Go.by (fun _ => XS.iloadN X2.here hx rfl (hb hby d6_12) rfl) ?_
  show Go p.tables e below _ (T2.setTop (mkF m 13 #[.val (.ref a1), .val (.int (1 : Int32)), .val (.int (9 : Int32)), .val (.int (-1 : Int32)), .val (.int (2 : Int32))] [(.int (9 : Int32)), (.int (2 : Int32))]))
  refine Go.by (fun _ => XS.icmpNo X2.here hx rfl (hb hby d6_13) rfl (tlt (by decide)).2.1) ?_
  show Go p.tables e below _ (T2.setTop (mkF m 16 #[.val (.ref a1), .val (.int (1 : Int32)), .val (.int (9 : Int32)), .val (.int (-1 : Int32)), .val (.int (2 : Int32))] []))
  refine Go.by (fun _ => XS.aloadN X2.here hx rfl (hb hby d6_16) rfl rfl) ?_
  show Go p.tables e below _ (T2.setTop (mkF m 17 #[.val (.ref a1), .val (.int (1 : Int32)), .val (.int (9 : Int32)), .val (.int (-1 : Int32)), .val (.int (2 : Int32))] [(.ref a1)]))
  refine Go.by (fun _ => XS.iload X2.here hx rfl (hb hby d6_17) rfl) ?_
  show Go p.tables e below _ (T2.setTop (mkF m 19 #[.val (.ref a1), .val (.int (1 : Int32)), .val (.int (9 : Int32)), .val (.int (-1 : Int32)), .val (.int (2 : Int32))] [(.int (2 : Int32)), (.ref a1)]))
  refine Go.by (fun _ => XS.iloadN X2.here hx rfl (hb hby d6_19) rfl) ?_
  show Go p.tables e below _ (T2.setTop (mkF m 20 #[.val (.ref a1), .val (.int (1 : Int32)), .val (.int (9 : Int32)), .val (.int (-1 : Int32)), .val (.int (2 : Int32))] [(.int (-1 : Int32)), (.int (2 : Int32)), (.ref a1)]))
  obtain ⟨T4, h4, X4, W4, V4, st4⟩ := X2.stB hx hZ V2 g_a1 (by decide) (i := 2) rfl (by decide) (g := (mkF m 20 #[.val (.ref a1), .val (.int (1 : Int32)), .val (.int (9 : Int32)), .val (.int (-1 : Int32)), .val (.int (2 : Int32))] [(.int (-1 : Int32)), (.int (2 : Int32)), (.ref a1)])) rfl rfl (hb hby d6_20)
  have f5_52 := f3_31.wr W4 (Or.inl (List.mem_of_getElem? (i := 0) rfl))
  have Zs5 : n0 ≤ h4.size := by rw [W4.size]; exact Zs3
  refine Go.by st4 ?_
  show Go p.tables e below _ (T4.setTop (mkF m 21 #[.val (.ref a1), .val (.int (1 : Int32)), .val (.int (9 : Int32)), .val (.int (-1 : Int32)), .val (.int (2 : Int32))] []))
  refine Go.by (fun _ => XS.iinc X4.here hx rfl (hb hby d6_21) rfl (l' := #[.val (.ref a1), .val (.int (1 : Int32)), .val (.int (9 : Int32)), .val (.int (-1 : Int32)), .val (.int (3 : Int32))]) rfl) ?_
  show Go p.tables e below _ (T4.setTop (mkF m 24 #[.val (.ref a1), .val (.int (1 : Int32)), .val (.int (9 : Int32)), .val (.int (-1 : Int32)), .val (.int (3 : Int32))] []))
  refine Go.by (fun _ => XS.goto X4.here hx rfl (pc0 := 24) (pc' := 10) rfl (hb hby d6_24) (by decide) (by decide)) ?_
  show Go p.tables e below _ (T4.setTop (mkF m 10 #[.val (.ref a1), .val (.int (1 : Int32)), .val (.int (9 : Int32)), .val (.int (-1 : Int32)), .val (.int (3 : Int32))] []))
  refine Go.by (fun _ => XS.iload X4.here hx rfl (hb hby d6_10) rfl) ?_
  show Go p.tables e below _ (T4.setTop (mkF m 12 #[.val (.ref a1), .val (.int (1 : Int32)), .val (.int (9 : Int32)), .val (.int (-1 : Int32)), .val (.int (3 : Int32))] [(.int (3 : Int32))]))
  refine Go.by (fun _ => XS.iloadN X4.here hx rfl (hb hby d6_12) rfl) ?_
  show Go p.tables e below _ (T4.setTop (mkF m 13 #[.val (.ref a1), .val (.int (1 : Int32)), .val (.int (9 : Int32)), .val (.int (-1 : Int32)), .val (.int (3 : Int32))] [(.int (9 : Int32)), (.int (3 : Int32))]))
  refine Go.by (fun _ => XS.icmpNo X4.here hx rfl (hb hby d6_13) rfl (tlt (by decide)).2.1) ?_
  show Go p.tables e below _ (T4.setTop (mkF m 16 #[.val (.ref a1), .val (.int (1 : Int32)), .val (.int (9 : Int32)), .val (.int (-1 : Int32)), .val (.int (3 : Int32))] []))
  refine Go.by (fun _ => XS.aloadN X4.here hx rfl (hb hby d6_16) rfl rfl) ?_
  show Go p.tables e below _ (T4.setTop (mkF m 17 #[.val (.ref a1), .val (.int (1 : Int32)), .val (.int (9 : Int32)), .val (.int (-1 : Int32)), .val (.int (3 : Int32))] [(.ref a1)]))
  refine Go.by (fun _ => XS.iload X4.here hx rfl (hb hby d6_17) rfl) ?_
  show Go p.tables e below _ (T4.setTop (mkF m 19 #[.val (.ref a1), .val (.int (1 : Int32)), .val (.int (9 : Int32)), .val (.int (-1 : Int32)), .val (.int (3 : Int32))] [(.int (3 : Int32)), (.ref a1)]))
  refine Go.by (fun _ => XS.iloadN X4.here hx rfl (hb hby d6_19) rfl) ?_
  show Go p.tables e below _ (T4.setTop (mkF m 20 #[.val (.ref a1), .val (.int (1 : Int32)), .val (.int (9 : Int32)), .val (.int (-1 : Int32)), .val (.int (3 : Int32))] [(.int (-1 : Int32)), (.int (3 : Int32)), (.ref a1)]))
  obtain ⟨T6, h6, X6, W6, V6, st6⟩ := X4.stB hx hZ V4 g_a1 (by decide) (i := 3) rfl (by decide) (g := (mkF m 20 #[.val (.ref a1), .val (.int (1 : Int32)), .val (.int (9 : Int32)), .val (.int (-1 : Int32)), .val (.int (3 : Int32))] [(.int (-1 : Int32)), (.int (3 : Int32)), (.ref a1)])) rfl rfl (hb hby d6_20)
  have f7_73 := f5_52.wr W6 (Or.inl (List.mem_of_getElem? (i := 0) rfl))
  have Zs7 : n0 ≤ h6.size := by rw [W6.size]; exact Zs5
  refine Go.by st6 ?_
  show Go p.tables e below _ (T6.setTop (mkF m 21 #[.val (.ref a1), .val (.int (1 : Int32)), .val (.int (9 : Int32)), .val (.int (-1 : Int32)), .val (.int (3 : Int32))] []))
  refine Go.by (fun _ => XS.iinc X6.here hx rfl (hb hby d6_21) rfl (l' := #[.val (.ref a1), .val (.int (1 : Int32)), .val (.int (9 : Int32)), .val (.int (-1 : Int32)), .val (.int (4 : Int32))]) rfl) ?_
  show Go p.tables e below _ (T6.setTop (mkF m 24 #[.val (.ref a1), .val (.int (1 : Int32)), .val (.int (9 : Int32)), .val (.int (-1 : Int32)), .val (.int (4 : Int32))] []))
  refine Go.by (fun _ => XS.goto X6.here hx rfl (pc0 := 24) (pc' := 10) rfl (hb hby d6_24) (by decide) (by decide)) ?_
  show Go p.tables e below _ (T6.setTop (mkF m 10 #[.val (.ref a1), .val (.int (1 : Int32)), .val (.int (9 : Int32)), .val (.int (-1 : Int32)), .val (.int (4 : Int32))] []))
  refine Go.by (fun _ => XS.iload X6.here hx rfl (hb hby d6_10) rfl) ?_
  show Go p.tables e below _ (T6.setTop (mkF m 12 #[.val (.ref a1), .val (.int (1 : Int32)), .val (.int (9 : Int32)), .val (.int (-1 : Int32)), .val (.int (4 : Int32))] [(.int (4 : Int32))]))
  refine Go.by (fun _ => XS.iloadN X6.here hx rfl (hb hby d6_12) rfl) ?_
  show Go p.tables e below _ (T6.setTop (mkF m 13 #[.val (.ref a1), .val (.int (1 : Int32)), .val (.int (9 : Int32)), .val (.int (-1 : Int32)), .val (.int (4 : Int32))] [(.int (9 : Int32)), (.int (4 : Int32))]))
  refine Go.by (fun _ => XS.icmpNo X6.here hx rfl (hb hby d6_13) rfl (tlt (by decide)).2.1) ?_
  show Go p.tables e below _ (T6.setTop (mkF m 16 #[.val (.ref a1), .val (.int (1 : Int32)), .val (.int (9 : Int32)), .val (.int (-1 : Int32)), .val (.int (4 : Int32))] []))
  refine Go.by (fun _ => XS.aloadN X6.here hx rfl (hb hby d6_16) rfl rfl) ?_
  show Go p.tables e below _ (T6.setTop (mkF m 17 #[.val (.ref a1), .val (.int (1 : Int32)), .val (.int (9 : Int32)), .val (.int (-1 : Int32)), .val (.int (4 : Int32))] [(.ref a1)]))
  refine Go.by (fun _ => XS.iload X6.here hx rfl (hb hby d6_17) rfl) ?_
  show Go p.tables e below _ (T6.setTop (mkF m 19 #[.val (.ref a1), .val (.int (1 : Int32)), .val (.int (9 : Int32)), .val (.int (-1 : Int32)), .val (.int (4 : Int32))] [(.int (4 : Int32)), (.ref a1)]))
  refine Go.by (fun _ => XS.iloadN X6.here hx rfl (hb hby d6_19) rfl) ?_
  show Go p.tables e below _ (T6.setTop (mkF m 20 #[.val (.ref a1), .val (.int (1 : Int32)), .val (.int (9 : Int32)), .val (.int (-1 : Int32)), .val (.int (4 : Int32))] [(.int (-1 : Int32)), (.int (4 : Int32)), (.ref a1)]))
  obtain ⟨T8, h8, X8, W8, V8, st8⟩ := X6.stB hx hZ V6 g_a1 (by decide) (i := 4) rfl (by decide) (g := (mkF m 20 #[.val (.ref a1), .val (.int (1 : Int32)), .val (.int (9 : Int32)), .val (.int (-1 : Int32)), .val (.int (4 : Int32))] [(.int (-1 : Int32)), (.int (4 : Int32)), (.ref a1)])) rfl rfl (hb hby d6_20)
  have f9_94 := f7_73.wr W8 (Or.inl (List.mem_of_getElem? (i := 0) rfl))
  have Zs9 : n0 ≤ h8.size := by rw [W8.size]; exact Zs7
  refine Go.by st8 ?_
  show Go p.tables e below _ (T8.setTop (mkF m 21 #[.val (.ref a1), .val (.int (1 : Int32)), .val (.int (9 : Int32)), .val (.int (-1 : Int32)), .val (.int (4 : Int32))] []))
  refine Go.by (fun _ => XS.iinc X8.here hx rfl (hb hby d6_21) rfl (l' := #[.val (.ref a1), .val (.int (1 : Int32)), .val (.int (9 : Int32)), .val (.int (-1 : Int32)), .val (.int (5 : Int32))]) rfl) ?_
  show Go p.tables e below _ (T8.setTop (mkF m 24 #[.val (.ref a1), .val (.int (1 : Int32)), .val (.int (9 : Int32)), .val (.int (-1 : Int32)), .val (.int (5 : Int32))] []))
  refine Go.by (fun _ => XS.goto X8.here hx rfl (pc0 := 24) (pc' := 10) rfl (hb hby d6_24) (by decide) (by decide)) ?_
  show Go p.tables e below _ (T8.setTop (mkF m 10 #[.val (.ref a1), .val (.int (1 : Int32)), .val (.int (9 : Int32)), .val (.int (-1 : Int32)), .val (.int (5 : Int32))] []))
  refine Go.by (fun _ => XS.iload X8.here hx rfl (hb hby d6_10) rfl) ?_
  show Go p.tables e below _ (T8.setTop (mkF m 12 #[.val (.ref a1), .val (.int (1 : Int32)), .val (.int (9 : Int32)), .val (.int (-1 : Int32)), .val (.int (5 : Int32))] [(.int (5 : Int32))]))
  refine Go.by (fun _ => XS.iloadN X8.here hx rfl (hb hby d6_12) rfl) ?_
  show Go p.tables e below _ (T8.setTop (mkF m 13 #[.val (.ref a1), .val (.int (1 : Int32)), .val (.int (9 : Int32)), .val (.int (-1 : Int32)), .val (.int (5 : Int32))] [(.int (9 : Int32)), (.int (5 : Int32))]))
  refine Go.by (fun _ => XS.icmpNo X8.here hx rfl (hb hby d6_13) rfl (tlt (by decide)).2.1) ?_
  show Go p.tables e below _ (T8.setTop (mkF m 16 #[.val (.ref a1), .val (.int (1 : Int32)), .val (.int (9 : Int32)), .val (.int (-1 : Int32)), .val (.int (5 : Int32))] []))
  refine Go.by (fun _ => XS.aloadN X8.here hx rfl (hb hby d6_16) rfl rfl) ?_
  show Go p.tables e below _ (T8.setTop (mkF m 17 #[.val (.ref a1), .val (.int (1 : Int32)), .val (.int (9 : Int32)), .val (.int (-1 : Int32)), .val (.int (5 : Int32))] [(.ref a1)]))
  refine Go.by (fun _ => XS.iload X8.here hx rfl (hb hby d6_17) rfl) ?_
  show Go p.tables e below _ (T8.setTop (mkF m 19 #[.val (.ref a1), .val (.int (1 : Int32)), .val (.int (9 : Int32)), .val (.int (-1 : Int32)), .val (.int (5 : Int32))] [(.int (5 : Int32)), (.ref a1)]))
  refine Go.by (fun _ => XS.iloadN X8.here hx rfl (hb hby d6_19) rfl) ?_
  show Go p.tables e below _ (T8.setTop (mkF m 20 #[.val (.ref a1), .val (.int (1 : Int32)), .val (.int (9 : Int32)), .val (.int (-1 : Int32)), .val (.int (5 : Int32))] [(.int (-1 : Int32)), (.int (5 : Int32)), (.ref a1)]))
  obtain ⟨T10, h10, X10, W10, V10, st10⟩ := X8.stB hx hZ V8 g_a1 (by decide) (i := 5) rfl (by decide) (g := (mkF m 20 #[.val (.ref a1), .val (.int (1 : Int32)), .val (.int (9 : Int32)), .val (.int (-1 : Int32)), .val (.int (5 : Int32))] [(.int (-1 : Int32)), (.int (5 : Int32)), (.ref a1)])) rfl rfl (hb hby d6_20)
  have f11_115 := f9_94.wr W10 (Or.inl (List.mem_of_getElem? (i := 0) rfl))
  have Zs11 : n0 ≤ h10.size := by rw [W10.size]; exact Zs9
  refine Go.by st10 ?_
  show Go p.tables e below _ (T10.setTop (mkF m 21 #[.val (.ref a1), .val (.int (1 : Int32)), .val (.int (9 : Int32)), .val (.int (-1 : Int32)), .val (.int (5 : Int32))] []))
  refine Go.by (fun _ => XS.iinc X10.here hx rfl (hb hby d6_21) rfl (l' := #[.val (.ref a1), .val (.int (1 : Int32)), .val (.int (9 : Int32)), .val (.int (-1 : Int32)), .val (.int (6 : Int32))]) rfl) ?_
  show Go p.tables e below _ (T10.setTop (mkF m 24 #[.val (.ref a1), .val (.int (1 : Int32)), .val (.int (9 : Int32)), .val (.int (-1 : Int32)), .val (.int (6 : Int32))] []))
  refine Go.by (fun _ => XS.goto X10.here hx rfl (pc0 := 24) (pc' := 10) rfl (hb hby d6_24) (by decide) (by decide)) ?_
  show Go p.tables e below _ (T10.setTop (mkF m 10 #[.val (.ref a1), .val (.int (1 : Int32)), .val (.int (9 : Int32)), .val (.int (-1 : Int32)), .val (.int (6 : Int32))] []))
  refine Go.by (fun _ => XS.iload X10.here hx rfl (hb hby d6_10) rfl) ?_
  show Go p.tables e below _ (T10.setTop (mkF m 12 #[.val (.ref a1), .val (.int (1 : Int32)), .val (.int (9 : Int32)), .val (.int (-1 : Int32)), .val (.int (6 : Int32))] [(.int (6 : Int32))]))
  refine Go.by (fun _ => XS.iloadN X10.here hx rfl (hb hby d6_12) rfl) ?_
  show Go p.tables e below _ (T10.setTop (mkF m 13 #[.val (.ref a1), .val (.int (1 : Int32)), .val (.int (9 : Int32)), .val (.int (-1 : Int32)), .val (.int (6 : Int32))] [(.int (9 : Int32)), (.int (6 : Int32))]))
  refine Go.by (fun _ => XS.icmpNo X10.here hx rfl (hb hby d6_13) rfl (tlt (by decide)).2.1) ?_
  show Go p.tables e below _ (T10.setTop (mkF m 16 #[.val (.ref a1), .val (.int (1 : Int32)), .val (.int (9 : Int32)), .val (.int (-1 : Int32)), .val (.int (6 : Int32))] []))
  refine Go.by (fun _ => XS.aloadN X10.here hx rfl (hb hby d6_16) rfl rfl) ?_
  show Go p.tables e below _ (T10.setTop (mkF m 17 #[.val (.ref a1), .val (.int (1 : Int32)), .val (.int (9 : Int32)), .val (.int (-1 : Int32)), .val (.int (6 : Int32))] [(.ref a1)]))
  refine Go.by (fun _ => XS.iload X10.here hx rfl (hb hby d6_17) rfl) ?_
  show Go p.tables e below _ (T10.setTop (mkF m 19 #[.val (.ref a1), .val (.int (1 : Int32)), .val (.int (9 : Int32)), .val (.int (-1 : Int32)), .val (.int (6 : Int32))] [(.int (6 : Int32)), (.ref a1)]))
  refine Go.by (fun _ => XS.iloadN X10.here hx rfl (hb hby d6_19) rfl) ?_
  show Go p.tables e below _ (T10.setTop (mkF m 20 #[.val (.ref a1), .val (.int (1 : Int32)), .val (.int (9 : Int32)), .val (.int (-1 : Int32)), .val (.int (6 : Int32))] [(.int (-1 : Int32)), (.int (6 : Int32)), (.ref a1)]))
  obtain ⟨T12, h12, X12, W12, V12, st12⟩ := X10.stB hx hZ V10 g_a1 (by decide) (i := 6) rfl (by decide) (g := (mkF m 20 #[.val (.ref a1), .val (.int (1 : Int32)), .val (.int (9 : Int32)), .val (.int (-1 : Int32)), .val (.int (6 : Int32))] [(.int (-1 : Int32)), (.int (6 : Int32)), (.ref a1)])) rfl rfl (hb hby d6_20)
  have f13_136 := f11_115.wr W12 (Or.inl (List.mem_of_getElem? (i := 0) rfl))
  have Zs13 : n0 ≤ h12.size := by rw [W12.size]; exact Zs11
  refine Go.by st12 ?_
  show Go p.tables e below _ (T12.setTop (mkF m 21 #[.val (.ref a1), .val (.int (1 : Int32)), .val (.int (9 : Int32)), .val (.int (-1 : Int32)), .val (.int (6 : Int32))] []))
  refine Go.by (fun _ => XS.iinc X12.here hx rfl (hb hby d6_21) rfl (l' := #[.val (.ref a1), .val (.int (1 : Int32)), .val (.int (9 : Int32)), .val (.int (-1 : Int32)), .val (.int (7 : Int32))]) rfl) ?_
  show Go p.tables e below _ (T12.setTop (mkF m 24 #[.val (.ref a1), .val (.int (1 : Int32)), .val (.int (9 : Int32)), .val (.int (-1 : Int32)), .val (.int (7 : Int32))] []))
  refine Go.by (fun _ => XS.goto X12.here hx rfl (pc0 := 24) (pc' := 10) rfl (hb hby d6_24) (by decide) (by decide)) ?_
  show Go p.tables e below _ (T12.setTop (mkF m 10 #[.val (.ref a1), .val (.int (1 : Int32)), .val (.int (9 : Int32)), .val (.int (-1 : Int32)), .val (.int (7 : Int32))] []))
  refine Go.by (fun _ => XS.iload X12.here hx rfl (hb hby d6_10) rfl) ?_
  show Go p.tables e below _ (T12.setTop (mkF m 12 #[.val (.ref a1), .val (.int (1 : Int32)), .val (.int (9 : Int32)), .val (.int (-1 : Int32)), .val (.int (7 : Int32))] [(.int (7 : Int32))]))
  refine Go.by (fun _ => XS.iloadN X12.here hx rfl (hb hby d6_12) rfl) ?_
  show Go p.tables e below _ (T12.setTop (mkF m 13 #[.val (.ref a1), .val (.int (1 : Int32)), .val (.int (9 : Int32)), .val (.int (-1 : Int32)), .val (.int (7 : Int32))] [(.int (9 : Int32)), (.int (7 : Int32))]))
  refine Go.by (fun _ => XS.icmpNo X12.here hx rfl (hb hby d6_13) rfl (tlt (by decide)).2.1) ?_
  show Go p.tables e below _ (T12.setTop (mkF m 16 #[.val (.ref a1), .val (.int (1 : Int32)), .val (.int (9 : Int32)), .val (.int (-1 : Int32)), .val (.int (7 : Int32))] []))
  refine Go.by (fun _ => XS.aloadN X12.here hx rfl (hb hby d6_16) rfl rfl) ?_
  show Go p.tables e below _ (T12.setTop (mkF m 17 #[.val (.ref a1), .val (.int (1 : Int32)), .val (.int (9 : Int32)), .val (.int (-1 : Int32)), .val (.int (7 : Int32))] [(.ref a1)]))
  refine Go.by (fun _ => XS.iload X12.here hx rfl (hb hby d6_17) rfl) ?_
  show Go p.tables e below _ (T12.setTop (mkF m 19 #[.val (.ref a1), .val (.int (1 : Int32)), .val (.int (9 : Int32)), .val (.int (-1 : Int32)), .val (.int (7 : Int32))] [(.int (7 : Int32)), (.ref a1)]))
  refine Go.by (fun _ => XS.iloadN X12.here hx rfl (hb hby d6_19) rfl) ?_
  show Go p.tables e below _ (T12.setTop (mkF m 20 #[.val (.ref a1), .val (.int (1 : Int32)), .val (.int (9 : Int32)), .val (.int (-1 : Int32)), .val (.int (7 : Int32))] [(.int (-1 : Int32)), (.int (7 : Int32)), (.ref a1)]))
  obtain ⟨T14, h14, X14, W14, V14, st14⟩ := X12.stB hx hZ V12 g_a1 (by decide) (i := 7) rfl (by decide) (g := (mkF m 20 #[.val (.ref a1), .val (.int (1 : Int32)), .val (.int (9 : Int32)), .val (.int (-1 : Int32)), .val (.int (7 : Int32))] [(.int (-1 : Int32)), (.int (7 : Int32)), (.ref a1)])) rfl rfl (hb hby d6_20)
  have f15_157 := f13_136.wr W14 (Or.inl (List.mem_of_getElem? (i := 0) rfl))
  have Zs15 : n0 ≤ h14.size := by rw [W14.size]; exact Zs13
  refine Go.by st14 ?_
  show Go p.tables e below _ (T14.setTop (mkF m 21 #[.val (.ref a1), .val (.int (1 : Int32)), .val (.int (9 : Int32)), .val (.int (-1 : Int32)), .val (.int (7 : Int32))] []))
  refine Go.by (fun _ => XS.iinc X14.here hx rfl (hb hby d6_21) rfl (l' := #[.val (.ref a1), .val (.int (1 : Int32)), .val (.int (9 : Int32)), .val (.int (-1 : Int32)), .val (.int (8 : Int32))]) rfl) ?_
  show Go p.tables e below _ (T14.setTop (mkF m 24 #[.val (.ref a1), .val (.int (1 : Int32)), .val (.int (9 : Int32)), .val (.int (-1 : Int32)), .val (.int (8 : Int32))] []))
  refine Go.by (fun _ => XS.goto X14.here hx rfl (pc0 := 24) (pc' := 10) rfl (hb hby d6_24) (by decide) (by decide)) ?_
  show Go p.tables e below _ (T14.setTop (mkF m 10 #[.val (.ref a1), .val (.int (1 : Int32)), .val (.int (9 : Int32)), .val (.int (-1 : Int32)), .val (.int (8 : Int32))] []))
  refine Go.by (fun _ => XS.iload X14.here hx rfl (hb hby d6_10) rfl) ?_
  show Go p.tables e below _ (T14.setTop (mkF m 12 #[.val (.ref a1), .val (.int (1 : Int32)), .val (.int (9 : Int32)), .val (.int (-1 : Int32)), .val (.int (8 : Int32))] [(.int (8 : Int32))]))
  refine Go.by (fun _ => XS.iloadN X14.here hx rfl (hb hby d6_12) rfl) ?_
  show Go p.tables e below _ (T14.setTop (mkF m 13 #[.val (.ref a1), .val (.int (1 : Int32)), .val (.int (9 : Int32)), .val (.int (-1 : Int32)), .val (.int (8 : Int32))] [(.int (9 : Int32)), (.int (8 : Int32))]))
  refine Go.by (fun _ => XS.icmpNo X14.here hx rfl (hb hby d6_13) rfl (tlt (by decide)).2.1) ?_
  show Go p.tables e below _ (T14.setTop (mkF m 16 #[.val (.ref a1), .val (.int (1 : Int32)), .val (.int (9 : Int32)), .val (.int (-1 : Int32)), .val (.int (8 : Int32))] []))
  refine Go.by (fun _ => XS.aloadN X14.here hx rfl (hb hby d6_16) rfl rfl) ?_
  show Go p.tables e below _ (T14.setTop (mkF m 17 #[.val (.ref a1), .val (.int (1 : Int32)), .val (.int (9 : Int32)), .val (.int (-1 : Int32)), .val (.int (8 : Int32))] [(.ref a1)]))
  refine Go.by (fun _ => XS.iload X14.here hx rfl (hb hby d6_17) rfl) ?_
  show Go p.tables e below _ (T14.setTop (mkF m 19 #[.val (.ref a1), .val (.int (1 : Int32)), .val (.int (9 : Int32)), .val (.int (-1 : Int32)), .val (.int (8 : Int32))] [(.int (8 : Int32)), (.ref a1)]))
  refine Go.by (fun _ => XS.iloadN X14.here hx rfl (hb hby d6_19) rfl) ?_
  show Go p.tables e below _ (T14.setTop (mkF m 20 #[.val (.ref a1), .val (.int (1 : Int32)), .val (.int (9 : Int32)), .val (.int (-1 : Int32)), .val (.int (8 : Int32))] [(.int (-1 : Int32)), (.int (8 : Int32)), (.ref a1)]))
  obtain ⟨T16, h16, X16, W16, V16, st16⟩ := X14.stB hx hZ V14 g_a1 (by decide) (i := 8) rfl (by decide) (g := (mkF m 20 #[.val (.ref a1), .val (.int (1 : Int32)), .val (.int (9 : Int32)), .val (.int (-1 : Int32)), .val (.int (8 : Int32))] [(.int (-1 : Int32)), (.int (8 : Int32)), (.ref a1)])) rfl rfl (hb hby d6_20)
  have f17_178 := f15_157.wr W16 (Or.inl (List.mem_of_getElem? (i := 0) rfl))
  have Zs17 : n0 ≤ h16.size := by rw [W16.size]; exact Zs15
  refine Go.by st16 ?_
  show Go p.tables e below _ (T16.setTop (mkF m 21 #[.val (.ref a1), .val (.int (1 : Int32)), .val (.int (9 : Int32)), .val (.int (-1 : Int32)), .val (.int (8 : Int32))] []))
  refine Go.by (fun _ => XS.iinc X16.here hx rfl (hb hby d6_21) rfl (l' := #[.val (.ref a1), .val (.int (1 : Int32)), .val (.int (9 : Int32)), .val (.int (-1 : Int32)), .val (.int (9 : Int32))]) rfl) ?_
  show Go p.tables e below _ (T16.setTop (mkF m 24 #[.val (.ref a1), .val (.int (1 : Int32)), .val (.int (9 : Int32)), .val (.int (-1 : Int32)), .val (.int (9 : Int32))] []))
  refine Go.by (fun _ => XS.goto X16.here hx rfl (pc0 := 24) (pc' := 10) rfl (hb hby d6_24) (by decide) (by decide)) ?_
  show Go p.tables e below _ (T16.setTop (mkF m 10 #[.val (.ref a1), .val (.int (1 : Int32)), .val (.int (9 : Int32)), .val (.int (-1 : Int32)), .val (.int (9 : Int32))] []))
  refine Go.by (fun _ => XS.iload X16.here hx rfl (hb hby d6_10) rfl) ?_
  show Go p.tables e below _ (T16.setTop (mkF m 12 #[.val (.ref a1), .val (.int (1 : Int32)), .val (.int (9 : Int32)), .val (.int (-1 : Int32)), .val (.int (9 : Int32))] [(.int (9 : Int32))]))
  refine Go.by (fun _ => XS.iloadN X16.here hx rfl (hb hby d6_12) rfl) ?_
  show Go p.tables e below _ (T16.setTop (mkF m 13 #[.val (.ref a1), .val (.int (1 : Int32)), .val (.int (9 : Int32)), .val (.int (-1 : Int32)), .val (.int (9 : Int32))] [(.int (9 : Int32)), (.int (9 : Int32))]))
  refine Go.by (fun _ => XS.icmpYes X16.here hx rfl (pc0 := 13) (pc' := 27) rfl (hb hby d6_13) rfl (flt (by decide)).2.1 (by decide) (by decide)) ?_
  show Go p.tables e below _ (T16.setTop (mkF m 27 #[.val (.ref a1), .val (.int (1 : Int32)), .val (.int (9 : Int32)), .val (.int (-1 : Int32)), .val (.int (9 : Int32))] []))
  refine Go.ret0 X16 hx hlk hret (hb hby d6_27) (by decide) (by decide) ?_
  refine ⟨rfl, f17_178, Avf.cong V16 (fun i hi => ?_)⟩
  by_cases q : i < 1
  · have y0 : ¬ i = 1 := by omega
    have y1 : ¬ i = 2 := by omega
    have y2 : ¬ i = 3 := by omega
    have y3 : ¬ i = 4 := by omega
    have y4 : ¬ i = 5 := by omega
    have y5 : ¬ i = 6 := by omega
    have y6 : ¬ i = 7 := by omega
    have y7 : ¬ i = 8 := by omega
    simp [q, y0, y1, y2, y3, y4, y5, y6, y7]
  · have y : i = 1 ∨ i = 2 ∨ i = 3 ∨ i = 4 ∨ i = 5 ∨ i = 6 ∨ i = 7 ∨ i = 8 := by omega
    rcases y with rfl | rfl | rfl | rfl | rfl | rfl | rfl | rfl <;> rfl
abbrev Rm3_1 : Room := { frames := 2, cells := 1, slots := 16, locals := 32 }
set_option maxRecDepth 65536 in
set_option maxHeartbeats 40000000 in
theorem rm3_1 (l : Launch) (Z : State) (a0 : Array Value) (hw : ∀ d ∈ tables_1, d.before a0 Z = true) (ws : List Jvm.Cond) (a1 : Addr) (kc : ClassId) (fi : Nat → Int32) (h0 : Heap) (n0 : Nat) (Z0 : n0 ≤ h0.size) (V_a : Avf Z h0 a1 kc .byte 1 (fun t => (.int (fi t)))) :
    Met l Z n0 (⟨"com/example/clio/clio/Layout", "pastEntries", "([B)[B"⟩ : MethodName) prog_20_method_22_code 2 (some (.array .byte)) ws Rm3_1 #[(.ref a1)] h0 (fun v h => ∃ r kr, v = some (.ref r) ∧ h0.size ≤ r ∧ Keep h0 h [] ∧ Avf Z h r kr .byte (1 + 8) (fun t => (.int (if t < 1 then fi t else -1)))) := by
  refine enter (Ls := #[.val (.ref a1), .unset]) (plainFor_of_name pn2) (fun m => by first | (simp [entryFrame, mkF, argsToLocals, Value.category]; done) | rfl) ?_
  intro p e s m below meth c T0 hx hby hml hown hnm hret hlk hZ X0
  have K0 := Keep.refl h0 []
  show Go p.tables e below _ (T0.setTop (mkF m 0 #[.val (.ref a1), .unset] []))
  refine Go.by (fun _ => XS.aloadN X0.here hx rfl (hb hby d3_0) rfl rfl) ?_
  show Go p.tables e below _ (T0.setTop (mkF m 1 #[.val (.ref a1), .unset] [(.ref a1)]))
  refine Go.by (fun _ => XS.aloadN X0.here hx rfl (hb hby d3_1) rfl rfl) ?_
  show Go p.tables e below _ (T0.setTop (mkF m 2 #[.val (.ref a1), .unset] [(.ref a1), (.ref a1)]))
  refine Go.by (X0.len hx hZ V_a (z := (1 : Int32)) rfl (g := (mkF m 2 #[.val (.ref a1), .unset] [(.ref a1), (.ref a1)])) rfl rfl (hb hby d3_2)) ?_
  show Go p.tables e below _ (T0.setTop (mkF m 3 #[.val (.ref a1), .unset] [(.int (1 : Int32)), (.ref a1)]))
  refine Go.by (fun _ => XS.bipush X0.here hx rfl (hb hby d3_3)) ?_
  show Go p.tables e below _ (T0.setTop (mkF m 5 #[.val (.ref a1), .unset] [(.int (8 : Int32)), (.int (1 : Int32)), (.ref a1)]))
  refine Go.by (fun _ => XS.iadd X0.here hx rfl (hb hby d3_5) rfl) ?_
  show Go p.tables e below _ (T0.setTop (mkF m 6 #[.val (.ref a1), .unset] [(.int (9 : Int32)), (.ref a1)]))
  obtain ⟨v1, T1, h1, X1, q1, st1⟩ := X0.callS hx hZ (y := (⟨"java/util/Arrays", "copyOf", "([BI)[B"⟩ : MethodName)) hown (tw hw 13 rfl) (tw hw 14 rfl) (tw hw 15 rfl) (tw hw 16 rfl) (by decide) (rm4_1 l Z a0 hw [] a1 kc fi h0 n0 Z0 V_a) (g := (mkF m 6 #[.val (.ref a1), .unset] [(.int (9 : Int32)), (.ref a1)])) rfl (by rw [hml]; rfl) (argsL := [(.ref a1), (.int (9 : Int32))]) (rest := []) (lenOf pd3 rfl) rfl (hb hby d3_6) rfl (by decide) (Nat.le_of_ble_eq_true rfl) (k' := 1) (n' := 16) rfl rfl (by decide) (by decide)
  refine Go.by st1 ?_
  obtain ⟨r1, kr1, rfl, sr1, K1, V1⟩ := q1
  have g_r1 : n0 ≤ r1 := Nat.le_trans Z0 sr1
  have sz_r1 : h0.size ≤ r1 := Nat.le_trans K0.1 sr1
  have ne_a1_r1 : a1 ≠ r1 := Nat.ne_of_lt (Nat.lt_of_lt_of_le V_a.lt sr1)
  have f2_18 := Avf.ext V_a (keep_ext K1)
  have f2_19 := K0.ext (keep_ext K1)
  have Zs2 : n0 ≤ h1.size := Nat.le_trans Z0 (keep_ext K1).1
  show Go p.tables e below _ (T1.setTop (mkF m 9 #[.val (.ref a1), .unset] [(.ref r1)]))
  refine Go.by (fun _ => XS.astoreN X1.here hx rfl (hb hby d3_9) rfl rfl (l' := #[.val (.ref a1), .val (.ref r1)]) rfl) ?_
  show Go p.tables e below _ (T1.setTop (mkF m 10 #[.val (.ref a1), .val (.ref r1)] []))
  refine Go.by (fun _ => XS.aloadN X1.here hx rfl (hb hby d3_10) rfl rfl) ?_
  show Go p.tables e below _ (T1.setTop (mkF m 11 #[.val (.ref a1), .val (.ref r1)] [(.ref r1)]))
  refine Go.by (fun _ => XS.aloadN X1.here hx rfl (hb hby d3_11) rfl rfl) ?_
  show Go p.tables e below _ (T1.setTop (mkF m 12 #[.val (.ref a1), .val (.ref r1)] [(.ref a1), (.ref r1)]))
  refine Go.by (X1.len hx hZ f2_18 (z := (1 : Int32)) rfl (g := (mkF m 12 #[.val (.ref a1), .val (.ref r1)] [(.ref a1), (.ref r1)])) rfl rfl (hb hby d3_12)) ?_
  show Go p.tables e below _ (T1.setTop (mkF m 13 #[.val (.ref a1), .val (.ref r1)] [(.int (1 : Int32)), (.ref r1)]))
  refine Go.by (fun _ => XS.aloadN X1.here hx rfl (hb hby d3_13) rfl rfl) ?_
  show Go p.tables e below _ (T1.setTop (mkF m 14 #[.val (.ref a1), .val (.ref r1)] [(.ref r1), (.int (1 : Int32)), (.ref r1)]))
  refine Go.by (X1.len hx hZ V1 (z := (9 : Int32)) rfl (g := (mkF m 14 #[.val (.ref a1), .val (.ref r1)] [(.ref r1), (.int (1 : Int32)), (.ref r1)])) rfl rfl (hb hby d3_14)) ?_
  show Go p.tables e below _ (T1.setTop (mkF m 15 #[.val (.ref a1), .val (.ref r1)] [(.int (9 : Int32)), (.int (1 : Int32)), (.ref r1)]))
  refine Go.by (fun _ => XS.iconst X1.here hx rfl (hb hby d3_15)) ?_
  show Go p.tables e below _ (T1.setTop (mkF m 16 #[.val (.ref a1), .val (.ref r1)] [(.int (-1 : Int32)), (.int (9 : Int32)), (.int (1 : Int32)), (.ref r1)]))
  obtain ⟨v3, T3, h3, X3, q3, st3⟩ := X1.callS hx hZ (y := (⟨"java/util/Arrays", "fill", "([BIIB)V"⟩ : MethodName)) hown (tw hw 25 rfl) (tw hw 26 rfl) (tw hw 15 rfl) (tw hw 27 rfl) (by decide) (rm6_1 l Z a0 hw [] r1 kr1 (fun t => if t < 1 then fi t else 0) h1 n0 Zs2 g_r1 V1) (g := (mkF m 16 #[.val (.ref a1), .val (.ref r1)] [(.int (-1 : Int32)), (.int (9 : Int32)), (.int (1 : Int32)), (.ref r1)])) rfl (by rw [hml]; rfl) (argsL := [(.ref r1), (.int (1 : Int32)), (.int (9 : Int32)), (.int (-1 : Int32))]) (rest := []) (lenOf pd4 rfl) rfl (hb hby d3_16) rfl (by decide) (Nat.le_of_ble_eq_true rfl) (k' := 1) (n' := 16) rfl rfl (by decide) (by decide)
  refine Go.by st3 ?_
  obtain ⟨rfl, K3, V3⟩ := q3
  have f4_39 := Avf.keep f2_18 K3 (ninS ne_a1_r1 nin0)
  have f4_40 := f2_19.trans K3 (allS (Or.inr sz_r1) all0)
  have Zs4 : n0 ≤ h3.size := Nat.le_trans Zs2 K3.1
  show Go p.tables e below _ (T3.setTop (mkF m 19 #[.val (.ref a1), .val (.ref r1)] []))
  refine Go.by (fun _ => XS.aloadN X3.here hx rfl (hb hby d3_19) rfl rfl) ?_
  show Go p.tables e below _ (T3.setTop (mkF m 20 #[.val (.ref a1), .val (.ref r1)] [(.ref r1)]))
  refine Go.retA X3 hx hlk hret rfl rfl (hb hby d3_20) (by decide) (by decide) ?_
  refine ⟨r1, kr1, rfl, sz_r1, f4_40, Avf.cong V3 (fun i hi => ?_)⟩
  by_cases q : i < 1 <;> first | (simp [q]; done) | (simp [q]; rfl)
abbrev Rm5_2 : Room := { frames := 0, cells := 0, slots := 0, locals := 0 }
set_option maxRecDepth 65536 in
set_option maxHeartbeats 40000000 in
theorem rm5_2 (l : Launch) (Z : State) (a0 : Array Value) (hw : ∀ d ∈ tables_1, d.before a0 Z = true) (ws : List Jvm.Cond)  (h0 : Heap) (n0 : Nat) (Z0 : n0 ≤ h0.size) :
    Met l Z n0 (⟨"java/lang/Math", "min", "(II)I"⟩ : MethodName) jdk_29_method_69_code 2 (some .int) ws Rm5_2 #[(.int (2 : Int32)), (.int (10 : Int32))] h0 (fun v h => v = some (.int (2 : Int32)) ∧ h0 = h) := by
  refine enter (Ls := #[.val (.int (2 : Int32)), .val (.int (10 : Int32))]) (Jvm.Free.JP.mathPlain rfl (by decide +kernel)) (fun m => by first | (simp [entryFrame, mkF, argsToLocals, Value.category]; done) | rfl) ?_
  intro p e s m below meth c T0 hx hby hml hown hnm hret hlk hZ X0
  show Go p.tables e below _ (T0.setTop (mkF m 0 #[.val (.int (2 : Int32)), .val (.int (10 : Int32))] []))
  refine Go.by (fun _ => XS.iloadN X0.here hx rfl (hb hby d5_0) rfl) ?_
  show Go p.tables e below _ (T0.setTop (mkF m 1 #[.val (.int (2 : Int32)), .val (.int (10 : Int32))] [(.int (2 : Int32))]))
  refine Go.by (fun _ => XS.iloadN X0.here hx rfl (hb hby d5_1) rfl) ?_
  show Go p.tables e below _ (T0.setTop (mkF m 2 #[.val (.int (2 : Int32)), .val (.int (10 : Int32))] [(.int (10 : Int32)), (.int (2 : Int32))]))
  refine Go.by (fun _ => XS.icmpNo X0.here hx rfl (hb hby d5_2) rfl (flt (by decide)).2.2.1) ?_
  show Go p.tables e below _ (T0.setTop (mkF m 5 #[.val (.int (2 : Int32)), .val (.int (10 : Int32))] []))
  refine Go.by (fun _ => XS.iloadN X0.here hx rfl (hb hby d5_5) rfl) ?_
  show Go p.tables e below _ (T0.setTop (mkF m 6 #[.val (.int (2 : Int32)), .val (.int (10 : Int32))] [(.int (2 : Int32))]))
  refine Go.by (fun _ => XS.goto X0.here hx rfl (pc0 := 6) (pc' := 10) rfl (hb hby d5_6) (by decide) (by decide)) ?_
  show Go p.tables e below _ (T0.setTop (mkF m 10 #[.val (.int (2 : Int32)), .val (.int (10 : Int32))] [(.int (2 : Int32))]))
  exact Go.retI X0 hx hlk hret (hb hby d5_10) (by decide) (by decide) ⟨rfl, rfl⟩
abbrev Rm7_2 : Room := { frames := 0, cells := 0, slots := 0, locals := 0 }
set_option maxRecDepth 65536 in
set_option maxHeartbeats 40000000 in
theorem rm7_2 (l : Launch) (Z : State) (a0 : Array Value) (hw : ∀ d ∈ tables_1, d.before a0 Z = true) (ws : List Jvm.Cond)  (h0 : Heap) (n0 : Nat) (Z0 : n0 ≤ h0.size) :
    Met l Z n0 (⟨"java/util/Arrays", "rangeCheck", "(III)V"⟩ : MethodName) jdk_65_method_30_code 3 none ws Rm7_2 #[(.int (10 : Int32)), (.int (2 : Int32)), (.int (10 : Int32))] h0 (fun v h => v = none ∧ h0 = h) := by
  refine enter (Ls := #[.val (.int (10 : Int32)), .val (.int (2 : Int32)), .val (.int (10 : Int32))]) (plainFor_of_name pn1) (fun m => by first | (simp [entryFrame, mkF, argsToLocals, Value.category]; done) | rfl) ?_
  intro p e s m below meth c T0 hx hby hml hown hnm hret hlk hZ X0
  show Go p.tables e below _ (T0.setTop (mkF m 0 #[.val (.int (10 : Int32)), .val (.int (2 : Int32)), .val (.int (10 : Int32))] []))
  refine Go.by (fun _ => XS.iloadN X0.here hx rfl (hb hby d7_0) rfl) ?_
  show Go p.tables e below _ (T0.setTop (mkF m 1 #[.val (.int (10 : Int32)), .val (.int (2 : Int32)), .val (.int (10 : Int32))] [(.int (2 : Int32))]))
  refine Go.by (fun _ => XS.iloadN X0.here hx rfl (hb hby d7_1) rfl) ?_
  show Go p.tables e below _ (T0.setTop (mkF m 2 #[.val (.int (10 : Int32)), .val (.int (2 : Int32)), .val (.int (10 : Int32))] [(.int (10 : Int32)), (.int (2 : Int32))]))
  refine Go.by (fun _ => XS.icmpYes X0.here hx rfl (pc0 := 2) (pc' := 46) rfl (hb hby d7_2) rfl (flt (by decide)).2.2.2 (by decide) (by decide)) ?_
  show Go p.tables e below _ (T0.setTop (mkF m 46 #[.val (.int (10 : Int32)), .val (.int (2 : Int32)), .val (.int (10 : Int32))] []))
  refine Go.by (fun _ => XS.iloadN X0.here hx rfl (hb hby d7_46) rfl) ?_
  show Go p.tables e below _ (T0.setTop (mkF m 47 #[.val (.int (10 : Int32)), .val (.int (2 : Int32)), .val (.int (10 : Int32))] [(.int (2 : Int32))]))
  refine Go.by (fun _ => XS.ifYes X0.here hx rfl (pc0 := 47) (pc' := 59) rfl (hb hby d7_47) rfl ((if0 _ _).trans (flt (by decide)).2.1) (by decide) (by decide)) ?_
  show Go p.tables e below _ (T0.setTop (mkF m 59 #[.val (.int (10 : Int32)), .val (.int (2 : Int32)), .val (.int (10 : Int32))] []))
  refine Go.by (fun _ => XS.iloadN X0.here hx rfl (hb hby d7_59) rfl) ?_
  show Go p.tables e below _ (T0.setTop (mkF m 60 #[.val (.int (10 : Int32)), .val (.int (2 : Int32)), .val (.int (10 : Int32))] [(.int (10 : Int32))]))
  refine Go.by (fun _ => XS.iloadN X0.here hx rfl (hb hby d7_60) rfl) ?_
  show Go p.tables e below _ (T0.setTop (mkF m 61 #[.val (.int (10 : Int32)), .val (.int (2 : Int32)), .val (.int (10 : Int32))] [(.int (10 : Int32)), (.int (10 : Int32))]))
  refine Go.by (fun _ => XS.icmpYes X0.here hx rfl (pc0 := 61) (pc' := 73) rfl (hb hby d7_61) rfl (flt (by decide)).2.2.2 (by decide) (by decide)) ?_
  show Go p.tables e below _ (T0.setTop (mkF m 73 #[.val (.int (10 : Int32)), .val (.int (2 : Int32)), .val (.int (10 : Int32))] []))
  exact Go.ret0 X0 hx hlk hret (hb hby d7_73) (by decide) (by decide) ⟨rfl, rfl⟩
abbrev Rm4_2 : Room := { frames := 1, cells := 1, slots := 16, locals := 18 }
set_option maxRecDepth 65536 in
set_option maxHeartbeats 40000000 in
theorem rm4_2 (l : Launch) (Z : State) (a0 : Array Value) (hw : ∀ d ∈ tables_1, d.before a0 Z = true) (ws : List Jvm.Cond) (a1 : Addr) (kc : ClassId) (fi : Nat → Int32) (h0 : Heap) (n0 : Nat) (Z0 : n0 ≤ h0.size) (V_a : Avf Z h0 a1 kc .byte 2 (fun t => (.int (fi t)))) :
    Met l Z n0 (⟨"java/util/Arrays", "copyOf", "([BI)[B"⟩ : MethodName) jdk_65_method_121_code 3 (some (.array .byte)) ws Rm4_2 #[(.ref a1), (.int (10 : Int32))] h0 (fun v h => ∃ r kr, v = some (.ref r) ∧ h0.size ≤ r ∧ Keep h0 h [] ∧ Avf Z h r kr .byte (2 + 8) (fun t => (.int (if t < 2 then fi t else 0)))) := by
  refine enter (Ls := #[.val (.ref a1), .val (.int (10 : Int32)), .unset]) (plainFor_of_name pn1) (fun m => by first | (simp [entryFrame, mkF, argsToLocals, Value.category]; done) | rfl) ?_
  intro p e s m below meth c T0 hx hby hml hown hnm hret hlk hZ X0
  have K0 := Keep.refl h0 []
  show Go p.tables e below _ (T0.setTop (mkF m 0 #[.val (.ref a1), .val (.int (10 : Int32)), .unset] []))
  refine Go.by (fun _ => XS.iloadN X0.here hx rfl (hb hby d4_0) rfl) ?_
  show Go p.tables e below _ (T0.setTop (mkF m 1 #[.val (.ref a1), .val (.int (10 : Int32)), .unset] [(.int (10 : Int32))]))
  refine Go.by (fun _ => XS.aloadN X0.here hx rfl (hb hby d4_1) rfl rfl) ?_
  show Go p.tables e below _ (T0.setTop (mkF m 2 #[.val (.ref a1), .val (.int (10 : Int32)), .unset] [(.ref a1), (.int (10 : Int32))]))
  refine Go.by (X0.len hx hZ V_a (z := (2 : Int32)) rfl (g := (mkF m 2 #[.val (.ref a1), .val (.int (10 : Int32)), .unset] [(.ref a1), (.int (10 : Int32))])) rfl rfl (hb hby d4_2)) ?_
  show Go p.tables e below _ (T0.setTop (mkF m 3 #[.val (.ref a1), .val (.int (10 : Int32)), .unset] [(.int (2 : Int32)), (.int (10 : Int32))]))
  refine Go.by (fun _ => XS.icmpYes X0.here hx rfl (pc0 := 3) (pc' := 14) rfl (hb hby d4_3) rfl (feq (by decide)).2 (by decide) (by decide)) ?_
  show Go p.tables e below _ (T0.setTop (mkF m 14 #[.val (.ref a1), .val (.int (10 : Int32)), .unset] []))
  refine Go.by (fun _ => XS.iloadN X0.here hx rfl (hb hby d4_14) rfl) ?_
  show Go p.tables e below _ (T0.setTop (mkF m 15 #[.val (.ref a1), .val (.int (10 : Int32)), .unset] [(.int (10 : Int32))]))
  obtain ⟨T1, h1, kc1, b1, X1, g1, E1, A1, V1, st1⟩ := X0.newP hx hZ (tw hw 1 rfl) (g := (mkF m 15 #[.val (.ref a1), .val (.int (10 : Int32)), .unset] [(.int (10 : Int32))])) rfl (hb hby d4_15) rfl (by decide) (sz := 10) (cap := 16) (k' := 1) (n' := 16) rfl (by decide) (by decide) rfl rfl (by decide) (by decide) (ad := "[B") (by decide)
  have g_b1 : n0 ≤ b1 := by rw [g1]; exact Z0
  have sz_b1 : h0.size ≤ b1 := by rw [g1]; exact K0.1
  have ne_a1_b1 : a1 ≠ b1 := Nat.ne_of_lt (by rw [g1]; exact V_a.lt)
  have f2_16 := Avf.ext V_a E1
  have f2_17 := K0.ext E1
  have Zs2 : n0 ≤ h1.size := Nat.le_trans Z0 E1.1
  refine Go.by st1 ?_
  show Go p.tables e below _ (T1.setTop (mkF m 17 #[.val (.ref a1), .val (.int (10 : Int32)), .unset] [(.ref b1)]))
  refine Go.by (fun _ => XS.astoreN X1.here hx rfl (hb hby d4_17) rfl rfl (l' := #[.val (.ref a1), .val (.int (10 : Int32)), .val (.ref b1)]) rfl) ?_
  show Go p.tables e below _ (T1.setTop (mkF m 18 #[.val (.ref a1), .val (.int (10 : Int32)), .val (.ref b1)] []))
  refine Go.by (fun _ => XS.aloadN X1.here hx rfl (hb hby d4_18) rfl rfl) ?_
  show Go p.tables e below _ (T1.setTop (mkF m 19 #[.val (.ref a1), .val (.int (10 : Int32)), .val (.ref b1)] [(.ref a1)]))
  refine Go.by (fun _ => XS.iconst X1.here hx rfl (hb hby d4_19)) ?_
  show Go p.tables e below _ (T1.setTop (mkF m 20 #[.val (.ref a1), .val (.int (10 : Int32)), .val (.ref b1)] [(.int (0 : Int32)), (.ref a1)]))
  refine Go.by (fun _ => XS.aloadN X1.here hx rfl (hb hby d4_20) rfl rfl) ?_
  show Go p.tables e below _ (T1.setTop (mkF m 21 #[.val (.ref a1), .val (.int (10 : Int32)), .val (.ref b1)] [(.ref b1), (.int (0 : Int32)), (.ref a1)]))
  refine Go.by (fun _ => XS.iconst X1.here hx rfl (hb hby d4_21)) ?_
  show Go p.tables e below _ (T1.setTop (mkF m 22 #[.val (.ref a1), .val (.int (10 : Int32)), .val (.ref b1)] [(.int (0 : Int32)), (.ref b1), (.int (0 : Int32)), (.ref a1)]))
  refine Go.by (fun _ => XS.aloadN X1.here hx rfl (hb hby d4_22) rfl rfl) ?_
  show Go p.tables e below _ (T1.setTop (mkF m 23 #[.val (.ref a1), .val (.int (10 : Int32)), .val (.ref b1)] [(.ref a1), (.int (0 : Int32)), (.ref b1), (.int (0 : Int32)), (.ref a1)]))
  refine Go.by (X1.len hx hZ f2_16 (z := (2 : Int32)) rfl (g := (mkF m 23 #[.val (.ref a1), .val (.int (10 : Int32)), .val (.ref b1)] [(.ref a1), (.int (0 : Int32)), (.ref b1), (.int (0 : Int32)), (.ref a1)])) rfl rfl (hb hby d4_23)) ?_
  show Go p.tables e below _ (T1.setTop (mkF m 24 #[.val (.ref a1), .val (.int (10 : Int32)), .val (.ref b1)] [(.int (2 : Int32)), (.int (0 : Int32)), (.ref b1), (.int (0 : Int32)), (.ref a1)]))
  refine Go.by (fun _ => XS.iloadN X1.here hx rfl (hb hby d4_24) rfl) ?_
  show Go p.tables e below _ (T1.setTop (mkF m 25 #[.val (.ref a1), .val (.int (10 : Int32)), .val (.ref b1)] [(.int (10 : Int32)), (.int (2 : Int32)), (.int (0 : Int32)), (.ref b1), (.int (0 : Int32)), (.ref a1)]))
  obtain ⟨v3, T3, h3, X3, q3, st3⟩ := X1.callS hx hZ (y := (⟨"java/lang/Math", "min", "(II)I"⟩ : MethodName)) hown (tw hw 17 rfl) (tw hw 18 rfl) (tw hw 19 rfl) (tw hw 20 rfl) (by decide) (rm5_2 l Z a0 hw [] h1 n0 Zs2) (g := (mkF m 25 #[.val (.ref a1), .val (.int (10 : Int32)), .val (.ref b1)] [(.int (10 : Int32)), (.int (2 : Int32)), (.int (0 : Int32)), (.ref b1), (.int (0 : Int32)), (.ref a1)])) rfl (by rw [hml]; rfl) (argsL := [(.int (2 : Int32)), (.int (10 : Int32))]) (rest := [(.int (0 : Int32)), (.ref b1), (.int (0 : Int32)), (.ref a1)]) (lenOf pd1 rfl) rfl (hb hby d4_25) rfl (by decide) (Nat.le_of_ble_eq_true rfl) (k' := 1) (n' := 16) rfl rfl (by decide) (by decide)
  refine Go.by st3 ?_
  obtain ⟨rfl, rfl⟩ := q3
  show Go p.tables e below _ (T3.setTop (mkF m 28 #[.val (.ref a1), .val (.int (10 : Int32)), .val (.ref b1)] [(.int (2 : Int32)), (.int (0 : Int32)), (.ref b1), (.int (0 : Int32)), (.ref a1)]))
  obtain ⟨T4, h4, X4, K4, V4, st4⟩ := X3.acopy hx hZ hown (tw hw 21 rfl) (tw hw 24 rfl) (tw hw 22 rfl) (tw hw 23 rfl) f2_16 V1 rfl g_b1 (by decide) (by decide) (by decide) (i := 0) (j := 0) (cc := 2) rfl rfl rfl (by decide) (by decide) (g := (mkF m 28 #[.val (.ref a1), .val (.int (10 : Int32)), .val (.ref b1)] [(.int (2 : Int32)), (.int (0 : Int32)), (.ref b1), (.int (0 : Int32)), (.ref a1)])) rfl (by rw [hml]; rfl) rfl (hb hby d4_28) (by decide) (Nat.le_of_ble_eq_true rfl)
  have f5_42 := Avf.keep f2_16 K4 (ninS ne_a1_b1 nin0)
  have f5_43 := f2_17.trans K4 (allS (Or.inr sz_b1) all0)
  have f5_44 := A1.keep K4
  have Zs5 : n0 ≤ h4.size := Nat.le_trans Zs2 K4.1
  refine Go.by st4 ?_
  show Go p.tables e below _ (T4.setTop (mkF m 31 #[.val (.ref a1), .val (.int (10 : Int32)), .val (.ref b1)] []))
  refine Go.by (fun _ => XS.aloadN X4.here hx rfl (hb hby d4_31) rfl rfl) ?_
  show Go p.tables e below _ (T4.setTop (mkF m 32 #[.val (.ref a1), .val (.int (10 : Int32)), .val (.ref b1)] [(.ref b1)]))
  refine Go.retA X4 hx hlk hret rfl rfl (hb hby d4_32) (by decide) (by decide) ?_
  refine ⟨b1, kc1, rfl, sz_b1, f5_43, Avf.cong V4 (fun i hi => ?_)⟩
  by_cases q : i < 2 <;> first | (simp [q]; done) | (simp [q]; rfl)
abbrev Rm6_2 : Room := { frames := 1, cells := 0, slots := 0, locals := 14 }
set_option maxRecDepth 65536 in
set_option maxHeartbeats 40000000 in
theorem rm6_2 (l : Launch) (Z : State) (a0 : Array Value) (hw : ∀ d ∈ tables_1, d.before a0 Z = true) (ws : List Jvm.Cond) (a1 : Addr) (kc : ClassId) (fi : Nat → Int32) (h0 : Heap) (n0 : Nat) (Z0 : n0 ≤ h0.size) (g_a1 : n0 ≤ a1) (V_a : Avf Z h0 a1 kc .byte 10 (fun t => (.int (fi t)))) :
    Met l Z n0 (⟨"java/util/Arrays", "fill", "([BIIB)V"⟩ : MethodName) jdk_65_method_110_code 5 none ws Rm6_2 #[(.ref a1), (.int (2 : Int32)), (.int (10 : Int32)), (.int (-1 : Int32))] h0 (fun v h => v = none ∧ Keep h0 h [a1] ∧ Avf Z h a1 kc .byte 10 (fun t => (.int (if t < 2 then fi t else -1)))) := by
  refine enter (Ls := #[.val (.ref a1), .val (.int (2 : Int32)), .val (.int (10 : Int32)), .val (.int (-1 : Int32)), .unset]) (plainFor_of_name pn1) (fun m => by first | (simp [entryFrame, mkF, argsToLocals, Value.category]; done) | rfl) ?_
  intro p e s m below meth c T0 hx hby hml hown hnm hret hlk hZ X0
  have K0 := Keep.refl h0 [a1]
  show Go p.tables e below _ (T0.setTop (mkF m 0 #[.val (.ref a1), .val (.int (2 : Int32)), .val (.int (10 : Int32)), .val (.int (-1 : Int32)), .unset] []))
  refine Go.by (fun _ => XS.aloadN X0.here hx rfl (hb hby d6_0) rfl rfl) ?_
  show Go p.tables e below _ (T0.setTop (mkF m 1 #[.val (.ref a1), .val (.int (2 : Int32)), .val (.int (10 : Int32)), .val (.int (-1 : Int32)), .unset] [(.ref a1)]))
  refine Go.by (X0.len hx hZ V_a (z := (10 : Int32)) rfl (g := (mkF m 1 #[.val (.ref a1), .val (.int (2 : Int32)), .val (.int (10 : Int32)), .val (.int (-1 : Int32)), .unset] [(.ref a1)])) rfl rfl (hb hby d6_1)) ?_
  show Go p.tables e below _ (T0.setTop (mkF m 2 #[.val (.ref a1), .val (.int (2 : Int32)), .val (.int (10 : Int32)), .val (.int (-1 : Int32)), .unset] [(.int (10 : Int32))]))
  refine Go.by (fun _ => XS.iloadN X0.here hx rfl (hb hby d6_2) rfl) ?_
  show Go p.tables e below _ (T0.setTop (mkF m 3 #[.val (.ref a1), .val (.int (2 : Int32)), .val (.int (10 : Int32)), .val (.int (-1 : Int32)), .unset] [(.int (2 : Int32)), (.int (10 : Int32))]))
  refine Go.by (fun _ => XS.iloadN X0.here hx rfl (hb hby d6_3) rfl) ?_
  show Go p.tables e below _ (T0.setTop (mkF m 4 #[.val (.ref a1), .val (.int (2 : Int32)), .val (.int (10 : Int32)), .val (.int (-1 : Int32)), .unset] [(.int (10 : Int32)), (.int (2 : Int32)), (.int (10 : Int32))]))
  obtain ⟨v1, T1, h1, X1, q1, st1⟩ := X0.callS hx hZ (y := (⟨"java/util/Arrays", "rangeCheck", "(III)V"⟩ : MethodName)) hown (tw hw 28 rfl) (tw hw 29 rfl) (tw hw 15 rfl) (tw hw 30 rfl) (by decide) (rm7_2 l Z a0 hw [] h0 n0 Z0) (g := (mkF m 4 #[.val (.ref a1), .val (.int (2 : Int32)), .val (.int (10 : Int32)), .val (.int (-1 : Int32)), .unset] [(.int (10 : Int32)), (.int (2 : Int32)), (.int (10 : Int32))])) rfl (by rw [hml]; rfl) (argsL := [(.int (10 : Int32)), (.int (2 : Int32)), (.int (10 : Int32))]) (rest := []) (lenOf pd2 rfl) rfl (hb hby d6_4) rfl (by decide) (Nat.le_of_ble_eq_true rfl) (k' := 0) (n' := 0) rfl rfl (by decide) (by decide)
  refine Go.by st1 ?_
  obtain ⟨rfl, rfl⟩ := q1
  show Go p.tables e below _ (T1.setTop (mkF m 7 #[.val (.ref a1), .val (.int (2 : Int32)), .val (.int (10 : Int32)), .val (.int (-1 : Int32)), .unset] []))
  refine Go.by (fun _ => XS.iloadN X1.here hx rfl (hb hby d6_7) rfl) ?_
  show Go p.tables e below _ (T1.setTop (mkF m 8 #[.val (.ref a1), .val (.int (2 : Int32)), .val (.int (10 : Int32)), .val (.int (-1 : Int32)), .unset] [(.int (2 : Int32))]))
  refine Go.by (fun _ => XS.istore X1.here hx rfl (hb hby d6_8) rfl (l' := #[.val (.ref a1), .val (.int (2 : Int32)), .val (.int (10 : Int32)), .val (.int (-1 : Int32)), .val (.int (2 : Int32))]) rfl) ?_
  show Go p.tables e below _ (T1.setTop (mkF m 10 #[.val (.ref a1), .val (.int (2 : Int32)), .val (.int (10 : Int32)), .val (.int (-1 : Int32)), .val (.int (2 : Int32))] []))
  refine Go.by (fun _ => XS.iload X1.here hx rfl (hb hby d6_10) rfl) ?_
  show Go p.tables e below _ (T1.setTop (mkF m 12 #[.val (.ref a1), .val (.int (2 : Int32)), .val (.int (10 : Int32)), .val (.int (-1 : Int32)), .val (.int (2 : Int32))] [(.int (2 : Int32))]))
  refine Go.by (fun _ => XS.iloadN X1.here hx rfl (hb hby d6_12) rfl) ?_
  show Go p.tables e below _ (T1.setTop (mkF m 13 #[.val (.ref a1), .val (.int (2 : Int32)), .val (.int (10 : Int32)), .val (.int (-1 : Int32)), .val (.int (2 : Int32))] [(.int (10 : Int32)), (.int (2 : Int32))]))
  refine Go.by (fun _ => XS.icmpNo X1.here hx rfl (hb hby d6_13) rfl (tlt (by decide)).2.1) ?_
  show Go p.tables e below _ (T1.setTop (mkF m 16 #[.val (.ref a1), .val (.int (2 : Int32)), .val (.int (10 : Int32)), .val (.int (-1 : Int32)), .val (.int (2 : Int32))] []))
  refine Go.by (fun _ => XS.aloadN X1.here hx rfl (hb hby d6_16) rfl rfl) ?_
  show Go p.tables e below _ (T1.setTop (mkF m 17 #[.val (.ref a1), .val (.int (2 : Int32)), .val (.int (10 : Int32)), .val (.int (-1 : Int32)), .val (.int (2 : Int32))] [(.ref a1)]))
  refine Go.by (fun _ => XS.iload X1.here hx rfl (hb hby d6_17) rfl) ?_
  show Go p.tables e below _ (T1.setTop (mkF m 19 #[.val (.ref a1), .val (.int (2 : Int32)), .val (.int (10 : Int32)), .val (.int (-1 : Int32)), .val (.int (2 : Int32))] [(.int (2 : Int32)), (.ref a1)]))
  refine Go.by (fun _ => XS.iloadN X1.here hx rfl (hb hby d6_19) rfl) ?_
  show Go p.tables e below _ (T1.setTop (mkF m 20 #[.val (.ref a1), .val (.int (2 : Int32)), .val (.int (10 : Int32)), .val (.int (-1 : Int32)), .val (.int (2 : Int32))] [(.int (-1 : Int32)), (.int (2 : Int32)), (.ref a1)]))
  obtain ⟨T2, h2, X2, W2, V2, st2⟩ := X1.stB hx hZ V_a g_a1 (by decide) (i := 2) rfl (by decide) (g := (mkF m 20 #[.val (.ref a1), .val (.int (2 : Int32)), .val (.int (10 : Int32)), .val (.int (-1 : Int32)), .val (.int (2 : Int32))] [(.int (-1 : Int32)), (.int (2 : Int32)), (.ref a1)])) rfl rfl (hb hby d6_20)
  have f3_31 := K0.wr W2 (Or.inl (List.mem_of_getElem? (i := 0) rfl))
  have Zs3 : n0 ≤ h2.size := by rw [W2.size]; exact Z0
  refine Go.by st2 ?_
  show Go p.tables e below _ (T2.setTop (mkF m 21 #[.val (.ref a1), .val (.int (2 : Int32)), .val (.int (10 : Int32)), .val (.int (-1 : Int32)), .val (.int (2 : Int32))] []))
  refine Go.by (fun _ => XS.iinc X2.here hx rfl (hb hby d6_21) rfl (l' := #[.val (.ref a1), .val (.int (2 : Int32)), .val (.int (10 : Int32)), .val (.int (-1 : Int32)), .val (.int (3 : Int32))]) rfl) ?_
  show Go p.tables e below _ (T2.setTop (mkF m 24 #[.val (.ref a1), .val (.int (2 : Int32)), .val (.int (10 : Int32)), .val (.int (-1 : Int32)), .val (.int (3 : Int32))] []))
  refine Go.by (fun _ => XS.goto X2.here hx rfl (pc0 := 24) (pc' := 10) rfl (hb hby d6_24) (by decide) (by decide)) ?_
  show Go p.tables e below _ (T2.setTop (mkF m 10 #[.val (.ref a1), .val (.int (2 : Int32)), .val (.int (10 : Int32)), .val (.int (-1 : Int32)), .val (.int (3 : Int32))] []))
  refine Go.by (fun _ => XS.iload X2.here hx rfl (hb hby d6_10) rfl) ?_
  show Go p.tables e below _ (T2.setTop (mkF m 12 #[.val (.ref a1), .val (.int (2 : Int32)), .val (.int (10 : Int32)), .val (.int (-1 : Int32)), .val (.int (3 : Int32))] [(.int (3 : Int32))]))
  refine Go.by (fun _ => XS.iloadN X2.here hx rfl (hb hby d6_12) rfl) ?_
  show Go p.tables e below _ (T2.setTop (mkF m 13 #[.val (.ref a1), .val (.int (2 : Int32)), .val (.int (10 : Int32)), .val (.int (-1 : Int32)), .val (.int (3 : Int32))] [(.int (10 : Int32)), (.int (3 : Int32))]))
  refine Go.by (fun _ => XS.icmpNo X2.here hx rfl (hb hby d6_13) rfl (tlt (by decide)).2.1) ?_
  show Go p.tables e below _ (T2.setTop (mkF m 16 #[.val (.ref a1), .val (.int (2 : Int32)), .val (.int (10 : Int32)), .val (.int (-1 : Int32)), .val (.int (3 : Int32))] []))
  refine Go.by (fun _ => XS.aloadN X2.here hx rfl (hb hby d6_16) rfl rfl) ?_
  show Go p.tables e below _ (T2.setTop (mkF m 17 #[.val (.ref a1), .val (.int (2 : Int32)), .val (.int (10 : Int32)), .val (.int (-1 : Int32)), .val (.int (3 : Int32))] [(.ref a1)]))
  refine Go.by (fun _ => XS.iload X2.here hx rfl (hb hby d6_17) rfl) ?_
  show Go p.tables e below _ (T2.setTop (mkF m 19 #[.val (.ref a1), .val (.int (2 : Int32)), .val (.int (10 : Int32)), .val (.int (-1 : Int32)), .val (.int (3 : Int32))] [(.int (3 : Int32)), (.ref a1)]))
  refine Go.by (fun _ => XS.iloadN X2.here hx rfl (hb hby d6_19) rfl) ?_
  show Go p.tables e below _ (T2.setTop (mkF m 20 #[.val (.ref a1), .val (.int (2 : Int32)), .val (.int (10 : Int32)), .val (.int (-1 : Int32)), .val (.int (3 : Int32))] [(.int (-1 : Int32)), (.int (3 : Int32)), (.ref a1)]))
  obtain ⟨T4, h4, X4, W4, V4, st4⟩ := X2.stB hx hZ V2 g_a1 (by decide) (i := 3) rfl (by decide) (g := (mkF m 20 #[.val (.ref a1), .val (.int (2 : Int32)), .val (.int (10 : Int32)), .val (.int (-1 : Int32)), .val (.int (3 : Int32))] [(.int (-1 : Int32)), (.int (3 : Int32)), (.ref a1)])) rfl rfl (hb hby d6_20)
  have f5_52 := f3_31.wr W4 (Or.inl (List.mem_of_getElem? (i := 0) rfl))
  have Zs5 : n0 ≤ h4.size := by rw [W4.size]; exact Zs3
  refine Go.by st4 ?_
  show Go p.tables e below _ (T4.setTop (mkF m 21 #[.val (.ref a1), .val (.int (2 : Int32)), .val (.int (10 : Int32)), .val (.int (-1 : Int32)), .val (.int (3 : Int32))] []))
  refine Go.by (fun _ => XS.iinc X4.here hx rfl (hb hby d6_21) rfl (l' := #[.val (.ref a1), .val (.int (2 : Int32)), .val (.int (10 : Int32)), .val (.int (-1 : Int32)), .val (.int (4 : Int32))]) rfl) ?_
  show Go p.tables e below _ (T4.setTop (mkF m 24 #[.val (.ref a1), .val (.int (2 : Int32)), .val (.int (10 : Int32)), .val (.int (-1 : Int32)), .val (.int (4 : Int32))] []))
  refine Go.by (fun _ => XS.goto X4.here hx rfl (pc0 := 24) (pc' := 10) rfl (hb hby d6_24) (by decide) (by decide)) ?_
  show Go p.tables e below _ (T4.setTop (mkF m 10 #[.val (.ref a1), .val (.int (2 : Int32)), .val (.int (10 : Int32)), .val (.int (-1 : Int32)), .val (.int (4 : Int32))] []))
  refine Go.by (fun _ => XS.iload X4.here hx rfl (hb hby d6_10) rfl) ?_
  show Go p.tables e below _ (T4.setTop (mkF m 12 #[.val (.ref a1), .val (.int (2 : Int32)), .val (.int (10 : Int32)), .val (.int (-1 : Int32)), .val (.int (4 : Int32))] [(.int (4 : Int32))]))
  refine Go.by (fun _ => XS.iloadN X4.here hx rfl (hb hby d6_12) rfl) ?_
  show Go p.tables e below _ (T4.setTop (mkF m 13 #[.val (.ref a1), .val (.int (2 : Int32)), .val (.int (10 : Int32)), .val (.int (-1 : Int32)), .val (.int (4 : Int32))] [(.int (10 : Int32)), (.int (4 : Int32))]))
  refine Go.by (fun _ => XS.icmpNo X4.here hx rfl (hb hby d6_13) rfl (tlt (by decide)).2.1) ?_
  show Go p.tables e below _ (T4.setTop (mkF m 16 #[.val (.ref a1), .val (.int (2 : Int32)), .val (.int (10 : Int32)), .val (.int (-1 : Int32)), .val (.int (4 : Int32))] []))
  refine Go.by (fun _ => XS.aloadN X4.here hx rfl (hb hby d6_16) rfl rfl) ?_
  show Go p.tables e below _ (T4.setTop (mkF m 17 #[.val (.ref a1), .val (.int (2 : Int32)), .val (.int (10 : Int32)), .val (.int (-1 : Int32)), .val (.int (4 : Int32))] [(.ref a1)]))
  refine Go.by (fun _ => XS.iload X4.here hx rfl (hb hby d6_17) rfl) ?_
  show Go p.tables e below _ (T4.setTop (mkF m 19 #[.val (.ref a1), .val (.int (2 : Int32)), .val (.int (10 : Int32)), .val (.int (-1 : Int32)), .val (.int (4 : Int32))] [(.int (4 : Int32)), (.ref a1)]))
  refine Go.by (fun _ => XS.iloadN X4.here hx rfl (hb hby d6_19) rfl) ?_
  show Go p.tables e below _ (T4.setTop (mkF m 20 #[.val (.ref a1), .val (.int (2 : Int32)), .val (.int (10 : Int32)), .val (.int (-1 : Int32)), .val (.int (4 : Int32))] [(.int (-1 : Int32)), (.int (4 : Int32)), (.ref a1)]))
  obtain ⟨T6, h6, X6, W6, V6, st6⟩ := X4.stB hx hZ V4 g_a1 (by decide) (i := 4) rfl (by decide) (g := (mkF m 20 #[.val (.ref a1), .val (.int (2 : Int32)), .val (.int (10 : Int32)), .val (.int (-1 : Int32)), .val (.int (4 : Int32))] [(.int (-1 : Int32)), (.int (4 : Int32)), (.ref a1)])) rfl rfl (hb hby d6_20)
  have f7_73 := f5_52.wr W6 (Or.inl (List.mem_of_getElem? (i := 0) rfl))
  have Zs7 : n0 ≤ h6.size := by rw [W6.size]; exact Zs5
  refine Go.by st6 ?_
  show Go p.tables e below _ (T6.setTop (mkF m 21 #[.val (.ref a1), .val (.int (2 : Int32)), .val (.int (10 : Int32)), .val (.int (-1 : Int32)), .val (.int (4 : Int32))] []))
  refine Go.by (fun _ => XS.iinc X6.here hx rfl (hb hby d6_21) rfl (l' := #[.val (.ref a1), .val (.int (2 : Int32)), .val (.int (10 : Int32)), .val (.int (-1 : Int32)), .val (.int (5 : Int32))]) rfl) ?_
  show Go p.tables e below _ (T6.setTop (mkF m 24 #[.val (.ref a1), .val (.int (2 : Int32)), .val (.int (10 : Int32)), .val (.int (-1 : Int32)), .val (.int (5 : Int32))] []))
  refine Go.by (fun _ => XS.goto X6.here hx rfl (pc0 := 24) (pc' := 10) rfl (hb hby d6_24) (by decide) (by decide)) ?_
  show Go p.tables e below _ (T6.setTop (mkF m 10 #[.val (.ref a1), .val (.int (2 : Int32)), .val (.int (10 : Int32)), .val (.int (-1 : Int32)), .val (.int (5 : Int32))] []))
  refine Go.by (fun _ => XS.iload X6.here hx rfl (hb hby d6_10) rfl) ?_
  show Go p.tables e below _ (T6.setTop (mkF m 12 #[.val (.ref a1), .val (.int (2 : Int32)), .val (.int (10 : Int32)), .val (.int (-1 : Int32)), .val (.int (5 : Int32))] [(.int (5 : Int32))]))
  refine Go.by (fun _ => XS.iloadN X6.here hx rfl (hb hby d6_12) rfl) ?_
  show Go p.tables e below _ (T6.setTop (mkF m 13 #[.val (.ref a1), .val (.int (2 : Int32)), .val (.int (10 : Int32)), .val (.int (-1 : Int32)), .val (.int (5 : Int32))] [(.int (10 : Int32)), (.int (5 : Int32))]))
  refine Go.by (fun _ => XS.icmpNo X6.here hx rfl (hb hby d6_13) rfl (tlt (by decide)).2.1) ?_
  show Go p.tables e below _ (T6.setTop (mkF m 16 #[.val (.ref a1), .val (.int (2 : Int32)), .val (.int (10 : Int32)), .val (.int (-1 : Int32)), .val (.int (5 : Int32))] []))
  refine Go.by (fun _ => XS.aloadN X6.here hx rfl (hb hby d6_16) rfl rfl) ?_
  show Go p.tables e below _ (T6.setTop (mkF m 17 #[.val (.ref a1), .val (.int (2 : Int32)), .val (.int (10 : Int32)), .val (.int (-1 : Int32)), .val (.int (5 : Int32))] [(.ref a1)]))
  refine Go.by (fun _ => XS.iload X6.here hx rfl (hb hby d6_17) rfl) ?_
  show Go p.tables e below _ (T6.setTop (mkF m 19 #[.val (.ref a1), .val (.int (2 : Int32)), .val (.int (10 : Int32)), .val (.int (-1 : Int32)), .val (.int (5 : Int32))] [(.int (5 : Int32)), (.ref a1)]))
  refine Go.by (fun _ => XS.iloadN X6.here hx rfl (hb hby d6_19) rfl) ?_
  show Go p.tables e below _ (T6.setTop (mkF m 20 #[.val (.ref a1), .val (.int (2 : Int32)), .val (.int (10 : Int32)), .val (.int (-1 : Int32)), .val (.int (5 : Int32))] [(.int (-1 : Int32)), (.int (5 : Int32)), (.ref a1)]))
  obtain ⟨T8, h8, X8, W8, V8, st8⟩ := X6.stB hx hZ V6 g_a1 (by decide) (i := 5) rfl (by decide) (g := (mkF m 20 #[.val (.ref a1), .val (.int (2 : Int32)), .val (.int (10 : Int32)), .val (.int (-1 : Int32)), .val (.int (5 : Int32))] [(.int (-1 : Int32)), (.int (5 : Int32)), (.ref a1)])) rfl rfl (hb hby d6_20)
  have f9_94 := f7_73.wr W8 (Or.inl (List.mem_of_getElem? (i := 0) rfl))
  have Zs9 : n0 ≤ h8.size := by rw [W8.size]; exact Zs7
  refine Go.by st8 ?_
  show Go p.tables e below _ (T8.setTop (mkF m 21 #[.val (.ref a1), .val (.int (2 : Int32)), .val (.int (10 : Int32)), .val (.int (-1 : Int32)), .val (.int (5 : Int32))] []))
  refine Go.by (fun _ => XS.iinc X8.here hx rfl (hb hby d6_21) rfl (l' := #[.val (.ref a1), .val (.int (2 : Int32)), .val (.int (10 : Int32)), .val (.int (-1 : Int32)), .val (.int (6 : Int32))]) rfl) ?_
  show Go p.tables e below _ (T8.setTop (mkF m 24 #[.val (.ref a1), .val (.int (2 : Int32)), .val (.int (10 : Int32)), .val (.int (-1 : Int32)), .val (.int (6 : Int32))] []))
  refine Go.by (fun _ => XS.goto X8.here hx rfl (pc0 := 24) (pc' := 10) rfl (hb hby d6_24) (by decide) (by decide)) ?_
  show Go p.tables e below _ (T8.setTop (mkF m 10 #[.val (.ref a1), .val (.int (2 : Int32)), .val (.int (10 : Int32)), .val (.int (-1 : Int32)), .val (.int (6 : Int32))] []))
  refine Go.by (fun _ => XS.iload X8.here hx rfl (hb hby d6_10) rfl) ?_
  show Go p.tables e below _ (T8.setTop (mkF m 12 #[.val (.ref a1), .val (.int (2 : Int32)), .val (.int (10 : Int32)), .val (.int (-1 : Int32)), .val (.int (6 : Int32))] [(.int (6 : Int32))]))
  refine Go.by (fun _ => XS.iloadN X8.here hx rfl (hb hby d6_12) rfl) ?_
  show Go p.tables e below _ (T8.setTop (mkF m 13 #[.val (.ref a1), .val (.int (2 : Int32)), .val (.int (10 : Int32)), .val (.int (-1 : Int32)), .val (.int (6 : Int32))] [(.int (10 : Int32)), (.int (6 : Int32))]))
  refine Go.by (fun _ => XS.icmpNo X8.here hx rfl (hb hby d6_13) rfl (tlt (by decide)).2.1) ?_
  show Go p.tables e below _ (T8.setTop (mkF m 16 #[.val (.ref a1), .val (.int (2 : Int32)), .val (.int (10 : Int32)), .val (.int (-1 : Int32)), .val (.int (6 : Int32))] []))
  refine Go.by (fun _ => XS.aloadN X8.here hx rfl (hb hby d6_16) rfl rfl) ?_
  show Go p.tables e below _ (T8.setTop (mkF m 17 #[.val (.ref a1), .val (.int (2 : Int32)), .val (.int (10 : Int32)), .val (.int (-1 : Int32)), .val (.int (6 : Int32))] [(.ref a1)]))
  refine Go.by (fun _ => XS.iload X8.here hx rfl (hb hby d6_17) rfl) ?_
  show Go p.tables e below _ (T8.setTop (mkF m 19 #[.val (.ref a1), .val (.int (2 : Int32)), .val (.int (10 : Int32)), .val (.int (-1 : Int32)), .val (.int (6 : Int32))] [(.int (6 : Int32)), (.ref a1)]))
  refine Go.by (fun _ => XS.iloadN X8.here hx rfl (hb hby d6_19) rfl) ?_
  show Go p.tables e below _ (T8.setTop (mkF m 20 #[.val (.ref a1), .val (.int (2 : Int32)), .val (.int (10 : Int32)), .val (.int (-1 : Int32)), .val (.int (6 : Int32))] [(.int (-1 : Int32)), (.int (6 : Int32)), (.ref a1)]))
  obtain ⟨T10, h10, X10, W10, V10, st10⟩ := X8.stB hx hZ V8 g_a1 (by decide) (i := 6) rfl (by decide) (g := (mkF m 20 #[.val (.ref a1), .val (.int (2 : Int32)), .val (.int (10 : Int32)), .val (.int (-1 : Int32)), .val (.int (6 : Int32))] [(.int (-1 : Int32)), (.int (6 : Int32)), (.ref a1)])) rfl rfl (hb hby d6_20)
  have f11_115 := f9_94.wr W10 (Or.inl (List.mem_of_getElem? (i := 0) rfl))
  have Zs11 : n0 ≤ h10.size := by rw [W10.size]; exact Zs9
  refine Go.by st10 ?_
  show Go p.tables e below _ (T10.setTop (mkF m 21 #[.val (.ref a1), .val (.int (2 : Int32)), .val (.int (10 : Int32)), .val (.int (-1 : Int32)), .val (.int (6 : Int32))] []))
  refine Go.by (fun _ => XS.iinc X10.here hx rfl (hb hby d6_21) rfl (l' := #[.val (.ref a1), .val (.int (2 : Int32)), .val (.int (10 : Int32)), .val (.int (-1 : Int32)), .val (.int (7 : Int32))]) rfl) ?_
  show Go p.tables e below _ (T10.setTop (mkF m 24 #[.val (.ref a1), .val (.int (2 : Int32)), .val (.int (10 : Int32)), .val (.int (-1 : Int32)), .val (.int (7 : Int32))] []))
  refine Go.by (fun _ => XS.goto X10.here hx rfl (pc0 := 24) (pc' := 10) rfl (hb hby d6_24) (by decide) (by decide)) ?_
  show Go p.tables e below _ (T10.setTop (mkF m 10 #[.val (.ref a1), .val (.int (2 : Int32)), .val (.int (10 : Int32)), .val (.int (-1 : Int32)), .val (.int (7 : Int32))] []))
  refine Go.by (fun _ => XS.iload X10.here hx rfl (hb hby d6_10) rfl) ?_
  show Go p.tables e below _ (T10.setTop (mkF m 12 #[.val (.ref a1), .val (.int (2 : Int32)), .val (.int (10 : Int32)), .val (.int (-1 : Int32)), .val (.int (7 : Int32))] [(.int (7 : Int32))]))
  refine Go.by (fun _ => XS.iloadN X10.here hx rfl (hb hby d6_12) rfl) ?_
  show Go p.tables e below _ (T10.setTop (mkF m 13 #[.val (.ref a1), .val (.int (2 : Int32)), .val (.int (10 : Int32)), .val (.int (-1 : Int32)), .val (.int (7 : Int32))] [(.int (10 : Int32)), (.int (7 : Int32))]))
  refine Go.by (fun _ => XS.icmpNo X10.here hx rfl (hb hby d6_13) rfl (tlt (by decide)).2.1) ?_
  show Go p.tables e below _ (T10.setTop (mkF m 16 #[.val (.ref a1), .val (.int (2 : Int32)), .val (.int (10 : Int32)), .val (.int (-1 : Int32)), .val (.int (7 : Int32))] []))
  refine Go.by (fun _ => XS.aloadN X10.here hx rfl (hb hby d6_16) rfl rfl) ?_
  show Go p.tables e below _ (T10.setTop (mkF m 17 #[.val (.ref a1), .val (.int (2 : Int32)), .val (.int (10 : Int32)), .val (.int (-1 : Int32)), .val (.int (7 : Int32))] [(.ref a1)]))
  refine Go.by (fun _ => XS.iload X10.here hx rfl (hb hby d6_17) rfl) ?_
  show Go p.tables e below _ (T10.setTop (mkF m 19 #[.val (.ref a1), .val (.int (2 : Int32)), .val (.int (10 : Int32)), .val (.int (-1 : Int32)), .val (.int (7 : Int32))] [(.int (7 : Int32)), (.ref a1)]))
  refine Go.by (fun _ => XS.iloadN X10.here hx rfl (hb hby d6_19) rfl) ?_
  show Go p.tables e below _ (T10.setTop (mkF m 20 #[.val (.ref a1), .val (.int (2 : Int32)), .val (.int (10 : Int32)), .val (.int (-1 : Int32)), .val (.int (7 : Int32))] [(.int (-1 : Int32)), (.int (7 : Int32)), (.ref a1)]))
  obtain ⟨T12, h12, X12, W12, V12, st12⟩ := X10.stB hx hZ V10 g_a1 (by decide) (i := 7) rfl (by decide) (g := (mkF m 20 #[.val (.ref a1), .val (.int (2 : Int32)), .val (.int (10 : Int32)), .val (.int (-1 : Int32)), .val (.int (7 : Int32))] [(.int (-1 : Int32)), (.int (7 : Int32)), (.ref a1)])) rfl rfl (hb hby d6_20)
  have f13_136 := f11_115.wr W12 (Or.inl (List.mem_of_getElem? (i := 0) rfl))
  have Zs13 : n0 ≤ h12.size := by rw [W12.size]; exact Zs11
  refine Go.by st12 ?_
  show Go p.tables e below _ (T12.setTop (mkF m 21 #[.val (.ref a1), .val (.int (2 : Int32)), .val (.int (10 : Int32)), .val (.int (-1 : Int32)), .val (.int (7 : Int32))] []))
  refine Go.by (fun _ => XS.iinc X12.here hx rfl (hb hby d6_21) rfl (l' := #[.val (.ref a1), .val (.int (2 : Int32)), .val (.int (10 : Int32)), .val (.int (-1 : Int32)), .val (.int (8 : Int32))]) rfl) ?_
  show Go p.tables e below _ (T12.setTop (mkF m 24 #[.val (.ref a1), .val (.int (2 : Int32)), .val (.int (10 : Int32)), .val (.int (-1 : Int32)), .val (.int (8 : Int32))] []))
  refine Go.by (fun _ => XS.goto X12.here hx rfl (pc0 := 24) (pc' := 10) rfl (hb hby d6_24) (by decide) (by decide)) ?_
  show Go p.tables e below _ (T12.setTop (mkF m 10 #[.val (.ref a1), .val (.int (2 : Int32)), .val (.int (10 : Int32)), .val (.int (-1 : Int32)), .val (.int (8 : Int32))] []))
  refine Go.by (fun _ => XS.iload X12.here hx rfl (hb hby d6_10) rfl) ?_
  show Go p.tables e below _ (T12.setTop (mkF m 12 #[.val (.ref a1), .val (.int (2 : Int32)), .val (.int (10 : Int32)), .val (.int (-1 : Int32)), .val (.int (8 : Int32))] [(.int (8 : Int32))]))
  refine Go.by (fun _ => XS.iloadN X12.here hx rfl (hb hby d6_12) rfl) ?_
  show Go p.tables e below _ (T12.setTop (mkF m 13 #[.val (.ref a1), .val (.int (2 : Int32)), .val (.int (10 : Int32)), .val (.int (-1 : Int32)), .val (.int (8 : Int32))] [(.int (10 : Int32)), (.int (8 : Int32))]))
  refine Go.by (fun _ => XS.icmpNo X12.here hx rfl (hb hby d6_13) rfl (tlt (by decide)).2.1) ?_
  show Go p.tables e below _ (T12.setTop (mkF m 16 #[.val (.ref a1), .val (.int (2 : Int32)), .val (.int (10 : Int32)), .val (.int (-1 : Int32)), .val (.int (8 : Int32))] []))
  refine Go.by (fun _ => XS.aloadN X12.here hx rfl (hb hby d6_16) rfl rfl) ?_
  show Go p.tables e below _ (T12.setTop (mkF m 17 #[.val (.ref a1), .val (.int (2 : Int32)), .val (.int (10 : Int32)), .val (.int (-1 : Int32)), .val (.int (8 : Int32))] [(.ref a1)]))
  refine Go.by (fun _ => XS.iload X12.here hx rfl (hb hby d6_17) rfl) ?_
  show Go p.tables e below _ (T12.setTop (mkF m 19 #[.val (.ref a1), .val (.int (2 : Int32)), .val (.int (10 : Int32)), .val (.int (-1 : Int32)), .val (.int (8 : Int32))] [(.int (8 : Int32)), (.ref a1)]))
  refine Go.by (fun _ => XS.iloadN X12.here hx rfl (hb hby d6_19) rfl) ?_
  show Go p.tables e below _ (T12.setTop (mkF m 20 #[.val (.ref a1), .val (.int (2 : Int32)), .val (.int (10 : Int32)), .val (.int (-1 : Int32)), .val (.int (8 : Int32))] [(.int (-1 : Int32)), (.int (8 : Int32)), (.ref a1)]))
  obtain ⟨T14, h14, X14, W14, V14, st14⟩ := X12.stB hx hZ V12 g_a1 (by decide) (i := 8) rfl (by decide) (g := (mkF m 20 #[.val (.ref a1), .val (.int (2 : Int32)), .val (.int (10 : Int32)), .val (.int (-1 : Int32)), .val (.int (8 : Int32))] [(.int (-1 : Int32)), (.int (8 : Int32)), (.ref a1)])) rfl rfl (hb hby d6_20)
  have f15_157 := f13_136.wr W14 (Or.inl (List.mem_of_getElem? (i := 0) rfl))
  have Zs15 : n0 ≤ h14.size := by rw [W14.size]; exact Zs13
  refine Go.by st14 ?_
  show Go p.tables e below _ (T14.setTop (mkF m 21 #[.val (.ref a1), .val (.int (2 : Int32)), .val (.int (10 : Int32)), .val (.int (-1 : Int32)), .val (.int (8 : Int32))] []))
  refine Go.by (fun _ => XS.iinc X14.here hx rfl (hb hby d6_21) rfl (l' := #[.val (.ref a1), .val (.int (2 : Int32)), .val (.int (10 : Int32)), .val (.int (-1 : Int32)), .val (.int (9 : Int32))]) rfl) ?_
  show Go p.tables e below _ (T14.setTop (mkF m 24 #[.val (.ref a1), .val (.int (2 : Int32)), .val (.int (10 : Int32)), .val (.int (-1 : Int32)), .val (.int (9 : Int32))] []))
  refine Go.by (fun _ => XS.goto X14.here hx rfl (pc0 := 24) (pc' := 10) rfl (hb hby d6_24) (by decide) (by decide)) ?_
  show Go p.tables e below _ (T14.setTop (mkF m 10 #[.val (.ref a1), .val (.int (2 : Int32)), .val (.int (10 : Int32)), .val (.int (-1 : Int32)), .val (.int (9 : Int32))] []))
  refine Go.by (fun _ => XS.iload X14.here hx rfl (hb hby d6_10) rfl) ?_
  show Go p.tables e below _ (T14.setTop (mkF m 12 #[.val (.ref a1), .val (.int (2 : Int32)), .val (.int (10 : Int32)), .val (.int (-1 : Int32)), .val (.int (9 : Int32))] [(.int (9 : Int32))]))
  refine Go.by (fun _ => XS.iloadN X14.here hx rfl (hb hby d6_12) rfl) ?_
  show Go p.tables e below _ (T14.setTop (mkF m 13 #[.val (.ref a1), .val (.int (2 : Int32)), .val (.int (10 : Int32)), .val (.int (-1 : Int32)), .val (.int (9 : Int32))] [(.int (10 : Int32)), (.int (9 : Int32))]))
  refine Go.by (fun _ => XS.icmpNo X14.here hx rfl (hb hby d6_13) rfl (tlt (by decide)).2.1) ?_
  show Go p.tables e below _ (T14.setTop (mkF m 16 #[.val (.ref a1), .val (.int (2 : Int32)), .val (.int (10 : Int32)), .val (.int (-1 : Int32)), .val (.int (9 : Int32))] []))
  refine Go.by (fun _ => XS.aloadN X14.here hx rfl (hb hby d6_16) rfl rfl) ?_
  show Go p.tables e below _ (T14.setTop (mkF m 17 #[.val (.ref a1), .val (.int (2 : Int32)), .val (.int (10 : Int32)), .val (.int (-1 : Int32)), .val (.int (9 : Int32))] [(.ref a1)]))
  refine Go.by (fun _ => XS.iload X14.here hx rfl (hb hby d6_17) rfl) ?_
  show Go p.tables e below _ (T14.setTop (mkF m 19 #[.val (.ref a1), .val (.int (2 : Int32)), .val (.int (10 : Int32)), .val (.int (-1 : Int32)), .val (.int (9 : Int32))] [(.int (9 : Int32)), (.ref a1)]))
  refine Go.by (fun _ => XS.iloadN X14.here hx rfl (hb hby d6_19) rfl) ?_
  show Go p.tables e below _ (T14.setTop (mkF m 20 #[.val (.ref a1), .val (.int (2 : Int32)), .val (.int (10 : Int32)), .val (.int (-1 : Int32)), .val (.int (9 : Int32))] [(.int (-1 : Int32)), (.int (9 : Int32)), (.ref a1)]))
  obtain ⟨T16, h16, X16, W16, V16, st16⟩ := X14.stB hx hZ V14 g_a1 (by decide) (i := 9) rfl (by decide) (g := (mkF m 20 #[.val (.ref a1), .val (.int (2 : Int32)), .val (.int (10 : Int32)), .val (.int (-1 : Int32)), .val (.int (9 : Int32))] [(.int (-1 : Int32)), (.int (9 : Int32)), (.ref a1)])) rfl rfl (hb hby d6_20)
  have f17_178 := f15_157.wr W16 (Or.inl (List.mem_of_getElem? (i := 0) rfl))
  have Zs17 : n0 ≤ h16.size := by rw [W16.size]; exact Zs15
  refine Go.by st16 ?_
  show Go p.tables e below _ (T16.setTop (mkF m 21 #[.val (.ref a1), .val (.int (2 : Int32)), .val (.int (10 : Int32)), .val (.int (-1 : Int32)), .val (.int (9 : Int32))] []))
  refine Go.by (fun _ => XS.iinc X16.here hx rfl (hb hby d6_21) rfl (l' := #[.val (.ref a1), .val (.int (2 : Int32)), .val (.int (10 : Int32)), .val (.int (-1 : Int32)), .val (.int (10 : Int32))]) rfl) ?_
  show Go p.tables e below _ (T16.setTop (mkF m 24 #[.val (.ref a1), .val (.int (2 : Int32)), .val (.int (10 : Int32)), .val (.int (-1 : Int32)), .val (.int (10 : Int32))] []))
  refine Go.by (fun _ => XS.goto X16.here hx rfl (pc0 := 24) (pc' := 10) rfl (hb hby d6_24) (by decide) (by decide)) ?_
  show Go p.tables e below _ (T16.setTop (mkF m 10 #[.val (.ref a1), .val (.int (2 : Int32)), .val (.int (10 : Int32)), .val (.int (-1 : Int32)), .val (.int (10 : Int32))] []))
  refine Go.by (fun _ => XS.iload X16.here hx rfl (hb hby d6_10) rfl) ?_
  show Go p.tables e below _ (T16.setTop (mkF m 12 #[.val (.ref a1), .val (.int (2 : Int32)), .val (.int (10 : Int32)), .val (.int (-1 : Int32)), .val (.int (10 : Int32))] [(.int (10 : Int32))]))
  refine Go.by (fun _ => XS.iloadN X16.here hx rfl (hb hby d6_12) rfl) ?_
  show Go p.tables e below _ (T16.setTop (mkF m 13 #[.val (.ref a1), .val (.int (2 : Int32)), .val (.int (10 : Int32)), .val (.int (-1 : Int32)), .val (.int (10 : Int32))] [(.int (10 : Int32)), (.int (10 : Int32))]))
  refine Go.by (fun _ => XS.icmpYes X16.here hx rfl (pc0 := 13) (pc' := 27) rfl (hb hby d6_13) rfl (flt (by decide)).2.1 (by decide) (by decide)) ?_
  show Go p.tables e below _ (T16.setTop (mkF m 27 #[.val (.ref a1), .val (.int (2 : Int32)), .val (.int (10 : Int32)), .val (.int (-1 : Int32)), .val (.int (10 : Int32))] []))
  refine Go.ret0 X16 hx hlk hret (hb hby d6_27) (by decide) (by decide) ?_
  refine ⟨rfl, f17_178, Avf.cong V16 (fun i hi => ?_)⟩
  by_cases q : i < 2
  · have y0 : ¬ i = 2 := by omega
    have y1 : ¬ i = 3 := by omega
    have y2 : ¬ i = 4 := by omega
    have y3 : ¬ i = 5 := by omega
    have y4 : ¬ i = 6 := by omega
    have y5 : ¬ i = 7 := by omega
    have y6 : ¬ i = 8 := by omega
    have y7 : ¬ i = 9 := by omega
    simp [q, y0, y1, y2, y3, y4, y5, y6, y7]
  · have y : i = 2 ∨ i = 3 ∨ i = 4 ∨ i = 5 ∨ i = 6 ∨ i = 7 ∨ i = 8 ∨ i = 9 := by omega
    rcases y with rfl | rfl | rfl | rfl | rfl | rfl | rfl | rfl <;> rfl
abbrev Rm3_2 : Room := { frames := 2, cells := 1, slots := 16, locals := 32 }
set_option maxRecDepth 65536 in
set_option maxHeartbeats 40000000 in
theorem rm3_2 (l : Launch) (Z : State) (a0 : Array Value) (hw : ∀ d ∈ tables_1, d.before a0 Z = true) (ws : List Jvm.Cond) (a1 : Addr) (kc : ClassId) (fi : Nat → Int32) (h0 : Heap) (n0 : Nat) (Z0 : n0 ≤ h0.size) (V_a : Avf Z h0 a1 kc .byte 2 (fun t => (.int (fi t)))) :
    Met l Z n0 (⟨"com/example/clio/clio/Layout", "pastEntries", "([B)[B"⟩ : MethodName) prog_20_method_22_code 2 (some (.array .byte)) ws Rm3_2 #[(.ref a1)] h0 (fun v h => ∃ r kr, v = some (.ref r) ∧ h0.size ≤ r ∧ Keep h0 h [] ∧ Avf Z h r kr .byte (2 + 8) (fun t => (.int (if t < 2 then fi t else -1)))) := by
  refine enter (Ls := #[.val (.ref a1), .unset]) (plainFor_of_name pn2) (fun m => by first | (simp [entryFrame, mkF, argsToLocals, Value.category]; done) | rfl) ?_
  intro p e s m below meth c T0 hx hby hml hown hnm hret hlk hZ X0
  have K0 := Keep.refl h0 []
  show Go p.tables e below _ (T0.setTop (mkF m 0 #[.val (.ref a1), .unset] []))
  refine Go.by (fun _ => XS.aloadN X0.here hx rfl (hb hby d3_0) rfl rfl) ?_
  show Go p.tables e below _ (T0.setTop (mkF m 1 #[.val (.ref a1), .unset] [(.ref a1)]))
  refine Go.by (fun _ => XS.aloadN X0.here hx rfl (hb hby d3_1) rfl rfl) ?_
  show Go p.tables e below _ (T0.setTop (mkF m 2 #[.val (.ref a1), .unset] [(.ref a1), (.ref a1)]))
  refine Go.by (X0.len hx hZ V_a (z := (2 : Int32)) rfl (g := (mkF m 2 #[.val (.ref a1), .unset] [(.ref a1), (.ref a1)])) rfl rfl (hb hby d3_2)) ?_
  show Go p.tables e below _ (T0.setTop (mkF m 3 #[.val (.ref a1), .unset] [(.int (2 : Int32)), (.ref a1)]))
  refine Go.by (fun _ => XS.bipush X0.here hx rfl (hb hby d3_3)) ?_
  show Go p.tables e below _ (T0.setTop (mkF m 5 #[.val (.ref a1), .unset] [(.int (8 : Int32)), (.int (2 : Int32)), (.ref a1)]))
  refine Go.by (fun _ => XS.iadd X0.here hx rfl (hb hby d3_5) rfl) ?_
  show Go p.tables e below _ (T0.setTop (mkF m 6 #[.val (.ref a1), .unset] [(.int (10 : Int32)), (.ref a1)]))
  obtain ⟨v1, T1, h1, X1, q1, st1⟩ := X0.callS hx hZ (y := (⟨"java/util/Arrays", "copyOf", "([BI)[B"⟩ : MethodName)) hown (tw hw 13 rfl) (tw hw 14 rfl) (tw hw 15 rfl) (tw hw 16 rfl) (by decide) (rm4_2 l Z a0 hw [] a1 kc fi h0 n0 Z0 V_a) (g := (mkF m 6 #[.val (.ref a1), .unset] [(.int (10 : Int32)), (.ref a1)])) rfl (by rw [hml]; rfl) (argsL := [(.ref a1), (.int (10 : Int32))]) (rest := []) (lenOf pd3 rfl) rfl (hb hby d3_6) rfl (by decide) (Nat.le_of_ble_eq_true rfl) (k' := 1) (n' := 16) rfl rfl (by decide) (by decide)
  refine Go.by st1 ?_
  obtain ⟨r1, kr1, rfl, sr1, K1, V1⟩ := q1
  have g_r1 : n0 ≤ r1 := Nat.le_trans Z0 sr1
  have sz_r1 : h0.size ≤ r1 := Nat.le_trans K0.1 sr1
  have ne_a1_r1 : a1 ≠ r1 := Nat.ne_of_lt (Nat.lt_of_lt_of_le V_a.lt sr1)
  have f2_18 := Avf.ext V_a (keep_ext K1)
  have f2_19 := K0.ext (keep_ext K1)
  have Zs2 : n0 ≤ h1.size := Nat.le_trans Z0 (keep_ext K1).1
  show Go p.tables e below _ (T1.setTop (mkF m 9 #[.val (.ref a1), .unset] [(.ref r1)]))
  refine Go.by (fun _ => XS.astoreN X1.here hx rfl (hb hby d3_9) rfl rfl (l' := #[.val (.ref a1), .val (.ref r1)]) rfl) ?_
  show Go p.tables e below _ (T1.setTop (mkF m 10 #[.val (.ref a1), .val (.ref r1)] []))
  refine Go.by (fun _ => XS.aloadN X1.here hx rfl (hb hby d3_10) rfl rfl) ?_
  show Go p.tables e below _ (T1.setTop (mkF m 11 #[.val (.ref a1), .val (.ref r1)] [(.ref r1)]))
  refine Go.by (fun _ => XS.aloadN X1.here hx rfl (hb hby d3_11) rfl rfl) ?_
  show Go p.tables e below _ (T1.setTop (mkF m 12 #[.val (.ref a1), .val (.ref r1)] [(.ref a1), (.ref r1)]))
  refine Go.by (X1.len hx hZ f2_18 (z := (2 : Int32)) rfl (g := (mkF m 12 #[.val (.ref a1), .val (.ref r1)] [(.ref a1), (.ref r1)])) rfl rfl (hb hby d3_12)) ?_
  show Go p.tables e below _ (T1.setTop (mkF m 13 #[.val (.ref a1), .val (.ref r1)] [(.int (2 : Int32)), (.ref r1)]))
  refine Go.by (fun _ => XS.aloadN X1.here hx rfl (hb hby d3_13) rfl rfl) ?_
  show Go p.tables e below _ (T1.setTop (mkF m 14 #[.val (.ref a1), .val (.ref r1)] [(.ref r1), (.int (2 : Int32)), (.ref r1)]))
  refine Go.by (X1.len hx hZ V1 (z := (10 : Int32)) rfl (g := (mkF m 14 #[.val (.ref a1), .val (.ref r1)] [(.ref r1), (.int (2 : Int32)), (.ref r1)])) rfl rfl (hb hby d3_14)) ?_
  show Go p.tables e below _ (T1.setTop (mkF m 15 #[.val (.ref a1), .val (.ref r1)] [(.int (10 : Int32)), (.int (2 : Int32)), (.ref r1)]))
  refine Go.by (fun _ => XS.iconst X1.here hx rfl (hb hby d3_15)) ?_
  show Go p.tables e below _ (T1.setTop (mkF m 16 #[.val (.ref a1), .val (.ref r1)] [(.int (-1 : Int32)), (.int (10 : Int32)), (.int (2 : Int32)), (.ref r1)]))
  obtain ⟨v3, T3, h3, X3, q3, st3⟩ := X1.callS hx hZ (y := (⟨"java/util/Arrays", "fill", "([BIIB)V"⟩ : MethodName)) hown (tw hw 25 rfl) (tw hw 26 rfl) (tw hw 15 rfl) (tw hw 27 rfl) (by decide) (rm6_2 l Z a0 hw [] r1 kr1 (fun t => if t < 2 then fi t else 0) h1 n0 Zs2 g_r1 V1) (g := (mkF m 16 #[.val (.ref a1), .val (.ref r1)] [(.int (-1 : Int32)), (.int (10 : Int32)), (.int (2 : Int32)), (.ref r1)])) rfl (by rw [hml]; rfl) (argsL := [(.ref r1), (.int (2 : Int32)), (.int (10 : Int32)), (.int (-1 : Int32))]) (rest := []) (lenOf pd4 rfl) rfl (hb hby d3_16) rfl (by decide) (Nat.le_of_ble_eq_true rfl) (k' := 1) (n' := 16) rfl rfl (by decide) (by decide)
  refine Go.by st3 ?_
  obtain ⟨rfl, K3, V3⟩ := q3
  have f4_39 := Avf.keep f2_18 K3 (ninS ne_a1_r1 nin0)
  have f4_40 := f2_19.trans K3 (allS (Or.inr sz_r1) all0)
  have Zs4 : n0 ≤ h3.size := Nat.le_trans Zs2 K3.1
  show Go p.tables e below _ (T3.setTop (mkF m 19 #[.val (.ref a1), .val (.ref r1)] []))
  refine Go.by (fun _ => XS.aloadN X3.here hx rfl (hb hby d3_19) rfl rfl) ?_
  show Go p.tables e below _ (T3.setTop (mkF m 20 #[.val (.ref a1), .val (.ref r1)] [(.ref r1)]))
  refine Go.retA X3 hx hlk hret rfl rfl (hb hby d3_20) (by decide) (by decide) ?_
  refine ⟨r1, kr1, rfl, sz_r1, f4_40, Avf.cong V3 (fun i hi => ?_)⟩
  by_cases q : i < 2 <;> first | (simp [q]; done) | (simp [q]; rfl)
abbrev Rm5_3 : Room := { frames := 0, cells := 0, slots := 0, locals := 0 }
set_option maxRecDepth 65536 in
set_option maxHeartbeats 40000000 in
theorem rm5_3 (l : Launch) (Z : State) (a0 : Array Value) (hw : ∀ d ∈ tables_1, d.before a0 Z = true) (ws : List Jvm.Cond)  (h0 : Heap) (n0 : Nat) (Z0 : n0 ≤ h0.size) :
    Met l Z n0 (⟨"java/lang/Math", "min", "(II)I"⟩ : MethodName) jdk_29_method_69_code 2 (some .int) ws Rm5_3 #[(.int (3 : Int32)), (.int (11 : Int32))] h0 (fun v h => v = some (.int (3 : Int32)) ∧ h0 = h) := by
  refine enter (Ls := #[.val (.int (3 : Int32)), .val (.int (11 : Int32))]) (Jvm.Free.JP.mathPlain rfl (by decide +kernel)) (fun m => by first | (simp [entryFrame, mkF, argsToLocals, Value.category]; done) | rfl) ?_
  intro p e s m below meth c T0 hx hby hml hown hnm hret hlk hZ X0
  show Go p.tables e below _ (T0.setTop (mkF m 0 #[.val (.int (3 : Int32)), .val (.int (11 : Int32))] []))
  refine Go.by (fun _ => XS.iloadN X0.here hx rfl (hb hby d5_0) rfl) ?_
  show Go p.tables e below _ (T0.setTop (mkF m 1 #[.val (.int (3 : Int32)), .val (.int (11 : Int32))] [(.int (3 : Int32))]))
  refine Go.by (fun _ => XS.iloadN X0.here hx rfl (hb hby d5_1) rfl) ?_
  show Go p.tables e below _ (T0.setTop (mkF m 2 #[.val (.int (3 : Int32)), .val (.int (11 : Int32))] [(.int (11 : Int32)), (.int (3 : Int32))]))
  refine Go.by (fun _ => XS.icmpNo X0.here hx rfl (hb hby d5_2) rfl (flt (by decide)).2.2.1) ?_
  show Go p.tables e below _ (T0.setTop (mkF m 5 #[.val (.int (3 : Int32)), .val (.int (11 : Int32))] []))
  refine Go.by (fun _ => XS.iloadN X0.here hx rfl (hb hby d5_5) rfl) ?_
  show Go p.tables e below _ (T0.setTop (mkF m 6 #[.val (.int (3 : Int32)), .val (.int (11 : Int32))] [(.int (3 : Int32))]))
  refine Go.by (fun _ => XS.goto X0.here hx rfl (pc0 := 6) (pc' := 10) rfl (hb hby d5_6) (by decide) (by decide)) ?_
  show Go p.tables e below _ (T0.setTop (mkF m 10 #[.val (.int (3 : Int32)), .val (.int (11 : Int32))] [(.int (3 : Int32))]))
  exact Go.retI X0 hx hlk hret (hb hby d5_10) (by decide) (by decide) ⟨rfl, rfl⟩
abbrev Rm7_3 : Room := { frames := 0, cells := 0, slots := 0, locals := 0 }
set_option maxRecDepth 65536 in
set_option maxHeartbeats 40000000 in
theorem rm7_3 (l : Launch) (Z : State) (a0 : Array Value) (hw : ∀ d ∈ tables_1, d.before a0 Z = true) (ws : List Jvm.Cond)  (h0 : Heap) (n0 : Nat) (Z0 : n0 ≤ h0.size) :
    Met l Z n0 (⟨"java/util/Arrays", "rangeCheck", "(III)V"⟩ : MethodName) jdk_65_method_30_code 3 none ws Rm7_3 #[(.int (11 : Int32)), (.int (3 : Int32)), (.int (11 : Int32))] h0 (fun v h => v = none ∧ h0 = h) := by
  refine enter (Ls := #[.val (.int (11 : Int32)), .val (.int (3 : Int32)), .val (.int (11 : Int32))]) (plainFor_of_name pn1) (fun m => by first | (simp [entryFrame, mkF, argsToLocals, Value.category]; done) | rfl) ?_
  intro p e s m below meth c T0 hx hby hml hown hnm hret hlk hZ X0
  show Go p.tables e below _ (T0.setTop (mkF m 0 #[.val (.int (11 : Int32)), .val (.int (3 : Int32)), .val (.int (11 : Int32))] []))
  refine Go.by (fun _ => XS.iloadN X0.here hx rfl (hb hby d7_0) rfl) ?_
  show Go p.tables e below _ (T0.setTop (mkF m 1 #[.val (.int (11 : Int32)), .val (.int (3 : Int32)), .val (.int (11 : Int32))] [(.int (3 : Int32))]))
  refine Go.by (fun _ => XS.iloadN X0.here hx rfl (hb hby d7_1) rfl) ?_
  show Go p.tables e below _ (T0.setTop (mkF m 2 #[.val (.int (11 : Int32)), .val (.int (3 : Int32)), .val (.int (11 : Int32))] [(.int (11 : Int32)), (.int (3 : Int32))]))
  refine Go.by (fun _ => XS.icmpYes X0.here hx rfl (pc0 := 2) (pc' := 46) rfl (hb hby d7_2) rfl (flt (by decide)).2.2.2 (by decide) (by decide)) ?_
  show Go p.tables e below _ (T0.setTop (mkF m 46 #[.val (.int (11 : Int32)), .val (.int (3 : Int32)), .val (.int (11 : Int32))] []))
  refine Go.by (fun _ => XS.iloadN X0.here hx rfl (hb hby d7_46) rfl) ?_
  show Go p.tables e below _ (T0.setTop (mkF m 47 #[.val (.int (11 : Int32)), .val (.int (3 : Int32)), .val (.int (11 : Int32))] [(.int (3 : Int32))]))
  refine Go.by (fun _ => XS.ifYes X0.here hx rfl (pc0 := 47) (pc' := 59) rfl (hb hby d7_47) rfl ((if0 _ _).trans (flt (by decide)).2.1) (by decide) (by decide)) ?_
  show Go p.tables e below _ (T0.setTop (mkF m 59 #[.val (.int (11 : Int32)), .val (.int (3 : Int32)), .val (.int (11 : Int32))] []))
  refine Go.by (fun _ => XS.iloadN X0.here hx rfl (hb hby d7_59) rfl) ?_
  show Go p.tables e below _ (T0.setTop (mkF m 60 #[.val (.int (11 : Int32)), .val (.int (3 : Int32)), .val (.int (11 : Int32))] [(.int (11 : Int32))]))
  refine Go.by (fun _ => XS.iloadN X0.here hx rfl (hb hby d7_60) rfl) ?_
  show Go p.tables e below _ (T0.setTop (mkF m 61 #[.val (.int (11 : Int32)), .val (.int (3 : Int32)), .val (.int (11 : Int32))] [(.int (11 : Int32)), (.int (11 : Int32))]))
  refine Go.by (fun _ => XS.icmpYes X0.here hx rfl (pc0 := 61) (pc' := 73) rfl (hb hby d7_61) rfl (flt (by decide)).2.2.2 (by decide) (by decide)) ?_
  show Go p.tables e below _ (T0.setTop (mkF m 73 #[.val (.int (11 : Int32)), .val (.int (3 : Int32)), .val (.int (11 : Int32))] []))
  exact Go.ret0 X0 hx hlk hret (hb hby d7_73) (by decide) (by decide) ⟨rfl, rfl⟩
abbrev Rm4_3 : Room := { frames := 1, cells := 1, slots := 16, locals := 18 }
set_option maxRecDepth 65536 in
set_option maxHeartbeats 40000000 in
theorem rm4_3 (l : Launch) (Z : State) (a0 : Array Value) (hw : ∀ d ∈ tables_1, d.before a0 Z = true) (ws : List Jvm.Cond) (a1 : Addr) (kc : ClassId) (fi : Nat → Int32) (h0 : Heap) (n0 : Nat) (Z0 : n0 ≤ h0.size) (V_a : Avf Z h0 a1 kc .byte 3 (fun t => (.int (fi t)))) :
    Met l Z n0 (⟨"java/util/Arrays", "copyOf", "([BI)[B"⟩ : MethodName) jdk_65_method_121_code 3 (some (.array .byte)) ws Rm4_3 #[(.ref a1), (.int (11 : Int32))] h0 (fun v h => ∃ r kr, v = some (.ref r) ∧ h0.size ≤ r ∧ Keep h0 h [] ∧ Avf Z h r kr .byte (3 + 8) (fun t => (.int (if t < 3 then fi t else 0)))) := by
  refine enter (Ls := #[.val (.ref a1), .val (.int (11 : Int32)), .unset]) (plainFor_of_name pn1) (fun m => by first | (simp [entryFrame, mkF, argsToLocals, Value.category]; done) | rfl) ?_
  intro p e s m below meth c T0 hx hby hml hown hnm hret hlk hZ X0
  have K0 := Keep.refl h0 []
  show Go p.tables e below _ (T0.setTop (mkF m 0 #[.val (.ref a1), .val (.int (11 : Int32)), .unset] []))
  refine Go.by (fun _ => XS.iloadN X0.here hx rfl (hb hby d4_0) rfl) ?_
  show Go p.tables e below _ (T0.setTop (mkF m 1 #[.val (.ref a1), .val (.int (11 : Int32)), .unset] [(.int (11 : Int32))]))
  refine Go.by (fun _ => XS.aloadN X0.here hx rfl (hb hby d4_1) rfl rfl) ?_
  show Go p.tables e below _ (T0.setTop (mkF m 2 #[.val (.ref a1), .val (.int (11 : Int32)), .unset] [(.ref a1), (.int (11 : Int32))]))
  refine Go.by (X0.len hx hZ V_a (z := (3 : Int32)) rfl (g := (mkF m 2 #[.val (.ref a1), .val (.int (11 : Int32)), .unset] [(.ref a1), (.int (11 : Int32))])) rfl rfl (hb hby d4_2)) ?_
  show Go p.tables e below _ (T0.setTop (mkF m 3 #[.val (.ref a1), .val (.int (11 : Int32)), .unset] [(.int (3 : Int32)), (.int (11 : Int32))]))
  refine Go.by (fun _ => XS.icmpYes X0.here hx rfl (pc0 := 3) (pc' := 14) rfl (hb hby d4_3) rfl (feq (by decide)).2 (by decide) (by decide)) ?_
  show Go p.tables e below _ (T0.setTop (mkF m 14 #[.val (.ref a1), .val (.int (11 : Int32)), .unset] []))
  refine Go.by (fun _ => XS.iloadN X0.here hx rfl (hb hby d4_14) rfl) ?_
  show Go p.tables e below _ (T0.setTop (mkF m 15 #[.val (.ref a1), .val (.int (11 : Int32)), .unset] [(.int (11 : Int32))]))
  obtain ⟨T1, h1, kc1, b1, X1, g1, E1, A1, V1, st1⟩ := X0.newP hx hZ (tw hw 1 rfl) (g := (mkF m 15 #[.val (.ref a1), .val (.int (11 : Int32)), .unset] [(.int (11 : Int32))])) rfl (hb hby d4_15) rfl (by decide) (sz := 11) (cap := 16) (k' := 1) (n' := 16) rfl (by decide) (by decide) rfl rfl (by decide) (by decide) (ad := "[B") (by decide)
  have g_b1 : n0 ≤ b1 := by rw [g1]; exact Z0
  have sz_b1 : h0.size ≤ b1 := by rw [g1]; exact K0.1
  have ne_a1_b1 : a1 ≠ b1 := Nat.ne_of_lt (by rw [g1]; exact V_a.lt)
  have f2_16 := Avf.ext V_a E1
  have f2_17 := K0.ext E1
  have Zs2 : n0 ≤ h1.size := Nat.le_trans Z0 E1.1
  refine Go.by st1 ?_
  show Go p.tables e below _ (T1.setTop (mkF m 17 #[.val (.ref a1), .val (.int (11 : Int32)), .unset] [(.ref b1)]))
  refine Go.by (fun _ => XS.astoreN X1.here hx rfl (hb hby d4_17) rfl rfl (l' := #[.val (.ref a1), .val (.int (11 : Int32)), .val (.ref b1)]) rfl) ?_
  show Go p.tables e below _ (T1.setTop (mkF m 18 #[.val (.ref a1), .val (.int (11 : Int32)), .val (.ref b1)] []))
  refine Go.by (fun _ => XS.aloadN X1.here hx rfl (hb hby d4_18) rfl rfl) ?_
  show Go p.tables e below _ (T1.setTop (mkF m 19 #[.val (.ref a1), .val (.int (11 : Int32)), .val (.ref b1)] [(.ref a1)]))
  refine Go.by (fun _ => XS.iconst X1.here hx rfl (hb hby d4_19)) ?_
  show Go p.tables e below _ (T1.setTop (mkF m 20 #[.val (.ref a1), .val (.int (11 : Int32)), .val (.ref b1)] [(.int (0 : Int32)), (.ref a1)]))
  refine Go.by (fun _ => XS.aloadN X1.here hx rfl (hb hby d4_20) rfl rfl) ?_
  show Go p.tables e below _ (T1.setTop (mkF m 21 #[.val (.ref a1), .val (.int (11 : Int32)), .val (.ref b1)] [(.ref b1), (.int (0 : Int32)), (.ref a1)]))
  refine Go.by (fun _ => XS.iconst X1.here hx rfl (hb hby d4_21)) ?_
  show Go p.tables e below _ (T1.setTop (mkF m 22 #[.val (.ref a1), .val (.int (11 : Int32)), .val (.ref b1)] [(.int (0 : Int32)), (.ref b1), (.int (0 : Int32)), (.ref a1)]))
  refine Go.by (fun _ => XS.aloadN X1.here hx rfl (hb hby d4_22) rfl rfl) ?_
  show Go p.tables e below _ (T1.setTop (mkF m 23 #[.val (.ref a1), .val (.int (11 : Int32)), .val (.ref b1)] [(.ref a1), (.int (0 : Int32)), (.ref b1), (.int (0 : Int32)), (.ref a1)]))
  refine Go.by (X1.len hx hZ f2_16 (z := (3 : Int32)) rfl (g := (mkF m 23 #[.val (.ref a1), .val (.int (11 : Int32)), .val (.ref b1)] [(.ref a1), (.int (0 : Int32)), (.ref b1), (.int (0 : Int32)), (.ref a1)])) rfl rfl (hb hby d4_23)) ?_
  show Go p.tables e below _ (T1.setTop (mkF m 24 #[.val (.ref a1), .val (.int (11 : Int32)), .val (.ref b1)] [(.int (3 : Int32)), (.int (0 : Int32)), (.ref b1), (.int (0 : Int32)), (.ref a1)]))
  refine Go.by (fun _ => XS.iloadN X1.here hx rfl (hb hby d4_24) rfl) ?_
  show Go p.tables e below _ (T1.setTop (mkF m 25 #[.val (.ref a1), .val (.int (11 : Int32)), .val (.ref b1)] [(.int (11 : Int32)), (.int (3 : Int32)), (.int (0 : Int32)), (.ref b1), (.int (0 : Int32)), (.ref a1)]))
  obtain ⟨v3, T3, h3, X3, q3, st3⟩ := X1.callS hx hZ (y := (⟨"java/lang/Math", "min", "(II)I"⟩ : MethodName)) hown (tw hw 17 rfl) (tw hw 18 rfl) (tw hw 19 rfl) (tw hw 20 rfl) (by decide) (rm5_3 l Z a0 hw [] h1 n0 Zs2) (g := (mkF m 25 #[.val (.ref a1), .val (.int (11 : Int32)), .val (.ref b1)] [(.int (11 : Int32)), (.int (3 : Int32)), (.int (0 : Int32)), (.ref b1), (.int (0 : Int32)), (.ref a1)])) rfl (by rw [hml]; rfl) (argsL := [(.int (3 : Int32)), (.int (11 : Int32))]) (rest := [(.int (0 : Int32)), (.ref b1), (.int (0 : Int32)), (.ref a1)]) (lenOf pd1 rfl) rfl (hb hby d4_25) rfl (by decide) (Nat.le_of_ble_eq_true rfl) (k' := 1) (n' := 16) rfl rfl (by decide) (by decide)
  refine Go.by st3 ?_
  obtain ⟨rfl, rfl⟩ := q3
  show Go p.tables e below _ (T3.setTop (mkF m 28 #[.val (.ref a1), .val (.int (11 : Int32)), .val (.ref b1)] [(.int (3 : Int32)), (.int (0 : Int32)), (.ref b1), (.int (0 : Int32)), (.ref a1)]))
  obtain ⟨T4, h4, X4, K4, V4, st4⟩ := X3.acopy hx hZ hown (tw hw 21 rfl) (tw hw 24 rfl) (tw hw 22 rfl) (tw hw 23 rfl) f2_16 V1 rfl g_b1 (by decide) (by decide) (by decide) (i := 0) (j := 0) (cc := 3) rfl rfl rfl (by decide) (by decide) (g := (mkF m 28 #[.val (.ref a1), .val (.int (11 : Int32)), .val (.ref b1)] [(.int (3 : Int32)), (.int (0 : Int32)), (.ref b1), (.int (0 : Int32)), (.ref a1)])) rfl (by rw [hml]; rfl) rfl (hb hby d4_28) (by decide) (Nat.le_of_ble_eq_true rfl)
  have f5_42 := Avf.keep f2_16 K4 (ninS ne_a1_b1 nin0)
  have f5_43 := f2_17.trans K4 (allS (Or.inr sz_b1) all0)
  have f5_44 := A1.keep K4
  have Zs5 : n0 ≤ h4.size := Nat.le_trans Zs2 K4.1
  refine Go.by st4 ?_
  show Go p.tables e below _ (T4.setTop (mkF m 31 #[.val (.ref a1), .val (.int (11 : Int32)), .val (.ref b1)] []))
  refine Go.by (fun _ => XS.aloadN X4.here hx rfl (hb hby d4_31) rfl rfl) ?_
  show Go p.tables e below _ (T4.setTop (mkF m 32 #[.val (.ref a1), .val (.int (11 : Int32)), .val (.ref b1)] [(.ref b1)]))
  refine Go.retA X4 hx hlk hret rfl rfl (hb hby d4_32) (by decide) (by decide) ?_
  refine ⟨b1, kc1, rfl, sz_b1, f5_43, Avf.cong V4 (fun i hi => ?_)⟩
  by_cases q : i < 3 <;> first | (simp [q]; done) | (simp [q]; rfl)
abbrev Rm6_3 : Room := { frames := 1, cells := 0, slots := 0, locals := 14 }
set_option maxRecDepth 65536 in
set_option maxHeartbeats 40000000 in
theorem rm6_3 (l : Launch) (Z : State) (a0 : Array Value) (hw : ∀ d ∈ tables_1, d.before a0 Z = true) (ws : List Jvm.Cond) (a1 : Addr) (kc : ClassId) (fi : Nat → Int32) (h0 : Heap) (n0 : Nat) (Z0 : n0 ≤ h0.size) (g_a1 : n0 ≤ a1) (V_a : Avf Z h0 a1 kc .byte 11 (fun t => (.int (fi t)))) :
    Met l Z n0 (⟨"java/util/Arrays", "fill", "([BIIB)V"⟩ : MethodName) jdk_65_method_110_code 5 none ws Rm6_3 #[(.ref a1), (.int (3 : Int32)), (.int (11 : Int32)), (.int (-1 : Int32))] h0 (fun v h => v = none ∧ Keep h0 h [a1] ∧ Avf Z h a1 kc .byte 11 (fun t => (.int (if t < 3 then fi t else -1)))) := by
  refine enter (Ls := #[.val (.ref a1), .val (.int (3 : Int32)), .val (.int (11 : Int32)), .val (.int (-1 : Int32)), .unset]) (plainFor_of_name pn1) (fun m => by first | (simp [entryFrame, mkF, argsToLocals, Value.category]; done) | rfl) ?_
  intro p e s m below meth c T0 hx hby hml hown hnm hret hlk hZ X0
  have K0 := Keep.refl h0 [a1]
  show Go p.tables e below _ (T0.setTop (mkF m 0 #[.val (.ref a1), .val (.int (3 : Int32)), .val (.int (11 : Int32)), .val (.int (-1 : Int32)), .unset] []))
  refine Go.by (fun _ => XS.aloadN X0.here hx rfl (hb hby d6_0) rfl rfl) ?_
  show Go p.tables e below _ (T0.setTop (mkF m 1 #[.val (.ref a1), .val (.int (3 : Int32)), .val (.int (11 : Int32)), .val (.int (-1 : Int32)), .unset] [(.ref a1)]))
  refine Go.by (X0.len hx hZ V_a (z := (11 : Int32)) rfl (g := (mkF m 1 #[.val (.ref a1), .val (.int (3 : Int32)), .val (.int (11 : Int32)), .val (.int (-1 : Int32)), .unset] [(.ref a1)])) rfl rfl (hb hby d6_1)) ?_
  show Go p.tables e below _ (T0.setTop (mkF m 2 #[.val (.ref a1), .val (.int (3 : Int32)), .val (.int (11 : Int32)), .val (.int (-1 : Int32)), .unset] [(.int (11 : Int32))]))
  refine Go.by (fun _ => XS.iloadN X0.here hx rfl (hb hby d6_2) rfl) ?_
  show Go p.tables e below _ (T0.setTop (mkF m 3 #[.val (.ref a1), .val (.int (3 : Int32)), .val (.int (11 : Int32)), .val (.int (-1 : Int32)), .unset] [(.int (3 : Int32)), (.int (11 : Int32))]))
  refine Go.by (fun _ => XS.iloadN X0.here hx rfl (hb hby d6_3) rfl) ?_
  show Go p.tables e below _ (T0.setTop (mkF m 4 #[.val (.ref a1), .val (.int (3 : Int32)), .val (.int (11 : Int32)), .val (.int (-1 : Int32)), .unset] [(.int (11 : Int32)), (.int (3 : Int32)), (.int (11 : Int32))]))
  obtain ⟨v1, T1, h1, X1, q1, st1⟩ := X0.callS hx hZ (y := (⟨"java/util/Arrays", "rangeCheck", "(III)V"⟩ : MethodName)) hown (tw hw 28 rfl) (tw hw 29 rfl) (tw hw 15 rfl) (tw hw 30 rfl) (by decide) (rm7_3 l Z a0 hw [] h0 n0 Z0) (g := (mkF m 4 #[.val (.ref a1), .val (.int (3 : Int32)), .val (.int (11 : Int32)), .val (.int (-1 : Int32)), .unset] [(.int (11 : Int32)), (.int (3 : Int32)), (.int (11 : Int32))])) rfl (by rw [hml]; rfl) (argsL := [(.int (11 : Int32)), (.int (3 : Int32)), (.int (11 : Int32))]) (rest := []) (lenOf pd2 rfl) rfl (hb hby d6_4) rfl (by decide) (Nat.le_of_ble_eq_true rfl) (k' := 0) (n' := 0) rfl rfl (by decide) (by decide)
  refine Go.by st1 ?_
  obtain ⟨rfl, rfl⟩ := q1
  show Go p.tables e below _ (T1.setTop (mkF m 7 #[.val (.ref a1), .val (.int (3 : Int32)), .val (.int (11 : Int32)), .val (.int (-1 : Int32)), .unset] []))
  refine Go.by (fun _ => XS.iloadN X1.here hx rfl (hb hby d6_7) rfl) ?_
  show Go p.tables e below _ (T1.setTop (mkF m 8 #[.val (.ref a1), .val (.int (3 : Int32)), .val (.int (11 : Int32)), .val (.int (-1 : Int32)), .unset] [(.int (3 : Int32))]))
  refine Go.by (fun _ => XS.istore X1.here hx rfl (hb hby d6_8) rfl (l' := #[.val (.ref a1), .val (.int (3 : Int32)), .val (.int (11 : Int32)), .val (.int (-1 : Int32)), .val (.int (3 : Int32))]) rfl) ?_
  show Go p.tables e below _ (T1.setTop (mkF m 10 #[.val (.ref a1), .val (.int (3 : Int32)), .val (.int (11 : Int32)), .val (.int (-1 : Int32)), .val (.int (3 : Int32))] []))
  refine Go.by (fun _ => XS.iload X1.here hx rfl (hb hby d6_10) rfl) ?_
  show Go p.tables e below _ (T1.setTop (mkF m 12 #[.val (.ref a1), .val (.int (3 : Int32)), .val (.int (11 : Int32)), .val (.int (-1 : Int32)), .val (.int (3 : Int32))] [(.int (3 : Int32))]))
  refine Go.by (fun _ => XS.iloadN X1.here hx rfl (hb hby d6_12) rfl) ?_
  show Go p.tables e below _ (T1.setTop (mkF m 13 #[.val (.ref a1), .val (.int (3 : Int32)), .val (.int (11 : Int32)), .val (.int (-1 : Int32)), .val (.int (3 : Int32))] [(.int (11 : Int32)), (.int (3 : Int32))]))
  refine Go.by (fun _ => XS.icmpNo X1.here hx rfl (hb hby d6_13) rfl (tlt (by decide)).2.1) ?_
  show Go p.tables e below _ (T1.setTop (mkF m 16 #[.val (.ref a1), .val (.int (3 : Int32)), .val (.int (11 : Int32)), .val (.int (-1 : Int32)), .val (.int (3 : Int32))] []))
  refine Go.by (fun _ => XS.aloadN X1.here hx rfl (hb hby d6_16) rfl rfl) ?_
  show Go p.tables e below _ (T1.setTop (mkF m 17 #[.val (.ref a1), .val (.int (3 : Int32)), .val (.int (11 : Int32)), .val (.int (-1 : Int32)), .val (.int (3 : Int32))] [(.ref a1)]))
  refine Go.by (fun _ => XS.iload X1.here hx rfl (hb hby d6_17) rfl) ?_
  show Go p.tables e below _ (T1.setTop (mkF m 19 #[.val (.ref a1), .val (.int (3 : Int32)), .val (.int (11 : Int32)), .val (.int (-1 : Int32)), .val (.int (3 : Int32))] [(.int (3 : Int32)), (.ref a1)]))
  refine Go.by (fun _ => XS.iloadN X1.here hx rfl (hb hby d6_19) rfl) ?_
  show Go p.tables e below _ (T1.setTop (mkF m 20 #[.val (.ref a1), .val (.int (3 : Int32)), .val (.int (11 : Int32)), .val (.int (-1 : Int32)), .val (.int (3 : Int32))] [(.int (-1 : Int32)), (.int (3 : Int32)), (.ref a1)]))
  obtain ⟨T2, h2, X2, W2, V2, st2⟩ := X1.stB hx hZ V_a g_a1 (by decide) (i := 3) rfl (by decide) (g := (mkF m 20 #[.val (.ref a1), .val (.int (3 : Int32)), .val (.int (11 : Int32)), .val (.int (-1 : Int32)), .val (.int (3 : Int32))] [(.int (-1 : Int32)), (.int (3 : Int32)), (.ref a1)])) rfl rfl (hb hby d6_20)
  have f3_31 := K0.wr W2 (Or.inl (List.mem_of_getElem? (i := 0) rfl))
  have Zs3 : n0 ≤ h2.size := by rw [W2.size]; exact Z0
  refine Go.by st2 ?_
  show Go p.tables e below _ (T2.setTop (mkF m 21 #[.val (.ref a1), .val (.int (3 : Int32)), .val (.int (11 : Int32)), .val (.int (-1 : Int32)), .val (.int (3 : Int32))] []))
  refine Go.by (fun _ => XS.iinc X2.here hx rfl (hb hby d6_21) rfl (l' := #[.val (.ref a1), .val (.int (3 : Int32)), .val (.int (11 : Int32)), .val (.int (-1 : Int32)), .val (.int (4 : Int32))]) rfl) ?_
  show Go p.tables e below _ (T2.setTop (mkF m 24 #[.val (.ref a1), .val (.int (3 : Int32)), .val (.int (11 : Int32)), .val (.int (-1 : Int32)), .val (.int (4 : Int32))] []))
  refine Go.by (fun _ => XS.goto X2.here hx rfl (pc0 := 24) (pc' := 10) rfl (hb hby d6_24) (by decide) (by decide)) ?_
  show Go p.tables e below _ (T2.setTop (mkF m 10 #[.val (.ref a1), .val (.int (3 : Int32)), .val (.int (11 : Int32)), .val (.int (-1 : Int32)), .val (.int (4 : Int32))] []))
  refine Go.by (fun _ => XS.iload X2.here hx rfl (hb hby d6_10) rfl) ?_
  show Go p.tables e below _ (T2.setTop (mkF m 12 #[.val (.ref a1), .val (.int (3 : Int32)), .val (.int (11 : Int32)), .val (.int (-1 : Int32)), .val (.int (4 : Int32))] [(.int (4 : Int32))]))
  refine Go.by (fun _ => XS.iloadN X2.here hx rfl (hb hby d6_12) rfl) ?_
  show Go p.tables e below _ (T2.setTop (mkF m 13 #[.val (.ref a1), .val (.int (3 : Int32)), .val (.int (11 : Int32)), .val (.int (-1 : Int32)), .val (.int (4 : Int32))] [(.int (11 : Int32)), (.int (4 : Int32))]))
  refine Go.by (fun _ => XS.icmpNo X2.here hx rfl (hb hby d6_13) rfl (tlt (by decide)).2.1) ?_
  show Go p.tables e below _ (T2.setTop (mkF m 16 #[.val (.ref a1), .val (.int (3 : Int32)), .val (.int (11 : Int32)), .val (.int (-1 : Int32)), .val (.int (4 : Int32))] []))
  refine Go.by (fun _ => XS.aloadN X2.here hx rfl (hb hby d6_16) rfl rfl) ?_
  show Go p.tables e below _ (T2.setTop (mkF m 17 #[.val (.ref a1), .val (.int (3 : Int32)), .val (.int (11 : Int32)), .val (.int (-1 : Int32)), .val (.int (4 : Int32))] [(.ref a1)]))
  refine Go.by (fun _ => XS.iload X2.here hx rfl (hb hby d6_17) rfl) ?_
  show Go p.tables e below _ (T2.setTop (mkF m 19 #[.val (.ref a1), .val (.int (3 : Int32)), .val (.int (11 : Int32)), .val (.int (-1 : Int32)), .val (.int (4 : Int32))] [(.int (4 : Int32)), (.ref a1)]))
  refine Go.by (fun _ => XS.iloadN X2.here hx rfl (hb hby d6_19) rfl) ?_
  show Go p.tables e below _ (T2.setTop (mkF m 20 #[.val (.ref a1), .val (.int (3 : Int32)), .val (.int (11 : Int32)), .val (.int (-1 : Int32)), .val (.int (4 : Int32))] [(.int (-1 : Int32)), (.int (4 : Int32)), (.ref a1)]))
  obtain ⟨T4, h4, X4, W4, V4, st4⟩ := X2.stB hx hZ V2 g_a1 (by decide) (i := 4) rfl (by decide) (g := (mkF m 20 #[.val (.ref a1), .val (.int (3 : Int32)), .val (.int (11 : Int32)), .val (.int (-1 : Int32)), .val (.int (4 : Int32))] [(.int (-1 : Int32)), (.int (4 : Int32)), (.ref a1)])) rfl rfl (hb hby d6_20)
  have f5_52 := f3_31.wr W4 (Or.inl (List.mem_of_getElem? (i := 0) rfl))
  have Zs5 : n0 ≤ h4.size := by rw [W4.size]; exact Zs3
  refine Go.by st4 ?_
  show Go p.tables e below _ (T4.setTop (mkF m 21 #[.val (.ref a1), .val (.int (3 : Int32)), .val (.int (11 : Int32)), .val (.int (-1 : Int32)), .val (.int (4 : Int32))] []))
  refine Go.by (fun _ => XS.iinc X4.here hx rfl (hb hby d6_21) rfl (l' := #[.val (.ref a1), .val (.int (3 : Int32)), .val (.int (11 : Int32)), .val (.int (-1 : Int32)), .val (.int (5 : Int32))]) rfl) ?_
  show Go p.tables e below _ (T4.setTop (mkF m 24 #[.val (.ref a1), .val (.int (3 : Int32)), .val (.int (11 : Int32)), .val (.int (-1 : Int32)), .val (.int (5 : Int32))] []))
  refine Go.by (fun _ => XS.goto X4.here hx rfl (pc0 := 24) (pc' := 10) rfl (hb hby d6_24) (by decide) (by decide)) ?_
  show Go p.tables e below _ (T4.setTop (mkF m 10 #[.val (.ref a1), .val (.int (3 : Int32)), .val (.int (11 : Int32)), .val (.int (-1 : Int32)), .val (.int (5 : Int32))] []))
  refine Go.by (fun _ => XS.iload X4.here hx rfl (hb hby d6_10) rfl) ?_
  show Go p.tables e below _ (T4.setTop (mkF m 12 #[.val (.ref a1), .val (.int (3 : Int32)), .val (.int (11 : Int32)), .val (.int (-1 : Int32)), .val (.int (5 : Int32))] [(.int (5 : Int32))]))
  refine Go.by (fun _ => XS.iloadN X4.here hx rfl (hb hby d6_12) rfl) ?_
  show Go p.tables e below _ (T4.setTop (mkF m 13 #[.val (.ref a1), .val (.int (3 : Int32)), .val (.int (11 : Int32)), .val (.int (-1 : Int32)), .val (.int (5 : Int32))] [(.int (11 : Int32)), (.int (5 : Int32))]))
  refine Go.by (fun _ => XS.icmpNo X4.here hx rfl (hb hby d6_13) rfl (tlt (by decide)).2.1) ?_
  show Go p.tables e below _ (T4.setTop (mkF m 16 #[.val (.ref a1), .val (.int (3 : Int32)), .val (.int (11 : Int32)), .val (.int (-1 : Int32)), .val (.int (5 : Int32))] []))
  refine Go.by (fun _ => XS.aloadN X4.here hx rfl (hb hby d6_16) rfl rfl) ?_
  show Go p.tables e below _ (T4.setTop (mkF m 17 #[.val (.ref a1), .val (.int (3 : Int32)), .val (.int (11 : Int32)), .val (.int (-1 : Int32)), .val (.int (5 : Int32))] [(.ref a1)]))
  refine Go.by (fun _ => XS.iload X4.here hx rfl (hb hby d6_17) rfl) ?_
  show Go p.tables e below _ (T4.setTop (mkF m 19 #[.val (.ref a1), .val (.int (3 : Int32)), .val (.int (11 : Int32)), .val (.int (-1 : Int32)), .val (.int (5 : Int32))] [(.int (5 : Int32)), (.ref a1)]))
  refine Go.by (fun _ => XS.iloadN X4.here hx rfl (hb hby d6_19) rfl) ?_
  show Go p.tables e below _ (T4.setTop (mkF m 20 #[.val (.ref a1), .val (.int (3 : Int32)), .val (.int (11 : Int32)), .val (.int (-1 : Int32)), .val (.int (5 : Int32))] [(.int (-1 : Int32)), (.int (5 : Int32)), (.ref a1)]))
  obtain ⟨T6, h6, X6, W6, V6, st6⟩ := X4.stB hx hZ V4 g_a1 (by decide) (i := 5) rfl (by decide) (g := (mkF m 20 #[.val (.ref a1), .val (.int (3 : Int32)), .val (.int (11 : Int32)), .val (.int (-1 : Int32)), .val (.int (5 : Int32))] [(.int (-1 : Int32)), (.int (5 : Int32)), (.ref a1)])) rfl rfl (hb hby d6_20)
  have f7_73 := f5_52.wr W6 (Or.inl (List.mem_of_getElem? (i := 0) rfl))
  have Zs7 : n0 ≤ h6.size := by rw [W6.size]; exact Zs5
  refine Go.by st6 ?_
  show Go p.tables e below _ (T6.setTop (mkF m 21 #[.val (.ref a1), .val (.int (3 : Int32)), .val (.int (11 : Int32)), .val (.int (-1 : Int32)), .val (.int (5 : Int32))] []))
  refine Go.by (fun _ => XS.iinc X6.here hx rfl (hb hby d6_21) rfl (l' := #[.val (.ref a1), .val (.int (3 : Int32)), .val (.int (11 : Int32)), .val (.int (-1 : Int32)), .val (.int (6 : Int32))]) rfl) ?_
  show Go p.tables e below _ (T6.setTop (mkF m 24 #[.val (.ref a1), .val (.int (3 : Int32)), .val (.int (11 : Int32)), .val (.int (-1 : Int32)), .val (.int (6 : Int32))] []))
  refine Go.by (fun _ => XS.goto X6.here hx rfl (pc0 := 24) (pc' := 10) rfl (hb hby d6_24) (by decide) (by decide)) ?_
  show Go p.tables e below _ (T6.setTop (mkF m 10 #[.val (.ref a1), .val (.int (3 : Int32)), .val (.int (11 : Int32)), .val (.int (-1 : Int32)), .val (.int (6 : Int32))] []))
  refine Go.by (fun _ => XS.iload X6.here hx rfl (hb hby d6_10) rfl) ?_
  show Go p.tables e below _ (T6.setTop (mkF m 12 #[.val (.ref a1), .val (.int (3 : Int32)), .val (.int (11 : Int32)), .val (.int (-1 : Int32)), .val (.int (6 : Int32))] [(.int (6 : Int32))]))
  refine Go.by (fun _ => XS.iloadN X6.here hx rfl (hb hby d6_12) rfl) ?_
  show Go p.tables e below _ (T6.setTop (mkF m 13 #[.val (.ref a1), .val (.int (3 : Int32)), .val (.int (11 : Int32)), .val (.int (-1 : Int32)), .val (.int (6 : Int32))] [(.int (11 : Int32)), (.int (6 : Int32))]))
  refine Go.by (fun _ => XS.icmpNo X6.here hx rfl (hb hby d6_13) rfl (tlt (by decide)).2.1) ?_
  show Go p.tables e below _ (T6.setTop (mkF m 16 #[.val (.ref a1), .val (.int (3 : Int32)), .val (.int (11 : Int32)), .val (.int (-1 : Int32)), .val (.int (6 : Int32))] []))
  refine Go.by (fun _ => XS.aloadN X6.here hx rfl (hb hby d6_16) rfl rfl) ?_
  show Go p.tables e below _ (T6.setTop (mkF m 17 #[.val (.ref a1), .val (.int (3 : Int32)), .val (.int (11 : Int32)), .val (.int (-1 : Int32)), .val (.int (6 : Int32))] [(.ref a1)]))
  refine Go.by (fun _ => XS.iload X6.here hx rfl (hb hby d6_17) rfl) ?_
  show Go p.tables e below _ (T6.setTop (mkF m 19 #[.val (.ref a1), .val (.int (3 : Int32)), .val (.int (11 : Int32)), .val (.int (-1 : Int32)), .val (.int (6 : Int32))] [(.int (6 : Int32)), (.ref a1)]))
  refine Go.by (fun _ => XS.iloadN X6.here hx rfl (hb hby d6_19) rfl) ?_
  show Go p.tables e below _ (T6.setTop (mkF m 20 #[.val (.ref a1), .val (.int (3 : Int32)), .val (.int (11 : Int32)), .val (.int (-1 : Int32)), .val (.int (6 : Int32))] [(.int (-1 : Int32)), (.int (6 : Int32)), (.ref a1)]))
  obtain ⟨T8, h8, X8, W8, V8, st8⟩ := X6.stB hx hZ V6 g_a1 (by decide) (i := 6) rfl (by decide) (g := (mkF m 20 #[.val (.ref a1), .val (.int (3 : Int32)), .val (.int (11 : Int32)), .val (.int (-1 : Int32)), .val (.int (6 : Int32))] [(.int (-1 : Int32)), (.int (6 : Int32)), (.ref a1)])) rfl rfl (hb hby d6_20)
  have f9_94 := f7_73.wr W8 (Or.inl (List.mem_of_getElem? (i := 0) rfl))
  have Zs9 : n0 ≤ h8.size := by rw [W8.size]; exact Zs7
  refine Go.by st8 ?_
  show Go p.tables e below _ (T8.setTop (mkF m 21 #[.val (.ref a1), .val (.int (3 : Int32)), .val (.int (11 : Int32)), .val (.int (-1 : Int32)), .val (.int (6 : Int32))] []))
  refine Go.by (fun _ => XS.iinc X8.here hx rfl (hb hby d6_21) rfl (l' := #[.val (.ref a1), .val (.int (3 : Int32)), .val (.int (11 : Int32)), .val (.int (-1 : Int32)), .val (.int (7 : Int32))]) rfl) ?_
  show Go p.tables e below _ (T8.setTop (mkF m 24 #[.val (.ref a1), .val (.int (3 : Int32)), .val (.int (11 : Int32)), .val (.int (-1 : Int32)), .val (.int (7 : Int32))] []))
  refine Go.by (fun _ => XS.goto X8.here hx rfl (pc0 := 24) (pc' := 10) rfl (hb hby d6_24) (by decide) (by decide)) ?_
  show Go p.tables e below _ (T8.setTop (mkF m 10 #[.val (.ref a1), .val (.int (3 : Int32)), .val (.int (11 : Int32)), .val (.int (-1 : Int32)), .val (.int (7 : Int32))] []))
  refine Go.by (fun _ => XS.iload X8.here hx rfl (hb hby d6_10) rfl) ?_
  show Go p.tables e below _ (T8.setTop (mkF m 12 #[.val (.ref a1), .val (.int (3 : Int32)), .val (.int (11 : Int32)), .val (.int (-1 : Int32)), .val (.int (7 : Int32))] [(.int (7 : Int32))]))
  refine Go.by (fun _ => XS.iloadN X8.here hx rfl (hb hby d6_12) rfl) ?_
  show Go p.tables e below _ (T8.setTop (mkF m 13 #[.val (.ref a1), .val (.int (3 : Int32)), .val (.int (11 : Int32)), .val (.int (-1 : Int32)), .val (.int (7 : Int32))] [(.int (11 : Int32)), (.int (7 : Int32))]))
  refine Go.by (fun _ => XS.icmpNo X8.here hx rfl (hb hby d6_13) rfl (tlt (by decide)).2.1) ?_
  show Go p.tables e below _ (T8.setTop (mkF m 16 #[.val (.ref a1), .val (.int (3 : Int32)), .val (.int (11 : Int32)), .val (.int (-1 : Int32)), .val (.int (7 : Int32))] []))
  refine Go.by (fun _ => XS.aloadN X8.here hx rfl (hb hby d6_16) rfl rfl) ?_
  show Go p.tables e below _ (T8.setTop (mkF m 17 #[.val (.ref a1), .val (.int (3 : Int32)), .val (.int (11 : Int32)), .val (.int (-1 : Int32)), .val (.int (7 : Int32))] [(.ref a1)]))
  refine Go.by (fun _ => XS.iload X8.here hx rfl (hb hby d6_17) rfl) ?_
  show Go p.tables e below _ (T8.setTop (mkF m 19 #[.val (.ref a1), .val (.int (3 : Int32)), .val (.int (11 : Int32)), .val (.int (-1 : Int32)), .val (.int (7 : Int32))] [(.int (7 : Int32)), (.ref a1)]))
  refine Go.by (fun _ => XS.iloadN X8.here hx rfl (hb hby d6_19) rfl) ?_
  show Go p.tables e below _ (T8.setTop (mkF m 20 #[.val (.ref a1), .val (.int (3 : Int32)), .val (.int (11 : Int32)), .val (.int (-1 : Int32)), .val (.int (7 : Int32))] [(.int (-1 : Int32)), (.int (7 : Int32)), (.ref a1)]))
  obtain ⟨T10, h10, X10, W10, V10, st10⟩ := X8.stB hx hZ V8 g_a1 (by decide) (i := 7) rfl (by decide) (g := (mkF m 20 #[.val (.ref a1), .val (.int (3 : Int32)), .val (.int (11 : Int32)), .val (.int (-1 : Int32)), .val (.int (7 : Int32))] [(.int (-1 : Int32)), (.int (7 : Int32)), (.ref a1)])) rfl rfl (hb hby d6_20)
  have f11_115 := f9_94.wr W10 (Or.inl (List.mem_of_getElem? (i := 0) rfl))
  have Zs11 : n0 ≤ h10.size := by rw [W10.size]; exact Zs9
  refine Go.by st10 ?_
  show Go p.tables e below _ (T10.setTop (mkF m 21 #[.val (.ref a1), .val (.int (3 : Int32)), .val (.int (11 : Int32)), .val (.int (-1 : Int32)), .val (.int (7 : Int32))] []))
  refine Go.by (fun _ => XS.iinc X10.here hx rfl (hb hby d6_21) rfl (l' := #[.val (.ref a1), .val (.int (3 : Int32)), .val (.int (11 : Int32)), .val (.int (-1 : Int32)), .val (.int (8 : Int32))]) rfl) ?_
  show Go p.tables e below _ (T10.setTop (mkF m 24 #[.val (.ref a1), .val (.int (3 : Int32)), .val (.int (11 : Int32)), .val (.int (-1 : Int32)), .val (.int (8 : Int32))] []))
  refine Go.by (fun _ => XS.goto X10.here hx rfl (pc0 := 24) (pc' := 10) rfl (hb hby d6_24) (by decide) (by decide)) ?_
  show Go p.tables e below _ (T10.setTop (mkF m 10 #[.val (.ref a1), .val (.int (3 : Int32)), .val (.int (11 : Int32)), .val (.int (-1 : Int32)), .val (.int (8 : Int32))] []))
  refine Go.by (fun _ => XS.iload X10.here hx rfl (hb hby d6_10) rfl) ?_
  show Go p.tables e below _ (T10.setTop (mkF m 12 #[.val (.ref a1), .val (.int (3 : Int32)), .val (.int (11 : Int32)), .val (.int (-1 : Int32)), .val (.int (8 : Int32))] [(.int (8 : Int32))]))
  refine Go.by (fun _ => XS.iloadN X10.here hx rfl (hb hby d6_12) rfl) ?_
  show Go p.tables e below _ (T10.setTop (mkF m 13 #[.val (.ref a1), .val (.int (3 : Int32)), .val (.int (11 : Int32)), .val (.int (-1 : Int32)), .val (.int (8 : Int32))] [(.int (11 : Int32)), (.int (8 : Int32))]))
  refine Go.by (fun _ => XS.icmpNo X10.here hx rfl (hb hby d6_13) rfl (tlt (by decide)).2.1) ?_
  show Go p.tables e below _ (T10.setTop (mkF m 16 #[.val (.ref a1), .val (.int (3 : Int32)), .val (.int (11 : Int32)), .val (.int (-1 : Int32)), .val (.int (8 : Int32))] []))
  refine Go.by (fun _ => XS.aloadN X10.here hx rfl (hb hby d6_16) rfl rfl) ?_
  show Go p.tables e below _ (T10.setTop (mkF m 17 #[.val (.ref a1), .val (.int (3 : Int32)), .val (.int (11 : Int32)), .val (.int (-1 : Int32)), .val (.int (8 : Int32))] [(.ref a1)]))
  refine Go.by (fun _ => XS.iload X10.here hx rfl (hb hby d6_17) rfl) ?_
  show Go p.tables e below _ (T10.setTop (mkF m 19 #[.val (.ref a1), .val (.int (3 : Int32)), .val (.int (11 : Int32)), .val (.int (-1 : Int32)), .val (.int (8 : Int32))] [(.int (8 : Int32)), (.ref a1)]))
  refine Go.by (fun _ => XS.iloadN X10.here hx rfl (hb hby d6_19) rfl) ?_
  show Go p.tables e below _ (T10.setTop (mkF m 20 #[.val (.ref a1), .val (.int (3 : Int32)), .val (.int (11 : Int32)), .val (.int (-1 : Int32)), .val (.int (8 : Int32))] [(.int (-1 : Int32)), (.int (8 : Int32)), (.ref a1)]))
  obtain ⟨T12, h12, X12, W12, V12, st12⟩ := X10.stB hx hZ V10 g_a1 (by decide) (i := 8) rfl (by decide) (g := (mkF m 20 #[.val (.ref a1), .val (.int (3 : Int32)), .val (.int (11 : Int32)), .val (.int (-1 : Int32)), .val (.int (8 : Int32))] [(.int (-1 : Int32)), (.int (8 : Int32)), (.ref a1)])) rfl rfl (hb hby d6_20)
  have f13_136 := f11_115.wr W12 (Or.inl (List.mem_of_getElem? (i := 0) rfl))
  have Zs13 : n0 ≤ h12.size := by rw [W12.size]; exact Zs11
  refine Go.by st12 ?_
  show Go p.tables e below _ (T12.setTop (mkF m 21 #[.val (.ref a1), .val (.int (3 : Int32)), .val (.int (11 : Int32)), .val (.int (-1 : Int32)), .val (.int (8 : Int32))] []))
  refine Go.by (fun _ => XS.iinc X12.here hx rfl (hb hby d6_21) rfl (l' := #[.val (.ref a1), .val (.int (3 : Int32)), .val (.int (11 : Int32)), .val (.int (-1 : Int32)), .val (.int (9 : Int32))]) rfl) ?_
  show Go p.tables e below _ (T12.setTop (mkF m 24 #[.val (.ref a1), .val (.int (3 : Int32)), .val (.int (11 : Int32)), .val (.int (-1 : Int32)), .val (.int (9 : Int32))] []))
  refine Go.by (fun _ => XS.goto X12.here hx rfl (pc0 := 24) (pc' := 10) rfl (hb hby d6_24) (by decide) (by decide)) ?_
  show Go p.tables e below _ (T12.setTop (mkF m 10 #[.val (.ref a1), .val (.int (3 : Int32)), .val (.int (11 : Int32)), .val (.int (-1 : Int32)), .val (.int (9 : Int32))] []))
  refine Go.by (fun _ => XS.iload X12.here hx rfl (hb hby d6_10) rfl) ?_
  show Go p.tables e below _ (T12.setTop (mkF m 12 #[.val (.ref a1), .val (.int (3 : Int32)), .val (.int (11 : Int32)), .val (.int (-1 : Int32)), .val (.int (9 : Int32))] [(.int (9 : Int32))]))
  refine Go.by (fun _ => XS.iloadN X12.here hx rfl (hb hby d6_12) rfl) ?_
  show Go p.tables e below _ (T12.setTop (mkF m 13 #[.val (.ref a1), .val (.int (3 : Int32)), .val (.int (11 : Int32)), .val (.int (-1 : Int32)), .val (.int (9 : Int32))] [(.int (11 : Int32)), (.int (9 : Int32))]))
  refine Go.by (fun _ => XS.icmpNo X12.here hx rfl (hb hby d6_13) rfl (tlt (by decide)).2.1) ?_
  show Go p.tables e below _ (T12.setTop (mkF m 16 #[.val (.ref a1), .val (.int (3 : Int32)), .val (.int (11 : Int32)), .val (.int (-1 : Int32)), .val (.int (9 : Int32))] []))
  refine Go.by (fun _ => XS.aloadN X12.here hx rfl (hb hby d6_16) rfl rfl) ?_
  show Go p.tables e below _ (T12.setTop (mkF m 17 #[.val (.ref a1), .val (.int (3 : Int32)), .val (.int (11 : Int32)), .val (.int (-1 : Int32)), .val (.int (9 : Int32))] [(.ref a1)]))
  refine Go.by (fun _ => XS.iload X12.here hx rfl (hb hby d6_17) rfl) ?_
  show Go p.tables e below _ (T12.setTop (mkF m 19 #[.val (.ref a1), .val (.int (3 : Int32)), .val (.int (11 : Int32)), .val (.int (-1 : Int32)), .val (.int (9 : Int32))] [(.int (9 : Int32)), (.ref a1)]))
  refine Go.by (fun _ => XS.iloadN X12.here hx rfl (hb hby d6_19) rfl) ?_
  show Go p.tables e below _ (T12.setTop (mkF m 20 #[.val (.ref a1), .val (.int (3 : Int32)), .val (.int (11 : Int32)), .val (.int (-1 : Int32)), .val (.int (9 : Int32))] [(.int (-1 : Int32)), (.int (9 : Int32)), (.ref a1)]))
  obtain ⟨T14, h14, X14, W14, V14, st14⟩ := X12.stB hx hZ V12 g_a1 (by decide) (i := 9) rfl (by decide) (g := (mkF m 20 #[.val (.ref a1), .val (.int (3 : Int32)), .val (.int (11 : Int32)), .val (.int (-1 : Int32)), .val (.int (9 : Int32))] [(.int (-1 : Int32)), (.int (9 : Int32)), (.ref a1)])) rfl rfl (hb hby d6_20)
  have f15_157 := f13_136.wr W14 (Or.inl (List.mem_of_getElem? (i := 0) rfl))
  have Zs15 : n0 ≤ h14.size := by rw [W14.size]; exact Zs13
  refine Go.by st14 ?_
  show Go p.tables e below _ (T14.setTop (mkF m 21 #[.val (.ref a1), .val (.int (3 : Int32)), .val (.int (11 : Int32)), .val (.int (-1 : Int32)), .val (.int (9 : Int32))] []))
  refine Go.by (fun _ => XS.iinc X14.here hx rfl (hb hby d6_21) rfl (l' := #[.val (.ref a1), .val (.int (3 : Int32)), .val (.int (11 : Int32)), .val (.int (-1 : Int32)), .val (.int (10 : Int32))]) rfl) ?_
  show Go p.tables e below _ (T14.setTop (mkF m 24 #[.val (.ref a1), .val (.int (3 : Int32)), .val (.int (11 : Int32)), .val (.int (-1 : Int32)), .val (.int (10 : Int32))] []))
  refine Go.by (fun _ => XS.goto X14.here hx rfl (pc0 := 24) (pc' := 10) rfl (hb hby d6_24) (by decide) (by decide)) ?_
  show Go p.tables e below _ (T14.setTop (mkF m 10 #[.val (.ref a1), .val (.int (3 : Int32)), .val (.int (11 : Int32)), .val (.int (-1 : Int32)), .val (.int (10 : Int32))] []))
  refine Go.by (fun _ => XS.iload X14.here hx rfl (hb hby d6_10) rfl) ?_
  show Go p.tables e below _ (T14.setTop (mkF m 12 #[.val (.ref a1), .val (.int (3 : Int32)), .val (.int (11 : Int32)), .val (.int (-1 : Int32)), .val (.int (10 : Int32))] [(.int (10 : Int32))]))
  refine Go.by (fun _ => XS.iloadN X14.here hx rfl (hb hby d6_12) rfl) ?_
  show Go p.tables e below _ (T14.setTop (mkF m 13 #[.val (.ref a1), .val (.int (3 : Int32)), .val (.int (11 : Int32)), .val (.int (-1 : Int32)), .val (.int (10 : Int32))] [(.int (11 : Int32)), (.int (10 : Int32))]))
  refine Go.by (fun _ => XS.icmpNo X14.here hx rfl (hb hby d6_13) rfl (tlt (by decide)).2.1) ?_
  show Go p.tables e below _ (T14.setTop (mkF m 16 #[.val (.ref a1), .val (.int (3 : Int32)), .val (.int (11 : Int32)), .val (.int (-1 : Int32)), .val (.int (10 : Int32))] []))
  refine Go.by (fun _ => XS.aloadN X14.here hx rfl (hb hby d6_16) rfl rfl) ?_
  show Go p.tables e below _ (T14.setTop (mkF m 17 #[.val (.ref a1), .val (.int (3 : Int32)), .val (.int (11 : Int32)), .val (.int (-1 : Int32)), .val (.int (10 : Int32))] [(.ref a1)]))
  refine Go.by (fun _ => XS.iload X14.here hx rfl (hb hby d6_17) rfl) ?_
  show Go p.tables e below _ (T14.setTop (mkF m 19 #[.val (.ref a1), .val (.int (3 : Int32)), .val (.int (11 : Int32)), .val (.int (-1 : Int32)), .val (.int (10 : Int32))] [(.int (10 : Int32)), (.ref a1)]))
  refine Go.by (fun _ => XS.iloadN X14.here hx rfl (hb hby d6_19) rfl) ?_
  show Go p.tables e below _ (T14.setTop (mkF m 20 #[.val (.ref a1), .val (.int (3 : Int32)), .val (.int (11 : Int32)), .val (.int (-1 : Int32)), .val (.int (10 : Int32))] [(.int (-1 : Int32)), (.int (10 : Int32)), (.ref a1)]))
  obtain ⟨T16, h16, X16, W16, V16, st16⟩ := X14.stB hx hZ V14 g_a1 (by decide) (i := 10) rfl (by decide) (g := (mkF m 20 #[.val (.ref a1), .val (.int (3 : Int32)), .val (.int (11 : Int32)), .val (.int (-1 : Int32)), .val (.int (10 : Int32))] [(.int (-1 : Int32)), (.int (10 : Int32)), (.ref a1)])) rfl rfl (hb hby d6_20)
  have f17_178 := f15_157.wr W16 (Or.inl (List.mem_of_getElem? (i := 0) rfl))
  have Zs17 : n0 ≤ h16.size := by rw [W16.size]; exact Zs15
  refine Go.by st16 ?_
  show Go p.tables e below _ (T16.setTop (mkF m 21 #[.val (.ref a1), .val (.int (3 : Int32)), .val (.int (11 : Int32)), .val (.int (-1 : Int32)), .val (.int (10 : Int32))] []))
  refine Go.by (fun _ => XS.iinc X16.here hx rfl (hb hby d6_21) rfl (l' := #[.val (.ref a1), .val (.int (3 : Int32)), .val (.int (11 : Int32)), .val (.int (-1 : Int32)), .val (.int (11 : Int32))]) rfl) ?_
  show Go p.tables e below _ (T16.setTop (mkF m 24 #[.val (.ref a1), .val (.int (3 : Int32)), .val (.int (11 : Int32)), .val (.int (-1 : Int32)), .val (.int (11 : Int32))] []))
  refine Go.by (fun _ => XS.goto X16.here hx rfl (pc0 := 24) (pc' := 10) rfl (hb hby d6_24) (by decide) (by decide)) ?_
  show Go p.tables e below _ (T16.setTop (mkF m 10 #[.val (.ref a1), .val (.int (3 : Int32)), .val (.int (11 : Int32)), .val (.int (-1 : Int32)), .val (.int (11 : Int32))] []))
  refine Go.by (fun _ => XS.iload X16.here hx rfl (hb hby d6_10) rfl) ?_
  show Go p.tables e below _ (T16.setTop (mkF m 12 #[.val (.ref a1), .val (.int (3 : Int32)), .val (.int (11 : Int32)), .val (.int (-1 : Int32)), .val (.int (11 : Int32))] [(.int (11 : Int32))]))
  refine Go.by (fun _ => XS.iloadN X16.here hx rfl (hb hby d6_12) rfl) ?_
  show Go p.tables e below _ (T16.setTop (mkF m 13 #[.val (.ref a1), .val (.int (3 : Int32)), .val (.int (11 : Int32)), .val (.int (-1 : Int32)), .val (.int (11 : Int32))] [(.int (11 : Int32)), (.int (11 : Int32))]))
  refine Go.by (fun _ => XS.icmpYes X16.here hx rfl (pc0 := 13) (pc' := 27) rfl (hb hby d6_13) rfl (flt (by decide)).2.1 (by decide) (by decide)) ?_
  show Go p.tables e below _ (T16.setTop (mkF m 27 #[.val (.ref a1), .val (.int (3 : Int32)), .val (.int (11 : Int32)), .val (.int (-1 : Int32)), .val (.int (11 : Int32))] []))
  refine Go.ret0 X16 hx hlk hret (hb hby d6_27) (by decide) (by decide) ?_
  refine ⟨rfl, f17_178, Avf.cong V16 (fun i hi => ?_)⟩
  by_cases q : i < 3
  · have y0 : ¬ i = 3 := by omega
    have y1 : ¬ i = 4 := by omega
    have y2 : ¬ i = 5 := by omega
    have y3 : ¬ i = 6 := by omega
    have y4 : ¬ i = 7 := by omega
    have y5 : ¬ i = 8 := by omega
    have y6 : ¬ i = 9 := by omega
    have y7 : ¬ i = 10 := by omega
    simp [q, y0, y1, y2, y3, y4, y5, y6, y7]
  · have y : i = 3 ∨ i = 4 ∨ i = 5 ∨ i = 6 ∨ i = 7 ∨ i = 8 ∨ i = 9 ∨ i = 10 := by omega
    rcases y with rfl | rfl | rfl | rfl | rfl | rfl | rfl | rfl <;> rfl
abbrev Rm3_3 : Room := { frames := 2, cells := 1, slots := 16, locals := 32 }
set_option maxRecDepth 65536 in
set_option maxHeartbeats 40000000 in
theorem rm3_3 (l : Launch) (Z : State) (a0 : Array Value) (hw : ∀ d ∈ tables_1, d.before a0 Z = true) (ws : List Jvm.Cond) (a1 : Addr) (kc : ClassId) (fi : Nat → Int32) (h0 : Heap) (n0 : Nat) (Z0 : n0 ≤ h0.size) (V_a : Avf Z h0 a1 kc .byte 3 (fun t => (.int (fi t)))) :
    Met l Z n0 (⟨"com/example/clio/clio/Layout", "pastEntries", "([B)[B"⟩ : MethodName) prog_20_method_22_code 2 (some (.array .byte)) ws Rm3_3 #[(.ref a1)] h0 (fun v h => ∃ r kr, v = some (.ref r) ∧ h0.size ≤ r ∧ Keep h0 h [] ∧ Avf Z h r kr .byte (3 + 8) (fun t => (.int (if t < 3 then fi t else -1)))) := by
  refine enter (Ls := #[.val (.ref a1), .unset]) (plainFor_of_name pn2) (fun m => by first | (simp [entryFrame, mkF, argsToLocals, Value.category]; done) | rfl) ?_
  intro p e s m below meth c T0 hx hby hml hown hnm hret hlk hZ X0
  have K0 := Keep.refl h0 []
  show Go p.tables e below _ (T0.setTop (mkF m 0 #[.val (.ref a1), .unset] []))
  refine Go.by (fun _ => XS.aloadN X0.here hx rfl (hb hby d3_0) rfl rfl) ?_
  show Go p.tables e below _ (T0.setTop (mkF m 1 #[.val (.ref a1), .unset] [(.ref a1)]))
  refine Go.by (fun _ => XS.aloadN X0.here hx rfl (hb hby d3_1) rfl rfl) ?_
  show Go p.tables e below _ (T0.setTop (mkF m 2 #[.val (.ref a1), .unset] [(.ref a1), (.ref a1)]))
  refine Go.by (X0.len hx hZ V_a (z := (3 : Int32)) rfl (g := (mkF m 2 #[.val (.ref a1), .unset] [(.ref a1), (.ref a1)])) rfl rfl (hb hby d3_2)) ?_
  show Go p.tables e below _ (T0.setTop (mkF m 3 #[.val (.ref a1), .unset] [(.int (3 : Int32)), (.ref a1)]))
  refine Go.by (fun _ => XS.bipush X0.here hx rfl (hb hby d3_3)) ?_
  show Go p.tables e below _ (T0.setTop (mkF m 5 #[.val (.ref a1), .unset] [(.int (8 : Int32)), (.int (3 : Int32)), (.ref a1)]))
  refine Go.by (fun _ => XS.iadd X0.here hx rfl (hb hby d3_5) rfl) ?_
  show Go p.tables e below _ (T0.setTop (mkF m 6 #[.val (.ref a1), .unset] [(.int (11 : Int32)), (.ref a1)]))
  obtain ⟨v1, T1, h1, X1, q1, st1⟩ := X0.callS hx hZ (y := (⟨"java/util/Arrays", "copyOf", "([BI)[B"⟩ : MethodName)) hown (tw hw 13 rfl) (tw hw 14 rfl) (tw hw 15 rfl) (tw hw 16 rfl) (by decide) (rm4_3 l Z a0 hw [] a1 kc fi h0 n0 Z0 V_a) (g := (mkF m 6 #[.val (.ref a1), .unset] [(.int (11 : Int32)), (.ref a1)])) rfl (by rw [hml]; rfl) (argsL := [(.ref a1), (.int (11 : Int32))]) (rest := []) (lenOf pd3 rfl) rfl (hb hby d3_6) rfl (by decide) (Nat.le_of_ble_eq_true rfl) (k' := 1) (n' := 16) rfl rfl (by decide) (by decide)
  refine Go.by st1 ?_
  obtain ⟨r1, kr1, rfl, sr1, K1, V1⟩ := q1
  have g_r1 : n0 ≤ r1 := Nat.le_trans Z0 sr1
  have sz_r1 : h0.size ≤ r1 := Nat.le_trans K0.1 sr1
  have ne_a1_r1 : a1 ≠ r1 := Nat.ne_of_lt (Nat.lt_of_lt_of_le V_a.lt sr1)
  have f2_18 := Avf.ext V_a (keep_ext K1)
  have f2_19 := K0.ext (keep_ext K1)
  have Zs2 : n0 ≤ h1.size := Nat.le_trans Z0 (keep_ext K1).1
  show Go p.tables e below _ (T1.setTop (mkF m 9 #[.val (.ref a1), .unset] [(.ref r1)]))
  refine Go.by (fun _ => XS.astoreN X1.here hx rfl (hb hby d3_9) rfl rfl (l' := #[.val (.ref a1), .val (.ref r1)]) rfl) ?_
  show Go p.tables e below _ (T1.setTop (mkF m 10 #[.val (.ref a1), .val (.ref r1)] []))
  refine Go.by (fun _ => XS.aloadN X1.here hx rfl (hb hby d3_10) rfl rfl) ?_
  show Go p.tables e below _ (T1.setTop (mkF m 11 #[.val (.ref a1), .val (.ref r1)] [(.ref r1)]))
  refine Go.by (fun _ => XS.aloadN X1.here hx rfl (hb hby d3_11) rfl rfl) ?_
  show Go p.tables e below _ (T1.setTop (mkF m 12 #[.val (.ref a1), .val (.ref r1)] [(.ref a1), (.ref r1)]))
  refine Go.by (X1.len hx hZ f2_18 (z := (3 : Int32)) rfl (g := (mkF m 12 #[.val (.ref a1), .val (.ref r1)] [(.ref a1), (.ref r1)])) rfl rfl (hb hby d3_12)) ?_
  show Go p.tables e below _ (T1.setTop (mkF m 13 #[.val (.ref a1), .val (.ref r1)] [(.int (3 : Int32)), (.ref r1)]))
  refine Go.by (fun _ => XS.aloadN X1.here hx rfl (hb hby d3_13) rfl rfl) ?_
  show Go p.tables e below _ (T1.setTop (mkF m 14 #[.val (.ref a1), .val (.ref r1)] [(.ref r1), (.int (3 : Int32)), (.ref r1)]))
  refine Go.by (X1.len hx hZ V1 (z := (11 : Int32)) rfl (g := (mkF m 14 #[.val (.ref a1), .val (.ref r1)] [(.ref r1), (.int (3 : Int32)), (.ref r1)])) rfl rfl (hb hby d3_14)) ?_
  show Go p.tables e below _ (T1.setTop (mkF m 15 #[.val (.ref a1), .val (.ref r1)] [(.int (11 : Int32)), (.int (3 : Int32)), (.ref r1)]))
  refine Go.by (fun _ => XS.iconst X1.here hx rfl (hb hby d3_15)) ?_
  show Go p.tables e below _ (T1.setTop (mkF m 16 #[.val (.ref a1), .val (.ref r1)] [(.int (-1 : Int32)), (.int (11 : Int32)), (.int (3 : Int32)), (.ref r1)]))
  obtain ⟨v3, T3, h3, X3, q3, st3⟩ := X1.callS hx hZ (y := (⟨"java/util/Arrays", "fill", "([BIIB)V"⟩ : MethodName)) hown (tw hw 25 rfl) (tw hw 26 rfl) (tw hw 15 rfl) (tw hw 27 rfl) (by decide) (rm6_3 l Z a0 hw [] r1 kr1 (fun t => if t < 3 then fi t else 0) h1 n0 Zs2 g_r1 V1) (g := (mkF m 16 #[.val (.ref a1), .val (.ref r1)] [(.int (-1 : Int32)), (.int (11 : Int32)), (.int (3 : Int32)), (.ref r1)])) rfl (by rw [hml]; rfl) (argsL := [(.ref r1), (.int (3 : Int32)), (.int (11 : Int32)), (.int (-1 : Int32))]) (rest := []) (lenOf pd4 rfl) rfl (hb hby d3_16) rfl (by decide) (Nat.le_of_ble_eq_true rfl) (k' := 1) (n' := 16) rfl rfl (by decide) (by decide)
  refine Go.by st3 ?_
  obtain ⟨rfl, K3, V3⟩ := q3
  have f4_39 := Avf.keep f2_18 K3 (ninS ne_a1_r1 nin0)
  have f4_40 := f2_19.trans K3 (allS (Or.inr sz_r1) all0)
  have Zs4 : n0 ≤ h3.size := Nat.le_trans Zs2 K3.1
  show Go p.tables e below _ (T3.setTop (mkF m 19 #[.val (.ref a1), .val (.ref r1)] []))
  refine Go.by (fun _ => XS.aloadN X3.here hx rfl (hb hby d3_19) rfl rfl) ?_
  show Go p.tables e below _ (T3.setTop (mkF m 20 #[.val (.ref a1), .val (.ref r1)] [(.ref r1)]))
  refine Go.retA X3 hx hlk hret rfl rfl (hb hby d3_20) (by decide) (by decide) ?_
  refine ⟨r1, kr1, rfl, sz_r1, f4_40, Avf.cong V3 (fun i hi => ?_)⟩
  by_cases q : i < 3 <;> first | (simp [q]; done) | (simp [q]; rfl)
abbrev Rm5_4 : Room := { frames := 0, cells := 0, slots := 0, locals := 0 }
set_option maxRecDepth 65536 in
set_option maxHeartbeats 40000000 in
theorem rm5_4 (l : Launch) (Z : State) (a0 : Array Value) (hw : ∀ d ∈ tables_1, d.before a0 Z = true) (ws : List Jvm.Cond)  (h0 : Heap) (n0 : Nat) (Z0 : n0 ≤ h0.size) :
    Met l Z n0 (⟨"java/lang/Math", "min", "(II)I"⟩ : MethodName) jdk_29_method_69_code 2 (some .int) ws Rm5_4 #[(.int (4 : Int32)), (.int (12 : Int32))] h0 (fun v h => v = some (.int (4 : Int32)) ∧ h0 = h) := by
  refine enter (Ls := #[.val (.int (4 : Int32)), .val (.int (12 : Int32))]) (Jvm.Free.JP.mathPlain rfl (by decide +kernel)) (fun m => by first | (simp [entryFrame, mkF, argsToLocals, Value.category]; done) | rfl) ?_
  intro p e s m below meth c T0 hx hby hml hown hnm hret hlk hZ X0
  show Go p.tables e below _ (T0.setTop (mkF m 0 #[.val (.int (4 : Int32)), .val (.int (12 : Int32))] []))
  refine Go.by (fun _ => XS.iloadN X0.here hx rfl (hb hby d5_0) rfl) ?_
  show Go p.tables e below _ (T0.setTop (mkF m 1 #[.val (.int (4 : Int32)), .val (.int (12 : Int32))] [(.int (4 : Int32))]))
  refine Go.by (fun _ => XS.iloadN X0.here hx rfl (hb hby d5_1) rfl) ?_
  show Go p.tables e below _ (T0.setTop (mkF m 2 #[.val (.int (4 : Int32)), .val (.int (12 : Int32))] [(.int (12 : Int32)), (.int (4 : Int32))]))
  refine Go.by (fun _ => XS.icmpNo X0.here hx rfl (hb hby d5_2) rfl (flt (by decide)).2.2.1) ?_
  show Go p.tables e below _ (T0.setTop (mkF m 5 #[.val (.int (4 : Int32)), .val (.int (12 : Int32))] []))
  refine Go.by (fun _ => XS.iloadN X0.here hx rfl (hb hby d5_5) rfl) ?_
  show Go p.tables e below _ (T0.setTop (mkF m 6 #[.val (.int (4 : Int32)), .val (.int (12 : Int32))] [(.int (4 : Int32))]))
  refine Go.by (fun _ => XS.goto X0.here hx rfl (pc0 := 6) (pc' := 10) rfl (hb hby d5_6) (by decide) (by decide)) ?_
  show Go p.tables e below _ (T0.setTop (mkF m 10 #[.val (.int (4 : Int32)), .val (.int (12 : Int32))] [(.int (4 : Int32))]))
  exact Go.retI X0 hx hlk hret (hb hby d5_10) (by decide) (by decide) ⟨rfl, rfl⟩
abbrev Rm7_4 : Room := { frames := 0, cells := 0, slots := 0, locals := 0 }
set_option maxRecDepth 65536 in
set_option maxHeartbeats 40000000 in
theorem rm7_4 (l : Launch) (Z : State) (a0 : Array Value) (hw : ∀ d ∈ tables_1, d.before a0 Z = true) (ws : List Jvm.Cond)  (h0 : Heap) (n0 : Nat) (Z0 : n0 ≤ h0.size) :
    Met l Z n0 (⟨"java/util/Arrays", "rangeCheck", "(III)V"⟩ : MethodName) jdk_65_method_30_code 3 none ws Rm7_4 #[(.int (12 : Int32)), (.int (4 : Int32)), (.int (12 : Int32))] h0 (fun v h => v = none ∧ h0 = h) := by
  refine enter (Ls := #[.val (.int (12 : Int32)), .val (.int (4 : Int32)), .val (.int (12 : Int32))]) (plainFor_of_name pn1) (fun m => by first | (simp [entryFrame, mkF, argsToLocals, Value.category]; done) | rfl) ?_
  intro p e s m below meth c T0 hx hby hml hown hnm hret hlk hZ X0
  show Go p.tables e below _ (T0.setTop (mkF m 0 #[.val (.int (12 : Int32)), .val (.int (4 : Int32)), .val (.int (12 : Int32))] []))
  refine Go.by (fun _ => XS.iloadN X0.here hx rfl (hb hby d7_0) rfl) ?_
  show Go p.tables e below _ (T0.setTop (mkF m 1 #[.val (.int (12 : Int32)), .val (.int (4 : Int32)), .val (.int (12 : Int32))] [(.int (4 : Int32))]))
  refine Go.by (fun _ => XS.iloadN X0.here hx rfl (hb hby d7_1) rfl) ?_
  show Go p.tables e below _ (T0.setTop (mkF m 2 #[.val (.int (12 : Int32)), .val (.int (4 : Int32)), .val (.int (12 : Int32))] [(.int (12 : Int32)), (.int (4 : Int32))]))
  refine Go.by (fun _ => XS.icmpYes X0.here hx rfl (pc0 := 2) (pc' := 46) rfl (hb hby d7_2) rfl (flt (by decide)).2.2.2 (by decide) (by decide)) ?_
  show Go p.tables e below _ (T0.setTop (mkF m 46 #[.val (.int (12 : Int32)), .val (.int (4 : Int32)), .val (.int (12 : Int32))] []))
  refine Go.by (fun _ => XS.iloadN X0.here hx rfl (hb hby d7_46) rfl) ?_
  show Go p.tables e below _ (T0.setTop (mkF m 47 #[.val (.int (12 : Int32)), .val (.int (4 : Int32)), .val (.int (12 : Int32))] [(.int (4 : Int32))]))
  refine Go.by (fun _ => XS.ifYes X0.here hx rfl (pc0 := 47) (pc' := 59) rfl (hb hby d7_47) rfl ((if0 _ _).trans (flt (by decide)).2.1) (by decide) (by decide)) ?_
  show Go p.tables e below _ (T0.setTop (mkF m 59 #[.val (.int (12 : Int32)), .val (.int (4 : Int32)), .val (.int (12 : Int32))] []))
  refine Go.by (fun _ => XS.iloadN X0.here hx rfl (hb hby d7_59) rfl) ?_
  show Go p.tables e below _ (T0.setTop (mkF m 60 #[.val (.int (12 : Int32)), .val (.int (4 : Int32)), .val (.int (12 : Int32))] [(.int (12 : Int32))]))
  refine Go.by (fun _ => XS.iloadN X0.here hx rfl (hb hby d7_60) rfl) ?_
  show Go p.tables e below _ (T0.setTop (mkF m 61 #[.val (.int (12 : Int32)), .val (.int (4 : Int32)), .val (.int (12 : Int32))] [(.int (12 : Int32)), (.int (12 : Int32))]))
  refine Go.by (fun _ => XS.icmpYes X0.here hx rfl (pc0 := 61) (pc' := 73) rfl (hb hby d7_61) rfl (flt (by decide)).2.2.2 (by decide) (by decide)) ?_
  show Go p.tables e below _ (T0.setTop (mkF m 73 #[.val (.int (12 : Int32)), .val (.int (4 : Int32)), .val (.int (12 : Int32))] []))
  exact Go.ret0 X0 hx hlk hret (hb hby d7_73) (by decide) (by decide) ⟨rfl, rfl⟩
abbrev Rm4_4 : Room := { frames := 1, cells := 1, slots := 16, locals := 18 }
set_option maxRecDepth 65536 in
set_option maxHeartbeats 40000000 in
theorem rm4_4 (l : Launch) (Z : State) (a0 : Array Value) (hw : ∀ d ∈ tables_1, d.before a0 Z = true) (ws : List Jvm.Cond) (a1 : Addr) (kc : ClassId) (fi : Nat → Int32) (h0 : Heap) (n0 : Nat) (Z0 : n0 ≤ h0.size) (V_a : Avf Z h0 a1 kc .byte 4 (fun t => (.int (fi t)))) :
    Met l Z n0 (⟨"java/util/Arrays", "copyOf", "([BI)[B"⟩ : MethodName) jdk_65_method_121_code 3 (some (.array .byte)) ws Rm4_4 #[(.ref a1), (.int (12 : Int32))] h0 (fun v h => ∃ r kr, v = some (.ref r) ∧ h0.size ≤ r ∧ Keep h0 h [] ∧ Avf Z h r kr .byte (4 + 8) (fun t => (.int (if t < 4 then fi t else 0)))) := by
  refine enter (Ls := #[.val (.ref a1), .val (.int (12 : Int32)), .unset]) (plainFor_of_name pn1) (fun m => by first | (simp [entryFrame, mkF, argsToLocals, Value.category]; done) | rfl) ?_
  intro p e s m below meth c T0 hx hby hml hown hnm hret hlk hZ X0
  have K0 := Keep.refl h0 []
  show Go p.tables e below _ (T0.setTop (mkF m 0 #[.val (.ref a1), .val (.int (12 : Int32)), .unset] []))
  refine Go.by (fun _ => XS.iloadN X0.here hx rfl (hb hby d4_0) rfl) ?_
  show Go p.tables e below _ (T0.setTop (mkF m 1 #[.val (.ref a1), .val (.int (12 : Int32)), .unset] [(.int (12 : Int32))]))
  refine Go.by (fun _ => XS.aloadN X0.here hx rfl (hb hby d4_1) rfl rfl) ?_
  show Go p.tables e below _ (T0.setTop (mkF m 2 #[.val (.ref a1), .val (.int (12 : Int32)), .unset] [(.ref a1), (.int (12 : Int32))]))
  refine Go.by (X0.len hx hZ V_a (z := (4 : Int32)) rfl (g := (mkF m 2 #[.val (.ref a1), .val (.int (12 : Int32)), .unset] [(.ref a1), (.int (12 : Int32))])) rfl rfl (hb hby d4_2)) ?_
  show Go p.tables e below _ (T0.setTop (mkF m 3 #[.val (.ref a1), .val (.int (12 : Int32)), .unset] [(.int (4 : Int32)), (.int (12 : Int32))]))
  refine Go.by (fun _ => XS.icmpYes X0.here hx rfl (pc0 := 3) (pc' := 14) rfl (hb hby d4_3) rfl (feq (by decide)).2 (by decide) (by decide)) ?_
  show Go p.tables e below _ (T0.setTop (mkF m 14 #[.val (.ref a1), .val (.int (12 : Int32)), .unset] []))
  refine Go.by (fun _ => XS.iloadN X0.here hx rfl (hb hby d4_14) rfl) ?_
  show Go p.tables e below _ (T0.setTop (mkF m 15 #[.val (.ref a1), .val (.int (12 : Int32)), .unset] [(.int (12 : Int32))]))
  obtain ⟨T1, h1, kc1, b1, X1, g1, E1, A1, V1, st1⟩ := X0.newP hx hZ (tw hw 1 rfl) (g := (mkF m 15 #[.val (.ref a1), .val (.int (12 : Int32)), .unset] [(.int (12 : Int32))])) rfl (hb hby d4_15) rfl (by decide) (sz := 12) (cap := 16) (k' := 1) (n' := 16) rfl (by decide) (by decide) rfl rfl (by decide) (by decide) (ad := "[B") (by decide)
  have g_b1 : n0 ≤ b1 := by rw [g1]; exact Z0
  have sz_b1 : h0.size ≤ b1 := by rw [g1]; exact K0.1
  have ne_a1_b1 : a1 ≠ b1 := Nat.ne_of_lt (by rw [g1]; exact V_a.lt)
  have f2_16 := Avf.ext V_a E1
  have f2_17 := K0.ext E1
  have Zs2 : n0 ≤ h1.size := Nat.le_trans Z0 E1.1
  refine Go.by st1 ?_
  show Go p.tables e below _ (T1.setTop (mkF m 17 #[.val (.ref a1), .val (.int (12 : Int32)), .unset] [(.ref b1)]))
  refine Go.by (fun _ => XS.astoreN X1.here hx rfl (hb hby d4_17) rfl rfl (l' := #[.val (.ref a1), .val (.int (12 : Int32)), .val (.ref b1)]) rfl) ?_
  show Go p.tables e below _ (T1.setTop (mkF m 18 #[.val (.ref a1), .val (.int (12 : Int32)), .val (.ref b1)] []))
  refine Go.by (fun _ => XS.aloadN X1.here hx rfl (hb hby d4_18) rfl rfl) ?_
  show Go p.tables e below _ (T1.setTop (mkF m 19 #[.val (.ref a1), .val (.int (12 : Int32)), .val (.ref b1)] [(.ref a1)]))
  refine Go.by (fun _ => XS.iconst X1.here hx rfl (hb hby d4_19)) ?_
  show Go p.tables e below _ (T1.setTop (mkF m 20 #[.val (.ref a1), .val (.int (12 : Int32)), .val (.ref b1)] [(.int (0 : Int32)), (.ref a1)]))
  refine Go.by (fun _ => XS.aloadN X1.here hx rfl (hb hby d4_20) rfl rfl) ?_
  show Go p.tables e below _ (T1.setTop (mkF m 21 #[.val (.ref a1), .val (.int (12 : Int32)), .val (.ref b1)] [(.ref b1), (.int (0 : Int32)), (.ref a1)]))
  refine Go.by (fun _ => XS.iconst X1.here hx rfl (hb hby d4_21)) ?_
  show Go p.tables e below _ (T1.setTop (mkF m 22 #[.val (.ref a1), .val (.int (12 : Int32)), .val (.ref b1)] [(.int (0 : Int32)), (.ref b1), (.int (0 : Int32)), (.ref a1)]))
  refine Go.by (fun _ => XS.aloadN X1.here hx rfl (hb hby d4_22) rfl rfl) ?_
  show Go p.tables e below _ (T1.setTop (mkF m 23 #[.val (.ref a1), .val (.int (12 : Int32)), .val (.ref b1)] [(.ref a1), (.int (0 : Int32)), (.ref b1), (.int (0 : Int32)), (.ref a1)]))
  refine Go.by (X1.len hx hZ f2_16 (z := (4 : Int32)) rfl (g := (mkF m 23 #[.val (.ref a1), .val (.int (12 : Int32)), .val (.ref b1)] [(.ref a1), (.int (0 : Int32)), (.ref b1), (.int (0 : Int32)), (.ref a1)])) rfl rfl (hb hby d4_23)) ?_
  show Go p.tables e below _ (T1.setTop (mkF m 24 #[.val (.ref a1), .val (.int (12 : Int32)), .val (.ref b1)] [(.int (4 : Int32)), (.int (0 : Int32)), (.ref b1), (.int (0 : Int32)), (.ref a1)]))
  refine Go.by (fun _ => XS.iloadN X1.here hx rfl (hb hby d4_24) rfl) ?_
  show Go p.tables e below _ (T1.setTop (mkF m 25 #[.val (.ref a1), .val (.int (12 : Int32)), .val (.ref b1)] [(.int (12 : Int32)), (.int (4 : Int32)), (.int (0 : Int32)), (.ref b1), (.int (0 : Int32)), (.ref a1)]))
  obtain ⟨v3, T3, h3, X3, q3, st3⟩ := X1.callS hx hZ (y := (⟨"java/lang/Math", "min", "(II)I"⟩ : MethodName)) hown (tw hw 17 rfl) (tw hw 18 rfl) (tw hw 19 rfl) (tw hw 20 rfl) (by decide) (rm5_4 l Z a0 hw [] h1 n0 Zs2) (g := (mkF m 25 #[.val (.ref a1), .val (.int (12 : Int32)), .val (.ref b1)] [(.int (12 : Int32)), (.int (4 : Int32)), (.int (0 : Int32)), (.ref b1), (.int (0 : Int32)), (.ref a1)])) rfl (by rw [hml]; rfl) (argsL := [(.int (4 : Int32)), (.int (12 : Int32))]) (rest := [(.int (0 : Int32)), (.ref b1), (.int (0 : Int32)), (.ref a1)]) (lenOf pd1 rfl) rfl (hb hby d4_25) rfl (by decide) (Nat.le_of_ble_eq_true rfl) (k' := 1) (n' := 16) rfl rfl (by decide) (by decide)
  refine Go.by st3 ?_
  obtain ⟨rfl, rfl⟩ := q3
  show Go p.tables e below _ (T3.setTop (mkF m 28 #[.val (.ref a1), .val (.int (12 : Int32)), .val (.ref b1)] [(.int (4 : Int32)), (.int (0 : Int32)), (.ref b1), (.int (0 : Int32)), (.ref a1)]))
  obtain ⟨T4, h4, X4, K4, V4, st4⟩ := X3.acopy hx hZ hown (tw hw 21 rfl) (tw hw 24 rfl) (tw hw 22 rfl) (tw hw 23 rfl) f2_16 V1 rfl g_b1 (by decide) (by decide) (by decide) (i := 0) (j := 0) (cc := 4) rfl rfl rfl (by decide) (by decide) (g := (mkF m 28 #[.val (.ref a1), .val (.int (12 : Int32)), .val (.ref b1)] [(.int (4 : Int32)), (.int (0 : Int32)), (.ref b1), (.int (0 : Int32)), (.ref a1)])) rfl (by rw [hml]; rfl) rfl (hb hby d4_28) (by decide) (Nat.le_of_ble_eq_true rfl)
  have f5_42 := Avf.keep f2_16 K4 (ninS ne_a1_b1 nin0)
  have f5_43 := f2_17.trans K4 (allS (Or.inr sz_b1) all0)
  have f5_44 := A1.keep K4
  have Zs5 : n0 ≤ h4.size := Nat.le_trans Zs2 K4.1
  refine Go.by st4 ?_
  show Go p.tables e below _ (T4.setTop (mkF m 31 #[.val (.ref a1), .val (.int (12 : Int32)), .val (.ref b1)] []))
  refine Go.by (fun _ => XS.aloadN X4.here hx rfl (hb hby d4_31) rfl rfl) ?_
  show Go p.tables e below _ (T4.setTop (mkF m 32 #[.val (.ref a1), .val (.int (12 : Int32)), .val (.ref b1)] [(.ref b1)]))
  refine Go.retA X4 hx hlk hret rfl rfl (hb hby d4_32) (by decide) (by decide) ?_
  refine ⟨b1, kc1, rfl, sz_b1, f5_43, Avf.cong V4 (fun i hi => ?_)⟩
  by_cases q : i < 4 <;> first | (simp [q]; done) | (simp [q]; rfl)
abbrev Rm6_4 : Room := { frames := 1, cells := 0, slots := 0, locals := 14 }
set_option maxRecDepth 65536 in
set_option maxHeartbeats 40000000 in
theorem rm6_4 (l : Launch) (Z : State) (a0 : Array Value) (hw : ∀ d ∈ tables_1, d.before a0 Z = true) (ws : List Jvm.Cond) (a1 : Addr) (kc : ClassId) (fi : Nat → Int32) (h0 : Heap) (n0 : Nat) (Z0 : n0 ≤ h0.size) (g_a1 : n0 ≤ a1) (V_a : Avf Z h0 a1 kc .byte 12 (fun t => (.int (fi t)))) :
    Met l Z n0 (⟨"java/util/Arrays", "fill", "([BIIB)V"⟩ : MethodName) jdk_65_method_110_code 5 none ws Rm6_4 #[(.ref a1), (.int (4 : Int32)), (.int (12 : Int32)), (.int (-1 : Int32))] h0 (fun v h => v = none ∧ Keep h0 h [a1] ∧ Avf Z h a1 kc .byte 12 (fun t => (.int (if t < 4 then fi t else -1)))) := by
  refine enter (Ls := #[.val (.ref a1), .val (.int (4 : Int32)), .val (.int (12 : Int32)), .val (.int (-1 : Int32)), .unset]) (plainFor_of_name pn1) (fun m => by first | (simp [entryFrame, mkF, argsToLocals, Value.category]; done) | rfl) ?_
  intro p e s m below meth c T0 hx hby hml hown hnm hret hlk hZ X0
  have K0 := Keep.refl h0 [a1]
  show Go p.tables e below _ (T0.setTop (mkF m 0 #[.val (.ref a1), .val (.int (4 : Int32)), .val (.int (12 : Int32)), .val (.int (-1 : Int32)), .unset] []))
  refine Go.by (fun _ => XS.aloadN X0.here hx rfl (hb hby d6_0) rfl rfl) ?_
  show Go p.tables e below _ (T0.setTop (mkF m 1 #[.val (.ref a1), .val (.int (4 : Int32)), .val (.int (12 : Int32)), .val (.int (-1 : Int32)), .unset] [(.ref a1)]))
  refine Go.by (X0.len hx hZ V_a (z := (12 : Int32)) rfl (g := (mkF m 1 #[.val (.ref a1), .val (.int (4 : Int32)), .val (.int (12 : Int32)), .val (.int (-1 : Int32)), .unset] [(.ref a1)])) rfl rfl (hb hby d6_1)) ?_
  show Go p.tables e below _ (T0.setTop (mkF m 2 #[.val (.ref a1), .val (.int (4 : Int32)), .val (.int (12 : Int32)), .val (.int (-1 : Int32)), .unset] [(.int (12 : Int32))]))
  refine Go.by (fun _ => XS.iloadN X0.here hx rfl (hb hby d6_2) rfl) ?_
  show Go p.tables e below _ (T0.setTop (mkF m 3 #[.val (.ref a1), .val (.int (4 : Int32)), .val (.int (12 : Int32)), .val (.int (-1 : Int32)), .unset] [(.int (4 : Int32)), (.int (12 : Int32))]))
  refine Go.by (fun _ => XS.iloadN X0.here hx rfl (hb hby d6_3) rfl) ?_
  show Go p.tables e below _ (T0.setTop (mkF m 4 #[.val (.ref a1), .val (.int (4 : Int32)), .val (.int (12 : Int32)), .val (.int (-1 : Int32)), .unset] [(.int (12 : Int32)), (.int (4 : Int32)), (.int (12 : Int32))]))
  obtain ⟨v1, T1, h1, X1, q1, st1⟩ := X0.callS hx hZ (y := (⟨"java/util/Arrays", "rangeCheck", "(III)V"⟩ : MethodName)) hown (tw hw 28 rfl) (tw hw 29 rfl) (tw hw 15 rfl) (tw hw 30 rfl) (by decide) (rm7_4 l Z a0 hw [] h0 n0 Z0) (g := (mkF m 4 #[.val (.ref a1), .val (.int (4 : Int32)), .val (.int (12 : Int32)), .val (.int (-1 : Int32)), .unset] [(.int (12 : Int32)), (.int (4 : Int32)), (.int (12 : Int32))])) rfl (by rw [hml]; rfl) (argsL := [(.int (12 : Int32)), (.int (4 : Int32)), (.int (12 : Int32))]) (rest := []) (lenOf pd2 rfl) rfl (hb hby d6_4) rfl (by decide) (Nat.le_of_ble_eq_true rfl) (k' := 0) (n' := 0) rfl rfl (by decide) (by decide)
  refine Go.by st1 ?_
  obtain ⟨rfl, rfl⟩ := q1
  show Go p.tables e below _ (T1.setTop (mkF m 7 #[.val (.ref a1), .val (.int (4 : Int32)), .val (.int (12 : Int32)), .val (.int (-1 : Int32)), .unset] []))
  refine Go.by (fun _ => XS.iloadN X1.here hx rfl (hb hby d6_7) rfl) ?_
  show Go p.tables e below _ (T1.setTop (mkF m 8 #[.val (.ref a1), .val (.int (4 : Int32)), .val (.int (12 : Int32)), .val (.int (-1 : Int32)), .unset] [(.int (4 : Int32))]))
  refine Go.by (fun _ => XS.istore X1.here hx rfl (hb hby d6_8) rfl (l' := #[.val (.ref a1), .val (.int (4 : Int32)), .val (.int (12 : Int32)), .val (.int (-1 : Int32)), .val (.int (4 : Int32))]) rfl) ?_
  show Go p.tables e below _ (T1.setTop (mkF m 10 #[.val (.ref a1), .val (.int (4 : Int32)), .val (.int (12 : Int32)), .val (.int (-1 : Int32)), .val (.int (4 : Int32))] []))
  refine Go.by (fun _ => XS.iload X1.here hx rfl (hb hby d6_10) rfl) ?_
  show Go p.tables e below _ (T1.setTop (mkF m 12 #[.val (.ref a1), .val (.int (4 : Int32)), .val (.int (12 : Int32)), .val (.int (-1 : Int32)), .val (.int (4 : Int32))] [(.int (4 : Int32))]))
  refine Go.by (fun _ => XS.iloadN X1.here hx rfl (hb hby d6_12) rfl) ?_
  show Go p.tables e below _ (T1.setTop (mkF m 13 #[.val (.ref a1), .val (.int (4 : Int32)), .val (.int (12 : Int32)), .val (.int (-1 : Int32)), .val (.int (4 : Int32))] [(.int (12 : Int32)), (.int (4 : Int32))]))
  refine Go.by (fun _ => XS.icmpNo X1.here hx rfl (hb hby d6_13) rfl (tlt (by decide)).2.1) ?_
  show Go p.tables e below _ (T1.setTop (mkF m 16 #[.val (.ref a1), .val (.int (4 : Int32)), .val (.int (12 : Int32)), .val (.int (-1 : Int32)), .val (.int (4 : Int32))] []))
  refine Go.by (fun _ => XS.aloadN X1.here hx rfl (hb hby d6_16) rfl rfl) ?_
  show Go p.tables e below _ (T1.setTop (mkF m 17 #[.val (.ref a1), .val (.int (4 : Int32)), .val (.int (12 : Int32)), .val (.int (-1 : Int32)), .val (.int (4 : Int32))] [(.ref a1)]))
  refine Go.by (fun _ => XS.iload X1.here hx rfl (hb hby d6_17) rfl) ?_
  show Go p.tables e below _ (T1.setTop (mkF m 19 #[.val (.ref a1), .val (.int (4 : Int32)), .val (.int (12 : Int32)), .val (.int (-1 : Int32)), .val (.int (4 : Int32))] [(.int (4 : Int32)), (.ref a1)]))
  refine Go.by (fun _ => XS.iloadN X1.here hx rfl (hb hby d6_19) rfl) ?_
  show Go p.tables e below _ (T1.setTop (mkF m 20 #[.val (.ref a1), .val (.int (4 : Int32)), .val (.int (12 : Int32)), .val (.int (-1 : Int32)), .val (.int (4 : Int32))] [(.int (-1 : Int32)), (.int (4 : Int32)), (.ref a1)]))
  obtain ⟨T2, h2, X2, W2, V2, st2⟩ := X1.stB hx hZ V_a g_a1 (by decide) (i := 4) rfl (by decide) (g := (mkF m 20 #[.val (.ref a1), .val (.int (4 : Int32)), .val (.int (12 : Int32)), .val (.int (-1 : Int32)), .val (.int (4 : Int32))] [(.int (-1 : Int32)), (.int (4 : Int32)), (.ref a1)])) rfl rfl (hb hby d6_20)
  have f3_31 := K0.wr W2 (Or.inl (List.mem_of_getElem? (i := 0) rfl))
  have Zs3 : n0 ≤ h2.size := by rw [W2.size]; exact Z0
  refine Go.by st2 ?_
  show Go p.tables e below _ (T2.setTop (mkF m 21 #[.val (.ref a1), .val (.int (4 : Int32)), .val (.int (12 : Int32)), .val (.int (-1 : Int32)), .val (.int (4 : Int32))] []))
  refine Go.by (fun _ => XS.iinc X2.here hx rfl (hb hby d6_21) rfl (l' := #[.val (.ref a1), .val (.int (4 : Int32)), .val (.int (12 : Int32)), .val (.int (-1 : Int32)), .val (.int (5 : Int32))]) rfl) ?_
  show Go p.tables e below _ (T2.setTop (mkF m 24 #[.val (.ref a1), .val (.int (4 : Int32)), .val (.int (12 : Int32)), .val (.int (-1 : Int32)), .val (.int (5 : Int32))] []))
  refine Go.by (fun _ => XS.goto X2.here hx rfl (pc0 := 24) (pc' := 10) rfl (hb hby d6_24) (by decide) (by decide)) ?_
  show Go p.tables e below _ (T2.setTop (mkF m 10 #[.val (.ref a1), .val (.int (4 : Int32)), .val (.int (12 : Int32)), .val (.int (-1 : Int32)), .val (.int (5 : Int32))] []))
  refine Go.by (fun _ => XS.iload X2.here hx rfl (hb hby d6_10) rfl) ?_
  show Go p.tables e below _ (T2.setTop (mkF m 12 #[.val (.ref a1), .val (.int (4 : Int32)), .val (.int (12 : Int32)), .val (.int (-1 : Int32)), .val (.int (5 : Int32))] [(.int (5 : Int32))]))
  refine Go.by (fun _ => XS.iloadN X2.here hx rfl (hb hby d6_12) rfl) ?_
  show Go p.tables e below _ (T2.setTop (mkF m 13 #[.val (.ref a1), .val (.int (4 : Int32)), .val (.int (12 : Int32)), .val (.int (-1 : Int32)), .val (.int (5 : Int32))] [(.int (12 : Int32)), (.int (5 : Int32))]))
  refine Go.by (fun _ => XS.icmpNo X2.here hx rfl (hb hby d6_13) rfl (tlt (by decide)).2.1) ?_
  show Go p.tables e below _ (T2.setTop (mkF m 16 #[.val (.ref a1), .val (.int (4 : Int32)), .val (.int (12 : Int32)), .val (.int (-1 : Int32)), .val (.int (5 : Int32))] []))
  refine Go.by (fun _ => XS.aloadN X2.here hx rfl (hb hby d6_16) rfl rfl) ?_
  show Go p.tables e below _ (T2.setTop (mkF m 17 #[.val (.ref a1), .val (.int (4 : Int32)), .val (.int (12 : Int32)), .val (.int (-1 : Int32)), .val (.int (5 : Int32))] [(.ref a1)]))
  refine Go.by (fun _ => XS.iload X2.here hx rfl (hb hby d6_17) rfl) ?_
  show Go p.tables e below _ (T2.setTop (mkF m 19 #[.val (.ref a1), .val (.int (4 : Int32)), .val (.int (12 : Int32)), .val (.int (-1 : Int32)), .val (.int (5 : Int32))] [(.int (5 : Int32)), (.ref a1)]))
  refine Go.by (fun _ => XS.iloadN X2.here hx rfl (hb hby d6_19) rfl) ?_
  show Go p.tables e below _ (T2.setTop (mkF m 20 #[.val (.ref a1), .val (.int (4 : Int32)), .val (.int (12 : Int32)), .val (.int (-1 : Int32)), .val (.int (5 : Int32))] [(.int (-1 : Int32)), (.int (5 : Int32)), (.ref a1)]))
  obtain ⟨T4, h4, X4, W4, V4, st4⟩ := X2.stB hx hZ V2 g_a1 (by decide) (i := 5) rfl (by decide) (g := (mkF m 20 #[.val (.ref a1), .val (.int (4 : Int32)), .val (.int (12 : Int32)), .val (.int (-1 : Int32)), .val (.int (5 : Int32))] [(.int (-1 : Int32)), (.int (5 : Int32)), (.ref a1)])) rfl rfl (hb hby d6_20)
  have f5_52 := f3_31.wr W4 (Or.inl (List.mem_of_getElem? (i := 0) rfl))
  have Zs5 : n0 ≤ h4.size := by rw [W4.size]; exact Zs3
  refine Go.by st4 ?_
  show Go p.tables e below _ (T4.setTop (mkF m 21 #[.val (.ref a1), .val (.int (4 : Int32)), .val (.int (12 : Int32)), .val (.int (-1 : Int32)), .val (.int (5 : Int32))] []))
  refine Go.by (fun _ => XS.iinc X4.here hx rfl (hb hby d6_21) rfl (l' := #[.val (.ref a1), .val (.int (4 : Int32)), .val (.int (12 : Int32)), .val (.int (-1 : Int32)), .val (.int (6 : Int32))]) rfl) ?_
  show Go p.tables e below _ (T4.setTop (mkF m 24 #[.val (.ref a1), .val (.int (4 : Int32)), .val (.int (12 : Int32)), .val (.int (-1 : Int32)), .val (.int (6 : Int32))] []))
  refine Go.by (fun _ => XS.goto X4.here hx rfl (pc0 := 24) (pc' := 10) rfl (hb hby d6_24) (by decide) (by decide)) ?_
  show Go p.tables e below _ (T4.setTop (mkF m 10 #[.val (.ref a1), .val (.int (4 : Int32)), .val (.int (12 : Int32)), .val (.int (-1 : Int32)), .val (.int (6 : Int32))] []))
  refine Go.by (fun _ => XS.iload X4.here hx rfl (hb hby d6_10) rfl) ?_
  show Go p.tables e below _ (T4.setTop (mkF m 12 #[.val (.ref a1), .val (.int (4 : Int32)), .val (.int (12 : Int32)), .val (.int (-1 : Int32)), .val (.int (6 : Int32))] [(.int (6 : Int32))]))
  refine Go.by (fun _ => XS.iloadN X4.here hx rfl (hb hby d6_12) rfl) ?_
  show Go p.tables e below _ (T4.setTop (mkF m 13 #[.val (.ref a1), .val (.int (4 : Int32)), .val (.int (12 : Int32)), .val (.int (-1 : Int32)), .val (.int (6 : Int32))] [(.int (12 : Int32)), (.int (6 : Int32))]))
  refine Go.by (fun _ => XS.icmpNo X4.here hx rfl (hb hby d6_13) rfl (tlt (by decide)).2.1) ?_
  show Go p.tables e below _ (T4.setTop (mkF m 16 #[.val (.ref a1), .val (.int (4 : Int32)), .val (.int (12 : Int32)), .val (.int (-1 : Int32)), .val (.int (6 : Int32))] []))
  refine Go.by (fun _ => XS.aloadN X4.here hx rfl (hb hby d6_16) rfl rfl) ?_
  show Go p.tables e below _ (T4.setTop (mkF m 17 #[.val (.ref a1), .val (.int (4 : Int32)), .val (.int (12 : Int32)), .val (.int (-1 : Int32)), .val (.int (6 : Int32))] [(.ref a1)]))
  refine Go.by (fun _ => XS.iload X4.here hx rfl (hb hby d6_17) rfl) ?_
  show Go p.tables e below _ (T4.setTop (mkF m 19 #[.val (.ref a1), .val (.int (4 : Int32)), .val (.int (12 : Int32)), .val (.int (-1 : Int32)), .val (.int (6 : Int32))] [(.int (6 : Int32)), (.ref a1)]))
  refine Go.by (fun _ => XS.iloadN X4.here hx rfl (hb hby d6_19) rfl) ?_
  show Go p.tables e below _ (T4.setTop (mkF m 20 #[.val (.ref a1), .val (.int (4 : Int32)), .val (.int (12 : Int32)), .val (.int (-1 : Int32)), .val (.int (6 : Int32))] [(.int (-1 : Int32)), (.int (6 : Int32)), (.ref a1)]))
  obtain ⟨T6, h6, X6, W6, V6, st6⟩ := X4.stB hx hZ V4 g_a1 (by decide) (i := 6) rfl (by decide) (g := (mkF m 20 #[.val (.ref a1), .val (.int (4 : Int32)), .val (.int (12 : Int32)), .val (.int (-1 : Int32)), .val (.int (6 : Int32))] [(.int (-1 : Int32)), (.int (6 : Int32)), (.ref a1)])) rfl rfl (hb hby d6_20)
  have f7_73 := f5_52.wr W6 (Or.inl (List.mem_of_getElem? (i := 0) rfl))
  have Zs7 : n0 ≤ h6.size := by rw [W6.size]; exact Zs5
  refine Go.by st6 ?_
  show Go p.tables e below _ (T6.setTop (mkF m 21 #[.val (.ref a1), .val (.int (4 : Int32)), .val (.int (12 : Int32)), .val (.int (-1 : Int32)), .val (.int (6 : Int32))] []))
  refine Go.by (fun _ => XS.iinc X6.here hx rfl (hb hby d6_21) rfl (l' := #[.val (.ref a1), .val (.int (4 : Int32)), .val (.int (12 : Int32)), .val (.int (-1 : Int32)), .val (.int (7 : Int32))]) rfl) ?_
  show Go p.tables e below _ (T6.setTop (mkF m 24 #[.val (.ref a1), .val (.int (4 : Int32)), .val (.int (12 : Int32)), .val (.int (-1 : Int32)), .val (.int (7 : Int32))] []))
  refine Go.by (fun _ => XS.goto X6.here hx rfl (pc0 := 24) (pc' := 10) rfl (hb hby d6_24) (by decide) (by decide)) ?_
  show Go p.tables e below _ (T6.setTop (mkF m 10 #[.val (.ref a1), .val (.int (4 : Int32)), .val (.int (12 : Int32)), .val (.int (-1 : Int32)), .val (.int (7 : Int32))] []))
  refine Go.by (fun _ => XS.iload X6.here hx rfl (hb hby d6_10) rfl) ?_
  show Go p.tables e below _ (T6.setTop (mkF m 12 #[.val (.ref a1), .val (.int (4 : Int32)), .val (.int (12 : Int32)), .val (.int (-1 : Int32)), .val (.int (7 : Int32))] [(.int (7 : Int32))]))
  refine Go.by (fun _ => XS.iloadN X6.here hx rfl (hb hby d6_12) rfl) ?_
  show Go p.tables e below _ (T6.setTop (mkF m 13 #[.val (.ref a1), .val (.int (4 : Int32)), .val (.int (12 : Int32)), .val (.int (-1 : Int32)), .val (.int (7 : Int32))] [(.int (12 : Int32)), (.int (7 : Int32))]))
  refine Go.by (fun _ => XS.icmpNo X6.here hx rfl (hb hby d6_13) rfl (tlt (by decide)).2.1) ?_
  show Go p.tables e below _ (T6.setTop (mkF m 16 #[.val (.ref a1), .val (.int (4 : Int32)), .val (.int (12 : Int32)), .val (.int (-1 : Int32)), .val (.int (7 : Int32))] []))
  refine Go.by (fun _ => XS.aloadN X6.here hx rfl (hb hby d6_16) rfl rfl) ?_
  show Go p.tables e below _ (T6.setTop (mkF m 17 #[.val (.ref a1), .val (.int (4 : Int32)), .val (.int (12 : Int32)), .val (.int (-1 : Int32)), .val (.int (7 : Int32))] [(.ref a1)]))
  refine Go.by (fun _ => XS.iload X6.here hx rfl (hb hby d6_17) rfl) ?_
  show Go p.tables e below _ (T6.setTop (mkF m 19 #[.val (.ref a1), .val (.int (4 : Int32)), .val (.int (12 : Int32)), .val (.int (-1 : Int32)), .val (.int (7 : Int32))] [(.int (7 : Int32)), (.ref a1)]))
  refine Go.by (fun _ => XS.iloadN X6.here hx rfl (hb hby d6_19) rfl) ?_
  show Go p.tables e below _ (T6.setTop (mkF m 20 #[.val (.ref a1), .val (.int (4 : Int32)), .val (.int (12 : Int32)), .val (.int (-1 : Int32)), .val (.int (7 : Int32))] [(.int (-1 : Int32)), (.int (7 : Int32)), (.ref a1)]))
  obtain ⟨T8, h8, X8, W8, V8, st8⟩ := X6.stB hx hZ V6 g_a1 (by decide) (i := 7) rfl (by decide) (g := (mkF m 20 #[.val (.ref a1), .val (.int (4 : Int32)), .val (.int (12 : Int32)), .val (.int (-1 : Int32)), .val (.int (7 : Int32))] [(.int (-1 : Int32)), (.int (7 : Int32)), (.ref a1)])) rfl rfl (hb hby d6_20)
  have f9_94 := f7_73.wr W8 (Or.inl (List.mem_of_getElem? (i := 0) rfl))
  have Zs9 : n0 ≤ h8.size := by rw [W8.size]; exact Zs7
  refine Go.by st8 ?_
  show Go p.tables e below _ (T8.setTop (mkF m 21 #[.val (.ref a1), .val (.int (4 : Int32)), .val (.int (12 : Int32)), .val (.int (-1 : Int32)), .val (.int (7 : Int32))] []))
  refine Go.by (fun _ => XS.iinc X8.here hx rfl (hb hby d6_21) rfl (l' := #[.val (.ref a1), .val (.int (4 : Int32)), .val (.int (12 : Int32)), .val (.int (-1 : Int32)), .val (.int (8 : Int32))]) rfl) ?_
  show Go p.tables e below _ (T8.setTop (mkF m 24 #[.val (.ref a1), .val (.int (4 : Int32)), .val (.int (12 : Int32)), .val (.int (-1 : Int32)), .val (.int (8 : Int32))] []))
  refine Go.by (fun _ => XS.goto X8.here hx rfl (pc0 := 24) (pc' := 10) rfl (hb hby d6_24) (by decide) (by decide)) ?_
  show Go p.tables e below _ (T8.setTop (mkF m 10 #[.val (.ref a1), .val (.int (4 : Int32)), .val (.int (12 : Int32)), .val (.int (-1 : Int32)), .val (.int (8 : Int32))] []))
  refine Go.by (fun _ => XS.iload X8.here hx rfl (hb hby d6_10) rfl) ?_
  show Go p.tables e below _ (T8.setTop (mkF m 12 #[.val (.ref a1), .val (.int (4 : Int32)), .val (.int (12 : Int32)), .val (.int (-1 : Int32)), .val (.int (8 : Int32))] [(.int (8 : Int32))]))
  refine Go.by (fun _ => XS.iloadN X8.here hx rfl (hb hby d6_12) rfl) ?_
  show Go p.tables e below _ (T8.setTop (mkF m 13 #[.val (.ref a1), .val (.int (4 : Int32)), .val (.int (12 : Int32)), .val (.int (-1 : Int32)), .val (.int (8 : Int32))] [(.int (12 : Int32)), (.int (8 : Int32))]))
  refine Go.by (fun _ => XS.icmpNo X8.here hx rfl (hb hby d6_13) rfl (tlt (by decide)).2.1) ?_
  show Go p.tables e below _ (T8.setTop (mkF m 16 #[.val (.ref a1), .val (.int (4 : Int32)), .val (.int (12 : Int32)), .val (.int (-1 : Int32)), .val (.int (8 : Int32))] []))
  refine Go.by (fun _ => XS.aloadN X8.here hx rfl (hb hby d6_16) rfl rfl) ?_
  show Go p.tables e below _ (T8.setTop (mkF m 17 #[.val (.ref a1), .val (.int (4 : Int32)), .val (.int (12 : Int32)), .val (.int (-1 : Int32)), .val (.int (8 : Int32))] [(.ref a1)]))
  refine Go.by (fun _ => XS.iload X8.here hx rfl (hb hby d6_17) rfl) ?_
  show Go p.tables e below _ (T8.setTop (mkF m 19 #[.val (.ref a1), .val (.int (4 : Int32)), .val (.int (12 : Int32)), .val (.int (-1 : Int32)), .val (.int (8 : Int32))] [(.int (8 : Int32)), (.ref a1)]))
  refine Go.by (fun _ => XS.iloadN X8.here hx rfl (hb hby d6_19) rfl) ?_
  show Go p.tables e below _ (T8.setTop (mkF m 20 #[.val (.ref a1), .val (.int (4 : Int32)), .val (.int (12 : Int32)), .val (.int (-1 : Int32)), .val (.int (8 : Int32))] [(.int (-1 : Int32)), (.int (8 : Int32)), (.ref a1)]))
  obtain ⟨T10, h10, X10, W10, V10, st10⟩ := X8.stB hx hZ V8 g_a1 (by decide) (i := 8) rfl (by decide) (g := (mkF m 20 #[.val (.ref a1), .val (.int (4 : Int32)), .val (.int (12 : Int32)), .val (.int (-1 : Int32)), .val (.int (8 : Int32))] [(.int (-1 : Int32)), (.int (8 : Int32)), (.ref a1)])) rfl rfl (hb hby d6_20)
  have f11_115 := f9_94.wr W10 (Or.inl (List.mem_of_getElem? (i := 0) rfl))
  have Zs11 : n0 ≤ h10.size := by rw [W10.size]; exact Zs9
  refine Go.by st10 ?_
  show Go p.tables e below _ (T10.setTop (mkF m 21 #[.val (.ref a1), .val (.int (4 : Int32)), .val (.int (12 : Int32)), .val (.int (-1 : Int32)), .val (.int (8 : Int32))] []))
  refine Go.by (fun _ => XS.iinc X10.here hx rfl (hb hby d6_21) rfl (l' := #[.val (.ref a1), .val (.int (4 : Int32)), .val (.int (12 : Int32)), .val (.int (-1 : Int32)), .val (.int (9 : Int32))]) rfl) ?_
  show Go p.tables e below _ (T10.setTop (mkF m 24 #[.val (.ref a1), .val (.int (4 : Int32)), .val (.int (12 : Int32)), .val (.int (-1 : Int32)), .val (.int (9 : Int32))] []))
  refine Go.by (fun _ => XS.goto X10.here hx rfl (pc0 := 24) (pc' := 10) rfl (hb hby d6_24) (by decide) (by decide)) ?_
  show Go p.tables e below _ (T10.setTop (mkF m 10 #[.val (.ref a1), .val (.int (4 : Int32)), .val (.int (12 : Int32)), .val (.int (-1 : Int32)), .val (.int (9 : Int32))] []))
  refine Go.by (fun _ => XS.iload X10.here hx rfl (hb hby d6_10) rfl) ?_
  show Go p.tables e below _ (T10.setTop (mkF m 12 #[.val (.ref a1), .val (.int (4 : Int32)), .val (.int (12 : Int32)), .val (.int (-1 : Int32)), .val (.int (9 : Int32))] [(.int (9 : Int32))]))
  refine Go.by (fun _ => XS.iloadN X10.here hx rfl (hb hby d6_12) rfl) ?_
  show Go p.tables e below _ (T10.setTop (mkF m 13 #[.val (.ref a1), .val (.int (4 : Int32)), .val (.int (12 : Int32)), .val (.int (-1 : Int32)), .val (.int (9 : Int32))] [(.int (12 : Int32)), (.int (9 : Int32))]))
  refine Go.by (fun _ => XS.icmpNo X10.here hx rfl (hb hby d6_13) rfl (tlt (by decide)).2.1) ?_
  show Go p.tables e below _ (T10.setTop (mkF m 16 #[.val (.ref a1), .val (.int (4 : Int32)), .val (.int (12 : Int32)), .val (.int (-1 : Int32)), .val (.int (9 : Int32))] []))
  refine Go.by (fun _ => XS.aloadN X10.here hx rfl (hb hby d6_16) rfl rfl) ?_
  show Go p.tables e below _ (T10.setTop (mkF m 17 #[.val (.ref a1), .val (.int (4 : Int32)), .val (.int (12 : Int32)), .val (.int (-1 : Int32)), .val (.int (9 : Int32))] [(.ref a1)]))
  refine Go.by (fun _ => XS.iload X10.here hx rfl (hb hby d6_17) rfl) ?_
  show Go p.tables e below _ (T10.setTop (mkF m 19 #[.val (.ref a1), .val (.int (4 : Int32)), .val (.int (12 : Int32)), .val (.int (-1 : Int32)), .val (.int (9 : Int32))] [(.int (9 : Int32)), (.ref a1)]))
  refine Go.by (fun _ => XS.iloadN X10.here hx rfl (hb hby d6_19) rfl) ?_
  show Go p.tables e below _ (T10.setTop (mkF m 20 #[.val (.ref a1), .val (.int (4 : Int32)), .val (.int (12 : Int32)), .val (.int (-1 : Int32)), .val (.int (9 : Int32))] [(.int (-1 : Int32)), (.int (9 : Int32)), (.ref a1)]))
  obtain ⟨T12, h12, X12, W12, V12, st12⟩ := X10.stB hx hZ V10 g_a1 (by decide) (i := 9) rfl (by decide) (g := (mkF m 20 #[.val (.ref a1), .val (.int (4 : Int32)), .val (.int (12 : Int32)), .val (.int (-1 : Int32)), .val (.int (9 : Int32))] [(.int (-1 : Int32)), (.int (9 : Int32)), (.ref a1)])) rfl rfl (hb hby d6_20)
  have f13_136 := f11_115.wr W12 (Or.inl (List.mem_of_getElem? (i := 0) rfl))
  have Zs13 : n0 ≤ h12.size := by rw [W12.size]; exact Zs11
  refine Go.by st12 ?_
  show Go p.tables e below _ (T12.setTop (mkF m 21 #[.val (.ref a1), .val (.int (4 : Int32)), .val (.int (12 : Int32)), .val (.int (-1 : Int32)), .val (.int (9 : Int32))] []))
  refine Go.by (fun _ => XS.iinc X12.here hx rfl (hb hby d6_21) rfl (l' := #[.val (.ref a1), .val (.int (4 : Int32)), .val (.int (12 : Int32)), .val (.int (-1 : Int32)), .val (.int (10 : Int32))]) rfl) ?_
  show Go p.tables e below _ (T12.setTop (mkF m 24 #[.val (.ref a1), .val (.int (4 : Int32)), .val (.int (12 : Int32)), .val (.int (-1 : Int32)), .val (.int (10 : Int32))] []))
  refine Go.by (fun _ => XS.goto X12.here hx rfl (pc0 := 24) (pc' := 10) rfl (hb hby d6_24) (by decide) (by decide)) ?_
  show Go p.tables e below _ (T12.setTop (mkF m 10 #[.val (.ref a1), .val (.int (4 : Int32)), .val (.int (12 : Int32)), .val (.int (-1 : Int32)), .val (.int (10 : Int32))] []))
  refine Go.by (fun _ => XS.iload X12.here hx rfl (hb hby d6_10) rfl) ?_
  show Go p.tables e below _ (T12.setTop (mkF m 12 #[.val (.ref a1), .val (.int (4 : Int32)), .val (.int (12 : Int32)), .val (.int (-1 : Int32)), .val (.int (10 : Int32))] [(.int (10 : Int32))]))
  refine Go.by (fun _ => XS.iloadN X12.here hx rfl (hb hby d6_12) rfl) ?_
  show Go p.tables e below _ (T12.setTop (mkF m 13 #[.val (.ref a1), .val (.int (4 : Int32)), .val (.int (12 : Int32)), .val (.int (-1 : Int32)), .val (.int (10 : Int32))] [(.int (12 : Int32)), (.int (10 : Int32))]))
  refine Go.by (fun _ => XS.icmpNo X12.here hx rfl (hb hby d6_13) rfl (tlt (by decide)).2.1) ?_
  show Go p.tables e below _ (T12.setTop (mkF m 16 #[.val (.ref a1), .val (.int (4 : Int32)), .val (.int (12 : Int32)), .val (.int (-1 : Int32)), .val (.int (10 : Int32))] []))
  refine Go.by (fun _ => XS.aloadN X12.here hx rfl (hb hby d6_16) rfl rfl) ?_
  show Go p.tables e below _ (T12.setTop (mkF m 17 #[.val (.ref a1), .val (.int (4 : Int32)), .val (.int (12 : Int32)), .val (.int (-1 : Int32)), .val (.int (10 : Int32))] [(.ref a1)]))
  refine Go.by (fun _ => XS.iload X12.here hx rfl (hb hby d6_17) rfl) ?_
  show Go p.tables e below _ (T12.setTop (mkF m 19 #[.val (.ref a1), .val (.int (4 : Int32)), .val (.int (12 : Int32)), .val (.int (-1 : Int32)), .val (.int (10 : Int32))] [(.int (10 : Int32)), (.ref a1)]))
  refine Go.by (fun _ => XS.iloadN X12.here hx rfl (hb hby d6_19) rfl) ?_
  show Go p.tables e below _ (T12.setTop (mkF m 20 #[.val (.ref a1), .val (.int (4 : Int32)), .val (.int (12 : Int32)), .val (.int (-1 : Int32)), .val (.int (10 : Int32))] [(.int (-1 : Int32)), (.int (10 : Int32)), (.ref a1)]))
  obtain ⟨T14, h14, X14, W14, V14, st14⟩ := X12.stB hx hZ V12 g_a1 (by decide) (i := 10) rfl (by decide) (g := (mkF m 20 #[.val (.ref a1), .val (.int (4 : Int32)), .val (.int (12 : Int32)), .val (.int (-1 : Int32)), .val (.int (10 : Int32))] [(.int (-1 : Int32)), (.int (10 : Int32)), (.ref a1)])) rfl rfl (hb hby d6_20)
  have f15_157 := f13_136.wr W14 (Or.inl (List.mem_of_getElem? (i := 0) rfl))
  have Zs15 : n0 ≤ h14.size := by rw [W14.size]; exact Zs13
  refine Go.by st14 ?_
  show Go p.tables e below _ (T14.setTop (mkF m 21 #[.val (.ref a1), .val (.int (4 : Int32)), .val (.int (12 : Int32)), .val (.int (-1 : Int32)), .val (.int (10 : Int32))] []))
  refine Go.by (fun _ => XS.iinc X14.here hx rfl (hb hby d6_21) rfl (l' := #[.val (.ref a1), .val (.int (4 : Int32)), .val (.int (12 : Int32)), .val (.int (-1 : Int32)), .val (.int (11 : Int32))]) rfl) ?_
  show Go p.tables e below _ (T14.setTop (mkF m 24 #[.val (.ref a1), .val (.int (4 : Int32)), .val (.int (12 : Int32)), .val (.int (-1 : Int32)), .val (.int (11 : Int32))] []))
  refine Go.by (fun _ => XS.goto X14.here hx rfl (pc0 := 24) (pc' := 10) rfl (hb hby d6_24) (by decide) (by decide)) ?_
  show Go p.tables e below _ (T14.setTop (mkF m 10 #[.val (.ref a1), .val (.int (4 : Int32)), .val (.int (12 : Int32)), .val (.int (-1 : Int32)), .val (.int (11 : Int32))] []))
  refine Go.by (fun _ => XS.iload X14.here hx rfl (hb hby d6_10) rfl) ?_
  show Go p.tables e below _ (T14.setTop (mkF m 12 #[.val (.ref a1), .val (.int (4 : Int32)), .val (.int (12 : Int32)), .val (.int (-1 : Int32)), .val (.int (11 : Int32))] [(.int (11 : Int32))]))
  refine Go.by (fun _ => XS.iloadN X14.here hx rfl (hb hby d6_12) rfl) ?_
  show Go p.tables e below _ (T14.setTop (mkF m 13 #[.val (.ref a1), .val (.int (4 : Int32)), .val (.int (12 : Int32)), .val (.int (-1 : Int32)), .val (.int (11 : Int32))] [(.int (12 : Int32)), (.int (11 : Int32))]))
  refine Go.by (fun _ => XS.icmpNo X14.here hx rfl (hb hby d6_13) rfl (tlt (by decide)).2.1) ?_
  show Go p.tables e below _ (T14.setTop (mkF m 16 #[.val (.ref a1), .val (.int (4 : Int32)), .val (.int (12 : Int32)), .val (.int (-1 : Int32)), .val (.int (11 : Int32))] []))
  refine Go.by (fun _ => XS.aloadN X14.here hx rfl (hb hby d6_16) rfl rfl) ?_
  show Go p.tables e below _ (T14.setTop (mkF m 17 #[.val (.ref a1), .val (.int (4 : Int32)), .val (.int (12 : Int32)), .val (.int (-1 : Int32)), .val (.int (11 : Int32))] [(.ref a1)]))
  refine Go.by (fun _ => XS.iload X14.here hx rfl (hb hby d6_17) rfl) ?_
  show Go p.tables e below _ (T14.setTop (mkF m 19 #[.val (.ref a1), .val (.int (4 : Int32)), .val (.int (12 : Int32)), .val (.int (-1 : Int32)), .val (.int (11 : Int32))] [(.int (11 : Int32)), (.ref a1)]))
  refine Go.by (fun _ => XS.iloadN X14.here hx rfl (hb hby d6_19) rfl) ?_
  show Go p.tables e below _ (T14.setTop (mkF m 20 #[.val (.ref a1), .val (.int (4 : Int32)), .val (.int (12 : Int32)), .val (.int (-1 : Int32)), .val (.int (11 : Int32))] [(.int (-1 : Int32)), (.int (11 : Int32)), (.ref a1)]))
  obtain ⟨T16, h16, X16, W16, V16, st16⟩ := X14.stB hx hZ V14 g_a1 (by decide) (i := 11) rfl (by decide) (g := (mkF m 20 #[.val (.ref a1), .val (.int (4 : Int32)), .val (.int (12 : Int32)), .val (.int (-1 : Int32)), .val (.int (11 : Int32))] [(.int (-1 : Int32)), (.int (11 : Int32)), (.ref a1)])) rfl rfl (hb hby d6_20)
  have f17_178 := f15_157.wr W16 (Or.inl (List.mem_of_getElem? (i := 0) rfl))
  have Zs17 : n0 ≤ h16.size := by rw [W16.size]; exact Zs15
  refine Go.by st16 ?_
  show Go p.tables e below _ (T16.setTop (mkF m 21 #[.val (.ref a1), .val (.int (4 : Int32)), .val (.int (12 : Int32)), .val (.int (-1 : Int32)), .val (.int (11 : Int32))] []))
  refine Go.by (fun _ => XS.iinc X16.here hx rfl (hb hby d6_21) rfl (l' := #[.val (.ref a1), .val (.int (4 : Int32)), .val (.int (12 : Int32)), .val (.int (-1 : Int32)), .val (.int (12 : Int32))]) rfl) ?_
  show Go p.tables e below _ (T16.setTop (mkF m 24 #[.val (.ref a1), .val (.int (4 : Int32)), .val (.int (12 : Int32)), .val (.int (-1 : Int32)), .val (.int (12 : Int32))] []))
  refine Go.by (fun _ => XS.goto X16.here hx rfl (pc0 := 24) (pc' := 10) rfl (hb hby d6_24) (by decide) (by decide)) ?_
  show Go p.tables e below _ (T16.setTop (mkF m 10 #[.val (.ref a1), .val (.int (4 : Int32)), .val (.int (12 : Int32)), .val (.int (-1 : Int32)), .val (.int (12 : Int32))] []))
  refine Go.by (fun _ => XS.iload X16.here hx rfl (hb hby d6_10) rfl) ?_
  show Go p.tables e below _ (T16.setTop (mkF m 12 #[.val (.ref a1), .val (.int (4 : Int32)), .val (.int (12 : Int32)), .val (.int (-1 : Int32)), .val (.int (12 : Int32))] [(.int (12 : Int32))]))
  refine Go.by (fun _ => XS.iloadN X16.here hx rfl (hb hby d6_12) rfl) ?_
  show Go p.tables e below _ (T16.setTop (mkF m 13 #[.val (.ref a1), .val (.int (4 : Int32)), .val (.int (12 : Int32)), .val (.int (-1 : Int32)), .val (.int (12 : Int32))] [(.int (12 : Int32)), (.int (12 : Int32))]))
  refine Go.by (fun _ => XS.icmpYes X16.here hx rfl (pc0 := 13) (pc' := 27) rfl (hb hby d6_13) rfl (flt (by decide)).2.1 (by decide) (by decide)) ?_
  show Go p.tables e below _ (T16.setTop (mkF m 27 #[.val (.ref a1), .val (.int (4 : Int32)), .val (.int (12 : Int32)), .val (.int (-1 : Int32)), .val (.int (12 : Int32))] []))
  refine Go.ret0 X16 hx hlk hret (hb hby d6_27) (by decide) (by decide) ?_
  refine ⟨rfl, f17_178, Avf.cong V16 (fun i hi => ?_)⟩
  by_cases q : i < 4
  · have y0 : ¬ i = 4 := by omega
    have y1 : ¬ i = 5 := by omega
    have y2 : ¬ i = 6 := by omega
    have y3 : ¬ i = 7 := by omega
    have y4 : ¬ i = 8 := by omega
    have y5 : ¬ i = 9 := by omega
    have y6 : ¬ i = 10 := by omega
    have y7 : ¬ i = 11 := by omega
    simp [q, y0, y1, y2, y3, y4, y5, y6, y7]
  · have y : i = 4 ∨ i = 5 ∨ i = 6 ∨ i = 7 ∨ i = 8 ∨ i = 9 ∨ i = 10 ∨ i = 11 := by omega
    rcases y with rfl | rfl | rfl | rfl | rfl | rfl | rfl | rfl <;> rfl
abbrev Rm3_4 : Room := { frames := 2, cells := 1, slots := 16, locals := 32 }
set_option maxRecDepth 65536 in
set_option maxHeartbeats 40000000 in
theorem rm3_4 (l : Launch) (Z : State) (a0 : Array Value) (hw : ∀ d ∈ tables_1, d.before a0 Z = true) (ws : List Jvm.Cond) (a1 : Addr) (kc : ClassId) (fi : Nat → Int32) (h0 : Heap) (n0 : Nat) (Z0 : n0 ≤ h0.size) (V_a : Avf Z h0 a1 kc .byte 4 (fun t => (.int (fi t)))) :
    Met l Z n0 (⟨"com/example/clio/clio/Layout", "pastEntries", "([B)[B"⟩ : MethodName) prog_20_method_22_code 2 (some (.array .byte)) ws Rm3_4 #[(.ref a1)] h0 (fun v h => ∃ r kr, v = some (.ref r) ∧ h0.size ≤ r ∧ Keep h0 h [] ∧ Avf Z h r kr .byte (4 + 8) (fun t => (.int (if t < 4 then fi t else -1)))) := by
  refine enter (Ls := #[.val (.ref a1), .unset]) (plainFor_of_name pn2) (fun m => by first | (simp [entryFrame, mkF, argsToLocals, Value.category]; done) | rfl) ?_
  intro p e s m below meth c T0 hx hby hml hown hnm hret hlk hZ X0
  have K0 := Keep.refl h0 []
  show Go p.tables e below _ (T0.setTop (mkF m 0 #[.val (.ref a1), .unset] []))
  refine Go.by (fun _ => XS.aloadN X0.here hx rfl (hb hby d3_0) rfl rfl) ?_
  show Go p.tables e below _ (T0.setTop (mkF m 1 #[.val (.ref a1), .unset] [(.ref a1)]))
  refine Go.by (fun _ => XS.aloadN X0.here hx rfl (hb hby d3_1) rfl rfl) ?_
  show Go p.tables e below _ (T0.setTop (mkF m 2 #[.val (.ref a1), .unset] [(.ref a1), (.ref a1)]))
  refine Go.by (X0.len hx hZ V_a (z := (4 : Int32)) rfl (g := (mkF m 2 #[.val (.ref a1), .unset] [(.ref a1), (.ref a1)])) rfl rfl (hb hby d3_2)) ?_
  show Go p.tables e below _ (T0.setTop (mkF m 3 #[.val (.ref a1), .unset] [(.int (4 : Int32)), (.ref a1)]))
  refine Go.by (fun _ => XS.bipush X0.here hx rfl (hb hby d3_3)) ?_
  show Go p.tables e below _ (T0.setTop (mkF m 5 #[.val (.ref a1), .unset] [(.int (8 : Int32)), (.int (4 : Int32)), (.ref a1)]))
  refine Go.by (fun _ => XS.iadd X0.here hx rfl (hb hby d3_5) rfl) ?_
  show Go p.tables e below _ (T0.setTop (mkF m 6 #[.val (.ref a1), .unset] [(.int (12 : Int32)), (.ref a1)]))
  obtain ⟨v1, T1, h1, X1, q1, st1⟩ := X0.callS hx hZ (y := (⟨"java/util/Arrays", "copyOf", "([BI)[B"⟩ : MethodName)) hown (tw hw 13 rfl) (tw hw 14 rfl) (tw hw 15 rfl) (tw hw 16 rfl) (by decide) (rm4_4 l Z a0 hw [] a1 kc fi h0 n0 Z0 V_a) (g := (mkF m 6 #[.val (.ref a1), .unset] [(.int (12 : Int32)), (.ref a1)])) rfl (by rw [hml]; rfl) (argsL := [(.ref a1), (.int (12 : Int32))]) (rest := []) (lenOf pd3 rfl) rfl (hb hby d3_6) rfl (by decide) (Nat.le_of_ble_eq_true rfl) (k' := 1) (n' := 16) rfl rfl (by decide) (by decide)
  refine Go.by st1 ?_
  obtain ⟨r1, kr1, rfl, sr1, K1, V1⟩ := q1
  have g_r1 : n0 ≤ r1 := Nat.le_trans Z0 sr1
  have sz_r1 : h0.size ≤ r1 := Nat.le_trans K0.1 sr1
  have ne_a1_r1 : a1 ≠ r1 := Nat.ne_of_lt (Nat.lt_of_lt_of_le V_a.lt sr1)
  have f2_18 := Avf.ext V_a (keep_ext K1)
  have f2_19 := K0.ext (keep_ext K1)
  have Zs2 : n0 ≤ h1.size := Nat.le_trans Z0 (keep_ext K1).1
  show Go p.tables e below _ (T1.setTop (mkF m 9 #[.val (.ref a1), .unset] [(.ref r1)]))
  refine Go.by (fun _ => XS.astoreN X1.here hx rfl (hb hby d3_9) rfl rfl (l' := #[.val (.ref a1), .val (.ref r1)]) rfl) ?_
  show Go p.tables e below _ (T1.setTop (mkF m 10 #[.val (.ref a1), .val (.ref r1)] []))
  refine Go.by (fun _ => XS.aloadN X1.here hx rfl (hb hby d3_10) rfl rfl) ?_
  show Go p.tables e below _ (T1.setTop (mkF m 11 #[.val (.ref a1), .val (.ref r1)] [(.ref r1)]))
  refine Go.by (fun _ => XS.aloadN X1.here hx rfl (hb hby d3_11) rfl rfl) ?_
  show Go p.tables e below _ (T1.setTop (mkF m 12 #[.val (.ref a1), .val (.ref r1)] [(.ref a1), (.ref r1)]))
  refine Go.by (X1.len hx hZ f2_18 (z := (4 : Int32)) rfl (g := (mkF m 12 #[.val (.ref a1), .val (.ref r1)] [(.ref a1), (.ref r1)])) rfl rfl (hb hby d3_12)) ?_
  show Go p.tables e below _ (T1.setTop (mkF m 13 #[.val (.ref a1), .val (.ref r1)] [(.int (4 : Int32)), (.ref r1)]))
  refine Go.by (fun _ => XS.aloadN X1.here hx rfl (hb hby d3_13) rfl rfl) ?_
  show Go p.tables e below _ (T1.setTop (mkF m 14 #[.val (.ref a1), .val (.ref r1)] [(.ref r1), (.int (4 : Int32)), (.ref r1)]))
  refine Go.by (X1.len hx hZ V1 (z := (12 : Int32)) rfl (g := (mkF m 14 #[.val (.ref a1), .val (.ref r1)] [(.ref r1), (.int (4 : Int32)), (.ref r1)])) rfl rfl (hb hby d3_14)) ?_
  show Go p.tables e below _ (T1.setTop (mkF m 15 #[.val (.ref a1), .val (.ref r1)] [(.int (12 : Int32)), (.int (4 : Int32)), (.ref r1)]))
  refine Go.by (fun _ => XS.iconst X1.here hx rfl (hb hby d3_15)) ?_
  show Go p.tables e below _ (T1.setTop (mkF m 16 #[.val (.ref a1), .val (.ref r1)] [(.int (-1 : Int32)), (.int (12 : Int32)), (.int (4 : Int32)), (.ref r1)]))
  obtain ⟨v3, T3, h3, X3, q3, st3⟩ := X1.callS hx hZ (y := (⟨"java/util/Arrays", "fill", "([BIIB)V"⟩ : MethodName)) hown (tw hw 25 rfl) (tw hw 26 rfl) (tw hw 15 rfl) (tw hw 27 rfl) (by decide) (rm6_4 l Z a0 hw [] r1 kr1 (fun t => if t < 4 then fi t else 0) h1 n0 Zs2 g_r1 V1) (g := (mkF m 16 #[.val (.ref a1), .val (.ref r1)] [(.int (-1 : Int32)), (.int (12 : Int32)), (.int (4 : Int32)), (.ref r1)])) rfl (by rw [hml]; rfl) (argsL := [(.ref r1), (.int (4 : Int32)), (.int (12 : Int32)), (.int (-1 : Int32))]) (rest := []) (lenOf pd4 rfl) rfl (hb hby d3_16) rfl (by decide) (Nat.le_of_ble_eq_true rfl) (k' := 1) (n' := 16) rfl rfl (by decide) (by decide)
  refine Go.by st3 ?_
  obtain ⟨rfl, K3, V3⟩ := q3
  have f4_39 := Avf.keep f2_18 K3 (ninS ne_a1_r1 nin0)
  have f4_40 := f2_19.trans K3 (allS (Or.inr sz_r1) all0)
  have Zs4 : n0 ≤ h3.size := Nat.le_trans Zs2 K3.1
  show Go p.tables e below _ (T3.setTop (mkF m 19 #[.val (.ref a1), .val (.ref r1)] []))
  refine Go.by (fun _ => XS.aloadN X3.here hx rfl (hb hby d3_19) rfl rfl) ?_
  show Go p.tables e below _ (T3.setTop (mkF m 20 #[.val (.ref a1), .val (.ref r1)] [(.ref r1)]))
  refine Go.retA X3 hx hlk hret rfl rfl (hb hby d3_20) (by decide) (by decide) ?_
  refine ⟨r1, kr1, rfl, sz_r1, f4_40, Avf.cong V3 (fun i hi => ?_)⟩
  by_cases q : i < 4 <;> first | (simp [q]; done) | (simp [q]; rfl)
abbrev Rm5_5 : Room := { frames := 0, cells := 0, slots := 0, locals := 0 }
set_option maxRecDepth 65536 in
set_option maxHeartbeats 40000000 in
theorem rm5_5 (l : Launch) (Z : State) (a0 : Array Value) (hw : ∀ d ∈ tables_1, d.before a0 Z = true) (ws : List Jvm.Cond)  (h0 : Heap) (n0 : Nat) (Z0 : n0 ≤ h0.size) :
    Met l Z n0 (⟨"java/lang/Math", "min", "(II)I"⟩ : MethodName) jdk_29_method_69_code 2 (some .int) ws Rm5_5 #[(.int (5 : Int32)), (.int (13 : Int32))] h0 (fun v h => v = some (.int (5 : Int32)) ∧ h0 = h) := by
  refine enter (Ls := #[.val (.int (5 : Int32)), .val (.int (13 : Int32))]) (Jvm.Free.JP.mathPlain rfl (by decide +kernel)) (fun m => by first | (simp [entryFrame, mkF, argsToLocals, Value.category]; done) | rfl) ?_
  intro p e s m below meth c T0 hx hby hml hown hnm hret hlk hZ X0
  show Go p.tables e below _ (T0.setTop (mkF m 0 #[.val (.int (5 : Int32)), .val (.int (13 : Int32))] []))
  refine Go.by (fun _ => XS.iloadN X0.here hx rfl (hb hby d5_0) rfl) ?_
  show Go p.tables e below _ (T0.setTop (mkF m 1 #[.val (.int (5 : Int32)), .val (.int (13 : Int32))] [(.int (5 : Int32))]))
  refine Go.by (fun _ => XS.iloadN X0.here hx rfl (hb hby d5_1) rfl) ?_
  show Go p.tables e below _ (T0.setTop (mkF m 2 #[.val (.int (5 : Int32)), .val (.int (13 : Int32))] [(.int (13 : Int32)), (.int (5 : Int32))]))
  refine Go.by (fun _ => XS.icmpNo X0.here hx rfl (hb hby d5_2) rfl (flt (by decide)).2.2.1) ?_
  show Go p.tables e below _ (T0.setTop (mkF m 5 #[.val (.int (5 : Int32)), .val (.int (13 : Int32))] []))
  refine Go.by (fun _ => XS.iloadN X0.here hx rfl (hb hby d5_5) rfl) ?_
  show Go p.tables e below _ (T0.setTop (mkF m 6 #[.val (.int (5 : Int32)), .val (.int (13 : Int32))] [(.int (5 : Int32))]))
  refine Go.by (fun _ => XS.goto X0.here hx rfl (pc0 := 6) (pc' := 10) rfl (hb hby d5_6) (by decide) (by decide)) ?_
  show Go p.tables e below _ (T0.setTop (mkF m 10 #[.val (.int (5 : Int32)), .val (.int (13 : Int32))] [(.int (5 : Int32))]))
  exact Go.retI X0 hx hlk hret (hb hby d5_10) (by decide) (by decide) ⟨rfl, rfl⟩
abbrev Rm7_5 : Room := { frames := 0, cells := 0, slots := 0, locals := 0 }
set_option maxRecDepth 65536 in
set_option maxHeartbeats 40000000 in
theorem rm7_5 (l : Launch) (Z : State) (a0 : Array Value) (hw : ∀ d ∈ tables_1, d.before a0 Z = true) (ws : List Jvm.Cond)  (h0 : Heap) (n0 : Nat) (Z0 : n0 ≤ h0.size) :
    Met l Z n0 (⟨"java/util/Arrays", "rangeCheck", "(III)V"⟩ : MethodName) jdk_65_method_30_code 3 none ws Rm7_5 #[(.int (13 : Int32)), (.int (5 : Int32)), (.int (13 : Int32))] h0 (fun v h => v = none ∧ h0 = h) := by
  refine enter (Ls := #[.val (.int (13 : Int32)), .val (.int (5 : Int32)), .val (.int (13 : Int32))]) (plainFor_of_name pn1) (fun m => by first | (simp [entryFrame, mkF, argsToLocals, Value.category]; done) | rfl) ?_
  intro p e s m below meth c T0 hx hby hml hown hnm hret hlk hZ X0
  show Go p.tables e below _ (T0.setTop (mkF m 0 #[.val (.int (13 : Int32)), .val (.int (5 : Int32)), .val (.int (13 : Int32))] []))
  refine Go.by (fun _ => XS.iloadN X0.here hx rfl (hb hby d7_0) rfl) ?_
  show Go p.tables e below _ (T0.setTop (mkF m 1 #[.val (.int (13 : Int32)), .val (.int (5 : Int32)), .val (.int (13 : Int32))] [(.int (5 : Int32))]))
  refine Go.by (fun _ => XS.iloadN X0.here hx rfl (hb hby d7_1) rfl) ?_
  show Go p.tables e below _ (T0.setTop (mkF m 2 #[.val (.int (13 : Int32)), .val (.int (5 : Int32)), .val (.int (13 : Int32))] [(.int (13 : Int32)), (.int (5 : Int32))]))
  refine Go.by (fun _ => XS.icmpYes X0.here hx rfl (pc0 := 2) (pc' := 46) rfl (hb hby d7_2) rfl (flt (by decide)).2.2.2 (by decide) (by decide)) ?_
  show Go p.tables e below _ (T0.setTop (mkF m 46 #[.val (.int (13 : Int32)), .val (.int (5 : Int32)), .val (.int (13 : Int32))] []))
  refine Go.by (fun _ => XS.iloadN X0.here hx rfl (hb hby d7_46) rfl) ?_
  show Go p.tables e below _ (T0.setTop (mkF m 47 #[.val (.int (13 : Int32)), .val (.int (5 : Int32)), .val (.int (13 : Int32))] [(.int (5 : Int32))]))
  refine Go.by (fun _ => XS.ifYes X0.here hx rfl (pc0 := 47) (pc' := 59) rfl (hb hby d7_47) rfl ((if0 _ _).trans (flt (by decide)).2.1) (by decide) (by decide)) ?_
  show Go p.tables e below _ (T0.setTop (mkF m 59 #[.val (.int (13 : Int32)), .val (.int (5 : Int32)), .val (.int (13 : Int32))] []))
  refine Go.by (fun _ => XS.iloadN X0.here hx rfl (hb hby d7_59) rfl) ?_
  show Go p.tables e below _ (T0.setTop (mkF m 60 #[.val (.int (13 : Int32)), .val (.int (5 : Int32)), .val (.int (13 : Int32))] [(.int (13 : Int32))]))
  refine Go.by (fun _ => XS.iloadN X0.here hx rfl (hb hby d7_60) rfl) ?_
  show Go p.tables e below _ (T0.setTop (mkF m 61 #[.val (.int (13 : Int32)), .val (.int (5 : Int32)), .val (.int (13 : Int32))] [(.int (13 : Int32)), (.int (13 : Int32))]))
  refine Go.by (fun _ => XS.icmpYes X0.here hx rfl (pc0 := 61) (pc' := 73) rfl (hb hby d7_61) rfl (flt (by decide)).2.2.2 (by decide) (by decide)) ?_
  show Go p.tables e below _ (T0.setTop (mkF m 73 #[.val (.int (13 : Int32)), .val (.int (5 : Int32)), .val (.int (13 : Int32))] []))
  exact Go.ret0 X0 hx hlk hret (hb hby d7_73) (by decide) (by decide) ⟨rfl, rfl⟩
abbrev Rm4_5 : Room := { frames := 1, cells := 1, slots := 16, locals := 18 }
set_option maxRecDepth 65536 in
set_option maxHeartbeats 40000000 in
theorem rm4_5 (l : Launch) (Z : State) (a0 : Array Value) (hw : ∀ d ∈ tables_1, d.before a0 Z = true) (ws : List Jvm.Cond) (a1 : Addr) (kc : ClassId) (fi : Nat → Int32) (h0 : Heap) (n0 : Nat) (Z0 : n0 ≤ h0.size) (V_a : Avf Z h0 a1 kc .byte 5 (fun t => (.int (fi t)))) :
    Met l Z n0 (⟨"java/util/Arrays", "copyOf", "([BI)[B"⟩ : MethodName) jdk_65_method_121_code 3 (some (.array .byte)) ws Rm4_5 #[(.ref a1), (.int (13 : Int32))] h0 (fun v h => ∃ r kr, v = some (.ref r) ∧ h0.size ≤ r ∧ Keep h0 h [] ∧ Avf Z h r kr .byte (5 + 8) (fun t => (.int (if t < 5 then fi t else 0)))) := by
  refine enter (Ls := #[.val (.ref a1), .val (.int (13 : Int32)), .unset]) (plainFor_of_name pn1) (fun m => by first | (simp [entryFrame, mkF, argsToLocals, Value.category]; done) | rfl) ?_
  intro p e s m below meth c T0 hx hby hml hown hnm hret hlk hZ X0
  have K0 := Keep.refl h0 []
  show Go p.tables e below _ (T0.setTop (mkF m 0 #[.val (.ref a1), .val (.int (13 : Int32)), .unset] []))
  refine Go.by (fun _ => XS.iloadN X0.here hx rfl (hb hby d4_0) rfl) ?_
  show Go p.tables e below _ (T0.setTop (mkF m 1 #[.val (.ref a1), .val (.int (13 : Int32)), .unset] [(.int (13 : Int32))]))
  refine Go.by (fun _ => XS.aloadN X0.here hx rfl (hb hby d4_1) rfl rfl) ?_
  show Go p.tables e below _ (T0.setTop (mkF m 2 #[.val (.ref a1), .val (.int (13 : Int32)), .unset] [(.ref a1), (.int (13 : Int32))]))
  refine Go.by (X0.len hx hZ V_a (z := (5 : Int32)) rfl (g := (mkF m 2 #[.val (.ref a1), .val (.int (13 : Int32)), .unset] [(.ref a1), (.int (13 : Int32))])) rfl rfl (hb hby d4_2)) ?_
  show Go p.tables e below _ (T0.setTop (mkF m 3 #[.val (.ref a1), .val (.int (13 : Int32)), .unset] [(.int (5 : Int32)), (.int (13 : Int32))]))
  refine Go.by (fun _ => XS.icmpYes X0.here hx rfl (pc0 := 3) (pc' := 14) rfl (hb hby d4_3) rfl (feq (by decide)).2 (by decide) (by decide)) ?_
  show Go p.tables e below _ (T0.setTop (mkF m 14 #[.val (.ref a1), .val (.int (13 : Int32)), .unset] []))
  refine Go.by (fun _ => XS.iloadN X0.here hx rfl (hb hby d4_14) rfl) ?_
  show Go p.tables e below _ (T0.setTop (mkF m 15 #[.val (.ref a1), .val (.int (13 : Int32)), .unset] [(.int (13 : Int32))]))
  obtain ⟨T1, h1, kc1, b1, X1, g1, E1, A1, V1, st1⟩ := X0.newP hx hZ (tw hw 1 rfl) (g := (mkF m 15 #[.val (.ref a1), .val (.int (13 : Int32)), .unset] [(.int (13 : Int32))])) rfl (hb hby d4_15) rfl (by decide) (sz := 13) (cap := 16) (k' := 1) (n' := 16) rfl (by decide) (by decide) rfl rfl (by decide) (by decide) (ad := "[B") (by decide)
  have g_b1 : n0 ≤ b1 := by rw [g1]; exact Z0
  have sz_b1 : h0.size ≤ b1 := by rw [g1]; exact K0.1
  have ne_a1_b1 : a1 ≠ b1 := Nat.ne_of_lt (by rw [g1]; exact V_a.lt)
  have f2_16 := Avf.ext V_a E1
  have f2_17 := K0.ext E1
  have Zs2 : n0 ≤ h1.size := Nat.le_trans Z0 E1.1
  refine Go.by st1 ?_
  show Go p.tables e below _ (T1.setTop (mkF m 17 #[.val (.ref a1), .val (.int (13 : Int32)), .unset] [(.ref b1)]))
  refine Go.by (fun _ => XS.astoreN X1.here hx rfl (hb hby d4_17) rfl rfl (l' := #[.val (.ref a1), .val (.int (13 : Int32)), .val (.ref b1)]) rfl) ?_
  show Go p.tables e below _ (T1.setTop (mkF m 18 #[.val (.ref a1), .val (.int (13 : Int32)), .val (.ref b1)] []))
  refine Go.by (fun _ => XS.aloadN X1.here hx rfl (hb hby d4_18) rfl rfl) ?_
  show Go p.tables e below _ (T1.setTop (mkF m 19 #[.val (.ref a1), .val (.int (13 : Int32)), .val (.ref b1)] [(.ref a1)]))
  refine Go.by (fun _ => XS.iconst X1.here hx rfl (hb hby d4_19)) ?_
  show Go p.tables e below _ (T1.setTop (mkF m 20 #[.val (.ref a1), .val (.int (13 : Int32)), .val (.ref b1)] [(.int (0 : Int32)), (.ref a1)]))
  refine Go.by (fun _ => XS.aloadN X1.here hx rfl (hb hby d4_20) rfl rfl) ?_
  show Go p.tables e below _ (T1.setTop (mkF m 21 #[.val (.ref a1), .val (.int (13 : Int32)), .val (.ref b1)] [(.ref b1), (.int (0 : Int32)), (.ref a1)]))
  refine Go.by (fun _ => XS.iconst X1.here hx rfl (hb hby d4_21)) ?_
  show Go p.tables e below _ (T1.setTop (mkF m 22 #[.val (.ref a1), .val (.int (13 : Int32)), .val (.ref b1)] [(.int (0 : Int32)), (.ref b1), (.int (0 : Int32)), (.ref a1)]))
  refine Go.by (fun _ => XS.aloadN X1.here hx rfl (hb hby d4_22) rfl rfl) ?_
  show Go p.tables e below _ (T1.setTop (mkF m 23 #[.val (.ref a1), .val (.int (13 : Int32)), .val (.ref b1)] [(.ref a1), (.int (0 : Int32)), (.ref b1), (.int (0 : Int32)), (.ref a1)]))
  refine Go.by (X1.len hx hZ f2_16 (z := (5 : Int32)) rfl (g := (mkF m 23 #[.val (.ref a1), .val (.int (13 : Int32)), .val (.ref b1)] [(.ref a1), (.int (0 : Int32)), (.ref b1), (.int (0 : Int32)), (.ref a1)])) rfl rfl (hb hby d4_23)) ?_
  show Go p.tables e below _ (T1.setTop (mkF m 24 #[.val (.ref a1), .val (.int (13 : Int32)), .val (.ref b1)] [(.int (5 : Int32)), (.int (0 : Int32)), (.ref b1), (.int (0 : Int32)), (.ref a1)]))
  refine Go.by (fun _ => XS.iloadN X1.here hx rfl (hb hby d4_24) rfl) ?_
  show Go p.tables e below _ (T1.setTop (mkF m 25 #[.val (.ref a1), .val (.int (13 : Int32)), .val (.ref b1)] [(.int (13 : Int32)), (.int (5 : Int32)), (.int (0 : Int32)), (.ref b1), (.int (0 : Int32)), (.ref a1)]))
  obtain ⟨v3, T3, h3, X3, q3, st3⟩ := X1.callS hx hZ (y := (⟨"java/lang/Math", "min", "(II)I"⟩ : MethodName)) hown (tw hw 17 rfl) (tw hw 18 rfl) (tw hw 19 rfl) (tw hw 20 rfl) (by decide) (rm5_5 l Z a0 hw [] h1 n0 Zs2) (g := (mkF m 25 #[.val (.ref a1), .val (.int (13 : Int32)), .val (.ref b1)] [(.int (13 : Int32)), (.int (5 : Int32)), (.int (0 : Int32)), (.ref b1), (.int (0 : Int32)), (.ref a1)])) rfl (by rw [hml]; rfl) (argsL := [(.int (5 : Int32)), (.int (13 : Int32))]) (rest := [(.int (0 : Int32)), (.ref b1), (.int (0 : Int32)), (.ref a1)]) (lenOf pd1 rfl) rfl (hb hby d4_25) rfl (by decide) (Nat.le_of_ble_eq_true rfl) (k' := 1) (n' := 16) rfl rfl (by decide) (by decide)
  refine Go.by st3 ?_
  obtain ⟨rfl, rfl⟩ := q3
  show Go p.tables e below _ (T3.setTop (mkF m 28 #[.val (.ref a1), .val (.int (13 : Int32)), .val (.ref b1)] [(.int (5 : Int32)), (.int (0 : Int32)), (.ref b1), (.int (0 : Int32)), (.ref a1)]))
  obtain ⟨T4, h4, X4, K4, V4, st4⟩ := X3.acopy hx hZ hown (tw hw 21 rfl) (tw hw 24 rfl) (tw hw 22 rfl) (tw hw 23 rfl) f2_16 V1 rfl g_b1 (by decide) (by decide) (by decide) (i := 0) (j := 0) (cc := 5) rfl rfl rfl (by decide) (by decide) (g := (mkF m 28 #[.val (.ref a1), .val (.int (13 : Int32)), .val (.ref b1)] [(.int (5 : Int32)), (.int (0 : Int32)), (.ref b1), (.int (0 : Int32)), (.ref a1)])) rfl (by rw [hml]; rfl) rfl (hb hby d4_28) (by decide) (Nat.le_of_ble_eq_true rfl)
  have f5_42 := Avf.keep f2_16 K4 (ninS ne_a1_b1 nin0)
  have f5_43 := f2_17.trans K4 (allS (Or.inr sz_b1) all0)
  have f5_44 := A1.keep K4
  have Zs5 : n0 ≤ h4.size := Nat.le_trans Zs2 K4.1
  refine Go.by st4 ?_
  show Go p.tables e below _ (T4.setTop (mkF m 31 #[.val (.ref a1), .val (.int (13 : Int32)), .val (.ref b1)] []))
  refine Go.by (fun _ => XS.aloadN X4.here hx rfl (hb hby d4_31) rfl rfl) ?_
  show Go p.tables e below _ (T4.setTop (mkF m 32 #[.val (.ref a1), .val (.int (13 : Int32)), .val (.ref b1)] [(.ref b1)]))
  refine Go.retA X4 hx hlk hret rfl rfl (hb hby d4_32) (by decide) (by decide) ?_
  refine ⟨b1, kc1, rfl, sz_b1, f5_43, Avf.cong V4 (fun i hi => ?_)⟩
  by_cases q : i < 5 <;> first | (simp [q]; done) | (simp [q]; rfl)
abbrev Rm6_5 : Room := { frames := 1, cells := 0, slots := 0, locals := 14 }
set_option maxRecDepth 65536 in
set_option maxHeartbeats 40000000 in
theorem rm6_5 (l : Launch) (Z : State) (a0 : Array Value) (hw : ∀ d ∈ tables_1, d.before a0 Z = true) (ws : List Jvm.Cond) (a1 : Addr) (kc : ClassId) (fi : Nat → Int32) (h0 : Heap) (n0 : Nat) (Z0 : n0 ≤ h0.size) (g_a1 : n0 ≤ a1) (V_a : Avf Z h0 a1 kc .byte 13 (fun t => (.int (fi t)))) :
    Met l Z n0 (⟨"java/util/Arrays", "fill", "([BIIB)V"⟩ : MethodName) jdk_65_method_110_code 5 none ws Rm6_5 #[(.ref a1), (.int (5 : Int32)), (.int (13 : Int32)), (.int (-1 : Int32))] h0 (fun v h => v = none ∧ Keep h0 h [a1] ∧ Avf Z h a1 kc .byte 13 (fun t => (.int (if t < 5 then fi t else -1)))) := by
  refine enter (Ls := #[.val (.ref a1), .val (.int (5 : Int32)), .val (.int (13 : Int32)), .val (.int (-1 : Int32)), .unset]) (plainFor_of_name pn1) (fun m => by first | (simp [entryFrame, mkF, argsToLocals, Value.category]; done) | rfl) ?_
  intro p e s m below meth c T0 hx hby hml hown hnm hret hlk hZ X0
  have K0 := Keep.refl h0 [a1]
  show Go p.tables e below _ (T0.setTop (mkF m 0 #[.val (.ref a1), .val (.int (5 : Int32)), .val (.int (13 : Int32)), .val (.int (-1 : Int32)), .unset] []))
  refine Go.by (fun _ => XS.aloadN X0.here hx rfl (hb hby d6_0) rfl rfl) ?_
  show Go p.tables e below _ (T0.setTop (mkF m 1 #[.val (.ref a1), .val (.int (5 : Int32)), .val (.int (13 : Int32)), .val (.int (-1 : Int32)), .unset] [(.ref a1)]))
  refine Go.by (X0.len hx hZ V_a (z := (13 : Int32)) rfl (g := (mkF m 1 #[.val (.ref a1), .val (.int (5 : Int32)), .val (.int (13 : Int32)), .val (.int (-1 : Int32)), .unset] [(.ref a1)])) rfl rfl (hb hby d6_1)) ?_
  show Go p.tables e below _ (T0.setTop (mkF m 2 #[.val (.ref a1), .val (.int (5 : Int32)), .val (.int (13 : Int32)), .val (.int (-1 : Int32)), .unset] [(.int (13 : Int32))]))
  refine Go.by (fun _ => XS.iloadN X0.here hx rfl (hb hby d6_2) rfl) ?_
  show Go p.tables e below _ (T0.setTop (mkF m 3 #[.val (.ref a1), .val (.int (5 : Int32)), .val (.int (13 : Int32)), .val (.int (-1 : Int32)), .unset] [(.int (5 : Int32)), (.int (13 : Int32))]))
  refine Go.by (fun _ => XS.iloadN X0.here hx rfl (hb hby d6_3) rfl) ?_
  show Go p.tables e below _ (T0.setTop (mkF m 4 #[.val (.ref a1), .val (.int (5 : Int32)), .val (.int (13 : Int32)), .val (.int (-1 : Int32)), .unset] [(.int (13 : Int32)), (.int (5 : Int32)), (.int (13 : Int32))]))
  obtain ⟨v1, T1, h1, X1, q1, st1⟩ := X0.callS hx hZ (y := (⟨"java/util/Arrays", "rangeCheck", "(III)V"⟩ : MethodName)) hown (tw hw 28 rfl) (tw hw 29 rfl) (tw hw 15 rfl) (tw hw 30 rfl) (by decide) (rm7_5 l Z a0 hw [] h0 n0 Z0) (g := (mkF m 4 #[.val (.ref a1), .val (.int (5 : Int32)), .val (.int (13 : Int32)), .val (.int (-1 : Int32)), .unset] [(.int (13 : Int32)), (.int (5 : Int32)), (.int (13 : Int32))])) rfl (by rw [hml]; rfl) (argsL := [(.int (13 : Int32)), (.int (5 : Int32)), (.int (13 : Int32))]) (rest := []) (lenOf pd2 rfl) rfl (hb hby d6_4) rfl (by decide) (Nat.le_of_ble_eq_true rfl) (k' := 0) (n' := 0) rfl rfl (by decide) (by decide)
  refine Go.by st1 ?_
  obtain ⟨rfl, rfl⟩ := q1
  show Go p.tables e below _ (T1.setTop (mkF m 7 #[.val (.ref a1), .val (.int (5 : Int32)), .val (.int (13 : Int32)), .val (.int (-1 : Int32)), .unset] []))
  refine Go.by (fun _ => XS.iloadN X1.here hx rfl (hb hby d6_7) rfl) ?_
  show Go p.tables e below _ (T1.setTop (mkF m 8 #[.val (.ref a1), .val (.int (5 : Int32)), .val (.int (13 : Int32)), .val (.int (-1 : Int32)), .unset] [(.int (5 : Int32))]))
  refine Go.by (fun _ => XS.istore X1.here hx rfl (hb hby d6_8) rfl (l' := #[.val (.ref a1), .val (.int (5 : Int32)), .val (.int (13 : Int32)), .val (.int (-1 : Int32)), .val (.int (5 : Int32))]) rfl) ?_
  show Go p.tables e below _ (T1.setTop (mkF m 10 #[.val (.ref a1), .val (.int (5 : Int32)), .val (.int (13 : Int32)), .val (.int (-1 : Int32)), .val (.int (5 : Int32))] []))
  refine Go.by (fun _ => XS.iload X1.here hx rfl (hb hby d6_10) rfl) ?_
  show Go p.tables e below _ (T1.setTop (mkF m 12 #[.val (.ref a1), .val (.int (5 : Int32)), .val (.int (13 : Int32)), .val (.int (-1 : Int32)), .val (.int (5 : Int32))] [(.int (5 : Int32))]))
  refine Go.by (fun _ => XS.iloadN X1.here hx rfl (hb hby d6_12) rfl) ?_
  show Go p.tables e below _ (T1.setTop (mkF m 13 #[.val (.ref a1), .val (.int (5 : Int32)), .val (.int (13 : Int32)), .val (.int (-1 : Int32)), .val (.int (5 : Int32))] [(.int (13 : Int32)), (.int (5 : Int32))]))
  refine Go.by (fun _ => XS.icmpNo X1.here hx rfl (hb hby d6_13) rfl (tlt (by decide)).2.1) ?_
  show Go p.tables e below _ (T1.setTop (mkF m 16 #[.val (.ref a1), .val (.int (5 : Int32)), .val (.int (13 : Int32)), .val (.int (-1 : Int32)), .val (.int (5 : Int32))] []))
  refine Go.by (fun _ => XS.aloadN X1.here hx rfl (hb hby d6_16) rfl rfl) ?_
  show Go p.tables e below _ (T1.setTop (mkF m 17 #[.val (.ref a1), .val (.int (5 : Int32)), .val (.int (13 : Int32)), .val (.int (-1 : Int32)), .val (.int (5 : Int32))] [(.ref a1)]))
  refine Go.by (fun _ => XS.iload X1.here hx rfl (hb hby d6_17) rfl) ?_
  show Go p.tables e below _ (T1.setTop (mkF m 19 #[.val (.ref a1), .val (.int (5 : Int32)), .val (.int (13 : Int32)), .val (.int (-1 : Int32)), .val (.int (5 : Int32))] [(.int (5 : Int32)), (.ref a1)]))
  refine Go.by (fun _ => XS.iloadN X1.here hx rfl (hb hby d6_19) rfl) ?_
  show Go p.tables e below _ (T1.setTop (mkF m 20 #[.val (.ref a1), .val (.int (5 : Int32)), .val (.int (13 : Int32)), .val (.int (-1 : Int32)), .val (.int (5 : Int32))] [(.int (-1 : Int32)), (.int (5 : Int32)), (.ref a1)]))
  obtain ⟨T2, h2, X2, W2, V2, st2⟩ := X1.stB hx hZ V_a g_a1 (by decide) (i := 5) rfl (by decide) (g := (mkF m 20 #[.val (.ref a1), .val (.int (5 : Int32)), .val (.int (13 : Int32)), .val (.int (-1 : Int32)), .val (.int (5 : Int32))] [(.int (-1 : Int32)), (.int (5 : Int32)), (.ref a1)])) rfl rfl (hb hby d6_20)
  have f3_31 := K0.wr W2 (Or.inl (List.mem_of_getElem? (i := 0) rfl))
  have Zs3 : n0 ≤ h2.size := by rw [W2.size]; exact Z0
  refine Go.by st2 ?_
  show Go p.tables e below _ (T2.setTop (mkF m 21 #[.val (.ref a1), .val (.int (5 : Int32)), .val (.int (13 : Int32)), .val (.int (-1 : Int32)), .val (.int (5 : Int32))] []))
  refine Go.by (fun _ => XS.iinc X2.here hx rfl (hb hby d6_21) rfl (l' := #[.val (.ref a1), .val (.int (5 : Int32)), .val (.int (13 : Int32)), .val (.int (-1 : Int32)), .val (.int (6 : Int32))]) rfl) ?_
  show Go p.tables e below _ (T2.setTop (mkF m 24 #[.val (.ref a1), .val (.int (5 : Int32)), .val (.int (13 : Int32)), .val (.int (-1 : Int32)), .val (.int (6 : Int32))] []))
  refine Go.by (fun _ => XS.goto X2.here hx rfl (pc0 := 24) (pc' := 10) rfl (hb hby d6_24) (by decide) (by decide)) ?_
  show Go p.tables e below _ (T2.setTop (mkF m 10 #[.val (.ref a1), .val (.int (5 : Int32)), .val (.int (13 : Int32)), .val (.int (-1 : Int32)), .val (.int (6 : Int32))] []))
  refine Go.by (fun _ => XS.iload X2.here hx rfl (hb hby d6_10) rfl) ?_
  show Go p.tables e below _ (T2.setTop (mkF m 12 #[.val (.ref a1), .val (.int (5 : Int32)), .val (.int (13 : Int32)), .val (.int (-1 : Int32)), .val (.int (6 : Int32))] [(.int (6 : Int32))]))
  refine Go.by (fun _ => XS.iloadN X2.here hx rfl (hb hby d6_12) rfl) ?_
  show Go p.tables e below _ (T2.setTop (mkF m 13 #[.val (.ref a1), .val (.int (5 : Int32)), .val (.int (13 : Int32)), .val (.int (-1 : Int32)), .val (.int (6 : Int32))] [(.int (13 : Int32)), (.int (6 : Int32))]))
  refine Go.by (fun _ => XS.icmpNo X2.here hx rfl (hb hby d6_13) rfl (tlt (by decide)).2.1) ?_
  show Go p.tables e below _ (T2.setTop (mkF m 16 #[.val (.ref a1), .val (.int (5 : Int32)), .val (.int (13 : Int32)), .val (.int (-1 : Int32)), .val (.int (6 : Int32))] []))
  refine Go.by (fun _ => XS.aloadN X2.here hx rfl (hb hby d6_16) rfl rfl) ?_
  show Go p.tables e below _ (T2.setTop (mkF m 17 #[.val (.ref a1), .val (.int (5 : Int32)), .val (.int (13 : Int32)), .val (.int (-1 : Int32)), .val (.int (6 : Int32))] [(.ref a1)]))
  refine Go.by (fun _ => XS.iload X2.here hx rfl (hb hby d6_17) rfl) ?_
  show Go p.tables e below _ (T2.setTop (mkF m 19 #[.val (.ref a1), .val (.int (5 : Int32)), .val (.int (13 : Int32)), .val (.int (-1 : Int32)), .val (.int (6 : Int32))] [(.int (6 : Int32)), (.ref a1)]))
  refine Go.by (fun _ => XS.iloadN X2.here hx rfl (hb hby d6_19) rfl) ?_
  show Go p.tables e below _ (T2.setTop (mkF m 20 #[.val (.ref a1), .val (.int (5 : Int32)), .val (.int (13 : Int32)), .val (.int (-1 : Int32)), .val (.int (6 : Int32))] [(.int (-1 : Int32)), (.int (6 : Int32)), (.ref a1)]))
  obtain ⟨T4, h4, X4, W4, V4, st4⟩ := X2.stB hx hZ V2 g_a1 (by decide) (i := 6) rfl (by decide) (g := (mkF m 20 #[.val (.ref a1), .val (.int (5 : Int32)), .val (.int (13 : Int32)), .val (.int (-1 : Int32)), .val (.int (6 : Int32))] [(.int (-1 : Int32)), (.int (6 : Int32)), (.ref a1)])) rfl rfl (hb hby d6_20)
  have f5_52 := f3_31.wr W4 (Or.inl (List.mem_of_getElem? (i := 0) rfl))
  have Zs5 : n0 ≤ h4.size := by rw [W4.size]; exact Zs3
  refine Go.by st4 ?_
  show Go p.tables e below _ (T4.setTop (mkF m 21 #[.val (.ref a1), .val (.int (5 : Int32)), .val (.int (13 : Int32)), .val (.int (-1 : Int32)), .val (.int (6 : Int32))] []))
  refine Go.by (fun _ => XS.iinc X4.here hx rfl (hb hby d6_21) rfl (l' := #[.val (.ref a1), .val (.int (5 : Int32)), .val (.int (13 : Int32)), .val (.int (-1 : Int32)), .val (.int (7 : Int32))]) rfl) ?_
  show Go p.tables e below _ (T4.setTop (mkF m 24 #[.val (.ref a1), .val (.int (5 : Int32)), .val (.int (13 : Int32)), .val (.int (-1 : Int32)), .val (.int (7 : Int32))] []))
  refine Go.by (fun _ => XS.goto X4.here hx rfl (pc0 := 24) (pc' := 10) rfl (hb hby d6_24) (by decide) (by decide)) ?_
  show Go p.tables e below _ (T4.setTop (mkF m 10 #[.val (.ref a1), .val (.int (5 : Int32)), .val (.int (13 : Int32)), .val (.int (-1 : Int32)), .val (.int (7 : Int32))] []))
  refine Go.by (fun _ => XS.iload X4.here hx rfl (hb hby d6_10) rfl) ?_
  show Go p.tables e below _ (T4.setTop (mkF m 12 #[.val (.ref a1), .val (.int (5 : Int32)), .val (.int (13 : Int32)), .val (.int (-1 : Int32)), .val (.int (7 : Int32))] [(.int (7 : Int32))]))
  refine Go.by (fun _ => XS.iloadN X4.here hx rfl (hb hby d6_12) rfl) ?_
  show Go p.tables e below _ (T4.setTop (mkF m 13 #[.val (.ref a1), .val (.int (5 : Int32)), .val (.int (13 : Int32)), .val (.int (-1 : Int32)), .val (.int (7 : Int32))] [(.int (13 : Int32)), (.int (7 : Int32))]))
  refine Go.by (fun _ => XS.icmpNo X4.here hx rfl (hb hby d6_13) rfl (tlt (by decide)).2.1) ?_
  show Go p.tables e below _ (T4.setTop (mkF m 16 #[.val (.ref a1), .val (.int (5 : Int32)), .val (.int (13 : Int32)), .val (.int (-1 : Int32)), .val (.int (7 : Int32))] []))
  refine Go.by (fun _ => XS.aloadN X4.here hx rfl (hb hby d6_16) rfl rfl) ?_
  show Go p.tables e below _ (T4.setTop (mkF m 17 #[.val (.ref a1), .val (.int (5 : Int32)), .val (.int (13 : Int32)), .val (.int (-1 : Int32)), .val (.int (7 : Int32))] [(.ref a1)]))
  refine Go.by (fun _ => XS.iload X4.here hx rfl (hb hby d6_17) rfl) ?_
  show Go p.tables e below _ (T4.setTop (mkF m 19 #[.val (.ref a1), .val (.int (5 : Int32)), .val (.int (13 : Int32)), .val (.int (-1 : Int32)), .val (.int (7 : Int32))] [(.int (7 : Int32)), (.ref a1)]))
  refine Go.by (fun _ => XS.iloadN X4.here hx rfl (hb hby d6_19) rfl) ?_
  show Go p.tables e below _ (T4.setTop (mkF m 20 #[.val (.ref a1), .val (.int (5 : Int32)), .val (.int (13 : Int32)), .val (.int (-1 : Int32)), .val (.int (7 : Int32))] [(.int (-1 : Int32)), (.int (7 : Int32)), (.ref a1)]))
  obtain ⟨T6, h6, X6, W6, V6, st6⟩ := X4.stB hx hZ V4 g_a1 (by decide) (i := 7) rfl (by decide) (g := (mkF m 20 #[.val (.ref a1), .val (.int (5 : Int32)), .val (.int (13 : Int32)), .val (.int (-1 : Int32)), .val (.int (7 : Int32))] [(.int (-1 : Int32)), (.int (7 : Int32)), (.ref a1)])) rfl rfl (hb hby d6_20)
  have f7_73 := f5_52.wr W6 (Or.inl (List.mem_of_getElem? (i := 0) rfl))
  have Zs7 : n0 ≤ h6.size := by rw [W6.size]; exact Zs5
  refine Go.by st6 ?_
  show Go p.tables e below _ (T6.setTop (mkF m 21 #[.val (.ref a1), .val (.int (5 : Int32)), .val (.int (13 : Int32)), .val (.int (-1 : Int32)), .val (.int (7 : Int32))] []))
  refine Go.by (fun _ => XS.iinc X6.here hx rfl (hb hby d6_21) rfl (l' := #[.val (.ref a1), .val (.int (5 : Int32)), .val (.int (13 : Int32)), .val (.int (-1 : Int32)), .val (.int (8 : Int32))]) rfl) ?_
  show Go p.tables e below _ (T6.setTop (mkF m 24 #[.val (.ref a1), .val (.int (5 : Int32)), .val (.int (13 : Int32)), .val (.int (-1 : Int32)), .val (.int (8 : Int32))] []))
  refine Go.by (fun _ => XS.goto X6.here hx rfl (pc0 := 24) (pc' := 10) rfl (hb hby d6_24) (by decide) (by decide)) ?_
  show Go p.tables e below _ (T6.setTop (mkF m 10 #[.val (.ref a1), .val (.int (5 : Int32)), .val (.int (13 : Int32)), .val (.int (-1 : Int32)), .val (.int (8 : Int32))] []))
  refine Go.by (fun _ => XS.iload X6.here hx rfl (hb hby d6_10) rfl) ?_
  show Go p.tables e below _ (T6.setTop (mkF m 12 #[.val (.ref a1), .val (.int (5 : Int32)), .val (.int (13 : Int32)), .val (.int (-1 : Int32)), .val (.int (8 : Int32))] [(.int (8 : Int32))]))
  refine Go.by (fun _ => XS.iloadN X6.here hx rfl (hb hby d6_12) rfl) ?_
  show Go p.tables e below _ (T6.setTop (mkF m 13 #[.val (.ref a1), .val (.int (5 : Int32)), .val (.int (13 : Int32)), .val (.int (-1 : Int32)), .val (.int (8 : Int32))] [(.int (13 : Int32)), (.int (8 : Int32))]))
  refine Go.by (fun _ => XS.icmpNo X6.here hx rfl (hb hby d6_13) rfl (tlt (by decide)).2.1) ?_
  show Go p.tables e below _ (T6.setTop (mkF m 16 #[.val (.ref a1), .val (.int (5 : Int32)), .val (.int (13 : Int32)), .val (.int (-1 : Int32)), .val (.int (8 : Int32))] []))
  refine Go.by (fun _ => XS.aloadN X6.here hx rfl (hb hby d6_16) rfl rfl) ?_
  show Go p.tables e below _ (T6.setTop (mkF m 17 #[.val (.ref a1), .val (.int (5 : Int32)), .val (.int (13 : Int32)), .val (.int (-1 : Int32)), .val (.int (8 : Int32))] [(.ref a1)]))
  refine Go.by (fun _ => XS.iload X6.here hx rfl (hb hby d6_17) rfl) ?_
  show Go p.tables e below _ (T6.setTop (mkF m 19 #[.val (.ref a1), .val (.int (5 : Int32)), .val (.int (13 : Int32)), .val (.int (-1 : Int32)), .val (.int (8 : Int32))] [(.int (8 : Int32)), (.ref a1)]))
  refine Go.by (fun _ => XS.iloadN X6.here hx rfl (hb hby d6_19) rfl) ?_
  show Go p.tables e below _ (T6.setTop (mkF m 20 #[.val (.ref a1), .val (.int (5 : Int32)), .val (.int (13 : Int32)), .val (.int (-1 : Int32)), .val (.int (8 : Int32))] [(.int (-1 : Int32)), (.int (8 : Int32)), (.ref a1)]))
  obtain ⟨T8, h8, X8, W8, V8, st8⟩ := X6.stB hx hZ V6 g_a1 (by decide) (i := 8) rfl (by decide) (g := (mkF m 20 #[.val (.ref a1), .val (.int (5 : Int32)), .val (.int (13 : Int32)), .val (.int (-1 : Int32)), .val (.int (8 : Int32))] [(.int (-1 : Int32)), (.int (8 : Int32)), (.ref a1)])) rfl rfl (hb hby d6_20)
  have f9_94 := f7_73.wr W8 (Or.inl (List.mem_of_getElem? (i := 0) rfl))
  have Zs9 : n0 ≤ h8.size := by rw [W8.size]; exact Zs7
  refine Go.by st8 ?_
  show Go p.tables e below _ (T8.setTop (mkF m 21 #[.val (.ref a1), .val (.int (5 : Int32)), .val (.int (13 : Int32)), .val (.int (-1 : Int32)), .val (.int (8 : Int32))] []))
  refine Go.by (fun _ => XS.iinc X8.here hx rfl (hb hby d6_21) rfl (l' := #[.val (.ref a1), .val (.int (5 : Int32)), .val (.int (13 : Int32)), .val (.int (-1 : Int32)), .val (.int (9 : Int32))]) rfl) ?_
  show Go p.tables e below _ (T8.setTop (mkF m 24 #[.val (.ref a1), .val (.int (5 : Int32)), .val (.int (13 : Int32)), .val (.int (-1 : Int32)), .val (.int (9 : Int32))] []))
  refine Go.by (fun _ => XS.goto X8.here hx rfl (pc0 := 24) (pc' := 10) rfl (hb hby d6_24) (by decide) (by decide)) ?_
  show Go p.tables e below _ (T8.setTop (mkF m 10 #[.val (.ref a1), .val (.int (5 : Int32)), .val (.int (13 : Int32)), .val (.int (-1 : Int32)), .val (.int (9 : Int32))] []))
  refine Go.by (fun _ => XS.iload X8.here hx rfl (hb hby d6_10) rfl) ?_
  show Go p.tables e below _ (T8.setTop (mkF m 12 #[.val (.ref a1), .val (.int (5 : Int32)), .val (.int (13 : Int32)), .val (.int (-1 : Int32)), .val (.int (9 : Int32))] [(.int (9 : Int32))]))
  refine Go.by (fun _ => XS.iloadN X8.here hx rfl (hb hby d6_12) rfl) ?_
  show Go p.tables e below _ (T8.setTop (mkF m 13 #[.val (.ref a1), .val (.int (5 : Int32)), .val (.int (13 : Int32)), .val (.int (-1 : Int32)), .val (.int (9 : Int32))] [(.int (13 : Int32)), (.int (9 : Int32))]))
  refine Go.by (fun _ => XS.icmpNo X8.here hx rfl (hb hby d6_13) rfl (tlt (by decide)).2.1) ?_
  show Go p.tables e below _ (T8.setTop (mkF m 16 #[.val (.ref a1), .val (.int (5 : Int32)), .val (.int (13 : Int32)), .val (.int (-1 : Int32)), .val (.int (9 : Int32))] []))
  refine Go.by (fun _ => XS.aloadN X8.here hx rfl (hb hby d6_16) rfl rfl) ?_
  show Go p.tables e below _ (T8.setTop (mkF m 17 #[.val (.ref a1), .val (.int (5 : Int32)), .val (.int (13 : Int32)), .val (.int (-1 : Int32)), .val (.int (9 : Int32))] [(.ref a1)]))
  refine Go.by (fun _ => XS.iload X8.here hx rfl (hb hby d6_17) rfl) ?_
  show Go p.tables e below _ (T8.setTop (mkF m 19 #[.val (.ref a1), .val (.int (5 : Int32)), .val (.int (13 : Int32)), .val (.int (-1 : Int32)), .val (.int (9 : Int32))] [(.int (9 : Int32)), (.ref a1)]))
  refine Go.by (fun _ => XS.iloadN X8.here hx rfl (hb hby d6_19) rfl) ?_
  show Go p.tables e below _ (T8.setTop (mkF m 20 #[.val (.ref a1), .val (.int (5 : Int32)), .val (.int (13 : Int32)), .val (.int (-1 : Int32)), .val (.int (9 : Int32))] [(.int (-1 : Int32)), (.int (9 : Int32)), (.ref a1)]))
  obtain ⟨T10, h10, X10, W10, V10, st10⟩ := X8.stB hx hZ V8 g_a1 (by decide) (i := 9) rfl (by decide) (g := (mkF m 20 #[.val (.ref a1), .val (.int (5 : Int32)), .val (.int (13 : Int32)), .val (.int (-1 : Int32)), .val (.int (9 : Int32))] [(.int (-1 : Int32)), (.int (9 : Int32)), (.ref a1)])) rfl rfl (hb hby d6_20)
  have f11_115 := f9_94.wr W10 (Or.inl (List.mem_of_getElem? (i := 0) rfl))
  have Zs11 : n0 ≤ h10.size := by rw [W10.size]; exact Zs9
  refine Go.by st10 ?_
  show Go p.tables e below _ (T10.setTop (mkF m 21 #[.val (.ref a1), .val (.int (5 : Int32)), .val (.int (13 : Int32)), .val (.int (-1 : Int32)), .val (.int (9 : Int32))] []))
  refine Go.by (fun _ => XS.iinc X10.here hx rfl (hb hby d6_21) rfl (l' := #[.val (.ref a1), .val (.int (5 : Int32)), .val (.int (13 : Int32)), .val (.int (-1 : Int32)), .val (.int (10 : Int32))]) rfl) ?_
  show Go p.tables e below _ (T10.setTop (mkF m 24 #[.val (.ref a1), .val (.int (5 : Int32)), .val (.int (13 : Int32)), .val (.int (-1 : Int32)), .val (.int (10 : Int32))] []))
  refine Go.by (fun _ => XS.goto X10.here hx rfl (pc0 := 24) (pc' := 10) rfl (hb hby d6_24) (by decide) (by decide)) ?_
  show Go p.tables e below _ (T10.setTop (mkF m 10 #[.val (.ref a1), .val (.int (5 : Int32)), .val (.int (13 : Int32)), .val (.int (-1 : Int32)), .val (.int (10 : Int32))] []))
  refine Go.by (fun _ => XS.iload X10.here hx rfl (hb hby d6_10) rfl) ?_
  show Go p.tables e below _ (T10.setTop (mkF m 12 #[.val (.ref a1), .val (.int (5 : Int32)), .val (.int (13 : Int32)), .val (.int (-1 : Int32)), .val (.int (10 : Int32))] [(.int (10 : Int32))]))
  refine Go.by (fun _ => XS.iloadN X10.here hx rfl (hb hby d6_12) rfl) ?_
  show Go p.tables e below _ (T10.setTop (mkF m 13 #[.val (.ref a1), .val (.int (5 : Int32)), .val (.int (13 : Int32)), .val (.int (-1 : Int32)), .val (.int (10 : Int32))] [(.int (13 : Int32)), (.int (10 : Int32))]))
  refine Go.by (fun _ => XS.icmpNo X10.here hx rfl (hb hby d6_13) rfl (tlt (by decide)).2.1) ?_
  show Go p.tables e below _ (T10.setTop (mkF m 16 #[.val (.ref a1), .val (.int (5 : Int32)), .val (.int (13 : Int32)), .val (.int (-1 : Int32)), .val (.int (10 : Int32))] []))
  refine Go.by (fun _ => XS.aloadN X10.here hx rfl (hb hby d6_16) rfl rfl) ?_
  show Go p.tables e below _ (T10.setTop (mkF m 17 #[.val (.ref a1), .val (.int (5 : Int32)), .val (.int (13 : Int32)), .val (.int (-1 : Int32)), .val (.int (10 : Int32))] [(.ref a1)]))
  refine Go.by (fun _ => XS.iload X10.here hx rfl (hb hby d6_17) rfl) ?_
  show Go p.tables e below _ (T10.setTop (mkF m 19 #[.val (.ref a1), .val (.int (5 : Int32)), .val (.int (13 : Int32)), .val (.int (-1 : Int32)), .val (.int (10 : Int32))] [(.int (10 : Int32)), (.ref a1)]))
  refine Go.by (fun _ => XS.iloadN X10.here hx rfl (hb hby d6_19) rfl) ?_
  show Go p.tables e below _ (T10.setTop (mkF m 20 #[.val (.ref a1), .val (.int (5 : Int32)), .val (.int (13 : Int32)), .val (.int (-1 : Int32)), .val (.int (10 : Int32))] [(.int (-1 : Int32)), (.int (10 : Int32)), (.ref a1)]))
  obtain ⟨T12, h12, X12, W12, V12, st12⟩ := X10.stB hx hZ V10 g_a1 (by decide) (i := 10) rfl (by decide) (g := (mkF m 20 #[.val (.ref a1), .val (.int (5 : Int32)), .val (.int (13 : Int32)), .val (.int (-1 : Int32)), .val (.int (10 : Int32))] [(.int (-1 : Int32)), (.int (10 : Int32)), (.ref a1)])) rfl rfl (hb hby d6_20)
  have f13_136 := f11_115.wr W12 (Or.inl (List.mem_of_getElem? (i := 0) rfl))
  have Zs13 : n0 ≤ h12.size := by rw [W12.size]; exact Zs11
  refine Go.by st12 ?_
  show Go p.tables e below _ (T12.setTop (mkF m 21 #[.val (.ref a1), .val (.int (5 : Int32)), .val (.int (13 : Int32)), .val (.int (-1 : Int32)), .val (.int (10 : Int32))] []))
  refine Go.by (fun _ => XS.iinc X12.here hx rfl (hb hby d6_21) rfl (l' := #[.val (.ref a1), .val (.int (5 : Int32)), .val (.int (13 : Int32)), .val (.int (-1 : Int32)), .val (.int (11 : Int32))]) rfl) ?_
  show Go p.tables e below _ (T12.setTop (mkF m 24 #[.val (.ref a1), .val (.int (5 : Int32)), .val (.int (13 : Int32)), .val (.int (-1 : Int32)), .val (.int (11 : Int32))] []))
  refine Go.by (fun _ => XS.goto X12.here hx rfl (pc0 := 24) (pc' := 10) rfl (hb hby d6_24) (by decide) (by decide)) ?_
  show Go p.tables e below _ (T12.setTop (mkF m 10 #[.val (.ref a1), .val (.int (5 : Int32)), .val (.int (13 : Int32)), .val (.int (-1 : Int32)), .val (.int (11 : Int32))] []))
  refine Go.by (fun _ => XS.iload X12.here hx rfl (hb hby d6_10) rfl) ?_
  show Go p.tables e below _ (T12.setTop (mkF m 12 #[.val (.ref a1), .val (.int (5 : Int32)), .val (.int (13 : Int32)), .val (.int (-1 : Int32)), .val (.int (11 : Int32))] [(.int (11 : Int32))]))
  refine Go.by (fun _ => XS.iloadN X12.here hx rfl (hb hby d6_12) rfl) ?_
  show Go p.tables e below _ (T12.setTop (mkF m 13 #[.val (.ref a1), .val (.int (5 : Int32)), .val (.int (13 : Int32)), .val (.int (-1 : Int32)), .val (.int (11 : Int32))] [(.int (13 : Int32)), (.int (11 : Int32))]))
  refine Go.by (fun _ => XS.icmpNo X12.here hx rfl (hb hby d6_13) rfl (tlt (by decide)).2.1) ?_
  show Go p.tables e below _ (T12.setTop (mkF m 16 #[.val (.ref a1), .val (.int (5 : Int32)), .val (.int (13 : Int32)), .val (.int (-1 : Int32)), .val (.int (11 : Int32))] []))
  refine Go.by (fun _ => XS.aloadN X12.here hx rfl (hb hby d6_16) rfl rfl) ?_
  show Go p.tables e below _ (T12.setTop (mkF m 17 #[.val (.ref a1), .val (.int (5 : Int32)), .val (.int (13 : Int32)), .val (.int (-1 : Int32)), .val (.int (11 : Int32))] [(.ref a1)]))
  refine Go.by (fun _ => XS.iload X12.here hx rfl (hb hby d6_17) rfl) ?_
  show Go p.tables e below _ (T12.setTop (mkF m 19 #[.val (.ref a1), .val (.int (5 : Int32)), .val (.int (13 : Int32)), .val (.int (-1 : Int32)), .val (.int (11 : Int32))] [(.int (11 : Int32)), (.ref a1)]))
  refine Go.by (fun _ => XS.iloadN X12.here hx rfl (hb hby d6_19) rfl) ?_
  show Go p.tables e below _ (T12.setTop (mkF m 20 #[.val (.ref a1), .val (.int (5 : Int32)), .val (.int (13 : Int32)), .val (.int (-1 : Int32)), .val (.int (11 : Int32))] [(.int (-1 : Int32)), (.int (11 : Int32)), (.ref a1)]))
  obtain ⟨T14, h14, X14, W14, V14, st14⟩ := X12.stB hx hZ V12 g_a1 (by decide) (i := 11) rfl (by decide) (g := (mkF m 20 #[.val (.ref a1), .val (.int (5 : Int32)), .val (.int (13 : Int32)), .val (.int (-1 : Int32)), .val (.int (11 : Int32))] [(.int (-1 : Int32)), (.int (11 : Int32)), (.ref a1)])) rfl rfl (hb hby d6_20)
  have f15_157 := f13_136.wr W14 (Or.inl (List.mem_of_getElem? (i := 0) rfl))
  have Zs15 : n0 ≤ h14.size := by rw [W14.size]; exact Zs13
  refine Go.by st14 ?_
  show Go p.tables e below _ (T14.setTop (mkF m 21 #[.val (.ref a1), .val (.int (5 : Int32)), .val (.int (13 : Int32)), .val (.int (-1 : Int32)), .val (.int (11 : Int32))] []))
  refine Go.by (fun _ => XS.iinc X14.here hx rfl (hb hby d6_21) rfl (l' := #[.val (.ref a1), .val (.int (5 : Int32)), .val (.int (13 : Int32)), .val (.int (-1 : Int32)), .val (.int (12 : Int32))]) rfl) ?_
  show Go p.tables e below _ (T14.setTop (mkF m 24 #[.val (.ref a1), .val (.int (5 : Int32)), .val (.int (13 : Int32)), .val (.int (-1 : Int32)), .val (.int (12 : Int32))] []))
  refine Go.by (fun _ => XS.goto X14.here hx rfl (pc0 := 24) (pc' := 10) rfl (hb hby d6_24) (by decide) (by decide)) ?_
  show Go p.tables e below _ (T14.setTop (mkF m 10 #[.val (.ref a1), .val (.int (5 : Int32)), .val (.int (13 : Int32)), .val (.int (-1 : Int32)), .val (.int (12 : Int32))] []))
  refine Go.by (fun _ => XS.iload X14.here hx rfl (hb hby d6_10) rfl) ?_
  show Go p.tables e below _ (T14.setTop (mkF m 12 #[.val (.ref a1), .val (.int (5 : Int32)), .val (.int (13 : Int32)), .val (.int (-1 : Int32)), .val (.int (12 : Int32))] [(.int (12 : Int32))]))
  refine Go.by (fun _ => XS.iloadN X14.here hx rfl (hb hby d6_12) rfl) ?_
  show Go p.tables e below _ (T14.setTop (mkF m 13 #[.val (.ref a1), .val (.int (5 : Int32)), .val (.int (13 : Int32)), .val (.int (-1 : Int32)), .val (.int (12 : Int32))] [(.int (13 : Int32)), (.int (12 : Int32))]))
  refine Go.by (fun _ => XS.icmpNo X14.here hx rfl (hb hby d6_13) rfl (tlt (by decide)).2.1) ?_
  show Go p.tables e below _ (T14.setTop (mkF m 16 #[.val (.ref a1), .val (.int (5 : Int32)), .val (.int (13 : Int32)), .val (.int (-1 : Int32)), .val (.int (12 : Int32))] []))
  refine Go.by (fun _ => XS.aloadN X14.here hx rfl (hb hby d6_16) rfl rfl) ?_
  show Go p.tables e below _ (T14.setTop (mkF m 17 #[.val (.ref a1), .val (.int (5 : Int32)), .val (.int (13 : Int32)), .val (.int (-1 : Int32)), .val (.int (12 : Int32))] [(.ref a1)]))
  refine Go.by (fun _ => XS.iload X14.here hx rfl (hb hby d6_17) rfl) ?_
  show Go p.tables e below _ (T14.setTop (mkF m 19 #[.val (.ref a1), .val (.int (5 : Int32)), .val (.int (13 : Int32)), .val (.int (-1 : Int32)), .val (.int (12 : Int32))] [(.int (12 : Int32)), (.ref a1)]))
  refine Go.by (fun _ => XS.iloadN X14.here hx rfl (hb hby d6_19) rfl) ?_
  show Go p.tables e below _ (T14.setTop (mkF m 20 #[.val (.ref a1), .val (.int (5 : Int32)), .val (.int (13 : Int32)), .val (.int (-1 : Int32)), .val (.int (12 : Int32))] [(.int (-1 : Int32)), (.int (12 : Int32)), (.ref a1)]))
  obtain ⟨T16, h16, X16, W16, V16, st16⟩ := X14.stB hx hZ V14 g_a1 (by decide) (i := 12) rfl (by decide) (g := (mkF m 20 #[.val (.ref a1), .val (.int (5 : Int32)), .val (.int (13 : Int32)), .val (.int (-1 : Int32)), .val (.int (12 : Int32))] [(.int (-1 : Int32)), (.int (12 : Int32)), (.ref a1)])) rfl rfl (hb hby d6_20)
  have f17_178 := f15_157.wr W16 (Or.inl (List.mem_of_getElem? (i := 0) rfl))
  have Zs17 : n0 ≤ h16.size := by rw [W16.size]; exact Zs15
  refine Go.by st16 ?_
  show Go p.tables e below _ (T16.setTop (mkF m 21 #[.val (.ref a1), .val (.int (5 : Int32)), .val (.int (13 : Int32)), .val (.int (-1 : Int32)), .val (.int (12 : Int32))] []))
  refine Go.by (fun _ => XS.iinc X16.here hx rfl (hb hby d6_21) rfl (l' := #[.val (.ref a1), .val (.int (5 : Int32)), .val (.int (13 : Int32)), .val (.int (-1 : Int32)), .val (.int (13 : Int32))]) rfl) ?_
  show Go p.tables e below _ (T16.setTop (mkF m 24 #[.val (.ref a1), .val (.int (5 : Int32)), .val (.int (13 : Int32)), .val (.int (-1 : Int32)), .val (.int (13 : Int32))] []))
  refine Go.by (fun _ => XS.goto X16.here hx rfl (pc0 := 24) (pc' := 10) rfl (hb hby d6_24) (by decide) (by decide)) ?_
  show Go p.tables e below _ (T16.setTop (mkF m 10 #[.val (.ref a1), .val (.int (5 : Int32)), .val (.int (13 : Int32)), .val (.int (-1 : Int32)), .val (.int (13 : Int32))] []))
  refine Go.by (fun _ => XS.iload X16.here hx rfl (hb hby d6_10) rfl) ?_
  show Go p.tables e below _ (T16.setTop (mkF m 12 #[.val (.ref a1), .val (.int (5 : Int32)), .val (.int (13 : Int32)), .val (.int (-1 : Int32)), .val (.int (13 : Int32))] [(.int (13 : Int32))]))
  refine Go.by (fun _ => XS.iloadN X16.here hx rfl (hb hby d6_12) rfl) ?_
  show Go p.tables e below _ (T16.setTop (mkF m 13 #[.val (.ref a1), .val (.int (5 : Int32)), .val (.int (13 : Int32)), .val (.int (-1 : Int32)), .val (.int (13 : Int32))] [(.int (13 : Int32)), (.int (13 : Int32))]))
  refine Go.by (fun _ => XS.icmpYes X16.here hx rfl (pc0 := 13) (pc' := 27) rfl (hb hby d6_13) rfl (flt (by decide)).2.1 (by decide) (by decide)) ?_
  show Go p.tables e below _ (T16.setTop (mkF m 27 #[.val (.ref a1), .val (.int (5 : Int32)), .val (.int (13 : Int32)), .val (.int (-1 : Int32)), .val (.int (13 : Int32))] []))
  refine Go.ret0 X16 hx hlk hret (hb hby d6_27) (by decide) (by decide) ?_
  refine ⟨rfl, f17_178, Avf.cong V16 (fun i hi => ?_)⟩
  by_cases q : i < 5
  · have y0 : ¬ i = 5 := by omega
    have y1 : ¬ i = 6 := by omega
    have y2 : ¬ i = 7 := by omega
    have y3 : ¬ i = 8 := by omega
    have y4 : ¬ i = 9 := by omega
    have y5 : ¬ i = 10 := by omega
    have y6 : ¬ i = 11 := by omega
    have y7 : ¬ i = 12 := by omega
    simp [q, y0, y1, y2, y3, y4, y5, y6, y7]
  · have y : i = 5 ∨ i = 6 ∨ i = 7 ∨ i = 8 ∨ i = 9 ∨ i = 10 ∨ i = 11 ∨ i = 12 := by omega
    rcases y with rfl | rfl | rfl | rfl | rfl | rfl | rfl | rfl <;> rfl
abbrev Rm3_5 : Room := { frames := 2, cells := 1, slots := 16, locals := 32 }
set_option maxRecDepth 65536 in
set_option maxHeartbeats 40000000 in
theorem rm3_5 (l : Launch) (Z : State) (a0 : Array Value) (hw : ∀ d ∈ tables_1, d.before a0 Z = true) (ws : List Jvm.Cond) (a1 : Addr) (kc : ClassId) (fi : Nat → Int32) (h0 : Heap) (n0 : Nat) (Z0 : n0 ≤ h0.size) (V_a : Avf Z h0 a1 kc .byte 5 (fun t => (.int (fi t)))) :
    Met l Z n0 (⟨"com/example/clio/clio/Layout", "pastEntries", "([B)[B"⟩ : MethodName) prog_20_method_22_code 2 (some (.array .byte)) ws Rm3_5 #[(.ref a1)] h0 (fun v h => ∃ r kr, v = some (.ref r) ∧ h0.size ≤ r ∧ Keep h0 h [] ∧ Avf Z h r kr .byte (5 + 8) (fun t => (.int (if t < 5 then fi t else -1)))) := by
  refine enter (Ls := #[.val (.ref a1), .unset]) (plainFor_of_name pn2) (fun m => by first | (simp [entryFrame, mkF, argsToLocals, Value.category]; done) | rfl) ?_
  intro p e s m below meth c T0 hx hby hml hown hnm hret hlk hZ X0
  have K0 := Keep.refl h0 []
  show Go p.tables e below _ (T0.setTop (mkF m 0 #[.val (.ref a1), .unset] []))
  refine Go.by (fun _ => XS.aloadN X0.here hx rfl (hb hby d3_0) rfl rfl) ?_
  show Go p.tables e below _ (T0.setTop (mkF m 1 #[.val (.ref a1), .unset] [(.ref a1)]))
  refine Go.by (fun _ => XS.aloadN X0.here hx rfl (hb hby d3_1) rfl rfl) ?_
  show Go p.tables e below _ (T0.setTop (mkF m 2 #[.val (.ref a1), .unset] [(.ref a1), (.ref a1)]))
  refine Go.by (X0.len hx hZ V_a (z := (5 : Int32)) rfl (g := (mkF m 2 #[.val (.ref a1), .unset] [(.ref a1), (.ref a1)])) rfl rfl (hb hby d3_2)) ?_
  show Go p.tables e below _ (T0.setTop (mkF m 3 #[.val (.ref a1), .unset] [(.int (5 : Int32)), (.ref a1)]))
  refine Go.by (fun _ => XS.bipush X0.here hx rfl (hb hby d3_3)) ?_
  show Go p.tables e below _ (T0.setTop (mkF m 5 #[.val (.ref a1), .unset] [(.int (8 : Int32)), (.int (5 : Int32)), (.ref a1)]))
  refine Go.by (fun _ => XS.iadd X0.here hx rfl (hb hby d3_5) rfl) ?_
  show Go p.tables e below _ (T0.setTop (mkF m 6 #[.val (.ref a1), .unset] [(.int (13 : Int32)), (.ref a1)]))
  obtain ⟨v1, T1, h1, X1, q1, st1⟩ := X0.callS hx hZ (y := (⟨"java/util/Arrays", "copyOf", "([BI)[B"⟩ : MethodName)) hown (tw hw 13 rfl) (tw hw 14 rfl) (tw hw 15 rfl) (tw hw 16 rfl) (by decide) (rm4_5 l Z a0 hw [] a1 kc fi h0 n0 Z0 V_a) (g := (mkF m 6 #[.val (.ref a1), .unset] [(.int (13 : Int32)), (.ref a1)])) rfl (by rw [hml]; rfl) (argsL := [(.ref a1), (.int (13 : Int32))]) (rest := []) (lenOf pd3 rfl) rfl (hb hby d3_6) rfl (by decide) (Nat.le_of_ble_eq_true rfl) (k' := 1) (n' := 16) rfl rfl (by decide) (by decide)
  refine Go.by st1 ?_
  obtain ⟨r1, kr1, rfl, sr1, K1, V1⟩ := q1
  have g_r1 : n0 ≤ r1 := Nat.le_trans Z0 sr1
  have sz_r1 : h0.size ≤ r1 := Nat.le_trans K0.1 sr1
  have ne_a1_r1 : a1 ≠ r1 := Nat.ne_of_lt (Nat.lt_of_lt_of_le V_a.lt sr1)
  have f2_18 := Avf.ext V_a (keep_ext K1)
  have f2_19 := K0.ext (keep_ext K1)
  have Zs2 : n0 ≤ h1.size := Nat.le_trans Z0 (keep_ext K1).1
  show Go p.tables e below _ (T1.setTop (mkF m 9 #[.val (.ref a1), .unset] [(.ref r1)]))
  refine Go.by (fun _ => XS.astoreN X1.here hx rfl (hb hby d3_9) rfl rfl (l' := #[.val (.ref a1), .val (.ref r1)]) rfl) ?_
  show Go p.tables e below _ (T1.setTop (mkF m 10 #[.val (.ref a1), .val (.ref r1)] []))
  refine Go.by (fun _ => XS.aloadN X1.here hx rfl (hb hby d3_10) rfl rfl) ?_
  show Go p.tables e below _ (T1.setTop (mkF m 11 #[.val (.ref a1), .val (.ref r1)] [(.ref r1)]))
  refine Go.by (fun _ => XS.aloadN X1.here hx rfl (hb hby d3_11) rfl rfl) ?_
  show Go p.tables e below _ (T1.setTop (mkF m 12 #[.val (.ref a1), .val (.ref r1)] [(.ref a1), (.ref r1)]))
  refine Go.by (X1.len hx hZ f2_18 (z := (5 : Int32)) rfl (g := (mkF m 12 #[.val (.ref a1), .val (.ref r1)] [(.ref a1), (.ref r1)])) rfl rfl (hb hby d3_12)) ?_
  show Go p.tables e below _ (T1.setTop (mkF m 13 #[.val (.ref a1), .val (.ref r1)] [(.int (5 : Int32)), (.ref r1)]))
  refine Go.by (fun _ => XS.aloadN X1.here hx rfl (hb hby d3_13) rfl rfl) ?_
  show Go p.tables e below _ (T1.setTop (mkF m 14 #[.val (.ref a1), .val (.ref r1)] [(.ref r1), (.int (5 : Int32)), (.ref r1)]))
  refine Go.by (X1.len hx hZ V1 (z := (13 : Int32)) rfl (g := (mkF m 14 #[.val (.ref a1), .val (.ref r1)] [(.ref r1), (.int (5 : Int32)), (.ref r1)])) rfl rfl (hb hby d3_14)) ?_
  show Go p.tables e below _ (T1.setTop (mkF m 15 #[.val (.ref a1), .val (.ref r1)] [(.int (13 : Int32)), (.int (5 : Int32)), (.ref r1)]))
  refine Go.by (fun _ => XS.iconst X1.here hx rfl (hb hby d3_15)) ?_
  show Go p.tables e below _ (T1.setTop (mkF m 16 #[.val (.ref a1), .val (.ref r1)] [(.int (-1 : Int32)), (.int (13 : Int32)), (.int (5 : Int32)), (.ref r1)]))
  obtain ⟨v3, T3, h3, X3, q3, st3⟩ := X1.callS hx hZ (y := (⟨"java/util/Arrays", "fill", "([BIIB)V"⟩ : MethodName)) hown (tw hw 25 rfl) (tw hw 26 rfl) (tw hw 15 rfl) (tw hw 27 rfl) (by decide) (rm6_5 l Z a0 hw [] r1 kr1 (fun t => if t < 5 then fi t else 0) h1 n0 Zs2 g_r1 V1) (g := (mkF m 16 #[.val (.ref a1), .val (.ref r1)] [(.int (-1 : Int32)), (.int (13 : Int32)), (.int (5 : Int32)), (.ref r1)])) rfl (by rw [hml]; rfl) (argsL := [(.ref r1), (.int (5 : Int32)), (.int (13 : Int32)), (.int (-1 : Int32))]) (rest := []) (lenOf pd4 rfl) rfl (hb hby d3_16) rfl (by decide) (Nat.le_of_ble_eq_true rfl) (k' := 1) (n' := 16) rfl rfl (by decide) (by decide)
  refine Go.by st3 ?_
  obtain ⟨rfl, K3, V3⟩ := q3
  have f4_39 := Avf.keep f2_18 K3 (ninS ne_a1_r1 nin0)
  have f4_40 := f2_19.trans K3 (allS (Or.inr sz_r1) all0)
  have Zs4 : n0 ≤ h3.size := Nat.le_trans Zs2 K3.1
  show Go p.tables e below _ (T3.setTop (mkF m 19 #[.val (.ref a1), .val (.ref r1)] []))
  refine Go.by (fun _ => XS.aloadN X3.here hx rfl (hb hby d3_19) rfl rfl) ?_
  show Go p.tables e below _ (T3.setTop (mkF m 20 #[.val (.ref a1), .val (.ref r1)] [(.ref r1)]))
  refine Go.retA X3 hx hlk hret rfl rfl (hb hby d3_20) (by decide) (by decide) ?_
  refine ⟨r1, kr1, rfl, sz_r1, f4_40, Avf.cong V3 (fun i hi => ?_)⟩
  by_cases q : i < 5 <;> first | (simp [q]; done) | (simp [q]; rfl)
abbrev Rm5_6 : Room := { frames := 0, cells := 0, slots := 0, locals := 0 }
set_option maxRecDepth 65536 in
set_option maxHeartbeats 40000000 in
theorem rm5_6 (l : Launch) (Z : State) (a0 : Array Value) (hw : ∀ d ∈ tables_1, d.before a0 Z = true) (ws : List Jvm.Cond)  (h0 : Heap) (n0 : Nat) (Z0 : n0 ≤ h0.size) :
    Met l Z n0 (⟨"java/lang/Math", "min", "(II)I"⟩ : MethodName) jdk_29_method_69_code 2 (some .int) ws Rm5_6 #[(.int (6 : Int32)), (.int (14 : Int32))] h0 (fun v h => v = some (.int (6 : Int32)) ∧ h0 = h) := by
  refine enter (Ls := #[.val (.int (6 : Int32)), .val (.int (14 : Int32))]) (Jvm.Free.JP.mathPlain rfl (by decide +kernel)) (fun m => by first | (simp [entryFrame, mkF, argsToLocals, Value.category]; done) | rfl) ?_
  intro p e s m below meth c T0 hx hby hml hown hnm hret hlk hZ X0
  show Go p.tables e below _ (T0.setTop (mkF m 0 #[.val (.int (6 : Int32)), .val (.int (14 : Int32))] []))
  refine Go.by (fun _ => XS.iloadN X0.here hx rfl (hb hby d5_0) rfl) ?_
  show Go p.tables e below _ (T0.setTop (mkF m 1 #[.val (.int (6 : Int32)), .val (.int (14 : Int32))] [(.int (6 : Int32))]))
  refine Go.by (fun _ => XS.iloadN X0.here hx rfl (hb hby d5_1) rfl) ?_
  show Go p.tables e below _ (T0.setTop (mkF m 2 #[.val (.int (6 : Int32)), .val (.int (14 : Int32))] [(.int (14 : Int32)), (.int (6 : Int32))]))
  refine Go.by (fun _ => XS.icmpNo X0.here hx rfl (hb hby d5_2) rfl (flt (by decide)).2.2.1) ?_
  show Go p.tables e below _ (T0.setTop (mkF m 5 #[.val (.int (6 : Int32)), .val (.int (14 : Int32))] []))
  refine Go.by (fun _ => XS.iloadN X0.here hx rfl (hb hby d5_5) rfl) ?_
  show Go p.tables e below _ (T0.setTop (mkF m 6 #[.val (.int (6 : Int32)), .val (.int (14 : Int32))] [(.int (6 : Int32))]))
  refine Go.by (fun _ => XS.goto X0.here hx rfl (pc0 := 6) (pc' := 10) rfl (hb hby d5_6) (by decide) (by decide)) ?_
  show Go p.tables e below _ (T0.setTop (mkF m 10 #[.val (.int (6 : Int32)), .val (.int (14 : Int32))] [(.int (6 : Int32))]))
  exact Go.retI X0 hx hlk hret (hb hby d5_10) (by decide) (by decide) ⟨rfl, rfl⟩
abbrev Rm7_6 : Room := { frames := 0, cells := 0, slots := 0, locals := 0 }
set_option maxRecDepth 65536 in
set_option maxHeartbeats 40000000 in
theorem rm7_6 (l : Launch) (Z : State) (a0 : Array Value) (hw : ∀ d ∈ tables_1, d.before a0 Z = true) (ws : List Jvm.Cond)  (h0 : Heap) (n0 : Nat) (Z0 : n0 ≤ h0.size) :
    Met l Z n0 (⟨"java/util/Arrays", "rangeCheck", "(III)V"⟩ : MethodName) jdk_65_method_30_code 3 none ws Rm7_6 #[(.int (14 : Int32)), (.int (6 : Int32)), (.int (14 : Int32))] h0 (fun v h => v = none ∧ h0 = h) := by
  refine enter (Ls := #[.val (.int (14 : Int32)), .val (.int (6 : Int32)), .val (.int (14 : Int32))]) (plainFor_of_name pn1) (fun m => by first | (simp [entryFrame, mkF, argsToLocals, Value.category]; done) | rfl) ?_
  intro p e s m below meth c T0 hx hby hml hown hnm hret hlk hZ X0
  show Go p.tables e below _ (T0.setTop (mkF m 0 #[.val (.int (14 : Int32)), .val (.int (6 : Int32)), .val (.int (14 : Int32))] []))
  refine Go.by (fun _ => XS.iloadN X0.here hx rfl (hb hby d7_0) rfl) ?_
  show Go p.tables e below _ (T0.setTop (mkF m 1 #[.val (.int (14 : Int32)), .val (.int (6 : Int32)), .val (.int (14 : Int32))] [(.int (6 : Int32))]))
  refine Go.by (fun _ => XS.iloadN X0.here hx rfl (hb hby d7_1) rfl) ?_
  show Go p.tables e below _ (T0.setTop (mkF m 2 #[.val (.int (14 : Int32)), .val (.int (6 : Int32)), .val (.int (14 : Int32))] [(.int (14 : Int32)), (.int (6 : Int32))]))
  refine Go.by (fun _ => XS.icmpYes X0.here hx rfl (pc0 := 2) (pc' := 46) rfl (hb hby d7_2) rfl (flt (by decide)).2.2.2 (by decide) (by decide)) ?_
  show Go p.tables e below _ (T0.setTop (mkF m 46 #[.val (.int (14 : Int32)), .val (.int (6 : Int32)), .val (.int (14 : Int32))] []))
  refine Go.by (fun _ => XS.iloadN X0.here hx rfl (hb hby d7_46) rfl) ?_
  show Go p.tables e below _ (T0.setTop (mkF m 47 #[.val (.int (14 : Int32)), .val (.int (6 : Int32)), .val (.int (14 : Int32))] [(.int (6 : Int32))]))
  refine Go.by (fun _ => XS.ifYes X0.here hx rfl (pc0 := 47) (pc' := 59) rfl (hb hby d7_47) rfl ((if0 _ _).trans (flt (by decide)).2.1) (by decide) (by decide)) ?_
  show Go p.tables e below _ (T0.setTop (mkF m 59 #[.val (.int (14 : Int32)), .val (.int (6 : Int32)), .val (.int (14 : Int32))] []))
  refine Go.by (fun _ => XS.iloadN X0.here hx rfl (hb hby d7_59) rfl) ?_
  show Go p.tables e below _ (T0.setTop (mkF m 60 #[.val (.int (14 : Int32)), .val (.int (6 : Int32)), .val (.int (14 : Int32))] [(.int (14 : Int32))]))
  refine Go.by (fun _ => XS.iloadN X0.here hx rfl (hb hby d7_60) rfl) ?_
  show Go p.tables e below _ (T0.setTop (mkF m 61 #[.val (.int (14 : Int32)), .val (.int (6 : Int32)), .val (.int (14 : Int32))] [(.int (14 : Int32)), (.int (14 : Int32))]))
  refine Go.by (fun _ => XS.icmpYes X0.here hx rfl (pc0 := 61) (pc' := 73) rfl (hb hby d7_61) rfl (flt (by decide)).2.2.2 (by decide) (by decide)) ?_
  show Go p.tables e below _ (T0.setTop (mkF m 73 #[.val (.int (14 : Int32)), .val (.int (6 : Int32)), .val (.int (14 : Int32))] []))
  exact Go.ret0 X0 hx hlk hret (hb hby d7_73) (by decide) (by decide) ⟨rfl, rfl⟩
abbrev Rm4_6 : Room := { frames := 1, cells := 1, slots := 16, locals := 18 }
set_option maxRecDepth 65536 in
set_option maxHeartbeats 40000000 in
theorem rm4_6 (l : Launch) (Z : State) (a0 : Array Value) (hw : ∀ d ∈ tables_1, d.before a0 Z = true) (ws : List Jvm.Cond) (a1 : Addr) (kc : ClassId) (fi : Nat → Int32) (h0 : Heap) (n0 : Nat) (Z0 : n0 ≤ h0.size) (V_a : Avf Z h0 a1 kc .byte 6 (fun t => (.int (fi t)))) :
    Met l Z n0 (⟨"java/util/Arrays", "copyOf", "([BI)[B"⟩ : MethodName) jdk_65_method_121_code 3 (some (.array .byte)) ws Rm4_6 #[(.ref a1), (.int (14 : Int32))] h0 (fun v h => ∃ r kr, v = some (.ref r) ∧ h0.size ≤ r ∧ Keep h0 h [] ∧ Avf Z h r kr .byte (6 + 8) (fun t => (.int (if t < 6 then fi t else 0)))) := by
  refine enter (Ls := #[.val (.ref a1), .val (.int (14 : Int32)), .unset]) (plainFor_of_name pn1) (fun m => by first | (simp [entryFrame, mkF, argsToLocals, Value.category]; done) | rfl) ?_
  intro p e s m below meth c T0 hx hby hml hown hnm hret hlk hZ X0
  have K0 := Keep.refl h0 []
  show Go p.tables e below _ (T0.setTop (mkF m 0 #[.val (.ref a1), .val (.int (14 : Int32)), .unset] []))
  refine Go.by (fun _ => XS.iloadN X0.here hx rfl (hb hby d4_0) rfl) ?_
  show Go p.tables e below _ (T0.setTop (mkF m 1 #[.val (.ref a1), .val (.int (14 : Int32)), .unset] [(.int (14 : Int32))]))
  refine Go.by (fun _ => XS.aloadN X0.here hx rfl (hb hby d4_1) rfl rfl) ?_
  show Go p.tables e below _ (T0.setTop (mkF m 2 #[.val (.ref a1), .val (.int (14 : Int32)), .unset] [(.ref a1), (.int (14 : Int32))]))
  refine Go.by (X0.len hx hZ V_a (z := (6 : Int32)) rfl (g := (mkF m 2 #[.val (.ref a1), .val (.int (14 : Int32)), .unset] [(.ref a1), (.int (14 : Int32))])) rfl rfl (hb hby d4_2)) ?_
  show Go p.tables e below _ (T0.setTop (mkF m 3 #[.val (.ref a1), .val (.int (14 : Int32)), .unset] [(.int (6 : Int32)), (.int (14 : Int32))]))
  refine Go.by (fun _ => XS.icmpYes X0.here hx rfl (pc0 := 3) (pc' := 14) rfl (hb hby d4_3) rfl (feq (by decide)).2 (by decide) (by decide)) ?_
  show Go p.tables e below _ (T0.setTop (mkF m 14 #[.val (.ref a1), .val (.int (14 : Int32)), .unset] []))
  refine Go.by (fun _ => XS.iloadN X0.here hx rfl (hb hby d4_14) rfl) ?_
  show Go p.tables e below _ (T0.setTop (mkF m 15 #[.val (.ref a1), .val (.int (14 : Int32)), .unset] [(.int (14 : Int32))]))
  obtain ⟨T1, h1, kc1, b1, X1, g1, E1, A1, V1, st1⟩ := X0.newP hx hZ (tw hw 1 rfl) (g := (mkF m 15 #[.val (.ref a1), .val (.int (14 : Int32)), .unset] [(.int (14 : Int32))])) rfl (hb hby d4_15) rfl (by decide) (sz := 14) (cap := 16) (k' := 1) (n' := 16) rfl (by decide) (by decide) rfl rfl (by decide) (by decide) (ad := "[B") (by decide)
  have g_b1 : n0 ≤ b1 := by rw [g1]; exact Z0
  have sz_b1 : h0.size ≤ b1 := by rw [g1]; exact K0.1
  have ne_a1_b1 : a1 ≠ b1 := Nat.ne_of_lt (by rw [g1]; exact V_a.lt)
  have f2_16 := Avf.ext V_a E1
  have f2_17 := K0.ext E1
  have Zs2 : n0 ≤ h1.size := Nat.le_trans Z0 E1.1
  refine Go.by st1 ?_
  show Go p.tables e below _ (T1.setTop (mkF m 17 #[.val (.ref a1), .val (.int (14 : Int32)), .unset] [(.ref b1)]))
  refine Go.by (fun _ => XS.astoreN X1.here hx rfl (hb hby d4_17) rfl rfl (l' := #[.val (.ref a1), .val (.int (14 : Int32)), .val (.ref b1)]) rfl) ?_
  show Go p.tables e below _ (T1.setTop (mkF m 18 #[.val (.ref a1), .val (.int (14 : Int32)), .val (.ref b1)] []))
  refine Go.by (fun _ => XS.aloadN X1.here hx rfl (hb hby d4_18) rfl rfl) ?_
  show Go p.tables e below _ (T1.setTop (mkF m 19 #[.val (.ref a1), .val (.int (14 : Int32)), .val (.ref b1)] [(.ref a1)]))
  refine Go.by (fun _ => XS.iconst X1.here hx rfl (hb hby d4_19)) ?_
  show Go p.tables e below _ (T1.setTop (mkF m 20 #[.val (.ref a1), .val (.int (14 : Int32)), .val (.ref b1)] [(.int (0 : Int32)), (.ref a1)]))
  refine Go.by (fun _ => XS.aloadN X1.here hx rfl (hb hby d4_20) rfl rfl) ?_
  show Go p.tables e below _ (T1.setTop (mkF m 21 #[.val (.ref a1), .val (.int (14 : Int32)), .val (.ref b1)] [(.ref b1), (.int (0 : Int32)), (.ref a1)]))
  refine Go.by (fun _ => XS.iconst X1.here hx rfl (hb hby d4_21)) ?_
  show Go p.tables e below _ (T1.setTop (mkF m 22 #[.val (.ref a1), .val (.int (14 : Int32)), .val (.ref b1)] [(.int (0 : Int32)), (.ref b1), (.int (0 : Int32)), (.ref a1)]))
  refine Go.by (fun _ => XS.aloadN X1.here hx rfl (hb hby d4_22) rfl rfl) ?_
  show Go p.tables e below _ (T1.setTop (mkF m 23 #[.val (.ref a1), .val (.int (14 : Int32)), .val (.ref b1)] [(.ref a1), (.int (0 : Int32)), (.ref b1), (.int (0 : Int32)), (.ref a1)]))
  refine Go.by (X1.len hx hZ f2_16 (z := (6 : Int32)) rfl (g := (mkF m 23 #[.val (.ref a1), .val (.int (14 : Int32)), .val (.ref b1)] [(.ref a1), (.int (0 : Int32)), (.ref b1), (.int (0 : Int32)), (.ref a1)])) rfl rfl (hb hby d4_23)) ?_
  show Go p.tables e below _ (T1.setTop (mkF m 24 #[.val (.ref a1), .val (.int (14 : Int32)), .val (.ref b1)] [(.int (6 : Int32)), (.int (0 : Int32)), (.ref b1), (.int (0 : Int32)), (.ref a1)]))
  refine Go.by (fun _ => XS.iloadN X1.here hx rfl (hb hby d4_24) rfl) ?_
  show Go p.tables e below _ (T1.setTop (mkF m 25 #[.val (.ref a1), .val (.int (14 : Int32)), .val (.ref b1)] [(.int (14 : Int32)), (.int (6 : Int32)), (.int (0 : Int32)), (.ref b1), (.int (0 : Int32)), (.ref a1)]))
  obtain ⟨v3, T3, h3, X3, q3, st3⟩ := X1.callS hx hZ (y := (⟨"java/lang/Math", "min", "(II)I"⟩ : MethodName)) hown (tw hw 17 rfl) (tw hw 18 rfl) (tw hw 19 rfl) (tw hw 20 rfl) (by decide) (rm5_6 l Z a0 hw [] h1 n0 Zs2) (g := (mkF m 25 #[.val (.ref a1), .val (.int (14 : Int32)), .val (.ref b1)] [(.int (14 : Int32)), (.int (6 : Int32)), (.int (0 : Int32)), (.ref b1), (.int (0 : Int32)), (.ref a1)])) rfl (by rw [hml]; rfl) (argsL := [(.int (6 : Int32)), (.int (14 : Int32))]) (rest := [(.int (0 : Int32)), (.ref b1), (.int (0 : Int32)), (.ref a1)]) (lenOf pd1 rfl) rfl (hb hby d4_25) rfl (by decide) (Nat.le_of_ble_eq_true rfl) (k' := 1) (n' := 16) rfl rfl (by decide) (by decide)
  refine Go.by st3 ?_
  obtain ⟨rfl, rfl⟩ := q3
  show Go p.tables e below _ (T3.setTop (mkF m 28 #[.val (.ref a1), .val (.int (14 : Int32)), .val (.ref b1)] [(.int (6 : Int32)), (.int (0 : Int32)), (.ref b1), (.int (0 : Int32)), (.ref a1)]))
  obtain ⟨T4, h4, X4, K4, V4, st4⟩ := X3.acopy hx hZ hown (tw hw 21 rfl) (tw hw 24 rfl) (tw hw 22 rfl) (tw hw 23 rfl) f2_16 V1 rfl g_b1 (by decide) (by decide) (by decide) (i := 0) (j := 0) (cc := 6) rfl rfl rfl (by decide) (by decide) (g := (mkF m 28 #[.val (.ref a1), .val (.int (14 : Int32)), .val (.ref b1)] [(.int (6 : Int32)), (.int (0 : Int32)), (.ref b1), (.int (0 : Int32)), (.ref a1)])) rfl (by rw [hml]; rfl) rfl (hb hby d4_28) (by decide) (Nat.le_of_ble_eq_true rfl)
  have f5_42 := Avf.keep f2_16 K4 (ninS ne_a1_b1 nin0)
  have f5_43 := f2_17.trans K4 (allS (Or.inr sz_b1) all0)
  have f5_44 := A1.keep K4
  have Zs5 : n0 ≤ h4.size := Nat.le_trans Zs2 K4.1
  refine Go.by st4 ?_
  show Go p.tables e below _ (T4.setTop (mkF m 31 #[.val (.ref a1), .val (.int (14 : Int32)), .val (.ref b1)] []))
  refine Go.by (fun _ => XS.aloadN X4.here hx rfl (hb hby d4_31) rfl rfl) ?_
  show Go p.tables e below _ (T4.setTop (mkF m 32 #[.val (.ref a1), .val (.int (14 : Int32)), .val (.ref b1)] [(.ref b1)]))
  refine Go.retA X4 hx hlk hret rfl rfl (hb hby d4_32) (by decide) (by decide) ?_
  refine ⟨b1, kc1, rfl, sz_b1, f5_43, Avf.cong V4 (fun i hi => ?_)⟩
  by_cases q : i < 6 <;> first | (simp [q]; done) | (simp [q]; rfl)
abbrev Rm6_6 : Room := { frames := 1, cells := 0, slots := 0, locals := 14 }
set_option maxRecDepth 65536 in
set_option maxHeartbeats 40000000 in
theorem rm6_6 (l : Launch) (Z : State) (a0 : Array Value) (hw : ∀ d ∈ tables_1, d.before a0 Z = true) (ws : List Jvm.Cond) (a1 : Addr) (kc : ClassId) (fi : Nat → Int32) (h0 : Heap) (n0 : Nat) (Z0 : n0 ≤ h0.size) (g_a1 : n0 ≤ a1) (V_a : Avf Z h0 a1 kc .byte 14 (fun t => (.int (fi t)))) :
    Met l Z n0 (⟨"java/util/Arrays", "fill", "([BIIB)V"⟩ : MethodName) jdk_65_method_110_code 5 none ws Rm6_6 #[(.ref a1), (.int (6 : Int32)), (.int (14 : Int32)), (.int (-1 : Int32))] h0 (fun v h => v = none ∧ Keep h0 h [a1] ∧ Avf Z h a1 kc .byte 14 (fun t => (.int (if t < 6 then fi t else -1)))) := by
  refine enter (Ls := #[.val (.ref a1), .val (.int (6 : Int32)), .val (.int (14 : Int32)), .val (.int (-1 : Int32)), .unset]) (plainFor_of_name pn1) (fun m => by first | (simp [entryFrame, mkF, argsToLocals, Value.category]; done) | rfl) ?_
  intro p e s m below meth c T0 hx hby hml hown hnm hret hlk hZ X0
  have K0 := Keep.refl h0 [a1]
  show Go p.tables e below _ (T0.setTop (mkF m 0 #[.val (.ref a1), .val (.int (6 : Int32)), .val (.int (14 : Int32)), .val (.int (-1 : Int32)), .unset] []))
  refine Go.by (fun _ => XS.aloadN X0.here hx rfl (hb hby d6_0) rfl rfl) ?_
  show Go p.tables e below _ (T0.setTop (mkF m 1 #[.val (.ref a1), .val (.int (6 : Int32)), .val (.int (14 : Int32)), .val (.int (-1 : Int32)), .unset] [(.ref a1)]))
  refine Go.by (X0.len hx hZ V_a (z := (14 : Int32)) rfl (g := (mkF m 1 #[.val (.ref a1), .val (.int (6 : Int32)), .val (.int (14 : Int32)), .val (.int (-1 : Int32)), .unset] [(.ref a1)])) rfl rfl (hb hby d6_1)) ?_
  show Go p.tables e below _ (T0.setTop (mkF m 2 #[.val (.ref a1), .val (.int (6 : Int32)), .val (.int (14 : Int32)), .val (.int (-1 : Int32)), .unset] [(.int (14 : Int32))]))
  refine Go.by (fun _ => XS.iloadN X0.here hx rfl (hb hby d6_2) rfl) ?_
  show Go p.tables e below _ (T0.setTop (mkF m 3 #[.val (.ref a1), .val (.int (6 : Int32)), .val (.int (14 : Int32)), .val (.int (-1 : Int32)), .unset] [(.int (6 : Int32)), (.int (14 : Int32))]))
  refine Go.by (fun _ => XS.iloadN X0.here hx rfl (hb hby d6_3) rfl) ?_
  show Go p.tables e below _ (T0.setTop (mkF m 4 #[.val (.ref a1), .val (.int (6 : Int32)), .val (.int (14 : Int32)), .val (.int (-1 : Int32)), .unset] [(.int (14 : Int32)), (.int (6 : Int32)), (.int (14 : Int32))]))
  obtain ⟨v1, T1, h1, X1, q1, st1⟩ := X0.callS hx hZ (y := (⟨"java/util/Arrays", "rangeCheck", "(III)V"⟩ : MethodName)) hown (tw hw 28 rfl) (tw hw 29 rfl) (tw hw 15 rfl) (tw hw 30 rfl) (by decide) (rm7_6 l Z a0 hw [] h0 n0 Z0) (g := (mkF m 4 #[.val (.ref a1), .val (.int (6 : Int32)), .val (.int (14 : Int32)), .val (.int (-1 : Int32)), .unset] [(.int (14 : Int32)), (.int (6 : Int32)), (.int (14 : Int32))])) rfl (by rw [hml]; rfl) (argsL := [(.int (14 : Int32)), (.int (6 : Int32)), (.int (14 : Int32))]) (rest := []) (lenOf pd2 rfl) rfl (hb hby d6_4) rfl (by decide) (Nat.le_of_ble_eq_true rfl) (k' := 0) (n' := 0) rfl rfl (by decide) (by decide)
  refine Go.by st1 ?_
  obtain ⟨rfl, rfl⟩ := q1
  show Go p.tables e below _ (T1.setTop (mkF m 7 #[.val (.ref a1), .val (.int (6 : Int32)), .val (.int (14 : Int32)), .val (.int (-1 : Int32)), .unset] []))
  refine Go.by (fun _ => XS.iloadN X1.here hx rfl (hb hby d6_7) rfl) ?_
  show Go p.tables e below _ (T1.setTop (mkF m 8 #[.val (.ref a1), .val (.int (6 : Int32)), .val (.int (14 : Int32)), .val (.int (-1 : Int32)), .unset] [(.int (6 : Int32))]))
  refine Go.by (fun _ => XS.istore X1.here hx rfl (hb hby d6_8) rfl (l' := #[.val (.ref a1), .val (.int (6 : Int32)), .val (.int (14 : Int32)), .val (.int (-1 : Int32)), .val (.int (6 : Int32))]) rfl) ?_
  show Go p.tables e below _ (T1.setTop (mkF m 10 #[.val (.ref a1), .val (.int (6 : Int32)), .val (.int (14 : Int32)), .val (.int (-1 : Int32)), .val (.int (6 : Int32))] []))
  refine Go.by (fun _ => XS.iload X1.here hx rfl (hb hby d6_10) rfl) ?_
  show Go p.tables e below _ (T1.setTop (mkF m 12 #[.val (.ref a1), .val (.int (6 : Int32)), .val (.int (14 : Int32)), .val (.int (-1 : Int32)), .val (.int (6 : Int32))] [(.int (6 : Int32))]))
  refine Go.by (fun _ => XS.iloadN X1.here hx rfl (hb hby d6_12) rfl) ?_
  show Go p.tables e below _ (T1.setTop (mkF m 13 #[.val (.ref a1), .val (.int (6 : Int32)), .val (.int (14 : Int32)), .val (.int (-1 : Int32)), .val (.int (6 : Int32))] [(.int (14 : Int32)), (.int (6 : Int32))]))
  refine Go.by (fun _ => XS.icmpNo X1.here hx rfl (hb hby d6_13) rfl (tlt (by decide)).2.1) ?_
  show Go p.tables e below _ (T1.setTop (mkF m 16 #[.val (.ref a1), .val (.int (6 : Int32)), .val (.int (14 : Int32)), .val (.int (-1 : Int32)), .val (.int (6 : Int32))] []))
  refine Go.by (fun _ => XS.aloadN X1.here hx rfl (hb hby d6_16) rfl rfl) ?_
  show Go p.tables e below _ (T1.setTop (mkF m 17 #[.val (.ref a1), .val (.int (6 : Int32)), .val (.int (14 : Int32)), .val (.int (-1 : Int32)), .val (.int (6 : Int32))] [(.ref a1)]))
  refine Go.by (fun _ => XS.iload X1.here hx rfl (hb hby d6_17) rfl) ?_
  show Go p.tables e below _ (T1.setTop (mkF m 19 #[.val (.ref a1), .val (.int (6 : Int32)), .val (.int (14 : Int32)), .val (.int (-1 : Int32)), .val (.int (6 : Int32))] [(.int (6 : Int32)), (.ref a1)]))
  refine Go.by (fun _ => XS.iloadN X1.here hx rfl (hb hby d6_19) rfl) ?_
  show Go p.tables e below _ (T1.setTop (mkF m 20 #[.val (.ref a1), .val (.int (6 : Int32)), .val (.int (14 : Int32)), .val (.int (-1 : Int32)), .val (.int (6 : Int32))] [(.int (-1 : Int32)), (.int (6 : Int32)), (.ref a1)]))
  obtain ⟨T2, h2, X2, W2, V2, st2⟩ := X1.stB hx hZ V_a g_a1 (by decide) (i := 6) rfl (by decide) (g := (mkF m 20 #[.val (.ref a1), .val (.int (6 : Int32)), .val (.int (14 : Int32)), .val (.int (-1 : Int32)), .val (.int (6 : Int32))] [(.int (-1 : Int32)), (.int (6 : Int32)), (.ref a1)])) rfl rfl (hb hby d6_20)
  have f3_31 := K0.wr W2 (Or.inl (List.mem_of_getElem? (i := 0) rfl))
  have Zs3 : n0 ≤ h2.size := by rw [W2.size]; exact Z0
  refine Go.by st2 ?_
  show Go p.tables e below _ (T2.setTop (mkF m 21 #[.val (.ref a1), .val (.int (6 : Int32)), .val (.int (14 : Int32)), .val (.int (-1 : Int32)), .val (.int (6 : Int32))] []))
  refine Go.by (fun _ => XS.iinc X2.here hx rfl (hb hby d6_21) rfl (l' := #[.val (.ref a1), .val (.int (6 : Int32)), .val (.int (14 : Int32)), .val (.int (-1 : Int32)), .val (.int (7 : Int32))]) rfl) ?_
  show Go p.tables e below _ (T2.setTop (mkF m 24 #[.val (.ref a1), .val (.int (6 : Int32)), .val (.int (14 : Int32)), .val (.int (-1 : Int32)), .val (.int (7 : Int32))] []))
  refine Go.by (fun _ => XS.goto X2.here hx rfl (pc0 := 24) (pc' := 10) rfl (hb hby d6_24) (by decide) (by decide)) ?_
  show Go p.tables e below _ (T2.setTop (mkF m 10 #[.val (.ref a1), .val (.int (6 : Int32)), .val (.int (14 : Int32)), .val (.int (-1 : Int32)), .val (.int (7 : Int32))] []))
  refine Go.by (fun _ => XS.iload X2.here hx rfl (hb hby d6_10) rfl) ?_
  show Go p.tables e below _ (T2.setTop (mkF m 12 #[.val (.ref a1), .val (.int (6 : Int32)), .val (.int (14 : Int32)), .val (.int (-1 : Int32)), .val (.int (7 : Int32))] [(.int (7 : Int32))]))
  refine Go.by (fun _ => XS.iloadN X2.here hx rfl (hb hby d6_12) rfl) ?_
  show Go p.tables e below _ (T2.setTop (mkF m 13 #[.val (.ref a1), .val (.int (6 : Int32)), .val (.int (14 : Int32)), .val (.int (-1 : Int32)), .val (.int (7 : Int32))] [(.int (14 : Int32)), (.int (7 : Int32))]))
  refine Go.by (fun _ => XS.icmpNo X2.here hx rfl (hb hby d6_13) rfl (tlt (by decide)).2.1) ?_
  show Go p.tables e below _ (T2.setTop (mkF m 16 #[.val (.ref a1), .val (.int (6 : Int32)), .val (.int (14 : Int32)), .val (.int (-1 : Int32)), .val (.int (7 : Int32))] []))
  refine Go.by (fun _ => XS.aloadN X2.here hx rfl (hb hby d6_16) rfl rfl) ?_
  show Go p.tables e below _ (T2.setTop (mkF m 17 #[.val (.ref a1), .val (.int (6 : Int32)), .val (.int (14 : Int32)), .val (.int (-1 : Int32)), .val (.int (7 : Int32))] [(.ref a1)]))
  refine Go.by (fun _ => XS.iload X2.here hx rfl (hb hby d6_17) rfl) ?_
  show Go p.tables e below _ (T2.setTop (mkF m 19 #[.val (.ref a1), .val (.int (6 : Int32)), .val (.int (14 : Int32)), .val (.int (-1 : Int32)), .val (.int (7 : Int32))] [(.int (7 : Int32)), (.ref a1)]))
  refine Go.by (fun _ => XS.iloadN X2.here hx rfl (hb hby d6_19) rfl) ?_
  show Go p.tables e below _ (T2.setTop (mkF m 20 #[.val (.ref a1), .val (.int (6 : Int32)), .val (.int (14 : Int32)), .val (.int (-1 : Int32)), .val (.int (7 : Int32))] [(.int (-1 : Int32)), (.int (7 : Int32)), (.ref a1)]))
  obtain ⟨T4, h4, X4, W4, V4, st4⟩ := X2.stB hx hZ V2 g_a1 (by decide) (i := 7) rfl (by decide) (g := (mkF m 20 #[.val (.ref a1), .val (.int (6 : Int32)), .val (.int (14 : Int32)), .val (.int (-1 : Int32)), .val (.int (7 : Int32))] [(.int (-1 : Int32)), (.int (7 : Int32)), (.ref a1)])) rfl rfl (hb hby d6_20)
  have f5_52 := f3_31.wr W4 (Or.inl (List.mem_of_getElem? (i := 0) rfl))
  have Zs5 : n0 ≤ h4.size := by rw [W4.size]; exact Zs3
  refine Go.by st4 ?_
  show Go p.tables e below _ (T4.setTop (mkF m 21 #[.val (.ref a1), .val (.int (6 : Int32)), .val (.int (14 : Int32)), .val (.int (-1 : Int32)), .val (.int (7 : Int32))] []))
  refine Go.by (fun _ => XS.iinc X4.here hx rfl (hb hby d6_21) rfl (l' := #[.val (.ref a1), .val (.int (6 : Int32)), .val (.int (14 : Int32)), .val (.int (-1 : Int32)), .val (.int (8 : Int32))]) rfl) ?_
  show Go p.tables e below _ (T4.setTop (mkF m 24 #[.val (.ref a1), .val (.int (6 : Int32)), .val (.int (14 : Int32)), .val (.int (-1 : Int32)), .val (.int (8 : Int32))] []))
  refine Go.by (fun _ => XS.goto X4.here hx rfl (pc0 := 24) (pc' := 10) rfl (hb hby d6_24) (by decide) (by decide)) ?_
  show Go p.tables e below _ (T4.setTop (mkF m 10 #[.val (.ref a1), .val (.int (6 : Int32)), .val (.int (14 : Int32)), .val (.int (-1 : Int32)), .val (.int (8 : Int32))] []))
  refine Go.by (fun _ => XS.iload X4.here hx rfl (hb hby d6_10) rfl) ?_
  show Go p.tables e below _ (T4.setTop (mkF m 12 #[.val (.ref a1), .val (.int (6 : Int32)), .val (.int (14 : Int32)), .val (.int (-1 : Int32)), .val (.int (8 : Int32))] [(.int (8 : Int32))]))
  refine Go.by (fun _ => XS.iloadN X4.here hx rfl (hb hby d6_12) rfl) ?_
  show Go p.tables e below _ (T4.setTop (mkF m 13 #[.val (.ref a1), .val (.int (6 : Int32)), .val (.int (14 : Int32)), .val (.int (-1 : Int32)), .val (.int (8 : Int32))] [(.int (14 : Int32)), (.int (8 : Int32))]))
  refine Go.by (fun _ => XS.icmpNo X4.here hx rfl (hb hby d6_13) rfl (tlt (by decide)).2.1) ?_
  show Go p.tables e below _ (T4.setTop (mkF m 16 #[.val (.ref a1), .val (.int (6 : Int32)), .val (.int (14 : Int32)), .val (.int (-1 : Int32)), .val (.int (8 : Int32))] []))
  refine Go.by (fun _ => XS.aloadN X4.here hx rfl (hb hby d6_16) rfl rfl) ?_
  show Go p.tables e below _ (T4.setTop (mkF m 17 #[.val (.ref a1), .val (.int (6 : Int32)), .val (.int (14 : Int32)), .val (.int (-1 : Int32)), .val (.int (8 : Int32))] [(.ref a1)]))
  refine Go.by (fun _ => XS.iload X4.here hx rfl (hb hby d6_17) rfl) ?_
  show Go p.tables e below _ (T4.setTop (mkF m 19 #[.val (.ref a1), .val (.int (6 : Int32)), .val (.int (14 : Int32)), .val (.int (-1 : Int32)), .val (.int (8 : Int32))] [(.int (8 : Int32)), (.ref a1)]))
  refine Go.by (fun _ => XS.iloadN X4.here hx rfl (hb hby d6_19) rfl) ?_
  show Go p.tables e below _ (T4.setTop (mkF m 20 #[.val (.ref a1), .val (.int (6 : Int32)), .val (.int (14 : Int32)), .val (.int (-1 : Int32)), .val (.int (8 : Int32))] [(.int (-1 : Int32)), (.int (8 : Int32)), (.ref a1)]))
  obtain ⟨T6, h6, X6, W6, V6, st6⟩ := X4.stB hx hZ V4 g_a1 (by decide) (i := 8) rfl (by decide) (g := (mkF m 20 #[.val (.ref a1), .val (.int (6 : Int32)), .val (.int (14 : Int32)), .val (.int (-1 : Int32)), .val (.int (8 : Int32))] [(.int (-1 : Int32)), (.int (8 : Int32)), (.ref a1)])) rfl rfl (hb hby d6_20)
  have f7_73 := f5_52.wr W6 (Or.inl (List.mem_of_getElem? (i := 0) rfl))
  have Zs7 : n0 ≤ h6.size := by rw [W6.size]; exact Zs5
  refine Go.by st6 ?_
  show Go p.tables e below _ (T6.setTop (mkF m 21 #[.val (.ref a1), .val (.int (6 : Int32)), .val (.int (14 : Int32)), .val (.int (-1 : Int32)), .val (.int (8 : Int32))] []))
  refine Go.by (fun _ => XS.iinc X6.here hx rfl (hb hby d6_21) rfl (l' := #[.val (.ref a1), .val (.int (6 : Int32)), .val (.int (14 : Int32)), .val (.int (-1 : Int32)), .val (.int (9 : Int32))]) rfl) ?_
  show Go p.tables e below _ (T6.setTop (mkF m 24 #[.val (.ref a1), .val (.int (6 : Int32)), .val (.int (14 : Int32)), .val (.int (-1 : Int32)), .val (.int (9 : Int32))] []))
  refine Go.by (fun _ => XS.goto X6.here hx rfl (pc0 := 24) (pc' := 10) rfl (hb hby d6_24) (by decide) (by decide)) ?_
  show Go p.tables e below _ (T6.setTop (mkF m 10 #[.val (.ref a1), .val (.int (6 : Int32)), .val (.int (14 : Int32)), .val (.int (-1 : Int32)), .val (.int (9 : Int32))] []))
  refine Go.by (fun _ => XS.iload X6.here hx rfl (hb hby d6_10) rfl) ?_
  show Go p.tables e below _ (T6.setTop (mkF m 12 #[.val (.ref a1), .val (.int (6 : Int32)), .val (.int (14 : Int32)), .val (.int (-1 : Int32)), .val (.int (9 : Int32))] [(.int (9 : Int32))]))
  refine Go.by (fun _ => XS.iloadN X6.here hx rfl (hb hby d6_12) rfl) ?_
  show Go p.tables e below _ (T6.setTop (mkF m 13 #[.val (.ref a1), .val (.int (6 : Int32)), .val (.int (14 : Int32)), .val (.int (-1 : Int32)), .val (.int (9 : Int32))] [(.int (14 : Int32)), (.int (9 : Int32))]))
  refine Go.by (fun _ => XS.icmpNo X6.here hx rfl (hb hby d6_13) rfl (tlt (by decide)).2.1) ?_
  show Go p.tables e below _ (T6.setTop (mkF m 16 #[.val (.ref a1), .val (.int (6 : Int32)), .val (.int (14 : Int32)), .val (.int (-1 : Int32)), .val (.int (9 : Int32))] []))
  refine Go.by (fun _ => XS.aloadN X6.here hx rfl (hb hby d6_16) rfl rfl) ?_
  show Go p.tables e below _ (T6.setTop (mkF m 17 #[.val (.ref a1), .val (.int (6 : Int32)), .val (.int (14 : Int32)), .val (.int (-1 : Int32)), .val (.int (9 : Int32))] [(.ref a1)]))
  refine Go.by (fun _ => XS.iload X6.here hx rfl (hb hby d6_17) rfl) ?_
  show Go p.tables e below _ (T6.setTop (mkF m 19 #[.val (.ref a1), .val (.int (6 : Int32)), .val (.int (14 : Int32)), .val (.int (-1 : Int32)), .val (.int (9 : Int32))] [(.int (9 : Int32)), (.ref a1)]))
  refine Go.by (fun _ => XS.iloadN X6.here hx rfl (hb hby d6_19) rfl) ?_
  show Go p.tables e below _ (T6.setTop (mkF m 20 #[.val (.ref a1), .val (.int (6 : Int32)), .val (.int (14 : Int32)), .val (.int (-1 : Int32)), .val (.int (9 : Int32))] [(.int (-1 : Int32)), (.int (9 : Int32)), (.ref a1)]))
  obtain ⟨T8, h8, X8, W8, V8, st8⟩ := X6.stB hx hZ V6 g_a1 (by decide) (i := 9) rfl (by decide) (g := (mkF m 20 #[.val (.ref a1), .val (.int (6 : Int32)), .val (.int (14 : Int32)), .val (.int (-1 : Int32)), .val (.int (9 : Int32))] [(.int (-1 : Int32)), (.int (9 : Int32)), (.ref a1)])) rfl rfl (hb hby d6_20)
  have f9_94 := f7_73.wr W8 (Or.inl (List.mem_of_getElem? (i := 0) rfl))
  have Zs9 : n0 ≤ h8.size := by rw [W8.size]; exact Zs7
  refine Go.by st8 ?_
  show Go p.tables e below _ (T8.setTop (mkF m 21 #[.val (.ref a1), .val (.int (6 : Int32)), .val (.int (14 : Int32)), .val (.int (-1 : Int32)), .val (.int (9 : Int32))] []))
  refine Go.by (fun _ => XS.iinc X8.here hx rfl (hb hby d6_21) rfl (l' := #[.val (.ref a1), .val (.int (6 : Int32)), .val (.int (14 : Int32)), .val (.int (-1 : Int32)), .val (.int (10 : Int32))]) rfl) ?_
  show Go p.tables e below _ (T8.setTop (mkF m 24 #[.val (.ref a1), .val (.int (6 : Int32)), .val (.int (14 : Int32)), .val (.int (-1 : Int32)), .val (.int (10 : Int32))] []))
  refine Go.by (fun _ => XS.goto X8.here hx rfl (pc0 := 24) (pc' := 10) rfl (hb hby d6_24) (by decide) (by decide)) ?_
  show Go p.tables e below _ (T8.setTop (mkF m 10 #[.val (.ref a1), .val (.int (6 : Int32)), .val (.int (14 : Int32)), .val (.int (-1 : Int32)), .val (.int (10 : Int32))] []))
  refine Go.by (fun _ => XS.iload X8.here hx rfl (hb hby d6_10) rfl) ?_
  show Go p.tables e below _ (T8.setTop (mkF m 12 #[.val (.ref a1), .val (.int (6 : Int32)), .val (.int (14 : Int32)), .val (.int (-1 : Int32)), .val (.int (10 : Int32))] [(.int (10 : Int32))]))
  refine Go.by (fun _ => XS.iloadN X8.here hx rfl (hb hby d6_12) rfl) ?_
  show Go p.tables e below _ (T8.setTop (mkF m 13 #[.val (.ref a1), .val (.int (6 : Int32)), .val (.int (14 : Int32)), .val (.int (-1 : Int32)), .val (.int (10 : Int32))] [(.int (14 : Int32)), (.int (10 : Int32))]))
  refine Go.by (fun _ => XS.icmpNo X8.here hx rfl (hb hby d6_13) rfl (tlt (by decide)).2.1) ?_
  show Go p.tables e below _ (T8.setTop (mkF m 16 #[.val (.ref a1), .val (.int (6 : Int32)), .val (.int (14 : Int32)), .val (.int (-1 : Int32)), .val (.int (10 : Int32))] []))
  refine Go.by (fun _ => XS.aloadN X8.here hx rfl (hb hby d6_16) rfl rfl) ?_
  show Go p.tables e below _ (T8.setTop (mkF m 17 #[.val (.ref a1), .val (.int (6 : Int32)), .val (.int (14 : Int32)), .val (.int (-1 : Int32)), .val (.int (10 : Int32))] [(.ref a1)]))
  refine Go.by (fun _ => XS.iload X8.here hx rfl (hb hby d6_17) rfl) ?_
  show Go p.tables e below _ (T8.setTop (mkF m 19 #[.val (.ref a1), .val (.int (6 : Int32)), .val (.int (14 : Int32)), .val (.int (-1 : Int32)), .val (.int (10 : Int32))] [(.int (10 : Int32)), (.ref a1)]))
  refine Go.by (fun _ => XS.iloadN X8.here hx rfl (hb hby d6_19) rfl) ?_
  show Go p.tables e below _ (T8.setTop (mkF m 20 #[.val (.ref a1), .val (.int (6 : Int32)), .val (.int (14 : Int32)), .val (.int (-1 : Int32)), .val (.int (10 : Int32))] [(.int (-1 : Int32)), (.int (10 : Int32)), (.ref a1)]))
  obtain ⟨T10, h10, X10, W10, V10, st10⟩ := X8.stB hx hZ V8 g_a1 (by decide) (i := 10) rfl (by decide) (g := (mkF m 20 #[.val (.ref a1), .val (.int (6 : Int32)), .val (.int (14 : Int32)), .val (.int (-1 : Int32)), .val (.int (10 : Int32))] [(.int (-1 : Int32)), (.int (10 : Int32)), (.ref a1)])) rfl rfl (hb hby d6_20)
  have f11_115 := f9_94.wr W10 (Or.inl (List.mem_of_getElem? (i := 0) rfl))
  have Zs11 : n0 ≤ h10.size := by rw [W10.size]; exact Zs9
  refine Go.by st10 ?_
  show Go p.tables e below _ (T10.setTop (mkF m 21 #[.val (.ref a1), .val (.int (6 : Int32)), .val (.int (14 : Int32)), .val (.int (-1 : Int32)), .val (.int (10 : Int32))] []))
  refine Go.by (fun _ => XS.iinc X10.here hx rfl (hb hby d6_21) rfl (l' := #[.val (.ref a1), .val (.int (6 : Int32)), .val (.int (14 : Int32)), .val (.int (-1 : Int32)), .val (.int (11 : Int32))]) rfl) ?_
  show Go p.tables e below _ (T10.setTop (mkF m 24 #[.val (.ref a1), .val (.int (6 : Int32)), .val (.int (14 : Int32)), .val (.int (-1 : Int32)), .val (.int (11 : Int32))] []))
  refine Go.by (fun _ => XS.goto X10.here hx rfl (pc0 := 24) (pc' := 10) rfl (hb hby d6_24) (by decide) (by decide)) ?_
  show Go p.tables e below _ (T10.setTop (mkF m 10 #[.val (.ref a1), .val (.int (6 : Int32)), .val (.int (14 : Int32)), .val (.int (-1 : Int32)), .val (.int (11 : Int32))] []))
  refine Go.by (fun _ => XS.iload X10.here hx rfl (hb hby d6_10) rfl) ?_
  show Go p.tables e below _ (T10.setTop (mkF m 12 #[.val (.ref a1), .val (.int (6 : Int32)), .val (.int (14 : Int32)), .val (.int (-1 : Int32)), .val (.int (11 : Int32))] [(.int (11 : Int32))]))
  refine Go.by (fun _ => XS.iloadN X10.here hx rfl (hb hby d6_12) rfl) ?_
  show Go p.tables e below _ (T10.setTop (mkF m 13 #[.val (.ref a1), .val (.int (6 : Int32)), .val (.int (14 : Int32)), .val (.int (-1 : Int32)), .val (.int (11 : Int32))] [(.int (14 : Int32)), (.int (11 : Int32))]))
  refine Go.by (fun _ => XS.icmpNo X10.here hx rfl (hb hby d6_13) rfl (tlt (by decide)).2.1) ?_
  show Go p.tables e below _ (T10.setTop (mkF m 16 #[.val (.ref a1), .val (.int (6 : Int32)), .val (.int (14 : Int32)), .val (.int (-1 : Int32)), .val (.int (11 : Int32))] []))
  refine Go.by (fun _ => XS.aloadN X10.here hx rfl (hb hby d6_16) rfl rfl) ?_
  show Go p.tables e below _ (T10.setTop (mkF m 17 #[.val (.ref a1), .val (.int (6 : Int32)), .val (.int (14 : Int32)), .val (.int (-1 : Int32)), .val (.int (11 : Int32))] [(.ref a1)]))
  refine Go.by (fun _ => XS.iload X10.here hx rfl (hb hby d6_17) rfl) ?_
  show Go p.tables e below _ (T10.setTop (mkF m 19 #[.val (.ref a1), .val (.int (6 : Int32)), .val (.int (14 : Int32)), .val (.int (-1 : Int32)), .val (.int (11 : Int32))] [(.int (11 : Int32)), (.ref a1)]))
  refine Go.by (fun _ => XS.iloadN X10.here hx rfl (hb hby d6_19) rfl) ?_
  show Go p.tables e below _ (T10.setTop (mkF m 20 #[.val (.ref a1), .val (.int (6 : Int32)), .val (.int (14 : Int32)), .val (.int (-1 : Int32)), .val (.int (11 : Int32))] [(.int (-1 : Int32)), (.int (11 : Int32)), (.ref a1)]))
  obtain ⟨T12, h12, X12, W12, V12, st12⟩ := X10.stB hx hZ V10 g_a1 (by decide) (i := 11) rfl (by decide) (g := (mkF m 20 #[.val (.ref a1), .val (.int (6 : Int32)), .val (.int (14 : Int32)), .val (.int (-1 : Int32)), .val (.int (11 : Int32))] [(.int (-1 : Int32)), (.int (11 : Int32)), (.ref a1)])) rfl rfl (hb hby d6_20)
  have f13_136 := f11_115.wr W12 (Or.inl (List.mem_of_getElem? (i := 0) rfl))
  have Zs13 : n0 ≤ h12.size := by rw [W12.size]; exact Zs11
  refine Go.by st12 ?_
  show Go p.tables e below _ (T12.setTop (mkF m 21 #[.val (.ref a1), .val (.int (6 : Int32)), .val (.int (14 : Int32)), .val (.int (-1 : Int32)), .val (.int (11 : Int32))] []))
  refine Go.by (fun _ => XS.iinc X12.here hx rfl (hb hby d6_21) rfl (l' := #[.val (.ref a1), .val (.int (6 : Int32)), .val (.int (14 : Int32)), .val (.int (-1 : Int32)), .val (.int (12 : Int32))]) rfl) ?_
  show Go p.tables e below _ (T12.setTop (mkF m 24 #[.val (.ref a1), .val (.int (6 : Int32)), .val (.int (14 : Int32)), .val (.int (-1 : Int32)), .val (.int (12 : Int32))] []))
  refine Go.by (fun _ => XS.goto X12.here hx rfl (pc0 := 24) (pc' := 10) rfl (hb hby d6_24) (by decide) (by decide)) ?_
  show Go p.tables e below _ (T12.setTop (mkF m 10 #[.val (.ref a1), .val (.int (6 : Int32)), .val (.int (14 : Int32)), .val (.int (-1 : Int32)), .val (.int (12 : Int32))] []))
  refine Go.by (fun _ => XS.iload X12.here hx rfl (hb hby d6_10) rfl) ?_
  show Go p.tables e below _ (T12.setTop (mkF m 12 #[.val (.ref a1), .val (.int (6 : Int32)), .val (.int (14 : Int32)), .val (.int (-1 : Int32)), .val (.int (12 : Int32))] [(.int (12 : Int32))]))
  refine Go.by (fun _ => XS.iloadN X12.here hx rfl (hb hby d6_12) rfl) ?_
  show Go p.tables e below _ (T12.setTop (mkF m 13 #[.val (.ref a1), .val (.int (6 : Int32)), .val (.int (14 : Int32)), .val (.int (-1 : Int32)), .val (.int (12 : Int32))] [(.int (14 : Int32)), (.int (12 : Int32))]))
  refine Go.by (fun _ => XS.icmpNo X12.here hx rfl (hb hby d6_13) rfl (tlt (by decide)).2.1) ?_
  show Go p.tables e below _ (T12.setTop (mkF m 16 #[.val (.ref a1), .val (.int (6 : Int32)), .val (.int (14 : Int32)), .val (.int (-1 : Int32)), .val (.int (12 : Int32))] []))
  refine Go.by (fun _ => XS.aloadN X12.here hx rfl (hb hby d6_16) rfl rfl) ?_
  show Go p.tables e below _ (T12.setTop (mkF m 17 #[.val (.ref a1), .val (.int (6 : Int32)), .val (.int (14 : Int32)), .val (.int (-1 : Int32)), .val (.int (12 : Int32))] [(.ref a1)]))
  refine Go.by (fun _ => XS.iload X12.here hx rfl (hb hby d6_17) rfl) ?_
  show Go p.tables e below _ (T12.setTop (mkF m 19 #[.val (.ref a1), .val (.int (6 : Int32)), .val (.int (14 : Int32)), .val (.int (-1 : Int32)), .val (.int (12 : Int32))] [(.int (12 : Int32)), (.ref a1)]))
  refine Go.by (fun _ => XS.iloadN X12.here hx rfl (hb hby d6_19) rfl) ?_
  show Go p.tables e below _ (T12.setTop (mkF m 20 #[.val (.ref a1), .val (.int (6 : Int32)), .val (.int (14 : Int32)), .val (.int (-1 : Int32)), .val (.int (12 : Int32))] [(.int (-1 : Int32)), (.int (12 : Int32)), (.ref a1)]))
  obtain ⟨T14, h14, X14, W14, V14, st14⟩ := X12.stB hx hZ V12 g_a1 (by decide) (i := 12) rfl (by decide) (g := (mkF m 20 #[.val (.ref a1), .val (.int (6 : Int32)), .val (.int (14 : Int32)), .val (.int (-1 : Int32)), .val (.int (12 : Int32))] [(.int (-1 : Int32)), (.int (12 : Int32)), (.ref a1)])) rfl rfl (hb hby d6_20)
  have f15_157 := f13_136.wr W14 (Or.inl (List.mem_of_getElem? (i := 0) rfl))
  have Zs15 : n0 ≤ h14.size := by rw [W14.size]; exact Zs13
  refine Go.by st14 ?_
  show Go p.tables e below _ (T14.setTop (mkF m 21 #[.val (.ref a1), .val (.int (6 : Int32)), .val (.int (14 : Int32)), .val (.int (-1 : Int32)), .val (.int (12 : Int32))] []))
  refine Go.by (fun _ => XS.iinc X14.here hx rfl (hb hby d6_21) rfl (l' := #[.val (.ref a1), .val (.int (6 : Int32)), .val (.int (14 : Int32)), .val (.int (-1 : Int32)), .val (.int (13 : Int32))]) rfl) ?_
  show Go p.tables e below _ (T14.setTop (mkF m 24 #[.val (.ref a1), .val (.int (6 : Int32)), .val (.int (14 : Int32)), .val (.int (-1 : Int32)), .val (.int (13 : Int32))] []))
  refine Go.by (fun _ => XS.goto X14.here hx rfl (pc0 := 24) (pc' := 10) rfl (hb hby d6_24) (by decide) (by decide)) ?_
  show Go p.tables e below _ (T14.setTop (mkF m 10 #[.val (.ref a1), .val (.int (6 : Int32)), .val (.int (14 : Int32)), .val (.int (-1 : Int32)), .val (.int (13 : Int32))] []))
  refine Go.by (fun _ => XS.iload X14.here hx rfl (hb hby d6_10) rfl) ?_
  show Go p.tables e below _ (T14.setTop (mkF m 12 #[.val (.ref a1), .val (.int (6 : Int32)), .val (.int (14 : Int32)), .val (.int (-1 : Int32)), .val (.int (13 : Int32))] [(.int (13 : Int32))]))
  refine Go.by (fun _ => XS.iloadN X14.here hx rfl (hb hby d6_12) rfl) ?_
  show Go p.tables e below _ (T14.setTop (mkF m 13 #[.val (.ref a1), .val (.int (6 : Int32)), .val (.int (14 : Int32)), .val (.int (-1 : Int32)), .val (.int (13 : Int32))] [(.int (14 : Int32)), (.int (13 : Int32))]))
  refine Go.by (fun _ => XS.icmpNo X14.here hx rfl (hb hby d6_13) rfl (tlt (by decide)).2.1) ?_
  show Go p.tables e below _ (T14.setTop (mkF m 16 #[.val (.ref a1), .val (.int (6 : Int32)), .val (.int (14 : Int32)), .val (.int (-1 : Int32)), .val (.int (13 : Int32))] []))
  refine Go.by (fun _ => XS.aloadN X14.here hx rfl (hb hby d6_16) rfl rfl) ?_
  show Go p.tables e below _ (T14.setTop (mkF m 17 #[.val (.ref a1), .val (.int (6 : Int32)), .val (.int (14 : Int32)), .val (.int (-1 : Int32)), .val (.int (13 : Int32))] [(.ref a1)]))
  refine Go.by (fun _ => XS.iload X14.here hx rfl (hb hby d6_17) rfl) ?_
  show Go p.tables e below _ (T14.setTop (mkF m 19 #[.val (.ref a1), .val (.int (6 : Int32)), .val (.int (14 : Int32)), .val (.int (-1 : Int32)), .val (.int (13 : Int32))] [(.int (13 : Int32)), (.ref a1)]))
  refine Go.by (fun _ => XS.iloadN X14.here hx rfl (hb hby d6_19) rfl) ?_
  show Go p.tables e below _ (T14.setTop (mkF m 20 #[.val (.ref a1), .val (.int (6 : Int32)), .val (.int (14 : Int32)), .val (.int (-1 : Int32)), .val (.int (13 : Int32))] [(.int (-1 : Int32)), (.int (13 : Int32)), (.ref a1)]))
  obtain ⟨T16, h16, X16, W16, V16, st16⟩ := X14.stB hx hZ V14 g_a1 (by decide) (i := 13) rfl (by decide) (g := (mkF m 20 #[.val (.ref a1), .val (.int (6 : Int32)), .val (.int (14 : Int32)), .val (.int (-1 : Int32)), .val (.int (13 : Int32))] [(.int (-1 : Int32)), (.int (13 : Int32)), (.ref a1)])) rfl rfl (hb hby d6_20)
  have f17_178 := f15_157.wr W16 (Or.inl (List.mem_of_getElem? (i := 0) rfl))
  have Zs17 : n0 ≤ h16.size := by rw [W16.size]; exact Zs15
  refine Go.by st16 ?_
  show Go p.tables e below _ (T16.setTop (mkF m 21 #[.val (.ref a1), .val (.int (6 : Int32)), .val (.int (14 : Int32)), .val (.int (-1 : Int32)), .val (.int (13 : Int32))] []))
  refine Go.by (fun _ => XS.iinc X16.here hx rfl (hb hby d6_21) rfl (l' := #[.val (.ref a1), .val (.int (6 : Int32)), .val (.int (14 : Int32)), .val (.int (-1 : Int32)), .val (.int (14 : Int32))]) rfl) ?_
  show Go p.tables e below _ (T16.setTop (mkF m 24 #[.val (.ref a1), .val (.int (6 : Int32)), .val (.int (14 : Int32)), .val (.int (-1 : Int32)), .val (.int (14 : Int32))] []))
  refine Go.by (fun _ => XS.goto X16.here hx rfl (pc0 := 24) (pc' := 10) rfl (hb hby d6_24) (by decide) (by decide)) ?_
  show Go p.tables e below _ (T16.setTop (mkF m 10 #[.val (.ref a1), .val (.int (6 : Int32)), .val (.int (14 : Int32)), .val (.int (-1 : Int32)), .val (.int (14 : Int32))] []))
  refine Go.by (fun _ => XS.iload X16.here hx rfl (hb hby d6_10) rfl) ?_
  show Go p.tables e below _ (T16.setTop (mkF m 12 #[.val (.ref a1), .val (.int (6 : Int32)), .val (.int (14 : Int32)), .val (.int (-1 : Int32)), .val (.int (14 : Int32))] [(.int (14 : Int32))]))
  refine Go.by (fun _ => XS.iloadN X16.here hx rfl (hb hby d6_12) rfl) ?_
  show Go p.tables e below _ (T16.setTop (mkF m 13 #[.val (.ref a1), .val (.int (6 : Int32)), .val (.int (14 : Int32)), .val (.int (-1 : Int32)), .val (.int (14 : Int32))] [(.int (14 : Int32)), (.int (14 : Int32))]))
  refine Go.by (fun _ => XS.icmpYes X16.here hx rfl (pc0 := 13) (pc' := 27) rfl (hb hby d6_13) rfl (flt (by decide)).2.1 (by decide) (by decide)) ?_
  show Go p.tables e below _ (T16.setTop (mkF m 27 #[.val (.ref a1), .val (.int (6 : Int32)), .val (.int (14 : Int32)), .val (.int (-1 : Int32)), .val (.int (14 : Int32))] []))
  refine Go.ret0 X16 hx hlk hret (hb hby d6_27) (by decide) (by decide) ?_
  refine ⟨rfl, f17_178, Avf.cong V16 (fun i hi => ?_)⟩
  by_cases q : i < 6
  · have y0 : ¬ i = 6 := by omega
    have y1 : ¬ i = 7 := by omega
    have y2 : ¬ i = 8 := by omega
    have y3 : ¬ i = 9 := by omega
    have y4 : ¬ i = 10 := by omega
    have y5 : ¬ i = 11 := by omega
    have y6 : ¬ i = 12 := by omega
    have y7 : ¬ i = 13 := by omega
    simp [q, y0, y1, y2, y3, y4, y5, y6, y7]
  · have y : i = 6 ∨ i = 7 ∨ i = 8 ∨ i = 9 ∨ i = 10 ∨ i = 11 ∨ i = 12 ∨ i = 13 := by omega
    rcases y with rfl | rfl | rfl | rfl | rfl | rfl | rfl | rfl <;> rfl
abbrev Rm3_6 : Room := { frames := 2, cells := 1, slots := 16, locals := 32 }
set_option maxRecDepth 65536 in
set_option maxHeartbeats 40000000 in
theorem rm3_6 (l : Launch) (Z : State) (a0 : Array Value) (hw : ∀ d ∈ tables_1, d.before a0 Z = true) (ws : List Jvm.Cond) (a1 : Addr) (kc : ClassId) (fi : Nat → Int32) (h0 : Heap) (n0 : Nat) (Z0 : n0 ≤ h0.size) (V_a : Avf Z h0 a1 kc .byte 6 (fun t => (.int (fi t)))) :
    Met l Z n0 (⟨"com/example/clio/clio/Layout", "pastEntries", "([B)[B"⟩ : MethodName) prog_20_method_22_code 2 (some (.array .byte)) ws Rm3_6 #[(.ref a1)] h0 (fun v h => ∃ r kr, v = some (.ref r) ∧ h0.size ≤ r ∧ Keep h0 h [] ∧ Avf Z h r kr .byte (6 + 8) (fun t => (.int (if t < 6 then fi t else -1)))) := by
  refine enter (Ls := #[.val (.ref a1), .unset]) (plainFor_of_name pn2) (fun m => by first | (simp [entryFrame, mkF, argsToLocals, Value.category]; done) | rfl) ?_
  intro p e s m below meth c T0 hx hby hml hown hnm hret hlk hZ X0
  have K0 := Keep.refl h0 []
  show Go p.tables e below _ (T0.setTop (mkF m 0 #[.val (.ref a1), .unset] []))
  refine Go.by (fun _ => XS.aloadN X0.here hx rfl (hb hby d3_0) rfl rfl) ?_
  show Go p.tables e below _ (T0.setTop (mkF m 1 #[.val (.ref a1), .unset] [(.ref a1)]))
  refine Go.by (fun _ => XS.aloadN X0.here hx rfl (hb hby d3_1) rfl rfl) ?_
  show Go p.tables e below _ (T0.setTop (mkF m 2 #[.val (.ref a1), .unset] [(.ref a1), (.ref a1)]))
  refine Go.by (X0.len hx hZ V_a (z := (6 : Int32)) rfl (g := (mkF m 2 #[.val (.ref a1), .unset] [(.ref a1), (.ref a1)])) rfl rfl (hb hby d3_2)) ?_
  show Go p.tables e below _ (T0.setTop (mkF m 3 #[.val (.ref a1), .unset] [(.int (6 : Int32)), (.ref a1)]))
  refine Go.by (fun _ => XS.bipush X0.here hx rfl (hb hby d3_3)) ?_
  show Go p.tables e below _ (T0.setTop (mkF m 5 #[.val (.ref a1), .unset] [(.int (8 : Int32)), (.int (6 : Int32)), (.ref a1)]))
  refine Go.by (fun _ => XS.iadd X0.here hx rfl (hb hby d3_5) rfl) ?_
  show Go p.tables e below _ (T0.setTop (mkF m 6 #[.val (.ref a1), .unset] [(.int (14 : Int32)), (.ref a1)]))
  obtain ⟨v1, T1, h1, X1, q1, st1⟩ := X0.callS hx hZ (y := (⟨"java/util/Arrays", "copyOf", "([BI)[B"⟩ : MethodName)) hown (tw hw 13 rfl) (tw hw 14 rfl) (tw hw 15 rfl) (tw hw 16 rfl) (by decide) (rm4_6 l Z a0 hw [] a1 kc fi h0 n0 Z0 V_a) (g := (mkF m 6 #[.val (.ref a1), .unset] [(.int (14 : Int32)), (.ref a1)])) rfl (by rw [hml]; rfl) (argsL := [(.ref a1), (.int (14 : Int32))]) (rest := []) (lenOf pd3 rfl) rfl (hb hby d3_6) rfl (by decide) (Nat.le_of_ble_eq_true rfl) (k' := 1) (n' := 16) rfl rfl (by decide) (by decide)
  refine Go.by st1 ?_
  obtain ⟨r1, kr1, rfl, sr1, K1, V1⟩ := q1
  have g_r1 : n0 ≤ r1 := Nat.le_trans Z0 sr1
  have sz_r1 : h0.size ≤ r1 := Nat.le_trans K0.1 sr1
  have ne_a1_r1 : a1 ≠ r1 := Nat.ne_of_lt (Nat.lt_of_lt_of_le V_a.lt sr1)
  have f2_18 := Avf.ext V_a (keep_ext K1)
  have f2_19 := K0.ext (keep_ext K1)
  have Zs2 : n0 ≤ h1.size := Nat.le_trans Z0 (keep_ext K1).1
  show Go p.tables e below _ (T1.setTop (mkF m 9 #[.val (.ref a1), .unset] [(.ref r1)]))
  refine Go.by (fun _ => XS.astoreN X1.here hx rfl (hb hby d3_9) rfl rfl (l' := #[.val (.ref a1), .val (.ref r1)]) rfl) ?_
  show Go p.tables e below _ (T1.setTop (mkF m 10 #[.val (.ref a1), .val (.ref r1)] []))
  refine Go.by (fun _ => XS.aloadN X1.here hx rfl (hb hby d3_10) rfl rfl) ?_
  show Go p.tables e below _ (T1.setTop (mkF m 11 #[.val (.ref a1), .val (.ref r1)] [(.ref r1)]))
  refine Go.by (fun _ => XS.aloadN X1.here hx rfl (hb hby d3_11) rfl rfl) ?_
  show Go p.tables e below _ (T1.setTop (mkF m 12 #[.val (.ref a1), .val (.ref r1)] [(.ref a1), (.ref r1)]))
  refine Go.by (X1.len hx hZ f2_18 (z := (6 : Int32)) rfl (g := (mkF m 12 #[.val (.ref a1), .val (.ref r1)] [(.ref a1), (.ref r1)])) rfl rfl (hb hby d3_12)) ?_
  show Go p.tables e below _ (T1.setTop (mkF m 13 #[.val (.ref a1), .val (.ref r1)] [(.int (6 : Int32)), (.ref r1)]))
  refine Go.by (fun _ => XS.aloadN X1.here hx rfl (hb hby d3_13) rfl rfl) ?_
  show Go p.tables e below _ (T1.setTop (mkF m 14 #[.val (.ref a1), .val (.ref r1)] [(.ref r1), (.int (6 : Int32)), (.ref r1)]))
  refine Go.by (X1.len hx hZ V1 (z := (14 : Int32)) rfl (g := (mkF m 14 #[.val (.ref a1), .val (.ref r1)] [(.ref r1), (.int (6 : Int32)), (.ref r1)])) rfl rfl (hb hby d3_14)) ?_
  show Go p.tables e below _ (T1.setTop (mkF m 15 #[.val (.ref a1), .val (.ref r1)] [(.int (14 : Int32)), (.int (6 : Int32)), (.ref r1)]))
  refine Go.by (fun _ => XS.iconst X1.here hx rfl (hb hby d3_15)) ?_
  show Go p.tables e below _ (T1.setTop (mkF m 16 #[.val (.ref a1), .val (.ref r1)] [(.int (-1 : Int32)), (.int (14 : Int32)), (.int (6 : Int32)), (.ref r1)]))
  obtain ⟨v3, T3, h3, X3, q3, st3⟩ := X1.callS hx hZ (y := (⟨"java/util/Arrays", "fill", "([BIIB)V"⟩ : MethodName)) hown (tw hw 25 rfl) (tw hw 26 rfl) (tw hw 15 rfl) (tw hw 27 rfl) (by decide) (rm6_6 l Z a0 hw [] r1 kr1 (fun t => if t < 6 then fi t else 0) h1 n0 Zs2 g_r1 V1) (g := (mkF m 16 #[.val (.ref a1), .val (.ref r1)] [(.int (-1 : Int32)), (.int (14 : Int32)), (.int (6 : Int32)), (.ref r1)])) rfl (by rw [hml]; rfl) (argsL := [(.ref r1), (.int (6 : Int32)), (.int (14 : Int32)), (.int (-1 : Int32))]) (rest := []) (lenOf pd4 rfl) rfl (hb hby d3_16) rfl (by decide) (Nat.le_of_ble_eq_true rfl) (k' := 1) (n' := 16) rfl rfl (by decide) (by decide)
  refine Go.by st3 ?_
  obtain ⟨rfl, K3, V3⟩ := q3
  have f4_39 := Avf.keep f2_18 K3 (ninS ne_a1_r1 nin0)
  have f4_40 := f2_19.trans K3 (allS (Or.inr sz_r1) all0)
  have Zs4 : n0 ≤ h3.size := Nat.le_trans Zs2 K3.1
  show Go p.tables e below _ (T3.setTop (mkF m 19 #[.val (.ref a1), .val (.ref r1)] []))
  refine Go.by (fun _ => XS.aloadN X3.here hx rfl (hb hby d3_19) rfl rfl) ?_
  show Go p.tables e below _ (T3.setTop (mkF m 20 #[.val (.ref a1), .val (.ref r1)] [(.ref r1)]))
  refine Go.retA X3 hx hlk hret rfl rfl (hb hby d3_20) (by decide) (by decide) ?_
  refine ⟨r1, kr1, rfl, sz_r1, f4_40, Avf.cong V3 (fun i hi => ?_)⟩
  by_cases q : i < 6 <;> first | (simp [q]; done) | (simp [q]; rfl)
abbrev Rm5_7 : Room := { frames := 0, cells := 0, slots := 0, locals := 0 }
set_option maxRecDepth 65536 in
set_option maxHeartbeats 40000000 in
theorem rm5_7 (l : Launch) (Z : State) (a0 : Array Value) (hw : ∀ d ∈ tables_1, d.before a0 Z = true) (ws : List Jvm.Cond)  (h0 : Heap) (n0 : Nat) (Z0 : n0 ≤ h0.size) :
    Met l Z n0 (⟨"java/lang/Math", "min", "(II)I"⟩ : MethodName) jdk_29_method_69_code 2 (some .int) ws Rm5_7 #[(.int (7 : Int32)), (.int (15 : Int32))] h0 (fun v h => v = some (.int (7 : Int32)) ∧ h0 = h) := by
  refine enter (Ls := #[.val (.int (7 : Int32)), .val (.int (15 : Int32))]) (Jvm.Free.JP.mathPlain rfl (by decide +kernel)) (fun m => by first | (simp [entryFrame, mkF, argsToLocals, Value.category]; done) | rfl) ?_
  intro p e s m below meth c T0 hx hby hml hown hnm hret hlk hZ X0
  show Go p.tables e below _ (T0.setTop (mkF m 0 #[.val (.int (7 : Int32)), .val (.int (15 : Int32))] []))
  refine Go.by (fun _ => XS.iloadN X0.here hx rfl (hb hby d5_0) rfl) ?_
  show Go p.tables e below _ (T0.setTop (mkF m 1 #[.val (.int (7 : Int32)), .val (.int (15 : Int32))] [(.int (7 : Int32))]))
  refine Go.by (fun _ => XS.iloadN X0.here hx rfl (hb hby d5_1) rfl) ?_
  show Go p.tables e below _ (T0.setTop (mkF m 2 #[.val (.int (7 : Int32)), .val (.int (15 : Int32))] [(.int (15 : Int32)), (.int (7 : Int32))]))
  refine Go.by (fun _ => XS.icmpNo X0.here hx rfl (hb hby d5_2) rfl (flt (by decide)).2.2.1) ?_
  show Go p.tables e below _ (T0.setTop (mkF m 5 #[.val (.int (7 : Int32)), .val (.int (15 : Int32))] []))
  refine Go.by (fun _ => XS.iloadN X0.here hx rfl (hb hby d5_5) rfl) ?_
  show Go p.tables e below _ (T0.setTop (mkF m 6 #[.val (.int (7 : Int32)), .val (.int (15 : Int32))] [(.int (7 : Int32))]))
  refine Go.by (fun _ => XS.goto X0.here hx rfl (pc0 := 6) (pc' := 10) rfl (hb hby d5_6) (by decide) (by decide)) ?_
  show Go p.tables e below _ (T0.setTop (mkF m 10 #[.val (.int (7 : Int32)), .val (.int (15 : Int32))] [(.int (7 : Int32))]))
  exact Go.retI X0 hx hlk hret (hb hby d5_10) (by decide) (by decide) ⟨rfl, rfl⟩
abbrev Rm7_7 : Room := { frames := 0, cells := 0, slots := 0, locals := 0 }
set_option maxRecDepth 65536 in
set_option maxHeartbeats 40000000 in
theorem rm7_7 (l : Launch) (Z : State) (a0 : Array Value) (hw : ∀ d ∈ tables_1, d.before a0 Z = true) (ws : List Jvm.Cond)  (h0 : Heap) (n0 : Nat) (Z0 : n0 ≤ h0.size) :
    Met l Z n0 (⟨"java/util/Arrays", "rangeCheck", "(III)V"⟩ : MethodName) jdk_65_method_30_code 3 none ws Rm7_7 #[(.int (15 : Int32)), (.int (7 : Int32)), (.int (15 : Int32))] h0 (fun v h => v = none ∧ h0 = h) := by
  refine enter (Ls := #[.val (.int (15 : Int32)), .val (.int (7 : Int32)), .val (.int (15 : Int32))]) (plainFor_of_name pn1) (fun m => by first | (simp [entryFrame, mkF, argsToLocals, Value.category]; done) | rfl) ?_
  intro p e s m below meth c T0 hx hby hml hown hnm hret hlk hZ X0
  show Go p.tables e below _ (T0.setTop (mkF m 0 #[.val (.int (15 : Int32)), .val (.int (7 : Int32)), .val (.int (15 : Int32))] []))
  refine Go.by (fun _ => XS.iloadN X0.here hx rfl (hb hby d7_0) rfl) ?_
  show Go p.tables e below _ (T0.setTop (mkF m 1 #[.val (.int (15 : Int32)), .val (.int (7 : Int32)), .val (.int (15 : Int32))] [(.int (7 : Int32))]))
  refine Go.by (fun _ => XS.iloadN X0.here hx rfl (hb hby d7_1) rfl) ?_
  show Go p.tables e below _ (T0.setTop (mkF m 2 #[.val (.int (15 : Int32)), .val (.int (7 : Int32)), .val (.int (15 : Int32))] [(.int (15 : Int32)), (.int (7 : Int32))]))
  refine Go.by (fun _ => XS.icmpYes X0.here hx rfl (pc0 := 2) (pc' := 46) rfl (hb hby d7_2) rfl (flt (by decide)).2.2.2 (by decide) (by decide)) ?_
  show Go p.tables e below _ (T0.setTop (mkF m 46 #[.val (.int (15 : Int32)), .val (.int (7 : Int32)), .val (.int (15 : Int32))] []))
  refine Go.by (fun _ => XS.iloadN X0.here hx rfl (hb hby d7_46) rfl) ?_
  show Go p.tables e below _ (T0.setTop (mkF m 47 #[.val (.int (15 : Int32)), .val (.int (7 : Int32)), .val (.int (15 : Int32))] [(.int (7 : Int32))]))
  refine Go.by (fun _ => XS.ifYes X0.here hx rfl (pc0 := 47) (pc' := 59) rfl (hb hby d7_47) rfl ((if0 _ _).trans (flt (by decide)).2.1) (by decide) (by decide)) ?_
  show Go p.tables e below _ (T0.setTop (mkF m 59 #[.val (.int (15 : Int32)), .val (.int (7 : Int32)), .val (.int (15 : Int32))] []))
  refine Go.by (fun _ => XS.iloadN X0.here hx rfl (hb hby d7_59) rfl) ?_
  show Go p.tables e below _ (T0.setTop (mkF m 60 #[.val (.int (15 : Int32)), .val (.int (7 : Int32)), .val (.int (15 : Int32))] [(.int (15 : Int32))]))
  refine Go.by (fun _ => XS.iloadN X0.here hx rfl (hb hby d7_60) rfl) ?_
  show Go p.tables e below _ (T0.setTop (mkF m 61 #[.val (.int (15 : Int32)), .val (.int (7 : Int32)), .val (.int (15 : Int32))] [(.int (15 : Int32)), (.int (15 : Int32))]))
  refine Go.by (fun _ => XS.icmpYes X0.here hx rfl (pc0 := 61) (pc' := 73) rfl (hb hby d7_61) rfl (flt (by decide)).2.2.2 (by decide) (by decide)) ?_
  show Go p.tables e below _ (T0.setTop (mkF m 73 #[.val (.int (15 : Int32)), .val (.int (7 : Int32)), .val (.int (15 : Int32))] []))
  exact Go.ret0 X0 hx hlk hret (hb hby d7_73) (by decide) (by decide) ⟨rfl, rfl⟩
abbrev Rm4_7 : Room := { frames := 1, cells := 1, slots := 16, locals := 18 }
set_option maxRecDepth 65536 in
set_option maxHeartbeats 40000000 in
theorem rm4_7 (l : Launch) (Z : State) (a0 : Array Value) (hw : ∀ d ∈ tables_1, d.before a0 Z = true) (ws : List Jvm.Cond) (a1 : Addr) (kc : ClassId) (fi : Nat → Int32) (h0 : Heap) (n0 : Nat) (Z0 : n0 ≤ h0.size) (V_a : Avf Z h0 a1 kc .byte 7 (fun t => (.int (fi t)))) :
    Met l Z n0 (⟨"java/util/Arrays", "copyOf", "([BI)[B"⟩ : MethodName) jdk_65_method_121_code 3 (some (.array .byte)) ws Rm4_7 #[(.ref a1), (.int (15 : Int32))] h0 (fun v h => ∃ r kr, v = some (.ref r) ∧ h0.size ≤ r ∧ Keep h0 h [] ∧ Avf Z h r kr .byte (7 + 8) (fun t => (.int (if t < 7 then fi t else 0)))) := by
  refine enter (Ls := #[.val (.ref a1), .val (.int (15 : Int32)), .unset]) (plainFor_of_name pn1) (fun m => by first | (simp [entryFrame, mkF, argsToLocals, Value.category]; done) | rfl) ?_
  intro p e s m below meth c T0 hx hby hml hown hnm hret hlk hZ X0
  have K0 := Keep.refl h0 []
  show Go p.tables e below _ (T0.setTop (mkF m 0 #[.val (.ref a1), .val (.int (15 : Int32)), .unset] []))
  refine Go.by (fun _ => XS.iloadN X0.here hx rfl (hb hby d4_0) rfl) ?_
  show Go p.tables e below _ (T0.setTop (mkF m 1 #[.val (.ref a1), .val (.int (15 : Int32)), .unset] [(.int (15 : Int32))]))
  refine Go.by (fun _ => XS.aloadN X0.here hx rfl (hb hby d4_1) rfl rfl) ?_
  show Go p.tables e below _ (T0.setTop (mkF m 2 #[.val (.ref a1), .val (.int (15 : Int32)), .unset] [(.ref a1), (.int (15 : Int32))]))
  refine Go.by (X0.len hx hZ V_a (z := (7 : Int32)) rfl (g := (mkF m 2 #[.val (.ref a1), .val (.int (15 : Int32)), .unset] [(.ref a1), (.int (15 : Int32))])) rfl rfl (hb hby d4_2)) ?_
  show Go p.tables e below _ (T0.setTop (mkF m 3 #[.val (.ref a1), .val (.int (15 : Int32)), .unset] [(.int (7 : Int32)), (.int (15 : Int32))]))
  refine Go.by (fun _ => XS.icmpYes X0.here hx rfl (pc0 := 3) (pc' := 14) rfl (hb hby d4_3) rfl (feq (by decide)).2 (by decide) (by decide)) ?_
  show Go p.tables e below _ (T0.setTop (mkF m 14 #[.val (.ref a1), .val (.int (15 : Int32)), .unset] []))
  refine Go.by (fun _ => XS.iloadN X0.here hx rfl (hb hby d4_14) rfl) ?_
  show Go p.tables e below _ (T0.setTop (mkF m 15 #[.val (.ref a1), .val (.int (15 : Int32)), .unset] [(.int (15 : Int32))]))
  obtain ⟨T1, h1, kc1, b1, X1, g1, E1, A1, V1, st1⟩ := X0.newP hx hZ (tw hw 1 rfl) (g := (mkF m 15 #[.val (.ref a1), .val (.int (15 : Int32)), .unset] [(.int (15 : Int32))])) rfl (hb hby d4_15) rfl (by decide) (sz := 15) (cap := 16) (k' := 1) (n' := 16) rfl (by decide) (by decide) rfl rfl (by decide) (by decide) (ad := "[B") (by decide)
  have g_b1 : n0 ≤ b1 := by rw [g1]; exact Z0
  have sz_b1 : h0.size ≤ b1 := by rw [g1]; exact K0.1
  have ne_a1_b1 : a1 ≠ b1 := Nat.ne_of_lt (by rw [g1]; exact V_a.lt)
  have f2_16 := Avf.ext V_a E1
  have f2_17 := K0.ext E1
  have Zs2 : n0 ≤ h1.size := Nat.le_trans Z0 E1.1
  refine Go.by st1 ?_
  show Go p.tables e below _ (T1.setTop (mkF m 17 #[.val (.ref a1), .val (.int (15 : Int32)), .unset] [(.ref b1)]))
  refine Go.by (fun _ => XS.astoreN X1.here hx rfl (hb hby d4_17) rfl rfl (l' := #[.val (.ref a1), .val (.int (15 : Int32)), .val (.ref b1)]) rfl) ?_
  show Go p.tables e below _ (T1.setTop (mkF m 18 #[.val (.ref a1), .val (.int (15 : Int32)), .val (.ref b1)] []))
  refine Go.by (fun _ => XS.aloadN X1.here hx rfl (hb hby d4_18) rfl rfl) ?_
  show Go p.tables e below _ (T1.setTop (mkF m 19 #[.val (.ref a1), .val (.int (15 : Int32)), .val (.ref b1)] [(.ref a1)]))
  refine Go.by (fun _ => XS.iconst X1.here hx rfl (hb hby d4_19)) ?_
  show Go p.tables e below _ (T1.setTop (mkF m 20 #[.val (.ref a1), .val (.int (15 : Int32)), .val (.ref b1)] [(.int (0 : Int32)), (.ref a1)]))
  refine Go.by (fun _ => XS.aloadN X1.here hx rfl (hb hby d4_20) rfl rfl) ?_
  show Go p.tables e below _ (T1.setTop (mkF m 21 #[.val (.ref a1), .val (.int (15 : Int32)), .val (.ref b1)] [(.ref b1), (.int (0 : Int32)), (.ref a1)]))
  refine Go.by (fun _ => XS.iconst X1.here hx rfl (hb hby d4_21)) ?_
  show Go p.tables e below _ (T1.setTop (mkF m 22 #[.val (.ref a1), .val (.int (15 : Int32)), .val (.ref b1)] [(.int (0 : Int32)), (.ref b1), (.int (0 : Int32)), (.ref a1)]))
  refine Go.by (fun _ => XS.aloadN X1.here hx rfl (hb hby d4_22) rfl rfl) ?_
  show Go p.tables e below _ (T1.setTop (mkF m 23 #[.val (.ref a1), .val (.int (15 : Int32)), .val (.ref b1)] [(.ref a1), (.int (0 : Int32)), (.ref b1), (.int (0 : Int32)), (.ref a1)]))
  refine Go.by (X1.len hx hZ f2_16 (z := (7 : Int32)) rfl (g := (mkF m 23 #[.val (.ref a1), .val (.int (15 : Int32)), .val (.ref b1)] [(.ref a1), (.int (0 : Int32)), (.ref b1), (.int (0 : Int32)), (.ref a1)])) rfl rfl (hb hby d4_23)) ?_
  show Go p.tables e below _ (T1.setTop (mkF m 24 #[.val (.ref a1), .val (.int (15 : Int32)), .val (.ref b1)] [(.int (7 : Int32)), (.int (0 : Int32)), (.ref b1), (.int (0 : Int32)), (.ref a1)]))
  refine Go.by (fun _ => XS.iloadN X1.here hx rfl (hb hby d4_24) rfl) ?_
  show Go p.tables e below _ (T1.setTop (mkF m 25 #[.val (.ref a1), .val (.int (15 : Int32)), .val (.ref b1)] [(.int (15 : Int32)), (.int (7 : Int32)), (.int (0 : Int32)), (.ref b1), (.int (0 : Int32)), (.ref a1)]))
  obtain ⟨v3, T3, h3, X3, q3, st3⟩ := X1.callS hx hZ (y := (⟨"java/lang/Math", "min", "(II)I"⟩ : MethodName)) hown (tw hw 17 rfl) (tw hw 18 rfl) (tw hw 19 rfl) (tw hw 20 rfl) (by decide) (rm5_7 l Z a0 hw [] h1 n0 Zs2) (g := (mkF m 25 #[.val (.ref a1), .val (.int (15 : Int32)), .val (.ref b1)] [(.int (15 : Int32)), (.int (7 : Int32)), (.int (0 : Int32)), (.ref b1), (.int (0 : Int32)), (.ref a1)])) rfl (by rw [hml]; rfl) (argsL := [(.int (7 : Int32)), (.int (15 : Int32))]) (rest := [(.int (0 : Int32)), (.ref b1), (.int (0 : Int32)), (.ref a1)]) (lenOf pd1 rfl) rfl (hb hby d4_25) rfl (by decide) (Nat.le_of_ble_eq_true rfl) (k' := 1) (n' := 16) rfl rfl (by decide) (by decide)
  refine Go.by st3 ?_
  obtain ⟨rfl, rfl⟩ := q3
  show Go p.tables e below _ (T3.setTop (mkF m 28 #[.val (.ref a1), .val (.int (15 : Int32)), .val (.ref b1)] [(.int (7 : Int32)), (.int (0 : Int32)), (.ref b1), (.int (0 : Int32)), (.ref a1)]))
  obtain ⟨T4, h4, X4, K4, V4, st4⟩ := X3.acopy hx hZ hown (tw hw 21 rfl) (tw hw 24 rfl) (tw hw 22 rfl) (tw hw 23 rfl) f2_16 V1 rfl g_b1 (by decide) (by decide) (by decide) (i := 0) (j := 0) (cc := 7) rfl rfl rfl (by decide) (by decide) (g := (mkF m 28 #[.val (.ref a1), .val (.int (15 : Int32)), .val (.ref b1)] [(.int (7 : Int32)), (.int (0 : Int32)), (.ref b1), (.int (0 : Int32)), (.ref a1)])) rfl (by rw [hml]; rfl) rfl (hb hby d4_28) (by decide) (Nat.le_of_ble_eq_true rfl)
  have f5_42 := Avf.keep f2_16 K4 (ninS ne_a1_b1 nin0)
  have f5_43 := f2_17.trans K4 (allS (Or.inr sz_b1) all0)
  have f5_44 := A1.keep K4
  have Zs5 : n0 ≤ h4.size := Nat.le_trans Zs2 K4.1
  refine Go.by st4 ?_
  show Go p.tables e below _ (T4.setTop (mkF m 31 #[.val (.ref a1), .val (.int (15 : Int32)), .val (.ref b1)] []))
  refine Go.by (fun _ => XS.aloadN X4.here hx rfl (hb hby d4_31) rfl rfl) ?_
  show Go p.tables e below _ (T4.setTop (mkF m 32 #[.val (.ref a1), .val (.int (15 : Int32)), .val (.ref b1)] [(.ref b1)]))
  refine Go.retA X4 hx hlk hret rfl rfl (hb hby d4_32) (by decide) (by decide) ?_
  refine ⟨b1, kc1, rfl, sz_b1, f5_43, Avf.cong V4 (fun i hi => ?_)⟩
  by_cases q : i < 7 <;> first | (simp [q]; done) | (simp [q]; rfl)
abbrev Rm6_7 : Room := { frames := 1, cells := 0, slots := 0, locals := 14 }
set_option maxRecDepth 65536 in
set_option maxHeartbeats 40000000 in
theorem rm6_7 (l : Launch) (Z : State) (a0 : Array Value) (hw : ∀ d ∈ tables_1, d.before a0 Z = true) (ws : List Jvm.Cond) (a1 : Addr) (kc : ClassId) (fi : Nat → Int32) (h0 : Heap) (n0 : Nat) (Z0 : n0 ≤ h0.size) (g_a1 : n0 ≤ a1) (V_a : Avf Z h0 a1 kc .byte 15 (fun t => (.int (fi t)))) :
    Met l Z n0 (⟨"java/util/Arrays", "fill", "([BIIB)V"⟩ : MethodName) jdk_65_method_110_code 5 none ws Rm6_7 #[(.ref a1), (.int (7 : Int32)), (.int (15 : Int32)), (.int (-1 : Int32))] h0 (fun v h => v = none ∧ Keep h0 h [a1] ∧ Avf Z h a1 kc .byte 15 (fun t => (.int (if t < 7 then fi t else -1)))) := by
  refine enter (Ls := #[.val (.ref a1), .val (.int (7 : Int32)), .val (.int (15 : Int32)), .val (.int (-1 : Int32)), .unset]) (plainFor_of_name pn1) (fun m => by first | (simp [entryFrame, mkF, argsToLocals, Value.category]; done) | rfl) ?_
  intro p e s m below meth c T0 hx hby hml hown hnm hret hlk hZ X0
  have K0 := Keep.refl h0 [a1]
  show Go p.tables e below _ (T0.setTop (mkF m 0 #[.val (.ref a1), .val (.int (7 : Int32)), .val (.int (15 : Int32)), .val (.int (-1 : Int32)), .unset] []))
  refine Go.by (fun _ => XS.aloadN X0.here hx rfl (hb hby d6_0) rfl rfl) ?_
  show Go p.tables e below _ (T0.setTop (mkF m 1 #[.val (.ref a1), .val (.int (7 : Int32)), .val (.int (15 : Int32)), .val (.int (-1 : Int32)), .unset] [(.ref a1)]))
  refine Go.by (X0.len hx hZ V_a (z := (15 : Int32)) rfl (g := (mkF m 1 #[.val (.ref a1), .val (.int (7 : Int32)), .val (.int (15 : Int32)), .val (.int (-1 : Int32)), .unset] [(.ref a1)])) rfl rfl (hb hby d6_1)) ?_
  show Go p.tables e below _ (T0.setTop (mkF m 2 #[.val (.ref a1), .val (.int (7 : Int32)), .val (.int (15 : Int32)), .val (.int (-1 : Int32)), .unset] [(.int (15 : Int32))]))
  refine Go.by (fun _ => XS.iloadN X0.here hx rfl (hb hby d6_2) rfl) ?_
  show Go p.tables e below _ (T0.setTop (mkF m 3 #[.val (.ref a1), .val (.int (7 : Int32)), .val (.int (15 : Int32)), .val (.int (-1 : Int32)), .unset] [(.int (7 : Int32)), (.int (15 : Int32))]))
  refine Go.by (fun _ => XS.iloadN X0.here hx rfl (hb hby d6_3) rfl) ?_
  show Go p.tables e below _ (T0.setTop (mkF m 4 #[.val (.ref a1), .val (.int (7 : Int32)), .val (.int (15 : Int32)), .val (.int (-1 : Int32)), .unset] [(.int (15 : Int32)), (.int (7 : Int32)), (.int (15 : Int32))]))
  obtain ⟨v1, T1, h1, X1, q1, st1⟩ := X0.callS hx hZ (y := (⟨"java/util/Arrays", "rangeCheck", "(III)V"⟩ : MethodName)) hown (tw hw 28 rfl) (tw hw 29 rfl) (tw hw 15 rfl) (tw hw 30 rfl) (by decide) (rm7_7 l Z a0 hw [] h0 n0 Z0) (g := (mkF m 4 #[.val (.ref a1), .val (.int (7 : Int32)), .val (.int (15 : Int32)), .val (.int (-1 : Int32)), .unset] [(.int (15 : Int32)), (.int (7 : Int32)), (.int (15 : Int32))])) rfl (by rw [hml]; rfl) (argsL := [(.int (15 : Int32)), (.int (7 : Int32)), (.int (15 : Int32))]) (rest := []) (lenOf pd2 rfl) rfl (hb hby d6_4) rfl (by decide) (Nat.le_of_ble_eq_true rfl) (k' := 0) (n' := 0) rfl rfl (by decide) (by decide)
  refine Go.by st1 ?_
  obtain ⟨rfl, rfl⟩ := q1
  show Go p.tables e below _ (T1.setTop (mkF m 7 #[.val (.ref a1), .val (.int (7 : Int32)), .val (.int (15 : Int32)), .val (.int (-1 : Int32)), .unset] []))
  refine Go.by (fun _ => XS.iloadN X1.here hx rfl (hb hby d6_7) rfl) ?_
  show Go p.tables e below _ (T1.setTop (mkF m 8 #[.val (.ref a1), .val (.int (7 : Int32)), .val (.int (15 : Int32)), .val (.int (-1 : Int32)), .unset] [(.int (7 : Int32))]))
  refine Go.by (fun _ => XS.istore X1.here hx rfl (hb hby d6_8) rfl (l' := #[.val (.ref a1), .val (.int (7 : Int32)), .val (.int (15 : Int32)), .val (.int (-1 : Int32)), .val (.int (7 : Int32))]) rfl) ?_
  show Go p.tables e below _ (T1.setTop (mkF m 10 #[.val (.ref a1), .val (.int (7 : Int32)), .val (.int (15 : Int32)), .val (.int (-1 : Int32)), .val (.int (7 : Int32))] []))
  refine Go.by (fun _ => XS.iload X1.here hx rfl (hb hby d6_10) rfl) ?_
  show Go p.tables e below _ (T1.setTop (mkF m 12 #[.val (.ref a1), .val (.int (7 : Int32)), .val (.int (15 : Int32)), .val (.int (-1 : Int32)), .val (.int (7 : Int32))] [(.int (7 : Int32))]))
  refine Go.by (fun _ => XS.iloadN X1.here hx rfl (hb hby d6_12) rfl) ?_
  show Go p.tables e below _ (T1.setTop (mkF m 13 #[.val (.ref a1), .val (.int (7 : Int32)), .val (.int (15 : Int32)), .val (.int (-1 : Int32)), .val (.int (7 : Int32))] [(.int (15 : Int32)), (.int (7 : Int32))]))
  refine Go.by (fun _ => XS.icmpNo X1.here hx rfl (hb hby d6_13) rfl (tlt (by decide)).2.1) ?_
  show Go p.tables e below _ (T1.setTop (mkF m 16 #[.val (.ref a1), .val (.int (7 : Int32)), .val (.int (15 : Int32)), .val (.int (-1 : Int32)), .val (.int (7 : Int32))] []))
  refine Go.by (fun _ => XS.aloadN X1.here hx rfl (hb hby d6_16) rfl rfl) ?_
  show Go p.tables e below _ (T1.setTop (mkF m 17 #[.val (.ref a1), .val (.int (7 : Int32)), .val (.int (15 : Int32)), .val (.int (-1 : Int32)), .val (.int (7 : Int32))] [(.ref a1)]))
  refine Go.by (fun _ => XS.iload X1.here hx rfl (hb hby d6_17) rfl) ?_
  show Go p.tables e below _ (T1.setTop (mkF m 19 #[.val (.ref a1), .val (.int (7 : Int32)), .val (.int (15 : Int32)), .val (.int (-1 : Int32)), .val (.int (7 : Int32))] [(.int (7 : Int32)), (.ref a1)]))
  refine Go.by (fun _ => XS.iloadN X1.here hx rfl (hb hby d6_19) rfl) ?_
  show Go p.tables e below _ (T1.setTop (mkF m 20 #[.val (.ref a1), .val (.int (7 : Int32)), .val (.int (15 : Int32)), .val (.int (-1 : Int32)), .val (.int (7 : Int32))] [(.int (-1 : Int32)), (.int (7 : Int32)), (.ref a1)]))
  obtain ⟨T2, h2, X2, W2, V2, st2⟩ := X1.stB hx hZ V_a g_a1 (by decide) (i := 7) rfl (by decide) (g := (mkF m 20 #[.val (.ref a1), .val (.int (7 : Int32)), .val (.int (15 : Int32)), .val (.int (-1 : Int32)), .val (.int (7 : Int32))] [(.int (-1 : Int32)), (.int (7 : Int32)), (.ref a1)])) rfl rfl (hb hby d6_20)
  have f3_31 := K0.wr W2 (Or.inl (List.mem_of_getElem? (i := 0) rfl))
  have Zs3 : n0 ≤ h2.size := by rw [W2.size]; exact Z0
  refine Go.by st2 ?_
  show Go p.tables e below _ (T2.setTop (mkF m 21 #[.val (.ref a1), .val (.int (7 : Int32)), .val (.int (15 : Int32)), .val (.int (-1 : Int32)), .val (.int (7 : Int32))] []))
  refine Go.by (fun _ => XS.iinc X2.here hx rfl (hb hby d6_21) rfl (l' := #[.val (.ref a1), .val (.int (7 : Int32)), .val (.int (15 : Int32)), .val (.int (-1 : Int32)), .val (.int (8 : Int32))]) rfl) ?_
  show Go p.tables e below _ (T2.setTop (mkF m 24 #[.val (.ref a1), .val (.int (7 : Int32)), .val (.int (15 : Int32)), .val (.int (-1 : Int32)), .val (.int (8 : Int32))] []))
  refine Go.by (fun _ => XS.goto X2.here hx rfl (pc0 := 24) (pc' := 10) rfl (hb hby d6_24) (by decide) (by decide)) ?_
  show Go p.tables e below _ (T2.setTop (mkF m 10 #[.val (.ref a1), .val (.int (7 : Int32)), .val (.int (15 : Int32)), .val (.int (-1 : Int32)), .val (.int (8 : Int32))] []))
  refine Go.by (fun _ => XS.iload X2.here hx rfl (hb hby d6_10) rfl) ?_
  show Go p.tables e below _ (T2.setTop (mkF m 12 #[.val (.ref a1), .val (.int (7 : Int32)), .val (.int (15 : Int32)), .val (.int (-1 : Int32)), .val (.int (8 : Int32))] [(.int (8 : Int32))]))
  refine Go.by (fun _ => XS.iloadN X2.here hx rfl (hb hby d6_12) rfl) ?_
  show Go p.tables e below _ (T2.setTop (mkF m 13 #[.val (.ref a1), .val (.int (7 : Int32)), .val (.int (15 : Int32)), .val (.int (-1 : Int32)), .val (.int (8 : Int32))] [(.int (15 : Int32)), (.int (8 : Int32))]))
  refine Go.by (fun _ => XS.icmpNo X2.here hx rfl (hb hby d6_13) rfl (tlt (by decide)).2.1) ?_
  show Go p.tables e below _ (T2.setTop (mkF m 16 #[.val (.ref a1), .val (.int (7 : Int32)), .val (.int (15 : Int32)), .val (.int (-1 : Int32)), .val (.int (8 : Int32))] []))
  refine Go.by (fun _ => XS.aloadN X2.here hx rfl (hb hby d6_16) rfl rfl) ?_
  show Go p.tables e below _ (T2.setTop (mkF m 17 #[.val (.ref a1), .val (.int (7 : Int32)), .val (.int (15 : Int32)), .val (.int (-1 : Int32)), .val (.int (8 : Int32))] [(.ref a1)]))
  refine Go.by (fun _ => XS.iload X2.here hx rfl (hb hby d6_17) rfl) ?_
  show Go p.tables e below _ (T2.setTop (mkF m 19 #[.val (.ref a1), .val (.int (7 : Int32)), .val (.int (15 : Int32)), .val (.int (-1 : Int32)), .val (.int (8 : Int32))] [(.int (8 : Int32)), (.ref a1)]))
  refine Go.by (fun _ => XS.iloadN X2.here hx rfl (hb hby d6_19) rfl) ?_
  show Go p.tables e below _ (T2.setTop (mkF m 20 #[.val (.ref a1), .val (.int (7 : Int32)), .val (.int (15 : Int32)), .val (.int (-1 : Int32)), .val (.int (8 : Int32))] [(.int (-1 : Int32)), (.int (8 : Int32)), (.ref a1)]))
  obtain ⟨T4, h4, X4, W4, V4, st4⟩ := X2.stB hx hZ V2 g_a1 (by decide) (i := 8) rfl (by decide) (g := (mkF m 20 #[.val (.ref a1), .val (.int (7 : Int32)), .val (.int (15 : Int32)), .val (.int (-1 : Int32)), .val (.int (8 : Int32))] [(.int (-1 : Int32)), (.int (8 : Int32)), (.ref a1)])) rfl rfl (hb hby d6_20)
  have f5_52 := f3_31.wr W4 (Or.inl (List.mem_of_getElem? (i := 0) rfl))
  have Zs5 : n0 ≤ h4.size := by rw [W4.size]; exact Zs3
  refine Go.by st4 ?_
  show Go p.tables e below _ (T4.setTop (mkF m 21 #[.val (.ref a1), .val (.int (7 : Int32)), .val (.int (15 : Int32)), .val (.int (-1 : Int32)), .val (.int (8 : Int32))] []))
  refine Go.by (fun _ => XS.iinc X4.here hx rfl (hb hby d6_21) rfl (l' := #[.val (.ref a1), .val (.int (7 : Int32)), .val (.int (15 : Int32)), .val (.int (-1 : Int32)), .val (.int (9 : Int32))]) rfl) ?_
  show Go p.tables e below _ (T4.setTop (mkF m 24 #[.val (.ref a1), .val (.int (7 : Int32)), .val (.int (15 : Int32)), .val (.int (-1 : Int32)), .val (.int (9 : Int32))] []))
  refine Go.by (fun _ => XS.goto X4.here hx rfl (pc0 := 24) (pc' := 10) rfl (hb hby d6_24) (by decide) (by decide)) ?_
  show Go p.tables e below _ (T4.setTop (mkF m 10 #[.val (.ref a1), .val (.int (7 : Int32)), .val (.int (15 : Int32)), .val (.int (-1 : Int32)), .val (.int (9 : Int32))] []))
  refine Go.by (fun _ => XS.iload X4.here hx rfl (hb hby d6_10) rfl) ?_
  show Go p.tables e below _ (T4.setTop (mkF m 12 #[.val (.ref a1), .val (.int (7 : Int32)), .val (.int (15 : Int32)), .val (.int (-1 : Int32)), .val (.int (9 : Int32))] [(.int (9 : Int32))]))
  refine Go.by (fun _ => XS.iloadN X4.here hx rfl (hb hby d6_12) rfl) ?_
  show Go p.tables e below _ (T4.setTop (mkF m 13 #[.val (.ref a1), .val (.int (7 : Int32)), .val (.int (15 : Int32)), .val (.int (-1 : Int32)), .val (.int (9 : Int32))] [(.int (15 : Int32)), (.int (9 : Int32))]))
  refine Go.by (fun _ => XS.icmpNo X4.here hx rfl (hb hby d6_13) rfl (tlt (by decide)).2.1) ?_
  show Go p.tables e below _ (T4.setTop (mkF m 16 #[.val (.ref a1), .val (.int (7 : Int32)), .val (.int (15 : Int32)), .val (.int (-1 : Int32)), .val (.int (9 : Int32))] []))
  refine Go.by (fun _ => XS.aloadN X4.here hx rfl (hb hby d6_16) rfl rfl) ?_
  show Go p.tables e below _ (T4.setTop (mkF m 17 #[.val (.ref a1), .val (.int (7 : Int32)), .val (.int (15 : Int32)), .val (.int (-1 : Int32)), .val (.int (9 : Int32))] [(.ref a1)]))
  refine Go.by (fun _ => XS.iload X4.here hx rfl (hb hby d6_17) rfl) ?_
  show Go p.tables e below _ (T4.setTop (mkF m 19 #[.val (.ref a1), .val (.int (7 : Int32)), .val (.int (15 : Int32)), .val (.int (-1 : Int32)), .val (.int (9 : Int32))] [(.int (9 : Int32)), (.ref a1)]))
  refine Go.by (fun _ => XS.iloadN X4.here hx rfl (hb hby d6_19) rfl) ?_
  show Go p.tables e below _ (T4.setTop (mkF m 20 #[.val (.ref a1), .val (.int (7 : Int32)), .val (.int (15 : Int32)), .val (.int (-1 : Int32)), .val (.int (9 : Int32))] [(.int (-1 : Int32)), (.int (9 : Int32)), (.ref a1)]))
  obtain ⟨T6, h6, X6, W6, V6, st6⟩ := X4.stB hx hZ V4 g_a1 (by decide) (i := 9) rfl (by decide) (g := (mkF m 20 #[.val (.ref a1), .val (.int (7 : Int32)), .val (.int (15 : Int32)), .val (.int (-1 : Int32)), .val (.int (9 : Int32))] [(.int (-1 : Int32)), (.int (9 : Int32)), (.ref a1)])) rfl rfl (hb hby d6_20)
  have f7_73 := f5_52.wr W6 (Or.inl (List.mem_of_getElem? (i := 0) rfl))
  have Zs7 : n0 ≤ h6.size := by rw [W6.size]; exact Zs5
  refine Go.by st6 ?_
  show Go p.tables e below _ (T6.setTop (mkF m 21 #[.val (.ref a1), .val (.int (7 : Int32)), .val (.int (15 : Int32)), .val (.int (-1 : Int32)), .val (.int (9 : Int32))] []))
  refine Go.by (fun _ => XS.iinc X6.here hx rfl (hb hby d6_21) rfl (l' := #[.val (.ref a1), .val (.int (7 : Int32)), .val (.int (15 : Int32)), .val (.int (-1 : Int32)), .val (.int (10 : Int32))]) rfl) ?_
  show Go p.tables e below _ (T6.setTop (mkF m 24 #[.val (.ref a1), .val (.int (7 : Int32)), .val (.int (15 : Int32)), .val (.int (-1 : Int32)), .val (.int (10 : Int32))] []))
  refine Go.by (fun _ => XS.goto X6.here hx rfl (pc0 := 24) (pc' := 10) rfl (hb hby d6_24) (by decide) (by decide)) ?_
  show Go p.tables e below _ (T6.setTop (mkF m 10 #[.val (.ref a1), .val (.int (7 : Int32)), .val (.int (15 : Int32)), .val (.int (-1 : Int32)), .val (.int (10 : Int32))] []))
  refine Go.by (fun _ => XS.iload X6.here hx rfl (hb hby d6_10) rfl) ?_
  show Go p.tables e below _ (T6.setTop (mkF m 12 #[.val (.ref a1), .val (.int (7 : Int32)), .val (.int (15 : Int32)), .val (.int (-1 : Int32)), .val (.int (10 : Int32))] [(.int (10 : Int32))]))
  refine Go.by (fun _ => XS.iloadN X6.here hx rfl (hb hby d6_12) rfl) ?_
  show Go p.tables e below _ (T6.setTop (mkF m 13 #[.val (.ref a1), .val (.int (7 : Int32)), .val (.int (15 : Int32)), .val (.int (-1 : Int32)), .val (.int (10 : Int32))] [(.int (15 : Int32)), (.int (10 : Int32))]))
  refine Go.by (fun _ => XS.icmpNo X6.here hx rfl (hb hby d6_13) rfl (tlt (by decide)).2.1) ?_
  show Go p.tables e below _ (T6.setTop (mkF m 16 #[.val (.ref a1), .val (.int (7 : Int32)), .val (.int (15 : Int32)), .val (.int (-1 : Int32)), .val (.int (10 : Int32))] []))
  refine Go.by (fun _ => XS.aloadN X6.here hx rfl (hb hby d6_16) rfl rfl) ?_
  show Go p.tables e below _ (T6.setTop (mkF m 17 #[.val (.ref a1), .val (.int (7 : Int32)), .val (.int (15 : Int32)), .val (.int (-1 : Int32)), .val (.int (10 : Int32))] [(.ref a1)]))
  refine Go.by (fun _ => XS.iload X6.here hx rfl (hb hby d6_17) rfl) ?_
  show Go p.tables e below _ (T6.setTop (mkF m 19 #[.val (.ref a1), .val (.int (7 : Int32)), .val (.int (15 : Int32)), .val (.int (-1 : Int32)), .val (.int (10 : Int32))] [(.int (10 : Int32)), (.ref a1)]))
  refine Go.by (fun _ => XS.iloadN X6.here hx rfl (hb hby d6_19) rfl) ?_
  show Go p.tables e below _ (T6.setTop (mkF m 20 #[.val (.ref a1), .val (.int (7 : Int32)), .val (.int (15 : Int32)), .val (.int (-1 : Int32)), .val (.int (10 : Int32))] [(.int (-1 : Int32)), (.int (10 : Int32)), (.ref a1)]))
  obtain ⟨T8, h8, X8, W8, V8, st8⟩ := X6.stB hx hZ V6 g_a1 (by decide) (i := 10) rfl (by decide) (g := (mkF m 20 #[.val (.ref a1), .val (.int (7 : Int32)), .val (.int (15 : Int32)), .val (.int (-1 : Int32)), .val (.int (10 : Int32))] [(.int (-1 : Int32)), (.int (10 : Int32)), (.ref a1)])) rfl rfl (hb hby d6_20)
  have f9_94 := f7_73.wr W8 (Or.inl (List.mem_of_getElem? (i := 0) rfl))
  have Zs9 : n0 ≤ h8.size := by rw [W8.size]; exact Zs7
  refine Go.by st8 ?_
  show Go p.tables e below _ (T8.setTop (mkF m 21 #[.val (.ref a1), .val (.int (7 : Int32)), .val (.int (15 : Int32)), .val (.int (-1 : Int32)), .val (.int (10 : Int32))] []))
  refine Go.by (fun _ => XS.iinc X8.here hx rfl (hb hby d6_21) rfl (l' := #[.val (.ref a1), .val (.int (7 : Int32)), .val (.int (15 : Int32)), .val (.int (-1 : Int32)), .val (.int (11 : Int32))]) rfl) ?_
  show Go p.tables e below _ (T8.setTop (mkF m 24 #[.val (.ref a1), .val (.int (7 : Int32)), .val (.int (15 : Int32)), .val (.int (-1 : Int32)), .val (.int (11 : Int32))] []))
  refine Go.by (fun _ => XS.goto X8.here hx rfl (pc0 := 24) (pc' := 10) rfl (hb hby d6_24) (by decide) (by decide)) ?_
  show Go p.tables e below _ (T8.setTop (mkF m 10 #[.val (.ref a1), .val (.int (7 : Int32)), .val (.int (15 : Int32)), .val (.int (-1 : Int32)), .val (.int (11 : Int32))] []))
  refine Go.by (fun _ => XS.iload X8.here hx rfl (hb hby d6_10) rfl) ?_
  show Go p.tables e below _ (T8.setTop (mkF m 12 #[.val (.ref a1), .val (.int (7 : Int32)), .val (.int (15 : Int32)), .val (.int (-1 : Int32)), .val (.int (11 : Int32))] [(.int (11 : Int32))]))
  refine Go.by (fun _ => XS.iloadN X8.here hx rfl (hb hby d6_12) rfl) ?_
  show Go p.tables e below _ (T8.setTop (mkF m 13 #[.val (.ref a1), .val (.int (7 : Int32)), .val (.int (15 : Int32)), .val (.int (-1 : Int32)), .val (.int (11 : Int32))] [(.int (15 : Int32)), (.int (11 : Int32))]))
  refine Go.by (fun _ => XS.icmpNo X8.here hx rfl (hb hby d6_13) rfl (tlt (by decide)).2.1) ?_
  show Go p.tables e below _ (T8.setTop (mkF m 16 #[.val (.ref a1), .val (.int (7 : Int32)), .val (.int (15 : Int32)), .val (.int (-1 : Int32)), .val (.int (11 : Int32))] []))
  refine Go.by (fun _ => XS.aloadN X8.here hx rfl (hb hby d6_16) rfl rfl) ?_
  show Go p.tables e below _ (T8.setTop (mkF m 17 #[.val (.ref a1), .val (.int (7 : Int32)), .val (.int (15 : Int32)), .val (.int (-1 : Int32)), .val (.int (11 : Int32))] [(.ref a1)]))
  refine Go.by (fun _ => XS.iload X8.here hx rfl (hb hby d6_17) rfl) ?_
  show Go p.tables e below _ (T8.setTop (mkF m 19 #[.val (.ref a1), .val (.int (7 : Int32)), .val (.int (15 : Int32)), .val (.int (-1 : Int32)), .val (.int (11 : Int32))] [(.int (11 : Int32)), (.ref a1)]))
  refine Go.by (fun _ => XS.iloadN X8.here hx rfl (hb hby d6_19) rfl) ?_
  show Go p.tables e below _ (T8.setTop (mkF m 20 #[.val (.ref a1), .val (.int (7 : Int32)), .val (.int (15 : Int32)), .val (.int (-1 : Int32)), .val (.int (11 : Int32))] [(.int (-1 : Int32)), (.int (11 : Int32)), (.ref a1)]))
  obtain ⟨T10, h10, X10, W10, V10, st10⟩ := X8.stB hx hZ V8 g_a1 (by decide) (i := 11) rfl (by decide) (g := (mkF m 20 #[.val (.ref a1), .val (.int (7 : Int32)), .val (.int (15 : Int32)), .val (.int (-1 : Int32)), .val (.int (11 : Int32))] [(.int (-1 : Int32)), (.int (11 : Int32)), (.ref a1)])) rfl rfl (hb hby d6_20)
  have f11_115 := f9_94.wr W10 (Or.inl (List.mem_of_getElem? (i := 0) rfl))
  have Zs11 : n0 ≤ h10.size := by rw [W10.size]; exact Zs9
  refine Go.by st10 ?_
  show Go p.tables e below _ (T10.setTop (mkF m 21 #[.val (.ref a1), .val (.int (7 : Int32)), .val (.int (15 : Int32)), .val (.int (-1 : Int32)), .val (.int (11 : Int32))] []))
  refine Go.by (fun _ => XS.iinc X10.here hx rfl (hb hby d6_21) rfl (l' := #[.val (.ref a1), .val (.int (7 : Int32)), .val (.int (15 : Int32)), .val (.int (-1 : Int32)), .val (.int (12 : Int32))]) rfl) ?_
  show Go p.tables e below _ (T10.setTop (mkF m 24 #[.val (.ref a1), .val (.int (7 : Int32)), .val (.int (15 : Int32)), .val (.int (-1 : Int32)), .val (.int (12 : Int32))] []))
  refine Go.by (fun _ => XS.goto X10.here hx rfl (pc0 := 24) (pc' := 10) rfl (hb hby d6_24) (by decide) (by decide)) ?_
  show Go p.tables e below _ (T10.setTop (mkF m 10 #[.val (.ref a1), .val (.int (7 : Int32)), .val (.int (15 : Int32)), .val (.int (-1 : Int32)), .val (.int (12 : Int32))] []))
  refine Go.by (fun _ => XS.iload X10.here hx rfl (hb hby d6_10) rfl) ?_
  show Go p.tables e below _ (T10.setTop (mkF m 12 #[.val (.ref a1), .val (.int (7 : Int32)), .val (.int (15 : Int32)), .val (.int (-1 : Int32)), .val (.int (12 : Int32))] [(.int (12 : Int32))]))
  refine Go.by (fun _ => XS.iloadN X10.here hx rfl (hb hby d6_12) rfl) ?_
  show Go p.tables e below _ (T10.setTop (mkF m 13 #[.val (.ref a1), .val (.int (7 : Int32)), .val (.int (15 : Int32)), .val (.int (-1 : Int32)), .val (.int (12 : Int32))] [(.int (15 : Int32)), (.int (12 : Int32))]))
  refine Go.by (fun _ => XS.icmpNo X10.here hx rfl (hb hby d6_13) rfl (tlt (by decide)).2.1) ?_
  show Go p.tables e below _ (T10.setTop (mkF m 16 #[.val (.ref a1), .val (.int (7 : Int32)), .val (.int (15 : Int32)), .val (.int (-1 : Int32)), .val (.int (12 : Int32))] []))
  refine Go.by (fun _ => XS.aloadN X10.here hx rfl (hb hby d6_16) rfl rfl) ?_
  show Go p.tables e below _ (T10.setTop (mkF m 17 #[.val (.ref a1), .val (.int (7 : Int32)), .val (.int (15 : Int32)), .val (.int (-1 : Int32)), .val (.int (12 : Int32))] [(.ref a1)]))
  refine Go.by (fun _ => XS.iload X10.here hx rfl (hb hby d6_17) rfl) ?_
  show Go p.tables e below _ (T10.setTop (mkF m 19 #[.val (.ref a1), .val (.int (7 : Int32)), .val (.int (15 : Int32)), .val (.int (-1 : Int32)), .val (.int (12 : Int32))] [(.int (12 : Int32)), (.ref a1)]))
  refine Go.by (fun _ => XS.iloadN X10.here hx rfl (hb hby d6_19) rfl) ?_
  show Go p.tables e below _ (T10.setTop (mkF m 20 #[.val (.ref a1), .val (.int (7 : Int32)), .val (.int (15 : Int32)), .val (.int (-1 : Int32)), .val (.int (12 : Int32))] [(.int (-1 : Int32)), (.int (12 : Int32)), (.ref a1)]))
  obtain ⟨T12, h12, X12, W12, V12, st12⟩ := X10.stB hx hZ V10 g_a1 (by decide) (i := 12) rfl (by decide) (g := (mkF m 20 #[.val (.ref a1), .val (.int (7 : Int32)), .val (.int (15 : Int32)), .val (.int (-1 : Int32)), .val (.int (12 : Int32))] [(.int (-1 : Int32)), (.int (12 : Int32)), (.ref a1)])) rfl rfl (hb hby d6_20)
  have f13_136 := f11_115.wr W12 (Or.inl (List.mem_of_getElem? (i := 0) rfl))
  have Zs13 : n0 ≤ h12.size := by rw [W12.size]; exact Zs11
  refine Go.by st12 ?_
  show Go p.tables e below _ (T12.setTop (mkF m 21 #[.val (.ref a1), .val (.int (7 : Int32)), .val (.int (15 : Int32)), .val (.int (-1 : Int32)), .val (.int (12 : Int32))] []))
  refine Go.by (fun _ => XS.iinc X12.here hx rfl (hb hby d6_21) rfl (l' := #[.val (.ref a1), .val (.int (7 : Int32)), .val (.int (15 : Int32)), .val (.int (-1 : Int32)), .val (.int (13 : Int32))]) rfl) ?_
  show Go p.tables e below _ (T12.setTop (mkF m 24 #[.val (.ref a1), .val (.int (7 : Int32)), .val (.int (15 : Int32)), .val (.int (-1 : Int32)), .val (.int (13 : Int32))] []))
  refine Go.by (fun _ => XS.goto X12.here hx rfl (pc0 := 24) (pc' := 10) rfl (hb hby d6_24) (by decide) (by decide)) ?_
  show Go p.tables e below _ (T12.setTop (mkF m 10 #[.val (.ref a1), .val (.int (7 : Int32)), .val (.int (15 : Int32)), .val (.int (-1 : Int32)), .val (.int (13 : Int32))] []))
  refine Go.by (fun _ => XS.iload X12.here hx rfl (hb hby d6_10) rfl) ?_
  show Go p.tables e below _ (T12.setTop (mkF m 12 #[.val (.ref a1), .val (.int (7 : Int32)), .val (.int (15 : Int32)), .val (.int (-1 : Int32)), .val (.int (13 : Int32))] [(.int (13 : Int32))]))
  refine Go.by (fun _ => XS.iloadN X12.here hx rfl (hb hby d6_12) rfl) ?_
  show Go p.tables e below _ (T12.setTop (mkF m 13 #[.val (.ref a1), .val (.int (7 : Int32)), .val (.int (15 : Int32)), .val (.int (-1 : Int32)), .val (.int (13 : Int32))] [(.int (15 : Int32)), (.int (13 : Int32))]))
  refine Go.by (fun _ => XS.icmpNo X12.here hx rfl (hb hby d6_13) rfl (tlt (by decide)).2.1) ?_
  show Go p.tables e below _ (T12.setTop (mkF m 16 #[.val (.ref a1), .val (.int (7 : Int32)), .val (.int (15 : Int32)), .val (.int (-1 : Int32)), .val (.int (13 : Int32))] []))
  refine Go.by (fun _ => XS.aloadN X12.here hx rfl (hb hby d6_16) rfl rfl) ?_
  show Go p.tables e below _ (T12.setTop (mkF m 17 #[.val (.ref a1), .val (.int (7 : Int32)), .val (.int (15 : Int32)), .val (.int (-1 : Int32)), .val (.int (13 : Int32))] [(.ref a1)]))
  refine Go.by (fun _ => XS.iload X12.here hx rfl (hb hby d6_17) rfl) ?_
  show Go p.tables e below _ (T12.setTop (mkF m 19 #[.val (.ref a1), .val (.int (7 : Int32)), .val (.int (15 : Int32)), .val (.int (-1 : Int32)), .val (.int (13 : Int32))] [(.int (13 : Int32)), (.ref a1)]))
  refine Go.by (fun _ => XS.iloadN X12.here hx rfl (hb hby d6_19) rfl) ?_
  show Go p.tables e below _ (T12.setTop (mkF m 20 #[.val (.ref a1), .val (.int (7 : Int32)), .val (.int (15 : Int32)), .val (.int (-1 : Int32)), .val (.int (13 : Int32))] [(.int (-1 : Int32)), (.int (13 : Int32)), (.ref a1)]))
  obtain ⟨T14, h14, X14, W14, V14, st14⟩ := X12.stB hx hZ V12 g_a1 (by decide) (i := 13) rfl (by decide) (g := (mkF m 20 #[.val (.ref a1), .val (.int (7 : Int32)), .val (.int (15 : Int32)), .val (.int (-1 : Int32)), .val (.int (13 : Int32))] [(.int (-1 : Int32)), (.int (13 : Int32)), (.ref a1)])) rfl rfl (hb hby d6_20)
  have f15_157 := f13_136.wr W14 (Or.inl (List.mem_of_getElem? (i := 0) rfl))
  have Zs15 : n0 ≤ h14.size := by rw [W14.size]; exact Zs13
  refine Go.by st14 ?_
  show Go p.tables e below _ (T14.setTop (mkF m 21 #[.val (.ref a1), .val (.int (7 : Int32)), .val (.int (15 : Int32)), .val (.int (-1 : Int32)), .val (.int (13 : Int32))] []))
  refine Go.by (fun _ => XS.iinc X14.here hx rfl (hb hby d6_21) rfl (l' := #[.val (.ref a1), .val (.int (7 : Int32)), .val (.int (15 : Int32)), .val (.int (-1 : Int32)), .val (.int (14 : Int32))]) rfl) ?_
  show Go p.tables e below _ (T14.setTop (mkF m 24 #[.val (.ref a1), .val (.int (7 : Int32)), .val (.int (15 : Int32)), .val (.int (-1 : Int32)), .val (.int (14 : Int32))] []))
  refine Go.by (fun _ => XS.goto X14.here hx rfl (pc0 := 24) (pc' := 10) rfl (hb hby d6_24) (by decide) (by decide)) ?_
  show Go p.tables e below _ (T14.setTop (mkF m 10 #[.val (.ref a1), .val (.int (7 : Int32)), .val (.int (15 : Int32)), .val (.int (-1 : Int32)), .val (.int (14 : Int32))] []))
  refine Go.by (fun _ => XS.iload X14.here hx rfl (hb hby d6_10) rfl) ?_
  show Go p.tables e below _ (T14.setTop (mkF m 12 #[.val (.ref a1), .val (.int (7 : Int32)), .val (.int (15 : Int32)), .val (.int (-1 : Int32)), .val (.int (14 : Int32))] [(.int (14 : Int32))]))
  refine Go.by (fun _ => XS.iloadN X14.here hx rfl (hb hby d6_12) rfl) ?_
  show Go p.tables e below _ (T14.setTop (mkF m 13 #[.val (.ref a1), .val (.int (7 : Int32)), .val (.int (15 : Int32)), .val (.int (-1 : Int32)), .val (.int (14 : Int32))] [(.int (15 : Int32)), (.int (14 : Int32))]))
  refine Go.by (fun _ => XS.icmpNo X14.here hx rfl (hb hby d6_13) rfl (tlt (by decide)).2.1) ?_
  show Go p.tables e below _ (T14.setTop (mkF m 16 #[.val (.ref a1), .val (.int (7 : Int32)), .val (.int (15 : Int32)), .val (.int (-1 : Int32)), .val (.int (14 : Int32))] []))
  refine Go.by (fun _ => XS.aloadN X14.here hx rfl (hb hby d6_16) rfl rfl) ?_
  show Go p.tables e below _ (T14.setTop (mkF m 17 #[.val (.ref a1), .val (.int (7 : Int32)), .val (.int (15 : Int32)), .val (.int (-1 : Int32)), .val (.int (14 : Int32))] [(.ref a1)]))
  refine Go.by (fun _ => XS.iload X14.here hx rfl (hb hby d6_17) rfl) ?_
  show Go p.tables e below _ (T14.setTop (mkF m 19 #[.val (.ref a1), .val (.int (7 : Int32)), .val (.int (15 : Int32)), .val (.int (-1 : Int32)), .val (.int (14 : Int32))] [(.int (14 : Int32)), (.ref a1)]))
  refine Go.by (fun _ => XS.iloadN X14.here hx rfl (hb hby d6_19) rfl) ?_
  show Go p.tables e below _ (T14.setTop (mkF m 20 #[.val (.ref a1), .val (.int (7 : Int32)), .val (.int (15 : Int32)), .val (.int (-1 : Int32)), .val (.int (14 : Int32))] [(.int (-1 : Int32)), (.int (14 : Int32)), (.ref a1)]))
  obtain ⟨T16, h16, X16, W16, V16, st16⟩ := X14.stB hx hZ V14 g_a1 (by decide) (i := 14) rfl (by decide) (g := (mkF m 20 #[.val (.ref a1), .val (.int (7 : Int32)), .val (.int (15 : Int32)), .val (.int (-1 : Int32)), .val (.int (14 : Int32))] [(.int (-1 : Int32)), (.int (14 : Int32)), (.ref a1)])) rfl rfl (hb hby d6_20)
  have f17_178 := f15_157.wr W16 (Or.inl (List.mem_of_getElem? (i := 0) rfl))
  have Zs17 : n0 ≤ h16.size := by rw [W16.size]; exact Zs15
  refine Go.by st16 ?_
  show Go p.tables e below _ (T16.setTop (mkF m 21 #[.val (.ref a1), .val (.int (7 : Int32)), .val (.int (15 : Int32)), .val (.int (-1 : Int32)), .val (.int (14 : Int32))] []))
  refine Go.by (fun _ => XS.iinc X16.here hx rfl (hb hby d6_21) rfl (l' := #[.val (.ref a1), .val (.int (7 : Int32)), .val (.int (15 : Int32)), .val (.int (-1 : Int32)), .val (.int (15 : Int32))]) rfl) ?_
  show Go p.tables e below _ (T16.setTop (mkF m 24 #[.val (.ref a1), .val (.int (7 : Int32)), .val (.int (15 : Int32)), .val (.int (-1 : Int32)), .val (.int (15 : Int32))] []))
  refine Go.by (fun _ => XS.goto X16.here hx rfl (pc0 := 24) (pc' := 10) rfl (hb hby d6_24) (by decide) (by decide)) ?_
  show Go p.tables e below _ (T16.setTop (mkF m 10 #[.val (.ref a1), .val (.int (7 : Int32)), .val (.int (15 : Int32)), .val (.int (-1 : Int32)), .val (.int (15 : Int32))] []))
  refine Go.by (fun _ => XS.iload X16.here hx rfl (hb hby d6_10) rfl) ?_
  show Go p.tables e below _ (T16.setTop (mkF m 12 #[.val (.ref a1), .val (.int (7 : Int32)), .val (.int (15 : Int32)), .val (.int (-1 : Int32)), .val (.int (15 : Int32))] [(.int (15 : Int32))]))
  refine Go.by (fun _ => XS.iloadN X16.here hx rfl (hb hby d6_12) rfl) ?_
  show Go p.tables e below _ (T16.setTop (mkF m 13 #[.val (.ref a1), .val (.int (7 : Int32)), .val (.int (15 : Int32)), .val (.int (-1 : Int32)), .val (.int (15 : Int32))] [(.int (15 : Int32)), (.int (15 : Int32))]))
  refine Go.by (fun _ => XS.icmpYes X16.here hx rfl (pc0 := 13) (pc' := 27) rfl (hb hby d6_13) rfl (flt (by decide)).2.1 (by decide) (by decide)) ?_
  show Go p.tables e below _ (T16.setTop (mkF m 27 #[.val (.ref a1), .val (.int (7 : Int32)), .val (.int (15 : Int32)), .val (.int (-1 : Int32)), .val (.int (15 : Int32))] []))
  refine Go.ret0 X16 hx hlk hret (hb hby d6_27) (by decide) (by decide) ?_
  refine ⟨rfl, f17_178, Avf.cong V16 (fun i hi => ?_)⟩
  by_cases q : i < 7
  · have y0 : ¬ i = 7 := by omega
    have y1 : ¬ i = 8 := by omega
    have y2 : ¬ i = 9 := by omega
    have y3 : ¬ i = 10 := by omega
    have y4 : ¬ i = 11 := by omega
    have y5 : ¬ i = 12 := by omega
    have y6 : ¬ i = 13 := by omega
    have y7 : ¬ i = 14 := by omega
    simp [q, y0, y1, y2, y3, y4, y5, y6, y7]
  · have y : i = 7 ∨ i = 8 ∨ i = 9 ∨ i = 10 ∨ i = 11 ∨ i = 12 ∨ i = 13 ∨ i = 14 := by omega
    rcases y with rfl | rfl | rfl | rfl | rfl | rfl | rfl | rfl <;> rfl
abbrev Rm3_7 : Room := { frames := 2, cells := 1, slots := 16, locals := 32 }
set_option maxRecDepth 65536 in
set_option maxHeartbeats 40000000 in
theorem rm3_7 (l : Launch) (Z : State) (a0 : Array Value) (hw : ∀ d ∈ tables_1, d.before a0 Z = true) (ws : List Jvm.Cond) (a1 : Addr) (kc : ClassId) (fi : Nat → Int32) (h0 : Heap) (n0 : Nat) (Z0 : n0 ≤ h0.size) (V_a : Avf Z h0 a1 kc .byte 7 (fun t => (.int (fi t)))) :
    Met l Z n0 (⟨"com/example/clio/clio/Layout", "pastEntries", "([B)[B"⟩ : MethodName) prog_20_method_22_code 2 (some (.array .byte)) ws Rm3_7 #[(.ref a1)] h0 (fun v h => ∃ r kr, v = some (.ref r) ∧ h0.size ≤ r ∧ Keep h0 h [] ∧ Avf Z h r kr .byte (7 + 8) (fun t => (.int (if t < 7 then fi t else -1)))) := by
  refine enter (Ls := #[.val (.ref a1), .unset]) (plainFor_of_name pn2) (fun m => by first | (simp [entryFrame, mkF, argsToLocals, Value.category]; done) | rfl) ?_
  intro p e s m below meth c T0 hx hby hml hown hnm hret hlk hZ X0
  have K0 := Keep.refl h0 []
  show Go p.tables e below _ (T0.setTop (mkF m 0 #[.val (.ref a1), .unset] []))
  refine Go.by (fun _ => XS.aloadN X0.here hx rfl (hb hby d3_0) rfl rfl) ?_
  show Go p.tables e below _ (T0.setTop (mkF m 1 #[.val (.ref a1), .unset] [(.ref a1)]))
  refine Go.by (fun _ => XS.aloadN X0.here hx rfl (hb hby d3_1) rfl rfl) ?_
  show Go p.tables e below _ (T0.setTop (mkF m 2 #[.val (.ref a1), .unset] [(.ref a1), (.ref a1)]))
  refine Go.by (X0.len hx hZ V_a (z := (7 : Int32)) rfl (g := (mkF m 2 #[.val (.ref a1), .unset] [(.ref a1), (.ref a1)])) rfl rfl (hb hby d3_2)) ?_
  show Go p.tables e below _ (T0.setTop (mkF m 3 #[.val (.ref a1), .unset] [(.int (7 : Int32)), (.ref a1)]))
  refine Go.by (fun _ => XS.bipush X0.here hx rfl (hb hby d3_3)) ?_
  show Go p.tables e below _ (T0.setTop (mkF m 5 #[.val (.ref a1), .unset] [(.int (8 : Int32)), (.int (7 : Int32)), (.ref a1)]))
  refine Go.by (fun _ => XS.iadd X0.here hx rfl (hb hby d3_5) rfl) ?_
  show Go p.tables e below _ (T0.setTop (mkF m 6 #[.val (.ref a1), .unset] [(.int (15 : Int32)), (.ref a1)]))
  obtain ⟨v1, T1, h1, X1, q1, st1⟩ := X0.callS hx hZ (y := (⟨"java/util/Arrays", "copyOf", "([BI)[B"⟩ : MethodName)) hown (tw hw 13 rfl) (tw hw 14 rfl) (tw hw 15 rfl) (tw hw 16 rfl) (by decide) (rm4_7 l Z a0 hw [] a1 kc fi h0 n0 Z0 V_a) (g := (mkF m 6 #[.val (.ref a1), .unset] [(.int (15 : Int32)), (.ref a1)])) rfl (by rw [hml]; rfl) (argsL := [(.ref a1), (.int (15 : Int32))]) (rest := []) (lenOf pd3 rfl) rfl (hb hby d3_6) rfl (by decide) (Nat.le_of_ble_eq_true rfl) (k' := 1) (n' := 16) rfl rfl (by decide) (by decide)
  refine Go.by st1 ?_
  obtain ⟨r1, kr1, rfl, sr1, K1, V1⟩ := q1
  have g_r1 : n0 ≤ r1 := Nat.le_trans Z0 sr1
  have sz_r1 : h0.size ≤ r1 := Nat.le_trans K0.1 sr1
  have ne_a1_r1 : a1 ≠ r1 := Nat.ne_of_lt (Nat.lt_of_lt_of_le V_a.lt sr1)
  have f2_18 := Avf.ext V_a (keep_ext K1)
  have f2_19 := K0.ext (keep_ext K1)
  have Zs2 : n0 ≤ h1.size := Nat.le_trans Z0 (keep_ext K1).1
  show Go p.tables e below _ (T1.setTop (mkF m 9 #[.val (.ref a1), .unset] [(.ref r1)]))
  refine Go.by (fun _ => XS.astoreN X1.here hx rfl (hb hby d3_9) rfl rfl (l' := #[.val (.ref a1), .val (.ref r1)]) rfl) ?_
  show Go p.tables e below _ (T1.setTop (mkF m 10 #[.val (.ref a1), .val (.ref r1)] []))
  refine Go.by (fun _ => XS.aloadN X1.here hx rfl (hb hby d3_10) rfl rfl) ?_
  show Go p.tables e below _ (T1.setTop (mkF m 11 #[.val (.ref a1), .val (.ref r1)] [(.ref r1)]))
  refine Go.by (fun _ => XS.aloadN X1.here hx rfl (hb hby d3_11) rfl rfl) ?_
  show Go p.tables e below _ (T1.setTop (mkF m 12 #[.val (.ref a1), .val (.ref r1)] [(.ref a1), (.ref r1)]))
  refine Go.by (X1.len hx hZ f2_18 (z := (7 : Int32)) rfl (g := (mkF m 12 #[.val (.ref a1), .val (.ref r1)] [(.ref a1), (.ref r1)])) rfl rfl (hb hby d3_12)) ?_
  show Go p.tables e below _ (T1.setTop (mkF m 13 #[.val (.ref a1), .val (.ref r1)] [(.int (7 : Int32)), (.ref r1)]))
  refine Go.by (fun _ => XS.aloadN X1.here hx rfl (hb hby d3_13) rfl rfl) ?_
  show Go p.tables e below _ (T1.setTop (mkF m 14 #[.val (.ref a1), .val (.ref r1)] [(.ref r1), (.int (7 : Int32)), (.ref r1)]))
  refine Go.by (X1.len hx hZ V1 (z := (15 : Int32)) rfl (g := (mkF m 14 #[.val (.ref a1), .val (.ref r1)] [(.ref r1), (.int (7 : Int32)), (.ref r1)])) rfl rfl (hb hby d3_14)) ?_
  show Go p.tables e below _ (T1.setTop (mkF m 15 #[.val (.ref a1), .val (.ref r1)] [(.int (15 : Int32)), (.int (7 : Int32)), (.ref r1)]))
  refine Go.by (fun _ => XS.iconst X1.here hx rfl (hb hby d3_15)) ?_
  show Go p.tables e below _ (T1.setTop (mkF m 16 #[.val (.ref a1), .val (.ref r1)] [(.int (-1 : Int32)), (.int (15 : Int32)), (.int (7 : Int32)), (.ref r1)]))
  obtain ⟨v3, T3, h3, X3, q3, st3⟩ := X1.callS hx hZ (y := (⟨"java/util/Arrays", "fill", "([BIIB)V"⟩ : MethodName)) hown (tw hw 25 rfl) (tw hw 26 rfl) (tw hw 15 rfl) (tw hw 27 rfl) (by decide) (rm6_7 l Z a0 hw [] r1 kr1 (fun t => if t < 7 then fi t else 0) h1 n0 Zs2 g_r1 V1) (g := (mkF m 16 #[.val (.ref a1), .val (.ref r1)] [(.int (-1 : Int32)), (.int (15 : Int32)), (.int (7 : Int32)), (.ref r1)])) rfl (by rw [hml]; rfl) (argsL := [(.ref r1), (.int (7 : Int32)), (.int (15 : Int32)), (.int (-1 : Int32))]) (rest := []) (lenOf pd4 rfl) rfl (hb hby d3_16) rfl (by decide) (Nat.le_of_ble_eq_true rfl) (k' := 1) (n' := 16) rfl rfl (by decide) (by decide)
  refine Go.by st3 ?_
  obtain ⟨rfl, K3, V3⟩ := q3
  have f4_39 := Avf.keep f2_18 K3 (ninS ne_a1_r1 nin0)
  have f4_40 := f2_19.trans K3 (allS (Or.inr sz_r1) all0)
  have Zs4 : n0 ≤ h3.size := Nat.le_trans Zs2 K3.1
  show Go p.tables e below _ (T3.setTop (mkF m 19 #[.val (.ref a1), .val (.ref r1)] []))
  refine Go.by (fun _ => XS.aloadN X3.here hx rfl (hb hby d3_19) rfl rfl) ?_
  show Go p.tables e below _ (T3.setTop (mkF m 20 #[.val (.ref a1), .val (.ref r1)] [(.ref r1)]))
  refine Go.retA X3 hx hlk hret rfl rfl (hb hby d3_20) (by decide) (by decide) ?_
  refine ⟨r1, kr1, rfl, sz_r1, f4_40, Avf.cong V3 (fun i hi => ?_)⟩
  by_cases q : i < 7 <;> first | (simp [q]; done) | (simp [q]; rfl)
abbrev Rm5_8 : Room := { frames := 0, cells := 0, slots := 0, locals := 0 }
set_option maxRecDepth 65536 in
set_option maxHeartbeats 40000000 in
theorem rm5_8 (l : Launch) (Z : State) (a0 : Array Value) (hw : ∀ d ∈ tables_1, d.before a0 Z = true) (ws : List Jvm.Cond)  (h0 : Heap) (n0 : Nat) (Z0 : n0 ≤ h0.size) :
    Met l Z n0 (⟨"java/lang/Math", "min", "(II)I"⟩ : MethodName) jdk_29_method_69_code 2 (some .int) ws Rm5_8 #[(.int (8 : Int32)), (.int (16 : Int32))] h0 (fun v h => v = some (.int (8 : Int32)) ∧ h0 = h) := by
  refine enter (Ls := #[.val (.int (8 : Int32)), .val (.int (16 : Int32))]) (Jvm.Free.JP.mathPlain rfl (by decide +kernel)) (fun m => by first | (simp [entryFrame, mkF, argsToLocals, Value.category]; done) | rfl) ?_
  intro p e s m below meth c T0 hx hby hml hown hnm hret hlk hZ X0
  show Go p.tables e below _ (T0.setTop (mkF m 0 #[.val (.int (8 : Int32)), .val (.int (16 : Int32))] []))
  refine Go.by (fun _ => XS.iloadN X0.here hx rfl (hb hby d5_0) rfl) ?_
  show Go p.tables e below _ (T0.setTop (mkF m 1 #[.val (.int (8 : Int32)), .val (.int (16 : Int32))] [(.int (8 : Int32))]))
  refine Go.by (fun _ => XS.iloadN X0.here hx rfl (hb hby d5_1) rfl) ?_
  show Go p.tables e below _ (T0.setTop (mkF m 2 #[.val (.int (8 : Int32)), .val (.int (16 : Int32))] [(.int (16 : Int32)), (.int (8 : Int32))]))
  refine Go.by (fun _ => XS.icmpNo X0.here hx rfl (hb hby d5_2) rfl (flt (by decide)).2.2.1) ?_
  show Go p.tables e below _ (T0.setTop (mkF m 5 #[.val (.int (8 : Int32)), .val (.int (16 : Int32))] []))
  refine Go.by (fun _ => XS.iloadN X0.here hx rfl (hb hby d5_5) rfl) ?_
  show Go p.tables e below _ (T0.setTop (mkF m 6 #[.val (.int (8 : Int32)), .val (.int (16 : Int32))] [(.int (8 : Int32))]))
  refine Go.by (fun _ => XS.goto X0.here hx rfl (pc0 := 6) (pc' := 10) rfl (hb hby d5_6) (by decide) (by decide)) ?_
  show Go p.tables e below _ (T0.setTop (mkF m 10 #[.val (.int (8 : Int32)), .val (.int (16 : Int32))] [(.int (8 : Int32))]))
  exact Go.retI X0 hx hlk hret (hb hby d5_10) (by decide) (by decide) ⟨rfl, rfl⟩
abbrev Rm7_8 : Room := { frames := 0, cells := 0, slots := 0, locals := 0 }
set_option maxRecDepth 65536 in
set_option maxHeartbeats 40000000 in
theorem rm7_8 (l : Launch) (Z : State) (a0 : Array Value) (hw : ∀ d ∈ tables_1, d.before a0 Z = true) (ws : List Jvm.Cond)  (h0 : Heap) (n0 : Nat) (Z0 : n0 ≤ h0.size) :
    Met l Z n0 (⟨"java/util/Arrays", "rangeCheck", "(III)V"⟩ : MethodName) jdk_65_method_30_code 3 none ws Rm7_8 #[(.int (16 : Int32)), (.int (8 : Int32)), (.int (16 : Int32))] h0 (fun v h => v = none ∧ h0 = h) := by
  refine enter (Ls := #[.val (.int (16 : Int32)), .val (.int (8 : Int32)), .val (.int (16 : Int32))]) (plainFor_of_name pn1) (fun m => by first | (simp [entryFrame, mkF, argsToLocals, Value.category]; done) | rfl) ?_
  intro p e s m below meth c T0 hx hby hml hown hnm hret hlk hZ X0
  show Go p.tables e below _ (T0.setTop (mkF m 0 #[.val (.int (16 : Int32)), .val (.int (8 : Int32)), .val (.int (16 : Int32))] []))
  refine Go.by (fun _ => XS.iloadN X0.here hx rfl (hb hby d7_0) rfl) ?_
  show Go p.tables e below _ (T0.setTop (mkF m 1 #[.val (.int (16 : Int32)), .val (.int (8 : Int32)), .val (.int (16 : Int32))] [(.int (8 : Int32))]))
  refine Go.by (fun _ => XS.iloadN X0.here hx rfl (hb hby d7_1) rfl) ?_
  show Go p.tables e below _ (T0.setTop (mkF m 2 #[.val (.int (16 : Int32)), .val (.int (8 : Int32)), .val (.int (16 : Int32))] [(.int (16 : Int32)), (.int (8 : Int32))]))
  refine Go.by (fun _ => XS.icmpYes X0.here hx rfl (pc0 := 2) (pc' := 46) rfl (hb hby d7_2) rfl (flt (by decide)).2.2.2 (by decide) (by decide)) ?_
  show Go p.tables e below _ (T0.setTop (mkF m 46 #[.val (.int (16 : Int32)), .val (.int (8 : Int32)), .val (.int (16 : Int32))] []))
  refine Go.by (fun _ => XS.iloadN X0.here hx rfl (hb hby d7_46) rfl) ?_
  show Go p.tables e below _ (T0.setTop (mkF m 47 #[.val (.int (16 : Int32)), .val (.int (8 : Int32)), .val (.int (16 : Int32))] [(.int (8 : Int32))]))
  refine Go.by (fun _ => XS.ifYes X0.here hx rfl (pc0 := 47) (pc' := 59) rfl (hb hby d7_47) rfl ((if0 _ _).trans (flt (by decide)).2.1) (by decide) (by decide)) ?_
  show Go p.tables e below _ (T0.setTop (mkF m 59 #[.val (.int (16 : Int32)), .val (.int (8 : Int32)), .val (.int (16 : Int32))] []))
  refine Go.by (fun _ => XS.iloadN X0.here hx rfl (hb hby d7_59) rfl) ?_
  show Go p.tables e below _ (T0.setTop (mkF m 60 #[.val (.int (16 : Int32)), .val (.int (8 : Int32)), .val (.int (16 : Int32))] [(.int (16 : Int32))]))
  refine Go.by (fun _ => XS.iloadN X0.here hx rfl (hb hby d7_60) rfl) ?_
  show Go p.tables e below _ (T0.setTop (mkF m 61 #[.val (.int (16 : Int32)), .val (.int (8 : Int32)), .val (.int (16 : Int32))] [(.int (16 : Int32)), (.int (16 : Int32))]))
  refine Go.by (fun _ => XS.icmpYes X0.here hx rfl (pc0 := 61) (pc' := 73) rfl (hb hby d7_61) rfl (flt (by decide)).2.2.2 (by decide) (by decide)) ?_
  show Go p.tables e below _ (T0.setTop (mkF m 73 #[.val (.int (16 : Int32)), .val (.int (8 : Int32)), .val (.int (16 : Int32))] []))
  exact Go.ret0 X0 hx hlk hret (hb hby d7_73) (by decide) (by decide) ⟨rfl, rfl⟩
abbrev Rm4_8 : Room := { frames := 1, cells := 1, slots := 16, locals := 18 }
set_option maxRecDepth 65536 in
set_option maxHeartbeats 40000000 in
theorem rm4_8 (l : Launch) (Z : State) (a0 : Array Value) (hw : ∀ d ∈ tables_1, d.before a0 Z = true) (ws : List Jvm.Cond) (a1 : Addr) (kc : ClassId) (fi : Nat → Int32) (h0 : Heap) (n0 : Nat) (Z0 : n0 ≤ h0.size) (V_a : Avf Z h0 a1 kc .byte 8 (fun t => (.int (fi t)))) :
    Met l Z n0 (⟨"java/util/Arrays", "copyOf", "([BI)[B"⟩ : MethodName) jdk_65_method_121_code 3 (some (.array .byte)) ws Rm4_8 #[(.ref a1), (.int (16 : Int32))] h0 (fun v h => ∃ r kr, v = some (.ref r) ∧ h0.size ≤ r ∧ Keep h0 h [] ∧ Avf Z h r kr .byte (8 + 8) (fun t => (.int (if t < 8 then fi t else 0)))) := by
  refine enter (Ls := #[.val (.ref a1), .val (.int (16 : Int32)), .unset]) (plainFor_of_name pn1) (fun m => by first | (simp [entryFrame, mkF, argsToLocals, Value.category]; done) | rfl) ?_
  intro p e s m below meth c T0 hx hby hml hown hnm hret hlk hZ X0
  have K0 := Keep.refl h0 []
  show Go p.tables e below _ (T0.setTop (mkF m 0 #[.val (.ref a1), .val (.int (16 : Int32)), .unset] []))
  refine Go.by (fun _ => XS.iloadN X0.here hx rfl (hb hby d4_0) rfl) ?_
  show Go p.tables e below _ (T0.setTop (mkF m 1 #[.val (.ref a1), .val (.int (16 : Int32)), .unset] [(.int (16 : Int32))]))
  refine Go.by (fun _ => XS.aloadN X0.here hx rfl (hb hby d4_1) rfl rfl) ?_
  show Go p.tables e below _ (T0.setTop (mkF m 2 #[.val (.ref a1), .val (.int (16 : Int32)), .unset] [(.ref a1), (.int (16 : Int32))]))
  refine Go.by (X0.len hx hZ V_a (z := (8 : Int32)) rfl (g := (mkF m 2 #[.val (.ref a1), .val (.int (16 : Int32)), .unset] [(.ref a1), (.int (16 : Int32))])) rfl rfl (hb hby d4_2)) ?_
  show Go p.tables e below _ (T0.setTop (mkF m 3 #[.val (.ref a1), .val (.int (16 : Int32)), .unset] [(.int (8 : Int32)), (.int (16 : Int32))]))
  refine Go.by (fun _ => XS.icmpYes X0.here hx rfl (pc0 := 3) (pc' := 14) rfl (hb hby d4_3) rfl (feq (by decide)).2 (by decide) (by decide)) ?_
  show Go p.tables e below _ (T0.setTop (mkF m 14 #[.val (.ref a1), .val (.int (16 : Int32)), .unset] []))
  refine Go.by (fun _ => XS.iloadN X0.here hx rfl (hb hby d4_14) rfl) ?_
  show Go p.tables e below _ (T0.setTop (mkF m 15 #[.val (.ref a1), .val (.int (16 : Int32)), .unset] [(.int (16 : Int32))]))
  obtain ⟨T1, h1, kc1, b1, X1, g1, E1, A1, V1, st1⟩ := X0.newP hx hZ (tw hw 1 rfl) (g := (mkF m 15 #[.val (.ref a1), .val (.int (16 : Int32)), .unset] [(.int (16 : Int32))])) rfl (hb hby d4_15) rfl (by decide) (sz := 16) (cap := 16) (k' := 1) (n' := 16) rfl (by decide) (by decide) rfl rfl (by decide) (by decide) (ad := "[B") (by decide)
  have g_b1 : n0 ≤ b1 := by rw [g1]; exact Z0
  have sz_b1 : h0.size ≤ b1 := by rw [g1]; exact K0.1
  have ne_a1_b1 : a1 ≠ b1 := Nat.ne_of_lt (by rw [g1]; exact V_a.lt)
  have f2_16 := Avf.ext V_a E1
  have f2_17 := K0.ext E1
  have Zs2 : n0 ≤ h1.size := Nat.le_trans Z0 E1.1
  refine Go.by st1 ?_
  show Go p.tables e below _ (T1.setTop (mkF m 17 #[.val (.ref a1), .val (.int (16 : Int32)), .unset] [(.ref b1)]))
  refine Go.by (fun _ => XS.astoreN X1.here hx rfl (hb hby d4_17) rfl rfl (l' := #[.val (.ref a1), .val (.int (16 : Int32)), .val (.ref b1)]) rfl) ?_
  show Go p.tables e below _ (T1.setTop (mkF m 18 #[.val (.ref a1), .val (.int (16 : Int32)), .val (.ref b1)] []))
  refine Go.by (fun _ => XS.aloadN X1.here hx rfl (hb hby d4_18) rfl rfl) ?_
  show Go p.tables e below _ (T1.setTop (mkF m 19 #[.val (.ref a1), .val (.int (16 : Int32)), .val (.ref b1)] [(.ref a1)]))
  refine Go.by (fun _ => XS.iconst X1.here hx rfl (hb hby d4_19)) ?_
  show Go p.tables e below _ (T1.setTop (mkF m 20 #[.val (.ref a1), .val (.int (16 : Int32)), .val (.ref b1)] [(.int (0 : Int32)), (.ref a1)]))
  refine Go.by (fun _ => XS.aloadN X1.here hx rfl (hb hby d4_20) rfl rfl) ?_
  show Go p.tables e below _ (T1.setTop (mkF m 21 #[.val (.ref a1), .val (.int (16 : Int32)), .val (.ref b1)] [(.ref b1), (.int (0 : Int32)), (.ref a1)]))
  refine Go.by (fun _ => XS.iconst X1.here hx rfl (hb hby d4_21)) ?_
  show Go p.tables e below _ (T1.setTop (mkF m 22 #[.val (.ref a1), .val (.int (16 : Int32)), .val (.ref b1)] [(.int (0 : Int32)), (.ref b1), (.int (0 : Int32)), (.ref a1)]))
  refine Go.by (fun _ => XS.aloadN X1.here hx rfl (hb hby d4_22) rfl rfl) ?_
  show Go p.tables e below _ (T1.setTop (mkF m 23 #[.val (.ref a1), .val (.int (16 : Int32)), .val (.ref b1)] [(.ref a1), (.int (0 : Int32)), (.ref b1), (.int (0 : Int32)), (.ref a1)]))
  refine Go.by (X1.len hx hZ f2_16 (z := (8 : Int32)) rfl (g := (mkF m 23 #[.val (.ref a1), .val (.int (16 : Int32)), .val (.ref b1)] [(.ref a1), (.int (0 : Int32)), (.ref b1), (.int (0 : Int32)), (.ref a1)])) rfl rfl (hb hby d4_23)) ?_
  show Go p.tables e below _ (T1.setTop (mkF m 24 #[.val (.ref a1), .val (.int (16 : Int32)), .val (.ref b1)] [(.int (8 : Int32)), (.int (0 : Int32)), (.ref b1), (.int (0 : Int32)), (.ref a1)]))
  refine Go.by (fun _ => XS.iloadN X1.here hx rfl (hb hby d4_24) rfl) ?_
  show Go p.tables e below _ (T1.setTop (mkF m 25 #[.val (.ref a1), .val (.int (16 : Int32)), .val (.ref b1)] [(.int (16 : Int32)), (.int (8 : Int32)), (.int (0 : Int32)), (.ref b1), (.int (0 : Int32)), (.ref a1)]))
  obtain ⟨v3, T3, h3, X3, q3, st3⟩ := X1.callS hx hZ (y := (⟨"java/lang/Math", "min", "(II)I"⟩ : MethodName)) hown (tw hw 17 rfl) (tw hw 18 rfl) (tw hw 19 rfl) (tw hw 20 rfl) (by decide) (rm5_8 l Z a0 hw [] h1 n0 Zs2) (g := (mkF m 25 #[.val (.ref a1), .val (.int (16 : Int32)), .val (.ref b1)] [(.int (16 : Int32)), (.int (8 : Int32)), (.int (0 : Int32)), (.ref b1), (.int (0 : Int32)), (.ref a1)])) rfl (by rw [hml]; rfl) (argsL := [(.int (8 : Int32)), (.int (16 : Int32))]) (rest := [(.int (0 : Int32)), (.ref b1), (.int (0 : Int32)), (.ref a1)]) (lenOf pd1 rfl) rfl (hb hby d4_25) rfl (by decide) (Nat.le_of_ble_eq_true rfl) (k' := 1) (n' := 16) rfl rfl (by decide) (by decide)
  refine Go.by st3 ?_
  obtain ⟨rfl, rfl⟩ := q3
  show Go p.tables e below _ (T3.setTop (mkF m 28 #[.val (.ref a1), .val (.int (16 : Int32)), .val (.ref b1)] [(.int (8 : Int32)), (.int (0 : Int32)), (.ref b1), (.int (0 : Int32)), (.ref a1)]))
  obtain ⟨T4, h4, X4, K4, V4, st4⟩ := X3.acopy hx hZ hown (tw hw 21 rfl) (tw hw 24 rfl) (tw hw 22 rfl) (tw hw 23 rfl) f2_16 V1 rfl g_b1 (by decide) (by decide) (by decide) (i := 0) (j := 0) (cc := 8) rfl rfl rfl (by decide) (by decide) (g := (mkF m 28 #[.val (.ref a1), .val (.int (16 : Int32)), .val (.ref b1)] [(.int (8 : Int32)), (.int (0 : Int32)), (.ref b1), (.int (0 : Int32)), (.ref a1)])) rfl (by rw [hml]; rfl) rfl (hb hby d4_28) (by decide) (Nat.le_of_ble_eq_true rfl)
  have f5_42 := Avf.keep f2_16 K4 (ninS ne_a1_b1 nin0)
  have f5_43 := f2_17.trans K4 (allS (Or.inr sz_b1) all0)
  have f5_44 := A1.keep K4
  have Zs5 : n0 ≤ h4.size := Nat.le_trans Zs2 K4.1
  refine Go.by st4 ?_
  show Go p.tables e below _ (T4.setTop (mkF m 31 #[.val (.ref a1), .val (.int (16 : Int32)), .val (.ref b1)] []))
  refine Go.by (fun _ => XS.aloadN X4.here hx rfl (hb hby d4_31) rfl rfl) ?_
  show Go p.tables e below _ (T4.setTop (mkF m 32 #[.val (.ref a1), .val (.int (16 : Int32)), .val (.ref b1)] [(.ref b1)]))
  refine Go.retA X4 hx hlk hret rfl rfl (hb hby d4_32) (by decide) (by decide) ?_
  refine ⟨b1, kc1, rfl, sz_b1, f5_43, Avf.cong V4 (fun i hi => ?_)⟩
  by_cases q : i < 8 <;> first | (simp [q]; done) | (simp [q]; rfl)
abbrev Rm6_8 : Room := { frames := 1, cells := 0, slots := 0, locals := 14 }
set_option maxRecDepth 65536 in
set_option maxHeartbeats 40000000 in
theorem rm6_8 (l : Launch) (Z : State) (a0 : Array Value) (hw : ∀ d ∈ tables_1, d.before a0 Z = true) (ws : List Jvm.Cond) (a1 : Addr) (kc : ClassId) (fi : Nat → Int32) (h0 : Heap) (n0 : Nat) (Z0 : n0 ≤ h0.size) (g_a1 : n0 ≤ a1) (V_a : Avf Z h0 a1 kc .byte 16 (fun t => (.int (fi t)))) :
    Met l Z n0 (⟨"java/util/Arrays", "fill", "([BIIB)V"⟩ : MethodName) jdk_65_method_110_code 5 none ws Rm6_8 #[(.ref a1), (.int (8 : Int32)), (.int (16 : Int32)), (.int (-1 : Int32))] h0 (fun v h => v = none ∧ Keep h0 h [a1] ∧ Avf Z h a1 kc .byte 16 (fun t => (.int (if t < 8 then fi t else -1)))) := by
  refine enter (Ls := #[.val (.ref a1), .val (.int (8 : Int32)), .val (.int (16 : Int32)), .val (.int (-1 : Int32)), .unset]) (plainFor_of_name pn1) (fun m => by first | (simp [entryFrame, mkF, argsToLocals, Value.category]; done) | rfl) ?_
  intro p e s m below meth c T0 hx hby hml hown hnm hret hlk hZ X0
  have K0 := Keep.refl h0 [a1]
  show Go p.tables e below _ (T0.setTop (mkF m 0 #[.val (.ref a1), .val (.int (8 : Int32)), .val (.int (16 : Int32)), .val (.int (-1 : Int32)), .unset] []))
  refine Go.by (fun _ => XS.aloadN X0.here hx rfl (hb hby d6_0) rfl rfl) ?_
  show Go p.tables e below _ (T0.setTop (mkF m 1 #[.val (.ref a1), .val (.int (8 : Int32)), .val (.int (16 : Int32)), .val (.int (-1 : Int32)), .unset] [(.ref a1)]))
  refine Go.by (X0.len hx hZ V_a (z := (16 : Int32)) rfl (g := (mkF m 1 #[.val (.ref a1), .val (.int (8 : Int32)), .val (.int (16 : Int32)), .val (.int (-1 : Int32)), .unset] [(.ref a1)])) rfl rfl (hb hby d6_1)) ?_
  show Go p.tables e below _ (T0.setTop (mkF m 2 #[.val (.ref a1), .val (.int (8 : Int32)), .val (.int (16 : Int32)), .val (.int (-1 : Int32)), .unset] [(.int (16 : Int32))]))
  refine Go.by (fun _ => XS.iloadN X0.here hx rfl (hb hby d6_2) rfl) ?_
  show Go p.tables e below _ (T0.setTop (mkF m 3 #[.val (.ref a1), .val (.int (8 : Int32)), .val (.int (16 : Int32)), .val (.int (-1 : Int32)), .unset] [(.int (8 : Int32)), (.int (16 : Int32))]))
  refine Go.by (fun _ => XS.iloadN X0.here hx rfl (hb hby d6_3) rfl) ?_
  show Go p.tables e below _ (T0.setTop (mkF m 4 #[.val (.ref a1), .val (.int (8 : Int32)), .val (.int (16 : Int32)), .val (.int (-1 : Int32)), .unset] [(.int (16 : Int32)), (.int (8 : Int32)), (.int (16 : Int32))]))
  obtain ⟨v1, T1, h1, X1, q1, st1⟩ := X0.callS hx hZ (y := (⟨"java/util/Arrays", "rangeCheck", "(III)V"⟩ : MethodName)) hown (tw hw 28 rfl) (tw hw 29 rfl) (tw hw 15 rfl) (tw hw 30 rfl) (by decide) (rm7_8 l Z a0 hw [] h0 n0 Z0) (g := (mkF m 4 #[.val (.ref a1), .val (.int (8 : Int32)), .val (.int (16 : Int32)), .val (.int (-1 : Int32)), .unset] [(.int (16 : Int32)), (.int (8 : Int32)), (.int (16 : Int32))])) rfl (by rw [hml]; rfl) (argsL := [(.int (16 : Int32)), (.int (8 : Int32)), (.int (16 : Int32))]) (rest := []) (lenOf pd2 rfl) rfl (hb hby d6_4) rfl (by decide) (Nat.le_of_ble_eq_true rfl) (k' := 0) (n' := 0) rfl rfl (by decide) (by decide)
  refine Go.by st1 ?_
  obtain ⟨rfl, rfl⟩ := q1
  show Go p.tables e below _ (T1.setTop (mkF m 7 #[.val (.ref a1), .val (.int (8 : Int32)), .val (.int (16 : Int32)), .val (.int (-1 : Int32)), .unset] []))
  refine Go.by (fun _ => XS.iloadN X1.here hx rfl (hb hby d6_7) rfl) ?_
  show Go p.tables e below _ (T1.setTop (mkF m 8 #[.val (.ref a1), .val (.int (8 : Int32)), .val (.int (16 : Int32)), .val (.int (-1 : Int32)), .unset] [(.int (8 : Int32))]))
  refine Go.by (fun _ => XS.istore X1.here hx rfl (hb hby d6_8) rfl (l' := #[.val (.ref a1), .val (.int (8 : Int32)), .val (.int (16 : Int32)), .val (.int (-1 : Int32)), .val (.int (8 : Int32))]) rfl) ?_
  show Go p.tables e below _ (T1.setTop (mkF m 10 #[.val (.ref a1), .val (.int (8 : Int32)), .val (.int (16 : Int32)), .val (.int (-1 : Int32)), .val (.int (8 : Int32))] []))
  refine Go.by (fun _ => XS.iload X1.here hx rfl (hb hby d6_10) rfl) ?_
  show Go p.tables e below _ (T1.setTop (mkF m 12 #[.val (.ref a1), .val (.int (8 : Int32)), .val (.int (16 : Int32)), .val (.int (-1 : Int32)), .val (.int (8 : Int32))] [(.int (8 : Int32))]))
  refine Go.by (fun _ => XS.iloadN X1.here hx rfl (hb hby d6_12) rfl) ?_
  show Go p.tables e below _ (T1.setTop (mkF m 13 #[.val (.ref a1), .val (.int (8 : Int32)), .val (.int (16 : Int32)), .val (.int (-1 : Int32)), .val (.int (8 : Int32))] [(.int (16 : Int32)), (.int (8 : Int32))]))
  refine Go.by (fun _ => XS.icmpNo X1.here hx rfl (hb hby d6_13) rfl (tlt (by decide)).2.1) ?_
  show Go p.tables e below _ (T1.setTop (mkF m 16 #[.val (.ref a1), .val (.int (8 : Int32)), .val (.int (16 : Int32)), .val (.int (-1 : Int32)), .val (.int (8 : Int32))] []))
  refine Go.by (fun _ => XS.aloadN X1.here hx rfl (hb hby d6_16) rfl rfl) ?_
  show Go p.tables e below _ (T1.setTop (mkF m 17 #[.val (.ref a1), .val (.int (8 : Int32)), .val (.int (16 : Int32)), .val (.int (-1 : Int32)), .val (.int (8 : Int32))] [(.ref a1)]))
  refine Go.by (fun _ => XS.iload X1.here hx rfl (hb hby d6_17) rfl) ?_
  show Go p.tables e below _ (T1.setTop (mkF m 19 #[.val (.ref a1), .val (.int (8 : Int32)), .val (.int (16 : Int32)), .val (.int (-1 : Int32)), .val (.int (8 : Int32))] [(.int (8 : Int32)), (.ref a1)]))
  refine Go.by (fun _ => XS.iloadN X1.here hx rfl (hb hby d6_19) rfl) ?_
  show Go p.tables e below _ (T1.setTop (mkF m 20 #[.val (.ref a1), .val (.int (8 : Int32)), .val (.int (16 : Int32)), .val (.int (-1 : Int32)), .val (.int (8 : Int32))] [(.int (-1 : Int32)), (.int (8 : Int32)), (.ref a1)]))
  obtain ⟨T2, h2, X2, W2, V2, st2⟩ := X1.stB hx hZ V_a g_a1 (by decide) (i := 8) rfl (by decide) (g := (mkF m 20 #[.val (.ref a1), .val (.int (8 : Int32)), .val (.int (16 : Int32)), .val (.int (-1 : Int32)), .val (.int (8 : Int32))] [(.int (-1 : Int32)), (.int (8 : Int32)), (.ref a1)])) rfl rfl (hb hby d6_20)
  have f3_31 := K0.wr W2 (Or.inl (List.mem_of_getElem? (i := 0) rfl))
  have Zs3 : n0 ≤ h2.size := by rw [W2.size]; exact Z0
  refine Go.by st2 ?_
  show Go p.tables e below _ (T2.setTop (mkF m 21 #[.val (.ref a1), .val (.int (8 : Int32)), .val (.int (16 : Int32)), .val (.int (-1 : Int32)), .val (.int (8 : Int32))] []))
  refine Go.by (fun _ => XS.iinc X2.here hx rfl (hb hby d6_21) rfl (l' := #[.val (.ref a1), .val (.int (8 : Int32)), .val (.int (16 : Int32)), .val (.int (-1 : Int32)), .val (.int (9 : Int32))]) rfl) ?_
  show Go p.tables e below _ (T2.setTop (mkF m 24 #[.val (.ref a1), .val (.int (8 : Int32)), .val (.int (16 : Int32)), .val (.int (-1 : Int32)), .val (.int (9 : Int32))] []))
  refine Go.by (fun _ => XS.goto X2.here hx rfl (pc0 := 24) (pc' := 10) rfl (hb hby d6_24) (by decide) (by decide)) ?_
  show Go p.tables e below _ (T2.setTop (mkF m 10 #[.val (.ref a1), .val (.int (8 : Int32)), .val (.int (16 : Int32)), .val (.int (-1 : Int32)), .val (.int (9 : Int32))] []))
  refine Go.by (fun _ => XS.iload X2.here hx rfl (hb hby d6_10) rfl) ?_
  show Go p.tables e below _ (T2.setTop (mkF m 12 #[.val (.ref a1), .val (.int (8 : Int32)), .val (.int (16 : Int32)), .val (.int (-1 : Int32)), .val (.int (9 : Int32))] [(.int (9 : Int32))]))
  refine Go.by (fun _ => XS.iloadN X2.here hx rfl (hb hby d6_12) rfl) ?_
  show Go p.tables e below _ (T2.setTop (mkF m 13 #[.val (.ref a1), .val (.int (8 : Int32)), .val (.int (16 : Int32)), .val (.int (-1 : Int32)), .val (.int (9 : Int32))] [(.int (16 : Int32)), (.int (9 : Int32))]))
  refine Go.by (fun _ => XS.icmpNo X2.here hx rfl (hb hby d6_13) rfl (tlt (by decide)).2.1) ?_
  show Go p.tables e below _ (T2.setTop (mkF m 16 #[.val (.ref a1), .val (.int (8 : Int32)), .val (.int (16 : Int32)), .val (.int (-1 : Int32)), .val (.int (9 : Int32))] []))
  refine Go.by (fun _ => XS.aloadN X2.here hx rfl (hb hby d6_16) rfl rfl) ?_
  show Go p.tables e below _ (T2.setTop (mkF m 17 #[.val (.ref a1), .val (.int (8 : Int32)), .val (.int (16 : Int32)), .val (.int (-1 : Int32)), .val (.int (9 : Int32))] [(.ref a1)]))
  refine Go.by (fun _ => XS.iload X2.here hx rfl (hb hby d6_17) rfl) ?_
  show Go p.tables e below _ (T2.setTop (mkF m 19 #[.val (.ref a1), .val (.int (8 : Int32)), .val (.int (16 : Int32)), .val (.int (-1 : Int32)), .val (.int (9 : Int32))] [(.int (9 : Int32)), (.ref a1)]))
  refine Go.by (fun _ => XS.iloadN X2.here hx rfl (hb hby d6_19) rfl) ?_
  show Go p.tables e below _ (T2.setTop (mkF m 20 #[.val (.ref a1), .val (.int (8 : Int32)), .val (.int (16 : Int32)), .val (.int (-1 : Int32)), .val (.int (9 : Int32))] [(.int (-1 : Int32)), (.int (9 : Int32)), (.ref a1)]))
  obtain ⟨T4, h4, X4, W4, V4, st4⟩ := X2.stB hx hZ V2 g_a1 (by decide) (i := 9) rfl (by decide) (g := (mkF m 20 #[.val (.ref a1), .val (.int (8 : Int32)), .val (.int (16 : Int32)), .val (.int (-1 : Int32)), .val (.int (9 : Int32))] [(.int (-1 : Int32)), (.int (9 : Int32)), (.ref a1)])) rfl rfl (hb hby d6_20)
  have f5_52 := f3_31.wr W4 (Or.inl (List.mem_of_getElem? (i := 0) rfl))
  have Zs5 : n0 ≤ h4.size := by rw [W4.size]; exact Zs3
  refine Go.by st4 ?_
  show Go p.tables e below _ (T4.setTop (mkF m 21 #[.val (.ref a1), .val (.int (8 : Int32)), .val (.int (16 : Int32)), .val (.int (-1 : Int32)), .val (.int (9 : Int32))] []))
  refine Go.by (fun _ => XS.iinc X4.here hx rfl (hb hby d6_21) rfl (l' := #[.val (.ref a1), .val (.int (8 : Int32)), .val (.int (16 : Int32)), .val (.int (-1 : Int32)), .val (.int (10 : Int32))]) rfl) ?_
  show Go p.tables e below _ (T4.setTop (mkF m 24 #[.val (.ref a1), .val (.int (8 : Int32)), .val (.int (16 : Int32)), .val (.int (-1 : Int32)), .val (.int (10 : Int32))] []))
  refine Go.by (fun _ => XS.goto X4.here hx rfl (pc0 := 24) (pc' := 10) rfl (hb hby d6_24) (by decide) (by decide)) ?_
  show Go p.tables e below _ (T4.setTop (mkF m 10 #[.val (.ref a1), .val (.int (8 : Int32)), .val (.int (16 : Int32)), .val (.int (-1 : Int32)), .val (.int (10 : Int32))] []))
  refine Go.by (fun _ => XS.iload X4.here hx rfl (hb hby d6_10) rfl) ?_
  show Go p.tables e below _ (T4.setTop (mkF m 12 #[.val (.ref a1), .val (.int (8 : Int32)), .val (.int (16 : Int32)), .val (.int (-1 : Int32)), .val (.int (10 : Int32))] [(.int (10 : Int32))]))
  refine Go.by (fun _ => XS.iloadN X4.here hx rfl (hb hby d6_12) rfl) ?_
  show Go p.tables e below _ (T4.setTop (mkF m 13 #[.val (.ref a1), .val (.int (8 : Int32)), .val (.int (16 : Int32)), .val (.int (-1 : Int32)), .val (.int (10 : Int32))] [(.int (16 : Int32)), (.int (10 : Int32))]))
  refine Go.by (fun _ => XS.icmpNo X4.here hx rfl (hb hby d6_13) rfl (tlt (by decide)).2.1) ?_
  show Go p.tables e below _ (T4.setTop (mkF m 16 #[.val (.ref a1), .val (.int (8 : Int32)), .val (.int (16 : Int32)), .val (.int (-1 : Int32)), .val (.int (10 : Int32))] []))
  refine Go.by (fun _ => XS.aloadN X4.here hx rfl (hb hby d6_16) rfl rfl) ?_
  show Go p.tables e below _ (T4.setTop (mkF m 17 #[.val (.ref a1), .val (.int (8 : Int32)), .val (.int (16 : Int32)), .val (.int (-1 : Int32)), .val (.int (10 : Int32))] [(.ref a1)]))
  refine Go.by (fun _ => XS.iload X4.here hx rfl (hb hby d6_17) rfl) ?_
  show Go p.tables e below _ (T4.setTop (mkF m 19 #[.val (.ref a1), .val (.int (8 : Int32)), .val (.int (16 : Int32)), .val (.int (-1 : Int32)), .val (.int (10 : Int32))] [(.int (10 : Int32)), (.ref a1)]))
  refine Go.by (fun _ => XS.iloadN X4.here hx rfl (hb hby d6_19) rfl) ?_
  show Go p.tables e below _ (T4.setTop (mkF m 20 #[.val (.ref a1), .val (.int (8 : Int32)), .val (.int (16 : Int32)), .val (.int (-1 : Int32)), .val (.int (10 : Int32))] [(.int (-1 : Int32)), (.int (10 : Int32)), (.ref a1)]))
  obtain ⟨T6, h6, X6, W6, V6, st6⟩ := X4.stB hx hZ V4 g_a1 (by decide) (i := 10) rfl (by decide) (g := (mkF m 20 #[.val (.ref a1), .val (.int (8 : Int32)), .val (.int (16 : Int32)), .val (.int (-1 : Int32)), .val (.int (10 : Int32))] [(.int (-1 : Int32)), (.int (10 : Int32)), (.ref a1)])) rfl rfl (hb hby d6_20)
  have f7_73 := f5_52.wr W6 (Or.inl (List.mem_of_getElem? (i := 0) rfl))
  have Zs7 : n0 ≤ h6.size := by rw [W6.size]; exact Zs5
  refine Go.by st6 ?_
  show Go p.tables e below _ (T6.setTop (mkF m 21 #[.val (.ref a1), .val (.int (8 : Int32)), .val (.int (16 : Int32)), .val (.int (-1 : Int32)), .val (.int (10 : Int32))] []))
  refine Go.by (fun _ => XS.iinc X6.here hx rfl (hb hby d6_21) rfl (l' := #[.val (.ref a1), .val (.int (8 : Int32)), .val (.int (16 : Int32)), .val (.int (-1 : Int32)), .val (.int (11 : Int32))]) rfl) ?_
  show Go p.tables e below _ (T6.setTop (mkF m 24 #[.val (.ref a1), .val (.int (8 : Int32)), .val (.int (16 : Int32)), .val (.int (-1 : Int32)), .val (.int (11 : Int32))] []))
  refine Go.by (fun _ => XS.goto X6.here hx rfl (pc0 := 24) (pc' := 10) rfl (hb hby d6_24) (by decide) (by decide)) ?_
  show Go p.tables e below _ (T6.setTop (mkF m 10 #[.val (.ref a1), .val (.int (8 : Int32)), .val (.int (16 : Int32)), .val (.int (-1 : Int32)), .val (.int (11 : Int32))] []))
  refine Go.by (fun _ => XS.iload X6.here hx rfl (hb hby d6_10) rfl) ?_
  show Go p.tables e below _ (T6.setTop (mkF m 12 #[.val (.ref a1), .val (.int (8 : Int32)), .val (.int (16 : Int32)), .val (.int (-1 : Int32)), .val (.int (11 : Int32))] [(.int (11 : Int32))]))
  refine Go.by (fun _ => XS.iloadN X6.here hx rfl (hb hby d6_12) rfl) ?_
  show Go p.tables e below _ (T6.setTop (mkF m 13 #[.val (.ref a1), .val (.int (8 : Int32)), .val (.int (16 : Int32)), .val (.int (-1 : Int32)), .val (.int (11 : Int32))] [(.int (16 : Int32)), (.int (11 : Int32))]))
  refine Go.by (fun _ => XS.icmpNo X6.here hx rfl (hb hby d6_13) rfl (tlt (by decide)).2.1) ?_
  show Go p.tables e below _ (T6.setTop (mkF m 16 #[.val (.ref a1), .val (.int (8 : Int32)), .val (.int (16 : Int32)), .val (.int (-1 : Int32)), .val (.int (11 : Int32))] []))
  refine Go.by (fun _ => XS.aloadN X6.here hx rfl (hb hby d6_16) rfl rfl) ?_
  show Go p.tables e below _ (T6.setTop (mkF m 17 #[.val (.ref a1), .val (.int (8 : Int32)), .val (.int (16 : Int32)), .val (.int (-1 : Int32)), .val (.int (11 : Int32))] [(.ref a1)]))
  refine Go.by (fun _ => XS.iload X6.here hx rfl (hb hby d6_17) rfl) ?_
  show Go p.tables e below _ (T6.setTop (mkF m 19 #[.val (.ref a1), .val (.int (8 : Int32)), .val (.int (16 : Int32)), .val (.int (-1 : Int32)), .val (.int (11 : Int32))] [(.int (11 : Int32)), (.ref a1)]))
  refine Go.by (fun _ => XS.iloadN X6.here hx rfl (hb hby d6_19) rfl) ?_
  show Go p.tables e below _ (T6.setTop (mkF m 20 #[.val (.ref a1), .val (.int (8 : Int32)), .val (.int (16 : Int32)), .val (.int (-1 : Int32)), .val (.int (11 : Int32))] [(.int (-1 : Int32)), (.int (11 : Int32)), (.ref a1)]))
  obtain ⟨T8, h8, X8, W8, V8, st8⟩ := X6.stB hx hZ V6 g_a1 (by decide) (i := 11) rfl (by decide) (g := (mkF m 20 #[.val (.ref a1), .val (.int (8 : Int32)), .val (.int (16 : Int32)), .val (.int (-1 : Int32)), .val (.int (11 : Int32))] [(.int (-1 : Int32)), (.int (11 : Int32)), (.ref a1)])) rfl rfl (hb hby d6_20)
  have f9_94 := f7_73.wr W8 (Or.inl (List.mem_of_getElem? (i := 0) rfl))
  have Zs9 : n0 ≤ h8.size := by rw [W8.size]; exact Zs7
  refine Go.by st8 ?_
  show Go p.tables e below _ (T8.setTop (mkF m 21 #[.val (.ref a1), .val (.int (8 : Int32)), .val (.int (16 : Int32)), .val (.int (-1 : Int32)), .val (.int (11 : Int32))] []))
  refine Go.by (fun _ => XS.iinc X8.here hx rfl (hb hby d6_21) rfl (l' := #[.val (.ref a1), .val (.int (8 : Int32)), .val (.int (16 : Int32)), .val (.int (-1 : Int32)), .val (.int (12 : Int32))]) rfl) ?_
  show Go p.tables e below _ (T8.setTop (mkF m 24 #[.val (.ref a1), .val (.int (8 : Int32)), .val (.int (16 : Int32)), .val (.int (-1 : Int32)), .val (.int (12 : Int32))] []))
  refine Go.by (fun _ => XS.goto X8.here hx rfl (pc0 := 24) (pc' := 10) rfl (hb hby d6_24) (by decide) (by decide)) ?_
  show Go p.tables e below _ (T8.setTop (mkF m 10 #[.val (.ref a1), .val (.int (8 : Int32)), .val (.int (16 : Int32)), .val (.int (-1 : Int32)), .val (.int (12 : Int32))] []))
  refine Go.by (fun _ => XS.iload X8.here hx rfl (hb hby d6_10) rfl) ?_
  show Go p.tables e below _ (T8.setTop (mkF m 12 #[.val (.ref a1), .val (.int (8 : Int32)), .val (.int (16 : Int32)), .val (.int (-1 : Int32)), .val (.int (12 : Int32))] [(.int (12 : Int32))]))
  refine Go.by (fun _ => XS.iloadN X8.here hx rfl (hb hby d6_12) rfl) ?_
  show Go p.tables e below _ (T8.setTop (mkF m 13 #[.val (.ref a1), .val (.int (8 : Int32)), .val (.int (16 : Int32)), .val (.int (-1 : Int32)), .val (.int (12 : Int32))] [(.int (16 : Int32)), (.int (12 : Int32))]))
  refine Go.by (fun _ => XS.icmpNo X8.here hx rfl (hb hby d6_13) rfl (tlt (by decide)).2.1) ?_
  show Go p.tables e below _ (T8.setTop (mkF m 16 #[.val (.ref a1), .val (.int (8 : Int32)), .val (.int (16 : Int32)), .val (.int (-1 : Int32)), .val (.int (12 : Int32))] []))
  refine Go.by (fun _ => XS.aloadN X8.here hx rfl (hb hby d6_16) rfl rfl) ?_
  show Go p.tables e below _ (T8.setTop (mkF m 17 #[.val (.ref a1), .val (.int (8 : Int32)), .val (.int (16 : Int32)), .val (.int (-1 : Int32)), .val (.int (12 : Int32))] [(.ref a1)]))
  refine Go.by (fun _ => XS.iload X8.here hx rfl (hb hby d6_17) rfl) ?_
  show Go p.tables e below _ (T8.setTop (mkF m 19 #[.val (.ref a1), .val (.int (8 : Int32)), .val (.int (16 : Int32)), .val (.int (-1 : Int32)), .val (.int (12 : Int32))] [(.int (12 : Int32)), (.ref a1)]))
  refine Go.by (fun _ => XS.iloadN X8.here hx rfl (hb hby d6_19) rfl) ?_
  show Go p.tables e below _ (T8.setTop (mkF m 20 #[.val (.ref a1), .val (.int (8 : Int32)), .val (.int (16 : Int32)), .val (.int (-1 : Int32)), .val (.int (12 : Int32))] [(.int (-1 : Int32)), (.int (12 : Int32)), (.ref a1)]))
  obtain ⟨T10, h10, X10, W10, V10, st10⟩ := X8.stB hx hZ V8 g_a1 (by decide) (i := 12) rfl (by decide) (g := (mkF m 20 #[.val (.ref a1), .val (.int (8 : Int32)), .val (.int (16 : Int32)), .val (.int (-1 : Int32)), .val (.int (12 : Int32))] [(.int (-1 : Int32)), (.int (12 : Int32)), (.ref a1)])) rfl rfl (hb hby d6_20)
  have f11_115 := f9_94.wr W10 (Or.inl (List.mem_of_getElem? (i := 0) rfl))
  have Zs11 : n0 ≤ h10.size := by rw [W10.size]; exact Zs9
  refine Go.by st10 ?_
  show Go p.tables e below _ (T10.setTop (mkF m 21 #[.val (.ref a1), .val (.int (8 : Int32)), .val (.int (16 : Int32)), .val (.int (-1 : Int32)), .val (.int (12 : Int32))] []))
  refine Go.by (fun _ => XS.iinc X10.here hx rfl (hb hby d6_21) rfl (l' := #[.val (.ref a1), .val (.int (8 : Int32)), .val (.int (16 : Int32)), .val (.int (-1 : Int32)), .val (.int (13 : Int32))]) rfl) ?_
  show Go p.tables e below _ (T10.setTop (mkF m 24 #[.val (.ref a1), .val (.int (8 : Int32)), .val (.int (16 : Int32)), .val (.int (-1 : Int32)), .val (.int (13 : Int32))] []))
  refine Go.by (fun _ => XS.goto X10.here hx rfl (pc0 := 24) (pc' := 10) rfl (hb hby d6_24) (by decide) (by decide)) ?_
  show Go p.tables e below _ (T10.setTop (mkF m 10 #[.val (.ref a1), .val (.int (8 : Int32)), .val (.int (16 : Int32)), .val (.int (-1 : Int32)), .val (.int (13 : Int32))] []))
  refine Go.by (fun _ => XS.iload X10.here hx rfl (hb hby d6_10) rfl) ?_
  show Go p.tables e below _ (T10.setTop (mkF m 12 #[.val (.ref a1), .val (.int (8 : Int32)), .val (.int (16 : Int32)), .val (.int (-1 : Int32)), .val (.int (13 : Int32))] [(.int (13 : Int32))]))
  refine Go.by (fun _ => XS.iloadN X10.here hx rfl (hb hby d6_12) rfl) ?_
  show Go p.tables e below _ (T10.setTop (mkF m 13 #[.val (.ref a1), .val (.int (8 : Int32)), .val (.int (16 : Int32)), .val (.int (-1 : Int32)), .val (.int (13 : Int32))] [(.int (16 : Int32)), (.int (13 : Int32))]))
  refine Go.by (fun _ => XS.icmpNo X10.here hx rfl (hb hby d6_13) rfl (tlt (by decide)).2.1) ?_
  show Go p.tables e below _ (T10.setTop (mkF m 16 #[.val (.ref a1), .val (.int (8 : Int32)), .val (.int (16 : Int32)), .val (.int (-1 : Int32)), .val (.int (13 : Int32))] []))
  refine Go.by (fun _ => XS.aloadN X10.here hx rfl (hb hby d6_16) rfl rfl) ?_
  show Go p.tables e below _ (T10.setTop (mkF m 17 #[.val (.ref a1), .val (.int (8 : Int32)), .val (.int (16 : Int32)), .val (.int (-1 : Int32)), .val (.int (13 : Int32))] [(.ref a1)]))
  refine Go.by (fun _ => XS.iload X10.here hx rfl (hb hby d6_17) rfl) ?_
  show Go p.tables e below _ (T10.setTop (mkF m 19 #[.val (.ref a1), .val (.int (8 : Int32)), .val (.int (16 : Int32)), .val (.int (-1 : Int32)), .val (.int (13 : Int32))] [(.int (13 : Int32)), (.ref a1)]))
  refine Go.by (fun _ => XS.iloadN X10.here hx rfl (hb hby d6_19) rfl) ?_
  show Go p.tables e below _ (T10.setTop (mkF m 20 #[.val (.ref a1), .val (.int (8 : Int32)), .val (.int (16 : Int32)), .val (.int (-1 : Int32)), .val (.int (13 : Int32))] [(.int (-1 : Int32)), (.int (13 : Int32)), (.ref a1)]))
  obtain ⟨T12, h12, X12, W12, V12, st12⟩ := X10.stB hx hZ V10 g_a1 (by decide) (i := 13) rfl (by decide) (g := (mkF m 20 #[.val (.ref a1), .val (.int (8 : Int32)), .val (.int (16 : Int32)), .val (.int (-1 : Int32)), .val (.int (13 : Int32))] [(.int (-1 : Int32)), (.int (13 : Int32)), (.ref a1)])) rfl rfl (hb hby d6_20)
  have f13_136 := f11_115.wr W12 (Or.inl (List.mem_of_getElem? (i := 0) rfl))
  have Zs13 : n0 ≤ h12.size := by rw [W12.size]; exact Zs11
  refine Go.by st12 ?_
  show Go p.tables e below _ (T12.setTop (mkF m 21 #[.val (.ref a1), .val (.int (8 : Int32)), .val (.int (16 : Int32)), .val (.int (-1 : Int32)), .val (.int (13 : Int32))] []))
  refine Go.by (fun _ => XS.iinc X12.here hx rfl (hb hby d6_21) rfl (l' := #[.val (.ref a1), .val (.int (8 : Int32)), .val (.int (16 : Int32)), .val (.int (-1 : Int32)), .val (.int (14 : Int32))]) rfl) ?_
  show Go p.tables e below _ (T12.setTop (mkF m 24 #[.val (.ref a1), .val (.int (8 : Int32)), .val (.int (16 : Int32)), .val (.int (-1 : Int32)), .val (.int (14 : Int32))] []))
  refine Go.by (fun _ => XS.goto X12.here hx rfl (pc0 := 24) (pc' := 10) rfl (hb hby d6_24) (by decide) (by decide)) ?_
  show Go p.tables e below _ (T12.setTop (mkF m 10 #[.val (.ref a1), .val (.int (8 : Int32)), .val (.int (16 : Int32)), .val (.int (-1 : Int32)), .val (.int (14 : Int32))] []))
  refine Go.by (fun _ => XS.iload X12.here hx rfl (hb hby d6_10) rfl) ?_
  show Go p.tables e below _ (T12.setTop (mkF m 12 #[.val (.ref a1), .val (.int (8 : Int32)), .val (.int (16 : Int32)), .val (.int (-1 : Int32)), .val (.int (14 : Int32))] [(.int (14 : Int32))]))
  refine Go.by (fun _ => XS.iloadN X12.here hx rfl (hb hby d6_12) rfl) ?_
  show Go p.tables e below _ (T12.setTop (mkF m 13 #[.val (.ref a1), .val (.int (8 : Int32)), .val (.int (16 : Int32)), .val (.int (-1 : Int32)), .val (.int (14 : Int32))] [(.int (16 : Int32)), (.int (14 : Int32))]))
  refine Go.by (fun _ => XS.icmpNo X12.here hx rfl (hb hby d6_13) rfl (tlt (by decide)).2.1) ?_
  show Go p.tables e below _ (T12.setTop (mkF m 16 #[.val (.ref a1), .val (.int (8 : Int32)), .val (.int (16 : Int32)), .val (.int (-1 : Int32)), .val (.int (14 : Int32))] []))
  refine Go.by (fun _ => XS.aloadN X12.here hx rfl (hb hby d6_16) rfl rfl) ?_
  show Go p.tables e below _ (T12.setTop (mkF m 17 #[.val (.ref a1), .val (.int (8 : Int32)), .val (.int (16 : Int32)), .val (.int (-1 : Int32)), .val (.int (14 : Int32))] [(.ref a1)]))
  refine Go.by (fun _ => XS.iload X12.here hx rfl (hb hby d6_17) rfl) ?_
  show Go p.tables e below _ (T12.setTop (mkF m 19 #[.val (.ref a1), .val (.int (8 : Int32)), .val (.int (16 : Int32)), .val (.int (-1 : Int32)), .val (.int (14 : Int32))] [(.int (14 : Int32)), (.ref a1)]))
  refine Go.by (fun _ => XS.iloadN X12.here hx rfl (hb hby d6_19) rfl) ?_
  show Go p.tables e below _ (T12.setTop (mkF m 20 #[.val (.ref a1), .val (.int (8 : Int32)), .val (.int (16 : Int32)), .val (.int (-1 : Int32)), .val (.int (14 : Int32))] [(.int (-1 : Int32)), (.int (14 : Int32)), (.ref a1)]))
  obtain ⟨T14, h14, X14, W14, V14, st14⟩ := X12.stB hx hZ V12 g_a1 (by decide) (i := 14) rfl (by decide) (g := (mkF m 20 #[.val (.ref a1), .val (.int (8 : Int32)), .val (.int (16 : Int32)), .val (.int (-1 : Int32)), .val (.int (14 : Int32))] [(.int (-1 : Int32)), (.int (14 : Int32)), (.ref a1)])) rfl rfl (hb hby d6_20)
  have f15_157 := f13_136.wr W14 (Or.inl (List.mem_of_getElem? (i := 0) rfl))
  have Zs15 : n0 ≤ h14.size := by rw [W14.size]; exact Zs13
  refine Go.by st14 ?_
  show Go p.tables e below _ (T14.setTop (mkF m 21 #[.val (.ref a1), .val (.int (8 : Int32)), .val (.int (16 : Int32)), .val (.int (-1 : Int32)), .val (.int (14 : Int32))] []))
  refine Go.by (fun _ => XS.iinc X14.here hx rfl (hb hby d6_21) rfl (l' := #[.val (.ref a1), .val (.int (8 : Int32)), .val (.int (16 : Int32)), .val (.int (-1 : Int32)), .val (.int (15 : Int32))]) rfl) ?_
  show Go p.tables e below _ (T14.setTop (mkF m 24 #[.val (.ref a1), .val (.int (8 : Int32)), .val (.int (16 : Int32)), .val (.int (-1 : Int32)), .val (.int (15 : Int32))] []))
  refine Go.by (fun _ => XS.goto X14.here hx rfl (pc0 := 24) (pc' := 10) rfl (hb hby d6_24) (by decide) (by decide)) ?_
  show Go p.tables e below _ (T14.setTop (mkF m 10 #[.val (.ref a1), .val (.int (8 : Int32)), .val (.int (16 : Int32)), .val (.int (-1 : Int32)), .val (.int (15 : Int32))] []))
  refine Go.by (fun _ => XS.iload X14.here hx rfl (hb hby d6_10) rfl) ?_
  show Go p.tables e below _ (T14.setTop (mkF m 12 #[.val (.ref a1), .val (.int (8 : Int32)), .val (.int (16 : Int32)), .val (.int (-1 : Int32)), .val (.int (15 : Int32))] [(.int (15 : Int32))]))
  refine Go.by (fun _ => XS.iloadN X14.here hx rfl (hb hby d6_12) rfl) ?_
  show Go p.tables e below _ (T14.setTop (mkF m 13 #[.val (.ref a1), .val (.int (8 : Int32)), .val (.int (16 : Int32)), .val (.int (-1 : Int32)), .val (.int (15 : Int32))] [(.int (16 : Int32)), (.int (15 : Int32))]))
  refine Go.by (fun _ => XS.icmpNo X14.here hx rfl (hb hby d6_13) rfl (tlt (by decide)).2.1) ?_
  show Go p.tables e below _ (T14.setTop (mkF m 16 #[.val (.ref a1), .val (.int (8 : Int32)), .val (.int (16 : Int32)), .val (.int (-1 : Int32)), .val (.int (15 : Int32))] []))
  refine Go.by (fun _ => XS.aloadN X14.here hx rfl (hb hby d6_16) rfl rfl) ?_
  show Go p.tables e below _ (T14.setTop (mkF m 17 #[.val (.ref a1), .val (.int (8 : Int32)), .val (.int (16 : Int32)), .val (.int (-1 : Int32)), .val (.int (15 : Int32))] [(.ref a1)]))
  refine Go.by (fun _ => XS.iload X14.here hx rfl (hb hby d6_17) rfl) ?_
  show Go p.tables e below _ (T14.setTop (mkF m 19 #[.val (.ref a1), .val (.int (8 : Int32)), .val (.int (16 : Int32)), .val (.int (-1 : Int32)), .val (.int (15 : Int32))] [(.int (15 : Int32)), (.ref a1)]))
  refine Go.by (fun _ => XS.iloadN X14.here hx rfl (hb hby d6_19) rfl) ?_
  show Go p.tables e below _ (T14.setTop (mkF m 20 #[.val (.ref a1), .val (.int (8 : Int32)), .val (.int (16 : Int32)), .val (.int (-1 : Int32)), .val (.int (15 : Int32))] [(.int (-1 : Int32)), (.int (15 : Int32)), (.ref a1)]))
  obtain ⟨T16, h16, X16, W16, V16, st16⟩ := X14.stB hx hZ V14 g_a1 (by decide) (i := 15) rfl (by decide) (g := (mkF m 20 #[.val (.ref a1), .val (.int (8 : Int32)), .val (.int (16 : Int32)), .val (.int (-1 : Int32)), .val (.int (15 : Int32))] [(.int (-1 : Int32)), (.int (15 : Int32)), (.ref a1)])) rfl rfl (hb hby d6_20)
  have f17_178 := f15_157.wr W16 (Or.inl (List.mem_of_getElem? (i := 0) rfl))
  have Zs17 : n0 ≤ h16.size := by rw [W16.size]; exact Zs15
  refine Go.by st16 ?_
  show Go p.tables e below _ (T16.setTop (mkF m 21 #[.val (.ref a1), .val (.int (8 : Int32)), .val (.int (16 : Int32)), .val (.int (-1 : Int32)), .val (.int (15 : Int32))] []))
  refine Go.by (fun _ => XS.iinc X16.here hx rfl (hb hby d6_21) rfl (l' := #[.val (.ref a1), .val (.int (8 : Int32)), .val (.int (16 : Int32)), .val (.int (-1 : Int32)), .val (.int (16 : Int32))]) rfl) ?_
  show Go p.tables e below _ (T16.setTop (mkF m 24 #[.val (.ref a1), .val (.int (8 : Int32)), .val (.int (16 : Int32)), .val (.int (-1 : Int32)), .val (.int (16 : Int32))] []))
  refine Go.by (fun _ => XS.goto X16.here hx rfl (pc0 := 24) (pc' := 10) rfl (hb hby d6_24) (by decide) (by decide)) ?_
  show Go p.tables e below _ (T16.setTop (mkF m 10 #[.val (.ref a1), .val (.int (8 : Int32)), .val (.int (16 : Int32)), .val (.int (-1 : Int32)), .val (.int (16 : Int32))] []))
  refine Go.by (fun _ => XS.iload X16.here hx rfl (hb hby d6_10) rfl) ?_
  show Go p.tables e below _ (T16.setTop (mkF m 12 #[.val (.ref a1), .val (.int (8 : Int32)), .val (.int (16 : Int32)), .val (.int (-1 : Int32)), .val (.int (16 : Int32))] [(.int (16 : Int32))]))
  refine Go.by (fun _ => XS.iloadN X16.here hx rfl (hb hby d6_12) rfl) ?_
  show Go p.tables e below _ (T16.setTop (mkF m 13 #[.val (.ref a1), .val (.int (8 : Int32)), .val (.int (16 : Int32)), .val (.int (-1 : Int32)), .val (.int (16 : Int32))] [(.int (16 : Int32)), (.int (16 : Int32))]))
  refine Go.by (fun _ => XS.icmpYes X16.here hx rfl (pc0 := 13) (pc' := 27) rfl (hb hby d6_13) rfl (flt (by decide)).2.1 (by decide) (by decide)) ?_
  show Go p.tables e below _ (T16.setTop (mkF m 27 #[.val (.ref a1), .val (.int (8 : Int32)), .val (.int (16 : Int32)), .val (.int (-1 : Int32)), .val (.int (16 : Int32))] []))
  refine Go.ret0 X16 hx hlk hret (hb hby d6_27) (by decide) (by decide) ?_
  refine ⟨rfl, f17_178, Avf.cong V16 (fun i hi => ?_)⟩
  by_cases q : i < 8
  · have y0 : ¬ i = 8 := by omega
    have y1 : ¬ i = 9 := by omega
    have y2 : ¬ i = 10 := by omega
    have y3 : ¬ i = 11 := by omega
    have y4 : ¬ i = 12 := by omega
    have y5 : ¬ i = 13 := by omega
    have y6 : ¬ i = 14 := by omega
    have y7 : ¬ i = 15 := by omega
    simp [q, y0, y1, y2, y3, y4, y5, y6, y7]
  · have y : i = 8 ∨ i = 9 ∨ i = 10 ∨ i = 11 ∨ i = 12 ∨ i = 13 ∨ i = 14 ∨ i = 15 := by omega
    rcases y with rfl | rfl | rfl | rfl | rfl | rfl | rfl | rfl <;> rfl
abbrev Rm3_8 : Room := { frames := 2, cells := 1, slots := 16, locals := 32 }
set_option maxRecDepth 65536 in
set_option maxHeartbeats 40000000 in
theorem rm3_8 (l : Launch) (Z : State) (a0 : Array Value) (hw : ∀ d ∈ tables_1, d.before a0 Z = true) (ws : List Jvm.Cond) (a1 : Addr) (kc : ClassId) (fi : Nat → Int32) (h0 : Heap) (n0 : Nat) (Z0 : n0 ≤ h0.size) (V_a : Avf Z h0 a1 kc .byte 8 (fun t => (.int (fi t)))) :
    Met l Z n0 (⟨"com/example/clio/clio/Layout", "pastEntries", "([B)[B"⟩ : MethodName) prog_20_method_22_code 2 (some (.array .byte)) ws Rm3_8 #[(.ref a1)] h0 (fun v h => ∃ r kr, v = some (.ref r) ∧ h0.size ≤ r ∧ Keep h0 h [] ∧ Avf Z h r kr .byte (8 + 8) (fun t => (.int (if t < 8 then fi t else -1)))) := by
  refine enter (Ls := #[.val (.ref a1), .unset]) (plainFor_of_name pn2) (fun m => by first | (simp [entryFrame, mkF, argsToLocals, Value.category]; done) | rfl) ?_
  intro p e s m below meth c T0 hx hby hml hown hnm hret hlk hZ X0
  have K0 := Keep.refl h0 []
  show Go p.tables e below _ (T0.setTop (mkF m 0 #[.val (.ref a1), .unset] []))
  refine Go.by (fun _ => XS.aloadN X0.here hx rfl (hb hby d3_0) rfl rfl) ?_
  show Go p.tables e below _ (T0.setTop (mkF m 1 #[.val (.ref a1), .unset] [(.ref a1)]))
  refine Go.by (fun _ => XS.aloadN X0.here hx rfl (hb hby d3_1) rfl rfl) ?_
  show Go p.tables e below _ (T0.setTop (mkF m 2 #[.val (.ref a1), .unset] [(.ref a1), (.ref a1)]))
  refine Go.by (X0.len hx hZ V_a (z := (8 : Int32)) rfl (g := (mkF m 2 #[.val (.ref a1), .unset] [(.ref a1), (.ref a1)])) rfl rfl (hb hby d3_2)) ?_
  show Go p.tables e below _ (T0.setTop (mkF m 3 #[.val (.ref a1), .unset] [(.int (8 : Int32)), (.ref a1)]))
  refine Go.by (fun _ => XS.bipush X0.here hx rfl (hb hby d3_3)) ?_
  show Go p.tables e below _ (T0.setTop (mkF m 5 #[.val (.ref a1), .unset] [(.int (8 : Int32)), (.int (8 : Int32)), (.ref a1)]))
  refine Go.by (fun _ => XS.iadd X0.here hx rfl (hb hby d3_5) rfl) ?_
  show Go p.tables e below _ (T0.setTop (mkF m 6 #[.val (.ref a1), .unset] [(.int (16 : Int32)), (.ref a1)]))
  obtain ⟨v1, T1, h1, X1, q1, st1⟩ := X0.callS hx hZ (y := (⟨"java/util/Arrays", "copyOf", "([BI)[B"⟩ : MethodName)) hown (tw hw 13 rfl) (tw hw 14 rfl) (tw hw 15 rfl) (tw hw 16 rfl) (by decide) (rm4_8 l Z a0 hw [] a1 kc fi h0 n0 Z0 V_a) (g := (mkF m 6 #[.val (.ref a1), .unset] [(.int (16 : Int32)), (.ref a1)])) rfl (by rw [hml]; rfl) (argsL := [(.ref a1), (.int (16 : Int32))]) (rest := []) (lenOf pd3 rfl) rfl (hb hby d3_6) rfl (by decide) (Nat.le_of_ble_eq_true rfl) (k' := 1) (n' := 16) rfl rfl (by decide) (by decide)
  refine Go.by st1 ?_
  obtain ⟨r1, kr1, rfl, sr1, K1, V1⟩ := q1
  have g_r1 : n0 ≤ r1 := Nat.le_trans Z0 sr1
  have sz_r1 : h0.size ≤ r1 := Nat.le_trans K0.1 sr1
  have ne_a1_r1 : a1 ≠ r1 := Nat.ne_of_lt (Nat.lt_of_lt_of_le V_a.lt sr1)
  have f2_18 := Avf.ext V_a (keep_ext K1)
  have f2_19 := K0.ext (keep_ext K1)
  have Zs2 : n0 ≤ h1.size := Nat.le_trans Z0 (keep_ext K1).1
  show Go p.tables e below _ (T1.setTop (mkF m 9 #[.val (.ref a1), .unset] [(.ref r1)]))
  refine Go.by (fun _ => XS.astoreN X1.here hx rfl (hb hby d3_9) rfl rfl (l' := #[.val (.ref a1), .val (.ref r1)]) rfl) ?_
  show Go p.tables e below _ (T1.setTop (mkF m 10 #[.val (.ref a1), .val (.ref r1)] []))
  refine Go.by (fun _ => XS.aloadN X1.here hx rfl (hb hby d3_10) rfl rfl) ?_
  show Go p.tables e below _ (T1.setTop (mkF m 11 #[.val (.ref a1), .val (.ref r1)] [(.ref r1)]))
  refine Go.by (fun _ => XS.aloadN X1.here hx rfl (hb hby d3_11) rfl rfl) ?_
  show Go p.tables e below _ (T1.setTop (mkF m 12 #[.val (.ref a1), .val (.ref r1)] [(.ref a1), (.ref r1)]))
  refine Go.by (X1.len hx hZ f2_18 (z := (8 : Int32)) rfl (g := (mkF m 12 #[.val (.ref a1), .val (.ref r1)] [(.ref a1), (.ref r1)])) rfl rfl (hb hby d3_12)) ?_
  show Go p.tables e below _ (T1.setTop (mkF m 13 #[.val (.ref a1), .val (.ref r1)] [(.int (8 : Int32)), (.ref r1)]))
  refine Go.by (fun _ => XS.aloadN X1.here hx rfl (hb hby d3_13) rfl rfl) ?_
  show Go p.tables e below _ (T1.setTop (mkF m 14 #[.val (.ref a1), .val (.ref r1)] [(.ref r1), (.int (8 : Int32)), (.ref r1)]))
  refine Go.by (X1.len hx hZ V1 (z := (16 : Int32)) rfl (g := (mkF m 14 #[.val (.ref a1), .val (.ref r1)] [(.ref r1), (.int (8 : Int32)), (.ref r1)])) rfl rfl (hb hby d3_14)) ?_
  show Go p.tables e below _ (T1.setTop (mkF m 15 #[.val (.ref a1), .val (.ref r1)] [(.int (16 : Int32)), (.int (8 : Int32)), (.ref r1)]))
  refine Go.by (fun _ => XS.iconst X1.here hx rfl (hb hby d3_15)) ?_
  show Go p.tables e below _ (T1.setTop (mkF m 16 #[.val (.ref a1), .val (.ref r1)] [(.int (-1 : Int32)), (.int (16 : Int32)), (.int (8 : Int32)), (.ref r1)]))
  obtain ⟨v3, T3, h3, X3, q3, st3⟩ := X1.callS hx hZ (y := (⟨"java/util/Arrays", "fill", "([BIIB)V"⟩ : MethodName)) hown (tw hw 25 rfl) (tw hw 26 rfl) (tw hw 15 rfl) (tw hw 27 rfl) (by decide) (rm6_8 l Z a0 hw [] r1 kr1 (fun t => if t < 8 then fi t else 0) h1 n0 Zs2 g_r1 V1) (g := (mkF m 16 #[.val (.ref a1), .val (.ref r1)] [(.int (-1 : Int32)), (.int (16 : Int32)), (.int (8 : Int32)), (.ref r1)])) rfl (by rw [hml]; rfl) (argsL := [(.ref r1), (.int (8 : Int32)), (.int (16 : Int32)), (.int (-1 : Int32))]) (rest := []) (lenOf pd4 rfl) rfl (hb hby d3_16) rfl (by decide) (Nat.le_of_ble_eq_true rfl) (k' := 1) (n' := 16) rfl rfl (by decide) (by decide)
  refine Go.by st3 ?_
  obtain ⟨rfl, K3, V3⟩ := q3
  have f4_39 := Avf.keep f2_18 K3 (ninS ne_a1_r1 nin0)
  have f4_40 := f2_19.trans K3 (allS (Or.inr sz_r1) all0)
  have Zs4 : n0 ≤ h3.size := Nat.le_trans Zs2 K3.1
  show Go p.tables e below _ (T3.setTop (mkF m 19 #[.val (.ref a1), .val (.ref r1)] []))
  refine Go.by (fun _ => XS.aloadN X3.here hx rfl (hb hby d3_19) rfl rfl) ?_
  show Go p.tables e below _ (T3.setTop (mkF m 20 #[.val (.ref a1), .val (.ref r1)] [(.ref r1)]))
  refine Go.retA X3 hx hlk hret rfl rfl (hb hby d3_20) (by decide) (by decide) ?_
  refine ⟨r1, kr1, rfl, sz_r1, f4_40, Avf.cong V3 (fun i hi => ?_)⟩
  by_cases q : i < 8 <;> first | (simp [q]; done) | (simp [q]; rfl)
set_option maxRecDepth 65536 in
set_option maxHeartbeats 40000000 in
theorem rm3 (l : Launch) (Z : State) (a0 : Array Value) (hw : ∀ d ∈ tables_1, d.before a0 Z = true) (ws : List Jvm.Cond) (a1 : Addr) (nn : Nat) (kc : ClassId) (fi : Nat → Int32) (h0 : Heap) (n0 : Nat) (Z0 : n0 ≤ h0.size) (hk : nn < 9) (V_a : Avf Z h0 a1 kc .byte nn (fun t => (.int (fi t)))) :
    Met l Z n0 (⟨"com/example/clio/clio/Layout", "pastEntries", "([B)[B"⟩ : MethodName) prog_20_method_22_code 2 (some (.array .byte)) ws Rm3_0 #[(.ref a1)] h0 (fun v h => ∃ r kr, v = some (.ref r) ∧ h0.size ≤ r ∧ Keep h0 h [] ∧ Avf Z h r kr .byte (nn + 8) (fun t => (.int (if t < nn then fi t else -1)))) := by
  have y : nn = 0 ∨ nn = 1 ∨ nn = 2 ∨ nn = 3 ∨ nn = 4 ∨ nn = 5 ∨ nn = 6 ∨ nn = 7 ∨ nn = 8 := by omega
  rcases y with rfl | rfl | rfl | rfl | rfl | rfl | rfl | rfl | rfl
  · exact rm3_0 l Z a0 hw ws a1 kc fi h0 n0 Z0 V_a
  · exact rm3_1 l Z a0 hw ws a1 kc fi h0 n0 Z0 V_a
  · exact rm3_2 l Z a0 hw ws a1 kc fi h0 n0 Z0 V_a
  · exact rm3_3 l Z a0 hw ws a1 kc fi h0 n0 Z0 V_a
  · exact rm3_4 l Z a0 hw ws a1 kc fi h0 n0 Z0 V_a
  · exact rm3_5 l Z a0 hw ws a1 kc fi h0 n0 Z0 V_a
  · exact rm3_6 l Z a0 hw ws a1 kc fi h0 n0 Z0 V_a
  · exact rm3_7 l Z a0 hw ws a1 kc fi h0 n0 Z0 V_a
  · exact rm3_8 l Z a0 hw ws a1 kc fi h0 n0 Z0 V_a
theorem d8_0 : decode method_5_code 0 = .ok (.iload_n 3, 1) := by decide +kernel
theorem d8_1 : decode method_5_code 1 = .ok (.iload_n 2, 1) := by decide +kernel
theorem d8_2 : decode method_5_code 2 = .ok (.bipush 8, 2) := by decide +kernel
theorem d8_4 : decode method_5_code 4 = .ok (.iadd, 1) := by decide +kernel
theorem d8_5 : decode method_5_code 5 = .ok (.if_icmp .lt 5, 3) := by decide +kernel
theorem d8_10 : decode method_5_code 10 = .ok (.iload_n 3, 1) := by decide +kernel
theorem d8_11 : decode method_5_code 11 = .ok (.aload_n 0, 1) := by decide +kernel
theorem d8_12 : decode method_5_code 12 = .ok (.arraylength, 1) := by decide +kernel
theorem d8_13 : decode method_5_code 13 = .ok (.if_icmp .lt 5, 3) := by decide +kernel
theorem d8_18 : decode method_5_code 18 = .ok (.iload_n 3, 1) := by decide +kernel
theorem d8_19 : decode method_5_code 19 = .ok (.iload_n 2, 1) := by decide +kernel
theorem d8_20 : decode method_5_code 20 = .ok (.if_icmp .ge 9, 3) := by decide +kernel
theorem d8_23 : decode method_5_code 23 = .ok (.aload_n 1, 1) := by decide +kernel
theorem d8_24 : decode method_5_code 24 = .ok (.iload_n 3, 1) := by decide +kernel
theorem d8_25 : decode method_5_code 25 = .ok (.baload, 1) := by decide +kernel
theorem d8_26 : decode method_5_code 26 = .ok (.goto 4, 3) := by decide +kernel
theorem d8_30 : decode method_5_code 30 = .ok (.istore 4, 2) := by decide +kernel
theorem d8_32 : decode method_5_code 32 = .ok (.aload_n 0, 1) := by decide +kernel
theorem d8_33 : decode method_5_code 33 = .ok (.iload_n 3, 1) := by decide +kernel
theorem d8_34 : decode method_5_code 34 = .ok (.baload, 1) := by decide +kernel
theorem d8_35 : decode method_5_code 35 = .ok (.iload 4, 2) := by decide +kernel
theorem d8_37 : decode method_5_code 37 = .ok (.if_icmp .ne 7, 3) := by decide +kernel
theorem d8_40 : decode method_5_code 40 = .ok (.iconst 1, 1) := by decide +kernel
theorem d8_41 : decode method_5_code 41 = .ok (.goto 4, 3) := by decide +kernel
theorem d8_45 : decode method_5_code 45 = .ok (.ireturn, 1) := by decide +kernel
theorem d8_29 : decode method_5_code 29 = .ok (.iconst (-1), 1) := by decide +kernel
theorem d8_8 : decode method_5_code 8 = .ok (.iconst 1, 1) := by decide +kernel
theorem d8_9 : decode method_5_code 9 = .ok (.ireturn, 1) := by decide +kernel
abbrev Rm8 : Room := { frames := 0, cells := 0, slots := 0, locals := 0 }
set_option maxRecDepth 65536 in
set_option maxHeartbeats 40000000 in
theorem rm8 (l : Launch) (Z : State) (a0 : Array Value) (hw : ∀ d ∈ tables_1, d.before a0 Z = true) (ws : List Jvm.Cond) (r1 : Addr) (k1 : Addr) (p4 : Int32) (nn : Nat) (kr kc : ClassId) (fi : Nat → Int32) (h0 : Heap) (n0 : Nat) (Z0 : n0 ≤ h0.size) (hk : nn < 9) (hi0 : ¬ p4 < 0) (V_r : Avf Z h0 r1 kr .byte (nn + 8) (fun t => (.int (if t < nn then fi t else -1)))) (V_k : Avf Z h0 k1 kc .byte nn (fun t => (.int (fi t)))) :
    Met l Z n0 (⟨"com/example/clio/clio/LayoutPastEntriesPinLaw", "at", "([B[BII)Z"⟩ : MethodName) method_5_code 5 (some .boolean) ws Rm8 #[(.ref r1), (.ref k1), (.int (nn.toInt32)), (.int p4)] h0 (fun v h => v = some (.int 1) ∧ h0 = h) := by
  refine enter (Ls := #[.val (.ref r1), .val (.ref k1), .val (.int (nn.toInt32)), .val (.int p4), .unset]) (plainFor_of_name pn0) (fun m => by first | (simp [entryFrame, mkF, argsToLocals, Value.category]; done) | rfl) ?_
  intro p e s m below meth c T0 hx hby hml hown hnm hret hlk hZ X0
  show Go p.tables e below _ (T0.setTop (mkF m 0 #[.val (.ref r1), .val (.ref k1), .val (.int (nn.toInt32)), .val (.int p4), .unset] []))
  refine Go.by (fun _ => XS.iloadN X0.here hx rfl (hb hby d8_0) rfl) ?_
  show Go p.tables e below _ (T0.setTop (mkF m 1 #[.val (.ref r1), .val (.ref k1), .val (.int (nn.toInt32)), .val (.int p4), .unset] [(.int p4)]))
  refine Go.by (fun _ => XS.iloadN X0.here hx rfl (hb hby d8_1) rfl) ?_
  show Go p.tables e below _ (T0.setTop (mkF m 2 #[.val (.ref r1), .val (.ref k1), .val (.int (nn.toInt32)), .val (.int p4), .unset] [(.int (nn.toInt32)), (.int p4)]))
  refine Go.by (fun _ => XS.bipush X0.here hx rfl (hb hby d8_2)) ?_
  show Go p.tables e below _ (T0.setTop (mkF m 4 #[.val (.ref r1), .val (.ref k1), .val (.int (nn.toInt32)), .val (.int p4), .unset] [(.int (8 : Int32)), (.int (nn.toInt32)), (.int p4)]))
  refine Go.by (fun _ => XS.iadd X0.here hx rfl (hb hby d8_4) rfl) ?_
  show Go p.tables e below _ (T0.setTop (mkF m 5 #[.val (.ref r1), .val (.ref k1), .val (.int (nn.toInt32)), .val (.int p4), .unset] [(.int ((nn.toInt32) + (8 : Int32))), (.int p4)]))
  by_cases hc5_1 : p4 < ((nn.toInt32) + (8 : Int32))
  · skip
    refine Go.by (fun _ => XS.icmpYes X0.here hx rfl (pc0 := 5) (pc' := 10) rfl (hb hby d8_5) rfl (tlt hc5_1).1 (by decide) (by decide)) ?_
    show Go p.tables e below _ (T0.setTop (mkF m 10 #[.val (.ref r1), .val (.ref k1), .val (.int (nn.toInt32)), .val (.int p4), .unset] []))
    refine Go.by (fun _ => XS.iloadN X0.here hx rfl (hb hby d8_10) rfl) ?_
    show Go p.tables e below _ (T0.setTop (mkF m 11 #[.val (.ref r1), .val (.ref k1), .val (.int (nn.toInt32)), .val (.int p4), .unset] [(.int p4)]))
    refine Go.by (fun _ => XS.aloadN X0.here hx rfl (hb hby d8_11) rfl rfl) ?_
    show Go p.tables e below _ (T0.setTop (mkF m 12 #[.val (.ref r1), .val (.ref k1), .val (.int (nn.toInt32)), .val (.int p4), .unset] [(.ref r1), (.int p4)]))
    refine Go.by (X0.len hx hZ V_r (z := ((nn.toInt32) + (8 : Int32))) (own_len hk) (g := (mkF m 12 #[.val (.ref r1), .val (.ref k1), .val (.int (nn.toInt32)), .val (.int p4), .unset] [(.ref r1), (.int p4)])) rfl rfl (hb hby d8_12)) ?_
    show Go p.tables e below _ (T0.setTop (mkF m 13 #[.val (.ref r1), .val (.ref k1), .val (.int (nn.toInt32)), .val (.int p4), .unset] [(.int ((nn.toInt32) + (8 : Int32))), (.int p4)]))
    refine Go.by (fun _ => XS.icmpYes X0.here hx rfl (pc0 := 13) (pc' := 18) rfl (hb hby d8_13) rfl (tlt hc5_1).1 (by decide) (by decide)) ?_
    show Go p.tables e below _ (T0.setTop (mkF m 18 #[.val (.ref r1), .val (.ref k1), .val (.int (nn.toInt32)), .val (.int p4), .unset] []))
    refine Go.by (fun _ => XS.iloadN X0.here hx rfl (hb hby d8_18) rfl) ?_
    show Go p.tables e below _ (T0.setTop (mkF m 19 #[.val (.ref r1), .val (.ref k1), .val (.int (nn.toInt32)), .val (.int p4), .unset] [(.int p4)]))
    refine Go.by (fun _ => XS.iloadN X0.here hx rfl (hb hby d8_19) rfl) ?_
    show Go p.tables e below _ (T0.setTop (mkF m 20 #[.val (.ref r1), .val (.ref k1), .val (.int (nn.toInt32)), .val (.int p4), .unset] [(.int (nn.toInt32)), (.int p4)]))
    by_cases hc20_2 : p4 < (nn.toInt32)
    · skip
      refine Go.by (fun _ => XS.icmpNo X0.here hx rfl (hb hby d8_20) rfl (tlt hc20_2).2.1) ?_
      show Go p.tables e below _ (T0.setTop (mkF m 23 #[.val (.ref r1), .val (.ref k1), .val (.int (nn.toInt32)), .val (.int p4), .unset] []))
      refine Go.by (fun _ => XS.aloadN X0.here hx rfl (hb hby d8_23) rfl rfl) ?_
      show Go p.tables e below _ (T0.setTop (mkF m 24 #[.val (.ref r1), .val (.ref k1), .val (.int (nn.toInt32)), .val (.int p4), .unset] [(.ref k1)]))
      refine Go.by (fun _ => XS.iloadN X0.here hx rfl (hb hby d8_24) rfl) ?_
      show Go p.tables e below _ (T0.setTop (mkF m 25 #[.val (.ref r1), .val (.ref k1), .val (.int (nn.toInt32)), .val (.int p4), .unset] [(.int p4), (.ref k1)]))
      refine Go.by (X0.ldB hx hZ V_k hi0 (i := (p4.toNatClampNeg)) rfl (own_lt hk hi0 hc20_2) (v := (.int (fi (p4.toNatClampNeg)))) rfl (g := (mkF m 25 #[.val (.ref r1), .val (.ref k1), .val (.int (nn.toInt32)), .val (.int p4), .unset] [(.int p4), (.ref k1)])) rfl rfl (hb hby d8_25)) ?_
      show Go p.tables e below _ (T0.setTop (mkF m 26 #[.val (.ref r1), .val (.ref k1), .val (.int (nn.toInt32)), .val (.int p4), .unset] [(.int (fi (p4.toNatClampNeg)))]))
      refine Go.by (fun _ => XS.goto X0.here hx rfl (pc0 := 26) (pc' := 30) rfl (hb hby d8_26) (by decide) (by decide)) ?_
      show Go p.tables e below _ (T0.setTop (mkF m 30 #[.val (.ref r1), .val (.ref k1), .val (.int (nn.toInt32)), .val (.int p4), .unset] [(.int (fi (p4.toNatClampNeg)))]))
      refine Go.by (fun _ => XS.istore X0.here hx rfl (hb hby d8_30) rfl (l' := #[.val (.ref r1), .val (.ref k1), .val (.int (nn.toInt32)), .val (.int p4), .val (.int (fi (p4.toNatClampNeg)))]) rfl) ?_
      show Go p.tables e below _ (T0.setTop (mkF m 32 #[.val (.ref r1), .val (.ref k1), .val (.int (nn.toInt32)), .val (.int p4), .val (.int (fi (p4.toNatClampNeg)))] []))
      refine Go.by (fun _ => XS.aloadN X0.here hx rfl (hb hby d8_32) rfl rfl) ?_
      show Go p.tables e below _ (T0.setTop (mkF m 33 #[.val (.ref r1), .val (.ref k1), .val (.int (nn.toInt32)), .val (.int p4), .val (.int (fi (p4.toNatClampNeg)))] [(.ref r1)]))
      refine Go.by (fun _ => XS.iloadN X0.here hx rfl (hb hby d8_33) rfl) ?_
      show Go p.tables e below _ (T0.setTop (mkF m 34 #[.val (.ref r1), .val (.ref k1), .val (.int (nn.toInt32)), .val (.int p4), .val (.int (fi (p4.toNatClampNeg)))] [(.int p4), (.ref r1)]))
      refine Go.by (X0.ldB hx hZ V_r hi0 (i := (p4.toNatClampNeg)) rfl (own_lt8 hk hi0 hc5_1) (v := (.int (fi (p4.toNatClampNeg)))) (congrArg Value.int (if_pos (own_lt hk hi0 hc20_2))) (g := (mkF m 34 #[.val (.ref r1), .val (.ref k1), .val (.int (nn.toInt32)), .val (.int p4), .val (.int (fi (p4.toNatClampNeg)))] [(.int p4), (.ref r1)])) rfl rfl (hb hby d8_34)) ?_
      show Go p.tables e below _ (T0.setTop (mkF m 35 #[.val (.ref r1), .val (.ref k1), .val (.int (nn.toInt32)), .val (.int p4), .val (.int (fi (p4.toNatClampNeg)))] [(.int (fi (p4.toNatClampNeg)))]))
      refine Go.by (fun _ => XS.iload X0.here hx rfl (hb hby d8_35) rfl) ?_
      show Go p.tables e below _ (T0.setTop (mkF m 37 #[.val (.ref r1), .val (.ref k1), .val (.int (nn.toInt32)), .val (.int p4), .val (.int (fi (p4.toNatClampNeg)))] [(.int (fi (p4.toNatClampNeg))), (.int (fi (p4.toNatClampNeg)))]))
      refine Go.by (fun _ => XS.icmpNo X0.here hx rfl (hb hby d8_37) rfl (teq rfl).2) ?_
      show Go p.tables e below _ (T0.setTop (mkF m 40 #[.val (.ref r1), .val (.ref k1), .val (.int (nn.toInt32)), .val (.int p4), .val (.int (fi (p4.toNatClampNeg)))] []))
      refine Go.by (fun _ => XS.iconst X0.here hx rfl (hb hby d8_40)) ?_
      show Go p.tables e below _ (T0.setTop (mkF m 41 #[.val (.ref r1), .val (.ref k1), .val (.int (nn.toInt32)), .val (.int p4), .val (.int (fi (p4.toNatClampNeg)))] [(.int (1 : Int32))]))
      refine Go.by (fun _ => XS.goto X0.here hx rfl (pc0 := 41) (pc' := 45) rfl (hb hby d8_41) (by decide) (by decide)) ?_
      show Go p.tables e below _ (T0.setTop (mkF m 45 #[.val (.ref r1), .val (.ref k1), .val (.int (nn.toInt32)), .val (.int p4), .val (.int (fi (p4.toNatClampNeg)))] [(.int (1 : Int32))]))
      exact Go.retN X0 hx hlk (z' := (1 : Int32)) hret (by simp) (hb hby d8_45) rfl (by decide) (by decide) ⟨rfl, rfl⟩
    · skip
      refine Go.by (fun _ => XS.icmpYes X0.here hx rfl (pc0 := 20) (pc' := 29) rfl (hb hby d8_20) rfl (flt hc20_2).2.1 (by decide) (by decide)) ?_
      show Go p.tables e below _ (T0.setTop (mkF m 29 #[.val (.ref r1), .val (.ref k1), .val (.int (nn.toInt32)), .val (.int p4), .unset] []))
      refine Go.by (fun _ => XS.iconst X0.here hx rfl (hb hby d8_29)) ?_
      show Go p.tables e below _ (T0.setTop (mkF m 30 #[.val (.ref r1), .val (.ref k1), .val (.int (nn.toInt32)), .val (.int p4), .unset] [(.int (-1 : Int32))]))
      refine Go.by (fun _ => XS.istore X0.here hx rfl (hb hby d8_30) rfl (l' := #[.val (.ref r1), .val (.ref k1), .val (.int (nn.toInt32)), .val (.int p4), .val (.int (-1 : Int32))]) rfl) ?_
      show Go p.tables e below _ (T0.setTop (mkF m 32 #[.val (.ref r1), .val (.ref k1), .val (.int (nn.toInt32)), .val (.int p4), .val (.int (-1 : Int32))] []))
      refine Go.by (fun _ => XS.aloadN X0.here hx rfl (hb hby d8_32) rfl rfl) ?_
      show Go p.tables e below _ (T0.setTop (mkF m 33 #[.val (.ref r1), .val (.ref k1), .val (.int (nn.toInt32)), .val (.int p4), .val (.int (-1 : Int32))] [(.ref r1)]))
      refine Go.by (fun _ => XS.iloadN X0.here hx rfl (hb hby d8_33) rfl) ?_
      show Go p.tables e below _ (T0.setTop (mkF m 34 #[.val (.ref r1), .val (.ref k1), .val (.int (nn.toInt32)), .val (.int p4), .val (.int (-1 : Int32))] [(.int p4), (.ref r1)]))
      refine Go.by (X0.ldB hx hZ V_r hi0 (i := (p4.toNatClampNeg)) rfl (own_lt8 hk hi0 hc5_1) (v := (.int (-1 : Int32))) (congrArg Value.int (if_neg (own_nlt hk hi0 hc20_2))) (g := (mkF m 34 #[.val (.ref r1), .val (.ref k1), .val (.int (nn.toInt32)), .val (.int p4), .val (.int (-1 : Int32))] [(.int p4), (.ref r1)])) rfl rfl (hb hby d8_34)) ?_
      show Go p.tables e below _ (T0.setTop (mkF m 35 #[.val (.ref r1), .val (.ref k1), .val (.int (nn.toInt32)), .val (.int p4), .val (.int (-1 : Int32))] [(.int (-1 : Int32))]))
      refine Go.by (fun _ => XS.iload X0.here hx rfl (hb hby d8_35) rfl) ?_
      show Go p.tables e below _ (T0.setTop (mkF m 37 #[.val (.ref r1), .val (.ref k1), .val (.int (nn.toInt32)), .val (.int p4), .val (.int (-1 : Int32))] [(.int (-1 : Int32)), (.int (-1 : Int32))]))
      refine Go.by (fun _ => XS.icmpNo X0.here hx rfl (hb hby d8_37) rfl (teq (by decide)).2) ?_
      show Go p.tables e below _ (T0.setTop (mkF m 40 #[.val (.ref r1), .val (.ref k1), .val (.int (nn.toInt32)), .val (.int p4), .val (.int (-1 : Int32))] []))
      refine Go.by (fun _ => XS.iconst X0.here hx rfl (hb hby d8_40)) ?_
      show Go p.tables e below _ (T0.setTop (mkF m 41 #[.val (.ref r1), .val (.ref k1), .val (.int (nn.toInt32)), .val (.int p4), .val (.int (-1 : Int32))] [(.int (1 : Int32))]))
      refine Go.by (fun _ => XS.goto X0.here hx rfl (pc0 := 41) (pc' := 45) rfl (hb hby d8_41) (by decide) (by decide)) ?_
      show Go p.tables e below _ (T0.setTop (mkF m 45 #[.val (.ref r1), .val (.ref k1), .val (.int (nn.toInt32)), .val (.int p4), .val (.int (-1 : Int32))] [(.int (1 : Int32))]))
      exact Go.retN X0 hx hlk (z' := (1 : Int32)) hret (by simp) (hb hby d8_45) rfl (by decide) (by decide) ⟨rfl, rfl⟩
  · skip
    refine Go.by (fun _ => XS.icmpNo X0.here hx rfl (hb hby d8_5) rfl (flt hc5_1).1) ?_
    show Go p.tables e below _ (T0.setTop (mkF m 8 #[.val (.ref r1), .val (.ref k1), .val (.int (nn.toInt32)), .val (.int p4), .unset] []))
    refine Go.by (fun _ => XS.iconst X0.here hx rfl (hb hby d8_8)) ?_
    show Go p.tables e below _ (T0.setTop (mkF m 9 #[.val (.ref r1), .val (.ref k1), .val (.int (nn.toInt32)), .val (.int p4), .unset] [(.int (1 : Int32))]))
    exact Go.retN X0 hx hlk (z' := (1 : Int32)) hret (by simp) (hb hby d8_9) rfl (by decide) (by decide) ⟨rfl, rfl⟩
theorem d9_0 : decode method_6_code 0 = .ok (.iload_n 3, 1) := by decide +kernel
theorem d9_1 : decode method_6_code 1 = .ok (.iload_n 2, 1) := by decide +kernel
theorem d9_2 : decode method_6_code 2 = .ok (.if_icmp .lt 5, 3) := by decide +kernel
theorem d9_7 : decode method_6_code 7 = .ok (.aload_n 0, 1) := by decide +kernel
theorem d9_8 : decode method_6_code 8 = .ok (.iload_n 3, 1) := by decide +kernel
theorem d9_9 : decode method_6_code 9 = .ok (.baload, 1) := by decide +kernel
theorem d9_10 : decode method_6_code 10 = .ok (.aload_n 1, 1) := by decide +kernel
theorem d9_11 : decode method_6_code 11 = .ok (.iload_n 3, 1) := by decide +kernel
theorem d9_12 : decode method_6_code 12 = .ok (.baload, 1) := by decide +kernel
theorem d9_13 : decode method_6_code 13 = .ok (.if_icmp .ne 7, 3) := by decide +kernel
theorem d9_16 : decode method_6_code 16 = .ok (.iconst 1, 1) := by decide +kernel
theorem d9_17 : decode method_6_code 17 = .ok (.goto 4, 3) := by decide +kernel
theorem d9_21 : decode method_6_code 21 = .ok (.ireturn, 1) := by decide +kernel
theorem d9_5 : decode method_6_code 5 = .ok (.iconst 1, 1) := by decide +kernel
theorem d9_6 : decode method_6_code 6 = .ok (.ireturn, 1) := by decide +kernel
abbrev Rm9 : Room := { frames := 0, cells := 0, slots := 0, locals := 0 }
set_option maxRecDepth 65536 in
set_option maxHeartbeats 40000000 in
theorem rm9 (l : Launch) (Z : State) (a0 : Array Value) (hw : ∀ d ∈ tables_1, d.before a0 Z = true) (ws : List Jvm.Cond) (r1 : Addr) (k1 : Addr) (p4 : Int32) (nn : Nat) (kr kc : ClassId) (fi : Nat → Int32) (h0 : Heap) (n0 : Nat) (Z0 : n0 ≤ h0.size) (hk : nn < 9) (hi0 : ¬ p4 < 0) (V_r : Avf Z h0 r1 kr .byte nn (fun t => (.int (fi t)))) (V_k : Avf Z h0 k1 kc .byte nn (fun t => (.int (fi t)))) :
    Met l Z n0 (⟨"com/example/clio/clio/LayoutPastEntriesPinLaw", "eq", "([B[BII)Z"⟩ : MethodName) method_6_code 4 (some .boolean) ws Rm9 #[(.ref r1), (.ref k1), (.int (nn.toInt32)), (.int p4)] h0 (fun v h => v = some (.int 1) ∧ h0 = h) := by
  refine enter (Ls := #[.val (.ref r1), .val (.ref k1), .val (.int (nn.toInt32)), .val (.int p4)]) (plainFor_of_name pn0) (fun m => by first | (simp [entryFrame, mkF, argsToLocals, Value.category]; done) | rfl) ?_
  intro p e s m below meth c T0 hx hby hml hown hnm hret hlk hZ X0
  show Go p.tables e below _ (T0.setTop (mkF m 0 #[.val (.ref r1), .val (.ref k1), .val (.int (nn.toInt32)), .val (.int p4)] []))
  refine Go.by (fun _ => XS.iloadN X0.here hx rfl (hb hby d9_0) rfl) ?_
  show Go p.tables e below _ (T0.setTop (mkF m 1 #[.val (.ref r1), .val (.ref k1), .val (.int (nn.toInt32)), .val (.int p4)] [(.int p4)]))
  refine Go.by (fun _ => XS.iloadN X0.here hx rfl (hb hby d9_1) rfl) ?_
  show Go p.tables e below _ (T0.setTop (mkF m 2 #[.val (.ref r1), .val (.ref k1), .val (.int (nn.toInt32)), .val (.int p4)] [(.int (nn.toInt32)), (.int p4)]))
  by_cases hc2_1 : p4 < (nn.toInt32)
  · skip
    refine Go.by (fun _ => XS.icmpYes X0.here hx rfl (pc0 := 2) (pc' := 7) rfl (hb hby d9_2) rfl (tlt hc2_1).1 (by decide) (by decide)) ?_
    show Go p.tables e below _ (T0.setTop (mkF m 7 #[.val (.ref r1), .val (.ref k1), .val (.int (nn.toInt32)), .val (.int p4)] []))
    refine Go.by (fun _ => XS.aloadN X0.here hx rfl (hb hby d9_7) rfl rfl) ?_
    show Go p.tables e below _ (T0.setTop (mkF m 8 #[.val (.ref r1), .val (.ref k1), .val (.int (nn.toInt32)), .val (.int p4)] [(.ref r1)]))
    refine Go.by (fun _ => XS.iloadN X0.here hx rfl (hb hby d9_8) rfl) ?_
    show Go p.tables e below _ (T0.setTop (mkF m 9 #[.val (.ref r1), .val (.ref k1), .val (.int (nn.toInt32)), .val (.int p4)] [(.int p4), (.ref r1)]))
    refine Go.by (X0.ldB hx hZ V_r hi0 (i := (p4.toNatClampNeg)) rfl (own_lt hk hi0 hc2_1) (v := (.int (fi (p4.toNatClampNeg)))) rfl (g := (mkF m 9 #[.val (.ref r1), .val (.ref k1), .val (.int (nn.toInt32)), .val (.int p4)] [(.int p4), (.ref r1)])) rfl rfl (hb hby d9_9)) ?_
    show Go p.tables e below _ (T0.setTop (mkF m 10 #[.val (.ref r1), .val (.ref k1), .val (.int (nn.toInt32)), .val (.int p4)] [(.int (fi (p4.toNatClampNeg)))]))
    refine Go.by (fun _ => XS.aloadN X0.here hx rfl (hb hby d9_10) rfl rfl) ?_
    show Go p.tables e below _ (T0.setTop (mkF m 11 #[.val (.ref r1), .val (.ref k1), .val (.int (nn.toInt32)), .val (.int p4)] [(.ref k1), (.int (fi (p4.toNatClampNeg)))]))
    refine Go.by (fun _ => XS.iloadN X0.here hx rfl (hb hby d9_11) rfl) ?_
    show Go p.tables e below _ (T0.setTop (mkF m 12 #[.val (.ref r1), .val (.ref k1), .val (.int (nn.toInt32)), .val (.int p4)] [(.int p4), (.ref k1), (.int (fi (p4.toNatClampNeg)))]))
    refine Go.by (X0.ldB hx hZ V_k hi0 (i := (p4.toNatClampNeg)) rfl (own_lt hk hi0 hc2_1) (v := (.int (fi (p4.toNatClampNeg)))) rfl (g := (mkF m 12 #[.val (.ref r1), .val (.ref k1), .val (.int (nn.toInt32)), .val (.int p4)] [(.int p4), (.ref k1), (.int (fi (p4.toNatClampNeg)))])) rfl rfl (hb hby d9_12)) ?_
    show Go p.tables e below _ (T0.setTop (mkF m 13 #[.val (.ref r1), .val (.ref k1), .val (.int (nn.toInt32)), .val (.int p4)] [(.int (fi (p4.toNatClampNeg))), (.int (fi (p4.toNatClampNeg)))]))
    refine Go.by (fun _ => XS.icmpNo X0.here hx rfl (hb hby d9_13) rfl (teq rfl).2) ?_
    show Go p.tables e below _ (T0.setTop (mkF m 16 #[.val (.ref r1), .val (.ref k1), .val (.int (nn.toInt32)), .val (.int p4)] []))
    refine Go.by (fun _ => XS.iconst X0.here hx rfl (hb hby d9_16)) ?_
    show Go p.tables e below _ (T0.setTop (mkF m 17 #[.val (.ref r1), .val (.ref k1), .val (.int (nn.toInt32)), .val (.int p4)] [(.int (1 : Int32))]))
    refine Go.by (fun _ => XS.goto X0.here hx rfl (pc0 := 17) (pc' := 21) rfl (hb hby d9_17) (by decide) (by decide)) ?_
    show Go p.tables e below _ (T0.setTop (mkF m 21 #[.val (.ref r1), .val (.ref k1), .val (.int (nn.toInt32)), .val (.int p4)] [(.int (1 : Int32))]))
    exact Go.retN X0 hx hlk (z' := (1 : Int32)) hret (by simp) (hb hby d9_21) rfl (by decide) (by decide) ⟨rfl, rfl⟩
  · skip
    refine Go.by (fun _ => XS.icmpNo X0.here hx rfl (hb hby d9_2) rfl (flt hc2_1).1) ?_
    show Go p.tables e below _ (T0.setTop (mkF m 5 #[.val (.ref r1), .val (.ref k1), .val (.int (nn.toInt32)), .val (.int p4)] []))
    refine Go.by (fun _ => XS.iconst X0.here hx rfl (hb hby d9_5)) ?_
    show Go p.tables e below _ (T0.setTop (mkF m 6 #[.val (.ref r1), .val (.ref k1), .val (.int (nn.toInt32)), .val (.int p4)] [(.int (1 : Int32))]))
    exact Go.retN X0 hx hlk (z' := (1 : Int32)) hret (by simp) (hb hby d9_6) rfl (by decide) (by decide) ⟨rfl, rfl⟩
theorem pd5 : parseMethodDescriptor "([BIJ)V" = some ⟨[(.array .byte), .int, .long], none⟩ := by decide +kernel
theorem pd6 : parseMethodDescriptor "([B)[B" = some ⟨[(.array .byte)], some (.array .byte)⟩ := by decide +kernel
theorem pd7 : parseMethodDescriptor "([B[BII)Z" = some ⟨[(.array .byte), (.array .byte), .int, .int], some .boolean⟩ := by decide +kernel
set_option maxRecDepth 65536 in
set_option maxHeartbeats 40000000 in
theorem rm0 (l : Launch) (Z : State) (a0 : Array Value) (hw : ∀ d ∈ tables_1, d.before a0 Z = true) (ws : List Jvm.Cond) (p0 : Int32) (p1 : Int64) (h0 : Heap) (n0 : Nat) (Z0 : n0 ≤ h0.size) :
    Met l Z n0 x code maxLocals ret ws room_1 #[(.int p0), (.long p1)] h0 (fun v h => v = some (.int 1)) := by
  refine enter (Ls := #[.val (.int p0), .val (.long p1), .second, .unset, .unset, .unset, .unset, .unset, .unset]) (plainFor_of_name pn0) (fun m => by first | (simp [entryFrame, mkF, argsToLocals, Value.category, maxLocals]; done) | rfl) ?_
  intro p e s m below meth c T0 hx hby hml hown hnm hret hlk hZ X0
  show Go p.tables e below _ (T0.setTop (mkF m 0 #[.val (.int p0), .val (.long p1), .second, .unset, .unset, .unset, .unset, .unset, .unset] []))
  refine Go.by (fun _ => XS.iloadN X0.here hx rfl (hb hby at_0) rfl) ?_
  show Go p.tables e below _ (T0.setTop (mkF m 1 #[.val (.int p0), .val (.long p1), .second, .unset, .unset, .unset, .unset, .unset, .unset] [(.int p0)]))
  refine Go.by (X0.ldcInt hx hZ hown (tw hw 0 rfl) (g := (mkF m 1 #[.val (.int p0), .val (.long p1), .second, .unset, .unset, .unset, .unset, .unset, .unset] [(.int p0)])) rfl (hb hby at_1)) ?_
  show Go p.tables e below _ (T0.setTop (mkF m 3 #[.val (.int p0), .val (.long p1), .second, .unset, .unset, .unset, .unset, .unset, .unset] [(.int (2147483647 : Int32)), (.int p0)]))
  refine Go.by (fun _ => XS.iand X0.here hx rfl (hb hby at_3) rfl) ?_
  show Go p.tables e below _ (T0.setTop (mkF m 4 #[.val (.int p0), .val (.long p1), .second, .unset, .unset, .unset, .unset, .unset, .unset] [(.int (p0 &&& (2147483647 : Int32)))]))
  refine Go.by (fun _ => XS.bipush X0.here hx rfl (hb hby at_4)) ?_
  show Go p.tables e below _ (T0.setTop (mkF m 6 #[.val (.int p0), .val (.long p1), .second, .unset, .unset, .unset, .unset, .unset, .unset] [(.int (9 : Int32)), (.int (p0 &&& (2147483647 : Int32)))]))
  refine Go.by (fun _ => iremS X0 hx rfl (hb hby at_6) rfl (by decide)) ?_
  show Go p.tables e below _ (T0.setTop (mkF m 7 #[.val (.int p0), .val (.long p1), .second, .unset, .unset, .unset, .unset, .unset, .unset] [(.int ((p0 &&& (2147483647 : Int32)) % (9 : Int32)))]))
  refine Go.by (fun _ => XS.istoreN X0.here hx rfl (hb hby at_7) rfl (l' := #[.val (.int p0), .val (.long p1), .second, .val (.int ((p0 &&& (2147483647 : Int32)) % (9 : Int32))), .unset, .unset, .unset, .unset, .unset]) rfl) ?_
  show Go p.tables e below _ (T0.setTop (mkF m 8 #[.val (.int p0), .val (.long p1), .second, .val (.int ((p0 &&& (2147483647 : Int32)) % (9 : Int32))), .unset, .unset, .unset, .unset, .unset] []))
  obtain ⟨nn, hk, ek⟩ := own_m9 p0
  rw [ek]
  show Go p.tables e below _ (T0.setTop (mkF m 8 #[.val (.int p0), .val (.long p1), .second, .val (.int (nn.toInt32)), .unset, .unset, .unset, .unset, .unset] []))
  refine Go.by (fun _ => XS.iloadN X0.here hx rfl (hb hby at_8) rfl) ?_
  show Go p.tables e below _ (T0.setTop (mkF m 9 #[.val (.int p0), .val (.long p1), .second, .val (.int (nn.toInt32)), .unset, .unset, .unset, .unset, .unset] [(.int (nn.toInt32))]))
  obtain ⟨T1, h1, kc1, b1, X1, g1, E1, A1, V1, st1⟩ := X0.newP hx hZ (tw hw 1 rfl) (g := (mkF m 9 #[.val (.int p0), .val (.long p1), .second, .val (.int (nn.toInt32)), .unset, .unset, .unset, .unset, .unset] [(.int (nn.toInt32))])) rfl (hb hby at_9) rfl (own_n0 hk) (sz := nn) (cap := 8) (k' := 1) (n' := 8) (own_nc hk) (Nat.le_of_lt_succ hk) (by decide) rfl rfl (by decide) (by decide) (ad := "[B") (by decide)
  have g_b1 : n0 ≤ b1 := by rw [g1]; exact Z0
  have Zs2 : n0 ≤ h1.size := Nat.le_trans Z0 E1.1
  refine Go.by st1 ?_
  show Go p.tables e below _ (T1.setTop (mkF m 11 #[.val (.int p0), .val (.long p1), .second, .val (.int (nn.toInt32)), .unset, .unset, .unset, .unset, .unset] [(.ref b1)]))
  refine Go.by (fun _ => XS.astore X1.here hx rfl (hb hby at_11) rfl rfl (l' := #[.val (.int p0), .val (.long p1), .second, .val (.int (nn.toInt32)), .val (.ref b1), .unset, .unset, .unset, .unset]) rfl) ?_
  show Go p.tables e below _ (T1.setTop (mkF m 13 #[.val (.int p0), .val (.long p1), .second, .val (.int (nn.toInt32)), .val (.ref b1), .unset, .unset, .unset, .unset] []))
  refine Go.by (fun _ => XS.iloadN X1.here hx rfl (hb hby at_13) rfl) ?_
  show Go p.tables e below _ (T1.setTop (mkF m 14 #[.val (.int p0), .val (.long p1), .second, .val (.int (nn.toInt32)), .val (.ref b1), .unset, .unset, .unset, .unset] [(.int (nn.toInt32))]))
  obtain ⟨T3, h3, kc3, b3, X3, g3, E3, A3, V3, st3⟩ := X1.newP hx hZ (tw hw 1 rfl) (g := (mkF m 14 #[.val (.int p0), .val (.long p1), .second, .val (.int (nn.toInt32)), .val (.ref b1), .unset, .unset, .unset, .unset] [(.int (nn.toInt32))])) rfl (hb hby at_14) rfl (own_n0 hk) (sz := nn) (cap := 8) (k' := 2) (n' := 16) (own_nc hk) (Nat.le_of_lt_succ hk) (by decide) rfl rfl (by decide) (by decide) (ad := "[B") (by decide)
  have g_b3 : n0 ≤ b3 := by rw [g3]; exact Zs2
  have ne_b1_b3 : b1 ≠ b3 := Nat.ne_of_lt (by rw [g3]; exact A1.lt)
  have f4_30 := A1.ext E3
  have f4_31 := Avf.ext V1 E3
  have Zs4 : n0 ≤ h3.size := Nat.le_trans Zs2 E3.1
  refine Go.by st3 ?_
  show Go p.tables e below _ (T3.setTop (mkF m 16 #[.val (.int p0), .val (.long p1), .second, .val (.int (nn.toInt32)), .val (.ref b1), .unset, .unset, .unset, .unset] [(.ref b3)]))
  refine Go.by (fun _ => XS.astore X3.here hx rfl (hb hby at_16) rfl rfl (l' := #[.val (.int p0), .val (.long p1), .second, .val (.int (nn.toInt32)), .val (.ref b1), .val (.ref b3), .unset, .unset, .unset]) rfl) ?_
  show Go p.tables e below _ (T3.setTop (mkF m 18 #[.val (.int p0), .val (.long p1), .second, .val (.int (nn.toInt32)), .val (.ref b1), .val (.ref b3), .unset, .unset, .unset] []))
  refine Go.by (fun _ => XS.aload X3.here hx rfl (hb hby at_18) rfl rfl) ?_
  show Go p.tables e below _ (T3.setTop (mkF m 20 #[.val (.int p0), .val (.long p1), .second, .val (.int (nn.toInt32)), .val (.ref b1), .val (.ref b3), .unset, .unset, .unset] [(.ref b1)]))
  refine Go.by (fun _ => XS.iloadN X3.here hx rfl (hb hby at_20) rfl) ?_
  show Go p.tables e below _ (T3.setTop (mkF m 21 #[.val (.int p0), .val (.long p1), .second, .val (.int (nn.toInt32)), .val (.ref b1), .val (.ref b3), .unset, .unset, .unset] [(.int (nn.toInt32)), (.ref b1)]))
  refine Go.by (fun _ => XS.lloadN X3.here hx rfl (hb hby at_21) rfl) ?_
  show Go p.tables e below _ (T3.setTop (mkF m 22 #[.val (.int p0), .val (.long p1), .second, .val (.int (nn.toInt32)), .val (.ref b1), .val (.ref b3), .unset, .unset, .unset] [(.long p1), (.int (nn.toInt32)), (.ref b1)]))
  obtain ⟨v5, T5, h5, X5, q5, st5⟩ := X3.callS hx hZ (y := (⟨"com/example/clio/clio/LayoutPastEntriesPinLaw", "fill", "([BIJ)V"⟩ : MethodName)) hown (tw hw 2 rfl) (tw hw 3 rfl) (tw hw 4 rfl) (tw hw 5 rfl) (by decide) (rm1 l Z a0 hw [] b1 p1 nn kc1 h3 n0 Zs4 hk g_b1 f4_31) (g := (mkF m 22 #[.val (.int p0), .val (.long p1), .second, .val (.int (nn.toInt32)), .val (.ref b1), .val (.ref b3), .unset, .unset, .unset] [(.long p1), (.int (nn.toInt32)), (.ref b1)])) rfl (by rw [hml]; rfl) (argsL := [(.ref b1), (.int (nn.toInt32)), (.long p1)]) (rest := []) (lenOf pd5 rfl) rfl (hb hby at_22) rfl (by decide) (Nat.le_of_ble_eq_true rfl) (k' := 2) (n' := 16) rfl rfl (by decide) (by decide)
  refine Go.by st5 ?_
  obtain ⟨rfl, K5, V5⟩ := q5
  have f6_46 := f4_30.keep K5
  have f6_47 := A3.keep K5
  have f6_48 := Avf.keep V3 K5 (ninS (Ne.symm ne_b1_b3) nin0)
  have Zs6 : n0 ≤ h5.size := Nat.le_trans Zs4 K5.1
  show Go p.tables e below _ (T5.setTop (mkF m 25 #[.val (.int p0), .val (.long p1), .second, .val (.int (nn.toInt32)), .val (.ref b1), .val (.ref b3), .unset, .unset, .unset] []))
  refine Go.by (fun _ => XS.aload X5.here hx rfl (hb hby at_25) rfl rfl) ?_
  show Go p.tables e below _ (T5.setTop (mkF m 27 #[.val (.int p0), .val (.long p1), .second, .val (.int (nn.toInt32)), .val (.ref b1), .val (.ref b3), .unset, .unset, .unset] [(.ref b3)]))
  refine Go.by (fun _ => XS.iloadN X5.here hx rfl (hb hby at_27) rfl) ?_
  show Go p.tables e below _ (T5.setTop (mkF m 28 #[.val (.int p0), .val (.long p1), .second, .val (.int (nn.toInt32)), .val (.ref b1), .val (.ref b3), .unset, .unset, .unset] [(.int (nn.toInt32)), (.ref b3)]))
  refine Go.by (fun _ => XS.lloadN X5.here hx rfl (hb hby at_28) rfl) ?_
  show Go p.tables e below _ (T5.setTop (mkF m 29 #[.val (.int p0), .val (.long p1), .second, .val (.int (nn.toInt32)), .val (.ref b1), .val (.ref b3), .unset, .unset, .unset] [(.long p1), (.int (nn.toInt32)), (.ref b3)]))
  obtain ⟨v7, T7, h7, X7, q7, st7⟩ := X5.callS hx hZ (y := (⟨"com/example/clio/clio/LayoutPastEntriesPinLaw", "fill", "([BIJ)V"⟩ : MethodName)) hown (tw hw 2 rfl) (tw hw 3 rfl) (tw hw 4 rfl) (tw hw 5 rfl) (by decide) (rm1 l Z a0 hw [] b3 p1 nn kc3 h5 n0 Zs6 hk g_b3 f6_48) (g := (mkF m 29 #[.val (.int p0), .val (.long p1), .second, .val (.int (nn.toInt32)), .val (.ref b1), .val (.ref b3), .unset, .unset, .unset] [(.long p1), (.int (nn.toInt32)), (.ref b3)])) rfl (by rw [hml]; rfl) (argsL := [(.ref b3), (.int (nn.toInt32)), (.long p1)]) (rest := []) (lenOf pd5 rfl) rfl (hb hby at_29) rfl (by decide) (Nat.le_of_ble_eq_true rfl) (k' := 2) (n' := 16) rfl rfl (by decide) (by decide)
  refine Go.by st7 ?_
  obtain ⟨rfl, K7, V7⟩ := q7
  have f8_60 := f6_46.keep K7
  have f8_61 := f6_47.keep K7
  have f8_62 := Avf.keep V5 K7 (ninS ne_b1_b3 nin0)
  have Zs8 : n0 ≤ h7.size := Nat.le_trans Zs6 K7.1
  show Go p.tables e below _ (T7.setTop (mkF m 32 #[.val (.int p0), .val (.long p1), .second, .val (.int (nn.toInt32)), .val (.ref b1), .val (.ref b3), .unset, .unset, .unset] []))
  refine Go.by (fun _ => XS.aload X7.here hx rfl (hb hby at_32) rfl rfl) ?_
  show Go p.tables e below _ (T7.setTop (mkF m 34 #[.val (.int p0), .val (.long p1), .second, .val (.int (nn.toInt32)), .val (.ref b1), .val (.ref b3), .unset, .unset, .unset] [(.ref b1)]))
  obtain ⟨v9, T9, h9, X9, q9, st9⟩ := X7.callS hx hZ (y := (⟨"com/example/clio/clio/Layout", "pastEntries", "([B)[B"⟩ : MethodName)) hown (tw hw 9 rfl) (tw hw 10 rfl) (tw hw 11 rfl) (tw hw 12 rfl) (by decide) (rm3 l Z a0 hw [] b1 nn kc1 (own_fi p1) h7 n0 Zs8 hk f8_62) (g := (mkF m 34 #[.val (.int p0), .val (.long p1), .second, .val (.int (nn.toInt32)), .val (.ref b1), .val (.ref b3), .unset, .unset, .unset] [(.ref b1)])) rfl (by rw [hml]; rfl) (argsL := [(.ref b1)]) (rest := []) (lenOf pd6 rfl) rfl (hb hby at_34) rfl (by decide) (Nat.le_of_ble_eq_true rfl) (k' := 3) (n' := 32) rfl rfl (by decide) (by decide)
  refine Go.by st9 ?_
  obtain ⟨r9, kr9, rfl, sr9, K9, V9⟩ := q9
  have g_r9 : n0 ≤ r9 := Nat.le_trans Zs8 sr9
  have ne_b1_r9 : b1 ≠ r9 := Nat.ne_of_lt (Nat.lt_of_lt_of_le f8_60.lt sr9)
  have ne_b3_r9 : b3 ≠ r9 := Nat.ne_of_lt (Nat.lt_of_lt_of_le f8_61.lt sr9)
  have f10_73 := f8_60.ext (keep_ext K9)
  have f10_74 := f8_61.ext (keep_ext K9)
  have f10_75 := Avf.ext f8_62 (keep_ext K9)
  have f10_76 := Avf.ext V7 (keep_ext K9)
  have Zs10 : n0 ≤ h9.size := Nat.le_trans Zs8 (keep_ext K9).1
  show Go p.tables e below _ (T9.setTop (mkF m 37 #[.val (.int p0), .val (.long p1), .second, .val (.int (nn.toInt32)), .val (.ref b1), .val (.ref b3), .unset, .unset, .unset] [(.ref r9)]))
  refine Go.by (fun _ => XS.astore X9.here hx rfl (hb hby at_37) rfl rfl (l' := #[.val (.int p0), .val (.long p1), .second, .val (.int (nn.toInt32)), .val (.ref b1), .val (.ref b3), .val (.ref r9), .unset, .unset]) rfl) ?_
  show Go p.tables e below _ (T9.setTop (mkF m 39 #[.val (.int p0), .val (.long p1), .second, .val (.int (nn.toInt32)), .val (.ref b1), .val (.ref b3), .val (.ref r9), .unset, .unset] []))
  refine Go.by (fun _ => XS.aload X9.here hx rfl (hb hby at_39) rfl rfl) ?_
  show Go p.tables e below _ (T9.setTop (mkF m 41 #[.val (.int p0), .val (.long p1), .second, .val (.int (nn.toInt32)), .val (.ref b1), .val (.ref b3), .val (.ref r9), .unset, .unset] [(.ref r9)]))
  refine Go.by (fun _ => XS.ifnullNo X9.here hx rfl (hb hby at_41) rfl) ?_
  show Go p.tables e below _ (T9.setTop (mkF m 44 #[.val (.int p0), .val (.long p1), .second, .val (.int (nn.toInt32)), .val (.ref b1), .val (.ref b3), .val (.ref r9), .unset, .unset] []))
  refine Go.by (fun _ => XS.aload X9.here hx rfl (hb hby at_44) rfl rfl) ?_
  show Go p.tables e below _ (T9.setTop (mkF m 46 #[.val (.int p0), .val (.long p1), .second, .val (.int (nn.toInt32)), .val (.ref b1), .val (.ref b3), .val (.ref r9), .unset, .unset] [(.ref r9)]))
  refine Go.by (X9.len hx hZ V9 (z := ((nn.toInt32) + (8 : Int32))) (own_len hk) (g := (mkF m 46 #[.val (.int p0), .val (.long p1), .second, .val (.int (nn.toInt32)), .val (.ref b1), .val (.ref b3), .val (.ref r9), .unset, .unset] [(.ref r9)])) rfl rfl (hb hby at_46)) ?_
  show Go p.tables e below _ (T9.setTop (mkF m 47 #[.val (.int p0), .val (.long p1), .second, .val (.int (nn.toInt32)), .val (.ref b1), .val (.ref b3), .val (.ref r9), .unset, .unset] [(.int ((nn.toInt32) + (8 : Int32)))]))
  refine Go.by (fun _ => XS.iloadN X9.here hx rfl (hb hby at_47) rfl) ?_
  show Go p.tables e below _ (T9.setTop (mkF m 48 #[.val (.int p0), .val (.long p1), .second, .val (.int (nn.toInt32)), .val (.ref b1), .val (.ref b3), .val (.ref r9), .unset, .unset] [(.int (nn.toInt32)), (.int ((nn.toInt32) + (8 : Int32)))]))
  refine Go.by (fun _ => XS.bipush X9.here hx rfl (hb hby at_48)) ?_
  show Go p.tables e below _ (T9.setTop (mkF m 50 #[.val (.int p0), .val (.long p1), .second, .val (.int (nn.toInt32)), .val (.ref b1), .val (.ref b3), .val (.ref r9), .unset, .unset] [(.int (8 : Int32)), (.int (nn.toInt32)), (.int ((nn.toInt32) + (8 : Int32)))]))
  refine Go.by (fun _ => XS.iadd X9.here hx rfl (hb hby at_50) rfl) ?_
  show Go p.tables e below _ (T9.setTop (mkF m 51 #[.val (.int p0), .val (.long p1), .second, .val (.int (nn.toInt32)), .val (.ref b1), .val (.ref b3), .val (.ref r9), .unset, .unset] [(.int ((nn.toInt32) + (8 : Int32))), (.int ((nn.toInt32) + (8 : Int32)))]))
  refine Go.by (fun _ => XS.icmpNo X9.here hx rfl (hb hby at_51) rfl (teq rfl).2) ?_
  show Go p.tables e below _ (T9.setTop (mkF m 54 #[.val (.int p0), .val (.long p1), .second, .val (.int (nn.toInt32)), .val (.ref b1), .val (.ref b3), .val (.ref r9), .unset, .unset] []))
  refine Go.by (fun _ => XS.aload X9.here hx rfl (hb hby at_54) rfl rfl) ?_
  show Go p.tables e below _ (T9.setTop (mkF m 56 #[.val (.int p0), .val (.long p1), .second, .val (.int (nn.toInt32)), .val (.ref b1), .val (.ref b3), .val (.ref r9), .unset, .unset] [(.ref r9)]))
  refine Go.by (fun _ => XS.aload X9.here hx rfl (hb hby at_56) rfl rfl) ?_
  show Go p.tables e below _ (T9.setTop (mkF m 58 #[.val (.int p0), .val (.long p1), .second, .val (.int (nn.toInt32)), .val (.ref b1), .val (.ref b3), .val (.ref r9), .unset, .unset] [(.ref b1), (.ref r9)]))
  refine Go.by (X9.acmp (g := (mkF m 58 #[.val (.int p0), .val (.long p1), .second, .val (.int (nn.toInt32)), .val (.ref b1), .val (.ref b3), .val (.ref r9), .unset, .unset] [(.ref b1), (.ref r9)])) hx rfl rfl rfl (pc0 := 58) (pc' := 63) (same := false) rfl (hb hby at_58) rfl (decide_eq_false fun q => (Ne.symm ne_b1_r9) (Value.ref.inj q)) (by decide) (by decide)) ?_
  show Go p.tables e below _ (T9.setTop (mkF m 63 #[.val (.int p0), .val (.long p1), .second, .val (.int (nn.toInt32)), .val (.ref b1), .val (.ref b3), .val (.ref r9), .unset, .unset] []))
  refine Go.by (fun _ => XS.aload X9.here hx rfl (hb hby at_63) rfl rfl) ?_
  show Go p.tables e below _ (T9.setTop (mkF m 65 #[.val (.int p0), .val (.long p1), .second, .val (.int (nn.toInt32)), .val (.ref b1), .val (.ref b3), .val (.ref r9), .unset, .unset] [(.ref r9)]))
  refine Go.by (fun _ => XS.aload X9.here hx rfl (hb hby at_65) rfl rfl) ?_
  show Go p.tables e below _ (T9.setTop (mkF m 67 #[.val (.int p0), .val (.long p1), .second, .val (.int (nn.toInt32)), .val (.ref b1), .val (.ref b3), .val (.ref r9), .unset, .unset] [(.ref b3), (.ref r9)]))
  refine Go.by (fun _ => XS.iloadN X9.here hx rfl (hb hby at_67) rfl) ?_
  show Go p.tables e below _ (T9.setTop (mkF m 68 #[.val (.int p0), .val (.long p1), .second, .val (.int (nn.toInt32)), .val (.ref b1), .val (.ref b3), .val (.ref r9), .unset, .unset] [(.int (nn.toInt32)), (.ref b3), (.ref r9)]))
  refine Go.by (fun _ => XS.iconst X9.here hx rfl (hb hby at_68)) ?_
  show Go p.tables e below _ (T9.setTop (mkF m 69 #[.val (.int p0), .val (.long p1), .second, .val (.int (nn.toInt32)), .val (.ref b1), .val (.ref b3), .val (.ref r9), .unset, .unset] [(.int (0 : Int32)), (.int (nn.toInt32)), (.ref b3), (.ref r9)]))
  obtain ⟨v11, T11, h11, X11, q11, st11⟩ := X9.callS hx hZ (y := (⟨"com/example/clio/clio/LayoutPastEntriesPinLaw", "at", "([B[BII)Z"⟩ : MethodName)) hown (tw hw 31 rfl) (tw hw 32 rfl) (tw hw 4 rfl) (tw hw 33 rfl) (by decide) (rm8 l Z a0 hw [] r9 b3 (0 : Int32) nn kr9 kc3 (own_fi p1) h9 n0 Zs10 hk (by decide) V9 f10_76) (g := (mkF m 69 #[.val (.int p0), .val (.long p1), .second, .val (.int (nn.toInt32)), .val (.ref b1), .val (.ref b3), .val (.ref r9), .unset, .unset] [(.int (0 : Int32)), (.int (nn.toInt32)), (.ref b3), (.ref r9)])) rfl (by rw [hml]; rfl) (argsL := [(.ref r9), (.ref b3), (.int (nn.toInt32)), (.int (0 : Int32))]) (rest := []) (lenOf pd7 rfl) rfl (hb hby at_69) rfl (by decide) (Nat.le_of_ble_eq_true rfl) (k' := 3) (n' := 32) rfl rfl (by decide) (by decide)
  refine Go.by st11 ?_
  obtain ⟨rfl, rfl⟩ := q11
  show Go p.tables e below _ (T11.setTop (mkF m 72 #[.val (.int p0), .val (.long p1), .second, .val (.int (nn.toInt32)), .val (.ref b1), .val (.ref b3), .val (.ref r9), .unset, .unset] [(.int (1 : Int32))]))
  refine Go.by (fun _ => XS.ifNo X11.here hx rfl (hb hby at_72) rfl ((if0 _ _).trans (feq (by decide)).1)) ?_
  show Go p.tables e below _ (T11.setTop (mkF m 75 #[.val (.int p0), .val (.long p1), .second, .val (.int (nn.toInt32)), .val (.ref b1), .val (.ref b3), .val (.ref r9), .unset, .unset] []))
  refine Go.by (fun _ => XS.aload X11.here hx rfl (hb hby at_75) rfl rfl) ?_
  show Go p.tables e below _ (T11.setTop (mkF m 77 #[.val (.int p0), .val (.long p1), .second, .val (.int (nn.toInt32)), .val (.ref b1), .val (.ref b3), .val (.ref r9), .unset, .unset] [(.ref r9)]))
  refine Go.by (fun _ => XS.aload X11.here hx rfl (hb hby at_77) rfl rfl) ?_
  show Go p.tables e below _ (T11.setTop (mkF m 79 #[.val (.int p0), .val (.long p1), .second, .val (.int (nn.toInt32)), .val (.ref b1), .val (.ref b3), .val (.ref r9), .unset, .unset] [(.ref b3), (.ref r9)]))
  refine Go.by (fun _ => XS.iloadN X11.here hx rfl (hb hby at_79) rfl) ?_
  show Go p.tables e below _ (T11.setTop (mkF m 80 #[.val (.int p0), .val (.long p1), .second, .val (.int (nn.toInt32)), .val (.ref b1), .val (.ref b3), .val (.ref r9), .unset, .unset] [(.int (nn.toInt32)), (.ref b3), (.ref r9)]))
  refine Go.by (fun _ => XS.iconst X11.here hx rfl (hb hby at_80)) ?_
  show Go p.tables e below _ (T11.setTop (mkF m 81 #[.val (.int p0), .val (.long p1), .second, .val (.int (nn.toInt32)), .val (.ref b1), .val (.ref b3), .val (.ref r9), .unset, .unset] [(.int (1 : Int32)), (.int (nn.toInt32)), (.ref b3), (.ref r9)]))
  obtain ⟨v12, T12, h12, X12, q12, st12⟩ := X11.callS hx hZ (y := (⟨"com/example/clio/clio/LayoutPastEntriesPinLaw", "at", "([B[BII)Z"⟩ : MethodName)) hown (tw hw 31 rfl) (tw hw 32 rfl) (tw hw 4 rfl) (tw hw 33 rfl) (by decide) (rm8 l Z a0 hw [] r9 b3 (1 : Int32) nn kr9 kc3 (own_fi p1) h9 n0 Zs10 hk (by decide) V9 f10_76) (g := (mkF m 81 #[.val (.int p0), .val (.long p1), .second, .val (.int (nn.toInt32)), .val (.ref b1), .val (.ref b3), .val (.ref r9), .unset, .unset] [(.int (1 : Int32)), (.int (nn.toInt32)), (.ref b3), (.ref r9)])) rfl (by rw [hml]; rfl) (argsL := [(.ref r9), (.ref b3), (.int (nn.toInt32)), (.int (1 : Int32))]) (rest := []) (lenOf pd7 rfl) rfl (hb hby at_81) rfl (by decide) (Nat.le_of_ble_eq_true rfl) (k' := 3) (n' := 32) rfl rfl (by decide) (by decide)
  refine Go.by st12 ?_
  obtain ⟨rfl, rfl⟩ := q12
  show Go p.tables e below _ (T12.setTop (mkF m 84 #[.val (.int p0), .val (.long p1), .second, .val (.int (nn.toInt32)), .val (.ref b1), .val (.ref b3), .val (.ref r9), .unset, .unset] [(.int (1 : Int32))]))
  refine Go.by (fun _ => XS.ifNo X12.here hx rfl (hb hby at_84) rfl ((if0 _ _).trans (feq (by decide)).1)) ?_
  show Go p.tables e below _ (T12.setTop (mkF m 87 #[.val (.int p0), .val (.long p1), .second, .val (.int (nn.toInt32)), .val (.ref b1), .val (.ref b3), .val (.ref r9), .unset, .unset] []))
  refine Go.by (fun _ => XS.aload X12.here hx rfl (hb hby at_87) rfl rfl) ?_
  show Go p.tables e below _ (T12.setTop (mkF m 89 #[.val (.int p0), .val (.long p1), .second, .val (.int (nn.toInt32)), .val (.ref b1), .val (.ref b3), .val (.ref r9), .unset, .unset] [(.ref r9)]))
  refine Go.by (fun _ => XS.aload X12.here hx rfl (hb hby at_89) rfl rfl) ?_
  show Go p.tables e below _ (T12.setTop (mkF m 91 #[.val (.int p0), .val (.long p1), .second, .val (.int (nn.toInt32)), .val (.ref b1), .val (.ref b3), .val (.ref r9), .unset, .unset] [(.ref b3), (.ref r9)]))
  refine Go.by (fun _ => XS.iloadN X12.here hx rfl (hb hby at_91) rfl) ?_
  show Go p.tables e below _ (T12.setTop (mkF m 92 #[.val (.int p0), .val (.long p1), .second, .val (.int (nn.toInt32)), .val (.ref b1), .val (.ref b3), .val (.ref r9), .unset, .unset] [(.int (nn.toInt32)), (.ref b3), (.ref r9)]))
  refine Go.by (fun _ => XS.iconst X12.here hx rfl (hb hby at_92)) ?_
  show Go p.tables e below _ (T12.setTop (mkF m 93 #[.val (.int p0), .val (.long p1), .second, .val (.int (nn.toInt32)), .val (.ref b1), .val (.ref b3), .val (.ref r9), .unset, .unset] [(.int (2 : Int32)), (.int (nn.toInt32)), (.ref b3), (.ref r9)]))
  obtain ⟨v13, T13, h13, X13, q13, st13⟩ := X12.callS hx hZ (y := (⟨"com/example/clio/clio/LayoutPastEntriesPinLaw", "at", "([B[BII)Z"⟩ : MethodName)) hown (tw hw 31 rfl) (tw hw 32 rfl) (tw hw 4 rfl) (tw hw 33 rfl) (by decide) (rm8 l Z a0 hw [] r9 b3 (2 : Int32) nn kr9 kc3 (own_fi p1) h9 n0 Zs10 hk (by decide) V9 f10_76) (g := (mkF m 93 #[.val (.int p0), .val (.long p1), .second, .val (.int (nn.toInt32)), .val (.ref b1), .val (.ref b3), .val (.ref r9), .unset, .unset] [(.int (2 : Int32)), (.int (nn.toInt32)), (.ref b3), (.ref r9)])) rfl (by rw [hml]; rfl) (argsL := [(.ref r9), (.ref b3), (.int (nn.toInt32)), (.int (2 : Int32))]) (rest := []) (lenOf pd7 rfl) rfl (hb hby at_93) rfl (by decide) (Nat.le_of_ble_eq_true rfl) (k' := 3) (n' := 32) rfl rfl (by decide) (by decide)
  refine Go.by st13 ?_
  obtain ⟨rfl, rfl⟩ := q13
  show Go p.tables e below _ (T13.setTop (mkF m 96 #[.val (.int p0), .val (.long p1), .second, .val (.int (nn.toInt32)), .val (.ref b1), .val (.ref b3), .val (.ref r9), .unset, .unset] [(.int (1 : Int32))]))
  refine Go.by (fun _ => XS.ifNo X13.here hx rfl (hb hby at_96) rfl ((if0 _ _).trans (feq (by decide)).1)) ?_
  show Go p.tables e below _ (T13.setTop (mkF m 99 #[.val (.int p0), .val (.long p1), .second, .val (.int (nn.toInt32)), .val (.ref b1), .val (.ref b3), .val (.ref r9), .unset, .unset] []))
  refine Go.by (fun _ => XS.aload X13.here hx rfl (hb hby at_99) rfl rfl) ?_
  show Go p.tables e below _ (T13.setTop (mkF m 101 #[.val (.int p0), .val (.long p1), .second, .val (.int (nn.toInt32)), .val (.ref b1), .val (.ref b3), .val (.ref r9), .unset, .unset] [(.ref r9)]))
  refine Go.by (fun _ => XS.aload X13.here hx rfl (hb hby at_101) rfl rfl) ?_
  show Go p.tables e below _ (T13.setTop (mkF m 103 #[.val (.int p0), .val (.long p1), .second, .val (.int (nn.toInt32)), .val (.ref b1), .val (.ref b3), .val (.ref r9), .unset, .unset] [(.ref b3), (.ref r9)]))
  refine Go.by (fun _ => XS.iloadN X13.here hx rfl (hb hby at_103) rfl) ?_
  show Go p.tables e below _ (T13.setTop (mkF m 104 #[.val (.int p0), .val (.long p1), .second, .val (.int (nn.toInt32)), .val (.ref b1), .val (.ref b3), .val (.ref r9), .unset, .unset] [(.int (nn.toInt32)), (.ref b3), (.ref r9)]))
  refine Go.by (fun _ => XS.iconst X13.here hx rfl (hb hby at_104)) ?_
  show Go p.tables e below _ (T13.setTop (mkF m 105 #[.val (.int p0), .val (.long p1), .second, .val (.int (nn.toInt32)), .val (.ref b1), .val (.ref b3), .val (.ref r9), .unset, .unset] [(.int (3 : Int32)), (.int (nn.toInt32)), (.ref b3), (.ref r9)]))
  obtain ⟨v14, T14, h14, X14, q14, st14⟩ := X13.callS hx hZ (y := (⟨"com/example/clio/clio/LayoutPastEntriesPinLaw", "at", "([B[BII)Z"⟩ : MethodName)) hown (tw hw 31 rfl) (tw hw 32 rfl) (tw hw 4 rfl) (tw hw 33 rfl) (by decide) (rm8 l Z a0 hw [] r9 b3 (3 : Int32) nn kr9 kc3 (own_fi p1) h9 n0 Zs10 hk (by decide) V9 f10_76) (g := (mkF m 105 #[.val (.int p0), .val (.long p1), .second, .val (.int (nn.toInt32)), .val (.ref b1), .val (.ref b3), .val (.ref r9), .unset, .unset] [(.int (3 : Int32)), (.int (nn.toInt32)), (.ref b3), (.ref r9)])) rfl (by rw [hml]; rfl) (argsL := [(.ref r9), (.ref b3), (.int (nn.toInt32)), (.int (3 : Int32))]) (rest := []) (lenOf pd7 rfl) rfl (hb hby at_105) rfl (by decide) (Nat.le_of_ble_eq_true rfl) (k' := 3) (n' := 32) rfl rfl (by decide) (by decide)
  refine Go.by st14 ?_
  obtain ⟨rfl, rfl⟩ := q14
  show Go p.tables e below _ (T14.setTop (mkF m 108 #[.val (.int p0), .val (.long p1), .second, .val (.int (nn.toInt32)), .val (.ref b1), .val (.ref b3), .val (.ref r9), .unset, .unset] [(.int (1 : Int32))]))
  refine Go.by (fun _ => XS.ifNo X14.here hx rfl (hb hby at_108) rfl ((if0 _ _).trans (feq (by decide)).1)) ?_
  show Go p.tables e below _ (T14.setTop (mkF m 111 #[.val (.int p0), .val (.long p1), .second, .val (.int (nn.toInt32)), .val (.ref b1), .val (.ref b3), .val (.ref r9), .unset, .unset] []))
  refine Go.by (fun _ => XS.aload X14.here hx rfl (hb hby at_111) rfl rfl) ?_
  show Go p.tables e below _ (T14.setTop (mkF m 113 #[.val (.int p0), .val (.long p1), .second, .val (.int (nn.toInt32)), .val (.ref b1), .val (.ref b3), .val (.ref r9), .unset, .unset] [(.ref r9)]))
  refine Go.by (fun _ => XS.aload X14.here hx rfl (hb hby at_113) rfl rfl) ?_
  show Go p.tables e below _ (T14.setTop (mkF m 115 #[.val (.int p0), .val (.long p1), .second, .val (.int (nn.toInt32)), .val (.ref b1), .val (.ref b3), .val (.ref r9), .unset, .unset] [(.ref b3), (.ref r9)]))
  refine Go.by (fun _ => XS.iloadN X14.here hx rfl (hb hby at_115) rfl) ?_
  show Go p.tables e below _ (T14.setTop (mkF m 116 #[.val (.int p0), .val (.long p1), .second, .val (.int (nn.toInt32)), .val (.ref b1), .val (.ref b3), .val (.ref r9), .unset, .unset] [(.int (nn.toInt32)), (.ref b3), (.ref r9)]))
  refine Go.by (fun _ => XS.iconst X14.here hx rfl (hb hby at_116)) ?_
  show Go p.tables e below _ (T14.setTop (mkF m 117 #[.val (.int p0), .val (.long p1), .second, .val (.int (nn.toInt32)), .val (.ref b1), .val (.ref b3), .val (.ref r9), .unset, .unset] [(.int (4 : Int32)), (.int (nn.toInt32)), (.ref b3), (.ref r9)]))
  obtain ⟨v15, T15, h15, X15, q15, st15⟩ := X14.callS hx hZ (y := (⟨"com/example/clio/clio/LayoutPastEntriesPinLaw", "at", "([B[BII)Z"⟩ : MethodName)) hown (tw hw 31 rfl) (tw hw 32 rfl) (tw hw 4 rfl) (tw hw 33 rfl) (by decide) (rm8 l Z a0 hw [] r9 b3 (4 : Int32) nn kr9 kc3 (own_fi p1) h9 n0 Zs10 hk (by decide) V9 f10_76) (g := (mkF m 117 #[.val (.int p0), .val (.long p1), .second, .val (.int (nn.toInt32)), .val (.ref b1), .val (.ref b3), .val (.ref r9), .unset, .unset] [(.int (4 : Int32)), (.int (nn.toInt32)), (.ref b3), (.ref r9)])) rfl (by rw [hml]; rfl) (argsL := [(.ref r9), (.ref b3), (.int (nn.toInt32)), (.int (4 : Int32))]) (rest := []) (lenOf pd7 rfl) rfl (hb hby at_117) rfl (by decide) (Nat.le_of_ble_eq_true rfl) (k' := 3) (n' := 32) rfl rfl (by decide) (by decide)
  refine Go.by st15 ?_
  obtain ⟨rfl, rfl⟩ := q15
  show Go p.tables e below _ (T15.setTop (mkF m 120 #[.val (.int p0), .val (.long p1), .second, .val (.int (nn.toInt32)), .val (.ref b1), .val (.ref b3), .val (.ref r9), .unset, .unset] [(.int (1 : Int32))]))
  refine Go.by (fun _ => XS.ifNo X15.here hx rfl (hb hby at_120) rfl ((if0 _ _).trans (feq (by decide)).1)) ?_
  show Go p.tables e below _ (T15.setTop (mkF m 123 #[.val (.int p0), .val (.long p1), .second, .val (.int (nn.toInt32)), .val (.ref b1), .val (.ref b3), .val (.ref r9), .unset, .unset] []))
  refine Go.by (fun _ => XS.aload X15.here hx rfl (hb hby at_123) rfl rfl) ?_
  show Go p.tables e below _ (T15.setTop (mkF m 125 #[.val (.int p0), .val (.long p1), .second, .val (.int (nn.toInt32)), .val (.ref b1), .val (.ref b3), .val (.ref r9), .unset, .unset] [(.ref r9)]))
  refine Go.by (fun _ => XS.aload X15.here hx rfl (hb hby at_125) rfl rfl) ?_
  show Go p.tables e below _ (T15.setTop (mkF m 127 #[.val (.int p0), .val (.long p1), .second, .val (.int (nn.toInt32)), .val (.ref b1), .val (.ref b3), .val (.ref r9), .unset, .unset] [(.ref b3), (.ref r9)]))
  refine Go.by (fun _ => XS.iloadN X15.here hx rfl (hb hby at_127) rfl) ?_
  show Go p.tables e below _ (T15.setTop (mkF m 128 #[.val (.int p0), .val (.long p1), .second, .val (.int (nn.toInt32)), .val (.ref b1), .val (.ref b3), .val (.ref r9), .unset, .unset] [(.int (nn.toInt32)), (.ref b3), (.ref r9)]))
  refine Go.by (fun _ => XS.iconst X15.here hx rfl (hb hby at_128)) ?_
  show Go p.tables e below _ (T15.setTop (mkF m 129 #[.val (.int p0), .val (.long p1), .second, .val (.int (nn.toInt32)), .val (.ref b1), .val (.ref b3), .val (.ref r9), .unset, .unset] [(.int (5 : Int32)), (.int (nn.toInt32)), (.ref b3), (.ref r9)]))
  obtain ⟨v16, T16, h16, X16, q16, st16⟩ := X15.callS hx hZ (y := (⟨"com/example/clio/clio/LayoutPastEntriesPinLaw", "at", "([B[BII)Z"⟩ : MethodName)) hown (tw hw 31 rfl) (tw hw 32 rfl) (tw hw 4 rfl) (tw hw 33 rfl) (by decide) (rm8 l Z a0 hw [] r9 b3 (5 : Int32) nn kr9 kc3 (own_fi p1) h9 n0 Zs10 hk (by decide) V9 f10_76) (g := (mkF m 129 #[.val (.int p0), .val (.long p1), .second, .val (.int (nn.toInt32)), .val (.ref b1), .val (.ref b3), .val (.ref r9), .unset, .unset] [(.int (5 : Int32)), (.int (nn.toInt32)), (.ref b3), (.ref r9)])) rfl (by rw [hml]; rfl) (argsL := [(.ref r9), (.ref b3), (.int (nn.toInt32)), (.int (5 : Int32))]) (rest := []) (lenOf pd7 rfl) rfl (hb hby at_129) rfl (by decide) (Nat.le_of_ble_eq_true rfl) (k' := 3) (n' := 32) rfl rfl (by decide) (by decide)
  refine Go.by st16 ?_
  obtain ⟨rfl, rfl⟩ := q16
  show Go p.tables e below _ (T16.setTop (mkF m 132 #[.val (.int p0), .val (.long p1), .second, .val (.int (nn.toInt32)), .val (.ref b1), .val (.ref b3), .val (.ref r9), .unset, .unset] [(.int (1 : Int32))]))
  refine Go.by (fun _ => XS.ifNo X16.here hx rfl (hb hby at_132) rfl ((if0 _ _).trans (feq (by decide)).1)) ?_
  show Go p.tables e below _ (T16.setTop (mkF m 135 #[.val (.int p0), .val (.long p1), .second, .val (.int (nn.toInt32)), .val (.ref b1), .val (.ref b3), .val (.ref r9), .unset, .unset] []))
  refine Go.by (fun _ => XS.aload X16.here hx rfl (hb hby at_135) rfl rfl) ?_
  show Go p.tables e below _ (T16.setTop (mkF m 137 #[.val (.int p0), .val (.long p1), .second, .val (.int (nn.toInt32)), .val (.ref b1), .val (.ref b3), .val (.ref r9), .unset, .unset] [(.ref r9)]))
  refine Go.by (fun _ => XS.aload X16.here hx rfl (hb hby at_137) rfl rfl) ?_
  show Go p.tables e below _ (T16.setTop (mkF m 139 #[.val (.int p0), .val (.long p1), .second, .val (.int (nn.toInt32)), .val (.ref b1), .val (.ref b3), .val (.ref r9), .unset, .unset] [(.ref b3), (.ref r9)]))
  refine Go.by (fun _ => XS.iloadN X16.here hx rfl (hb hby at_139) rfl) ?_
  show Go p.tables e below _ (T16.setTop (mkF m 140 #[.val (.int p0), .val (.long p1), .second, .val (.int (nn.toInt32)), .val (.ref b1), .val (.ref b3), .val (.ref r9), .unset, .unset] [(.int (nn.toInt32)), (.ref b3), (.ref r9)]))
  refine Go.by (fun _ => XS.bipush X16.here hx rfl (hb hby at_140)) ?_
  show Go p.tables e below _ (T16.setTop (mkF m 142 #[.val (.int p0), .val (.long p1), .second, .val (.int (nn.toInt32)), .val (.ref b1), .val (.ref b3), .val (.ref r9), .unset, .unset] [(.int (6 : Int32)), (.int (nn.toInt32)), (.ref b3), (.ref r9)]))
  obtain ⟨v17, T17, h17, X17, q17, st17⟩ := X16.callS hx hZ (y := (⟨"com/example/clio/clio/LayoutPastEntriesPinLaw", "at", "([B[BII)Z"⟩ : MethodName)) hown (tw hw 31 rfl) (tw hw 32 rfl) (tw hw 4 rfl) (tw hw 33 rfl) (by decide) (rm8 l Z a0 hw [] r9 b3 (6 : Int32) nn kr9 kc3 (own_fi p1) h9 n0 Zs10 hk (by decide) V9 f10_76) (g := (mkF m 142 #[.val (.int p0), .val (.long p1), .second, .val (.int (nn.toInt32)), .val (.ref b1), .val (.ref b3), .val (.ref r9), .unset, .unset] [(.int (6 : Int32)), (.int (nn.toInt32)), (.ref b3), (.ref r9)])) rfl (by rw [hml]; rfl) (argsL := [(.ref r9), (.ref b3), (.int (nn.toInt32)), (.int (6 : Int32))]) (rest := []) (lenOf pd7 rfl) rfl (hb hby at_142) rfl (by decide) (Nat.le_of_ble_eq_true rfl) (k' := 3) (n' := 32) rfl rfl (by decide) (by decide)
  refine Go.by st17 ?_
  obtain ⟨rfl, rfl⟩ := q17
  show Go p.tables e below _ (T17.setTop (mkF m 145 #[.val (.int p0), .val (.long p1), .second, .val (.int (nn.toInt32)), .val (.ref b1), .val (.ref b3), .val (.ref r9), .unset, .unset] [(.int (1 : Int32))]))
  refine Go.by (fun _ => XS.ifNo X17.here hx rfl (hb hby at_145) rfl ((if0 _ _).trans (feq (by decide)).1)) ?_
  show Go p.tables e below _ (T17.setTop (mkF m 148 #[.val (.int p0), .val (.long p1), .second, .val (.int (nn.toInt32)), .val (.ref b1), .val (.ref b3), .val (.ref r9), .unset, .unset] []))
  refine Go.by (fun _ => XS.aload X17.here hx rfl (hb hby at_148) rfl rfl) ?_
  show Go p.tables e below _ (T17.setTop (mkF m 150 #[.val (.int p0), .val (.long p1), .second, .val (.int (nn.toInt32)), .val (.ref b1), .val (.ref b3), .val (.ref r9), .unset, .unset] [(.ref r9)]))
  refine Go.by (fun _ => XS.aload X17.here hx rfl (hb hby at_150) rfl rfl) ?_
  show Go p.tables e below _ (T17.setTop (mkF m 152 #[.val (.int p0), .val (.long p1), .second, .val (.int (nn.toInt32)), .val (.ref b1), .val (.ref b3), .val (.ref r9), .unset, .unset] [(.ref b3), (.ref r9)]))
  refine Go.by (fun _ => XS.iloadN X17.here hx rfl (hb hby at_152) rfl) ?_
  show Go p.tables e below _ (T17.setTop (mkF m 153 #[.val (.int p0), .val (.long p1), .second, .val (.int (nn.toInt32)), .val (.ref b1), .val (.ref b3), .val (.ref r9), .unset, .unset] [(.int (nn.toInt32)), (.ref b3), (.ref r9)]))
  refine Go.by (fun _ => XS.bipush X17.here hx rfl (hb hby at_153)) ?_
  show Go p.tables e below _ (T17.setTop (mkF m 155 #[.val (.int p0), .val (.long p1), .second, .val (.int (nn.toInt32)), .val (.ref b1), .val (.ref b3), .val (.ref r9), .unset, .unset] [(.int (7 : Int32)), (.int (nn.toInt32)), (.ref b3), (.ref r9)]))
  obtain ⟨v18, T18, h18, X18, q18, st18⟩ := X17.callS hx hZ (y := (⟨"com/example/clio/clio/LayoutPastEntriesPinLaw", "at", "([B[BII)Z"⟩ : MethodName)) hown (tw hw 31 rfl) (tw hw 32 rfl) (tw hw 4 rfl) (tw hw 33 rfl) (by decide) (rm8 l Z a0 hw [] r9 b3 (7 : Int32) nn kr9 kc3 (own_fi p1) h9 n0 Zs10 hk (by decide) V9 f10_76) (g := (mkF m 155 #[.val (.int p0), .val (.long p1), .second, .val (.int (nn.toInt32)), .val (.ref b1), .val (.ref b3), .val (.ref r9), .unset, .unset] [(.int (7 : Int32)), (.int (nn.toInt32)), (.ref b3), (.ref r9)])) rfl (by rw [hml]; rfl) (argsL := [(.ref r9), (.ref b3), (.int (nn.toInt32)), (.int (7 : Int32))]) (rest := []) (lenOf pd7 rfl) rfl (hb hby at_155) rfl (by decide) (Nat.le_of_ble_eq_true rfl) (k' := 3) (n' := 32) rfl rfl (by decide) (by decide)
  refine Go.by st18 ?_
  obtain ⟨rfl, rfl⟩ := q18
  show Go p.tables e below _ (T18.setTop (mkF m 158 #[.val (.int p0), .val (.long p1), .second, .val (.int (nn.toInt32)), .val (.ref b1), .val (.ref b3), .val (.ref r9), .unset, .unset] [(.int (1 : Int32))]))
  refine Go.by (fun _ => XS.ifNo X18.here hx rfl (hb hby at_158) rfl ((if0 _ _).trans (feq (by decide)).1)) ?_
  show Go p.tables e below _ (T18.setTop (mkF m 161 #[.val (.int p0), .val (.long p1), .second, .val (.int (nn.toInt32)), .val (.ref b1), .val (.ref b3), .val (.ref r9), .unset, .unset] []))
  refine Go.by (fun _ => XS.aload X18.here hx rfl (hb hby at_161) rfl rfl) ?_
  show Go p.tables e below _ (T18.setTop (mkF m 163 #[.val (.int p0), .val (.long p1), .second, .val (.int (nn.toInt32)), .val (.ref b1), .val (.ref b3), .val (.ref r9), .unset, .unset] [(.ref r9)]))
  refine Go.by (fun _ => XS.aload X18.here hx rfl (hb hby at_163) rfl rfl) ?_
  show Go p.tables e below _ (T18.setTop (mkF m 165 #[.val (.int p0), .val (.long p1), .second, .val (.int (nn.toInt32)), .val (.ref b1), .val (.ref b3), .val (.ref r9), .unset, .unset] [(.ref b3), (.ref r9)]))
  refine Go.by (fun _ => XS.iloadN X18.here hx rfl (hb hby at_165) rfl) ?_
  show Go p.tables e below _ (T18.setTop (mkF m 166 #[.val (.int p0), .val (.long p1), .second, .val (.int (nn.toInt32)), .val (.ref b1), .val (.ref b3), .val (.ref r9), .unset, .unset] [(.int (nn.toInt32)), (.ref b3), (.ref r9)]))
  refine Go.by (fun _ => XS.bipush X18.here hx rfl (hb hby at_166)) ?_
  show Go p.tables e below _ (T18.setTop (mkF m 168 #[.val (.int p0), .val (.long p1), .second, .val (.int (nn.toInt32)), .val (.ref b1), .val (.ref b3), .val (.ref r9), .unset, .unset] [(.int (8 : Int32)), (.int (nn.toInt32)), (.ref b3), (.ref r9)]))
  obtain ⟨v19, T19, h19, X19, q19, st19⟩ := X18.callS hx hZ (y := (⟨"com/example/clio/clio/LayoutPastEntriesPinLaw", "at", "([B[BII)Z"⟩ : MethodName)) hown (tw hw 31 rfl) (tw hw 32 rfl) (tw hw 4 rfl) (tw hw 33 rfl) (by decide) (rm8 l Z a0 hw [] r9 b3 (8 : Int32) nn kr9 kc3 (own_fi p1) h9 n0 Zs10 hk (by decide) V9 f10_76) (g := (mkF m 168 #[.val (.int p0), .val (.long p1), .second, .val (.int (nn.toInt32)), .val (.ref b1), .val (.ref b3), .val (.ref r9), .unset, .unset] [(.int (8 : Int32)), (.int (nn.toInt32)), (.ref b3), (.ref r9)])) rfl (by rw [hml]; rfl) (argsL := [(.ref r9), (.ref b3), (.int (nn.toInt32)), (.int (8 : Int32))]) (rest := []) (lenOf pd7 rfl) rfl (hb hby at_168) rfl (by decide) (Nat.le_of_ble_eq_true rfl) (k' := 3) (n' := 32) rfl rfl (by decide) (by decide)
  refine Go.by st19 ?_
  obtain ⟨rfl, rfl⟩ := q19
  show Go p.tables e below _ (T19.setTop (mkF m 171 #[.val (.int p0), .val (.long p1), .second, .val (.int (nn.toInt32)), .val (.ref b1), .val (.ref b3), .val (.ref r9), .unset, .unset] [(.int (1 : Int32))]))
  refine Go.by (fun _ => XS.ifNo X19.here hx rfl (hb hby at_171) rfl ((if0 _ _).trans (feq (by decide)).1)) ?_
  show Go p.tables e below _ (T19.setTop (mkF m 174 #[.val (.int p0), .val (.long p1), .second, .val (.int (nn.toInt32)), .val (.ref b1), .val (.ref b3), .val (.ref r9), .unset, .unset] []))
  refine Go.by (fun _ => XS.aload X19.here hx rfl (hb hby at_174) rfl rfl) ?_
  show Go p.tables e below _ (T19.setTop (mkF m 176 #[.val (.int p0), .val (.long p1), .second, .val (.int (nn.toInt32)), .val (.ref b1), .val (.ref b3), .val (.ref r9), .unset, .unset] [(.ref r9)]))
  refine Go.by (fun _ => XS.aload X19.here hx rfl (hb hby at_176) rfl rfl) ?_
  show Go p.tables e below _ (T19.setTop (mkF m 178 #[.val (.int p0), .val (.long p1), .second, .val (.int (nn.toInt32)), .val (.ref b1), .val (.ref b3), .val (.ref r9), .unset, .unset] [(.ref b3), (.ref r9)]))
  refine Go.by (fun _ => XS.iloadN X19.here hx rfl (hb hby at_178) rfl) ?_
  show Go p.tables e below _ (T19.setTop (mkF m 179 #[.val (.int p0), .val (.long p1), .second, .val (.int (nn.toInt32)), .val (.ref b1), .val (.ref b3), .val (.ref r9), .unset, .unset] [(.int (nn.toInt32)), (.ref b3), (.ref r9)]))
  refine Go.by (fun _ => XS.bipush X19.here hx rfl (hb hby at_179)) ?_
  show Go p.tables e below _ (T19.setTop (mkF m 181 #[.val (.int p0), .val (.long p1), .second, .val (.int (nn.toInt32)), .val (.ref b1), .val (.ref b3), .val (.ref r9), .unset, .unset] [(.int (9 : Int32)), (.int (nn.toInt32)), (.ref b3), (.ref r9)]))
  obtain ⟨v20, T20, h20, X20, q20, st20⟩ := X19.callS hx hZ (y := (⟨"com/example/clio/clio/LayoutPastEntriesPinLaw", "at", "([B[BII)Z"⟩ : MethodName)) hown (tw hw 31 rfl) (tw hw 32 rfl) (tw hw 4 rfl) (tw hw 33 rfl) (by decide) (rm8 l Z a0 hw [] r9 b3 (9 : Int32) nn kr9 kc3 (own_fi p1) h9 n0 Zs10 hk (by decide) V9 f10_76) (g := (mkF m 181 #[.val (.int p0), .val (.long p1), .second, .val (.int (nn.toInt32)), .val (.ref b1), .val (.ref b3), .val (.ref r9), .unset, .unset] [(.int (9 : Int32)), (.int (nn.toInt32)), (.ref b3), (.ref r9)])) rfl (by rw [hml]; rfl) (argsL := [(.ref r9), (.ref b3), (.int (nn.toInt32)), (.int (9 : Int32))]) (rest := []) (lenOf pd7 rfl) rfl (hb hby at_181) rfl (by decide) (Nat.le_of_ble_eq_true rfl) (k' := 3) (n' := 32) rfl rfl (by decide) (by decide)
  refine Go.by st20 ?_
  obtain ⟨rfl, rfl⟩ := q20
  show Go p.tables e below _ (T20.setTop (mkF m 184 #[.val (.int p0), .val (.long p1), .second, .val (.int (nn.toInt32)), .val (.ref b1), .val (.ref b3), .val (.ref r9), .unset, .unset] [(.int (1 : Int32))]))
  refine Go.by (fun _ => XS.ifNo X20.here hx rfl (hb hby at_184) rfl ((if0 _ _).trans (feq (by decide)).1)) ?_
  show Go p.tables e below _ (T20.setTop (mkF m 187 #[.val (.int p0), .val (.long p1), .second, .val (.int (nn.toInt32)), .val (.ref b1), .val (.ref b3), .val (.ref r9), .unset, .unset] []))
  refine Go.by (fun _ => XS.aload X20.here hx rfl (hb hby at_187) rfl rfl) ?_
  show Go p.tables e below _ (T20.setTop (mkF m 189 #[.val (.int p0), .val (.long p1), .second, .val (.int (nn.toInt32)), .val (.ref b1), .val (.ref b3), .val (.ref r9), .unset, .unset] [(.ref r9)]))
  refine Go.by (fun _ => XS.aload X20.here hx rfl (hb hby at_189) rfl rfl) ?_
  show Go p.tables e below _ (T20.setTop (mkF m 191 #[.val (.int p0), .val (.long p1), .second, .val (.int (nn.toInt32)), .val (.ref b1), .val (.ref b3), .val (.ref r9), .unset, .unset] [(.ref b3), (.ref r9)]))
  refine Go.by (fun _ => XS.iloadN X20.here hx rfl (hb hby at_191) rfl) ?_
  show Go p.tables e below _ (T20.setTop (mkF m 192 #[.val (.int p0), .val (.long p1), .second, .val (.int (nn.toInt32)), .val (.ref b1), .val (.ref b3), .val (.ref r9), .unset, .unset] [(.int (nn.toInt32)), (.ref b3), (.ref r9)]))
  refine Go.by (fun _ => XS.bipush X20.here hx rfl (hb hby at_192)) ?_
  show Go p.tables e below _ (T20.setTop (mkF m 194 #[.val (.int p0), .val (.long p1), .second, .val (.int (nn.toInt32)), .val (.ref b1), .val (.ref b3), .val (.ref r9), .unset, .unset] [(.int (10 : Int32)), (.int (nn.toInt32)), (.ref b3), (.ref r9)]))
  obtain ⟨v21, T21, h21, X21, q21, st21⟩ := X20.callS hx hZ (y := (⟨"com/example/clio/clio/LayoutPastEntriesPinLaw", "at", "([B[BII)Z"⟩ : MethodName)) hown (tw hw 31 rfl) (tw hw 32 rfl) (tw hw 4 rfl) (tw hw 33 rfl) (by decide) (rm8 l Z a0 hw [] r9 b3 (10 : Int32) nn kr9 kc3 (own_fi p1) h9 n0 Zs10 hk (by decide) V9 f10_76) (g := (mkF m 194 #[.val (.int p0), .val (.long p1), .second, .val (.int (nn.toInt32)), .val (.ref b1), .val (.ref b3), .val (.ref r9), .unset, .unset] [(.int (10 : Int32)), (.int (nn.toInt32)), (.ref b3), (.ref r9)])) rfl (by rw [hml]; rfl) (argsL := [(.ref r9), (.ref b3), (.int (nn.toInt32)), (.int (10 : Int32))]) (rest := []) (lenOf pd7 rfl) rfl (hb hby at_194) rfl (by decide) (Nat.le_of_ble_eq_true rfl) (k' := 3) (n' := 32) rfl rfl (by decide) (by decide)
  refine Go.by st21 ?_
  obtain ⟨rfl, rfl⟩ := q21
  show Go p.tables e below _ (T21.setTop (mkF m 197 #[.val (.int p0), .val (.long p1), .second, .val (.int (nn.toInt32)), .val (.ref b1), .val (.ref b3), .val (.ref r9), .unset, .unset] [(.int (1 : Int32))]))
  refine Go.by (fun _ => XS.ifNo X21.here hx rfl (hb hby at_197) rfl ((if0 _ _).trans (feq (by decide)).1)) ?_
  show Go p.tables e below _ (T21.setTop (mkF m 200 #[.val (.int p0), .val (.long p1), .second, .val (.int (nn.toInt32)), .val (.ref b1), .val (.ref b3), .val (.ref r9), .unset, .unset] []))
  refine Go.by (fun _ => XS.aload X21.here hx rfl (hb hby at_200) rfl rfl) ?_
  show Go p.tables e below _ (T21.setTop (mkF m 202 #[.val (.int p0), .val (.long p1), .second, .val (.int (nn.toInt32)), .val (.ref b1), .val (.ref b3), .val (.ref r9), .unset, .unset] [(.ref r9)]))
  refine Go.by (fun _ => XS.aload X21.here hx rfl (hb hby at_202) rfl rfl) ?_
  show Go p.tables e below _ (T21.setTop (mkF m 204 #[.val (.int p0), .val (.long p1), .second, .val (.int (nn.toInt32)), .val (.ref b1), .val (.ref b3), .val (.ref r9), .unset, .unset] [(.ref b3), (.ref r9)]))
  refine Go.by (fun _ => XS.iloadN X21.here hx rfl (hb hby at_204) rfl) ?_
  show Go p.tables e below _ (T21.setTop (mkF m 205 #[.val (.int p0), .val (.long p1), .second, .val (.int (nn.toInt32)), .val (.ref b1), .val (.ref b3), .val (.ref r9), .unset, .unset] [(.int (nn.toInt32)), (.ref b3), (.ref r9)]))
  refine Go.by (fun _ => XS.bipush X21.here hx rfl (hb hby at_205)) ?_
  show Go p.tables e below _ (T21.setTop (mkF m 207 #[.val (.int p0), .val (.long p1), .second, .val (.int (nn.toInt32)), .val (.ref b1), .val (.ref b3), .val (.ref r9), .unset, .unset] [(.int (11 : Int32)), (.int (nn.toInt32)), (.ref b3), (.ref r9)]))
  obtain ⟨v22, T22, h22, X22, q22, st22⟩ := X21.callS hx hZ (y := (⟨"com/example/clio/clio/LayoutPastEntriesPinLaw", "at", "([B[BII)Z"⟩ : MethodName)) hown (tw hw 31 rfl) (tw hw 32 rfl) (tw hw 4 rfl) (tw hw 33 rfl) (by decide) (rm8 l Z a0 hw [] r9 b3 (11 : Int32) nn kr9 kc3 (own_fi p1) h9 n0 Zs10 hk (by decide) V9 f10_76) (g := (mkF m 207 #[.val (.int p0), .val (.long p1), .second, .val (.int (nn.toInt32)), .val (.ref b1), .val (.ref b3), .val (.ref r9), .unset, .unset] [(.int (11 : Int32)), (.int (nn.toInt32)), (.ref b3), (.ref r9)])) rfl (by rw [hml]; rfl) (argsL := [(.ref r9), (.ref b3), (.int (nn.toInt32)), (.int (11 : Int32))]) (rest := []) (lenOf pd7 rfl) rfl (hb hby at_207) rfl (by decide) (Nat.le_of_ble_eq_true rfl) (k' := 3) (n' := 32) rfl rfl (by decide) (by decide)
  refine Go.by st22 ?_
  obtain ⟨rfl, rfl⟩ := q22
  show Go p.tables e below _ (T22.setTop (mkF m 210 #[.val (.int p0), .val (.long p1), .second, .val (.int (nn.toInt32)), .val (.ref b1), .val (.ref b3), .val (.ref r9), .unset, .unset] [(.int (1 : Int32))]))
  refine Go.by (fun _ => XS.ifNo X22.here hx rfl (hb hby at_210) rfl ((if0 _ _).trans (feq (by decide)).1)) ?_
  show Go p.tables e below _ (T22.setTop (mkF m 213 #[.val (.int p0), .val (.long p1), .second, .val (.int (nn.toInt32)), .val (.ref b1), .val (.ref b3), .val (.ref r9), .unset, .unset] []))
  refine Go.by (fun _ => XS.aload X22.here hx rfl (hb hby at_213) rfl rfl) ?_
  show Go p.tables e below _ (T22.setTop (mkF m 215 #[.val (.int p0), .val (.long p1), .second, .val (.int (nn.toInt32)), .val (.ref b1), .val (.ref b3), .val (.ref r9), .unset, .unset] [(.ref r9)]))
  refine Go.by (fun _ => XS.aload X22.here hx rfl (hb hby at_215) rfl rfl) ?_
  show Go p.tables e below _ (T22.setTop (mkF m 217 #[.val (.int p0), .val (.long p1), .second, .val (.int (nn.toInt32)), .val (.ref b1), .val (.ref b3), .val (.ref r9), .unset, .unset] [(.ref b3), (.ref r9)]))
  refine Go.by (fun _ => XS.iloadN X22.here hx rfl (hb hby at_217) rfl) ?_
  show Go p.tables e below _ (T22.setTop (mkF m 218 #[.val (.int p0), .val (.long p1), .second, .val (.int (nn.toInt32)), .val (.ref b1), .val (.ref b3), .val (.ref r9), .unset, .unset] [(.int (nn.toInt32)), (.ref b3), (.ref r9)]))
  refine Go.by (fun _ => XS.bipush X22.here hx rfl (hb hby at_218)) ?_
  show Go p.tables e below _ (T22.setTop (mkF m 220 #[.val (.int p0), .val (.long p1), .second, .val (.int (nn.toInt32)), .val (.ref b1), .val (.ref b3), .val (.ref r9), .unset, .unset] [(.int (12 : Int32)), (.int (nn.toInt32)), (.ref b3), (.ref r9)]))
  obtain ⟨v23, T23, h23, X23, q23, st23⟩ := X22.callS hx hZ (y := (⟨"com/example/clio/clio/LayoutPastEntriesPinLaw", "at", "([B[BII)Z"⟩ : MethodName)) hown (tw hw 31 rfl) (tw hw 32 rfl) (tw hw 4 rfl) (tw hw 33 rfl) (by decide) (rm8 l Z a0 hw [] r9 b3 (12 : Int32) nn kr9 kc3 (own_fi p1) h9 n0 Zs10 hk (by decide) V9 f10_76) (g := (mkF m 220 #[.val (.int p0), .val (.long p1), .second, .val (.int (nn.toInt32)), .val (.ref b1), .val (.ref b3), .val (.ref r9), .unset, .unset] [(.int (12 : Int32)), (.int (nn.toInt32)), (.ref b3), (.ref r9)])) rfl (by rw [hml]; rfl) (argsL := [(.ref r9), (.ref b3), (.int (nn.toInt32)), (.int (12 : Int32))]) (rest := []) (lenOf pd7 rfl) rfl (hb hby at_220) rfl (by decide) (Nat.le_of_ble_eq_true rfl) (k' := 3) (n' := 32) rfl rfl (by decide) (by decide)
  refine Go.by st23 ?_
  obtain ⟨rfl, rfl⟩ := q23
  show Go p.tables e below _ (T23.setTop (mkF m 223 #[.val (.int p0), .val (.long p1), .second, .val (.int (nn.toInt32)), .val (.ref b1), .val (.ref b3), .val (.ref r9), .unset, .unset] [(.int (1 : Int32))]))
  refine Go.by (fun _ => XS.ifNo X23.here hx rfl (hb hby at_223) rfl ((if0 _ _).trans (feq (by decide)).1)) ?_
  show Go p.tables e below _ (T23.setTop (mkF m 226 #[.val (.int p0), .val (.long p1), .second, .val (.int (nn.toInt32)), .val (.ref b1), .val (.ref b3), .val (.ref r9), .unset, .unset] []))
  refine Go.by (fun _ => XS.aload X23.here hx rfl (hb hby at_226) rfl rfl) ?_
  show Go p.tables e below _ (T23.setTop (mkF m 228 #[.val (.int p0), .val (.long p1), .second, .val (.int (nn.toInt32)), .val (.ref b1), .val (.ref b3), .val (.ref r9), .unset, .unset] [(.ref r9)]))
  refine Go.by (fun _ => XS.aload X23.here hx rfl (hb hby at_228) rfl rfl) ?_
  show Go p.tables e below _ (T23.setTop (mkF m 230 #[.val (.int p0), .val (.long p1), .second, .val (.int (nn.toInt32)), .val (.ref b1), .val (.ref b3), .val (.ref r9), .unset, .unset] [(.ref b3), (.ref r9)]))
  refine Go.by (fun _ => XS.iloadN X23.here hx rfl (hb hby at_230) rfl) ?_
  show Go p.tables e below _ (T23.setTop (mkF m 231 #[.val (.int p0), .val (.long p1), .second, .val (.int (nn.toInt32)), .val (.ref b1), .val (.ref b3), .val (.ref r9), .unset, .unset] [(.int (nn.toInt32)), (.ref b3), (.ref r9)]))
  refine Go.by (fun _ => XS.bipush X23.here hx rfl (hb hby at_231)) ?_
  show Go p.tables e below _ (T23.setTop (mkF m 233 #[.val (.int p0), .val (.long p1), .second, .val (.int (nn.toInt32)), .val (.ref b1), .val (.ref b3), .val (.ref r9), .unset, .unset] [(.int (13 : Int32)), (.int (nn.toInt32)), (.ref b3), (.ref r9)]))
  obtain ⟨v24, T24, h24, X24, q24, st24⟩ := X23.callS hx hZ (y := (⟨"com/example/clio/clio/LayoutPastEntriesPinLaw", "at", "([B[BII)Z"⟩ : MethodName)) hown (tw hw 31 rfl) (tw hw 32 rfl) (tw hw 4 rfl) (tw hw 33 rfl) (by decide) (rm8 l Z a0 hw [] r9 b3 (13 : Int32) nn kr9 kc3 (own_fi p1) h9 n0 Zs10 hk (by decide) V9 f10_76) (g := (mkF m 233 #[.val (.int p0), .val (.long p1), .second, .val (.int (nn.toInt32)), .val (.ref b1), .val (.ref b3), .val (.ref r9), .unset, .unset] [(.int (13 : Int32)), (.int (nn.toInt32)), (.ref b3), (.ref r9)])) rfl (by rw [hml]; rfl) (argsL := [(.ref r9), (.ref b3), (.int (nn.toInt32)), (.int (13 : Int32))]) (rest := []) (lenOf pd7 rfl) rfl (hb hby at_233) rfl (by decide) (Nat.le_of_ble_eq_true rfl) (k' := 3) (n' := 32) rfl rfl (by decide) (by decide)
  refine Go.by st24 ?_
  obtain ⟨rfl, rfl⟩ := q24
  show Go p.tables e below _ (T24.setTop (mkF m 236 #[.val (.int p0), .val (.long p1), .second, .val (.int (nn.toInt32)), .val (.ref b1), .val (.ref b3), .val (.ref r9), .unset, .unset] [(.int (1 : Int32))]))
  refine Go.by (fun _ => XS.ifNo X24.here hx rfl (hb hby at_236) rfl ((if0 _ _).trans (feq (by decide)).1)) ?_
  show Go p.tables e below _ (T24.setTop (mkF m 239 #[.val (.int p0), .val (.long p1), .second, .val (.int (nn.toInt32)), .val (.ref b1), .val (.ref b3), .val (.ref r9), .unset, .unset] []))
  refine Go.by (fun _ => XS.aload X24.here hx rfl (hb hby at_239) rfl rfl) ?_
  show Go p.tables e below _ (T24.setTop (mkF m 241 #[.val (.int p0), .val (.long p1), .second, .val (.int (nn.toInt32)), .val (.ref b1), .val (.ref b3), .val (.ref r9), .unset, .unset] [(.ref r9)]))
  refine Go.by (fun _ => XS.aload X24.here hx rfl (hb hby at_241) rfl rfl) ?_
  show Go p.tables e below _ (T24.setTop (mkF m 243 #[.val (.int p0), .val (.long p1), .second, .val (.int (nn.toInt32)), .val (.ref b1), .val (.ref b3), .val (.ref r9), .unset, .unset] [(.ref b3), (.ref r9)]))
  refine Go.by (fun _ => XS.iloadN X24.here hx rfl (hb hby at_243) rfl) ?_
  show Go p.tables e below _ (T24.setTop (mkF m 244 #[.val (.int p0), .val (.long p1), .second, .val (.int (nn.toInt32)), .val (.ref b1), .val (.ref b3), .val (.ref r9), .unset, .unset] [(.int (nn.toInt32)), (.ref b3), (.ref r9)]))
  refine Go.by (fun _ => XS.bipush X24.here hx rfl (hb hby at_244)) ?_
  show Go p.tables e below _ (T24.setTop (mkF m 246 #[.val (.int p0), .val (.long p1), .second, .val (.int (nn.toInt32)), .val (.ref b1), .val (.ref b3), .val (.ref r9), .unset, .unset] [(.int (14 : Int32)), (.int (nn.toInt32)), (.ref b3), (.ref r9)]))
  obtain ⟨v25, T25, h25, X25, q25, st25⟩ := X24.callS hx hZ (y := (⟨"com/example/clio/clio/LayoutPastEntriesPinLaw", "at", "([B[BII)Z"⟩ : MethodName)) hown (tw hw 31 rfl) (tw hw 32 rfl) (tw hw 4 rfl) (tw hw 33 rfl) (by decide) (rm8 l Z a0 hw [] r9 b3 (14 : Int32) nn kr9 kc3 (own_fi p1) h9 n0 Zs10 hk (by decide) V9 f10_76) (g := (mkF m 246 #[.val (.int p0), .val (.long p1), .second, .val (.int (nn.toInt32)), .val (.ref b1), .val (.ref b3), .val (.ref r9), .unset, .unset] [(.int (14 : Int32)), (.int (nn.toInt32)), (.ref b3), (.ref r9)])) rfl (by rw [hml]; rfl) (argsL := [(.ref r9), (.ref b3), (.int (nn.toInt32)), (.int (14 : Int32))]) (rest := []) (lenOf pd7 rfl) rfl (hb hby at_246) rfl (by decide) (Nat.le_of_ble_eq_true rfl) (k' := 3) (n' := 32) rfl rfl (by decide) (by decide)
  refine Go.by st25 ?_
  obtain ⟨rfl, rfl⟩ := q25
  show Go p.tables e below _ (T25.setTop (mkF m 249 #[.val (.int p0), .val (.long p1), .second, .val (.int (nn.toInt32)), .val (.ref b1), .val (.ref b3), .val (.ref r9), .unset, .unset] [(.int (1 : Int32))]))
  refine Go.by (fun _ => XS.ifNo X25.here hx rfl (hb hby at_249) rfl ((if0 _ _).trans (feq (by decide)).1)) ?_
  show Go p.tables e below _ (T25.setTop (mkF m 252 #[.val (.int p0), .val (.long p1), .second, .val (.int (nn.toInt32)), .val (.ref b1), .val (.ref b3), .val (.ref r9), .unset, .unset] []))
  refine Go.by (fun _ => XS.aload X25.here hx rfl (hb hby at_252) rfl rfl) ?_
  show Go p.tables e below _ (T25.setTop (mkF m 254 #[.val (.int p0), .val (.long p1), .second, .val (.int (nn.toInt32)), .val (.ref b1), .val (.ref b3), .val (.ref r9), .unset, .unset] [(.ref r9)]))
  refine Go.by (fun _ => XS.aload X25.here hx rfl (hb hby at_254) rfl rfl) ?_
  show Go p.tables e below _ (T25.setTop (mkF m 256 #[.val (.int p0), .val (.long p1), .second, .val (.int (nn.toInt32)), .val (.ref b1), .val (.ref b3), .val (.ref r9), .unset, .unset] [(.ref b3), (.ref r9)]))
  refine Go.by (fun _ => XS.iloadN X25.here hx rfl (hb hby at_256) rfl) ?_
  show Go p.tables e below _ (T25.setTop (mkF m 257 #[.val (.int p0), .val (.long p1), .second, .val (.int (nn.toInt32)), .val (.ref b1), .val (.ref b3), .val (.ref r9), .unset, .unset] [(.int (nn.toInt32)), (.ref b3), (.ref r9)]))
  refine Go.by (fun _ => XS.bipush X25.here hx rfl (hb hby at_257)) ?_
  show Go p.tables e below _ (T25.setTop (mkF m 259 #[.val (.int p0), .val (.long p1), .second, .val (.int (nn.toInt32)), .val (.ref b1), .val (.ref b3), .val (.ref r9), .unset, .unset] [(.int (15 : Int32)), (.int (nn.toInt32)), (.ref b3), (.ref r9)]))
  obtain ⟨v26, T26, h26, X26, q26, st26⟩ := X25.callS hx hZ (y := (⟨"com/example/clio/clio/LayoutPastEntriesPinLaw", "at", "([B[BII)Z"⟩ : MethodName)) hown (tw hw 31 rfl) (tw hw 32 rfl) (tw hw 4 rfl) (tw hw 33 rfl) (by decide) (rm8 l Z a0 hw [] r9 b3 (15 : Int32) nn kr9 kc3 (own_fi p1) h9 n0 Zs10 hk (by decide) V9 f10_76) (g := (mkF m 259 #[.val (.int p0), .val (.long p1), .second, .val (.int (nn.toInt32)), .val (.ref b1), .val (.ref b3), .val (.ref r9), .unset, .unset] [(.int (15 : Int32)), (.int (nn.toInt32)), (.ref b3), (.ref r9)])) rfl (by rw [hml]; rfl) (argsL := [(.ref r9), (.ref b3), (.int (nn.toInt32)), (.int (15 : Int32))]) (rest := []) (lenOf pd7 rfl) rfl (hb hby at_259) rfl (by decide) (Nat.le_of_ble_eq_true rfl) (k' := 3) (n' := 32) rfl rfl (by decide) (by decide)
  refine Go.by st26 ?_
  obtain ⟨rfl, rfl⟩ := q26
  show Go p.tables e below _ (T26.setTop (mkF m 262 #[.val (.int p0), .val (.long p1), .second, .val (.int (nn.toInt32)), .val (.ref b1), .val (.ref b3), .val (.ref r9), .unset, .unset] [(.int (1 : Int32))]))
  refine Go.by (fun _ => XS.ifNo X26.here hx rfl (hb hby at_262) rfl ((if0 _ _).trans (feq (by decide)).1)) ?_
  show Go p.tables e below _ (T26.setTop (mkF m 265 #[.val (.int p0), .val (.long p1), .second, .val (.int (nn.toInt32)), .val (.ref b1), .val (.ref b3), .val (.ref r9), .unset, .unset] []))
  refine Go.by (fun _ => XS.iconst X26.here hx rfl (hb hby at_265)) ?_
  show Go p.tables e below _ (T26.setTop (mkF m 266 #[.val (.int p0), .val (.long p1), .second, .val (.int (nn.toInt32)), .val (.ref b1), .val (.ref b3), .val (.ref r9), .unset, .unset] [(.int (1 : Int32))]))
  refine Go.by (fun _ => XS.goto X26.here hx rfl (pc0 := 266) (pc' := 270) rfl (hb hby at_266) (by decide) (by decide)) ?_
  show Go p.tables e below _ (T26.setTop (mkF m 270 #[.val (.int p0), .val (.long p1), .second, .val (.int (nn.toInt32)), .val (.ref b1), .val (.ref b3), .val (.ref r9), .unset, .unset] [(.int (1 : Int32))]))
  refine Go.by (fun _ => XS.istore X26.here hx rfl (hb hby at_270) rfl (l' := #[.val (.int p0), .val (.long p1), .second, .val (.int (nn.toInt32)), .val (.ref b1), .val (.ref b3), .val (.ref r9), .val (.int (1 : Int32)), .unset]) rfl) ?_
  show Go p.tables e below _ (T26.setTop (mkF m 272 #[.val (.int p0), .val (.long p1), .second, .val (.int (nn.toInt32)), .val (.ref b1), .val (.ref b3), .val (.ref r9), .val (.int (1 : Int32)), .unset] []))
  refine Go.by (fun _ => XS.aload X26.here hx rfl (hb hby at_272) rfl rfl) ?_
  show Go p.tables e below _ (T26.setTop (mkF m 274 #[.val (.int p0), .val (.long p1), .second, .val (.int (nn.toInt32)), .val (.ref b1), .val (.ref b3), .val (.ref r9), .val (.int (1 : Int32)), .unset] [(.ref b1)]))
  refine Go.by (fun _ => XS.aload X26.here hx rfl (hb hby at_274) rfl rfl) ?_
  show Go p.tables e below _ (T26.setTop (mkF m 276 #[.val (.int p0), .val (.long p1), .second, .val (.int (nn.toInt32)), .val (.ref b1), .val (.ref b3), .val (.ref r9), .val (.int (1 : Int32)), .unset] [(.ref b3), (.ref b1)]))
  refine Go.by (fun _ => XS.iloadN X26.here hx rfl (hb hby at_276) rfl) ?_
  show Go p.tables e below _ (T26.setTop (mkF m 277 #[.val (.int p0), .val (.long p1), .second, .val (.int (nn.toInt32)), .val (.ref b1), .val (.ref b3), .val (.ref r9), .val (.int (1 : Int32)), .unset] [(.int (nn.toInt32)), (.ref b3), (.ref b1)]))
  refine Go.by (fun _ => XS.iconst X26.here hx rfl (hb hby at_277)) ?_
  show Go p.tables e below _ (T26.setTop (mkF m 278 #[.val (.int p0), .val (.long p1), .second, .val (.int (nn.toInt32)), .val (.ref b1), .val (.ref b3), .val (.ref r9), .val (.int (1 : Int32)), .unset] [(.int (0 : Int32)), (.int (nn.toInt32)), (.ref b3), (.ref b1)]))
  obtain ⟨v27, T27, h27, X27, q27, st27⟩ := X26.callS hx hZ (y := (⟨"com/example/clio/clio/LayoutPastEntriesPinLaw", "eq", "([B[BII)Z"⟩ : MethodName)) hown (tw hw 34 rfl) (tw hw 35 rfl) (tw hw 4 rfl) (tw hw 36 rfl) (by decide) (rm9 l Z a0 hw [] b1 b3 (0 : Int32) nn kc1 kc3 (own_fi p1) h9 n0 Zs10 hk (by decide) f10_75 f10_76) (g := (mkF m 278 #[.val (.int p0), .val (.long p1), .second, .val (.int (nn.toInt32)), .val (.ref b1), .val (.ref b3), .val (.ref r9), .val (.int (1 : Int32)), .unset] [(.int (0 : Int32)), (.int (nn.toInt32)), (.ref b3), (.ref b1)])) rfl (by rw [hml]; rfl) (argsL := [(.ref b1), (.ref b3), (.int (nn.toInt32)), (.int (0 : Int32))]) (rest := []) (lenOf pd7 rfl) rfl (hb hby at_278) rfl (by decide) (Nat.le_of_ble_eq_true rfl) (k' := 3) (n' := 32) rfl rfl (by decide) (by decide)
  refine Go.by st27 ?_
  obtain ⟨rfl, rfl⟩ := q27
  show Go p.tables e below _ (T27.setTop (mkF m 281 #[.val (.int p0), .val (.long p1), .second, .val (.int (nn.toInt32)), .val (.ref b1), .val (.ref b3), .val (.ref r9), .val (.int (1 : Int32)), .unset] [(.int (1 : Int32))]))
  refine Go.by (fun _ => XS.ifNo X27.here hx rfl (hb hby at_281) rfl ((if0 _ _).trans (feq (by decide)).1)) ?_
  show Go p.tables e below _ (T27.setTop (mkF m 284 #[.val (.int p0), .val (.long p1), .second, .val (.int (nn.toInt32)), .val (.ref b1), .val (.ref b3), .val (.ref r9), .val (.int (1 : Int32)), .unset] []))
  refine Go.by (fun _ => XS.aload X27.here hx rfl (hb hby at_284) rfl rfl) ?_
  show Go p.tables e below _ (T27.setTop (mkF m 286 #[.val (.int p0), .val (.long p1), .second, .val (.int (nn.toInt32)), .val (.ref b1), .val (.ref b3), .val (.ref r9), .val (.int (1 : Int32)), .unset] [(.ref b1)]))
  refine Go.by (fun _ => XS.aload X27.here hx rfl (hb hby at_286) rfl rfl) ?_
  show Go p.tables e below _ (T27.setTop (mkF m 288 #[.val (.int p0), .val (.long p1), .second, .val (.int (nn.toInt32)), .val (.ref b1), .val (.ref b3), .val (.ref r9), .val (.int (1 : Int32)), .unset] [(.ref b3), (.ref b1)]))
  refine Go.by (fun _ => XS.iloadN X27.here hx rfl (hb hby at_288) rfl) ?_
  show Go p.tables e below _ (T27.setTop (mkF m 289 #[.val (.int p0), .val (.long p1), .second, .val (.int (nn.toInt32)), .val (.ref b1), .val (.ref b3), .val (.ref r9), .val (.int (1 : Int32)), .unset] [(.int (nn.toInt32)), (.ref b3), (.ref b1)]))
  refine Go.by (fun _ => XS.iconst X27.here hx rfl (hb hby at_289)) ?_
  show Go p.tables e below _ (T27.setTop (mkF m 290 #[.val (.int p0), .val (.long p1), .second, .val (.int (nn.toInt32)), .val (.ref b1), .val (.ref b3), .val (.ref r9), .val (.int (1 : Int32)), .unset] [(.int (1 : Int32)), (.int (nn.toInt32)), (.ref b3), (.ref b1)]))
  obtain ⟨v28, T28, h28, X28, q28, st28⟩ := X27.callS hx hZ (y := (⟨"com/example/clio/clio/LayoutPastEntriesPinLaw", "eq", "([B[BII)Z"⟩ : MethodName)) hown (tw hw 34 rfl) (tw hw 35 rfl) (tw hw 4 rfl) (tw hw 36 rfl) (by decide) (rm9 l Z a0 hw [] b1 b3 (1 : Int32) nn kc1 kc3 (own_fi p1) h9 n0 Zs10 hk (by decide) f10_75 f10_76) (g := (mkF m 290 #[.val (.int p0), .val (.long p1), .second, .val (.int (nn.toInt32)), .val (.ref b1), .val (.ref b3), .val (.ref r9), .val (.int (1 : Int32)), .unset] [(.int (1 : Int32)), (.int (nn.toInt32)), (.ref b3), (.ref b1)])) rfl (by rw [hml]; rfl) (argsL := [(.ref b1), (.ref b3), (.int (nn.toInt32)), (.int (1 : Int32))]) (rest := []) (lenOf pd7 rfl) rfl (hb hby at_290) rfl (by decide) (Nat.le_of_ble_eq_true rfl) (k' := 3) (n' := 32) rfl rfl (by decide) (by decide)
  refine Go.by st28 ?_
  obtain ⟨rfl, rfl⟩ := q28
  show Go p.tables e below _ (T28.setTop (mkF m 293 #[.val (.int p0), .val (.long p1), .second, .val (.int (nn.toInt32)), .val (.ref b1), .val (.ref b3), .val (.ref r9), .val (.int (1 : Int32)), .unset] [(.int (1 : Int32))]))
  refine Go.by (fun _ => XS.ifNo X28.here hx rfl (hb hby at_293) rfl ((if0 _ _).trans (feq (by decide)).1)) ?_
  show Go p.tables e below _ (T28.setTop (mkF m 296 #[.val (.int p0), .val (.long p1), .second, .val (.int (nn.toInt32)), .val (.ref b1), .val (.ref b3), .val (.ref r9), .val (.int (1 : Int32)), .unset] []))
  refine Go.by (fun _ => XS.aload X28.here hx rfl (hb hby at_296) rfl rfl) ?_
  show Go p.tables e below _ (T28.setTop (mkF m 298 #[.val (.int p0), .val (.long p1), .second, .val (.int (nn.toInt32)), .val (.ref b1), .val (.ref b3), .val (.ref r9), .val (.int (1 : Int32)), .unset] [(.ref b1)]))
  refine Go.by (fun _ => XS.aload X28.here hx rfl (hb hby at_298) rfl rfl) ?_
  show Go p.tables e below _ (T28.setTop (mkF m 300 #[.val (.int p0), .val (.long p1), .second, .val (.int (nn.toInt32)), .val (.ref b1), .val (.ref b3), .val (.ref r9), .val (.int (1 : Int32)), .unset] [(.ref b3), (.ref b1)]))
  refine Go.by (fun _ => XS.iloadN X28.here hx rfl (hb hby at_300) rfl) ?_
  show Go p.tables e below _ (T28.setTop (mkF m 301 #[.val (.int p0), .val (.long p1), .second, .val (.int (nn.toInt32)), .val (.ref b1), .val (.ref b3), .val (.ref r9), .val (.int (1 : Int32)), .unset] [(.int (nn.toInt32)), (.ref b3), (.ref b1)]))
  refine Go.by (fun _ => XS.iconst X28.here hx rfl (hb hby at_301)) ?_
  show Go p.tables e below _ (T28.setTop (mkF m 302 #[.val (.int p0), .val (.long p1), .second, .val (.int (nn.toInt32)), .val (.ref b1), .val (.ref b3), .val (.ref r9), .val (.int (1 : Int32)), .unset] [(.int (2 : Int32)), (.int (nn.toInt32)), (.ref b3), (.ref b1)]))
  obtain ⟨v29, T29, h29, X29, q29, st29⟩ := X28.callS hx hZ (y := (⟨"com/example/clio/clio/LayoutPastEntriesPinLaw", "eq", "([B[BII)Z"⟩ : MethodName)) hown (tw hw 34 rfl) (tw hw 35 rfl) (tw hw 4 rfl) (tw hw 36 rfl) (by decide) (rm9 l Z a0 hw [] b1 b3 (2 : Int32) nn kc1 kc3 (own_fi p1) h9 n0 Zs10 hk (by decide) f10_75 f10_76) (g := (mkF m 302 #[.val (.int p0), .val (.long p1), .second, .val (.int (nn.toInt32)), .val (.ref b1), .val (.ref b3), .val (.ref r9), .val (.int (1 : Int32)), .unset] [(.int (2 : Int32)), (.int (nn.toInt32)), (.ref b3), (.ref b1)])) rfl (by rw [hml]; rfl) (argsL := [(.ref b1), (.ref b3), (.int (nn.toInt32)), (.int (2 : Int32))]) (rest := []) (lenOf pd7 rfl) rfl (hb hby at_302) rfl (by decide) (Nat.le_of_ble_eq_true rfl) (k' := 3) (n' := 32) rfl rfl (by decide) (by decide)
  refine Go.by st29 ?_
  obtain ⟨rfl, rfl⟩ := q29
  show Go p.tables e below _ (T29.setTop (mkF m 305 #[.val (.int p0), .val (.long p1), .second, .val (.int (nn.toInt32)), .val (.ref b1), .val (.ref b3), .val (.ref r9), .val (.int (1 : Int32)), .unset] [(.int (1 : Int32))]))
  refine Go.by (fun _ => XS.ifNo X29.here hx rfl (hb hby at_305) rfl ((if0 _ _).trans (feq (by decide)).1)) ?_
  show Go p.tables e below _ (T29.setTop (mkF m 308 #[.val (.int p0), .val (.long p1), .second, .val (.int (nn.toInt32)), .val (.ref b1), .val (.ref b3), .val (.ref r9), .val (.int (1 : Int32)), .unset] []))
  refine Go.by (fun _ => XS.aload X29.here hx rfl (hb hby at_308) rfl rfl) ?_
  show Go p.tables e below _ (T29.setTop (mkF m 310 #[.val (.int p0), .val (.long p1), .second, .val (.int (nn.toInt32)), .val (.ref b1), .val (.ref b3), .val (.ref r9), .val (.int (1 : Int32)), .unset] [(.ref b1)]))
  refine Go.by (fun _ => XS.aload X29.here hx rfl (hb hby at_310) rfl rfl) ?_
  show Go p.tables e below _ (T29.setTop (mkF m 312 #[.val (.int p0), .val (.long p1), .second, .val (.int (nn.toInt32)), .val (.ref b1), .val (.ref b3), .val (.ref r9), .val (.int (1 : Int32)), .unset] [(.ref b3), (.ref b1)]))
  refine Go.by (fun _ => XS.iloadN X29.here hx rfl (hb hby at_312) rfl) ?_
  show Go p.tables e below _ (T29.setTop (mkF m 313 #[.val (.int p0), .val (.long p1), .second, .val (.int (nn.toInt32)), .val (.ref b1), .val (.ref b3), .val (.ref r9), .val (.int (1 : Int32)), .unset] [(.int (nn.toInt32)), (.ref b3), (.ref b1)]))
  refine Go.by (fun _ => XS.iconst X29.here hx rfl (hb hby at_313)) ?_
  show Go p.tables e below _ (T29.setTop (mkF m 314 #[.val (.int p0), .val (.long p1), .second, .val (.int (nn.toInt32)), .val (.ref b1), .val (.ref b3), .val (.ref r9), .val (.int (1 : Int32)), .unset] [(.int (3 : Int32)), (.int (nn.toInt32)), (.ref b3), (.ref b1)]))
  obtain ⟨v30, T30, h30, X30, q30, st30⟩ := X29.callS hx hZ (y := (⟨"com/example/clio/clio/LayoutPastEntriesPinLaw", "eq", "([B[BII)Z"⟩ : MethodName)) hown (tw hw 34 rfl) (tw hw 35 rfl) (tw hw 4 rfl) (tw hw 36 rfl) (by decide) (rm9 l Z a0 hw [] b1 b3 (3 : Int32) nn kc1 kc3 (own_fi p1) h9 n0 Zs10 hk (by decide) f10_75 f10_76) (g := (mkF m 314 #[.val (.int p0), .val (.long p1), .second, .val (.int (nn.toInt32)), .val (.ref b1), .val (.ref b3), .val (.ref r9), .val (.int (1 : Int32)), .unset] [(.int (3 : Int32)), (.int (nn.toInt32)), (.ref b3), (.ref b1)])) rfl (by rw [hml]; rfl) (argsL := [(.ref b1), (.ref b3), (.int (nn.toInt32)), (.int (3 : Int32))]) (rest := []) (lenOf pd7 rfl) rfl (hb hby at_314) rfl (by decide) (Nat.le_of_ble_eq_true rfl) (k' := 3) (n' := 32) rfl rfl (by decide) (by decide)
  refine Go.by st30 ?_
  obtain ⟨rfl, rfl⟩ := q30
  show Go p.tables e below _ (T30.setTop (mkF m 317 #[.val (.int p0), .val (.long p1), .second, .val (.int (nn.toInt32)), .val (.ref b1), .val (.ref b3), .val (.ref r9), .val (.int (1 : Int32)), .unset] [(.int (1 : Int32))]))
  refine Go.by (fun _ => XS.ifNo X30.here hx rfl (hb hby at_317) rfl ((if0 _ _).trans (feq (by decide)).1)) ?_
  show Go p.tables e below _ (T30.setTop (mkF m 320 #[.val (.int p0), .val (.long p1), .second, .val (.int (nn.toInt32)), .val (.ref b1), .val (.ref b3), .val (.ref r9), .val (.int (1 : Int32)), .unset] []))
  refine Go.by (fun _ => XS.aload X30.here hx rfl (hb hby at_320) rfl rfl) ?_
  show Go p.tables e below _ (T30.setTop (mkF m 322 #[.val (.int p0), .val (.long p1), .second, .val (.int (nn.toInt32)), .val (.ref b1), .val (.ref b3), .val (.ref r9), .val (.int (1 : Int32)), .unset] [(.ref b1)]))
  refine Go.by (fun _ => XS.aload X30.here hx rfl (hb hby at_322) rfl rfl) ?_
  show Go p.tables e below _ (T30.setTop (mkF m 324 #[.val (.int p0), .val (.long p1), .second, .val (.int (nn.toInt32)), .val (.ref b1), .val (.ref b3), .val (.ref r9), .val (.int (1 : Int32)), .unset] [(.ref b3), (.ref b1)]))
  refine Go.by (fun _ => XS.iloadN X30.here hx rfl (hb hby at_324) rfl) ?_
  show Go p.tables e below _ (T30.setTop (mkF m 325 #[.val (.int p0), .val (.long p1), .second, .val (.int (nn.toInt32)), .val (.ref b1), .val (.ref b3), .val (.ref r9), .val (.int (1 : Int32)), .unset] [(.int (nn.toInt32)), (.ref b3), (.ref b1)]))
  refine Go.by (fun _ => XS.iconst X30.here hx rfl (hb hby at_325)) ?_
  show Go p.tables e below _ (T30.setTop (mkF m 326 #[.val (.int p0), .val (.long p1), .second, .val (.int (nn.toInt32)), .val (.ref b1), .val (.ref b3), .val (.ref r9), .val (.int (1 : Int32)), .unset] [(.int (4 : Int32)), (.int (nn.toInt32)), (.ref b3), (.ref b1)]))
  obtain ⟨v31, T31, h31, X31, q31, st31⟩ := X30.callS hx hZ (y := (⟨"com/example/clio/clio/LayoutPastEntriesPinLaw", "eq", "([B[BII)Z"⟩ : MethodName)) hown (tw hw 34 rfl) (tw hw 35 rfl) (tw hw 4 rfl) (tw hw 36 rfl) (by decide) (rm9 l Z a0 hw [] b1 b3 (4 : Int32) nn kc1 kc3 (own_fi p1) h9 n0 Zs10 hk (by decide) f10_75 f10_76) (g := (mkF m 326 #[.val (.int p0), .val (.long p1), .second, .val (.int (nn.toInt32)), .val (.ref b1), .val (.ref b3), .val (.ref r9), .val (.int (1 : Int32)), .unset] [(.int (4 : Int32)), (.int (nn.toInt32)), (.ref b3), (.ref b1)])) rfl (by rw [hml]; rfl) (argsL := [(.ref b1), (.ref b3), (.int (nn.toInt32)), (.int (4 : Int32))]) (rest := []) (lenOf pd7 rfl) rfl (hb hby at_326) rfl (by decide) (Nat.le_of_ble_eq_true rfl) (k' := 3) (n' := 32) rfl rfl (by decide) (by decide)
  refine Go.by st31 ?_
  obtain ⟨rfl, rfl⟩ := q31
  show Go p.tables e below _ (T31.setTop (mkF m 329 #[.val (.int p0), .val (.long p1), .second, .val (.int (nn.toInt32)), .val (.ref b1), .val (.ref b3), .val (.ref r9), .val (.int (1 : Int32)), .unset] [(.int (1 : Int32))]))
  refine Go.by (fun _ => XS.ifNo X31.here hx rfl (hb hby at_329) rfl ((if0 _ _).trans (feq (by decide)).1)) ?_
  show Go p.tables e below _ (T31.setTop (mkF m 332 #[.val (.int p0), .val (.long p1), .second, .val (.int (nn.toInt32)), .val (.ref b1), .val (.ref b3), .val (.ref r9), .val (.int (1 : Int32)), .unset] []))
  refine Go.by (fun _ => XS.aload X31.here hx rfl (hb hby at_332) rfl rfl) ?_
  show Go p.tables e below _ (T31.setTop (mkF m 334 #[.val (.int p0), .val (.long p1), .second, .val (.int (nn.toInt32)), .val (.ref b1), .val (.ref b3), .val (.ref r9), .val (.int (1 : Int32)), .unset] [(.ref b1)]))
  refine Go.by (fun _ => XS.aload X31.here hx rfl (hb hby at_334) rfl rfl) ?_
  show Go p.tables e below _ (T31.setTop (mkF m 336 #[.val (.int p0), .val (.long p1), .second, .val (.int (nn.toInt32)), .val (.ref b1), .val (.ref b3), .val (.ref r9), .val (.int (1 : Int32)), .unset] [(.ref b3), (.ref b1)]))
  refine Go.by (fun _ => XS.iloadN X31.here hx rfl (hb hby at_336) rfl) ?_
  show Go p.tables e below _ (T31.setTop (mkF m 337 #[.val (.int p0), .val (.long p1), .second, .val (.int (nn.toInt32)), .val (.ref b1), .val (.ref b3), .val (.ref r9), .val (.int (1 : Int32)), .unset] [(.int (nn.toInt32)), (.ref b3), (.ref b1)]))
  refine Go.by (fun _ => XS.iconst X31.here hx rfl (hb hby at_337)) ?_
  show Go p.tables e below _ (T31.setTop (mkF m 338 #[.val (.int p0), .val (.long p1), .second, .val (.int (nn.toInt32)), .val (.ref b1), .val (.ref b3), .val (.ref r9), .val (.int (1 : Int32)), .unset] [(.int (5 : Int32)), (.int (nn.toInt32)), (.ref b3), (.ref b1)]))
  obtain ⟨v32, T32, h32, X32, q32, st32⟩ := X31.callS hx hZ (y := (⟨"com/example/clio/clio/LayoutPastEntriesPinLaw", "eq", "([B[BII)Z"⟩ : MethodName)) hown (tw hw 34 rfl) (tw hw 35 rfl) (tw hw 4 rfl) (tw hw 36 rfl) (by decide) (rm9 l Z a0 hw [] b1 b3 (5 : Int32) nn kc1 kc3 (own_fi p1) h9 n0 Zs10 hk (by decide) f10_75 f10_76) (g := (mkF m 338 #[.val (.int p0), .val (.long p1), .second, .val (.int (nn.toInt32)), .val (.ref b1), .val (.ref b3), .val (.ref r9), .val (.int (1 : Int32)), .unset] [(.int (5 : Int32)), (.int (nn.toInt32)), (.ref b3), (.ref b1)])) rfl (by rw [hml]; rfl) (argsL := [(.ref b1), (.ref b3), (.int (nn.toInt32)), (.int (5 : Int32))]) (rest := []) (lenOf pd7 rfl) rfl (hb hby at_338) rfl (by decide) (Nat.le_of_ble_eq_true rfl) (k' := 3) (n' := 32) rfl rfl (by decide) (by decide)
  refine Go.by st32 ?_
  obtain ⟨rfl, rfl⟩ := q32
  show Go p.tables e below _ (T32.setTop (mkF m 341 #[.val (.int p0), .val (.long p1), .second, .val (.int (nn.toInt32)), .val (.ref b1), .val (.ref b3), .val (.ref r9), .val (.int (1 : Int32)), .unset] [(.int (1 : Int32))]))
  refine Go.by (fun _ => XS.ifNo X32.here hx rfl (hb hby at_341) rfl ((if0 _ _).trans (feq (by decide)).1)) ?_
  show Go p.tables e below _ (T32.setTop (mkF m 344 #[.val (.int p0), .val (.long p1), .second, .val (.int (nn.toInt32)), .val (.ref b1), .val (.ref b3), .val (.ref r9), .val (.int (1 : Int32)), .unset] []))
  refine Go.by (fun _ => XS.aload X32.here hx rfl (hb hby at_344) rfl rfl) ?_
  show Go p.tables e below _ (T32.setTop (mkF m 346 #[.val (.int p0), .val (.long p1), .second, .val (.int (nn.toInt32)), .val (.ref b1), .val (.ref b3), .val (.ref r9), .val (.int (1 : Int32)), .unset] [(.ref b1)]))
  refine Go.by (fun _ => XS.aload X32.here hx rfl (hb hby at_346) rfl rfl) ?_
  show Go p.tables e below _ (T32.setTop (mkF m 348 #[.val (.int p0), .val (.long p1), .second, .val (.int (nn.toInt32)), .val (.ref b1), .val (.ref b3), .val (.ref r9), .val (.int (1 : Int32)), .unset] [(.ref b3), (.ref b1)]))
  refine Go.by (fun _ => XS.iloadN X32.here hx rfl (hb hby at_348) rfl) ?_
  show Go p.tables e below _ (T32.setTop (mkF m 349 #[.val (.int p0), .val (.long p1), .second, .val (.int (nn.toInt32)), .val (.ref b1), .val (.ref b3), .val (.ref r9), .val (.int (1 : Int32)), .unset] [(.int (nn.toInt32)), (.ref b3), (.ref b1)]))
  refine Go.by (fun _ => XS.bipush X32.here hx rfl (hb hby at_349)) ?_
  show Go p.tables e below _ (T32.setTop (mkF m 351 #[.val (.int p0), .val (.long p1), .second, .val (.int (nn.toInt32)), .val (.ref b1), .val (.ref b3), .val (.ref r9), .val (.int (1 : Int32)), .unset] [(.int (6 : Int32)), (.int (nn.toInt32)), (.ref b3), (.ref b1)]))
  obtain ⟨v33, T33, h33, X33, q33, st33⟩ := X32.callS hx hZ (y := (⟨"com/example/clio/clio/LayoutPastEntriesPinLaw", "eq", "([B[BII)Z"⟩ : MethodName)) hown (tw hw 34 rfl) (tw hw 35 rfl) (tw hw 4 rfl) (tw hw 36 rfl) (by decide) (rm9 l Z a0 hw [] b1 b3 (6 : Int32) nn kc1 kc3 (own_fi p1) h9 n0 Zs10 hk (by decide) f10_75 f10_76) (g := (mkF m 351 #[.val (.int p0), .val (.long p1), .second, .val (.int (nn.toInt32)), .val (.ref b1), .val (.ref b3), .val (.ref r9), .val (.int (1 : Int32)), .unset] [(.int (6 : Int32)), (.int (nn.toInt32)), (.ref b3), (.ref b1)])) rfl (by rw [hml]; rfl) (argsL := [(.ref b1), (.ref b3), (.int (nn.toInt32)), (.int (6 : Int32))]) (rest := []) (lenOf pd7 rfl) rfl (hb hby at_351) rfl (by decide) (Nat.le_of_ble_eq_true rfl) (k' := 3) (n' := 32) rfl rfl (by decide) (by decide)
  refine Go.by st33 ?_
  obtain ⟨rfl, rfl⟩ := q33
  show Go p.tables e below _ (T33.setTop (mkF m 354 #[.val (.int p0), .val (.long p1), .second, .val (.int (nn.toInt32)), .val (.ref b1), .val (.ref b3), .val (.ref r9), .val (.int (1 : Int32)), .unset] [(.int (1 : Int32))]))
  refine Go.by (fun _ => XS.ifNo X33.here hx rfl (hb hby at_354) rfl ((if0 _ _).trans (feq (by decide)).1)) ?_
  show Go p.tables e below _ (T33.setTop (mkF m 357 #[.val (.int p0), .val (.long p1), .second, .val (.int (nn.toInt32)), .val (.ref b1), .val (.ref b3), .val (.ref r9), .val (.int (1 : Int32)), .unset] []))
  refine Go.by (fun _ => XS.aload X33.here hx rfl (hb hby at_357) rfl rfl) ?_
  show Go p.tables e below _ (T33.setTop (mkF m 359 #[.val (.int p0), .val (.long p1), .second, .val (.int (nn.toInt32)), .val (.ref b1), .val (.ref b3), .val (.ref r9), .val (.int (1 : Int32)), .unset] [(.ref b1)]))
  refine Go.by (fun _ => XS.aload X33.here hx rfl (hb hby at_359) rfl rfl) ?_
  show Go p.tables e below _ (T33.setTop (mkF m 361 #[.val (.int p0), .val (.long p1), .second, .val (.int (nn.toInt32)), .val (.ref b1), .val (.ref b3), .val (.ref r9), .val (.int (1 : Int32)), .unset] [(.ref b3), (.ref b1)]))
  refine Go.by (fun _ => XS.iloadN X33.here hx rfl (hb hby at_361) rfl) ?_
  show Go p.tables e below _ (T33.setTop (mkF m 362 #[.val (.int p0), .val (.long p1), .second, .val (.int (nn.toInt32)), .val (.ref b1), .val (.ref b3), .val (.ref r9), .val (.int (1 : Int32)), .unset] [(.int (nn.toInt32)), (.ref b3), (.ref b1)]))
  refine Go.by (fun _ => XS.bipush X33.here hx rfl (hb hby at_362)) ?_
  show Go p.tables e below _ (T33.setTop (mkF m 364 #[.val (.int p0), .val (.long p1), .second, .val (.int (nn.toInt32)), .val (.ref b1), .val (.ref b3), .val (.ref r9), .val (.int (1 : Int32)), .unset] [(.int (7 : Int32)), (.int (nn.toInt32)), (.ref b3), (.ref b1)]))
  obtain ⟨v34, T34, h34, X34, q34, st34⟩ := X33.callS hx hZ (y := (⟨"com/example/clio/clio/LayoutPastEntriesPinLaw", "eq", "([B[BII)Z"⟩ : MethodName)) hown (tw hw 34 rfl) (tw hw 35 rfl) (tw hw 4 rfl) (tw hw 36 rfl) (by decide) (rm9 l Z a0 hw [] b1 b3 (7 : Int32) nn kc1 kc3 (own_fi p1) h9 n0 Zs10 hk (by decide) f10_75 f10_76) (g := (mkF m 364 #[.val (.int p0), .val (.long p1), .second, .val (.int (nn.toInt32)), .val (.ref b1), .val (.ref b3), .val (.ref r9), .val (.int (1 : Int32)), .unset] [(.int (7 : Int32)), (.int (nn.toInt32)), (.ref b3), (.ref b1)])) rfl (by rw [hml]; rfl) (argsL := [(.ref b1), (.ref b3), (.int (nn.toInt32)), (.int (7 : Int32))]) (rest := []) (lenOf pd7 rfl) rfl (hb hby at_364) rfl (by decide) (Nat.le_of_ble_eq_true rfl) (k' := 3) (n' := 32) rfl rfl (by decide) (by decide)
  refine Go.by st34 ?_
  obtain ⟨rfl, rfl⟩ := q34
  show Go p.tables e below _ (T34.setTop (mkF m 367 #[.val (.int p0), .val (.long p1), .second, .val (.int (nn.toInt32)), .val (.ref b1), .val (.ref b3), .val (.ref r9), .val (.int (1 : Int32)), .unset] [(.int (1 : Int32))]))
  refine Go.by (fun _ => XS.ifNo X34.here hx rfl (hb hby at_367) rfl ((if0 _ _).trans (feq (by decide)).1)) ?_
  show Go p.tables e below _ (T34.setTop (mkF m 370 #[.val (.int p0), .val (.long p1), .second, .val (.int (nn.toInt32)), .val (.ref b1), .val (.ref b3), .val (.ref r9), .val (.int (1 : Int32)), .unset] []))
  refine Go.by (fun _ => XS.iconst X34.here hx rfl (hb hby at_370)) ?_
  show Go p.tables e below _ (T34.setTop (mkF m 371 #[.val (.int p0), .val (.long p1), .second, .val (.int (nn.toInt32)), .val (.ref b1), .val (.ref b3), .val (.ref r9), .val (.int (1 : Int32)), .unset] [(.int (1 : Int32))]))
  refine Go.by (fun _ => XS.goto X34.here hx rfl (pc0 := 371) (pc' := 375) rfl (hb hby at_371) (by decide) (by decide)) ?_
  show Go p.tables e below _ (T34.setTop (mkF m 375 #[.val (.int p0), .val (.long p1), .second, .val (.int (nn.toInt32)), .val (.ref b1), .val (.ref b3), .val (.ref r9), .val (.int (1 : Int32)), .unset] [(.int (1 : Int32))]))
  refine Go.by (fun _ => XS.istore X34.here hx rfl (hb hby at_375) rfl (l' := #[.val (.int p0), .val (.long p1), .second, .val (.int (nn.toInt32)), .val (.ref b1), .val (.ref b3), .val (.ref r9), .val (.int (1 : Int32)), .val (.int (1 : Int32))]) rfl) ?_
  show Go p.tables e below _ (T34.setTop (mkF m 377 #[.val (.int p0), .val (.long p1), .second, .val (.int (nn.toInt32)), .val (.ref b1), .val (.ref b3), .val (.ref r9), .val (.int (1 : Int32)), .val (.int (1 : Int32))] []))
  refine Go.by (fun _ => XS.iload X34.here hx rfl (hb hby at_377) rfl) ?_
  show Go p.tables e below _ (T34.setTop (mkF m 379 #[.val (.int p0), .val (.long p1), .second, .val (.int (nn.toInt32)), .val (.ref b1), .val (.ref b3), .val (.ref r9), .val (.int (1 : Int32)), .val (.int (1 : Int32))] [(.int (1 : Int32))]))
  refine Go.by (fun _ => XS.ifNo X34.here hx rfl (hb hby at_379) rfl ((if0 _ _).trans (feq (by decide)).1)) ?_
  show Go p.tables e below _ (T34.setTop (mkF m 382 #[.val (.int p0), .val (.long p1), .second, .val (.int (nn.toInt32)), .val (.ref b1), .val (.ref b3), .val (.ref r9), .val (.int (1 : Int32)), .val (.int (1 : Int32))] []))
  refine Go.by (fun _ => XS.iload X34.here hx rfl (hb hby at_382) rfl) ?_
  show Go p.tables e below _ (T34.setTop (mkF m 384 #[.val (.int p0), .val (.long p1), .second, .val (.int (nn.toInt32)), .val (.ref b1), .val (.ref b3), .val (.ref r9), .val (.int (1 : Int32)), .val (.int (1 : Int32))] [(.int (1 : Int32))]))
  refine Go.by (fun _ => XS.ifNo X34.here hx rfl (hb hby at_384) rfl ((if0 _ _).trans (feq (by decide)).1)) ?_
  show Go p.tables e below _ (T34.setTop (mkF m 387 #[.val (.int p0), .val (.long p1), .second, .val (.int (nn.toInt32)), .val (.ref b1), .val (.ref b3), .val (.ref r9), .val (.int (1 : Int32)), .val (.int (1 : Int32))] []))
  refine Go.by (fun _ => XS.iconst X34.here hx rfl (hb hby at_387)) ?_
  show Go p.tables e below _ (T34.setTop (mkF m 388 #[.val (.int p0), .val (.long p1), .second, .val (.int (nn.toInt32)), .val (.ref b1), .val (.ref b3), .val (.ref r9), .val (.int (1 : Int32)), .val (.int (1 : Int32))] [(.int (1 : Int32))]))
  refine Go.by (fun _ => XS.goto X34.here hx rfl (pc0 := 388) (pc' := 392) rfl (hb hby at_388) (by decide) (by decide)) ?_
  show Go p.tables e below _ (T34.setTop (mkF m 392 #[.val (.int p0), .val (.long p1), .second, .val (.int (nn.toInt32)), .val (.ref b1), .val (.ref b3), .val (.ref r9), .val (.int (1 : Int32)), .val (.int (1 : Int32))] [(.int (1 : Int32))]))
  exact Go.retN X34 hx hlk (z' := (1 : Int32)) hret (by simp) (hb hby at_392) rfl (by decide) (by decide) rfl
set_option maxRecDepth 65536 in
set_option maxHeartbeats 40000000 in
theorem comes_1 {Post : Tables → Env → Array Value → State → Outcome → State → Prop} (hpost : ∀ tb e args s v u, (limb_1_1.after args s (.returned v) u = true ∧ limb_1_2.after args s (.returned v) u = true ∧ True) → FrameEnd s (.returned v) u (Jvm.fieldLocs frame_1_writes args s ++ Jvm.arrayLocs frame_1_arrays args s ++ Jvm.staticLocs frame_1_statics s) 16 128 → Post tb e args s (.returned v) u) :
    ArmFor flags0 classFile x code maxLocals ret World_1 tables_1 room_1 Calls_1 rest_1 Pre_1 Post := by
  intro l hfl _ _ p e ha hc hk s m args below hf hA hF happ hP
  obtain ⟨hcalls, hrest, hpre⟩ := hP
  obtain ⟨-, -, -, hnamed, -, -, -, hat⟩ := (Spec.applies_iff hf).mp happ
  obtain ⟨hg, hn⟩ := and_e (Cond.before_iff.mp (show (Jvm.Cond.and given_1 narrow_1).before args s = true from hpre))
  obtain ⟨gc, gr0⟩ := and_e hg
  obtain ⟨ga0, ga1⟩ := and_e gr0
  obtain ⟨w0, w1, rfl⟩ : ∃ w0 w1 : Value, args = #[w0, w1] := by
    have hs : args.size = 2 := by simpa [Cond.value, given_1] using gc
    obtain ⟨L⟩ := args
    match L, hs with
    | [w0, w1], _ => exact ⟨w0, w1, rfl⟩
  have hw := fun d (hd : d ∈ tables_1) => atoms_spec (ws := Jvm.Cond.code x code maxLocals ret :: tables_1) hat d (List.mem_cons_of_mem _ hd)
  have hfit : Fit s := fun {y c} hc i hi => by
    obtain ⟨ha, rfl⟩ := Array.getElem?_eq_some_iff.mp hc
    have q := List.all_eq_true.mp ((Array.all_eq_true_iff_forall_mem.mp hF) _ (Array.getElem_mem ha)) i (List.mem_range.mpr hi)
    simpa [Array.getElem?_eq_getElem hi] using q
  obtain ⟨i0, ei0⟩ := is_v ga0
  obtain rfl : w0 = (.int i0) := Option.some.inj ei0
  obtain ⟨i1, ei1⟩ := isL_v ga1
  obtain rfl : w1 = (.long i1) := Option.some.inj ei1
  obtain ⟨n, o, h1, h2, h3, _, L, rfl, ⟨rfl, N⟩, hq⟩ := rm0 l s _ hw tables_1 i0 i1 s.heap s.heap.size (Nat.le_refl _) p e ha hc hk s m _ below hf ((Spec.applies_iff_loose hf).mp happ).1 ⟨rfl, State.Warmed39.refl s, rfl⟩ trivial
  refine ⟨n, _, h1, h2, h3, hpost _ _ _ _ _ _ ⟨Cond.after_iff.mpr rfl, Cond.after_iff.mpr (eq_i res_at (Term.int_eval (1)) rfl), trivial⟩ ⟨hq.1, hq.2.1, (hq.2.2.sift fun y hy => Or.inr (N y hy)).mono (by decide) (by decide)⟩⟩
theorem main_1_1 : Claimed_1_1 := comes_1 fun _ _ _ _ _ _ h hF => ⟨h.1, hF⟩
theorem main_1_2 : Claimed_1_2 := comes_1 fun _ _ _ _ _ _ h hF => ⟨h.2.1, hF⟩
end Jvm.Pilot.@@N@@
namespace Jvm.Pilot.@@N@@
open Jvm Jvm.ClassFile Sem Op Lib Jvm.Free Jvm.Stand Jvm.Pilot.@@N@@.Jvm.D
/-! MADE BY PROGRAM (witnessworld.py) out of the Statement's table words and the real class files: 12 classes; the members and pool entries that the words name. The judged class is class 1, her method 1. -/
namespace start1
open Jvm.ClassFile
def u (s : String) : CpInfo := .utf8 (stringToUtf16 s)
/-- a pool by its gaps: so many unusable entries, then the entry; so many at the end -/
def gap : Nat → List CpInfo → List CpInfo
  | 0, r => r
  | n + 1, r => .unusable :: gap n r
def poolList (es : List (Nat × CpInfo)) (last : Nat) : List CpInfo := es.foldr (fun e r => gap e.1 (e.2 :: r)) (gap last [])
def pool (es : List (Nat × CpInfo)) (last : Nat) : Array CpInfo := ⟨poolList es last⟩
def fileOf (pool : Array CpInfo) (this : Nat) (attrs : Array Attribute := #[]) (ms : Array MethodInfo := #[]) (fl : Nat := 33) (sup : Nat := 0) (ifs : Array Nat := #[]) (fds : Array FieldInfo := #[]) : ClassFile where
  minorVersion := 0
  majorVersion := 65
  constantPool := pool
  accessFlags := fl
  thisClass := this
  superClass := sup
  interfaces := ifs
  fields := fds
  methods := ms
  attributes := attrs
def plain (name : String) (sup : Option ClassId) : Class where
  name := name
  kind := .ordinary
  loader := none
  accessFlags := 33
  super := sup
  interfaces := #[]
  cf := none
  fields := #[]
  methods := #[]
  instanceTypes := #[]
  staticTypes := #[]
  resolved := #[]
  callSites := []
  init := .initialized
  statics := none
  mirror := none

def pool0 : Array CpInfo := pool [(5, u "<init>"), (0, u "()V"), (1, .class_ 10), (1, u "java/lang/Object")] 113

def k0m0 : Method := { name := "<init>", desc := "()V", sig := { parameters := [], returnType := none }, accessFlags := 1, code := none }
/-- java/lang/Object -/
def k0 : Class := { plain "java/lang/Object" none with
  accessFlags := 33
  interfaces := #[]
  cf := some (fileOf pool0 8 #[] #[{ accessFlags := 1, nameIndex := 5, descriptorIndex := 6, attributes := #[] }] 33 0 #[] #[])
  fields := #[]
  methods := #[k0m0]
  instanceTypes := #[]
  staticTypes := #[]
  resolved := Array.replicate 124 none
  statics := none }

def pool1 : Array CpInfo := pool [(2, .class_ 4), (1, u "java/lang/Object"), (0, u "<init>"), (0, u "()V"), (0, .integer 2147483647), (0, .methodref 9 10), (0, .class_ 11), (0, .nameAndType 12 13), (0, u "com/example/clio/clio/LayoutPastEntriesPinLaw"), (0, u "fill"), (0, u "([BIJ)V"), (0, .methodref 15 16), (0, .class_ 17), (0, .nameAndType 18 19), (0, u "com/example/clio/clio/Layout"), (0, u "pastEntries"), (0, u "([B)[B"), (0, .methodref 9 21), (0, .nameAndType 22 23), (0, u "at"), (0, u "([B[BII)Z"), (0, .methodref 9 25), (0, .nameAndType 26 23), (0, u "eq"), (0, .methodref 9 28), (0, .nameAndType 29 30), (0, u "put"), (0, u "([BIIJ)V"), (2, u "law"), (0, u "(IJ)Z")] 5

def k1m0 : Method := { name := "<init>", desc := "()V", sig := { parameters := [], returnType := none }, accessFlags := 1, code := none }
def k1c1 : Code := { maxStack := 4, maxLocals := 9, code := code, exceptionTable := #[], attributes := #[] }
def k1m1 : Method := { name := "law", desc := "(IJ)Z", sig := { parameters := [.int, .long], returnType := some .boolean }, accessFlags := 9, code := some k1c1 }
def k1c2 : Code := { maxStack := 5, maxLocals := 4, code := method_3_code, exceptionTable := #[], attributes := #[] }
def k1m2 : Method := { name := "fill", desc := "([BIJ)V", sig := { parameters := [(.array .byte), .int, .long], returnType := none }, accessFlags := 10, code := some k1c2 }
def k1c3 : Code := { maxStack := 6, maxLocals := 5, code := method_4_code, exceptionTable := #[], attributes := #[] }
def k1m3 : Method := { name := "put", desc := "([BIIJ)V", sig := { parameters := [(.array .byte), .int, .int, .long], returnType := none }, accessFlags := 10, code := some k1c3 }
def k1c4 : Code := { maxStack := 3, maxLocals := 5, code := method_5_code, exceptionTable := #[], attributes := #[] }
def k1m4 : Method := { name := "at", desc := "([B[BII)Z", sig := { parameters := [(.array .byte), (.array .byte), .int, .int], returnType := some .boolean }, accessFlags := 10, code := some k1c4 }
def k1c5 : Code := { maxStack := 3, maxLocals := 4, code := method_6_code, exceptionTable := #[], attributes := #[] }
def k1m5 : Method := { name := "eq", desc := "([B[BII)Z", sig := { parameters := [(.array .byte), (.array .byte), .int, .int], returnType := some .boolean }, accessFlags := 10, code := some k1c5 }
/-- com/example/clio/clio/LayoutPastEntriesPinLaw -/
def k1 : Class := { plain "com/example/clio/clio/LayoutPastEntriesPinLaw" (some 0) with
  accessFlags := 49
  interfaces := #[]
  cf := some (fileOf pool1 9 #[] #[{ accessFlags := 1, nameIndex := 5, descriptorIndex := 6, attributes := #[] }, { accessFlags := 9, nameIndex := 33, descriptorIndex := 34, attributes := #[] }, { accessFlags := 10, nameIndex := 12, descriptorIndex := 13, attributes := #[] }, { accessFlags := 10, nameIndex := 29, descriptorIndex := 30, attributes := #[] }, { accessFlags := 10, nameIndex := 22, descriptorIndex := 23, attributes := #[] }, { accessFlags := 10, nameIndex := 26, descriptorIndex := 23, attributes := #[] }] 49 2 #[] #[])
  fields := #[]
  methods := #[k1m0, k1m1, k1m2, k1m3, k1m4, k1m5]
  instanceTypes := #[]
  staticTypes := #[]
  resolved := Array.replicate 40 none
  statics := none }

def pool2 : Array CpInfo := pool [(2, .class_ 4), (1, u "java/lang/Object"), (0, u "<init>"), (0, u "()V"), (0, .class_ 8), (0, u "com/example/clio/clio/Layout"), (49, .class_ 60), (1, u "java/util/Arrays"), (12, .class_ 75), (1, u "com/example/clio/clio/Layout$InboxSeq"), (22, .class_ 100), (1, u "com/example/clio/clio/Layout$Count"), (1, u "B"), (1, .class_ 105), (0, u "com/example/clio/clio/Layout$Timeline"), (0, .methodref 58 107), (0, .nameAndType 108 109), (0, u "copyOf"), (0, u "([BI)[B"), (0, .methodref 58 111), (0, .nameAndType 112 113), (0, u "fill"), (0, u "([BIIB)V"), (70, .class_ 185), (0, u "com/example/clio/clio/Layout$EntryRef"), (89, u "VERSION"), (0, u "J"), (3, u "CONVERSATION"), (1, u "LARGE"), (1, u "SENT"), (1, u "MEMBERSHIP"), (1, u "LARGE_MEMBERSHIP"), (1, u "SENT_BY"), (1, u "READ_POSITION"), (1, u "MEMBERSHIP_CHANGES"), (1, u "INBOX_START"), (1, u "EXPIRY"), (1, u "NEWEST_TIME"), (1, u "COUNT"), (1, u "LAYOUT_VERSION"), (1, u "MESSAGE"), (1, u "MEMBERS_CHANGED"), (32, u "pastEntries"), (0, u "([B)[B")] 83

def k2m0 : Method := { name := "<init>", desc := "()V", sig := { parameters := [], returnType := none }, accessFlags := 2, code := none }
def k2c1 : Code := { maxStack := 4, maxLocals := 2, code := prog_20_method_22_code, exceptionTable := #[], attributes := #[] }
def k2m1 : Method := { name := "pastEntries", desc := "([B)[B", sig := { parameters := [(.array .byte)], returnType := some (.array .byte) }, accessFlags := 8, code := some k2c1 }
/-- com/example/clio/clio/Layout -/
def k2 : Class := { plain "com/example/clio/clio/Layout" (some 0) with
  accessFlags := 48
  interfaces := #[]
  cf := some (fileOf pool2 7 #[.nestMembers #[73, 184, 98, 104]] #[{ accessFlags := 2, nameIndex := 5, descriptorIndex := 6, attributes := #[] }, { accessFlags := 8, nameIndex := 341, descriptorIndex := 342, attributes := #[] }] 48 2 #[] #[{ accessFlags := 24, nameIndex := 275, descriptorIndex := 276, attributes := #[] }, { accessFlags := 26, nameIndex := 280, descriptorIndex := 102, attributes := #[] }, { accessFlags := 26, nameIndex := 282, descriptorIndex := 102, attributes := #[] }, { accessFlags := 26, nameIndex := 284, descriptorIndex := 102, attributes := #[] }, { accessFlags := 26, nameIndex := 286, descriptorIndex := 102, attributes := #[] }, { accessFlags := 26, nameIndex := 288, descriptorIndex := 102, attributes := #[] }, { accessFlags := 26, nameIndex := 290, descriptorIndex := 102, attributes := #[] }, { accessFlags := 26, nameIndex := 292, descriptorIndex := 102, attributes := #[] }, { accessFlags := 26, nameIndex := 294, descriptorIndex := 102, attributes := #[] }, { accessFlags := 26, nameIndex := 296, descriptorIndex := 102, attributes := #[] }, { accessFlags := 26, nameIndex := 298, descriptorIndex := 102, attributes := #[] }, { accessFlags := 26, nameIndex := 300, descriptorIndex := 102, attributes := #[] }, { accessFlags := 26, nameIndex := 302, descriptorIndex := 102, attributes := #[] }, { accessFlags := 26, nameIndex := 304, descriptorIndex := 102, attributes := #[] }, { accessFlags := 26, nameIndex := 306, descriptorIndex := 102, attributes := #[] }, { accessFlags := 26, nameIndex := 308, descriptorIndex := 102, attributes := #[] }])
  fields := #[{ name := "VERSION", type := .long, accessFlags := 24, slot := 0, constantValue := 0 }, { name := "CONVERSATION", type := .byte, accessFlags := 26, slot := 1, constantValue := 0 }, { name := "LARGE", type := .byte, accessFlags := 26, slot := 2, constantValue := 0 }, { name := "SENT", type := .byte, accessFlags := 26, slot := 3, constantValue := 0 }, { name := "MEMBERSHIP", type := .byte, accessFlags := 26, slot := 4, constantValue := 0 }, { name := "LARGE_MEMBERSHIP", type := .byte, accessFlags := 26, slot := 5, constantValue := 0 }, { name := "SENT_BY", type := .byte, accessFlags := 26, slot := 6, constantValue := 0 }, { name := "READ_POSITION", type := .byte, accessFlags := 26, slot := 7, constantValue := 0 }, { name := "MEMBERSHIP_CHANGES", type := .byte, accessFlags := 26, slot := 8, constantValue := 0 }, { name := "INBOX_START", type := .byte, accessFlags := 26, slot := 9, constantValue := 0 }, { name := "EXPIRY", type := .byte, accessFlags := 26, slot := 10, constantValue := 0 }, { name := "NEWEST_TIME", type := .byte, accessFlags := 26, slot := 11, constantValue := 0 }, { name := "COUNT", type := .byte, accessFlags := 26, slot := 12, constantValue := 0 }, { name := "LAYOUT_VERSION", type := .byte, accessFlags := 26, slot := 13, constantValue := 0 }, { name := "MESSAGE", type := .byte, accessFlags := 26, slot := 14, constantValue := 0 }, { name := "MEMBERS_CHANGED", type := .byte, accessFlags := 26, slot := 15, constantValue := 0 }]
  methods := #[k2m0, k2m1]
  instanceTypes := #[]
  staticTypes := #[.long, .byte, .byte, .byte, .byte, .byte, .byte, .byte, .byte, .byte, .byte, .byte, .byte, .byte, .byte, .byte]
  resolved := Array.replicate 426 none
  statics := none }

def pool3 : Array CpInfo := pool [(2, .class_ 4), (1, u "java/lang/Object"), (0, u "<init>"), (0, u "()V"), (6, .methodref 14 15), (0, .class_ 16), (0, .nameAndType 17 18), (0, u "java/util/Arrays"), (0, u "rangeCheck"), (0, u "(III)V"), (55, .class_ 76), (1, u "java/util/Arrays$NaturalOrder"), (36, .class_ 115), (1, u "java/util/Arrays$LegacyMergeSort"), (1, u "Z"), (32, .methodref 151 152), (0, .class_ 153), (0, .nameAndType 154 155), (0, u "java/lang/System"), (0, u "arraycopy"), (0, u "(Ljava/lang/Object;ILjava/lang/Object;II)V"), (146, u "copyOf"), (1, .methodref 305 306), (0, .class_ 307), (0, .nameAndType 308 309), (0, u "java/lang/Math"), (0, u "min"), (0, u "(II)I"), (65, .class_ 376), (0, u "java/util/Arrays$ArrayList"), (68, u "$assertionsDisabled"), (269, u "MIN_ARRAY_SORT_GRAN"), (0, u "I"), (2, u "INSERTIONSORT_THRESHOLD"), (120, u "fill"), (10, u "([BIIB)V"), (17, u "([BI)[B"), (105, .class_ 976), (0, u "java/util/Arrays$ArrayItr")] 52

def k3m0 : Method := { name := "<init>", desc := "()V", sig := { parameters := [], returnType := none }, accessFlags := 2, code := none }
def k3c1 : Code := { maxStack := 4, maxLocals := 3, code := jdk_65_method_30_code, exceptionTable := #[], attributes := #[] }
def k3m1 : Method := { name := "rangeCheck", desc := "(III)V", sig := { parameters := [.int, .int, .int], returnType := none }, accessFlags := 8, code := some k3c1 }
def k3c2 : Code := { maxStack := 3, maxLocals := 5, code := jdk_65_method_110_code, exceptionTable := #[], attributes := #[] }
def k3m2 : Method := { name := "fill", desc := "([BIIB)V", sig := { parameters := [(.array .byte), .int, .int, .byte], returnType := none }, accessFlags := 9, code := some k3c2 }
def k3c3 : Code := { maxStack := 6, maxLocals := 3, code := jdk_65_method_121_code, exceptionTable := #[], attributes := #[] }
def k3m3 : Method := { name := "copyOf", desc := "([BI)[B", sig := { parameters := [(.array .byte), .int], returnType := some (.array .byte) }, accessFlags := 9, code := some k3c3 }
/-- java/util/Arrays -/
def k3 : Class := { plain "java/util/Arrays" (some 0) with
  accessFlags := 49
  interfaces := #[]
  cf := some (fileOf pool3 14 #[.nestMembers #[975, 375, 113, 74]] #[{ accessFlags := 2, nameIndex := 5, descriptorIndex := 6, attributes := #[] }, { accessFlags := 8, nameIndex := 17, descriptorIndex := 18, attributes := #[] }, { accessFlags := 9, nameIndex := 840, descriptorIndex := 851, attributes := #[] }, { accessFlags := 9, nameIndex := 302, descriptorIndex := 869, attributes := #[] }] 49 2 #[] #[{ accessFlags := 26, nameIndex := 715, descriptorIndex := 716, attributes := #[] }, { accessFlags := 26, nameIndex := 719, descriptorIndex := 716, attributes := #[] }, { accessFlags := 4120, nameIndex := 445, descriptorIndex := 117, attributes := #[] }])
  fields := #[{ name := "MIN_ARRAY_SORT_GRAN", type := .int, accessFlags := 26, slot := 0, constantValue := 0 }, { name := "INSERTIONSORT_THRESHOLD", type := .int, accessFlags := 26, slot := 1, constantValue := 0 }, { name := "$assertionsDisabled", type := .boolean, accessFlags := 4120, slot := 2, constantValue := 0 }]
  methods := #[k3m0, k3m1, k3m2, k3m3]
  instanceTypes := #[]
  staticTypes := #[.int, .int, .boolean]
  resolved := Array.replicate 1029 none
  statics := none }

def pool4 : Array CpInfo := pool [(1, .class_ 2), (0, u "java/lang/Math"), (1, .class_ 6), (1, u "java/lang/Object"), (0, u "<init>"), (0, u "()V"), (89, .class_ 100), (1, u "java/lang/Math$RandomNumberGeneratorHolder"), (71, u "negativeZeroFloatBits"), (0, u "J"), (2, u "negativeZeroDoubleBits"), (24, u "min"), (43, u "$assertionsDisabled"), (0, u "Z"), (88, u "(II)I"), (2, u "twoToTheDoubleScaleDown"), (0, u "D"), (4, u "twoToTheDoubleScaleUp"), (9, u "E"), (3, u "PI"), (2, u "TAU"), (2, u "DEGREES_TO_RADIANS"), (0, u "RADIANS_TO_DEGREES")] 94

def k4m0 : Method := { name := "<init>", desc := "()V", sig := { parameters := [], returnType := none }, accessFlags := 2, code := none }
def k4c1 : Code := { maxStack := 2, maxLocals := 2, code := jdk_29_method_69_code, exceptionTable := #[], attributes := #[] }
def k4m1 : Method := { name := "min", desc := "(II)I", sig := { parameters := [.int, .int], returnType := some .int }, accessFlags := 9, code := some k4c1 }
/-- java/lang/Math -/
def k4 : Class := { plain "java/lang/Math" (some 0) with
  accessFlags := 49
  interfaces := #[]
  cf := some (fileOf pool4 1 #[.nestMembers #[98]] #[{ accessFlags := 2, nameIndex := 7, descriptorIndex := 8, attributes := #[] }, { accessFlags := 9, nameIndex := 201, descriptorIndex := 335, attributes := #[] }] 49 4 #[] #[{ accessFlags := 25, nameIndex := 354, descriptorIndex := 339, attributes := #[] }, { accessFlags := 25, nameIndex := 358, descriptorIndex := 339, attributes := #[] }, { accessFlags := 25, nameIndex := 361, descriptorIndex := 339, attributes := #[] }, { accessFlags := 26, nameIndex := 364, descriptorIndex := 339, attributes := #[] }, { accessFlags := 26, nameIndex := 365, descriptorIndex := 339, attributes := #[] }, { accessFlags := 26, nameIndex := 172, descriptorIndex := 173, attributes := #[] }, { accessFlags := 26, nameIndex := 176, descriptorIndex := 173, attributes := #[] }, { accessFlags := 8, nameIndex := 344, descriptorIndex := 339, attributes := #[] }, { accessFlags := 8, nameIndex := 338, descriptorIndex := 339, attributes := #[] }, { accessFlags := 4120, nameIndex := 245, descriptorIndex := 246, attributes := #[] }])
  fields := #[{ name := "E", type := .double, accessFlags := 25, slot := 0, constantValue := 0 }, { name := "PI", type := .double, accessFlags := 25, slot := 1, constantValue := 0 }, { name := "TAU", type := .double, accessFlags := 25, slot := 2, constantValue := 0 }, { name := "DEGREES_TO_RADIANS", type := .double, accessFlags := 26, slot := 3, constantValue := 0 }, { name := "RADIANS_TO_DEGREES", type := .double, accessFlags := 26, slot := 4, constantValue := 0 }, { name := "negativeZeroFloatBits", type := .long, accessFlags := 26, slot := 5, constantValue := 0 }, { name := "negativeZeroDoubleBits", type := .long, accessFlags := 26, slot := 6, constantValue := 0 }, { name := "twoToTheDoubleScaleUp", type := .double, accessFlags := 8, slot := 7, constantValue := 0 }, { name := "twoToTheDoubleScaleDown", type := .double, accessFlags := 8, slot := 8, constantValue := 0 }, { name := "$assertionsDisabled", type := .boolean, accessFlags := 4120, slot := 9, constantValue := 0 }]
  methods := #[k4m0, k4m1]
  instanceTypes := #[]
  staticTypes := #[.double, .double, .double, .double, .double, .long, .long, .double, .double, .boolean]
  resolved := Array.replicate 460 none
  statics := none }

def pool5 : Array CpInfo := pool [(2, .class_ 4), (1, u "java/lang/Object"), (0, u "<init>"), (0, u "()V"), (1, .class_ 10), (1, u "java/lang/System"), (0, u "allowSecurityManager"), (0, u "I"), (16, u "cons"), (0, u "Ljava/io/Console;"), (77, .class_ 110), (1, u "java/lang/System$CallersHolder"), (43, u "initialErrStream"), (0, u "Ljava/io/PrintStream;"), (19, u "security"), (0, u "Ljava/lang/SecurityManager;"), (31, .class_ 209), (0, u "java/lang/System$1"), (7, u "props"), (0, u "Ljava/util/Properties;"), (2, u "lineSeparator"), (0, u "Ljava/lang/String;"), (96, .class_ 321), (1, u "java/lang/System$LoggerFinder"), (5, .class_ 328), (0, u "java/lang/System$Logger"), (67, u "err"), (2, u "out"), (91, u "notSupportedJnuEncoding"), (15, u "in"), (17, u "initialIn"), (0, u "Ljava/io/InputStream;"), (35, u "bootLayer"), (0, u "Ljava/lang/ModuleLayer;"), (99, .class_ 664), (0, u "java/lang/System$2"), (9, u "NEVER"), (2, u "MAYBE"), (49, u "arraycopy"), (0, u "(Ljava/lang/Object;ILjava/lang/Object;II)V"), (72, .class_ 802), (0, u "java/lang/System$Logger$Level")] 31

def k5m0 : Method := { name := "<init>", desc := "()V", sig := { parameters := [], returnType := none }, accessFlags := 2, code := none }
def k5m1 : Method := { name := "arraycopy", desc := "(Ljava/lang/Object;ILjava/lang/Object;II)V", sig := { parameters := [(.object "java/lang/Object"), .int, (.object "java/lang/Object"), .int, .int], returnType := none }, accessFlags := 265, code := none }
/-- java/lang/System -/
def k5 : Class := { plain "java/lang/System" (some 0) with
  accessFlags := 49
  interfaces := #[]
  cf := some (fileOf pool5 8 #[.nestMembers #[319, 327, 801, 108, 663, 208]] #[{ accessFlags := 2, nameIndex := 5, descriptorIndex := 6, attributes := #[] }, { accessFlags := 265, nameIndex := 727, descriptorIndex := 728, attributes := #[] }] 49 2 #[] #[{ accessFlags := 25, nameIndex := 507, descriptorIndex := 526, attributes := #[] }, { accessFlags := 25, nameIndex := 399, descriptorIndex := 155, attributes := #[] }, { accessFlags := 25, nameIndex := 396, descriptorIndex := 155, attributes := #[] }, { accessFlags := 10, nameIndex := 525, descriptorIndex := 526, attributes := #[] }, { accessFlags := 26, nameIndex := 674, descriptorIndex := 12, attributes := #[] }, { accessFlags := 26, nameIndex := 677, descriptorIndex := 12, attributes := #[] }, { accessFlags := 10, nameIndex := 11, descriptorIndex := 12, attributes := #[] }, { accessFlags := 74, nameIndex := 175, descriptorIndex := 176, attributes := #[] }, { accessFlags := 10, nameIndex := 491, descriptorIndex := 222, attributes := #[] }, { accessFlags := 74, nameIndex := 29, descriptorIndex := 30, attributes := #[] }, { accessFlags := 74, nameIndex := 154, descriptorIndex := 155, attributes := #[] }, { accessFlags := 10, nameIndex := 217, descriptorIndex := 218, attributes := #[] }, { accessFlags := 10, nameIndex := 221, descriptorIndex := 222, attributes := #[] }, { accessFlags := 8, nameIndex := 562, descriptorIndex := 563, attributes := #[] }])
  fields := #[{ name := "in", type := (.object "java/io/InputStream"), accessFlags := 25, slot := 0, constantValue := 0 }, { name := "out", type := (.object "java/io/PrintStream"), accessFlags := 25, slot := 1, constantValue := 0 }, { name := "err", type := (.object "java/io/PrintStream"), accessFlags := 25, slot := 2, constantValue := 0 }, { name := "initialIn", type := (.object "java/io/InputStream"), accessFlags := 10, slot := 3, constantValue := 0 }, { name := "NEVER", type := .int, accessFlags := 26, slot := 4, constantValue := 0 }, { name := "MAYBE", type := .int, accessFlags := 26, slot := 5, constantValue := 0 }, { name := "allowSecurityManager", type := .int, accessFlags := 10, slot := 6, constantValue := 0 }, { name := "security", type := (.object "java/lang/SecurityManager"), accessFlags := 74, slot := 7, constantValue := 0 }, { name := "notSupportedJnuEncoding", type := (.object "java/lang/String"), accessFlags := 10, slot := 8, constantValue := 0 }, { name := "cons", type := (.object "java/io/Console"), accessFlags := 74, slot := 9, constantValue := 0 }, { name := "initialErrStream", type := (.object "java/io/PrintStream"), accessFlags := 74, slot := 10, constantValue := 0 }, { name := "props", type := (.object "java/util/Properties"), accessFlags := 10, slot := 11, constantValue := 0 }, { name := "lineSeparator", type := (.object "java/lang/String"), accessFlags := 10, slot := 12, constantValue := 0 }, { name := "bootLayer", type := (.object "java/lang/ModuleLayer"), accessFlags := 8, slot := 13, constantValue := 0 }]
  methods := #[k5m0, k5m1]
  instanceTypes := #[]
  staticTypes := #[(.object "java/io/InputStream"), (.object "java/io/PrintStream"), (.object "java/io/PrintStream"), (.object "java/io/InputStream"), .int, .int, .int, (.object "java/lang/SecurityManager"), (.object "java/lang/String"), (.object "java/io/Console"), (.object "java/io/PrintStream"), (.object "java/util/Properties"), (.object "java/lang/String"), (.object "java/lang/ModuleLayer")]
  resolved := Array.replicate 834 none
  statics := none }

def pool6 : Array CpInfo := pool [(1, u "java/lang/Cloneable"), (0, .class_ 1), (0, u "java/lang/Object"), (0, .class_ 3)] 3

/-- java/lang/Cloneable -/
def k6 : Class := { plain "java/lang/Cloneable" (some 0) with
  accessFlags := 1537
  interfaces := #[]
  cf := some (fileOf pool6 2 #[] #[] 1537 4 #[] #[])
  fields := #[]
  methods := #[]
  instanceTypes := #[]
  staticTypes := #[]
  resolved := Array.replicate 8 none
  statics := none }

def pool7 : Array CpInfo := pool [(1, u "java/io/Serializable"), (0, .class_ 1), (0, u "java/lang/Object"), (0, .class_ 3)] 3

/-- java/io/Serializable -/
def k7 : Class := { plain "java/io/Serializable" (some 0) with
  accessFlags := 1537
  interfaces := #[]
  cf := some (fileOf pool7 2 #[] #[] 1537 4 #[] #[])
  fields := #[]
  methods := #[]
  instanceTypes := #[]
  staticTypes := #[]
  resolved := Array.replicate 8 none
  statics := none }

/-- the primitive byte -/
def k8 : Class := { plain "byte" none with kind := .primitive 'B', accessFlags := 0x411 }
/-- [B -/
def k9 : Class := { plain "[B" (some 0) with kind := .array 8 .byte, interfaces := #[6, 7], accessFlags := 1041 }

/-- the primitive int -/
def k10 : Class := { plain "int" none with kind := .primitive 'I', accessFlags := 0x411 }
/-- [I -/
def k11 : Class := { plain "[I" (some 0) with kind := .array 10 .int, interfaces := #[6, 7], accessFlags := 1041 }

def heap : Heap := #[]
def classes : Array Class := #[k0, k1, k2, k3, k4, k5, k6, k7, k8, k9, k10, k11]
def interned : List (Array UInt16 × Addr) := []
def slotsUsed : Nat := 0
def theMethod : MethodId := ⟨1, 1⟩
def args0 : Array Value := #[.int 5, .long 7]
def aboutOver (below : List Frame) : State where
  vm := { classes := classes, interned := interned.toArray }
  heap := heap
  slotsUsed := slotsUsed
  threads := #[{ frames := .invoking theMethod args0 :: below }]
def below0 : List Frame := [.native { method := ⟨0, 0⟩, args := #[] }]
def about1 : State := aboutOver below0
def p0 : Program := .bare "" "" ""
def e0 : Env := launch0.env 0 0 0
theorem w_frames : about1.frames = Frame.invoking theMethod args0 :: below0 := rfl
set_option maxRecDepth 65536 in
theorem w_args : argsFit about1.vm theMethod args0 = true := by decide +kernel
set_option maxRecDepth 65536 in
theorem w_heap : heapFits about1 = true := by decide +kernel
set_option maxRecDepth 65536 in
theorem w_runnable : about1.curStatus? = some .runnable := by decide +kernel
set_option maxRecDepth 65536 in
theorem w_alone : about1.alone = true := by decide +kernel
set_option maxRecDepth 65536 in
theorem w_named : about1.methodNamed? x = some theMethod := by decide +kernel
set_option maxRecDepth 65536 in
theorem w_hears : about1.hears theMethod below0 = true := by decide +kernel
set_option maxRecDepth 65536 in
theorem w_ripe : about1.ripe theMethod args0 below0 = true := by decide +kernel
theorem w_running : about1.status = .running := rfl
set_option maxRecDepth 65536 in
theorem w_room : about1.hasRoom e0.platform room_1 = true :=
  launch0.hasRoom_least _ room_1 (by decide +kernel) (by decide +kernel) (by decide +kernel) (by decide +kernel) (by decide +kernel) (by decide +kernel)
theorem allAtoms_all (ts : List Jvm.Cond) (a : Array Jvm.Value) (st : Jvm.State) : (allAtoms ts).before a st = ts.all (fun c => c.before a st) := by
  induction ts with
  | nil => rfl
  | cons c t ih =>
    show (Jvm.Cond.and c (allAtoms t)).before a st = _
    rw [Jvm.Cond.before_and, ih, List.all_cons]
def words1 : List Jvm.Cond := Jvm.Cond.code x code maxLocals ret :: tables_1
/-- a 'code' word, met by the world's own term for the bytes: nothing is compared byte by byte -/
theorem code_word {y : MethodName} {bytes : ByteArray} {mx : Nat} {rt : Option FieldType} {a : Array Value} {s : State} {m : MethodId} {meth : Method} {c : Code} (h1 : s.methodNamed? y = some m) (h2 : s.vm.method? m = some meth) (h3 : meth.code = some c) (h4 : c.code = bytes)
    (h5 : (c.maxLocals == mx && c.exceptionTable.isEmpty && decide (c.maxStack ≤ mostOperands) && decide (meth.sig.returnType = rt) && !meth.locks && decide (parseMethodDescriptor y.desc = some meth.sig)) = true) : (Jvm.Cond.code y bytes mx rt).before a s = true := by
  simp only [Bool.and_eq_true, beq_iff_eq, Bool.not_eq_true', decide_eq_true_eq] at h5
  obtain ⟨⟨⟨⟨⟨g1, g2⟩, g3⟩, g4⟩, g5⟩, g6⟩ := h5
  simp [Cond.before, Cond.holds, Cond.value, h1, h2, h3, h4, g1, g2, g3, g4, g5, g6]
def isCode : Jvm.Cond → Bool
  | .code _ _ _ _ => true
  | _ => false
theorem all_split {L : List Jvm.Cond} {P : Jvm.Cond → Bool} (h1 : L.all (fun c => isCode c || P c) = true) (h2 : ∀ c ∈ L.filter isCode, P c = true) : L.all P = true := by
  refine List.all_eq_true.mpr fun c hc => ?_
  have h := List.all_eq_true.mp h1 c hc
  rcases Bool.eq_false_or_eq_true (isCode c) with hi | hi
  · exact h2 c (List.mem_filter.mpr ⟨hc, hi⟩)
  · simpa [hi] using h
set_option maxRecDepth 65536 in
theorem w_c0 : (Jvm.Cond.code x code maxLocals ret).before args0 about1 = true := code_word (m := ⟨1, 1⟩) (meth := k1m1) (c := k1c1) (by decide +kernel) rfl rfl rfl (by decide +kernel)
set_option maxRecDepth 65536 in
theorem w_c1 : (Jvm.Cond.code ({ cls := "com/example/clio/clio/LayoutPastEntriesPinLaw", name := "fill", desc := "([BIJ)V" } : Jvm.MethodName) method_3_code (4 : Nat) (Option.none : Option Jvm.ClassFile.FieldType)).before args0 about1 = true := code_word (m := ⟨1, 2⟩) (meth := k1m2) (c := k1c2) (by decide +kernel) rfl rfl rfl (by decide +kernel)
set_option maxRecDepth 65536 in
theorem w_c2 : (Jvm.Cond.code ({ cls := "com/example/clio/clio/LayoutPastEntriesPinLaw", name := "put", desc := "([BIIJ)V" } : Jvm.MethodName) method_4_code (5 : Nat) (Option.none : Option Jvm.ClassFile.FieldType)).before args0 about1 = true := code_word (m := ⟨1, 3⟩) (meth := k1m3) (c := k1c3) (by decide +kernel) rfl rfl rfl (by decide +kernel)
set_option maxRecDepth 65536 in
theorem w_c3 : (Jvm.Cond.code ({ cls := "com/example/clio/clio/Layout", name := "pastEntries", desc := "([B)[B" } : Jvm.MethodName) prog_20_method_22_code (2 : Nat) (Option.some (Jvm.ClassFile.FieldType.array Jvm.ClassFile.FieldType.byte))).before args0 about1 = true := code_word (m := ⟨2, 1⟩) (meth := k2m1) (c := k2c1) (by decide +kernel) rfl rfl rfl (by decide +kernel)
set_option maxRecDepth 65536 in
theorem w_c4 : (Jvm.Cond.code ({ cls := "java/util/Arrays", name := "copyOf", desc := "([BI)[B" } : Jvm.MethodName) jdk_65_method_121_code (3 : Nat) (Option.some (Jvm.ClassFile.FieldType.array Jvm.ClassFile.FieldType.byte))).before args0 about1 = true := code_word (m := ⟨3, 3⟩) (meth := k3m3) (c := k3c3) (by decide +kernel) rfl rfl rfl (by decide +kernel)
set_option maxRecDepth 65536 in
theorem w_c5 : (Jvm.Cond.code ({ cls := "java/lang/Math", name := "min", desc := "(II)I" } : Jvm.MethodName) jdk_29_method_69_code (2 : Nat) (Option.some Jvm.ClassFile.FieldType.int)).before args0 about1 = true := code_word (m := ⟨4, 1⟩) (meth := k4m1) (c := k4c1) (by decide +kernel) rfl rfl rfl (by decide +kernel)
set_option maxRecDepth 65536 in
theorem w_c6 : (Jvm.Cond.code ({ cls := "java/util/Arrays", name := "fill", desc := "([BIIB)V" } : Jvm.MethodName) jdk_65_method_110_code (5 : Nat) (Option.none : Option Jvm.ClassFile.FieldType)).before args0 about1 = true := code_word (m := ⟨3, 2⟩) (meth := k3m2) (c := k3c2) (by decide +kernel) rfl rfl rfl (by decide +kernel)
set_option maxRecDepth 65536 in
theorem w_c7 : (Jvm.Cond.code ({ cls := "java/util/Arrays", name := "rangeCheck", desc := "(III)V" } : Jvm.MethodName) jdk_65_method_30_code (3 : Nat) (Option.none : Option Jvm.ClassFile.FieldType)).before args0 about1 = true := code_word (m := ⟨3, 1⟩) (meth := k3m1) (c := k3c1) (by decide +kernel) rfl rfl rfl (by decide +kernel)
set_option maxRecDepth 65536 in
theorem w_c8 : (Jvm.Cond.code ({ cls := "com/example/clio/clio/LayoutPastEntriesPinLaw", name := "at", desc := "([B[BII)Z" } : Jvm.MethodName) method_5_code (5 : Nat) (Option.some Jvm.ClassFile.FieldType.boolean)).before args0 about1 = true := code_word (m := ⟨1, 4⟩) (meth := k1m4) (c := k1c4) (by decide +kernel) rfl rfl rfl (by decide +kernel)
set_option maxRecDepth 65536 in
theorem w_c9 : (Jvm.Cond.code ({ cls := "com/example/clio/clio/LayoutPastEntriesPinLaw", name := "eq", desc := "([B[BII)Z" } : Jvm.MethodName) method_6_code (4 : Nat) (Option.some Jvm.ClassFile.FieldType.boolean)).before args0 about1 = true := code_word (m := ⟨1, 5⟩) (meth := k1m5) (c := k1c5) (by decide +kernel) rfl rfl rfl (by decide +kernel)
def codes1 : List Jvm.Cond := [Jvm.Cond.code x code maxLocals ret, Jvm.Cond.code ({ cls := "com/example/clio/clio/LayoutPastEntriesPinLaw", name := "fill", desc := "([BIJ)V" } : Jvm.MethodName) method_3_code (4 : Nat) (Option.none : Option Jvm.ClassFile.FieldType), Jvm.Cond.code ({ cls := "com/example/clio/clio/LayoutPastEntriesPinLaw", name := "put", desc := "([BIIJ)V" } : Jvm.MethodName) method_4_code (5 : Nat) (Option.none : Option Jvm.ClassFile.FieldType), Jvm.Cond.code ({ cls := "com/example/clio/clio/Layout", name := "pastEntries", desc := "([B)[B" } : Jvm.MethodName) prog_20_method_22_code (2 : Nat) (Option.some (Jvm.ClassFile.FieldType.array Jvm.ClassFile.FieldType.byte)), Jvm.Cond.code ({ cls := "java/util/Arrays", name := "copyOf", desc := "([BI)[B" } : Jvm.MethodName) jdk_65_method_121_code (3 : Nat) (Option.some (Jvm.ClassFile.FieldType.array Jvm.ClassFile.FieldType.byte)), Jvm.Cond.code ({ cls := "java/lang/Math", name := "min", desc := "(II)I" } : Jvm.MethodName) jdk_29_method_69_code (2 : Nat) (Option.some Jvm.ClassFile.FieldType.int), Jvm.Cond.code ({ cls := "java/util/Arrays", name := "fill", desc := "([BIIB)V" } : Jvm.MethodName) jdk_65_method_110_code (5 : Nat) (Option.none : Option Jvm.ClassFile.FieldType), Jvm.Cond.code ({ cls := "java/util/Arrays", name := "rangeCheck", desc := "(III)V" } : Jvm.MethodName) jdk_65_method_30_code (3 : Nat) (Option.none : Option Jvm.ClassFile.FieldType), Jvm.Cond.code ({ cls := "com/example/clio/clio/LayoutPastEntriesPinLaw", name := "at", desc := "([B[BII)Z" } : Jvm.MethodName) method_5_code (5 : Nat) (Option.some Jvm.ClassFile.FieldType.boolean), Jvm.Cond.code ({ cls := "com/example/clio/clio/LayoutPastEntriesPinLaw", name := "eq", desc := "([B[BII)Z" } : Jvm.MethodName) method_6_code (4 : Nat) (Option.some Jvm.ClassFile.FieldType.boolean)]
set_option maxRecDepth 65536 in
theorem codes_eq : words1.filter isCode = codes1 := rfl
theorem w_codes : ∀ c ∈ words1.filter isCode, c.before args0 about1 = true := by
  rw [codes_eq]
  intro c hc
  simp only [codes1, List.mem_cons, List.not_mem_nil, or_false] at hc
  rcases hc with rfl | rfl | rfl | rfl | rfl | rfl | rfl | rfl | rfl | rfl
  · exact w_c0
  · exact w_c1
  · exact w_c2
  · exact w_c3
  · exact w_c4
  · exact w_c5
  · exact w_c6
  · exact w_c7
  · exact w_c8
  · exact w_c9
set_option maxRecDepth 65536 in
theorem w_t1 : (words1.take 24).all (fun c => isCode c || c.before args0 about1) = true := by decide +kernel
set_option maxRecDepth 65536 in
theorem w_t2 : (words1.drop 24).all (fun c => isCode c || c.before args0 about1) = true := by decide +kernel
theorem w_tables : (allAtoms (Jvm.Cond.code x code maxLocals ret :: tables_1)).before args0 about1 = true := by
  rw [allAtoms_all]
  show words1.all (fun c => c.before args0 about1) = true
  refine all_split ?_ w_codes
  rw [← List.take_append_drop 24 words1, List.all_append, w_t1, w_t2]
  rfl
set_option maxRecDepth 65536 in
theorem w_case : (Jvm.Cond.and given_1 narrow_1).before args0 about1 = true := by decide +kernel
theorem w_applies : (headSpec (Jvm.Cond.code x code maxLocals ret :: tables_1) room_1).applies x e0.platform about1 = true :=
  (Spec.applies_iff w_frames).mpr ⟨w_running, w_runnable, w_alone, w_named, w_hears, w_ripe, w_room, w_tables⟩
theorem atStart : AtStart classFile x code maxLocals ret World_1 tables_1 room_1 Calls_1 rest_1 Pre_1 launch0 p0 e0 about1 theMethod args0 below0 :=
  ⟨lists_1, trivial, launch0.admits_env _ _ _, launch0.least_env, fairChoices_fair.cas, fairChoices_fair.clock, w_frames, w_args, w_heap, w_applies, trivial, trivial, w_case⟩
end start1
theorem witness_1 : WitnessClaimed_1 := ⟨start1.p0, start1.e0, start1.about1, start1.theMethod, start1.args0, start1.below0, start1.atStart⟩
end Jvm.Pilot.@@N@@
