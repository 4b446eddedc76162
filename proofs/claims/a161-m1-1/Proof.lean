import JvmDerived
import JvmDerived.Pilot.@@N@@Statement
import JvmDerived.Pilot.@@N@@Code
set_option linter.unusedVariables false
set_option linter.unusedSimpArgs false
namespace Jvm.RoadKit
open Sem ClassFile Op Lib Jvm.Stand Jvm.Free Jvm.LawKit
/-- the run from S ends, and ends as Q says -/
def Go (tb : Tables) (e : Env) (below : List Frame) (Q : Outcome → State → Prop) (S : State) : Prop := ∃ s₂ o, Steps tb e below S s₂ ∧ s₂.status = .running ∧ Ended s₂ below o ∧ Q o s₂
theorem Go.by {tb : Tables} {e : Env} {below : List Frame} {Q : Outcome → State → Prop} {S S' : State} (h : ∀ t, Steps tb e below S' t → Steps tb e below S t) (k : Go tb e below Q S') : Go tb e below Q S := by
  obtain ⟨s₂, o, h1, r⟩ := k
  exact ⟨s₂, o, h _ h1, r⟩
/-- what a contract says of the end -/
def Ret (s : State) (n0 : Nat) (Q : Option Value → Heap → Prop) (C S : Nat) : Outcome → State → Prop := fun o U => ∃ v L, o = .returned v ∧ (Q v U.heap ∧ Fr n0 L) ∧ FrameEnd s o U L C S
def Met (l : Launch) (Z : State) (n0 : Nat) (y : MethodName) (bytes : ByteArray) (maxL : Nat) (ret : Option FieldType) (ws : List Cond) (rm : Room) (as : Array Value) (h0 : Heap) (Q : Option Value → Heap → Prop) : Prop :=
  MetFree l y (head1 (Cond.code y bytes maxL ret :: ws) rm) (fun a U => a = as ∧ Z.Warmed39 U.vm ∧ U.heap = h0) (fun _ _ _ _ _ => True) (fun _ U o U' => ∃ v L, o = .returned v ∧ (Q v U'.heap ∧ Fr n0 L) ∧ FrameEnd U o U' L rm.cells rm.slots)
/-- where the walk stands: the heap is h, k cells of n slots were made, nothing below n0 was written -/
def Sd (n0 : Nat) (p : Program) (l : Launch) (e : Env) (R : Room) (s : State) (m : MethodId) (args : Array Value) (below : List Frame) (meth : Method) (c : Code) (T : State) (h : Heap) (k n : Nat) : Prop :=
  ∃ locs, Stand p l e R s m args below meth c T locs k n ∧ Fr n0 locs ∧ T.heap = h
section Sds
variable {n0 : Nat} {p : Program} {l : Launch} {e : Env} {R : Room} {s : State} {m : MethodId} {args : Array Value} {below : List Frame} {meth : Method} {c : Code} {T : State} {h : Heap} {k n : Nat} {Z : State} {a0 : Array Value}
theorem catV {v : Value} (h : v.isRef = true) : v.category = 1 := by cases v <;> first | rfl | (cases h; done)
theorem Sd.here (X : Sd n0 p l e R s m args below meth c T h k n) : At T m c below := by obtain ⟨_, X, -⟩ := X; exact X.here
theorem Sd.more (X : Sd n0 p l e R s m args below meth c T h k n) {k' n' : Nat} (hk : k ≤ k') (hn : n ≤ n') : Sd n0 p l e R s m args below meth c T h k' n' := by
  obtain ⟨L, X, N, q⟩ := X; exact ⟨L, X.more hk hn, N, q⟩
theorem enter {y : MethodName} {bytes : ByteArray} {maxL : Nat} {ret : Option FieldType} {ws : List Cond} {rm : Room} {as : Array Value} {h0 : Heap} {Q : Option Value → Heap → Prop} {Ls : Array Slot}
    (hpl : plainFor y = true) (hef : ∀ m, entryFrame m as maxL = mkF m 0 Ls [])
    (body : ∀ (p : Program) (e : Env) (s : State) (m : MethodId) (below : List Frame) (meth : Method) (c : Code) (T0 : State), p.tables.exec = Jvm.exec → c.code = bytes → c.maxLocals = maxL → s.vm.findClass y.cls = some m.cls → meth.name = y.name → meth.sig.returnType = ret → meth.locks = false → Z.Warmed39 s.vm →
      Sd n0 p l e rm s m as below meth c T0 h0 0 0 → Go p.tables e below (Ret s n0 Q rm.cells rm.slots) (T0.setTop (mkF m 0 Ls []))) : Met l Z n0 y bytes maxL ret ws rm as h0 Q := by
  refine MetFree.of_bodySF hpl hisR ?_
  intro p e s m args below meth c s₁ Bd hml0 hP hK
  obtain ⟨rfl, hZ, hh⟩ := hP
  have X0 : Stand p l e rm s m args below meth c s₁ [] 0 0 := Stand.of_body Bd
  have e0 : s₁.heap = h0 := by rw [← hh, Bd.state]; rfl
  have hlk : meth.locks = false := BodyLoose.notSynchronized Bd
  have k := body p e s m below meth c s₁ Bd.exec Bd.bytes hml0 (findClass_of_methodNamed Bd.named) (name_of_methodNamed Bd.named Bd.method).1 Bd.returns hlk hZ ⟨[], X0, Fr.nil n0, e0⟩
  obtain ⟨s₂, o, h1, h2, h3, h4⟩ := k
  exact ⟨s₂, o, castTop (hef m) h1, h2, h3, h4⟩
/-! returns -/
theorem Go.leave (X : Sd n0 p l e R s m args below meth c T h k n) {Q : Option Value → Heap → Prop} {C S : Nat} {v : Option Value} {g : JFrame} (hlk : meth.locks = false) (hv : meth.sig.returnType = none → v = none)
    (hst : ∀ fs, (∀ (f : JFrame) (acts : List Action), f.method = m → f.locked = none → f.entered = [] → (doReturn e (T.setTop f) acts v).1 = T.setFrames fs) → Steps p.tables e below (T.setTop g) (T.setFrames fs))
    (hk : k ≤ C) (hn : n ≤ S) (hQ : Q v h) : Go p.tables e below (Ret s n0 Q C S) (T.setTop g) := by
  obtain ⟨L, X, N, q⟩ := X
  obtain ⟨fs, hr, hrun, hended, hW, hsame⟩ := X.leave (v := v) hv hlk
  refine ⟨_, _, hst fs hr, hrun, hended, _, L, rfl, ⟨?_, N⟩, ⟨_, rfl⟩, hW, hsame.mono hk hn⟩
  show Q v T.heap
  rw [q]; exact hQ
theorem Go.retN (X : Sd n0 p l e R s m args below meth c T h k n) (hx : p.tables.exec = Jvm.exec) (hlk : meth.locks = false) {Q : Option Value → Heap → Prop} {C S : Nat} {t : FieldType} {pc : Nat} {Ls : Array Slot} {z z' : Int32} {rest : List Value} (hret : meth.sig.returnType = some t) (ht : t = .boolean ∨ t = .byte ∨ t = .char ∨ t = .short)
    (hd : decode c.code pc = .ok (.ireturn, 1)) (hz : nar t z = z') (hk : k ≤ C) (hn : n ≤ S) (hQ : Q (some (.int z')) h) : Go p.tables e below (Ret s n0 Q C S) (T.setTop (mkF m pc Ls (.int z :: rest))) := by
  subst hz
  refine Go.leave X hlk (fun q => by rw [hret] at q; cases q) (fun fs hr => ?_) hk hn hQ
  obtain ⟨L, X, -⟩ := X
  exact Jvm.RoadKit.retN X hx hret ht hd hr
theorem Go.retI (X : Sd n0 p l e R s m args below meth c T h k n) (hx : p.tables.exec = Jvm.exec) (hlk : meth.locks = false) {Q : Option Value → Heap → Prop} {C S : Nat} {pc : Nat} {Ls : Array Slot} {z : Int32} {rest : List Value} (hret : meth.sig.returnType = some .int)
    (hd : decode c.code pc = .ok (.ireturn, 1)) (hk : k ≤ C) (hn : n ≤ S) (hQ : Q (some (.int z)) h) : Go p.tables e below (Ret s n0 Q C S) (T.setTop (mkF m pc Ls (.int z :: rest))) := by
  refine Go.leave X hlk (fun q => by rw [hret] at q; cases q) (fun fs hr => ?_) hk hn hQ
  obtain ⟨L, X, -⟩ := X
  exact retOut X hx hret rfl (Or.inl ⟨rfl, Or.inl rfl, _, rfl⟩) hd hr
theorem Go.retL (X : Sd n0 p l e R s m args below meth c T h k n) (hx : p.tables.exec = Jvm.exec) (hlk : meth.locks = false) {Q : Option Value → Heap → Prop} {C S : Nat} {pc : Nat} {Ls : Array Slot} {z : Int64} {rest : List Value} (hret : meth.sig.returnType = some .long)
    (hd : decode c.code pc = .ok (.lreturn, 1)) (hk : k ≤ C) (hn : n ≤ S) (hQ : Q (some (.long z)) h) : Go p.tables e below (Ret s n0 Q C S) (T.setTop (mkF m pc Ls (.long z :: rest))) := by
  refine Go.leave X hlk (fun q => by rw [hret] at q; cases q) (fun fs hr => ?_) hk hn hQ
  obtain ⟨L, X, -⟩ := X
  exact retOut X hx hret rfl (Or.inr (Or.inl ⟨rfl, rfl, _, rfl⟩)) hd hr
theorem Go.retA (X : Sd n0 p l e R s m args below meth c T h k n) (hx : p.tables.exec = Jvm.exec) (hlk : meth.locks = false) {Q : Option Value → Heap → Prop} {C S : Nat} {t : FieldType} {pc : Nat} {Ls : Array Slot} {w : Value} {rest : List Value} (hret : meth.sig.returnType = some t) (ht : t.isReference = true) (hw : w.isRef = true)
    (hd : decode c.code pc = .ok (.areturn, 1)) (hk : k ≤ C) (hn : n ≤ S) (hQ : Q (some w) h) : Go p.tables e below (Ret s n0 Q C S) (T.setTop (mkF m pc Ls (w :: rest))) := by
  refine Go.leave X hlk (fun q => by rw [hret] at q; cases q) (fun fs hr => ?_) hk hn hQ
  obtain ⟨L, X, -⟩ := X
  have hnar : narrow t w = w := by cases t <;> first | (cases ht; done) | (cases w <;> first | rfl | (cases hw; done))
  exact retOut X hx hret hnar (Or.inr (Or.inr (Or.inr (Or.inr ⟨rfl, ht, hw⟩)))) hd hr
theorem Go.ret0 (X : Sd n0 p l e R s m args below meth c T h k n) (hx : p.tables.exec = Jvm.exec) (hlk : meth.locks = false) {Q : Option Value → Heap → Prop} {C S : Nat} {pc : Nat} {Ls : Array Slot} (hret : meth.sig.returnType = none)
    (hd : decode c.code pc = .ok (.return_, 1)) (hk : k ≤ C) (hn : n ≤ S) (hQ : Q none h) : Go p.tables e below (Ret s n0 Q C S) (T.setTop (mkF m pc Ls [])) := by
  refine Go.leave X hlk (fun _ => rfl) (fun fs hr => ?_) hk hn hQ
  obtain ⟨L, X, -⟩ := X
  exact X.returnOut hx hret hd hr
/-! fields, statics, casts -/
theorem Sd.getF (X : Sd n0 p l e R s m args below meth c T h k n) (hx : p.tables.exec = Jvm.exec) (hZ : Z.Warmed39 s.vm) {own R0 O nm d host : String} {index : Nat} (hown : s.vm.findClass own = some m.cls) (w : (Cond.fieldLink own index R0 nm d).before a0 Z = true ∨ (Cond.fieldLinkNest own index R0 nm d host).before a0 Z = true) (via : Via Z R0 O nm d)
    {a : Addr} {v : Value} (F : Fld Z h a O nm d v) {g : JFrame} (hg : g.method = m) {rest : List Value} (hs : g.stack = .ref a :: rest) (hd : decode c.code g.pc = .ok (.getfield index, 3)) :
    ∃ T', Sd n0 p l e R s m args below meth c T' h k n ∧ ∀ target, Steps p.tables e below (T'.setTop { g with pc := g.pc + 3, stack := v :: rest }) target → Steps p.tables e below (T.setTop g) target := by
  obtain ⟨L, X, N, q⟩ := X
  obtain ⟨T', X', e', st⟩ := Jvm.RoadKit.getF X hx hZ hown w via q F hg hs hd
  exact ⟨T', ⟨L, X', N, e'⟩, st⟩
theorem Sd.getS (X : Sd n0 p l e R s m args below meth c T h k n) (hx : p.tables.exec = Jvm.exec) (hZ : Z.Warmed39 s.vm) {own R0 O nm d host : String} {index : Nat} (hown : s.vm.findClass own = some m.cls) (w : (Cond.fieldLink own index R0 nm d).before a0 Z = true ∨ (Cond.fieldLinkNest own index R0 nm d host).before a0 Z = true) (via : Via Z R0 O nm d)
    {v : Value} (F : Sta Z h O nm d v) {g : JFrame} (hg : g.method = m) (hd : decode c.code g.pc = .ok (.getstatic index, 3)) :
    ∃ T', Sd n0 p l e R s m args below meth c T' h k n ∧ ∀ target, Steps p.tables e below (T'.setTop { g with pc := g.pc + 3, stack := v :: g.stack }) target → Steps p.tables e below (T.setTop g) target := by
  obtain ⟨L, X, N, q⟩ := X
  obtain ⟨T', X', e', st⟩ := getS2 X hx hZ hown w via q F hg hd
  exact ⟨T', ⟨L, X', N, e'⟩, st⟩
theorem Sd.putF (X : Sd n0 p l e R s m args below meth c T h k n) (hx : p.tables.exec = Jvm.exec) (hZ : Z.Warmed39 s.vm) {own R0 O nm d host C : String} {index kk : Nat} {ty : FieldType} (hown : s.vm.findClass own = some m.cls) (w : (Cond.fieldLink own index R0 nm d).before a0 Z = true ∨ (Cond.fieldLinkNest own index R0 nm d host).before a0 Z = true) (via : Via Z R0 O nm d)
    {a : Addr} {v old : Value} (F : Fld Z h a O nm d old) (E : Exa Z h a C) (ga : n0 ≤ a) (L : (Cond.lays C O nm d).before a0 Z = true ∨ ((Cond.laysFinal C O nm d).before a0 Z = true ∧ own = O ∧ meth.name = "<init>")) (wi : (Cond.instantiable C kk).before a0 Z = true)
    (hty : parseFieldDescriptor d = some ty) (hnr : narrow ty v = v) (hf : fits ty v = true) {g : JFrame} (hg : g.method = m) {rest : List Value} (hs : g.stack = v :: .ref a :: rest) (hd : decode c.code g.pc = .ok (.putfield index, 3)) :
    ∃ T' h', Sd n0 p l e R s m args below meth c T' h' k n ∧ Wr h h' a (slotOf Z O nm d) v ∧ ∀ target, Steps p.tables e below (T'.setTop { g with pc := g.pc + 3, stack := rest }) target → Steps p.tables e below (T.setTop g) target := by
  obtain ⟨Lc, X, N, q⟩ := X
  obtain ⟨T', h', X', e', W, st⟩ := Jvm.RoadKit.putF X hx hZ hown w via q F E L wi hty hnr hf hg hs hd
  exact ⟨T', h', ⟨_, X', Fr.snoc X' N ga, e'⟩, W, st⟩
theorem Sd.putFN (X : Sd n0 p l e R s m args below meth c T h k n) (hx : p.tables.exec = Jvm.exec) (hZ : Z.Warmed39 s.vm) {own R0 O nm d C : String} {index kk : Nat} {ty : FieldType} (hown : s.vm.findClass own = some m.cls) (w : (Cond.fieldLink own index R0 nm d).before a0 Z = true) (via : Via Z R0 O nm d)
    {a : Addr} {v v' old : Value} (F : Fld Z h a O nm d old) (E : Exa Z h a C) (ga : n0 ≤ a) (L : (Cond.lays C O nm d).before a0 Z = true ∨ ((Cond.laysFinal C O nm d).before a0 Z = true ∧ own = O ∧ meth.name = "<init>")) (wi : (Cond.instantiable C kk).before a0 Z = true)
    (hty : parseFieldDescriptor d = some ty) (hnr : narrow ty v = v') (hf : fits ty v' = true) {g : JFrame} (hg : g.method = m) {rest : List Value} (hs : g.stack = v :: .ref a :: rest) (hd : decode c.code g.pc = .ok (.putfield index, 3)) :
    ∃ T' h', Sd n0 p l e R s m args below meth c T' h' k n ∧ Wr h h' a (slotOf Z O nm d) v' ∧ ∀ target, Steps p.tables e below (T'.setTop { g with pc := g.pc + 3, stack := rest }) target → Steps p.tables e below (T.setTop g) target := by
  obtain ⟨Lc, X, N, q⟩ := X
  obtain ⟨T', h', X', e', W, st⟩ := Jvm.RoadKit.putFN X hx hZ hown w via q F E L wi hty hnr hf hg hs hd
  exact ⟨T', h', ⟨_, X', Fr.snoc X' N ga, e'⟩, W, st⟩
theorem Sd.castY (X : Sd n0 p l e R s m args below meth c T h k n) (hx : p.tables.exec = Jvm.exec) (hZ : Z.Warmed39 s.vm) {own K : String} {index : Nat} (hown : s.vm.findClass own = some m.cls) (w : (Cond.classLink own index K).before a0 Z = true) {a : Addr} (F : Ins Z h a K true)
    {g : JFrame} (hg : g.method = m) {rest : List Value} (hs : g.stack = .ref a :: rest) (hd : decode c.code g.pc = .ok (.checkcast index, 3)) :
    ∃ T', Sd n0 p l e R s m args below meth c T' h k n ∧ ∀ target, Steps p.tables e below (T'.setTop { g with pc := g.pc + 3 }) target → Steps p.tables e below (T.setTop g) target := by
  obtain ⟨L, X, N, q⟩ := X
  obtain ⟨T', X', e', st⟩ := Jvm.RoadKit.castY X hx hZ hown w q F hg hs hd
  exact ⟨T', ⟨L, X', N, e'⟩, st⟩
theorem Sd.instY (X : Sd n0 p l e R s m args below meth c T h k n) (hx : p.tables.exec = Jvm.exec) (hZ : Z.Warmed39 s.vm) {own K : String} {index : Nat} (hown : s.vm.findClass own = some m.cls) (w : (Cond.classLink own index K).before a0 Z = true) {a : Addr} (F : Ins Z h a K true)
    {g : JFrame} (hg : g.method = m) {rest : List Value} (hs : g.stack = .ref a :: rest) (hd : decode c.code g.pc = .ok (.instanceof index, 3)) :
    ∃ T', Sd n0 p l e R s m args below meth c T' h k n ∧ ∀ target, Steps p.tables e below (T'.setTop { g with pc := g.pc + 3, stack := .int 1 :: rest }) target → Steps p.tables e below (T.setTop g) target := by
  obtain ⟨L, X, N, q⟩ := X
  obtain ⟨T', X', e', st⟩ := Jvm.RoadKit.instY X hx hZ hown w q F hg hs hd
  exact ⟨T', ⟨L, X', N, e'⟩, st⟩
theorem Sd.instNull (X : Sd n0 p l e R s m args below meth c T h k n) (hx : p.tables.exec = Jvm.exec) {index : Nat} {g : JFrame} (hg : g.method = m) {rest : List Value} (hs : g.stack = .null :: rest) (hd : decode c.code g.pc = .ok (.instanceof index, 3)) :
    ∀ target, Steps p.tables e below (T.setTop { g with pc := g.pc + 3, stack := .int 0 :: rest }) target → Steps p.tables e below (T.setTop g) target := by
  obtain ⟨L, X, -⟩ := X; exact X.instanceofNull hx hg hs hd
theorem Sd.ldcInt (X : Sd n0 p l e R s m args below meth c T h k n) (hx : p.tables.exec = Jvm.exec) (hZ : Z.Warmed39 s.vm) {own : String} {index : Nat} {v : Int32} (hown : s.vm.findClass own = some m.cls) (w : (Cond.constant own index v).before a0 Z = true) {g : JFrame} (hg : g.method = m) (hd : decode c.code g.pc = .ok (.ldc index, 2)) :
    ∀ target, Steps p.tables e below (T.setTop { g with pc := g.pc + 2, stack := .int v :: g.stack }) target → Steps p.tables e below (T.setTop g) target := by
  obtain ⟨L, X, -⟩ := X; exact X.ldcInt hx hown (mvT hZ w) hg hd
theorem Sd.ldc2Long (X : Sd n0 p l e R s m args below meth c T h k n) (hx : p.tables.exec = Jvm.exec) (hZ : Z.Warmed39 s.vm) {own : String} {index : Nat} {v : Int64} (hown : s.vm.findClass own = some m.cls) (w : (Cond.constantLong own index v).before a0 Z = true) {g : JFrame} (hg : g.method = m) (hd : decode c.code g.pc = .ok (.ldc2_w index, 3)) :
    ∀ target, Steps p.tables e below (T.setTop { g with pc := g.pc + 3, stack := .long v :: g.stack }) target → Steps p.tables e below (T.setTop g) target := by
  obtain ⟨L, X, -⟩ := X; exact X.ldc2Long hx hown (mvT hZ w) hg hd
theorem Sd.acmp {g : JFrame} (X : Sd n0 p l e R s m args below meth c T h k n) (hx : p.tables.exec = Jvm.exec) (hg : g.method = m) {cd : ACond} {x y : Value} (h1 : x.isRef = true) (h2 : y.isRef = true) {rest : List Value} {o : Int} {pc0 pc' : Nat} {same : Bool} (hpc : g.pc = pc0)
    (hd : decode c.code g.pc = .ok (.if_acmp cd o, 3)) (hs : g.stack = y :: x :: rest) (hq : decide (x = y) = same) (ho : 0 ≤ (pc0 : Int) + o) (hp : pc' = if acV cd same = true then ((pc0 : Int) + o).toNat else pc0 + 3) :
    ∀ target, Steps p.tables e below (T.setTop { g with pc := pc', stack := rest }) target → Steps p.tables e below (T.setTop g) target := by
  obtain ⟨L, X, -⟩ := X; exact fun _ => Jvm.RoadKit.acmp X hx hg h1 h2 hpc hd hs hq ho hp
theorem Sd.getFR (X : Sd n0 p l e R s m args below meth c T h k n) (hx : p.tables.exec = Jvm.exec) (hZ : Z.Warmed39 s.vm) {own O nm d : String} {index : Nat} (hown : s.vm.findClass own = some m.cls) (w : (Cond.fieldRef own index O nm d).before a0 Z = true)
    {a : Addr} {v : Value} (F : Fld Z h a O nm d v) {g : JFrame} (hg : g.method = m) {rest : List Value} (hs : g.stack = .ref a :: rest) (hd : decode c.code g.pc = .ok (.getfield index, 3)) :
    ∀ target, Steps p.tables e below (T.setTop { g with pc := g.pc + 3, stack := v :: rest }) target → Steps p.tables e below (T.setTop g) target := by
  obtain ⟨L, X, N, q⟩ := X
  obtain ⟨cell, cf, kk, i, f, h1, h2, h3, h4, h5, h6, h7⟩ := F
  have hT : Z.Warmed39 T.vm := wtrans hZ X.warmed
  have w' := Cond.fieldRef_warmed39 hT w
  have hcur : (Z.setVm T.vm).vm.findClass own = some m.cls := by show T.vm.findClass own = _; rw [X.warmed.alike.findClass]; exact hown
  obtain ⟨c', k', i', f', e1, e2⟩ := Cond.fieldRef_spec hcur w'
  obtain ⟨k2, hi, -⟩ := State.fieldFound?_setVm (s := Z) hT.alike h2
  cases e1.symm.trans hi
  intro target hrest
  subst hg
  jvm_step X.here [hx, hd, getfield.wp_ready (e := e) (s := T) (f := g) X.here.top e2 h3 hs (by rw [q]; exact h1) h4 h7]
  exact hrest
/-! making -/
theorem Sd.newO (X : Sd n0 p l e R s m args below meth c T h k n) (hx : p.tables.exec = Jvm.exec) (hZ : Z.Warmed39 s.vm) {own C : String} {index sz k' n' : Nat} (hown : s.vm.findClass own = some m.cls) (w : (Cond.classLink own index C).before a0 Z = true) (wi : (Cond.instantiable C sz).before a0 Z = true) (wz : (Cond.initialized C).before a0 Z = true)
    {g : JFrame} (hg : g.method = m) (hd : decode c.code g.pc = .ok (.new index, 3)) (hk : k + 1 = k') (hn : n + sz = n') (hc : k' ≤ R.cells) (hl : n' ≤ R.slots) :
    ∃ T' h' a, Sd n0 p l e R s m args below meth c T' h' k' n' ∧ a = h.size ∧ Ext h h' ∧ Exa Z h' a C ∧ (∀ {O nm d : String} {ty : FieldType}, Laid Z a0 C O nm d → parseFieldDescriptor d = some ty → Fld Z h' a O nm d (defaultValue ty)) ∧
      ∀ target, Steps p.tables e below (T'.setTop { g with pc := g.pc + 3, stack := .ref a :: g.stack }) target → Steps p.tables e below (T.setTop g) target := by
  subst hk hn
  obtain ⟨L, X, N, q⟩ := X
  obtain ⟨T', h', X', e', E, A, D, -, st⟩ := Jvm.RoadKit.newO X hx hZ hown w wi wz q hg hd hc hl
  exact ⟨T', h', _, ⟨L, X', N, e'⟩, rfl, E, A, D, st⟩
theorem Sd.initO (X : Sd n0 p l e R s m args below meth c T h k n) (hx : p.tables.exec = Jvm.exec) (hZ : Z.Warmed39 s.vm) {own : String} {idx : Nat} (hown : s.vm.findClass own = some m.cls) (w1 : (Cond.methodLink own idx Lib.objectInit).before a0 Z = true) (w2 : (Cond.instanceMethod Lib.objectInit).before a0 Z = true)
    (w3 : (Cond.code Lib.objectInit ⟨#[0xb1]⟩ 1 none).before a0 Z = true) {g : JFrame} (hg : g.method = m) (hsize : g.locals.size = c.maxLocals) {a : Addr} {rest : List Value} (hs : g.stack = .ref a :: rest) (hd : decode c.code g.pc = .ok (.invokespecial idx, 3))
    (hf : 1 ≤ R.frames) (hl : 2 * g.monitorRoom + (rest.map fun v => v.category).sum + 12 ≤ R.locals) :
    ∃ T', Sd n0 p l e R s m args below meth c T' h k n ∧ ∀ target, Steps p.tables e below (T'.setTop { g with pc := g.pc + 3, stack := rest }) target → Steps p.tables e below (T.setTop g) target := by
  obtain ⟨L, X, N, q⟩ := X
  obtain ⟨T', X', e', st⟩ := Jvm.RoadKit.initO X hx hZ hown w1 w2 w3 q hg hsize hs hd hf (W := 2 * g.monitorRoom + (rest.map fun v => v.category).sum) (Nat.le_refl _) hl
  exact ⟨T', ⟨L, X', N, e'⟩, st⟩
/-- an array of n' places, place i holds f i -/
def Avf (Z : State) (h : Heap) (a : Addr) (kc : ClassId) (ty : FieldType) (sz : Nat) (f : Nat → Value) : Prop := ∃ cl : Cell, Arr Z h a cl ty ∧ cl.cls = kc ∧ cl.slots.size = sz ∧ sz < 2 ^ 31 ∧ ∀ i, i < sz → cl.slots[i]? = some (f i) ∧ fits ty (f i) = true
theorem Avf.lt {h : Heap} {a : Addr} {kc : ClassId} {ty : FieldType} {sz : Nat} {f : Nat → Value} (F : Avf Z h a kc ty sz f) : a < h.size := by obtain ⟨_, A, -⟩ := F; exact A.lt
theorem Avf.ext {h h' : Heap} {a : Addr} {kc : ClassId} {ty : FieldType} {sz : Nat} {f : Nat → Value} (F : Avf Z h a kc ty sz f) (E : Ext h h') : Avf Z h' a kc ty sz f := by obtain ⟨cl, A, r⟩ := F; exact ⟨cl, A.ext E, r⟩
theorem Avf.other {h h' : Heap} {a b : Addr} {kc : ClassId} {ty : FieldType} {sz sl : Nat} {f : Nat → Value} {v : Value} (F : Avf Z h b kc ty sz f) (W : Wr h h' a sl v) (q : b ≠ a) : Avf Z h' b kc ty sz f := by obtain ⟨cl, A, r⟩ := F; exact ⟨cl, A.other W q, r⟩
theorem Avf.keep {h h' : Heap} {a : Addr} {kc : ClassId} {ty : FieldType} {sz : Nat} {f : Nat → Value} {ws : List Addr} (F : Avf Z h a kc ty sz f) (K : Keep h h' ws) (q : a ∉ ws) : Avf Z h' a kc ty sz f := by obtain ⟨cl, A, r⟩ := F; exact ⟨cl, ⟨K.2.1 a cl A.1 q, A.2⟩, r⟩
theorem Avf.cong {h : Heap} {a : Addr} {kc : ClassId} {ty : FieldType} {sz : Nat} {f g : Nat → Value} (F : Avf Z h a kc ty sz f) (q : ∀ i, i < sz → f i = g i) : Avf Z h a kc ty sz g := by
  obtain ⟨cl, A, r1, r2, r3, r4⟩ := F; exact ⟨cl, A, r1, r2, r3, fun i hi => by rw [← q i hi]; exact r4 i hi⟩
theorem Avf.set {h h' : Heap} {a : Addr} {kc : ClassId} {ty : FieldType} {sz : Nat} {f : Nat → Value} {v : Value} {j : Nat} (F : Avf Z h a kc ty sz f) (W : Wr h h' a j v) (hv : fits ty v = true) : Avf Z h' a kc ty sz (fun i => if i = j then v else f i) := by
  obtain ⟨cl, A, r1, r2, r3, r4⟩ := F
  refine ⟨_, A.same W, r1, by rw [sz_set]; exact r2, r3, fun i hi => ?_⟩
  by_cases q : i = j
  · subst q; simp [Cell.setSlot, r2, hi, hv]
  · simp [Cell.setSlot, q, r4 i hi, Array.getElem?_setIfInBounds_ne (Ne.symm q)]
theorem Avf.of_arv {h : Heap} {a : Addr} {kc : ClassId} {ty : FieldType} {z : Int32} {vs : List Value} {dv : Value} (F : Arv Z h a kc ty z vs dv) : Avf Z h a kc ty z.toNatClampNeg (fun i => vs.getD i dv) := by
  obtain ⟨cl, A, r1, r2, r3, H, G⟩ := F
  exact ⟨cl, A, r1, r2, (back32 r3).2, fun i hi => ⟨H i (by rw [r2]; exact hi), G i (by rw [r2]; exact hi)⟩⟩
theorem Sd.newP (X : Sd n0 p l e R s m args below meth c T h k n) (hx : p.tables.exec = Jvm.exec) (hZ : Z.Warmed39 s.vm) {aty : ArrayType} (w : (Cond.arrayClass (newarray.typeOf aty)).before a0 Z = true) {g : JFrame} (hg : g.method = m) (hd : decode c.code g.pc = .ok (.newarray aty, 2)) {z : Int32} {rest : List Value} (hs : g.stack = .int z :: rest)
    (hz : ¬ z < 0) {sz cap k' n' : Nat} (hsz : z.toNatClampNeg = sz) (hcap : sz ≤ cap) (hb : cap * 8 ≤ 536870912) (hk : k + 1 = k') (hn : n + cap = n') (hc : k' ≤ R.cells) (hl : n' ≤ R.slots) {ad : String} (had : "[" ++ (newarray.typeOf aty).toString = ad) :
    ∃ T' h' kc a, Sd n0 p l e R s m args below meth c T' h' k' n' ∧ a = h.size ∧ Ext h h' ∧ Exa Z h' a ad ∧ Avf Z h' a kc (newarray.typeOf aty) sz (fun _ => defaultValue (newarray.typeOf aty)) ∧
      ∀ target, Steps p.tables e below (T'.setTop { g with pc := g.pc + 2, stack := .ref a :: rest }) target → Steps p.tables e below (T.setTop g) target := by
  subst hk hn hsz
  obtain ⟨L, X, N, q⟩ := X
  obtain ⟨T', h', kc, X', e', E, A, Ex, st⟩ := Jvm.RoadKit.newPE X hx hZ w q hg hd hs hz hcap hb hc hl had
  refine ⟨T', h', kc, _, ⟨L, X', N, e'⟩, rfl, E, Ex, ⟨_, A, rfl, sz_new _ _ _, (back32 hz).2, fun i hi => ⟨by simp [newA, hi], ?_⟩⟩, st⟩
  cases aty <;> rfl
theorem Sd.newR (X : Sd n0 p l e R s m args below meth c T h k n) (hx : p.tables.exec = Jvm.exec) (hZ : Z.Warmed39 s.vm) {own C : String} {index : Nat} (hown : s.vm.findClass own = some m.cls) (w1 : (Cond.classLink own index C).before a0 Z = true) (w2 : (Cond.arrayOver (.object C)).before a0 Z = true)
    {g : JFrame} (hg : g.method = m) (hd : decode c.code g.pc = .ok (.anewarray index, 3)) {z : Int32} {rest : List Value} (hs : g.stack = .int z :: rest)
    (hz : ¬ z < 0) {sz cap k' n' : Nat} (hsz : z.toNatClampNeg = sz) (hcap : sz ≤ cap) (hb : cap * 8 ≤ 536870912) (hk : k + 1 = k') (hn : n + cap = n') (hc : k' ≤ R.cells) (hl : n' ≤ R.slots) {ad : String} (had : "[" ++ (FieldType.object C).toString = ad) :
    ∃ T' h' kc a, Sd n0 p l e R s m args below meth c T' h' k' n' ∧ a = h.size ∧ Ext h h' ∧ Exa Z h' a ad ∧ Avf Z h' a kc (.object C) sz (fun _ => .null) ∧ Ovr Z kc C ∧
      ∀ target, Steps p.tables e below (T'.setTop { g with pc := g.pc + 3, stack := .ref a :: rest }) target → Steps p.tables e below (T.setTop g) target := by
  subst hk hn hsz
  obtain ⟨L, X, N, q⟩ := X
  obtain ⟨T', h', kc, X', e', E, A, Ex, O, st⟩ := Jvm.RoadKit.newRE X hx hZ hown w1 w2 q hg hd hs hz hcap hb hc hl had
  exact ⟨T', h', kc, _, ⟨L, X', N, e'⟩, rfl, E, Ex, ⟨_, A, rfl, sz_new _ _ _, (back32 hz).2, fun i hi => ⟨by simp [newA, hi, defaultValue], rfl⟩⟩, O, st⟩
theorem Sd.clone (X : Sd n0 p l e R s m args below meth c T h k n) (hx : p.tables.exec = Jvm.exec) (hZ : Z.Warmed39 s.vm) {own ad : String} {index : Nat} (hown : s.vm.findClass own = some m.cls)
    (w1 : (Cond.methodLink own index ⟨ad, "clone", "()Ljava/lang/Object;"⟩).before a0 Z = true) (w2 : (Cond.sameMethod ad "java/lang/Object" "clone" "()Ljava/lang/Object;").before a0 Z = true) (w3 : (Cond.native ⟨"java/lang/Object", "clone", "()Ljava/lang/Object;"⟩).before a0 Z = true)
    (w4 : (Cond.instanceMethod ⟨"java/lang/Object", "clone", "()Ljava/lang/Object;"⟩).before a0 Z = true) (w5 : (Cond.selects ad ⟨ad, "clone", "()Ljava/lang/Object;"⟩ ⟨"java/lang/Object", "clone", "()Ljava/lang/Object;"⟩).before a0 Z = true) (w6 : (Cond.castable ad "java/lang/Cloneable").before a0 Z = true)
    {a : Addr} {kc : ClassId} {ty : FieldType} {sz : Nat} {f : Nat → Value} (F : Avf Z h a kc ty sz f) (E : Exa Z h a ad) {g : JFrame} (hg : g.method = m) (hsize : g.locals.size = c.maxLocals) {rest : List Value} (hst : g.stack = .ref a :: rest) (hd : decode c.code g.pc = .ok (.invokevirtual index, 3))
    (hf : 1 ≤ R.frames) (hl : 2 * g.monitorRoom + (rest.map fun v => v.category).sum + 14 ≤ R.locals) {cap k' n' : Nat} (hcap : sz ≤ cap) (hk : k + 1 = k') (hn : n + cap = n') (hc : k' ≤ R.cells) (hs : n' ≤ R.slots) :
    ∃ T' h' b, Sd n0 p l e R s m args below meth c T' h' k' n' ∧ b = h.size ∧ Ext h h' ∧ Exa Z h' b ad ∧ Avf Z h' b kc ty sz f ∧ ∀ target, Steps p.tables e below (T'.setTop { g with pc := g.pc + 3, stack := .ref b :: rest }) target → Steps p.tables e below (T.setTop g) target := by
  subst hk hn
  obtain ⟨L, X, N, q⟩ := X
  obtain ⟨cl, A, r1, r2, r3, r4⟩ := F
  have FC : FitC Z cl := fitC_of A fun i hi v hv => by rw [(r4 i (r2 ▸ hi)).1] at hv; cases hv; exact (r4 i (r2 ▸ hi)).2
  obtain ⟨T', h', X', e', ex, A', E', st⟩ := cloneA X hx hZ hown w1 w2 w3 w4 w5 w6 q A E FC hg hsize hst hd hf (W := 2 * g.monitorRoom + (rest.map fun v => v.category).sum) (Nat.le_refl _) hl (by rw [r2]; exact hcap) hc hs
  exact ⟨T', h', _, ⟨L, X', N, e'⟩, rfl, ex, E', ⟨cloneOf cl, A', r1, r2, r3, r4⟩, st⟩
/-! arrays: length, load, store -/
theorem Sd.len (X : Sd n0 p l e R s m args below meth c T h k n) (hx : p.tables.exec = Jvm.exec) (hZ : Z.Warmed39 s.vm) {a : Addr} {kc : ClassId} {ty : FieldType} {sz : Nat} {f : Nat → Value} (F : Avf Z h a kc ty sz f) {z : Int32} (hz : sz.toInt32 = z)
    {g : JFrame} (hg : g.method = m) {rest : List Value} (hs : g.stack = .ref a :: rest) (hd : decode c.code g.pc = .ok (.arraylength, 1)) :
    ∀ target, Steps p.tables e below (T.setTop { g with pc := g.pc + 1, stack := .int z :: rest }) target → Steps p.tables e below (T.setTop g) target := by
  obtain ⟨L, X, -, q⟩ := X
  obtain ⟨cl, A, r1, r2, r3, r4⟩ := F
  intro t kt
  refine X.arraylength hx (by rw [q]; exact A.1) (State.isArrayOf_alike hZ.alike A.2.1) hg hs hd _ ?_
  rw [r2, hz]; exact kt
theorem inb {cl : Cell} {sz i : Nat} {j : Int32} (r2 : cl.slots.size = sz) (hj : ¬ j < 0) (hi : j.toNatClampNeg = i) (hlt : i < sz) : ¬ (j < 0 ∨ cl.slots.size ≤ j.toNatClampNeg) := fun q => q.elim hj fun q => by omega
theorem Sd.ldI (X : Sd n0 p l e R s m args below meth c T h k n) (hx : p.tables.exec = Jvm.exec) (hZ : Z.Warmed39 s.vm) {a : Addr} {kc : ClassId} {sz : Nat} {f : Nat → Value} (F : Avf Z h a kc .int sz f) {j : Int32} (hj : ¬ j < 0) {i : Nat} (hi : j.toNatClampNeg = i) (hlt : i < sz) {v : Value} (hv : f i = v)
    {g : JFrame} (hg : g.method = m) {rest : List Value} (hs : g.stack = .int j :: .ref a :: rest) (hd : decode c.code g.pc = .ok (.iaload, 1)) :
    ∀ target, Steps p.tables e below (T.setTop { g with pc := g.pc + 1, stack := v :: rest }) target → Steps p.tables e below (T.setTop g) target := by
  subst hv
  obtain ⟨L, X, -, q⟩ := X
  obtain ⟨cl, A, r1, r2, r3, r4⟩ := F
  exact X.iaload hx (by rw [q]; exact A.1) (State.isArrayOf_alike hZ.alike A.2.1) A.2.2 (inb r2 hj hi hlt) (by rw [hi]; exact (r4 i hlt).1) hg hs hd
theorem Sd.ldJ (X : Sd n0 p l e R s m args below meth c T h k n) (hx : p.tables.exec = Jvm.exec) (hZ : Z.Warmed39 s.vm) {a : Addr} {kc : ClassId} {sz : Nat} {f : Nat → Value} (F : Avf Z h a kc .long sz f) {j : Int32} (hj : ¬ j < 0) {i : Nat} (hi : j.toNatClampNeg = i) (hlt : i < sz) {v : Value} (hv : f i = v)
    {g : JFrame} (hg : g.method = m) {rest : List Value} (hs : g.stack = .int j :: .ref a :: rest) (hd : decode c.code g.pc = .ok (.laload, 1)) :
    ∀ target, Steps p.tables e below (T.setTop { g with pc := g.pc + 1, stack := v :: rest }) target → Steps p.tables e below (T.setTop g) target := by
  subst hv
  obtain ⟨L, X, -, q⟩ := X
  obtain ⟨cl, A, r1, r2, r3, r4⟩ := F
  exact X.laload hx (by rw [q]; exact A.1) (State.isArrayOf_alike hZ.alike A.2.1) A.2.2 (inb r2 hj hi hlt) (by rw [hi]; exact (r4 i hlt).1) hg hs hd
theorem Sd.ldC (X : Sd n0 p l e R s m args below meth c T h k n) (hx : p.tables.exec = Jvm.exec) (hZ : Z.Warmed39 s.vm) {a : Addr} {kc : ClassId} {sz : Nat} {f : Nat → Value} (F : Avf Z h a kc .char sz f) {j : Int32} (hj : ¬ j < 0) {i : Nat} (hi : j.toNatClampNeg = i) (hlt : i < sz) {v : Value} (hv : f i = v)
    {g : JFrame} (hg : g.method = m) {rest : List Value} (hs : g.stack = .int j :: .ref a :: rest) (hd : decode c.code g.pc = .ok (.caload, 1)) :
    ∀ target, Steps p.tables e below (T.setTop { g with pc := g.pc + 1, stack := v :: rest }) target → Steps p.tables e below (T.setTop g) target := by
  subst hv
  obtain ⟨L, X, -, q⟩ := X
  obtain ⟨cl, A, r1, r2, r3, r4⟩ := F
  exact X.caload hx (by rw [q]; exact A.1) (State.isArrayOf_alike hZ.alike A.2.1) A.2.2 (inb r2 hj hi hlt) (by rw [hi]; exact (r4 i hlt).1) hg hs hd
theorem Sd.ldB (X : Sd n0 p l e R s m args below meth c T h k n) (hx : p.tables.exec = Jvm.exec) (hZ : Z.Warmed39 s.vm) {a : Addr} {kc : ClassId} {sz : Nat} {f : Nat → Value} (F : Avf Z h a kc .byte sz f) {j : Int32} (hj : ¬ j < 0) {i : Nat} (hi : j.toNatClampNeg = i) (hlt : i < sz) {v : Value} (hv : f i = v)
    {g : JFrame} (hg : g.method = m) {rest : List Value} (hs : g.stack = .int j :: .ref a :: rest) (hd : decode c.code g.pc = .ok (.baload, 1)) :
    ∀ target, Steps p.tables e below (T.setTop { g with pc := g.pc + 1, stack := v :: rest }) target → Steps p.tables e below (T.setTop g) target := by
  subst hv
  obtain ⟨L, X, -, q⟩ := X
  obtain ⟨cl, A, r1, r2, r3, r4⟩ := F
  exact X.baloadBytes hx (by rw [q]; exact A.1) (State.isArrayOf_alike hZ.alike A.2.1) A.2.2 (inb r2 hj hi hlt) (by rw [hi]; exact (r4 i hlt).1) hg hs hd
theorem Sd.ldA (X : Sd n0 p l e R s m args below meth c T h k n) (hx : p.tables.exec = Jvm.exec) (hZ : Z.Warmed39 s.vm) {a : Addr} {kc : ClassId} {ty : FieldType} {sz : Nat} {f : Nat → Value} (F : Avf Z h a kc ty sz f) (hty : ty.isReference = true) {j : Int32} (hj : ¬ j < 0) {i : Nat} (hi : j.toNatClampNeg = i) (hlt : i < sz) {v : Value} (hv : f i = v)
    {g : JFrame} (hg : g.method = m) {rest : List Value} (hs : g.stack = .int j :: .ref a :: rest) (hd : decode c.code g.pc = .ok (.aaload, 1)) :
    ∀ target, Steps p.tables e below (T.setTop { g with pc := g.pc + 1, stack := v :: rest }) target → Steps p.tables e below (T.setTop g) target := by
  subst hv
  obtain ⟨L, X, -, q⟩ := X
  obtain ⟨cl, A, r1, r2, r3, r4⟩ := F
  exact X.aaload hx (by rw [q]; exact A.1) (State.isArrayOf_alike hZ.alike A.2.1) hty A.2.2 (inb r2 hj hi hlt) (by rw [hi]; exact (r4 i hlt).1) hg hs hd
theorem Sd.stI (X : Sd n0 p l e R s m args below meth c T h k n) (hx : p.tables.exec = Jvm.exec) (hZ : Z.Warmed39 s.vm) {a : Addr} {kc : ClassId} {sz : Nat} {f : Nat → Value} (F : Avf Z h a kc .int sz f) (ga : n0 ≤ a) {j x : Int32} (hj : ¬ j < 0) {i : Nat} (hi : j.toNatClampNeg = i) (hlt : i < sz)
    {g : JFrame} (hg : g.method = m) {rest : List Value} (hs : g.stack = .int x :: .int j :: .ref a :: rest) (hd : decode c.code g.pc = .ok (.iastore, 1)) :
    ∃ T' h', Sd n0 p l e R s m args below meth c T' h' k n ∧ Wr h h' a i (.int x) ∧ Avf Z h' a kc .int sz (fun t => if t = i then .int x else f t) ∧ ∀ target, Steps p.tables e below (T'.setTop { g with pc := g.pc + 1, stack := rest }) target → Steps p.tables e below (T.setTop g) target := by
  obtain ⟨L, X, N, q⟩ := X
  obtain ⟨cl, A, r1, r2, r3, r4⟩ := F
  obtain ⟨T', h', X', e', W, st⟩ := Jvm.RoadKit.stI X hx hZ q A (inb r2 hj hi hlt) hg hs hd
  subst hi
  exact ⟨T', h', ⟨_, X', Fr.snoc X' N ga, e'⟩, W, Avf.set ⟨cl, A, r1, r2, r3, r4⟩ W rfl, st⟩
theorem Sd.stJ (X : Sd n0 p l e R s m args below meth c T h k n) (hx : p.tables.exec = Jvm.exec) (hZ : Z.Warmed39 s.vm) {a : Addr} {kc : ClassId} {sz : Nat} {f : Nat → Value} (F : Avf Z h a kc .long sz f) (ga : n0 ≤ a) {j : Int32} {x : Int64} (hj : ¬ j < 0) {i : Nat} (hi : j.toNatClampNeg = i) (hlt : i < sz)
    {g : JFrame} (hg : g.method = m) {rest : List Value} (hs : g.stack = .long x :: .int j :: .ref a :: rest) (hd : decode c.code g.pc = .ok (.lastore, 1)) :
    ∃ T' h', Sd n0 p l e R s m args below meth c T' h' k n ∧ Wr h h' a i (.long x) ∧ Avf Z h' a kc .long sz (fun t => if t = i then .long x else f t) ∧ ∀ target, Steps p.tables e below (T'.setTop { g with pc := g.pc + 1, stack := rest }) target → Steps p.tables e below (T.setTop g) target := by
  obtain ⟨L, X, N, q⟩ := X
  obtain ⟨cl, A, r1, r2, r3, r4⟩ := F
  obtain ⟨T', h', X', e', W, st⟩ := Jvm.RoadKit.stJ X hx hZ q A (inb r2 hj hi hlt) hg hs hd
  subst hi
  exact ⟨T', h', ⟨_, X', Fr.snoc X' N ga, e'⟩, W, Avf.set ⟨cl, A, r1, r2, r3, r4⟩ W rfl, st⟩
theorem Sd.stB (X : Sd n0 p l e R s m args below meth c T h k n) (hx : p.tables.exec = Jvm.exec) (hZ : Z.Warmed39 s.vm) {a : Addr} {kc : ClassId} {sz : Nat} {f : Nat → Value} (F : Avf Z h a kc .byte sz f) (ga : n0 ≤ a) {j x : Int32} (hj : ¬ j < 0) {i : Nat} (hi : j.toNatClampNeg = i) (hlt : i < sz)
    {g : JFrame} (hg : g.method = m) {rest : List Value} (hs : g.stack = .int x :: .int j :: .ref a :: rest) (hd : decode c.code g.pc = .ok (.bastore, 1)) :
    ∃ T' h', Sd n0 p l e R s m args below meth c T' h' k n ∧ Wr h h' a i (.int x.toInt8.toInt32) ∧ Avf Z h' a kc .byte sz (fun t => if t = i then .int x.toInt8.toInt32 else f t) ∧ ∀ target, Steps p.tables e below (T'.setTop { g with pc := g.pc + 1, stack := rest }) target → Steps p.tables e below (T.setTop g) target := by
  obtain ⟨L, X, N, q⟩ := X
  obtain ⟨cl, A, r1, r2, r3, r4⟩ := F
  obtain ⟨T', h', X', e', W, st⟩ := Jvm.RoadKit.stB X hx hZ q A (inb r2 hj hi hlt) hg hs hd
  subst hi
  exact ⟨T', h', ⟨_, X', Fr.snoc X' N ga, e'⟩, W, Avf.set ⟨cl, A, r1, r2, r3, r4⟩ W (fits_nar_byte _), st⟩
theorem Sd.stC (X : Sd n0 p l e R s m args below meth c T h k n) (hx : p.tables.exec = Jvm.exec) (hZ : Z.Warmed39 s.vm) {a : Addr} {kc : ClassId} {sz : Nat} {f : Nat → Value} (F : Avf Z h a kc .char sz f) (ga : n0 ≤ a) {j x : Int32} (hj : ¬ j < 0) {i : Nat} (hi : j.toNatClampNeg = i) (hlt : i < sz)
    {g : JFrame} (hg : g.method = m) {rest : List Value} (hs : g.stack = .int x :: .int j :: .ref a :: rest) (hd : decode c.code g.pc = .ok (.castore, 1)) :
    ∃ T' h', Sd n0 p l e R s m args below meth c T' h' k n ∧ Wr h h' a i (.int (nar .char x)) ∧ Avf Z h' a kc .char sz (fun t => if t = i then .int (nar .char x) else f t) ∧ ∀ target, Steps p.tables e below (T'.setTop { g with pc := g.pc + 1, stack := rest }) target → Steps p.tables e below (T.setTop g) target := by
  obtain ⟨L, X, N, q⟩ := X
  obtain ⟨cl, A, r1, r2, r3, r4⟩ := F
  obtain ⟨T', h', X', e', W, st⟩ := Jvm.RoadKit.stC X hx hZ q A (inb r2 hj hi hlt) hg hs hd
  subst hi
  exact ⟨T', h', ⟨_, X', Fr.snoc X' N ga, e'⟩, W, Avf.set ⟨cl, A, r1, r2, r3, r4⟩ W (fits_nar_char _), st⟩
theorem Sd.newRA (X : Sd n0 p l e R s m args below meth c T h k n) (hx : p.tables.exec = Jvm.exec) (hZ : Z.Warmed39 s.vm) {own C : String} {ty : FieldType} {index : Nat} (hown : s.vm.findClass own = some m.cls) (hC : (FieldType.array ty).toString = C) (w1 : (Cond.classLink own index C).before a0 Z = true) (w2 : (Cond.arrayOver (.array ty)).before a0 Z = true)
    {g : JFrame} (hg : g.method = m) (hd : decode c.code g.pc = .ok (.anewarray index, 3)) {z : Int32} {rest : List Value} (hs : g.stack = .int z :: rest)
    (hz : ¬ z < 0) {sz cap k' n' : Nat} (hsz : z.toNatClampNeg = sz) (hcap : sz ≤ cap) (hb : cap * 8 ≤ 536870912) (hk : k + 1 = k') (hn : n + cap = n') (hc : k' ≤ R.cells) (hl : n' ≤ R.slots) {ad : String} (had : "[" ++ C = ad) :
    ∃ T' h' kc a, Sd n0 p l e R s m args below meth c T' h' k' n' ∧ a = h.size ∧ Ext h h' ∧ Exa Z h' a ad ∧ Avf Z h' a kc (.array ty) sz (fun _ => .null) ∧ OvrA Z kc ty C ∧
      ∀ target, Steps p.tables e below (T'.setTop { g with pc := g.pc + 3, stack := .ref a :: rest }) target → Steps p.tables e below (T.setTop g) target := by
  subst hk hn hsz
  obtain ⟨L, X, N, q⟩ := X
  obtain ⟨T', h', kc, X', e', E, A, Ex, O, st⟩ := Jvm.RoadKit.newRA X hx hZ hown hC w1 w2 q hg hd hs hz hcap hb hc hl had
  exact ⟨T', h', kc, _, ⟨L, X', N, e'⟩, rfl, E, Ex, ⟨_, A, rfl, sz_new _ _ _, (back32 hz).2, fun i hi => ⟨by simp [newA, hi, defaultValue], rfl⟩⟩, O, st⟩
theorem Sd.stR (X : Sd n0 p l e R s m args below meth c T h k n) (hx : p.tables.exec = Jvm.exec) (hZ : Z.Warmed39 s.vm) {a : Addr} {kc : ClassId} {ty : FieldType} {sz : Nat} {f : Nat → Value} (F : Avf Z h a kc ty sz f) (ga : n0 ≤ a) (hty : ty.isReference = true) {j : Int32} {v : Value} (hv : v.isRef = true) (St : Sto Z h a v) (hj : ¬ j < 0) {i : Nat} (hi : j.toNatClampNeg = i) (hlt : i < sz)
    {g : JFrame} (hg : g.method = m) {rest : List Value} (hs : g.stack = v :: .int j :: .ref a :: rest) (hd : decode c.code g.pc = .ok (.aastore, 1)) :
    ∃ T' h', Sd n0 p l e R s m args below meth c T' h' k n ∧ Wr h h' a i v ∧ Avf Z h' a kc ty sz (fun t => if t = i then v else f t) ∧ ∀ target, Steps p.tables e below (T'.setTop { g with pc := g.pc + 1, stack := rest }) target → Steps p.tables e below (T.setTop g) target := by
  obtain ⟨L, X, N, q⟩ := X
  obtain ⟨cl, A, r1, r2, r3, r4⟩ := F
  obtain ⟨T', h', X', e', W, st⟩ := Jvm.RoadKit.stR X hx hZ q A (inb r2 hj hi hlt) hty St hg hs hd
  subst hi
  have hf : fits ty v = true := by cases ty <;> first | (cases hty; done) | (cases v <;> first | rfl | (cases hv; done))
  exact ⟨T', h', ⟨_, X', Fr.snoc X' N ga, e'⟩, W, Avf.set ⟨cl, A, r1, r2, r3, r4⟩ W hf, st⟩
/-! calls -/
theorem Sd.callS (X : Sd n0 p l e R s m args below meth c T h k n) (hx : p.tables.exec = Jvm.exec) (hZ : Z.Warmed39 s.vm) {own : String} {index : Nat} {y : MethodName} {bytes : ByteArray} {maxL : Nat} {ret : Option FieldType} {rm : Room} {as' : Array Value} {Q : Option Value → Heap → Prop}
    (hown : s.vm.findClass own = some m.cls) (w1 : (Cond.methodLink own index y).before a0 Z = true) (w2 : (Cond.static y).before a0 Z = true) (w3 : (Cond.initialized y.cls).before a0 Z = true) (w4 : (Cond.code y bytes maxL ret).before a0 Z = true) (hy : y.cls ≠ "java/lang/invoke/MethodHandle" ∧ y.cls ≠ "java/lang/invoke/VarHandle")
    (hM : Met l Z n0 y bytes maxL ret [] rm as' h Q) {g : JFrame} (hg : g.method = m) (hsize : g.locals.size = c.maxLocals) {argsL rest : List Value} (hlen : ∀ sig, parseMethodDescriptor y.desc = some sig → argsL.length = sig.parameters.length)
    (hstack : g.stack = argsL.reverse ++ rest) (hd : decode c.code g.pc = .ok (.invokestatic index, 3)) (has : argsL.toArray = as') (hf : rm.frames + 1 ≤ R.frames) (hl : 2 * g.monitorRoom + (rest.map fun v => v.category).sum + (maxL + 11) + rm.locals ≤ R.locals)
    {k' n' : Nat} (hk : k + rm.cells = k') (hn : n + rm.slots = n') (hc : k' ≤ R.cells) (hs : n' ≤ R.slots) :
    ∃ v T' h', Sd n0 p l e R s m args below meth c T' h' k' n' ∧ Q v h' ∧ ∀ target, Steps p.tables e below (T'.setTop { g with pc := g.pc + 3, stack := v.toList ++ rest }) target → Steps p.tables e below (T.setTop g) target := by
  subst hk hn
  obtain ⟨L, X, N, q⟩ := X
  obtain ⟨v, _, ⟨T', L', k1, n1⟩, -, X', ⟨Lc, hQ, q1, q2, q3⟩, st⟩ := Jvm.LawKit.callS X hx (y := y) hown (mvT hZ w1) (mvT hZ w2) (mvT hZ w3) (mvT hZ w4) hy (backOf (Q := fun v h L => Q v h ∧ Fr n0 L) hM hZ w4 w3 hf hl) hg hsize hlen hstack (Nat.le_refl _) hd (fun _ _ => ⟨has, q, hc, hs⟩)
  dsimp only [Pt.U, Pt.locs, Pt.cells, Pt.slots] at X' q1 q2 q3 st hQ
  subst q1 q2 q3
  exact ⟨v, T', _, ⟨_, X', Fr.app N hQ.2, rfl⟩, hQ.1, st⟩
theorem Sd.callI (X : Sd n0 p l e R s m args below meth c T h k n) (hx : p.tables.exec = Jvm.exec) (hZ : Z.Warmed39 s.vm) {own : String} {index : Nat} {y : MethodName} {bytes : ByteArray} {maxL : Nat} {rm : Room} {as' : Array Value} {Q : Option Value → Heap → Prop} (hy1 : y.name = "<init>")
    (hown : s.vm.findClass own = some m.cls) (w1 : (Cond.methodLink own index y).before a0 Z = true) (w2 : (Cond.instanceMethod y).before a0 Z = true) (w3 : (Cond.initialized y.cls).before a0 Z = true) (w4 : (Cond.code y bytes maxL none).before a0 Z = true) (hy : y.cls ≠ "java/lang/invoke/MethodHandle" ∧ y.cls ≠ "java/lang/invoke/VarHandle")
    (hM : Met l Z n0 y bytes maxL none [] rm as' h Q) {g : JFrame} (hg : g.method = m) (hsize : g.locals.size = c.maxLocals) {a : Addr} {argsL rest : List Value} (hlen : ∀ sig, parseMethodDescriptor y.desc = some sig → argsL.length = sig.parameters.length)
    (hstack : g.stack = argsL.reverse ++ .ref a :: rest) (hd : decode c.code g.pc = .ok (.invokespecial index, 3)) (has : (.ref a :: argsL).toArray = as') (hf : rm.frames + 1 ≤ R.frames) (hl : 2 * g.monitorRoom + (rest.map fun v => v.category).sum + (maxL + 11) + rm.locals ≤ R.locals)
    {k' n' : Nat} (hk : k + rm.cells = k') (hn : n + rm.slots = n') (hc : k' ≤ R.cells) (hs : n' ≤ R.slots) :
    ∃ v T' h', Sd n0 p l e R s m args below meth c T' h' k' n' ∧ Q v h' ∧ ∀ target, Steps p.tables e below (T'.setTop { g with pc := g.pc + 3, stack := v.toList ++ rest }) target → Steps p.tables e below (T.setTop g) target := by
  subst hk hn
  obtain ⟨L, X, N, q⟩ := X
  obtain ⟨v, _, ⟨T', L', k1, n1⟩, -, X', ⟨Lc, hQ, q1, q2, q3⟩, st⟩ := X.specialBack hx (y := y) hy1 hown (mvT hZ w1) (mvT hZ w2) (mvT hZ w4) hy (backOf (Q := fun v h L => Q v h ∧ Fr n0 L) hM hZ w4 w3 hf hl) hg hsize (Steps.refl _) hlen hstack (Nat.le_refl _) hd (fun _ _ => ⟨has, q, hc, hs⟩)
  dsimp only [Pt.U, Pt.locs, Pt.cells, Pt.slots] at X' q1 q2 q3 st hQ
  subst q1 q2 q3
  exact ⟨v, T', _, ⟨_, X', Fr.app N hQ.2, rfl⟩, hQ.1, fun _ kt => st.trans kt⟩
theorem Sd.callV (X : Sd n0 p l e R s m args below meth c T h k n) (hx : p.tables.exec = Jvm.exec) (hZ : Z.Warmed39 s.vm) {own C : String} {index : Nat} {y z : MethodName} {bytes : ByteArray} {maxL : Nat} {ret : Option FieldType} {rm : Room} {as' : Array Value} {Q : Option Value → Heap → Prop}
    (hown : s.vm.findClass own = some m.cls) (w1 : (Cond.methodLink own index y).before a0 Z = true) (w2 : (Cond.declares y).before a0 Z = true) (hnf : NotFace s y) (w5 : (Cond.selects C y z).before a0 Z = true) (w6 : (Cond.instanceMethod z).before a0 Z = true) (w3 : (Cond.initialized z.cls).before a0 Z = true) (w4 : (Cond.code z bytes maxL ret).before a0 Z = true) (hy : y.cls ≠ "java/lang/invoke/MethodHandle" ∧ y.cls ≠ "java/lang/invoke/VarHandle")
    (hM : Met l Z n0 z bytes maxL ret [] rm as' h Q) {a : Addr} (E : Exa Z h a C) {g : JFrame} (hg : g.method = m) (hsize : g.locals.size = c.maxLocals) {argsL rest : List Value} (hlen : ∀ sig, parseMethodDescriptor y.desc = some sig → argsL.length = sig.parameters.length)
    (hstack : g.stack = argsL.reverse ++ .ref a :: rest) (hd : decode c.code g.pc = .ok (.invokevirtual index, 3)) (has : (.ref a :: argsL).toArray = as') (hf : rm.frames + 1 ≤ R.frames) (hl : 2 * g.monitorRoom + (rest.map fun v => v.category).sum + (maxL + 11) + rm.locals ≤ R.locals)
    {k' n' : Nat} (hk : k + rm.cells = k') (hn : n + rm.slots = n') (hc : k' ≤ R.cells) (hs : n' ≤ R.slots) :
    ∃ v T' h', Sd n0 p l e R s m args below meth c T' h' k' n' ∧ Q v h' ∧ ∀ target, Steps p.tables e below (T'.setTop { g with pc := g.pc + 3, stack := v.toList ++ rest }) target → Steps p.tables e below (T.setTop g) target := by
  subst hk hn
  obtain ⟨L, X, N, q⟩ := X
  obtain ⟨cB, kB, b1, b2, b3⟩ := isOf (T := T) hZ q E
  obtain ⟨v, _, ⟨T', L', k1, n1⟩, -, X', ⟨Lc, hQ, q1, q2, q3⟩, st⟩ := X.virtualBack hx (y := y) (z := z) hown (mvT hZ w1) (mvT hZ w2) hnf (mvT hZ w5) (mvT hZ w6) hy (backOf (Q := fun v h L => Q v h ∧ Fr n0 L) hM hZ w4 w3 hf hl) b1 b3 hg hsize (Steps.refl _) hlen hstack (Nat.le_refl _) hd (fun _ _ => ⟨has, q, hc, hs⟩)
  dsimp only [Pt.U, Pt.locs, Pt.cells, Pt.slots] at X' q1 q2 q3 st hQ
  subst q1 q2 q3
  exact ⟨v, T', _, ⟨_, X', Fr.app N hQ.2, rfl⟩, hQ.1, fun _ kt => st.trans kt⟩
theorem Sd.callP (X : Sd n0 p l e R s m args below meth c T h k n) (hx : p.tables.exec = Jvm.exec) (hZ : Z.Warmed39 s.vm) {own C : String} {index : Nat} {y : MethodName} {bytes : ByteArray} {maxL : Nat} {ret : Option FieldType} {rm : Room} {as' : Array Value} {Q : Option Value → Heap → Prop}
    (hown : s.vm.findClass own = some m.cls) (w1 : (Cond.methodLink own index y).before a0 Z = true) (w6 : (Cond.instanceMethod y).before a0 Z = true) (w5 : (Cond.selects y.cls y y).before a0 Z = true) (w7 : (Cond.privateMethod y).before a0 Z = true) (w3 : (Cond.initialized y.cls).before a0 Z = true) (w4 : (Cond.code y bytes maxL ret).before a0 Z = true) (hy : y.cls ≠ "java/lang/invoke/MethodHandle" ∧ y.cls ≠ "java/lang/invoke/VarHandle")
    (hM : Met l Z n0 y bytes maxL ret [] rm as' h Q) {a : Addr} (E : Exa Z h a C) {g : JFrame} (hg : g.method = m) (hsize : g.locals.size = c.maxLocals) {argsL rest : List Value} (hlen : ∀ sig, parseMethodDescriptor y.desc = some sig → argsL.length = sig.parameters.length)
    (hstack : g.stack = argsL.reverse ++ .ref a :: rest) (hd : decode c.code g.pc = .ok (.invokevirtual index, 3)) (has : (.ref a :: argsL).toArray = as') (hf : rm.frames + 1 ≤ R.frames) (hl : 2 * g.monitorRoom + (rest.map fun v => v.category).sum + (maxL + 11) + rm.locals ≤ R.locals)
    {k' n' : Nat} (hk : k + rm.cells = k') (hn : n + rm.slots = n') (hc : k' ≤ R.cells) (hs : n' ≤ R.slots) :
    ∃ v T' h', Sd n0 p l e R s m args below meth c T' h' k' n' ∧ Q v h' ∧ ∀ target, Steps p.tables e below (T'.setTop { g with pc := g.pc + 3, stack := v.toList ++ rest }) target → Steps p.tables e below (T.setTop g) target := by
  subst hk hn
  obtain ⟨L, X, N, q⟩ := X
  obtain ⟨cl, b1, b2⟩ := E.cell
  obtain ⟨v, _, ⟨T', L', k1, n1⟩, -, X', ⟨Lc, hQ, q1, q2, q3⟩, st⟩ := X.privateBack hx (y := y) hown (mvT hZ w1) (mvT hZ w6) (mvT hZ w5) (Cond.privateMethod_at (mvP hZ w7 (args := #[]))) (mvT hZ w4) hy (backOf (Q := fun v h L => Q v h ∧ Fr n0 L) hM hZ w4 w3 hf hl) hg hsize (Steps.refl _) (a := a) (by rw [q]; exact b1) b2 hlen hstack (Nat.le_refl _) hd (fun _ _ => ⟨has, q, hc, hs⟩)
  dsimp only [Pt.U, Pt.locs, Pt.cells, Pt.slots] at X' q1 q2 q3 st hQ
  subst q1 q2 q3
  exact ⟨v, T', _, ⟨_, X', Fr.app N hQ.2, rfl⟩, hQ.1, fun _ kt => st.trans kt⟩
theorem Sd.callU (X : Sd n0 p l e R s m args below meth c T h k n) (hx : p.tables.exec = Jvm.exec) (hZ : Z.Warmed39 s.vm) {own C owner : String} {index : Nat} {y z : MethodName} {bytes : ByteArray} {maxL : Nat} {ret : Option FieldType} {rm : Room} {as' : Array Value} {Q : Option Value → Heap → Prop}
    (hown : s.vm.findClass own = some m.cls) (w1 : (Cond.methodLink own index y).before a0 Z = true) (w2 : (Cond.sameMethod y.cls owner y.name y.desc).before a0 Z = true) (w7 : (Cond.declares ⟨owner, y.name, y.desc⟩).before a0 Z = true) (ho : owner ≠ "java/lang/invoke/MethodHandle" ∧ owner ≠ "java/lang/invoke/VarHandle") (w5 : (Cond.selects C y z).before a0 Z = true) (w6 : (Cond.instanceMethod z).before a0 Z = true) (w3 : (Cond.initialized z.cls).before a0 Z = true) (w4 : (Cond.code z bytes maxL ret).before a0 Z = true)
    (hM : Met l Z n0 z bytes maxL ret [] rm as' h Q) {a : Addr} (E : Exa Z h a C) {g : JFrame} (hg : g.method = m) (hsize : g.locals.size = c.maxLocals) {argsL rest : List Value} (hlen : ∀ sig, parseMethodDescriptor y.desc = some sig → argsL.length = sig.parameters.length)
    (hstack : g.stack = argsL.reverse ++ .ref a :: rest) (hd : decode c.code g.pc = .ok (.invokevirtual index, 3)) (has : (.ref a :: argsL).toArray = as') (hf : rm.frames + 1 ≤ R.frames) (hl : 2 * g.monitorRoom + (rest.map fun v => v.category).sum + (maxL + 11) + rm.locals ≤ R.locals)
    {k' n' : Nat} (hk : k + rm.cells = k') (hn : n + rm.slots = n') (hc : k' ≤ R.cells) (hs : n' ≤ R.slots) :
    ∃ v T' h', Sd n0 p l e R s m args below meth c T' h' k' n' ∧ Q v h' ∧ ∀ target, Steps p.tables e below (T'.setTop { g with pc := g.pc + 3, stack := v.toList ++ rest }) target → Steps p.tables e below (T.setTop g) target := by
  subst hk hn
  obtain ⟨L, X, N, q⟩ := X
  obtain ⟨cB, kB, b1, b2, b3⟩ := isOf (T := T) hZ q E
  obtain ⟨v, _, ⟨T', L', k1, n1⟩, -, X', ⟨Lc, hQ, q1, q2, q3⟩, st⟩ := X.virtualBackUp hx (x := y) (y := z) hown (mvT hZ w1) (mvT hZ w2) (mvT hZ w7) ho (mvT hZ w5) (mvT hZ w6) (backOf (Q := fun v h L => Q v h ∧ Fr n0 L) hM hZ w4 w3 hf hl) b1 b3 hg hsize (Steps.refl _) hlen hstack (Nat.le_refl _) hd (fun _ _ => ⟨has, q, hc, hs⟩)
  dsimp only [Pt.U, Pt.locs, Pt.cells, Pt.slots] at X' q1 q2 q3 st hQ
  subst q1 q2 q3
  exact ⟨v, T', _, ⟨_, X', Fr.app N hQ.2, rfl⟩, hQ.1, fun _ kt => st.trans kt⟩
theorem Sd.instNo (X : Sd n0 p l e R s m args below meth c T h k n) (hx : p.tables.exec = Jvm.exec) (hZ : Z.Warmed39 s.vm) {own K C : String} {index : Nat} (hown : s.vm.findClass own = some m.cls) (w : (Cond.classLink own index K).before a0 Z = true) {a : Addr} (E : Exa Z h a C) (F : ∃ c t, Z.vm.findClass C = some c ∧ Z.vm.findClass K = some t ∧ Z.vm.assignable c t = false)
    {g : JFrame} (hg : g.method = m) {rest : List Value} (hs : g.stack = .ref a :: rest) (hd : decode c.code g.pc = .ok (.instanceof index, 3)) :
    ∃ T', Sd n0 p l e R s m args below meth c T' h k n ∧ ∀ target, Steps p.tables e below (T'.setTop { g with pc := g.pc + 3, stack := .int 0 :: rest }) target → Steps p.tables e below (T.setTop g) target := by
  obtain ⟨L, X, N, q⟩ := X
  obtain ⟨T', X', e', st⟩ := Jvm.RoadKit.instNo X hx hZ hown w q E F hg hs hd
  exact ⟨T', ⟨L, X', N, e'⟩, st⟩
theorem ns_root {O K : String} {kk : Nat} (w : (Cond.noSuperclass O).before a0 Z = true) (wk : (Cond.instantiable K kk).before a0 Z = true) (hn : O ≠ K) : NS Z O K := by
  obtain ⟨c, k, h1, h2, h3, -, -⟩ := Cond.noSuperclass_spec w
  obtain ⟨t, k2, g1, -⟩ := Cond.instantiable_spec wk
  have ne := ids_ne h1 g1 hn
  refine ⟨c, t, h1, g1, fun fuel => ?_⟩
  cases fuel with
  | zero => rfl
  | succ f => simp [Vm.isSubclassAux, ne, h2, h3]
theorem ns_no {C K : String} {k1 k2 : Nat} (w : (Cond.instantiable C k1).before a0 Z = true) (wk : (Cond.instantiable K k2).before a0 Z = true) (n : NS Z C K) (hn : C ≠ K) : ∃ c t, Z.vm.findClass C = some c ∧ Z.vm.findClass K = some t ∧ Z.vm.assignable c t = false := by
  obtain ⟨c, t, h0, g0, n3⟩ := n
  obtain ⟨c', kc, h1, h2, h3, h4, -⟩ := Cond.instantiable_spec w
  obtain ⟨t', kt, g1, g2, g3, g4, -⟩ := Cond.instantiable_spec wk
  cases h0.symm.trans h1
  cases g0.symm.trans g1
  have ne := ids_ne h0 g0 hn
  refine ⟨c, t, h0, g0, ?_⟩
  have g5 : kt.isInterface = false := by simp at g4; exact g4.1
  show Z.vm.assignableAux (255 + 1) c t = false
  simp [Vm.assignableAux, ne, h2, g2, h3, g3, g5, Vm.isSubclass, n3]
theorem keep_ext {h h' : Heap} (K : Keep h h' []) : Ext h h' := ⟨K.1, fun x c q => K.2.1 x c q nin0⟩
theorem Exa.plain {h : Heap} {a : Addr} {C : String} (F : Exa Z h a C) : ∀ cell : Cell, h[a]? = some cell → cell.vm.isStatics = false := fun cell hc => by
  obtain ⟨c, k, h1, -, -, h4, -⟩ := F
  cases h1.symm.trans hc; exact h4
theorem Avf.plain {h : Heap} {a : Addr} {kc : ClassId} {ty : FieldType} {sz : Nat} {f : Nat → Value} (F : Avf Z h a kc ty sz f) : ∀ cell : Cell, h[a]? = some cell → cell.vm.isStatics = false := fun cell hc => by
  obtain ⟨cl, A, -⟩ := F
  cases A.1.symm.trans hc; exact Arr.plain A
theorem Sta.keepN {h h' : Heap} {C f d : String} {v : Value} {ws : List Addr} (F : Sta Z h C f d v) (K : Keep h h' ws) (q : ∀ x ∈ ws, ∀ cell : Cell, h[x]? = some cell → cell.vm.isStatics = false) : Sta Z h' C f d v := by
  obtain ⟨cf, i, k, fl, st, cell, h1, h2, h3, h4, h5, h6, h7⟩ := F
  exact ⟨cf, i, k, fl, st, cell, h1, h2, h3, h4, K.2.1 st cell h5 (fun z => by rw [q st z cell h5] at h6; cases h6), h6, h7⟩
/-! at the start -/
theorem sta_exa {args : Array Value} {C f d K : String} (hx : (Cond.exactly (.static C f d) K).value args Z none Z [] = some true) (wi : (Cond.initialized C).before args Z = true) (wl : (Cond.laysStatic C f d).before args Z = true) : ∃ a, (Term.static C f d).eval args Z none [] Z = some (.ref a) ∧ Sta Z Z.heap C f d (.ref a) ∧ Exa Z Z.heap a K := by
  obtain ⟨a, ev⟩ := exa_v hx
  exact ⟨a, ev, Sta.start ev (Or.inr ⟨wi, wl⟩), Exa.start ev hx⟩
theorem sta_arr {args : Array Value} {C f d : String} {ty : FieldType} (hx : (Cond.arrayOf (.static C f d) ty).value args Z none Z [] = some true) (wi : (Cond.initialized C).before args Z = true) (wl : (Cond.laysStatic C f d).before args Z = true) : ∃ a cl, (Term.static C f d).eval args Z none [] Z = some (.ref a) ∧ Sta Z Z.heap C f d (.ref a) ∧ Arr Z Z.heap a cl ty := by
  obtain ⟨a, ev⟩ := arr_v hx
  obtain ⟨cl, A⟩ := Arr.start ev hx
  exact ⟨a, cl, ev, Sta.start ev (Or.inr ⟨wi, wl⟩), A⟩
theorem int_of_eq {args : Array Value} {t : Term} {kk : Int32} (h : (Cond.eq t (.int kk)).value args Z none Z [] = some true) : t.eval args Z none [] Z = some (.int kk) := by
  obtain ⟨x, y, h1, h2, k1, k2⟩ := cmp_v (Or.inl h)
  cases (Option.some.inj h2 : Value.int kk = y)
  obtain ⟨z, rfl⟩ : ∃ z, x = .int z := k2
  have q : z = kk := by simpa [Cond.value, h1, Term.eval] using h
  rw [h1, q]
theorem fld_eq {args : Array Value} {t : Term} {C f d : String} {a : Addr} {kk : Int32} (ht : t.eval args Z none [] Z = some (.ref a)) (h : (Cond.eq (.field t C f d) (.int kk)).value args Z none Z [] = some true) : Fld Z Z.heap a C f d (.int kk) :=
  Fld.start ((fld_at ht).symm.trans (int_of_eq h))
theorem ref_of_eq {args : Array Value} {t u : Term} {a : Addr} (hu : u.eval args Z none [] Z = some (.ref a)) (h : (Cond.eq t u).value args Z none Z [] = some true) : t.eval args Z none [] Z = some (.ref a) := by
  obtain ⟨x, y, h1, h2, k1, k2⟩ := cmp_v (Or.inl h)
  cases (Option.some.inj (hu.symm.trans h2) : Value.ref a = y)
  have kx : x.isRef = true := k2.2
  rw [h1, gotT (eq_R h1 hu kx rfl) h]
theorem avf_len {args : Array Value} {t : Term} {a : Addr} {cl : Cell} {ty : FieldType} {z : Int32} {sz : Nat} (A : Arr Z Z.heap a cl ty) (ev : t.eval args Z none [] Z = some (.ref a)) (h : (Term.length t).eval args Z none [] Z = some (.int z)) (hz : z.toNatClampNeg = sz) : cl.slots.size = sz := by
  have ha : Z.arrayAt? a = some cl := A.fin (Vm.Alike.refl _)
  simp only [Term.eval, ev, ha, Option.bind_eq_bind, Option.bind_some] at h
  split at h
  · rename_i hl
    have e : cl.slots.size.toInt32 = z := by simpa using h
    rw [← hz, ← e]
    have q := len_toInt hl
    simp only [Int32.toNatClampNeg, q]; omega
  · cases h
theorem iremS {g : JFrame} {target : State} (X : Sd n0 p l e R s m args below meth c T h k n) (hx : p.tables.exec = Jvm.exec) (hg : g.method = m) {x y : Int32} {rest : List Value} (hd : decode c.code g.pc = .ok (.irem, 1)) (hs : g.stack = .int y :: .int x :: rest) (hy : y ≠ 0)
    (hr : Steps p.tables e below (T.setTop { g with pc := g.pc + 1, stack := .int (x % y) :: rest }) target) : Steps p.tables e below (T.setTop g) target := by
  obtain ⟨L, X, -⟩ := X; exact iremM X hx hg hd hs hy hr
end Sds
end Jvm.RoadKit
namespace Jvm.Pilot.@@N@@
open Jvm Jvm.ClassFile Sem Op Lib Jvm.Free Jvm.Stand Jvm.LawKit Jvm.RoadKit Bundle Jvm.Pilot.@@N@@.Jvm.D
theorem tw {a0 : Array Value} {Z : State} (hw : ∀ d ∈ tables_1, d.before a0 Z = true) (i : Nat) {d : Jvm.Cond} (h : tables_1[i]? = some d) : d.before a0 Z = true := hw _ (List.mem_of_getElem? h)
theorem own_nn (x : Int64) : ¬ (x &&& 9223372036854775807) < 0 := by
  have q := c_maskL x 9223372036854775807 63 (by decide) (by decide)
  rw [Int64.lt_iff_toInt_lt, q]
  have : (0 : Int64).toInt = 0 := rfl
  rw [this]
  exact Int.not_lt.mpr (Int.emod_nonneg _ (by decide))
theorem own_u (y : Int64) : ((0 : Int64) + (-9223372036854775808) < y + (-9223372036854775808)) ↔ ¬ y = 0 := by
  have h1 := c_ladd y (-9223372036854775808)
  have h2 := rng64 (y + (-9223372036854775808))
  have h3 := rng64 y
  have h4 : ((0 : Int64) + (-9223372036854775808)).toInt = -9223372036854775808 := by decide
  have h5 : (-9223372036854775808 : Int64).toInt = -9223372036854775808 := by decide
  rw [Int64.lt_iff_toInt_lt, ← Int64.toInt_inj, h4]
  have h6 : (0 : Int64).toInt = 0 := rfl
  rw [h5] at h1
  rw [h6]
  omega
theorem own_or (x y : Int64) : x ||| y = 0 ↔ x = 0 ∧ y = 0 := by
  rw [← Int64.toBitVec_inj, Int64.toBitVec_or, ← Int64.toBitVec_inj, ← Int64.toBitVec_inj]
  exact BitVec.or_eq_zero_iff
theorem d1_0 : decode prog_7_method_1_code 0 = .ok (.aload_n 0, 1) := by decide +kernel
theorem d1_1 : decode prog_7_method_1_code 1 = .ok (.invokespecial 1, 3) := by decide +kernel
theorem d1_4 : decode prog_7_method_1_code 4 = .ok (.return_, 1) := by decide +kernel
abbrev Rm1 : Room := { frames := 1, cells := 0, slots := 0, locals := 12 }
theorem pn0 : plainName "com/example/spotline/spotline/decimal/Amount" = true := by first | (simp [plainName, overriddenIn]; done) | decide +kernel
set_option maxRecDepth 65536 in
set_option maxHeartbeats 40000000 in
theorem rm1 (l : Launch) (Z : State) (a0 : Array Value) (hw : ∀ d ∈ tables_1, d.before a0 Z = true) (ws : List Jvm.Cond) (a1 : Addr) (h0 : Heap) (n0 : Nat) (Z0 : n0 ≤ h0.size) :
    Met l Z n0 (⟨"com/example/spotline/spotline/decimal/Amount", "<init>", "()V"⟩ : MethodName) prog_7_method_1_code 1 none ws Rm1 #[(.ref a1)] h0 (fun v h => v = none ∧ h0 = h) := by
  refine enter (Ls := #[.val (.ref a1)]) (plainFor_of_name pn0) (fun m => by first | rfl | (simp [entryFrame, mkF, argsToLocals, Value.category]; done)) ?_
  intro p e s m below meth c T0 hx hby hml hown hnm hret hlk hZ X0
  show Go p.tables e below _ (T0.setTop (mkF m 0 #[.val (.ref a1)] []))
  refine Go.by (fun _ => XS.aloadN X0.here hx rfl (hb hby d1_0) rfl rfl) ?_
  show Go p.tables e below _ (T0.setTop (mkF m 1 #[.val (.ref a1)] [(.ref a1)]))
  obtain ⟨T1, X1, st1⟩ := X0.initO hx hZ hown (tw hw 7 rfl) (tw hw 8 rfl) (tw hw 9 rfl) (g := (mkF m 1 #[.val (.ref a1)] [(.ref a1)])) rfl (by rw [hml]; rfl) rfl (hb hby d1_1) (by decide) (Nat.le_of_ble_eq_true rfl)
  refine Go.by st1 ?_
  show Go p.tables e below _ (T1.setTop (mkF m 4 #[.val (.ref a1)] []))
  exact Go.ret0 X1 hx hlk hret (hb hby d1_4) (by decide) (by decide) ⟨rfl, rfl⟩
theorem d3_0 : decode prog_7_method_9_code 0 = .ok (.aload_n 0, 1) := by decide +kernel
theorem d3_1 : decode prog_7_method_9_code 1 = .ok (.getfield 55, 3) := by decide +kernel
theorem d3_4 : decode prog_7_method_9_code 4 = .ok (.lconst 0, 1) := by decide +kernel
theorem d3_5 : decode prog_7_method_9_code 5 = .ok (.lcmp, 1) := by decide +kernel
theorem d3_6 : decode prog_7_method_9_code 6 = .ok (.ifCond .ne 16, 3) := by decide +kernel
theorem d3_9 : decode prog_7_method_9_code 9 = .ok (.aload_n 0, 1) := by decide +kernel
theorem d3_10 : decode prog_7_method_9_code 10 = .ok (.getfield 59, 3) := by decide +kernel
theorem d3_13 : decode prog_7_method_9_code 13 = .ok (.lconst 0, 1) := by decide +kernel
theorem d3_14 : decode prog_7_method_9_code 14 = .ok (.lcmp, 1) := by decide +kernel
theorem d3_15 : decode prog_7_method_9_code 15 = .ok (.ifCond .ne 7, 3) := by decide +kernel
theorem d3_18 : decode prog_7_method_9_code 18 = .ok (.iconst 1, 1) := by decide +kernel
theorem d3_19 : decode prog_7_method_9_code 19 = .ok (.goto 4, 3) := by decide +kernel
theorem d3_23 : decode prog_7_method_9_code 23 = .ok (.ireturn, 1) := by decide +kernel
theorem d3_22 : decode prog_7_method_9_code 22 = .ok (.iconst 0, 1) := by decide +kernel
abbrev Rm3 : Room := { frames := 0, cells := 0, slots := 0, locals := 0 }
set_option maxRecDepth 65536 in
set_option maxHeartbeats 40000000 in
theorem rm3 (l : Launch) (Z : State) (a0 : Array Value) (hw : ∀ d ∈ tables_1, d.before a0 Z = true) (ws : List Jvm.Cond) (a1 : Addr) (q2 q3 : Int64) (h0 : Heap) (n0 : Nat) (Z0 : n0 ≤ h0.size) (Fh_a1 : Fld Z h0 a1 "com/example/spotline/spotline/decimal/Amount" "high" "J" (.long q2)) (Fl_a1 : Fld Z h0 a1 "com/example/spotline/spotline/decimal/Amount" "low" "J" (.long q3)) :
    Met l Z n0 (⟨"com/example/spotline/spotline/decimal/Amount", "isZero", "()Z"⟩ : MethodName) prog_7_method_9_code 1 (some .boolean) ws Rm3 #[(.ref a1)] h0 (fun v h => (((q2 = 0 ∧ q3 = 0) ∧ v = some (.int 1)) ∨ (¬ (q2 = 0 ∧ q3 = 0) ∧ v = some (.int 0))) ∧ h0 = h) := by
  refine enter (Ls := #[.val (.ref a1)]) (plainFor_of_name pn0) (fun m => by first | rfl | (simp [entryFrame, mkF, argsToLocals, Value.category]; done)) ?_
  intro p e s m below meth c T0 hx hby hml hown hnm hret hlk hZ X0
  show Go p.tables e below _ (T0.setTop (mkF m 0 #[.val (.ref a1)] []))
  refine Go.by (fun _ => XS.aloadN X0.here hx rfl (hb hby d3_0) rfl rfl) ?_
  show Go p.tables e below _ (T0.setTop (mkF m 1 #[.val (.ref a1)] [(.ref a1)]))
  obtain ⟨T1, X1, st1⟩ := X0.getF hx hZ hown (host := "") (Or.inl (tw hw 15 rfl)) Via.refl Fh_a1 (g := (mkF m 1 #[.val (.ref a1)] [(.ref a1)])) rfl rfl (hb hby d3_1)
  refine Go.by st1 ?_
  show Go p.tables e below _ (T1.setTop (mkF m 4 #[.val (.ref a1)] [(.long q2)]))
  refine Go.by (fun _ => XS.lconst X1.here hx rfl (hb hby d3_4)) ?_
  show Go p.tables e below _ (T1.setTop (mkF m 5 #[.val (.ref a1)] [(.long (0 : Int64)), (.long q2)]))
  refine Go.by (fun _ => XS.lcmp X1.here hx rfl (hb hby d3_5) rfl) ?_
  show Go p.tables e below _ (T1.setTop (mkF m 6 #[.val (.ref a1)] [(.int (lcmpW q2 (0 : Int64)))]))
  by_cases hc6_2 : (lcmpW q2 (0 : Int64)) = (0 : Int32)
  · skip
    refine Go.by (fun _ => XS.ifNo X1.here hx rfl (hb hby d3_6) rfl ((if0 _ _).trans (teq hc6_2).2)) ?_
    show Go p.tables e below _ (T1.setTop (mkF m 9 #[.val (.ref a1)] []))
    refine Go.by (fun _ => XS.aloadN X1.here hx rfl (hb hby d3_9) rfl rfl) ?_
    show Go p.tables e below _ (T1.setTop (mkF m 10 #[.val (.ref a1)] [(.ref a1)]))
    obtain ⟨T3, X3, st3⟩ := X1.getF hx hZ hown (host := "") (Or.inl (tw hw 17 rfl)) Via.refl Fl_a1 (g := (mkF m 10 #[.val (.ref a1)] [(.ref a1)])) rfl rfl (hb hby d3_10)
    refine Go.by st3 ?_
    show Go p.tables e below _ (T3.setTop (mkF m 13 #[.val (.ref a1)] [(.long q3)]))
    refine Go.by (fun _ => XS.lconst X3.here hx rfl (hb hby d3_13)) ?_
    show Go p.tables e below _ (T3.setTop (mkF m 14 #[.val (.ref a1)] [(.long (0 : Int64)), (.long q3)]))
    refine Go.by (fun _ => XS.lcmp X3.here hx rfl (hb hby d3_14) rfl) ?_
    show Go p.tables e below _ (T3.setTop (mkF m 15 #[.val (.ref a1)] [(.int (lcmpW q3 (0 : Int64)))]))
    by_cases hc15_4 : (lcmpW q3 (0 : Int64)) = (0 : Int32)
    · skip
      refine Go.by (fun _ => XS.ifNo X3.here hx rfl (hb hby d3_15) rfl ((if0 _ _).trans (teq hc15_4).2)) ?_
      show Go p.tables e below _ (T3.setTop (mkF m 18 #[.val (.ref a1)] []))
      refine Go.by (fun _ => XS.iconst X3.here hx rfl (hb hby d3_18)) ?_
      show Go p.tables e below _ (T3.setTop (mkF m 19 #[.val (.ref a1)] [(.int (1 : Int32))]))
      refine Go.by (fun _ => XS.goto X3.here hx rfl (pc0 := 19) (pc' := 23) rfl (hb hby d3_19) (by decide) (by decide)) ?_
      show Go p.tables e below _ (T3.setTop (mkF m 23 #[.val (.ref a1)] [(.int (1 : Int32))]))
      refine Go.retN X3 hx hlk (z' := (1 : Int32)) hret (by simp) (hb hby d3_23) rfl (by decide) (by decide) ?_
      simp only [lw_eq] at hc6_2 hc15_4
      exact ⟨Or.inl ⟨by simp [*], rfl⟩, rfl⟩
    · skip
      refine Go.by (fun _ => XS.ifYes X3.here hx rfl (pc0 := 15) (pc' := 22) rfl (hb hby d3_15) rfl ((if0 _ _).trans (feq hc15_4).2) (by decide) (by decide)) ?_
      show Go p.tables e below _ (T3.setTop (mkF m 22 #[.val (.ref a1)] []))
      refine Go.by (fun _ => XS.iconst X3.here hx rfl (hb hby d3_22)) ?_
      show Go p.tables e below _ (T3.setTop (mkF m 23 #[.val (.ref a1)] [(.int (0 : Int32))]))
      refine Go.retN X3 hx hlk (z' := (0 : Int32)) hret (by simp) (hb hby d3_23) rfl (by decide) (by decide) ?_
      simp only [lw_eq] at hc6_2 hc15_4
      exact ⟨Or.inr ⟨by simp [*], rfl⟩, rfl⟩
  · skip
    refine Go.by (fun _ => XS.ifYes X1.here hx rfl (pc0 := 6) (pc' := 22) rfl (hb hby d3_6) rfl ((if0 _ _).trans (feq hc6_2).2) (by decide) (by decide)) ?_
    show Go p.tables e below _ (T1.setTop (mkF m 22 #[.val (.ref a1)] []))
    refine Go.by (fun _ => XS.iconst X1.here hx rfl (hb hby d3_22)) ?_
    show Go p.tables e below _ (T1.setTop (mkF m 23 #[.val (.ref a1)] [(.int (0 : Int32))]))
    refine Go.retN X1 hx hlk (z' := (0 : Int32)) hret (by simp) (hb hby d3_23) rfl (by decide) (by decide) ?_
    simp only [lw_eq] at hc6_2
    exact ⟨Or.inr ⟨by simp [*], rfl⟩, rfl⟩
theorem d4_0 : decode prog_7_method_12_code 0 = .ok (.lload_n 1, 1) := by decide +kernel
theorem d4_1 : decode prog_7_method_12_code 1 = .ok (.lconst 0, 1) := by decide +kernel
theorem d4_2 : decode prog_7_method_12_code 2 = .ok (.lcmp, 1) := by decide +kernel
theorem d4_3 : decode prog_7_method_12_code 3 = .ok (.ifCond .ge 13, 3) := by decide +kernel
theorem d4_16 : decode prog_7_method_12_code 16 = .ok (.aload_n 0, 1) := by decide +kernel
theorem d4_17 : decode prog_7_method_12_code 17 = .ok (.lload_n 1, 1) := by decide +kernel
theorem d4_18 : decode prog_7_method_12_code 18 = .ok (.putfield 55, 3) := by decide +kernel
theorem d4_21 : decode prog_7_method_12_code 21 = .ok (.aload_n 0, 1) := by decide +kernel
theorem d4_22 : decode prog_7_method_12_code 22 = .ok (.lload_n 3, 1) := by decide +kernel
theorem d4_23 : decode prog_7_method_12_code 23 = .ok (.putfield 59, 3) := by decide +kernel
theorem d4_26 : decode prog_7_method_12_code 26 = .ok (.aload_n 0, 1) := by decide +kernel
theorem d4_27 : decode prog_7_method_12_code 27 = .ok (.areturn, 1) := by decide +kernel
abbrev Rm4 : Room := { frames := 0, cells := 0, slots := 0, locals := 0 }
set_option maxRecDepth 65536 in
set_option maxHeartbeats 40000000 in
theorem rm4 (l : Launch) (Z : State) (a0 : Array Value) (hw : ∀ d ∈ tables_1, d.before a0 Z = true) (ws : List Jvm.Cond) (a1 : Addr) (q2 : Int64) (q3 : Int64) (u1 u2 : Int64) (h0 : Heap) (n0 : Nat) (Z0 : n0 ≤ h0.size) (Fh_a1 : Fld Z h0 a1 "com/example/spotline/spotline/decimal/Amount" "high" "J" (.long u1)) (Fl_a1 : Fld Z h0 a1 "com/example/spotline/spotline/decimal/Amount" "low" "J" (.long u2)) (E_a1 : Exa Z h0 a1 "com/example/spotline/spotline/decimal/Amount") (g_a1 : n0 ≤ a1) (hnn : ¬ q2 < 0) :
    Met l Z n0 (⟨"com/example/spotline/spotline/decimal/Amount", "set", "(JJ)Lcom/example/spotline/spotline/decimal/Amount;"⟩ : MethodName) prog_7_method_12_code 5 (some (.object "com/example/spotline/spotline/decimal/Amount")) ws Rm4 #[(.ref a1), (.long q2), (.long q3)] h0 (fun v h => v = some (.ref a1) ∧ Keep h0 h [a1] ∧ Exa Z h a1 "com/example/spotline/spotline/decimal/Amount" ∧ Fld Z h a1 "com/example/spotline/spotline/decimal/Amount" "high" "J" (.long q2) ∧ Fld Z h a1 "com/example/spotline/spotline/decimal/Amount" "low" "J" (.long q3)) := by
  refine enter (Ls := #[.val (.ref a1), .val (.long q2), .second, .val (.long q3), .second]) (plainFor_of_name pn0) (fun m => by first | rfl | (simp [entryFrame, mkF, argsToLocals, Value.category]; done)) ?_
  intro p e s m below meth c T0 hx hby hml hown hnm hret hlk hZ X0
  have K0 := Keep.refl h0 [a1]
  show Go p.tables e below _ (T0.setTop (mkF m 0 #[.val (.ref a1), .val (.long q2), .second, .val (.long q3), .second] []))
  refine Go.by (fun _ => XS.lloadN X0.here hx rfl (hb hby d4_0) rfl) ?_
  show Go p.tables e below _ (T0.setTop (mkF m 1 #[.val (.ref a1), .val (.long q2), .second, .val (.long q3), .second] [(.long q2)]))
  refine Go.by (fun _ => XS.lconst X0.here hx rfl (hb hby d4_1)) ?_
  show Go p.tables e below _ (T0.setTop (mkF m 2 #[.val (.ref a1), .val (.long q2), .second, .val (.long q3), .second] [(.long (0 : Int64)), (.long q2)]))
  refine Go.by (fun _ => XS.lcmp X0.here hx rfl (hb hby d4_2) rfl) ?_
  show Go p.tables e below _ (T0.setTop (mkF m 3 #[.val (.ref a1), .val (.long q2), .second, .val (.long q3), .second] [(.int (lcmpW q2 (0 : Int64)))]))
  refine Go.by (fun _ => XS.ifYes X0.here hx rfl (pc0 := 3) (pc' := 16) rfl (hb hby d4_3) rfl ((if0 _ _).trans (flt (fun q => hnn ((lw_lt _ _).mp q))).2.1) (by decide) (by decide)) ?_
  show Go p.tables e below _ (T0.setTop (mkF m 16 #[.val (.ref a1), .val (.long q2), .second, .val (.long q3), .second] []))
  refine Go.by (fun _ => XS.aloadN X0.here hx rfl (hb hby d4_16) rfl rfl) ?_
  show Go p.tables e below _ (T0.setTop (mkF m 17 #[.val (.ref a1), .val (.long q2), .second, .val (.long q3), .second] [(.ref a1)]))
  refine Go.by (fun _ => XS.lloadN X0.here hx rfl (hb hby d4_17) rfl) ?_
  show Go p.tables e below _ (T0.setTop (mkF m 18 #[.val (.ref a1), .val (.long q2), .second, .val (.long q3), .second] [(.long q2), (.ref a1)]))
  obtain ⟨T1, h1, X1, W1, st1⟩ := X0.putF hx hZ hown (host := "") (Or.inl (tw hw 15 rfl)) Via.refl Fh_a1 E_a1 g_a1 (Or.inl (tw hw 16 rfl)) (tw hw 2 rfl) (ty := .long) (by decide) rfl rfl (g := (mkF m 18 #[.val (.ref a1), .val (.long q2), .second, .val (.long q3), .second] [(.long q2), (.ref a1)])) rfl rfl (hb hby d4_18)
  have Fw1 := Fh_a1.same W1
  have f2_16 := Fl_a1.other W1 (Or.inr (slot_ne (Or.inl (tw hw 18 rfl)) (Or.inl (tw hw 16 rfl)) (by decide) (t := .long) (t' := .long) (by decide) (by decide)))
  have f2_17 := E_a1.wr W1
  have f2_18 := K0.wr W1 (Or.inl (List.mem_of_getElem? (i := 0) rfl))
  have Zs2 : n0 ≤ h1.size := by rw [W1.size]; exact Z0
  refine Go.by st1 ?_
  show Go p.tables e below _ (T1.setTop (mkF m 21 #[.val (.ref a1), .val (.long q2), .second, .val (.long q3), .second] []))
  refine Go.by (fun _ => XS.aloadN X1.here hx rfl (hb hby d4_21) rfl rfl) ?_
  show Go p.tables e below _ (T1.setTop (mkF m 22 #[.val (.ref a1), .val (.long q2), .second, .val (.long q3), .second] [(.ref a1)]))
  refine Go.by (fun _ => XS.lloadN X1.here hx rfl (hb hby d4_22) rfl) ?_
  show Go p.tables e below _ (T1.setTop (mkF m 23 #[.val (.ref a1), .val (.long q2), .second, .val (.long q3), .second] [(.long q3), (.ref a1)]))
  obtain ⟨T3, h3, X3, W3, st3⟩ := X1.putF hx hZ hown (host := "") (Or.inl (tw hw 17 rfl)) Via.refl f2_16 f2_17 g_a1 (Or.inl (tw hw 18 rfl)) (tw hw 2 rfl) (ty := .long) (by decide) rfl rfl (g := (mkF m 23 #[.val (.ref a1), .val (.long q2), .second, .val (.long q3), .second] [(.long q3), (.ref a1)])) rfl rfl (hb hby d4_23)
  have Fw3 := f2_16.same W3
  have f4_28 := Fw1.other W3 (Or.inr (slot_ne (Or.inl (tw hw 16 rfl)) (Or.inl (tw hw 18 rfl)) (by decide) (t := .long) (t' := .long) (by decide) (by decide)))
  have f4_29 := f2_17.wr W3
  have f4_30 := f2_18.wr W3 (Or.inl (List.mem_of_getElem? (i := 0) rfl))
  have Zs4 : n0 ≤ h3.size := by rw [W3.size]; exact Zs2
  refine Go.by st3 ?_
  show Go p.tables e below _ (T3.setTop (mkF m 26 #[.val (.ref a1), .val (.long q2), .second, .val (.long q3), .second] []))
  refine Go.by (fun _ => XS.aloadN X3.here hx rfl (hb hby d4_26) rfl rfl) ?_
  show Go p.tables e below _ (T3.setTop (mkF m 27 #[.val (.ref a1), .val (.long q2), .second, .val (.long q3), .second] [(.ref a1)]))
  exact Go.retA X3 hx hlk hret rfl rfl (hb hby d4_27) (by decide) (by decide) ⟨rfl, f4_30, f4_29, f4_28, Fw3⟩
theorem d7_0 : decode jdk_35_method_42_code 0 = .ok (.lload_n 0, 1) := by decide +kernel
theorem d7_1 : decode jdk_35_method_42_code 1 = .ok (.lload_n 2, 1) := by decide +kernel
theorem d7_2 : decode jdk_35_method_42_code 2 = .ok (.lcmp, 1) := by decide +kernel
theorem d7_3 : decode jdk_35_method_42_code 3 = .ok (.ifCond .ge 7, 3) := by decide +kernel
theorem d7_6 : decode jdk_35_method_42_code 6 = .ok (.iconst (-1), 1) := by decide +kernel
theorem d7_7 : decode jdk_35_method_42_code 7 = .ok (.goto 14, 3) := by decide +kernel
theorem d7_21 : decode jdk_35_method_42_code 21 = .ok (.ireturn, 1) := by decide +kernel
theorem d7_10 : decode jdk_35_method_42_code 10 = .ok (.lload_n 0, 1) := by decide +kernel
theorem d7_11 : decode jdk_35_method_42_code 11 = .ok (.lload_n 2, 1) := by decide +kernel
theorem d7_12 : decode jdk_35_method_42_code 12 = .ok (.lcmp, 1) := by decide +kernel
theorem d7_13 : decode jdk_35_method_42_code 13 = .ok (.ifCond .ne 7, 3) := by decide +kernel
theorem d7_16 : decode jdk_35_method_42_code 16 = .ok (.iconst 0, 1) := by decide +kernel
theorem d7_17 : decode jdk_35_method_42_code 17 = .ok (.goto 4, 3) := by decide +kernel
theorem d7_20 : decode jdk_35_method_42_code 20 = .ok (.iconst 1, 1) := by decide +kernel
abbrev Rm7 : Room := { frames := 0, cells := 0, slots := 0, locals := 0 }
theorem pn1 : plainName "java/lang/Long" = true := by first | (simp [plainName, overriddenIn]; done) | decide +kernel
set_option maxRecDepth 65536 in
set_option maxHeartbeats 40000000 in
theorem rm7 (l : Launch) (Z : State) (a0 : Array Value) (hw : ∀ d ∈ tables_1, d.before a0 Z = true) (ws : List Jvm.Cond) (q1 : Int64) (q2 : Int64) (h0 : Heap) (n0 : Nat) (Z0 : n0 ≤ h0.size) :
    Met l Z n0 (⟨"java/lang/Long", "compare", "(JJ)I"⟩ : MethodName) jdk_35_method_42_code 4 (some .int) ws Rm7 #[(.long q1), (.long q2)] h0 (fun v h => ∃ z : Int32, v = some (.int z) ∧ (z < 0 ↔ q1 < q2) ∧ h0 = h) := by
  refine enter (Ls := #[.val (.long q1), .second, .val (.long q2), .second]) (plainFor_of_name pn1) (fun m => by first | rfl | (simp [entryFrame, mkF, argsToLocals, Value.category]; done)) ?_
  intro p e s m below meth c T0 hx hby hml hown hnm hret hlk hZ X0
  show Go p.tables e below _ (T0.setTop (mkF m 0 #[.val (.long q1), .second, .val (.long q2), .second] []))
  refine Go.by (fun _ => XS.lloadN X0.here hx rfl (hb hby d7_0) rfl) ?_
  show Go p.tables e below _ (T0.setTop (mkF m 1 #[.val (.long q1), .second, .val (.long q2), .second] [(.long q1)]))
  refine Go.by (fun _ => XS.lloadN X0.here hx rfl (hb hby d7_1) rfl) ?_
  show Go p.tables e below _ (T0.setTop (mkF m 2 #[.val (.long q1), .second, .val (.long q2), .second] [(.long q2), (.long q1)]))
  refine Go.by (fun _ => XS.lcmp X0.here hx rfl (hb hby d7_2) rfl) ?_
  show Go p.tables e below _ (T0.setTop (mkF m 3 #[.val (.long q1), .second, .val (.long q2), .second] [(.int (lcmpW q1 q2))]))
  by_cases hc3_1 : (lcmpW q1 q2) < (0 : Int32)
  · skip
    refine Go.by (fun _ => XS.ifNo X0.here hx rfl (hb hby d7_3) rfl ((if0 _ _).trans (tlt hc3_1).2.1)) ?_
    show Go p.tables e below _ (T0.setTop (mkF m 6 #[.val (.long q1), .second, .val (.long q2), .second] []))
    refine Go.by (fun _ => XS.iconst X0.here hx rfl (hb hby d7_6)) ?_
    show Go p.tables e below _ (T0.setTop (mkF m 7 #[.val (.long q1), .second, .val (.long q2), .second] [(.int (-1 : Int32))]))
    refine Go.by (fun _ => XS.goto X0.here hx rfl (pc0 := 7) (pc' := 21) rfl (hb hby d7_7) (by decide) (by decide)) ?_
    show Go p.tables e below _ (T0.setTop (mkF m 21 #[.val (.long q1), .second, .val (.long q2), .second] [(.int (-1 : Int32))]))
    refine Go.retI X0 hx hlk hret (hb hby d7_21) (by decide) (by decide) ?_
    simp only [lw_lt, lw_eq] at hc3_1
    exact ⟨_, rfl, by simp [*], rfl⟩
  · skip
    refine Go.by (fun _ => XS.ifYes X0.here hx rfl (pc0 := 3) (pc' := 10) rfl (hb hby d7_3) rfl ((if0 _ _).trans (flt hc3_1).2.1) (by decide) (by decide)) ?_
    show Go p.tables e below _ (T0.setTop (mkF m 10 #[.val (.long q1), .second, .val (.long q2), .second] []))
    refine Go.by (fun _ => XS.lloadN X0.here hx rfl (hb hby d7_10) rfl) ?_
    show Go p.tables e below _ (T0.setTop (mkF m 11 #[.val (.long q1), .second, .val (.long q2), .second] [(.long q1)]))
    refine Go.by (fun _ => XS.lloadN X0.here hx rfl (hb hby d7_11) rfl) ?_
    show Go p.tables e below _ (T0.setTop (mkF m 12 #[.val (.long q1), .second, .val (.long q2), .second] [(.long q2), (.long q1)]))
    refine Go.by (fun _ => XS.lcmp X0.here hx rfl (hb hby d7_12) rfl) ?_
    show Go p.tables e below _ (T0.setTop (mkF m 13 #[.val (.long q1), .second, .val (.long q2), .second] [(.int (lcmpW q1 q2))]))
    by_cases hc13_2 : (lcmpW q1 q2) = (0 : Int32)
    · skip
      refine Go.by (fun _ => XS.ifNo X0.here hx rfl (hb hby d7_13) rfl ((if0 _ _).trans (teq hc13_2).2)) ?_
      show Go p.tables e below _ (T0.setTop (mkF m 16 #[.val (.long q1), .second, .val (.long q2), .second] []))
      refine Go.by (fun _ => XS.iconst X0.here hx rfl (hb hby d7_16)) ?_
      show Go p.tables e below _ (T0.setTop (mkF m 17 #[.val (.long q1), .second, .val (.long q2), .second] [(.int (0 : Int32))]))
      refine Go.by (fun _ => XS.goto X0.here hx rfl (pc0 := 17) (pc' := 21) rfl (hb hby d7_17) (by decide) (by decide)) ?_
      show Go p.tables e below _ (T0.setTop (mkF m 21 #[.val (.long q1), .second, .val (.long q2), .second] [(.int (0 : Int32))]))
      refine Go.retI X0 hx hlk hret (hb hby d7_21) (by decide) (by decide) ?_
      simp only [lw_lt, lw_eq] at hc3_1 hc13_2
      exact ⟨_, rfl, by simp [*], rfl⟩
    · skip
      refine Go.by (fun _ => XS.ifYes X0.here hx rfl (pc0 := 13) (pc' := 20) rfl (hb hby d7_13) rfl ((if0 _ _).trans (feq hc13_2).2) (by decide) (by decide)) ?_
      show Go p.tables e below _ (T0.setTop (mkF m 20 #[.val (.long q1), .second, .val (.long q2), .second] []))
      refine Go.by (fun _ => XS.iconst X0.here hx rfl (hb hby d7_20)) ?_
      show Go p.tables e below _ (T0.setTop (mkF m 21 #[.val (.long q1), .second, .val (.long q2), .second] [(.int (1 : Int32))]))
      refine Go.retI X0 hx hlk hret (hb hby d7_21) (by decide) (by decide) ?_
      simp only [lw_lt, lw_eq] at hc3_1 hc13_2
      exact ⟨_, rfl, by simp [*], rfl⟩
theorem d6_0 : decode jdk_35_method_43_code 0 = .ok (.lload_n 0, 1) := by decide +kernel
theorem d6_1 : decode jdk_35_method_43_code 1 = .ok (.ldc2_w 168, 3) := by decide +kernel
theorem d6_4 : decode jdk_35_method_43_code 4 = .ok (.ladd, 1) := by decide +kernel
theorem d6_5 : decode jdk_35_method_43_code 5 = .ok (.lload_n 2, 1) := by decide +kernel
theorem d6_6 : decode jdk_35_method_43_code 6 = .ok (.ldc2_w 168, 3) := by decide +kernel
theorem d6_9 : decode jdk_35_method_43_code 9 = .ok (.ladd, 1) := by decide +kernel
theorem d6_10 : decode jdk_35_method_43_code 10 = .ok (.invokestatic 302, 3) := by decide +kernel
theorem pd0 : parseMethodDescriptor "(JJ)I" = some ⟨[.long, .long], some .int⟩ := by decide +kernel
theorem d6_13 : decode jdk_35_method_43_code 13 = .ok (.ireturn, 1) := by decide +kernel
abbrev Rm6 : Room := { frames := 1, cells := 0, slots := 0, locals := 15 }
set_option maxRecDepth 65536 in
set_option maxHeartbeats 40000000 in
theorem rm6 (l : Launch) (Z : State) (a0 : Array Value) (hw : ∀ d ∈ tables_1, d.before a0 Z = true) (ws : List Jvm.Cond) (q1 : Int64) (q2 : Int64) (h0 : Heap) (n0 : Nat) (Z0 : n0 ≤ h0.size) :
    Met l Z n0 (⟨"java/lang/Long", "compareUnsigned", "(JJ)I"⟩ : MethodName) jdk_35_method_43_code 4 (some .int) ws Rm6 #[(.long q1), (.long q2)] h0 (fun v h => ∃ z : Int32, v = some (.int z) ∧ (z < 0 ↔ (q1 + (-9223372036854775808 : Int64)) < (q2 + (-9223372036854775808 : Int64))) ∧ h0 = h) := by
  refine enter (Ls := #[.val (.long q1), .second, .val (.long q2), .second]) (plainFor_of_name pn1) (fun m => by first | rfl | (simp [entryFrame, mkF, argsToLocals, Value.category]; done)) ?_
  intro p e s m below meth c T0 hx hby hml hown hnm hret hlk hZ X0
  show Go p.tables e below _ (T0.setTop (mkF m 0 #[.val (.long q1), .second, .val (.long q2), .second] []))
  refine Go.by (fun _ => XS.lloadN X0.here hx rfl (hb hby d6_0) rfl) ?_
  show Go p.tables e below _ (T0.setTop (mkF m 1 #[.val (.long q1), .second, .val (.long q2), .second] [(.long q1)]))
  refine Go.by (X0.ldc2Long hx hZ hown (tw hw 33 rfl) (g := (mkF m 1 #[.val (.long q1), .second, .val (.long q2), .second] [(.long q1)])) rfl (hb hby d6_1)) ?_
  show Go p.tables e below _ (T0.setTop (mkF m 4 #[.val (.long q1), .second, .val (.long q2), .second] [(.long (-9223372036854775808 : Int64)), (.long q1)]))
  refine Go.by (fun _ => XS.ladd X0.here hx rfl (hb hby d6_4) rfl) ?_
  show Go p.tables e below _ (T0.setTop (mkF m 5 #[.val (.long q1), .second, .val (.long q2), .second] [(.long (q1 + (-9223372036854775808 : Int64)))]))
  refine Go.by (fun _ => XS.lloadN X0.here hx rfl (hb hby d6_5) rfl) ?_
  show Go p.tables e below _ (T0.setTop (mkF m 6 #[.val (.long q1), .second, .val (.long q2), .second] [(.long q2), (.long (q1 + (-9223372036854775808 : Int64)))]))
  refine Go.by (X0.ldc2Long hx hZ hown (tw hw 33 rfl) (g := (mkF m 6 #[.val (.long q1), .second, .val (.long q2), .second] [(.long q2), (.long (q1 + (-9223372036854775808 : Int64)))])) rfl (hb hby d6_6)) ?_
  show Go p.tables e below _ (T0.setTop (mkF m 9 #[.val (.long q1), .second, .val (.long q2), .second] [(.long (-9223372036854775808 : Int64)), (.long q2), (.long (q1 + (-9223372036854775808 : Int64)))]))
  refine Go.by (fun _ => XS.ladd X0.here hx rfl (hb hby d6_9) rfl) ?_
  show Go p.tables e below _ (T0.setTop (mkF m 10 #[.val (.long q1), .second, .val (.long q2), .second] [(.long (q2 + (-9223372036854775808 : Int64))), (.long (q1 + (-9223372036854775808 : Int64)))]))
  obtain ⟨v1, T1, h1, X1, q1, st1⟩ := X0.callS hx hZ (y := (⟨"java/lang/Long", "compare", "(JJ)I"⟩ : MethodName)) hown (tw hw 34 rfl) (tw hw 35 rfl) (tw hw 31 rfl) (tw hw 36 rfl) (by decide) (rm7 l Z a0 hw [] (q1 + (-9223372036854775808 : Int64)) (q2 + (-9223372036854775808 : Int64)) h0 n0 Z0) (g := (mkF m 10 #[.val (.long q1), .second, .val (.long q2), .second] [(.long (q2 + (-9223372036854775808 : Int64))), (.long (q1 + (-9223372036854775808 : Int64)))])) rfl (by rw [hml]; rfl) (argsL := [(.long (q1 + (-9223372036854775808 : Int64))), (.long (q2 + (-9223372036854775808 : Int64)))]) (rest := []) (lenOf pd0 rfl) rfl (hb hby d6_10) rfl (by decide) (Nat.le_of_ble_eq_true rfl) (k' := 0) (n' := 0) rfl rfl (by decide) (by decide)
  refine Go.by st1 ?_
  obtain ⟨z1, rfl, hz1, rfl⟩ := q1
  show Go p.tables e below _ (T1.setTop (mkF m 13 #[.val (.long q1), .second, .val (.long q2), .second] [(.int z1)]))
  exact Go.retI X1 hx hlk hret (hb hby d6_13) (by decide) (by decide) ⟨_, rfl, hz1, rfl⟩
theorem d5_0 : decode prog_7_method_10_code 0 = .ok (.aload_n 0, 1) := by decide +kernel
theorem d5_1 : decode prog_7_method_10_code 1 = .ok (.getfield 55, 3) := by decide +kernel
theorem d5_4 : decode prog_7_method_10_code 4 = .ok (.aload_n 1, 1) := by decide +kernel
theorem d5_5 : decode prog_7_method_10_code 5 = .ok (.getfield 55, 3) := by decide +kernel
theorem d5_8 : decode prog_7_method_10_code 8 = .ok (.lcmp, 1) := by decide +kernel
theorem d5_9 : decode prog_7_method_10_code 9 = .ok (.ifCond .eq 23, 3) := by decide +kernel
theorem d5_32 : decode prog_7_method_10_code 32 = .ok (.aload_n 0, 1) := by decide +kernel
theorem d5_33 : decode prog_7_method_10_code 33 = .ok (.getfield 59, 3) := by decide +kernel
theorem d5_36 : decode prog_7_method_10_code 36 = .ok (.aload_n 1, 1) := by decide +kernel
theorem d5_37 : decode prog_7_method_10_code 37 = .ok (.getfield 59, 3) := by decide +kernel
theorem d5_40 : decode prog_7_method_10_code 40 = .ok (.invokestatic 43, 3) := by decide +kernel
theorem d5_43 : decode prog_7_method_10_code 43 = .ok (.ifCond .lt 7, 3) := by decide +kernel
theorem d5_50 : decode prog_7_method_10_code 50 = .ok (.iconst 0, 1) := by decide +kernel
theorem d5_51 : decode prog_7_method_10_code 51 = .ok (.ireturn, 1) := by decide +kernel
theorem d5_46 : decode prog_7_method_10_code 46 = .ok (.iconst 1, 1) := by decide +kernel
theorem d5_47 : decode prog_7_method_10_code 47 = .ok (.goto 4, 3) := by decide +kernel
theorem d5_12 : decode prog_7_method_10_code 12 = .ok (.aload_n 0, 1) := by decide +kernel
theorem d5_13 : decode prog_7_method_10_code 13 = .ok (.getfield 55, 3) := by decide +kernel
theorem d5_16 : decode prog_7_method_10_code 16 = .ok (.aload_n 1, 1) := by decide +kernel
theorem d5_17 : decode prog_7_method_10_code 17 = .ok (.getfield 55, 3) := by decide +kernel
theorem d5_20 : decode prog_7_method_10_code 20 = .ok (.lcmp, 1) := by decide +kernel
theorem d5_21 : decode prog_7_method_10_code 21 = .ok (.ifCond .le 7, 3) := by decide +kernel
theorem d5_28 : decode prog_7_method_10_code 28 = .ok (.iconst 0, 1) := by decide +kernel
theorem d5_29 : decode prog_7_method_10_code 29 = .ok (.goto 22, 3) := by decide +kernel
abbrev Rm5 : Room := { frames := 2, cells := 0, slots := 0, locals := 30 }
set_option maxRecDepth 65536 in
set_option maxHeartbeats 40000000 in
theorem rm5 (l : Launch) (Z : State) (a0 : Array Value) (hw : ∀ d ∈ tables_1, d.before a0 Z = true) (ws : List Jvm.Cond) (a1 : Addr) (a2 : Addr) (q2 q3 : Int64) (h0 : Heap) (n0 : Nat) (Z0 : n0 ≤ h0.size) (Fh_a1 : Fld Z h0 a1 "com/example/spotline/spotline/decimal/Amount" "high" "J" (.long (0 : Int64))) (Fl_a1 : Fld Z h0 a1 "com/example/spotline/spotline/decimal/Amount" "low" "J" (.long (0 : Int64))) (Fh_a2 : Fld Z h0 a2 "com/example/spotline/spotline/decimal/Amount" "high" "J" (.long q2)) (Fl_a2 : Fld Z h0 a2 "com/example/spotline/spotline/decimal/Amount" "low" "J" (.long q3)) (hnn : ¬ q2 < 0) :
    Met l Z n0 (⟨"com/example/spotline/spotline/decimal/Amount", "covers", "(Lcom/example/spotline/spotline/decimal/Amount;)Z"⟩ : MethodName) prog_7_method_10_code 2 (some .boolean) ws Rm5 #[(.ref a1), (.ref a2)] h0 (fun v h => (((q2 = 0 ∧ q3 = 0) ∧ v = some (.int 1)) ∨ (¬ (q2 = 0 ∧ q3 = 0) ∧ v = some (.int 0))) ∧ h0 = h) := by
  refine enter (Ls := #[.val (.ref a1), .val (.ref a2)]) (plainFor_of_name pn0) (fun m => by first | rfl | (simp [entryFrame, mkF, argsToLocals, Value.category]; done)) ?_
  intro p e s m below meth c T0 hx hby hml hown hnm hret hlk hZ X0
  show Go p.tables e below _ (T0.setTop (mkF m 0 #[.val (.ref a1), .val (.ref a2)] []))
  refine Go.by (fun _ => XS.aloadN X0.here hx rfl (hb hby d5_0) rfl rfl) ?_
  show Go p.tables e below _ (T0.setTop (mkF m 1 #[.val (.ref a1), .val (.ref a2)] [(.ref a1)]))
  obtain ⟨T1, X1, st1⟩ := X0.getF hx hZ hown (host := "") (Or.inl (tw hw 15 rfl)) Via.refl Fh_a1 (g := (mkF m 1 #[.val (.ref a1), .val (.ref a2)] [(.ref a1)])) rfl rfl (hb hby d5_1)
  refine Go.by st1 ?_
  show Go p.tables e below _ (T1.setTop (mkF m 4 #[.val (.ref a1), .val (.ref a2)] [(.long (0 : Int64))]))
  refine Go.by (fun _ => XS.aloadN X1.here hx rfl (hb hby d5_4) rfl rfl) ?_
  show Go p.tables e below _ (T1.setTop (mkF m 5 #[.val (.ref a1), .val (.ref a2)] [(.ref a2), (.long (0 : Int64))]))
  obtain ⟨T2, X2, st2⟩ := X1.getF hx hZ hown (host := "") (Or.inl (tw hw 15 rfl)) Via.refl Fh_a2 (g := (mkF m 5 #[.val (.ref a1), .val (.ref a2)] [(.ref a2), (.long (0 : Int64))])) rfl rfl (hb hby d5_5)
  refine Go.by st2 ?_
  show Go p.tables e below _ (T2.setTop (mkF m 8 #[.val (.ref a1), .val (.ref a2)] [(.long q2), (.long (0 : Int64))]))
  refine Go.by (fun _ => XS.lcmp X2.here hx rfl (hb hby d5_8) rfl) ?_
  show Go p.tables e below _ (T2.setTop (mkF m 9 #[.val (.ref a1), .val (.ref a2)] [(.int (lcmpW (0 : Int64) q2))]))
  by_cases hc9_3 : (lcmpW (0 : Int64) q2) = (0 : Int32)
  · skip
    refine Go.by (fun _ => XS.ifYes X2.here hx rfl (pc0 := 9) (pc' := 32) rfl (hb hby d5_9) rfl ((if0 _ _).trans (teq hc9_3).1) (by decide) (by decide)) ?_
    show Go p.tables e below _ (T2.setTop (mkF m 32 #[.val (.ref a1), .val (.ref a2)] []))
    refine Go.by (fun _ => XS.aloadN X2.here hx rfl (hb hby d5_32) rfl rfl) ?_
    show Go p.tables e below _ (T2.setTop (mkF m 33 #[.val (.ref a1), .val (.ref a2)] [(.ref a1)]))
    obtain ⟨T4, X4, st4⟩ := X2.getF hx hZ hown (host := "") (Or.inl (tw hw 17 rfl)) Via.refl Fl_a1 (g := (mkF m 33 #[.val (.ref a1), .val (.ref a2)] [(.ref a1)])) rfl rfl (hb hby d5_33)
    refine Go.by st4 ?_
    show Go p.tables e below _ (T4.setTop (mkF m 36 #[.val (.ref a1), .val (.ref a2)] [(.long (0 : Int64))]))
    refine Go.by (fun _ => XS.aloadN X4.here hx rfl (hb hby d5_36) rfl rfl) ?_
    show Go p.tables e below _ (T4.setTop (mkF m 37 #[.val (.ref a1), .val (.ref a2)] [(.ref a2), (.long (0 : Int64))]))
    obtain ⟨T5, X5, st5⟩ := X4.getF hx hZ hown (host := "") (Or.inl (tw hw 17 rfl)) Via.refl Fl_a2 (g := (mkF m 37 #[.val (.ref a1), .val (.ref a2)] [(.ref a2), (.long (0 : Int64))])) rfl rfl (hb hby d5_37)
    refine Go.by st5 ?_
    show Go p.tables e below _ (T5.setTop (mkF m 40 #[.val (.ref a1), .val (.ref a2)] [(.long q3), (.long (0 : Int64))]))
    obtain ⟨v6, T6, h6, X6, q6, st6⟩ := X5.callS hx hZ (y := (⟨"java/lang/Long", "compareUnsigned", "(JJ)I"⟩ : MethodName)) hown (tw hw 29 rfl) (tw hw 30 rfl) (tw hw 31 rfl) (tw hw 32 rfl) (by decide) (rm6 l Z a0 hw [] (0 : Int64) q3 h0 n0 Z0) (g := (mkF m 40 #[.val (.ref a1), .val (.ref a2)] [(.long q3), (.long (0 : Int64))])) rfl (by rw [hml]; rfl) (argsL := [(.long (0 : Int64)), (.long q3)]) (rest := []) (lenOf pd0 rfl) rfl (hb hby d5_40) rfl (by decide) (Nat.le_of_ble_eq_true rfl) (k' := 0) (n' := 0) rfl rfl (by decide) (by decide)
    refine Go.by st6 ?_
    obtain ⟨z6, rfl, hz6, rfl⟩ := q6
    show Go p.tables e below _ (T6.setTop (mkF m 43 #[.val (.ref a1), .val (.ref a2)] [(.int z6)]))
    by_cases hc43_7 : z6 < (0 : Int32)
    · skip
      refine Go.by (fun _ => XS.ifYes X6.here hx rfl (pc0 := 43) (pc' := 50) rfl (hb hby d5_43) rfl ((if0 _ _).trans (tlt hc43_7).1) (by decide) (by decide)) ?_
      show Go p.tables e below _ (T6.setTop (mkF m 50 #[.val (.ref a1), .val (.ref a2)] []))
      refine Go.by (fun _ => XS.iconst X6.here hx rfl (hb hby d5_50)) ?_
      show Go p.tables e below _ (T6.setTop (mkF m 51 #[.val (.ref a1), .val (.ref a2)] [(.int (0 : Int32))]))
      exact Go.retN X6 hx hlk (z' := (0 : Int32)) hret (by simp) (hb hby d5_51) rfl (by decide) (by decide) ⟨Or.inr ⟨fun h => (own_u _).mp (hz6.mp hc43_7) h.2, rfl⟩, rfl⟩
    · skip
      refine Go.by (fun _ => XS.ifNo X6.here hx rfl (hb hby d5_43) rfl ((if0 _ _).trans (flt hc43_7).1)) ?_
      show Go p.tables e below _ (T6.setTop (mkF m 46 #[.val (.ref a1), .val (.ref a2)] []))
      refine Go.by (fun _ => XS.iconst X6.here hx rfl (hb hby d5_46)) ?_
      show Go p.tables e below _ (T6.setTop (mkF m 47 #[.val (.ref a1), .val (.ref a2)] [(.int (1 : Int32))]))
      refine Go.by (fun _ => XS.goto X6.here hx rfl (pc0 := 47) (pc' := 51) rfl (hb hby d5_47) (by decide) (by decide)) ?_
      show Go p.tables e below _ (T6.setTop (mkF m 51 #[.val (.ref a1), .val (.ref a2)] [(.int (1 : Int32))]))
      exact Go.retN X6 hx hlk (z' := (1 : Int32)) hret (by simp) (hb hby d5_51) rfl (by decide) (by decide) ⟨Or.inl ⟨⟨((lw_eq _ _).mp hc9_3).symm, Decidable.of_not_not fun h => hc43_7 (hz6.mpr ((own_u _).mpr h))⟩, rfl⟩, rfl⟩
  · skip
    refine Go.by (fun _ => XS.ifNo X2.here hx rfl (hb hby d5_9) rfl ((if0 _ _).trans (feq hc9_3).1)) ?_
    show Go p.tables e below _ (T2.setTop (mkF m 12 #[.val (.ref a1), .val (.ref a2)] []))
    refine Go.by (fun _ => XS.aloadN X2.here hx rfl (hb hby d5_12) rfl rfl) ?_
    show Go p.tables e below _ (T2.setTop (mkF m 13 #[.val (.ref a1), .val (.ref a2)] [(.ref a1)]))
    obtain ⟨T8, X8, st8⟩ := X2.getF hx hZ hown (host := "") (Or.inl (tw hw 15 rfl)) Via.refl Fh_a1 (g := (mkF m 13 #[.val (.ref a1), .val (.ref a2)] [(.ref a1)])) rfl rfl (hb hby d5_13)
    refine Go.by st8 ?_
    show Go p.tables e below _ (T8.setTop (mkF m 16 #[.val (.ref a1), .val (.ref a2)] [(.long (0 : Int64))]))
    refine Go.by (fun _ => XS.aloadN X8.here hx rfl (hb hby d5_16) rfl rfl) ?_
    show Go p.tables e below _ (T8.setTop (mkF m 17 #[.val (.ref a1), .val (.ref a2)] [(.ref a2), (.long (0 : Int64))]))
    obtain ⟨T9, X9, st9⟩ := X8.getF hx hZ hown (host := "") (Or.inl (tw hw 15 rfl)) Via.refl Fh_a2 (g := (mkF m 17 #[.val (.ref a1), .val (.ref a2)] [(.ref a2), (.long (0 : Int64))])) rfl rfl (hb hby d5_17)
    refine Go.by st9 ?_
    show Go p.tables e below _ (T9.setTop (mkF m 20 #[.val (.ref a1), .val (.ref a2)] [(.long q2), (.long (0 : Int64))]))
    refine Go.by (fun _ => XS.lcmp X9.here hx rfl (hb hby d5_20) rfl) ?_
    show Go p.tables e below _ (T9.setTop (mkF m 21 #[.val (.ref a1), .val (.ref a2)] [(.int (lcmpW (0 : Int64) q2))]))
    refine Go.by (fun _ => XS.ifYes X9.here hx rfl (pc0 := 21) (pc' := 28) rfl (hb hby d5_21) rfl ((if0 _ _).trans (flt (fun q => hnn ((lw_gt _ _).mp q))).2.2.2) (by decide) (by decide)) ?_
    show Go p.tables e below _ (T9.setTop (mkF m 28 #[.val (.ref a1), .val (.ref a2)] []))
    refine Go.by (fun _ => XS.iconst X9.here hx rfl (hb hby d5_28)) ?_
    show Go p.tables e below _ (T9.setTop (mkF m 29 #[.val (.ref a1), .val (.ref a2)] [(.int (0 : Int32))]))
    refine Go.by (fun _ => XS.goto X9.here hx rfl (pc0 := 29) (pc' := 51) rfl (hb hby d5_29) (by decide) (by decide)) ?_
    show Go p.tables e below _ (T9.setTop (mkF m 51 #[.val (.ref a1), .val (.ref a2)] [(.int (0 : Int32))]))
    exact Go.retN X9 hx hlk (z' := (0 : Int32)) hret (by simp) (hb hby d5_51) rfl (by decide) (by decide) ⟨Or.inr ⟨fun h => hc9_3 ((lw_eq _ _).mpr h.1.symm), rfl⟩, rfl⟩
theorem pd1 : parseMethodDescriptor "()V" = some ⟨[], none⟩ := by decide +kernel
theorem pd2 : parseMethodDescriptor "()Z" = some ⟨[], some .boolean⟩ := by decide +kernel
theorem pd3 : parseMethodDescriptor "(JJ)Lcom/example/spotline/spotline/decimal/Amount;" = some ⟨[.long, .long], some (.object "com/example/spotline/spotline/decimal/Amount")⟩ := by decide +kernel
theorem pd4 : parseMethodDescriptor "(Lcom/example/spotline/spotline/decimal/Amount;)Z" = some ⟨[(.object "com/example/spotline/spotline/decimal/Amount")], some .boolean⟩ := by decide +kernel
theorem pn2 : plainName "com/example/spotline/spotline/decimal/AmountIsZeroPinLaw" = true := by first | (simp [plainName, overriddenIn]; done) | decide +kernel
set_option maxRecDepth 65536 in
set_option maxHeartbeats 40000000 in
theorem rm0 (l : Launch) (Z : State) (a0 : Array Value) (hw : ∀ d ∈ tables_1, d.before a0 Z = true) (ws : List Jvm.Cond) (p0 : Int64) (p1 : Int64) (p2 : Int32) (h0 : Heap) (n0 : Nat) (Z0 : n0 ≤ h0.size) :
    Met l Z n0 x code maxLocals ret ws room_1 #[(.long p0), (.long p1), (.int p2)] h0 (fun v h => v = some (.int 1)) := by
  refine enter (Ls := #[.val (.long p0), .second, .val (.long p1), .second, .val (.int p2), .unset, .unset, .unset, .unset, .unset, .unset, .unset, .unset, .unset, .unset]) (plainFor_of_name pn2) (fun m => by first | rfl | (simp [entryFrame, mkF, argsToLocals, Value.category, maxLocals]; done)) ?_
  intro p e s m below meth c T0 hx hby hml hown hnm hret hlk hZ X0
  show Go p.tables e below _ (T0.setTop (mkF m 0 #[.val (.long p0), .second, .val (.long p1), .second, .val (.int p2), .unset, .unset, .unset, .unset, .unset, .unset, .unset, .unset, .unset, .unset] []))
  refine Go.by (fun _ => XS.iload X0.here hx rfl (hb hby at_0) rfl) ?_
  show Go p.tables e below _ (T0.setTop (mkF m 2 #[.val (.long p0), .second, .val (.long p1), .second, .val (.int p2), .unset, .unset, .unset, .unset, .unset, .unset, .unset, .unset, .unset, .unset] [(.int p2)]))
  refine Go.by (fun _ => XS.iconst X0.here hx rfl (hb hby at_2)) ?_
  show Go p.tables e below _ (T0.setTop (mkF m 3 #[.val (.long p0), .second, .val (.long p1), .second, .val (.int p2), .unset, .unset, .unset, .unset, .unset, .unset, .unset, .unset, .unset, .unset] [(.int (1 : Int32)), (.int p2)]))
  refine Go.by (fun _ => XS.iand X0.here hx rfl (hb hby at_3) rfl) ?_
  show Go p.tables e below _ (T0.setTop (mkF m 4 #[.val (.long p0), .second, .val (.long p1), .second, .val (.int p2), .unset, .unset, .unset, .unset, .unset, .unset, .unset, .unset, .unset, .unset] [(.int (p2 &&& (1 : Int32)))]))
  have J1 : ∀ (Tj1 : State), Sd n0 p l e room_1 s m #[(.long p0), (.long p1), (.int p2)] below meth c Tj1 h0 0 0 → ∀ (jh : Int64), ¬ jh < 0 → Go p.tables e below (Ret s n0 (fun v h => v = some (.int 1)) room_1.cells room_1.slots) (Tj1.setTop (mkF m 16 #[.val (.long p0), .second, .val (.long p1), .second, .val (.int p2), .unset, .unset, .unset, .unset, .unset, .unset, .unset, .unset, .unset, .unset] [(.long jh)])) := by
    intro Tj1 Xj1 jh hj1
    refine Go.by (fun _ => XS.lstore Xj1.here hx rfl (hb hby at_16) rfl (l' := #[.val (.long p0), .second, .val (.long p1), .second, .val (.int p2), .val (.long jh), .second, .unset, .unset, .unset, .unset, .unset, .unset, .unset, .unset]) rfl) ?_
    show Go p.tables e below _ (Tj1.setTop (mkF m 18 #[.val (.long p0), .second, .val (.long p1), .second, .val (.int p2), .val (.long jh), .second, .unset, .unset, .unset, .unset, .unset, .unset, .unset, .unset] []))
    refine Go.by (fun _ => XS.iload Xj1.here hx rfl (hb hby at_18) rfl) ?_
    show Go p.tables e below _ (Tj1.setTop (mkF m 20 #[.val (.long p0), .second, .val (.long p1), .second, .val (.int p2), .val (.long jh), .second, .unset, .unset, .unset, .unset, .unset, .unset, .unset, .unset] [(.int p2)]))
    refine Go.by (fun _ => XS.iconst Xj1.here hx rfl (hb hby at_20)) ?_
    show Go p.tables e below _ (Tj1.setTop (mkF m 21 #[.val (.long p0), .second, .val (.long p1), .second, .val (.int p2), .val (.long jh), .second, .unset, .unset, .unset, .unset, .unset, .unset, .unset, .unset] [(.int (2 : Int32)), (.int p2)]))
    refine Go.by (fun _ => XS.iand Xj1.here hx rfl (hb hby at_21) rfl) ?_
    show Go p.tables e below _ (Tj1.setTop (mkF m 22 #[.val (.long p0), .second, .val (.long p1), .second, .val (.int p2), .val (.long jh), .second, .unset, .unset, .unset, .unset, .unset, .unset, .unset, .unset] [(.int (p2 &&& (2 : Int32)))]))
    have hnn := hj1
    have J2 : ∀ (Tj2 : State), Sd n0 p l e room_1 s m #[(.long p0), (.long p1), (.int p2)] below meth c Tj2 h0 0 0 → ∀ (jl : Int64), True → Go p.tables e below (Ret s n0 (fun v h => v = some (.int 1)) room_1.cells room_1.slots) (Tj2.setTop (mkF m 30 #[.val (.long p0), .second, .val (.long p1), .second, .val (.int p2), .val (.long jh), .second, .unset, .unset, .unset, .unset, .unset, .unset, .unset, .unset] [(.long jl)])) := by
      intro Tj2 Xj2 jl hj2
      refine Go.by (fun _ => XS.lstore Xj2.here hx rfl (hb hby at_30) rfl (l' := #[.val (.long p0), .second, .val (.long p1), .second, .val (.int p2), .val (.long jh), .second, .val (.long jl), .second, .unset, .unset, .unset, .unset, .unset, .unset]) rfl) ?_
      show Go p.tables e below _ (Tj2.setTop (mkF m 32 #[.val (.long p0), .second, .val (.long p1), .second, .val (.int p2), .val (.long jh), .second, .val (.long jl), .second, .unset, .unset, .unset, .unset, .unset, .unset] []))
      obtain ⟨T3, h3, b3, X3, g3, E3, A3, D3, st3⟩ := Xj2.newO hx hZ hown (tw hw 1 rfl) (tw hw 2 rfl) (tw hw 3 rfl) (g := (mkF m 32 #[.val (.long p0), .second, .val (.long p1), .second, .val (.int p2), .val (.long jh), .second, .val (.long jl), .second, .unset, .unset, .unset, .unset, .unset, .unset] [])) rfl (hb hby at_32) (k' := 1) (n' := 2) rfl rfl (by decide) (by decide)
      have g_b3 : n0 ≤ b3 := by rw [g3]; exact Z0
      have Zs4 : n0 ≤ h3.size := Nat.le_trans Z0 E3.1
      have F3_high : Fld Z h3 b3 "com/example/spotline/spotline/decimal/Amount" "high" "J" (.long (0 : Int64)) := D3 (Or.inl (tw hw 16 rfl)) (ty := .long) (by decide)
      have F3_low : Fld Z h3 b3 "com/example/spotline/spotline/decimal/Amount" "low" "J" (.long (0 : Int64)) := D3 (Or.inl (tw hw 18 rfl)) (ty := .long) (by decide)
      refine Go.by st3 ?_
      show Go p.tables e below _ (T3.setTop (mkF m 35 #[.val (.long p0), .second, .val (.long p1), .second, .val (.int p2), .val (.long jh), .second, .val (.long jl), .second, .unset, .unset, .unset, .unset, .unset, .unset] [(.ref b3)]))
      refine Go.by (fun _ => XS.dup X3.here hx rfl (hb hby at_35) rfl rfl) ?_
      show Go p.tables e below _ (T3.setTop (mkF m 36 #[.val (.long p0), .second, .val (.long p1), .second, .val (.int p2), .val (.long jh), .second, .val (.long jl), .second, .unset, .unset, .unset, .unset, .unset, .unset] [(.ref b3), (.ref b3)]))
      obtain ⟨v5, T5, h5, X5, q5, st5⟩ := X3.callI hx hZ (y := (⟨"com/example/spotline/spotline/decimal/Amount", "<init>", "()V"⟩ : MethodName)) rfl hown (tw hw 4 rfl) (tw hw 5 rfl) (tw hw 3 rfl) (tw hw 6 rfl) (by decide) (rm1 l Z a0 hw [] b3 h3 n0 Zs4) (g := (mkF m 36 #[.val (.long p0), .second, .val (.long p1), .second, .val (.int p2), .val (.long jh), .second, .val (.long jl), .second, .unset, .unset, .unset, .unset, .unset, .unset] [(.ref b3), (.ref b3)])) rfl (by rw [hml]; rfl) (argsL := []) (rest := [(.ref b3)]) (lenOf pd1 rfl) rfl (hb hby at_36) rfl (by decide) (Nat.le_of_ble_eq_true rfl) (k' := 1) (n' := 2) rfl rfl (by decide) (by decide)
      refine Go.by st5 ?_
      obtain ⟨rfl, rfl⟩ := q5
      show Go p.tables e below _ (T5.setTop (mkF m 39 #[.val (.long p0), .second, .val (.long p1), .second, .val (.int p2), .val (.long jh), .second, .val (.long jl), .second, .unset, .unset, .unset, .unset, .unset, .unset] [(.ref b3)]))
      refine Go.by (fun _ => XS.astore X5.here hx rfl (hb hby at_39) rfl rfl (l' := #[.val (.long p0), .second, .val (.long p1), .second, .val (.int p2), .val (.long jh), .second, .val (.long jl), .second, .val (.ref b3), .unset, .unset, .unset, .unset, .unset]) rfl) ?_
      show Go p.tables e below _ (T5.setTop (mkF m 41 #[.val (.long p0), .second, .val (.long p1), .second, .val (.int p2), .val (.long jh), .second, .val (.long jl), .second, .val (.ref b3), .unset, .unset, .unset, .unset, .unset] []))
      refine Go.by (fun _ => XS.aload X5.here hx rfl (hb hby at_41) rfl rfl) ?_
      show Go p.tables e below _ (T5.setTop (mkF m 43 #[.val (.long p0), .second, .val (.long p1), .second, .val (.int p2), .val (.long jh), .second, .val (.long jl), .second, .val (.ref b3), .unset, .unset, .unset, .unset, .unset] [(.ref b3)]))
      obtain ⟨v6, T6, h6, X6, q6, st6⟩ := X5.callV hx hZ (y := (⟨"com/example/spotline/spotline/decimal/Amount", "isZero", "()Z"⟩ : MethodName)) (z := (⟨"com/example/spotline/spotline/decimal/Amount", "isZero", "()Z"⟩ : MethodName)) hown (tw hw 10 rfl) (tw hw 11 rfl) (notFace_of_selects (args := #[]) (mvT hZ (tw hw 13 rfl))) (tw hw 13 rfl) (tw hw 12 rfl) (tw hw 3 rfl) (tw hw 14 rfl) (by decide) (rm3 l Z a0 hw [] b3 (0 : Int64) (0 : Int64) h3 n0 Zs4 F3_high F3_low) A3 (g := (mkF m 43 #[.val (.long p0), .second, .val (.long p1), .second, .val (.int p2), .val (.long jh), .second, .val (.long jl), .second, .val (.ref b3), .unset, .unset, .unset, .unset, .unset] [(.ref b3)])) rfl (by rw [hml]; rfl) (argsL := []) (rest := []) (lenOf pd2 rfl) rfl (hb hby at_43) rfl (by decide) (Nat.le_of_ble_eq_true rfl) (k' := 1) (n' := 2) rfl rfl (by decide) (by decide)
      refine Go.by st6 ?_
      rcases q6 with ⟨⟨hz6, rfl⟩ | ⟨hz6, rfl⟩, rfl⟩
      · skip
        show Go p.tables e below _ (T6.setTop (mkF m 46 #[.val (.long p0), .second, .val (.long p1), .second, .val (.int p2), .val (.long jh), .second, .val (.long jl), .second, .val (.ref b3), .unset, .unset, .unset, .unset, .unset] [(.int (1 : Int32))]))
        refine Go.by (fun _ => XS.ifYes X6.here hx rfl (pc0 := 46) (pc' := 51) rfl (hb hby at_46) rfl ((if0 _ _).trans (feq (by decide)).2) (by decide) (by decide)) ?_
        show Go p.tables e below _ (T6.setTop (mkF m 51 #[.val (.long p0), .second, .val (.long p1), .second, .val (.int p2), .val (.long jh), .second, .val (.long jl), .second, .val (.ref b3), .unset, .unset, .unset, .unset, .unset] []))
        obtain ⟨T7, h7, b7, X7, g7, E7, A7, D7, st7⟩ := X6.newO hx hZ hown (tw hw 1 rfl) (tw hw 2 rfl) (tw hw 3 rfl) (g := (mkF m 51 #[.val (.long p0), .second, .val (.long p1), .second, .val (.int p2), .val (.long jh), .second, .val (.long jl), .second, .val (.ref b3), .unset, .unset, .unset, .unset, .unset] [])) rfl (hb hby at_51) (k' := 2) (n' := 4) rfl rfl (by decide) (by decide)
        have g_b7 : n0 ≤ b7 := by rw [g7]; exact Zs4
        have ne_b3_b7 : b3 ≠ b7 := Nat.ne_of_lt (by rw [g7]; exact A3.lt)
        have f8_49 := A3.ext E7
        have f8_50 := F3_high.ext E7
        have f8_51 := F3_low.ext E7
        have Zs8 : n0 ≤ h7.size := Nat.le_trans Zs4 E7.1
        have F7_high : Fld Z h7 b7 "com/example/spotline/spotline/decimal/Amount" "high" "J" (.long (0 : Int64)) := D7 (Or.inl (tw hw 16 rfl)) (ty := .long) (by decide)
        have F7_low : Fld Z h7 b7 "com/example/spotline/spotline/decimal/Amount" "low" "J" (.long (0 : Int64)) := D7 (Or.inl (tw hw 18 rfl)) (ty := .long) (by decide)
        refine Go.by st7 ?_
        show Go p.tables e below _ (T7.setTop (mkF m 54 #[.val (.long p0), .second, .val (.long p1), .second, .val (.int p2), .val (.long jh), .second, .val (.long jl), .second, .val (.ref b3), .unset, .unset, .unset, .unset, .unset] [(.ref b7)]))
        refine Go.by (fun _ => XS.dup X7.here hx rfl (hb hby at_54) rfl rfl) ?_
        show Go p.tables e below _ (T7.setTop (mkF m 55 #[.val (.long p0), .second, .val (.long p1), .second, .val (.int p2), .val (.long jh), .second, .val (.long jl), .second, .val (.ref b3), .unset, .unset, .unset, .unset, .unset] [(.ref b7), (.ref b7)]))
        obtain ⟨v9, T9, h9, X9, q9, st9⟩ := X7.callI hx hZ (y := (⟨"com/example/spotline/spotline/decimal/Amount", "<init>", "()V"⟩ : MethodName)) rfl hown (tw hw 4 rfl) (tw hw 5 rfl) (tw hw 3 rfl) (tw hw 6 rfl) (by decide) (rm1 l Z a0 hw [] b7 h7 n0 Zs8) (g := (mkF m 55 #[.val (.long p0), .second, .val (.long p1), .second, .val (.int p2), .val (.long jh), .second, .val (.long jl), .second, .val (.ref b3), .unset, .unset, .unset, .unset, .unset] [(.ref b7), (.ref b7)])) rfl (by rw [hml]; rfl) (argsL := []) (rest := [(.ref b7)]) (lenOf pd1 rfl) rfl (hb hby at_55) rfl (by decide) (Nat.le_of_ble_eq_true rfl) (k' := 2) (n' := 4) rfl rfl (by decide) (by decide)
        refine Go.by st9 ?_
        obtain ⟨rfl, rfl⟩ := q9
        show Go p.tables e below _ (T9.setTop (mkF m 58 #[.val (.long p0), .second, .val (.long p1), .second, .val (.int p2), .val (.long jh), .second, .val (.long jl), .second, .val (.ref b3), .unset, .unset, .unset, .unset, .unset] [(.ref b7)]))
        refine Go.by (fun _ => XS.astore X9.here hx rfl (hb hby at_58) rfl rfl (l' := #[.val (.long p0), .second, .val (.long p1), .second, .val (.int p2), .val (.long jh), .second, .val (.long jl), .second, .val (.ref b3), .val (.ref b7), .unset, .unset, .unset, .unset]) rfl) ?_
        show Go p.tables e below _ (T9.setTop (mkF m 60 #[.val (.long p0), .second, .val (.long p1), .second, .val (.int p2), .val (.long jh), .second, .val (.long jl), .second, .val (.ref b3), .val (.ref b7), .unset, .unset, .unset, .unset] []))
        refine Go.by (fun _ => XS.aload X9.here hx rfl (hb hby at_60) rfl rfl) ?_
        show Go p.tables e below _ (T9.setTop (mkF m 62 #[.val (.long p0), .second, .val (.long p1), .second, .val (.int p2), .val (.long jh), .second, .val (.long jl), .second, .val (.ref b3), .val (.ref b7), .unset, .unset, .unset, .unset] [(.ref b7)]))
        refine Go.by (fun _ => XS.lload X9.here hx rfl (hb hby at_62) rfl) ?_
        show Go p.tables e below _ (T9.setTop (mkF m 64 #[.val (.long p0), .second, .val (.long p1), .second, .val (.int p2), .val (.long jh), .second, .val (.long jl), .second, .val (.ref b3), .val (.ref b7), .unset, .unset, .unset, .unset] [(.long jh), (.ref b7)]))
        refine Go.by (fun _ => XS.lload X9.here hx rfl (hb hby at_64) rfl) ?_
        show Go p.tables e below _ (T9.setTop (mkF m 66 #[.val (.long p0), .second, .val (.long p1), .second, .val (.int p2), .val (.long jh), .second, .val (.long jl), .second, .val (.ref b3), .val (.ref b7), .unset, .unset, .unset, .unset] [(.long jl), (.long jh), (.ref b7)]))
        obtain ⟨v10, T10, h10, X10, q10, st10⟩ := X9.callV hx hZ (y := (⟨"com/example/spotline/spotline/decimal/Amount", "set", "(JJ)Lcom/example/spotline/spotline/decimal/Amount;"⟩ : MethodName)) (z := (⟨"com/example/spotline/spotline/decimal/Amount", "set", "(JJ)Lcom/example/spotline/spotline/decimal/Amount;"⟩ : MethodName)) hown (tw hw 19 rfl) (tw hw 20 rfl) (notFace_of_selects (args := #[]) (mvT hZ (tw hw 22 rfl))) (tw hw 22 rfl) (tw hw 21 rfl) (tw hw 3 rfl) (tw hw 23 rfl) (by decide) (rm4 l Z a0 hw [] b7 jh jl (0 : Int64) (0 : Int64) h7 n0 Zs8 F7_high F7_low A7 g_b7 hnn) A7 (g := (mkF m 66 #[.val (.long p0), .second, .val (.long p1), .second, .val (.int p2), .val (.long jh), .second, .val (.long jl), .second, .val (.ref b3), .val (.ref b7), .unset, .unset, .unset, .unset] [(.long jl), (.long jh), (.ref b7)])) rfl (by rw [hml]; rfl) (argsL := [(.long jh), (.long jl)]) (rest := []) (lenOf pd3 rfl) rfl (hb hby at_66) rfl (by decide) (Nat.le_of_ble_eq_true rfl) (k' := 2) (n' := 4) rfl rfl (by decide) (by decide)
        refine Go.by st10 ?_
        obtain ⟨rfl, K10, Ex10, Fh10, Fl10⟩ := q10
        have f11_74 := f8_49.keep K10
        have f11_75 := f8_50.keep K10 (ninS ne_b3_b7 nin0)
        have f11_76 := f8_51.keep K10 (ninS ne_b3_b7 nin0)
        have f11_77 := A7.keep K10
        have Zs11 : n0 ≤ h10.size := Nat.le_trans Zs8 K10.1
        show Go p.tables e below _ (T10.setTop (mkF m 69 #[.val (.long p0), .second, .val (.long p1), .second, .val (.int p2), .val (.long jh), .second, .val (.long jl), .second, .val (.ref b3), .val (.ref b7), .unset, .unset, .unset, .unset] [(.ref b7)]))
        refine Go.by (fun _ => XS.pop X10.here hx rfl (hb hby at_69) rfl rfl) ?_
        show Go p.tables e below _ (T10.setTop (mkF m 70 #[.val (.long p0), .second, .val (.long p1), .second, .val (.int p2), .val (.long jh), .second, .val (.long jl), .second, .val (.ref b3), .val (.ref b7), .unset, .unset, .unset, .unset] []))
        refine Go.by (fun _ => XS.lload X10.here hx rfl (hb hby at_70) rfl) ?_
        show Go p.tables e below _ (T10.setTop (mkF m 72 #[.val (.long p0), .second, .val (.long p1), .second, .val (.int p2), .val (.long jh), .second, .val (.long jl), .second, .val (.ref b3), .val (.ref b7), .unset, .unset, .unset, .unset] [(.long jh)]))
        refine Go.by (fun _ => XS.lload X10.here hx rfl (hb hby at_72) rfl) ?_
        show Go p.tables e below _ (T10.setTop (mkF m 74 #[.val (.long p0), .second, .val (.long p1), .second, .val (.int p2), .val (.long jh), .second, .val (.long jl), .second, .val (.ref b3), .val (.ref b7), .unset, .unset, .unset, .unset] [(.long jl), (.long jh)]))
        refine Go.by (fun _ => XS.lor X10.here hx rfl (hb hby at_74) rfl) ?_
        show Go p.tables e below _ (T10.setTop (mkF m 75 #[.val (.long p0), .second, .val (.long p1), .second, .val (.int p2), .val (.long jh), .second, .val (.long jl), .second, .val (.ref b3), .val (.ref b7), .unset, .unset, .unset, .unset] [(.long (jh ||| jl))]))
        refine Go.by (fun _ => XS.lconst X10.here hx rfl (hb hby at_75)) ?_
        show Go p.tables e below _ (T10.setTop (mkF m 76 #[.val (.long p0), .second, .val (.long p1), .second, .val (.int p2), .val (.long jh), .second, .val (.long jl), .second, .val (.ref b3), .val (.ref b7), .unset, .unset, .unset, .unset] [(.long (0 : Int64)), (.long (jh ||| jl))]))
        refine Go.by (fun _ => XS.lcmp X10.here hx rfl (hb hby at_76) rfl) ?_
        show Go p.tables e below _ (T10.setTop (mkF m 77 #[.val (.long p0), .second, .val (.long p1), .second, .val (.int p2), .val (.long jh), .second, .val (.long jl), .second, .val (.ref b3), .val (.ref b7), .unset, .unset, .unset, .unset] [(.int (lcmpW (jh ||| jl) (0 : Int64)))]))
        by_cases hc77_12 : (lcmpW (jh ||| jl) (0 : Int64)) = (0 : Int32)
        · skip
          refine Go.by (fun _ => XS.ifNo X10.here hx rfl (hb hby at_77) rfl ((if0 _ _).trans (teq hc77_12).2)) ?_
          show Go p.tables e below _ (T10.setTop (mkF m 80 #[.val (.long p0), .second, .val (.long p1), .second, .val (.int p2), .val (.long jh), .second, .val (.long jl), .second, .val (.ref b3), .val (.ref b7), .unset, .unset, .unset, .unset] []))
          refine Go.by (fun _ => XS.iconst X10.here hx rfl (hb hby at_80)) ?_
          show Go p.tables e below _ (T10.setTop (mkF m 81 #[.val (.long p0), .second, .val (.long p1), .second, .val (.int p2), .val (.long jh), .second, .val (.long jl), .second, .val (.ref b3), .val (.ref b7), .unset, .unset, .unset, .unset] [(.int (1 : Int32))]))
          refine Go.by (fun _ => XS.goto X10.here hx rfl (pc0 := 81) (pc' := 85) rfl (hb hby at_81) (by decide) (by decide)) ?_
          show Go p.tables e below _ (T10.setTop (mkF m 85 #[.val (.long p0), .second, .val (.long p1), .second, .val (.int p2), .val (.long jh), .second, .val (.long jl), .second, .val (.ref b3), .val (.ref b7), .unset, .unset, .unset, .unset] [(.int (1 : Int32))]))
          refine Go.by (fun _ => XS.istore X10.here hx rfl (hb hby at_85) rfl (l' := #[.val (.long p0), .second, .val (.long p1), .second, .val (.int p2), .val (.long jh), .second, .val (.long jl), .second, .val (.ref b3), .val (.ref b7), .val (.int (1 : Int32)), .unset, .unset, .unset]) rfl) ?_
          show Go p.tables e below _ (T10.setTop (mkF m 87 #[.val (.long p0), .second, .val (.long p1), .second, .val (.int p2), .val (.long jh), .second, .val (.long jl), .second, .val (.ref b3), .val (.ref b7), .val (.int (1 : Int32)), .unset, .unset, .unset] []))
          refine Go.by (fun _ => XS.aload X10.here hx rfl (hb hby at_87) rfl rfl) ?_
          show Go p.tables e below _ (T10.setTop (mkF m 89 #[.val (.long p0), .second, .val (.long p1), .second, .val (.int p2), .val (.long jh), .second, .val (.long jl), .second, .val (.ref b3), .val (.ref b7), .val (.int (1 : Int32)), .unset, .unset, .unset] [(.ref b7)]))
          obtain ⟨v13, T13, h13, X13, q13, st13⟩ := X10.callV hx hZ (y := (⟨"com/example/spotline/spotline/decimal/Amount", "isZero", "()Z"⟩ : MethodName)) (z := (⟨"com/example/spotline/spotline/decimal/Amount", "isZero", "()Z"⟩ : MethodName)) hown (tw hw 10 rfl) (tw hw 11 rfl) (notFace_of_selects (args := #[]) (mvT hZ (tw hw 13 rfl))) (tw hw 13 rfl) (tw hw 12 rfl) (tw hw 3 rfl) (tw hw 14 rfl) (by decide) (rm3 l Z a0 hw [] b7 jh jl h10 n0 Zs11 Fh10 Fl10) Ex10 (g := (mkF m 89 #[.val (.long p0), .second, .val (.long p1), .second, .val (.int p2), .val (.long jh), .second, .val (.long jl), .second, .val (.ref b3), .val (.ref b7), .val (.int (1 : Int32)), .unset, .unset, .unset] [(.ref b7)])) rfl (by rw [hml]; rfl) (argsL := []) (rest := []) (lenOf pd2 rfl) rfl (hb hby at_89) rfl (by decide) (Nat.le_of_ble_eq_true rfl) (k' := 2) (n' := 4) rfl rfl (by decide) (by decide)
          refine Go.by st13 ?_
          rcases q13 with ⟨⟨hz13, rfl⟩ | ⟨hz13, rfl⟩, rfl⟩
          · skip
            show Go p.tables e below _ (T13.setTop (mkF m 92 #[.val (.long p0), .second, .val (.long p1), .second, .val (.int p2), .val (.long jh), .second, .val (.long jl), .second, .val (.ref b3), .val (.ref b7), .val (.int (1 : Int32)), .unset, .unset, .unset] [(.int (1 : Int32))]))
            refine Go.by (fun _ => XS.istore X13.here hx rfl (hb hby at_92) rfl (l' := #[.val (.long p0), .second, .val (.long p1), .second, .val (.int p2), .val (.long jh), .second, .val (.long jl), .second, .val (.ref b3), .val (.ref b7), .val (.int (1 : Int32)), .val (.int (1 : Int32)), .unset, .unset]) rfl) ?_
            show Go p.tables e below _ (T13.setTop (mkF m 94 #[.val (.long p0), .second, .val (.long p1), .second, .val (.int p2), .val (.long jh), .second, .val (.long jl), .second, .val (.ref b3), .val (.ref b7), .val (.int (1 : Int32)), .val (.int (1 : Int32)), .unset, .unset] []))
            obtain ⟨T14, h14, b14, X14, g14, E14, A14, D14, st14⟩ := X13.newO hx hZ hown (tw hw 1 rfl) (tw hw 2 rfl) (tw hw 3 rfl) (g := (mkF m 94 #[.val (.long p0), .second, .val (.long p1), .second, .val (.int p2), .val (.long jh), .second, .val (.long jl), .second, .val (.ref b3), .val (.ref b7), .val (.int (1 : Int32)), .val (.int (1 : Int32)), .unset, .unset] [])) rfl (hb hby at_94) (k' := 3) (n' := 6) rfl rfl (by decide) (by decide)
            have g_b14 : n0 ≤ b14 := by rw [g14]; exact Zs11
            have ne_b3_b14 : b3 ≠ b14 := Nat.ne_of_lt (by rw [g14]; exact f11_74.lt)
            have ne_b7_b14 : b7 ≠ b14 := Nat.ne_of_lt (by rw [g14]; exact Ex10.lt)
            have f15_115 := f11_74.ext E14
            have f15_116 := f11_75.ext E14
            have f15_117 := f11_76.ext E14
            have f15_118 := Ex10.ext E14
            have f15_119 := Fh10.ext E14
            have f15_120 := Fl10.ext E14
            have Zs15 : n0 ≤ h14.size := Nat.le_trans Zs11 E14.1
            have F14_high : Fld Z h14 b14 "com/example/spotline/spotline/decimal/Amount" "high" "J" (.long (0 : Int64)) := D14 (Or.inl (tw hw 16 rfl)) (ty := .long) (by decide)
            have F14_low : Fld Z h14 b14 "com/example/spotline/spotline/decimal/Amount" "low" "J" (.long (0 : Int64)) := D14 (Or.inl (tw hw 18 rfl)) (ty := .long) (by decide)
            refine Go.by st14 ?_
            show Go p.tables e below _ (T14.setTop (mkF m 97 #[.val (.long p0), .second, .val (.long p1), .second, .val (.int p2), .val (.long jh), .second, .val (.long jl), .second, .val (.ref b3), .val (.ref b7), .val (.int (1 : Int32)), .val (.int (1 : Int32)), .unset, .unset] [(.ref b14)]))
            refine Go.by (fun _ => XS.dup X14.here hx rfl (hb hby at_97) rfl rfl) ?_
            show Go p.tables e below _ (T14.setTop (mkF m 98 #[.val (.long p0), .second, .val (.long p1), .second, .val (.int p2), .val (.long jh), .second, .val (.long jl), .second, .val (.ref b3), .val (.ref b7), .val (.int (1 : Int32)), .val (.int (1 : Int32)), .unset, .unset] [(.ref b14), (.ref b14)]))
            obtain ⟨v16, T16, h16, X16, q16, st16⟩ := X14.callI hx hZ (y := (⟨"com/example/spotline/spotline/decimal/Amount", "<init>", "()V"⟩ : MethodName)) rfl hown (tw hw 4 rfl) (tw hw 5 rfl) (tw hw 3 rfl) (tw hw 6 rfl) (by decide) (rm1 l Z a0 hw [] b14 h14 n0 Zs15) (g := (mkF m 98 #[.val (.long p0), .second, .val (.long p1), .second, .val (.int p2), .val (.long jh), .second, .val (.long jl), .second, .val (.ref b3), .val (.ref b7), .val (.int (1 : Int32)), .val (.int (1 : Int32)), .unset, .unset] [(.ref b14), (.ref b14)])) rfl (by rw [hml]; rfl) (argsL := []) (rest := [(.ref b14)]) (lenOf pd1 rfl) rfl (hb hby at_98) rfl (by decide) (Nat.le_of_ble_eq_true rfl) (k' := 3) (n' := 6) rfl rfl (by decide) (by decide)
            refine Go.by st16 ?_
            obtain ⟨rfl, rfl⟩ := q16
            show Go p.tables e below _ (T16.setTop (mkF m 101 #[.val (.long p0), .second, .val (.long p1), .second, .val (.int p2), .val (.long jh), .second, .val (.long jl), .second, .val (.ref b3), .val (.ref b7), .val (.int (1 : Int32)), .val (.int (1 : Int32)), .unset, .unset] [(.ref b14)]))
            refine Go.by (fun _ => XS.astore X16.here hx rfl (hb hby at_101) rfl rfl (l' := #[.val (.long p0), .second, .val (.long p1), .second, .val (.int p2), .val (.long jh), .second, .val (.long jl), .second, .val (.ref b3), .val (.ref b7), .val (.int (1 : Int32)), .val (.int (1 : Int32)), .val (.ref b14), .unset]) rfl) ?_
            show Go p.tables e below _ (T16.setTop (mkF m 103 #[.val (.long p0), .second, .val (.long p1), .second, .val (.int p2), .val (.long jh), .second, .val (.long jl), .second, .val (.ref b3), .val (.ref b7), .val (.int (1 : Int32)), .val (.int (1 : Int32)), .val (.ref b14), .unset] []))
            refine Go.by (fun _ => XS.aload X16.here hx rfl (hb hby at_103) rfl rfl) ?_
            show Go p.tables e below _ (T16.setTop (mkF m 105 #[.val (.long p0), .second, .val (.long p1), .second, .val (.int p2), .val (.long jh), .second, .val (.long jl), .second, .val (.ref b3), .val (.ref b7), .val (.int (1 : Int32)), .val (.int (1 : Int32)), .val (.ref b14), .unset] [(.ref b14)]))
            refine Go.by (fun _ => XS.aload X16.here hx rfl (hb hby at_105) rfl rfl) ?_
            show Go p.tables e below _ (T16.setTop (mkF m 107 #[.val (.long p0), .second, .val (.long p1), .second, .val (.int p2), .val (.long jh), .second, .val (.long jl), .second, .val (.ref b3), .val (.ref b7), .val (.int (1 : Int32)), .val (.int (1 : Int32)), .val (.ref b14), .unset] [(.ref b7), (.ref b14)]))
            obtain ⟨v17, T17, h17, X17, q17, st17⟩ := X16.callV hx hZ (y := (⟨"com/example/spotline/spotline/decimal/Amount", "covers", "(Lcom/example/spotline/spotline/decimal/Amount;)Z"⟩ : MethodName)) (z := (⟨"com/example/spotline/spotline/decimal/Amount", "covers", "(Lcom/example/spotline/spotline/decimal/Amount;)Z"⟩ : MethodName)) hown (tw hw 24 rfl) (tw hw 25 rfl) (notFace_of_selects (args := #[]) (mvT hZ (tw hw 27 rfl))) (tw hw 27 rfl) (tw hw 26 rfl) (tw hw 3 rfl) (tw hw 28 rfl) (by decide) (rm5 l Z a0 hw [] b14 b7 jh jl h14 n0 Zs15 F14_high F14_low f15_119 f15_120 hnn) A14 (g := (mkF m 107 #[.val (.long p0), .second, .val (.long p1), .second, .val (.int p2), .val (.long jh), .second, .val (.long jl), .second, .val (.ref b3), .val (.ref b7), .val (.int (1 : Int32)), .val (.int (1 : Int32)), .val (.ref b14), .unset] [(.ref b7), (.ref b14)])) rfl (by rw [hml]; rfl) (argsL := [(.ref b7)]) (rest := []) (lenOf pd4 rfl) rfl (hb hby at_107) rfl (by decide) (Nat.le_of_ble_eq_true rfl) (k' := 3) (n' := 6) rfl rfl (by decide) (by decide)
            refine Go.by st17 ?_
            rcases q17 with ⟨⟨hz17, rfl⟩ | ⟨hz17, rfl⟩, rfl⟩
            · skip
              show Go p.tables e below _ (T17.setTop (mkF m 110 #[.val (.long p0), .second, .val (.long p1), .second, .val (.int p2), .val (.long jh), .second, .val (.long jl), .second, .val (.ref b3), .val (.ref b7), .val (.int (1 : Int32)), .val (.int (1 : Int32)), .val (.ref b14), .unset] [(.int (1 : Int32))]))
              refine Go.by (fun _ => XS.istore X17.here hx rfl (hb hby at_110) rfl (l' := #[.val (.long p0), .second, .val (.long p1), .second, .val (.int p2), .val (.long jh), .second, .val (.long jl), .second, .val (.ref b3), .val (.ref b7), .val (.int (1 : Int32)), .val (.int (1 : Int32)), .val (.ref b14), .val (.int (1 : Int32))]) rfl) ?_
              show Go p.tables e below _ (T17.setTop (mkF m 112 #[.val (.long p0), .second, .val (.long p1), .second, .val (.int p2), .val (.long jh), .second, .val (.long jl), .second, .val (.ref b3), .val (.ref b7), .val (.int (1 : Int32)), .val (.int (1 : Int32)), .val (.ref b14), .val (.int (1 : Int32))] []))
              refine Go.by (fun _ => XS.iload X17.here hx rfl (hb hby at_112) rfl) ?_
              show Go p.tables e below _ (T17.setTop (mkF m 114 #[.val (.long p0), .second, .val (.long p1), .second, .val (.int p2), .val (.long jh), .second, .val (.long jl), .second, .val (.ref b3), .val (.ref b7), .val (.int (1 : Int32)), .val (.int (1 : Int32)), .val (.ref b14), .val (.int (1 : Int32))] [(.int (1 : Int32))]))
              refine Go.by (fun _ => XS.iload X17.here hx rfl (hb hby at_114) rfl) ?_
              show Go p.tables e below _ (T17.setTop (mkF m 116 #[.val (.long p0), .second, .val (.long p1), .second, .val (.int p2), .val (.long jh), .second, .val (.long jl), .second, .val (.ref b3), .val (.ref b7), .val (.int (1 : Int32)), .val (.int (1 : Int32)), .val (.ref b14), .val (.int (1 : Int32))] [(.int (1 : Int32)), (.int (1 : Int32))]))
              refine Go.by (fun _ => XS.icmpNo X17.here hx rfl (hb hby at_116) rfl (teq (by decide)).2) ?_
              show Go p.tables e below _ (T17.setTop (mkF m 119 #[.val (.long p0), .second, .val (.long p1), .second, .val (.int p2), .val (.long jh), .second, .val (.long jl), .second, .val (.ref b3), .val (.ref b7), .val (.int (1 : Int32)), .val (.int (1 : Int32)), .val (.ref b14), .val (.int (1 : Int32))] []))
              refine Go.by (fun _ => XS.iload X17.here hx rfl (hb hby at_119) rfl) ?_
              show Go p.tables e below _ (T17.setTop (mkF m 121 #[.val (.long p0), .second, .val (.long p1), .second, .val (.int p2), .val (.long jh), .second, .val (.long jl), .second, .val (.ref b3), .val (.ref b7), .val (.int (1 : Int32)), .val (.int (1 : Int32)), .val (.ref b14), .val (.int (1 : Int32))] [(.int (1 : Int32))]))
              refine Go.by (fun _ => XS.iload X17.here hx rfl (hb hby at_121) rfl) ?_
              show Go p.tables e below _ (T17.setTop (mkF m 123 #[.val (.long p0), .second, .val (.long p1), .second, .val (.int p2), .val (.long jh), .second, .val (.long jl), .second, .val (.ref b3), .val (.ref b7), .val (.int (1 : Int32)), .val (.int (1 : Int32)), .val (.ref b14), .val (.int (1 : Int32))] [(.int (1 : Int32)), (.int (1 : Int32))]))
              refine Go.by (fun _ => XS.icmpNo X17.here hx rfl (hb hby at_123) rfl (teq (by decide)).2) ?_
              show Go p.tables e below _ (T17.setTop (mkF m 126 #[.val (.long p0), .second, .val (.long p1), .second, .val (.int p2), .val (.long jh), .second, .val (.long jl), .second, .val (.ref b3), .val (.ref b7), .val (.int (1 : Int32)), .val (.int (1 : Int32)), .val (.ref b14), .val (.int (1 : Int32))] []))
              refine Go.by (fun _ => XS.iconst X17.here hx rfl (hb hby at_126)) ?_
              show Go p.tables e below _ (T17.setTop (mkF m 127 #[.val (.long p0), .second, .val (.long p1), .second, .val (.int p2), .val (.long jh), .second, .val (.long jl), .second, .val (.ref b3), .val (.ref b7), .val (.int (1 : Int32)), .val (.int (1 : Int32)), .val (.ref b14), .val (.int (1 : Int32))] [(.int (1 : Int32))]))
              refine Go.by (fun _ => XS.goto X17.here hx rfl (pc0 := 127) (pc' := 131) rfl (hb hby at_127) (by decide) (by decide)) ?_
              show Go p.tables e below _ (T17.setTop (mkF m 131 #[.val (.long p0), .second, .val (.long p1), .second, .val (.int p2), .val (.long jh), .second, .val (.long jl), .second, .val (.ref b3), .val (.ref b7), .val (.int (1 : Int32)), .val (.int (1 : Int32)), .val (.ref b14), .val (.int (1 : Int32))] [(.int (1 : Int32))]))
              exact Go.retN X17 hx hlk (z' := (1 : Int32)) hret (by simp) (hb hby at_131) rfl (by decide) (by decide) rfl
            · skip
              show Go p.tables e below _ (T17.setTop (mkF m 110 #[.val (.long p0), .second, .val (.long p1), .second, .val (.int p2), .val (.long jh), .second, .val (.long jl), .second, .val (.ref b3), .val (.ref b7), .val (.int (1 : Int32)), .val (.int (1 : Int32)), .val (.ref b14), .unset] [(.int (0 : Int32))]))
              refine Go.by (fun _ => XS.istore X17.here hx rfl (hb hby at_110) rfl (l' := #[.val (.long p0), .second, .val (.long p1), .second, .val (.int p2), .val (.long jh), .second, .val (.long jl), .second, .val (.ref b3), .val (.ref b7), .val (.int (1 : Int32)), .val (.int (1 : Int32)), .val (.ref b14), .val (.int (0 : Int32))]) rfl) ?_
              show Go p.tables e below _ (T17.setTop (mkF m 112 #[.val (.long p0), .second, .val (.long p1), .second, .val (.int p2), .val (.long jh), .second, .val (.long jl), .second, .val (.ref b3), .val (.ref b7), .val (.int (1 : Int32)), .val (.int (1 : Int32)), .val (.ref b14), .val (.int (0 : Int32))] []))
              refine Go.by (fun _ => XS.iload X17.here hx rfl (hb hby at_112) rfl) ?_
              show Go p.tables e below _ (T17.setTop (mkF m 114 #[.val (.long p0), .second, .val (.long p1), .second, .val (.int p2), .val (.long jh), .second, .val (.long jl), .second, .val (.ref b3), .val (.ref b7), .val (.int (1 : Int32)), .val (.int (1 : Int32)), .val (.ref b14), .val (.int (0 : Int32))] [(.int (1 : Int32))]))
              refine Go.by (fun _ => XS.iload X17.here hx rfl (hb hby at_114) rfl) ?_
              show Go p.tables e below _ (T17.setTop (mkF m 116 #[.val (.long p0), .second, .val (.long p1), .second, .val (.int p2), .val (.long jh), .second, .val (.long jl), .second, .val (.ref b3), .val (.ref b7), .val (.int (1 : Int32)), .val (.int (1 : Int32)), .val (.ref b14), .val (.int (0 : Int32))] [(.int (1 : Int32)), (.int (1 : Int32))]))
              refine Go.by (fun _ => XS.icmpNo X17.here hx rfl (hb hby at_116) rfl (teq (by decide)).2) ?_
              show Go p.tables e below _ (T17.setTop (mkF m 119 #[.val (.long p0), .second, .val (.long p1), .second, .val (.int p2), .val (.long jh), .second, .val (.long jl), .second, .val (.ref b3), .val (.ref b7), .val (.int (1 : Int32)), .val (.int (1 : Int32)), .val (.ref b14), .val (.int (0 : Int32))] []))
              refine Go.by (fun _ => XS.iload X17.here hx rfl (hb hby at_119) rfl) ?_
              show Go p.tables e below _ (T17.setTop (mkF m 121 #[.val (.long p0), .second, .val (.long p1), .second, .val (.int p2), .val (.long jh), .second, .val (.long jl), .second, .val (.ref b3), .val (.ref b7), .val (.int (1 : Int32)), .val (.int (1 : Int32)), .val (.ref b14), .val (.int (0 : Int32))] [(.int (0 : Int32))]))
              refine Go.by (fun _ => XS.iload X17.here hx rfl (hb hby at_121) rfl) ?_
              show Go p.tables e below _ (T17.setTop (mkF m 123 #[.val (.long p0), .second, .val (.long p1), .second, .val (.int p2), .val (.long jh), .second, .val (.long jl), .second, .val (.ref b3), .val (.ref b7), .val (.int (1 : Int32)), .val (.int (1 : Int32)), .val (.ref b14), .val (.int (0 : Int32))] [(.int (1 : Int32)), (.int (0 : Int32))]))
              refine Go.by (fun _ => XS.icmpYes X17.here hx rfl (pc0 := 123) (pc' := 130) rfl (hb hby at_123) rfl (feq (by decide)).2 (by decide) (by decide)) ?_
              show Go p.tables e below _ (T17.setTop (mkF m 130 #[.val (.long p0), .second, .val (.long p1), .second, .val (.int p2), .val (.long jh), .second, .val (.long jl), .second, .val (.ref b3), .val (.ref b7), .val (.int (1 : Int32)), .val (.int (1 : Int32)), .val (.ref b14), .val (.int (0 : Int32))] []))
              refine Go.by (fun _ => XS.iconst X17.here hx rfl (hb hby at_130)) ?_
              show Go p.tables e below _ (T17.setTop (mkF m 131 #[.val (.long p0), .second, .val (.long p1), .second, .val (.int p2), .val (.long jh), .second, .val (.long jl), .second, .val (.ref b3), .val (.ref b7), .val (.int (1 : Int32)), .val (.int (1 : Int32)), .val (.ref b14), .val (.int (0 : Int32))] [(.int (0 : Int32))]))
              refine Go.retN X17 hx hlk (z' := (0 : Int32)) hret (by simp) (hb hby at_131) rfl (by decide) (by decide) ?_
              exfalso
              simp only [lw_eq, own_or] at hz6 hc77_12 hz13 hz17
              simp_all
          · skip
            show Go p.tables e below _ (T13.setTop (mkF m 92 #[.val (.long p0), .second, .val (.long p1), .second, .val (.int p2), .val (.long jh), .second, .val (.long jl), .second, .val (.ref b3), .val (.ref b7), .val (.int (1 : Int32)), .unset, .unset, .unset] [(.int (0 : Int32))]))
            refine Go.by (fun _ => XS.istore X13.here hx rfl (hb hby at_92) rfl (l' := #[.val (.long p0), .second, .val (.long p1), .second, .val (.int p2), .val (.long jh), .second, .val (.long jl), .second, .val (.ref b3), .val (.ref b7), .val (.int (1 : Int32)), .val (.int (0 : Int32)), .unset, .unset]) rfl) ?_
            show Go p.tables e below _ (T13.setTop (mkF m 94 #[.val (.long p0), .second, .val (.long p1), .second, .val (.int p2), .val (.long jh), .second, .val (.long jl), .second, .val (.ref b3), .val (.ref b7), .val (.int (1 : Int32)), .val (.int (0 : Int32)), .unset, .unset] []))
            obtain ⟨T18, h18, b18, X18, g18, E18, A18, D18, st18⟩ := X13.newO hx hZ hown (tw hw 1 rfl) (tw hw 2 rfl) (tw hw 3 rfl) (g := (mkF m 94 #[.val (.long p0), .second, .val (.long p1), .second, .val (.int p2), .val (.long jh), .second, .val (.long jl), .second, .val (.ref b3), .val (.ref b7), .val (.int (1 : Int32)), .val (.int (0 : Int32)), .unset, .unset] [])) rfl (hb hby at_94) (k' := 3) (n' := 6) rfl rfl (by decide) (by decide)
            have g_b18 : n0 ≤ b18 := by rw [g18]; exact Zs11
            have ne_b3_b18 : b3 ≠ b18 := Nat.ne_of_lt (by rw [g18]; exact f11_74.lt)
            have ne_b7_b18 : b7 ≠ b18 := Nat.ne_of_lt (by rw [g18]; exact Ex10.lt)
            have f19_192 := f11_74.ext E18
            have f19_193 := f11_75.ext E18
            have f19_194 := f11_76.ext E18
            have f19_195 := Ex10.ext E18
            have f19_196 := Fh10.ext E18
            have f19_197 := Fl10.ext E18
            have Zs19 : n0 ≤ h18.size := Nat.le_trans Zs11 E18.1
            have F18_high : Fld Z h18 b18 "com/example/spotline/spotline/decimal/Amount" "high" "J" (.long (0 : Int64)) := D18 (Or.inl (tw hw 16 rfl)) (ty := .long) (by decide)
            have F18_low : Fld Z h18 b18 "com/example/spotline/spotline/decimal/Amount" "low" "J" (.long (0 : Int64)) := D18 (Or.inl (tw hw 18 rfl)) (ty := .long) (by decide)
            refine Go.by st18 ?_
            show Go p.tables e below _ (T18.setTop (mkF m 97 #[.val (.long p0), .second, .val (.long p1), .second, .val (.int p2), .val (.long jh), .second, .val (.long jl), .second, .val (.ref b3), .val (.ref b7), .val (.int (1 : Int32)), .val (.int (0 : Int32)), .unset, .unset] [(.ref b18)]))
            refine Go.by (fun _ => XS.dup X18.here hx rfl (hb hby at_97) rfl rfl) ?_
            show Go p.tables e below _ (T18.setTop (mkF m 98 #[.val (.long p0), .second, .val (.long p1), .second, .val (.int p2), .val (.long jh), .second, .val (.long jl), .second, .val (.ref b3), .val (.ref b7), .val (.int (1 : Int32)), .val (.int (0 : Int32)), .unset, .unset] [(.ref b18), (.ref b18)]))
            obtain ⟨v20, T20, h20, X20, q20, st20⟩ := X18.callI hx hZ (y := (⟨"com/example/spotline/spotline/decimal/Amount", "<init>", "()V"⟩ : MethodName)) rfl hown (tw hw 4 rfl) (tw hw 5 rfl) (tw hw 3 rfl) (tw hw 6 rfl) (by decide) (rm1 l Z a0 hw [] b18 h18 n0 Zs19) (g := (mkF m 98 #[.val (.long p0), .second, .val (.long p1), .second, .val (.int p2), .val (.long jh), .second, .val (.long jl), .second, .val (.ref b3), .val (.ref b7), .val (.int (1 : Int32)), .val (.int (0 : Int32)), .unset, .unset] [(.ref b18), (.ref b18)])) rfl (by rw [hml]; rfl) (argsL := []) (rest := [(.ref b18)]) (lenOf pd1 rfl) rfl (hb hby at_98) rfl (by decide) (Nat.le_of_ble_eq_true rfl) (k' := 3) (n' := 6) rfl rfl (by decide) (by decide)
            refine Go.by st20 ?_
            obtain ⟨rfl, rfl⟩ := q20
            show Go p.tables e below _ (T20.setTop (mkF m 101 #[.val (.long p0), .second, .val (.long p1), .second, .val (.int p2), .val (.long jh), .second, .val (.long jl), .second, .val (.ref b3), .val (.ref b7), .val (.int (1 : Int32)), .val (.int (0 : Int32)), .unset, .unset] [(.ref b18)]))
            refine Go.by (fun _ => XS.astore X20.here hx rfl (hb hby at_101) rfl rfl (l' := #[.val (.long p0), .second, .val (.long p1), .second, .val (.int p2), .val (.long jh), .second, .val (.long jl), .second, .val (.ref b3), .val (.ref b7), .val (.int (1 : Int32)), .val (.int (0 : Int32)), .val (.ref b18), .unset]) rfl) ?_
            show Go p.tables e below _ (T20.setTop (mkF m 103 #[.val (.long p0), .second, .val (.long p1), .second, .val (.int p2), .val (.long jh), .second, .val (.long jl), .second, .val (.ref b3), .val (.ref b7), .val (.int (1 : Int32)), .val (.int (0 : Int32)), .val (.ref b18), .unset] []))
            refine Go.by (fun _ => XS.aload X20.here hx rfl (hb hby at_103) rfl rfl) ?_
            show Go p.tables e below _ (T20.setTop (mkF m 105 #[.val (.long p0), .second, .val (.long p1), .second, .val (.int p2), .val (.long jh), .second, .val (.long jl), .second, .val (.ref b3), .val (.ref b7), .val (.int (1 : Int32)), .val (.int (0 : Int32)), .val (.ref b18), .unset] [(.ref b18)]))
            refine Go.by (fun _ => XS.aload X20.here hx rfl (hb hby at_105) rfl rfl) ?_
            show Go p.tables e below _ (T20.setTop (mkF m 107 #[.val (.long p0), .second, .val (.long p1), .second, .val (.int p2), .val (.long jh), .second, .val (.long jl), .second, .val (.ref b3), .val (.ref b7), .val (.int (1 : Int32)), .val (.int (0 : Int32)), .val (.ref b18), .unset] [(.ref b7), (.ref b18)]))
            obtain ⟨v21, T21, h21, X21, q21, st21⟩ := X20.callV hx hZ (y := (⟨"com/example/spotline/spotline/decimal/Amount", "covers", "(Lcom/example/spotline/spotline/decimal/Amount;)Z"⟩ : MethodName)) (z := (⟨"com/example/spotline/spotline/decimal/Amount", "covers", "(Lcom/example/spotline/spotline/decimal/Amount;)Z"⟩ : MethodName)) hown (tw hw 24 rfl) (tw hw 25 rfl) (notFace_of_selects (args := #[]) (mvT hZ (tw hw 27 rfl))) (tw hw 27 rfl) (tw hw 26 rfl) (tw hw 3 rfl) (tw hw 28 rfl) (by decide) (rm5 l Z a0 hw [] b18 b7 jh jl h18 n0 Zs19 F18_high F18_low f19_196 f19_197 hnn) A18 (g := (mkF m 107 #[.val (.long p0), .second, .val (.long p1), .second, .val (.int p2), .val (.long jh), .second, .val (.long jl), .second, .val (.ref b3), .val (.ref b7), .val (.int (1 : Int32)), .val (.int (0 : Int32)), .val (.ref b18), .unset] [(.ref b7), (.ref b18)])) rfl (by rw [hml]; rfl) (argsL := [(.ref b7)]) (rest := []) (lenOf pd4 rfl) rfl (hb hby at_107) rfl (by decide) (Nat.le_of_ble_eq_true rfl) (k' := 3) (n' := 6) rfl rfl (by decide) (by decide)
            refine Go.by st21 ?_
            rcases q21 with ⟨⟨hz21, rfl⟩ | ⟨hz21, rfl⟩, rfl⟩
            · skip
              show Go p.tables e below _ (T21.setTop (mkF m 110 #[.val (.long p0), .second, .val (.long p1), .second, .val (.int p2), .val (.long jh), .second, .val (.long jl), .second, .val (.ref b3), .val (.ref b7), .val (.int (1 : Int32)), .val (.int (0 : Int32)), .val (.ref b18), .unset] [(.int (1 : Int32))]))
              refine Go.by (fun _ => XS.istore X21.here hx rfl (hb hby at_110) rfl (l' := #[.val (.long p0), .second, .val (.long p1), .second, .val (.int p2), .val (.long jh), .second, .val (.long jl), .second, .val (.ref b3), .val (.ref b7), .val (.int (1 : Int32)), .val (.int (0 : Int32)), .val (.ref b18), .val (.int (1 : Int32))]) rfl) ?_
              show Go p.tables e below _ (T21.setTop (mkF m 112 #[.val (.long p0), .second, .val (.long p1), .second, .val (.int p2), .val (.long jh), .second, .val (.long jl), .second, .val (.ref b3), .val (.ref b7), .val (.int (1 : Int32)), .val (.int (0 : Int32)), .val (.ref b18), .val (.int (1 : Int32))] []))
              refine Go.by (fun _ => XS.iload X21.here hx rfl (hb hby at_112) rfl) ?_
              show Go p.tables e below _ (T21.setTop (mkF m 114 #[.val (.long p0), .second, .val (.long p1), .second, .val (.int p2), .val (.long jh), .second, .val (.long jl), .second, .val (.ref b3), .val (.ref b7), .val (.int (1 : Int32)), .val (.int (0 : Int32)), .val (.ref b18), .val (.int (1 : Int32))] [(.int (0 : Int32))]))
              refine Go.by (fun _ => XS.iload X21.here hx rfl (hb hby at_114) rfl) ?_
              show Go p.tables e below _ (T21.setTop (mkF m 116 #[.val (.long p0), .second, .val (.long p1), .second, .val (.int p2), .val (.long jh), .second, .val (.long jl), .second, .val (.ref b3), .val (.ref b7), .val (.int (1 : Int32)), .val (.int (0 : Int32)), .val (.ref b18), .val (.int (1 : Int32))] [(.int (1 : Int32)), (.int (0 : Int32))]))
              refine Go.by (fun _ => XS.icmpYes X21.here hx rfl (pc0 := 116) (pc' := 130) rfl (hb hby at_116) rfl (feq (by decide)).2 (by decide) (by decide)) ?_
              show Go p.tables e below _ (T21.setTop (mkF m 130 #[.val (.long p0), .second, .val (.long p1), .second, .val (.int p2), .val (.long jh), .second, .val (.long jl), .second, .val (.ref b3), .val (.ref b7), .val (.int (1 : Int32)), .val (.int (0 : Int32)), .val (.ref b18), .val (.int (1 : Int32))] []))
              refine Go.by (fun _ => XS.iconst X21.here hx rfl (hb hby at_130)) ?_
              show Go p.tables e below _ (T21.setTop (mkF m 131 #[.val (.long p0), .second, .val (.long p1), .second, .val (.int p2), .val (.long jh), .second, .val (.long jl), .second, .val (.ref b3), .val (.ref b7), .val (.int (1 : Int32)), .val (.int (0 : Int32)), .val (.ref b18), .val (.int (1 : Int32))] [(.int (0 : Int32))]))
              refine Go.retN X21 hx hlk (z' := (0 : Int32)) hret (by simp) (hb hby at_131) rfl (by decide) (by decide) ?_
              exfalso
              simp only [lw_eq, own_or] at hz6 hc77_12 hz13 hz21
              simp_all
            · skip
              show Go p.tables e below _ (T21.setTop (mkF m 110 #[.val (.long p0), .second, .val (.long p1), .second, .val (.int p2), .val (.long jh), .second, .val (.long jl), .second, .val (.ref b3), .val (.ref b7), .val (.int (1 : Int32)), .val (.int (0 : Int32)), .val (.ref b18), .unset] [(.int (0 : Int32))]))
              refine Go.by (fun _ => XS.istore X21.here hx rfl (hb hby at_110) rfl (l' := #[.val (.long p0), .second, .val (.long p1), .second, .val (.int p2), .val (.long jh), .second, .val (.long jl), .second, .val (.ref b3), .val (.ref b7), .val (.int (1 : Int32)), .val (.int (0 : Int32)), .val (.ref b18), .val (.int (0 : Int32))]) rfl) ?_
              show Go p.tables e below _ (T21.setTop (mkF m 112 #[.val (.long p0), .second, .val (.long p1), .second, .val (.int p2), .val (.long jh), .second, .val (.long jl), .second, .val (.ref b3), .val (.ref b7), .val (.int (1 : Int32)), .val (.int (0 : Int32)), .val (.ref b18), .val (.int (0 : Int32))] []))
              refine Go.by (fun _ => XS.iload X21.here hx rfl (hb hby at_112) rfl) ?_
              show Go p.tables e below _ (T21.setTop (mkF m 114 #[.val (.long p0), .second, .val (.long p1), .second, .val (.int p2), .val (.long jh), .second, .val (.long jl), .second, .val (.ref b3), .val (.ref b7), .val (.int (1 : Int32)), .val (.int (0 : Int32)), .val (.ref b18), .val (.int (0 : Int32))] [(.int (0 : Int32))]))
              refine Go.by (fun _ => XS.iload X21.here hx rfl (hb hby at_114) rfl) ?_
              show Go p.tables e below _ (T21.setTop (mkF m 116 #[.val (.long p0), .second, .val (.long p1), .second, .val (.int p2), .val (.long jh), .second, .val (.long jl), .second, .val (.ref b3), .val (.ref b7), .val (.int (1 : Int32)), .val (.int (0 : Int32)), .val (.ref b18), .val (.int (0 : Int32))] [(.int (1 : Int32)), (.int (0 : Int32))]))
              refine Go.by (fun _ => XS.icmpYes X21.here hx rfl (pc0 := 116) (pc' := 130) rfl (hb hby at_116) rfl (feq (by decide)).2 (by decide) (by decide)) ?_
              show Go p.tables e below _ (T21.setTop (mkF m 130 #[.val (.long p0), .second, .val (.long p1), .second, .val (.int p2), .val (.long jh), .second, .val (.long jl), .second, .val (.ref b3), .val (.ref b7), .val (.int (1 : Int32)), .val (.int (0 : Int32)), .val (.ref b18), .val (.int (0 : Int32))] []))
              refine Go.by (fun _ => XS.iconst X21.here hx rfl (hb hby at_130)) ?_
              show Go p.tables e below _ (T21.setTop (mkF m 131 #[.val (.long p0), .second, .val (.long p1), .second, .val (.int p2), .val (.long jh), .second, .val (.long jl), .second, .val (.ref b3), .val (.ref b7), .val (.int (1 : Int32)), .val (.int (0 : Int32)), .val (.ref b18), .val (.int (0 : Int32))] [(.int (0 : Int32))]))
              refine Go.retN X21 hx hlk (z' := (0 : Int32)) hret (by simp) (hb hby at_131) rfl (by decide) (by decide) ?_
              exfalso
              simp only [lw_eq, own_or] at hz6 hc77_12 hz13 hz21
              simp_all
        · skip
          refine Go.by (fun _ => XS.ifYes X10.here hx rfl (pc0 := 77) (pc' := 84) rfl (hb hby at_77) rfl ((if0 _ _).trans (feq hc77_12).2) (by decide) (by decide)) ?_
          show Go p.tables e below _ (T10.setTop (mkF m 84 #[.val (.long p0), .second, .val (.long p1), .second, .val (.int p2), .val (.long jh), .second, .val (.long jl), .second, .val (.ref b3), .val (.ref b7), .unset, .unset, .unset, .unset] []))
          refine Go.by (fun _ => XS.iconst X10.here hx rfl (hb hby at_84)) ?_
          show Go p.tables e below _ (T10.setTop (mkF m 85 #[.val (.long p0), .second, .val (.long p1), .second, .val (.int p2), .val (.long jh), .second, .val (.long jl), .second, .val (.ref b3), .val (.ref b7), .unset, .unset, .unset, .unset] [(.int (0 : Int32))]))
          refine Go.by (fun _ => XS.istore X10.here hx rfl (hb hby at_85) rfl (l' := #[.val (.long p0), .second, .val (.long p1), .second, .val (.int p2), .val (.long jh), .second, .val (.long jl), .second, .val (.ref b3), .val (.ref b7), .val (.int (0 : Int32)), .unset, .unset, .unset]) rfl) ?_
          show Go p.tables e below _ (T10.setTop (mkF m 87 #[.val (.long p0), .second, .val (.long p1), .second, .val (.int p2), .val (.long jh), .second, .val (.long jl), .second, .val (.ref b3), .val (.ref b7), .val (.int (0 : Int32)), .unset, .unset, .unset] []))
          refine Go.by (fun _ => XS.aload X10.here hx rfl (hb hby at_87) rfl rfl) ?_
          show Go p.tables e below _ (T10.setTop (mkF m 89 #[.val (.long p0), .second, .val (.long p1), .second, .val (.int p2), .val (.long jh), .second, .val (.long jl), .second, .val (.ref b3), .val (.ref b7), .val (.int (0 : Int32)), .unset, .unset, .unset] [(.ref b7)]))
          obtain ⟨v22, T22, h22, X22, q22, st22⟩ := X10.callV hx hZ (y := (⟨"com/example/spotline/spotline/decimal/Amount", "isZero", "()Z"⟩ : MethodName)) (z := (⟨"com/example/spotline/spotline/decimal/Amount", "isZero", "()Z"⟩ : MethodName)) hown (tw hw 10 rfl) (tw hw 11 rfl) (notFace_of_selects (args := #[]) (mvT hZ (tw hw 13 rfl))) (tw hw 13 rfl) (tw hw 12 rfl) (tw hw 3 rfl) (tw hw 14 rfl) (by decide) (rm3 l Z a0 hw [] b7 jh jl h10 n0 Zs11 Fh10 Fl10) Ex10 (g := (mkF m 89 #[.val (.long p0), .second, .val (.long p1), .second, .val (.int p2), .val (.long jh), .second, .val (.long jl), .second, .val (.ref b3), .val (.ref b7), .val (.int (0 : Int32)), .unset, .unset, .unset] [(.ref b7)])) rfl (by rw [hml]; rfl) (argsL := []) (rest := []) (lenOf pd2 rfl) rfl (hb hby at_89) rfl (by decide) (Nat.le_of_ble_eq_true rfl) (k' := 2) (n' := 4) rfl rfl (by decide) (by decide)
          refine Go.by st22 ?_
          rcases q22 with ⟨⟨hz22, rfl⟩ | ⟨hz22, rfl⟩, rfl⟩
          · skip
            show Go p.tables e below _ (T22.setTop (mkF m 92 #[.val (.long p0), .second, .val (.long p1), .second, .val (.int p2), .val (.long jh), .second, .val (.long jl), .second, .val (.ref b3), .val (.ref b7), .val (.int (0 : Int32)), .unset, .unset, .unset] [(.int (1 : Int32))]))
            refine Go.by (fun _ => XS.istore X22.here hx rfl (hb hby at_92) rfl (l' := #[.val (.long p0), .second, .val (.long p1), .second, .val (.int p2), .val (.long jh), .second, .val (.long jl), .second, .val (.ref b3), .val (.ref b7), .val (.int (0 : Int32)), .val (.int (1 : Int32)), .unset, .unset]) rfl) ?_
            show Go p.tables e below _ (T22.setTop (mkF m 94 #[.val (.long p0), .second, .val (.long p1), .second, .val (.int p2), .val (.long jh), .second, .val (.long jl), .second, .val (.ref b3), .val (.ref b7), .val (.int (0 : Int32)), .val (.int (1 : Int32)), .unset, .unset] []))
            obtain ⟨T23, h23, b23, X23, g23, E23, A23, D23, st23⟩ := X22.newO hx hZ hown (tw hw 1 rfl) (tw hw 2 rfl) (tw hw 3 rfl) (g := (mkF m 94 #[.val (.long p0), .second, .val (.long p1), .second, .val (.int p2), .val (.long jh), .second, .val (.long jl), .second, .val (.ref b3), .val (.ref b7), .val (.int (0 : Int32)), .val (.int (1 : Int32)), .unset, .unset] [])) rfl (hb hby at_94) (k' := 3) (n' := 6) rfl rfl (by decide) (by decide)
            have g_b23 : n0 ≤ b23 := by rw [g23]; exact Zs11
            have ne_b3_b23 : b3 ≠ b23 := Nat.ne_of_lt (by rw [g23]; exact f11_74.lt)
            have ne_b7_b23 : b7 ≠ b23 := Nat.ne_of_lt (by rw [g23]; exact Ex10.lt)
            have f24_270 := f11_74.ext E23
            have f24_271 := f11_75.ext E23
            have f24_272 := f11_76.ext E23
            have f24_273 := Ex10.ext E23
            have f24_274 := Fh10.ext E23
            have f24_275 := Fl10.ext E23
            have Zs24 : n0 ≤ h23.size := Nat.le_trans Zs11 E23.1
            have F23_high : Fld Z h23 b23 "com/example/spotline/spotline/decimal/Amount" "high" "J" (.long (0 : Int64)) := D23 (Or.inl (tw hw 16 rfl)) (ty := .long) (by decide)
            have F23_low : Fld Z h23 b23 "com/example/spotline/spotline/decimal/Amount" "low" "J" (.long (0 : Int64)) := D23 (Or.inl (tw hw 18 rfl)) (ty := .long) (by decide)
            refine Go.by st23 ?_
            show Go p.tables e below _ (T23.setTop (mkF m 97 #[.val (.long p0), .second, .val (.long p1), .second, .val (.int p2), .val (.long jh), .second, .val (.long jl), .second, .val (.ref b3), .val (.ref b7), .val (.int (0 : Int32)), .val (.int (1 : Int32)), .unset, .unset] [(.ref b23)]))
            refine Go.by (fun _ => XS.dup X23.here hx rfl (hb hby at_97) rfl rfl) ?_
            show Go p.tables e below _ (T23.setTop (mkF m 98 #[.val (.long p0), .second, .val (.long p1), .second, .val (.int p2), .val (.long jh), .second, .val (.long jl), .second, .val (.ref b3), .val (.ref b7), .val (.int (0 : Int32)), .val (.int (1 : Int32)), .unset, .unset] [(.ref b23), (.ref b23)]))
            obtain ⟨v25, T25, h25, X25, q25, st25⟩ := X23.callI hx hZ (y := (⟨"com/example/spotline/spotline/decimal/Amount", "<init>", "()V"⟩ : MethodName)) rfl hown (tw hw 4 rfl) (tw hw 5 rfl) (tw hw 3 rfl) (tw hw 6 rfl) (by decide) (rm1 l Z a0 hw [] b23 h23 n0 Zs24) (g := (mkF m 98 #[.val (.long p0), .second, .val (.long p1), .second, .val (.int p2), .val (.long jh), .second, .val (.long jl), .second, .val (.ref b3), .val (.ref b7), .val (.int (0 : Int32)), .val (.int (1 : Int32)), .unset, .unset] [(.ref b23), (.ref b23)])) rfl (by rw [hml]; rfl) (argsL := []) (rest := [(.ref b23)]) (lenOf pd1 rfl) rfl (hb hby at_98) rfl (by decide) (Nat.le_of_ble_eq_true rfl) (k' := 3) (n' := 6) rfl rfl (by decide) (by decide)
            refine Go.by st25 ?_
            obtain ⟨rfl, rfl⟩ := q25
            show Go p.tables e below _ (T25.setTop (mkF m 101 #[.val (.long p0), .second, .val (.long p1), .second, .val (.int p2), .val (.long jh), .second, .val (.long jl), .second, .val (.ref b3), .val (.ref b7), .val (.int (0 : Int32)), .val (.int (1 : Int32)), .unset, .unset] [(.ref b23)]))
            refine Go.by (fun _ => XS.astore X25.here hx rfl (hb hby at_101) rfl rfl (l' := #[.val (.long p0), .second, .val (.long p1), .second, .val (.int p2), .val (.long jh), .second, .val (.long jl), .second, .val (.ref b3), .val (.ref b7), .val (.int (0 : Int32)), .val (.int (1 : Int32)), .val (.ref b23), .unset]) rfl) ?_
            show Go p.tables e below _ (T25.setTop (mkF m 103 #[.val (.long p0), .second, .val (.long p1), .second, .val (.int p2), .val (.long jh), .second, .val (.long jl), .second, .val (.ref b3), .val (.ref b7), .val (.int (0 : Int32)), .val (.int (1 : Int32)), .val (.ref b23), .unset] []))
            refine Go.by (fun _ => XS.aload X25.here hx rfl (hb hby at_103) rfl rfl) ?_
            show Go p.tables e below _ (T25.setTop (mkF m 105 #[.val (.long p0), .second, .val (.long p1), .second, .val (.int p2), .val (.long jh), .second, .val (.long jl), .second, .val (.ref b3), .val (.ref b7), .val (.int (0 : Int32)), .val (.int (1 : Int32)), .val (.ref b23), .unset] [(.ref b23)]))
            refine Go.by (fun _ => XS.aload X25.here hx rfl (hb hby at_105) rfl rfl) ?_
            show Go p.tables e below _ (T25.setTop (mkF m 107 #[.val (.long p0), .second, .val (.long p1), .second, .val (.int p2), .val (.long jh), .second, .val (.long jl), .second, .val (.ref b3), .val (.ref b7), .val (.int (0 : Int32)), .val (.int (1 : Int32)), .val (.ref b23), .unset] [(.ref b7), (.ref b23)]))
            obtain ⟨v26, T26, h26, X26, q26, st26⟩ := X25.callV hx hZ (y := (⟨"com/example/spotline/spotline/decimal/Amount", "covers", "(Lcom/example/spotline/spotline/decimal/Amount;)Z"⟩ : MethodName)) (z := (⟨"com/example/spotline/spotline/decimal/Amount", "covers", "(Lcom/example/spotline/spotline/decimal/Amount;)Z"⟩ : MethodName)) hown (tw hw 24 rfl) (tw hw 25 rfl) (notFace_of_selects (args := #[]) (mvT hZ (tw hw 27 rfl))) (tw hw 27 rfl) (tw hw 26 rfl) (tw hw 3 rfl) (tw hw 28 rfl) (by decide) (rm5 l Z a0 hw [] b23 b7 jh jl h23 n0 Zs24 F23_high F23_low f24_274 f24_275 hnn) A23 (g := (mkF m 107 #[.val (.long p0), .second, .val (.long p1), .second, .val (.int p2), .val (.long jh), .second, .val (.long jl), .second, .val (.ref b3), .val (.ref b7), .val (.int (0 : Int32)), .val (.int (1 : Int32)), .val (.ref b23), .unset] [(.ref b7), (.ref b23)])) rfl (by rw [hml]; rfl) (argsL := [(.ref b7)]) (rest := []) (lenOf pd4 rfl) rfl (hb hby at_107) rfl (by decide) (Nat.le_of_ble_eq_true rfl) (k' := 3) (n' := 6) rfl rfl (by decide) (by decide)
            refine Go.by st26 ?_
            rcases q26 with ⟨⟨hz26, rfl⟩ | ⟨hz26, rfl⟩, rfl⟩
            · skip
              show Go p.tables e below _ (T26.setTop (mkF m 110 #[.val (.long p0), .second, .val (.long p1), .second, .val (.int p2), .val (.long jh), .second, .val (.long jl), .second, .val (.ref b3), .val (.ref b7), .val (.int (0 : Int32)), .val (.int (1 : Int32)), .val (.ref b23), .unset] [(.int (1 : Int32))]))
              refine Go.by (fun _ => XS.istore X26.here hx rfl (hb hby at_110) rfl (l' := #[.val (.long p0), .second, .val (.long p1), .second, .val (.int p2), .val (.long jh), .second, .val (.long jl), .second, .val (.ref b3), .val (.ref b7), .val (.int (0 : Int32)), .val (.int (1 : Int32)), .val (.ref b23), .val (.int (1 : Int32))]) rfl) ?_
              show Go p.tables e below _ (T26.setTop (mkF m 112 #[.val (.long p0), .second, .val (.long p1), .second, .val (.int p2), .val (.long jh), .second, .val (.long jl), .second, .val (.ref b3), .val (.ref b7), .val (.int (0 : Int32)), .val (.int (1 : Int32)), .val (.ref b23), .val (.int (1 : Int32))] []))
              refine Go.by (fun _ => XS.iload X26.here hx rfl (hb hby at_112) rfl) ?_
              show Go p.tables e below _ (T26.setTop (mkF m 114 #[.val (.long p0), .second, .val (.long p1), .second, .val (.int p2), .val (.long jh), .second, .val (.long jl), .second, .val (.ref b3), .val (.ref b7), .val (.int (0 : Int32)), .val (.int (1 : Int32)), .val (.ref b23), .val (.int (1 : Int32))] [(.int (1 : Int32))]))
              refine Go.by (fun _ => XS.iload X26.here hx rfl (hb hby at_114) rfl) ?_
              show Go p.tables e below _ (T26.setTop (mkF m 116 #[.val (.long p0), .second, .val (.long p1), .second, .val (.int p2), .val (.long jh), .second, .val (.long jl), .second, .val (.ref b3), .val (.ref b7), .val (.int (0 : Int32)), .val (.int (1 : Int32)), .val (.ref b23), .val (.int (1 : Int32))] [(.int (0 : Int32)), (.int (1 : Int32))]))
              refine Go.by (fun _ => XS.icmpYes X26.here hx rfl (pc0 := 116) (pc' := 130) rfl (hb hby at_116) rfl (feq (by decide)).2 (by decide) (by decide)) ?_
              show Go p.tables e below _ (T26.setTop (mkF m 130 #[.val (.long p0), .second, .val (.long p1), .second, .val (.int p2), .val (.long jh), .second, .val (.long jl), .second, .val (.ref b3), .val (.ref b7), .val (.int (0 : Int32)), .val (.int (1 : Int32)), .val (.ref b23), .val (.int (1 : Int32))] []))
              refine Go.by (fun _ => XS.iconst X26.here hx rfl (hb hby at_130)) ?_
              show Go p.tables e below _ (T26.setTop (mkF m 131 #[.val (.long p0), .second, .val (.long p1), .second, .val (.int p2), .val (.long jh), .second, .val (.long jl), .second, .val (.ref b3), .val (.ref b7), .val (.int (0 : Int32)), .val (.int (1 : Int32)), .val (.ref b23), .val (.int (1 : Int32))] [(.int (0 : Int32))]))
              refine Go.retN X26 hx hlk (z' := (0 : Int32)) hret (by simp) (hb hby at_131) rfl (by decide) (by decide) ?_
              exfalso
              simp only [lw_eq, own_or] at hz6 hc77_12 hz22 hz26
              simp_all
            · skip
              show Go p.tables e below _ (T26.setTop (mkF m 110 #[.val (.long p0), .second, .val (.long p1), .second, .val (.int p2), .val (.long jh), .second, .val (.long jl), .second, .val (.ref b3), .val (.ref b7), .val (.int (0 : Int32)), .val (.int (1 : Int32)), .val (.ref b23), .unset] [(.int (0 : Int32))]))
              refine Go.by (fun _ => XS.istore X26.here hx rfl (hb hby at_110) rfl (l' := #[.val (.long p0), .second, .val (.long p1), .second, .val (.int p2), .val (.long jh), .second, .val (.long jl), .second, .val (.ref b3), .val (.ref b7), .val (.int (0 : Int32)), .val (.int (1 : Int32)), .val (.ref b23), .val (.int (0 : Int32))]) rfl) ?_
              show Go p.tables e below _ (T26.setTop (mkF m 112 #[.val (.long p0), .second, .val (.long p1), .second, .val (.int p2), .val (.long jh), .second, .val (.long jl), .second, .val (.ref b3), .val (.ref b7), .val (.int (0 : Int32)), .val (.int (1 : Int32)), .val (.ref b23), .val (.int (0 : Int32))] []))
              refine Go.by (fun _ => XS.iload X26.here hx rfl (hb hby at_112) rfl) ?_
              show Go p.tables e below _ (T26.setTop (mkF m 114 #[.val (.long p0), .second, .val (.long p1), .second, .val (.int p2), .val (.long jh), .second, .val (.long jl), .second, .val (.ref b3), .val (.ref b7), .val (.int (0 : Int32)), .val (.int (1 : Int32)), .val (.ref b23), .val (.int (0 : Int32))] [(.int (1 : Int32))]))
              refine Go.by (fun _ => XS.iload X26.here hx rfl (hb hby at_114) rfl) ?_
              show Go p.tables e below _ (T26.setTop (mkF m 116 #[.val (.long p0), .second, .val (.long p1), .second, .val (.int p2), .val (.long jh), .second, .val (.long jl), .second, .val (.ref b3), .val (.ref b7), .val (.int (0 : Int32)), .val (.int (1 : Int32)), .val (.ref b23), .val (.int (0 : Int32))] [(.int (0 : Int32)), (.int (1 : Int32))]))
              refine Go.by (fun _ => XS.icmpYes X26.here hx rfl (pc0 := 116) (pc' := 130) rfl (hb hby at_116) rfl (feq (by decide)).2 (by decide) (by decide)) ?_
              show Go p.tables e below _ (T26.setTop (mkF m 130 #[.val (.long p0), .second, .val (.long p1), .second, .val (.int p2), .val (.long jh), .second, .val (.long jl), .second, .val (.ref b3), .val (.ref b7), .val (.int (0 : Int32)), .val (.int (1 : Int32)), .val (.ref b23), .val (.int (0 : Int32))] []))
              refine Go.by (fun _ => XS.iconst X26.here hx rfl (hb hby at_130)) ?_
              show Go p.tables e below _ (T26.setTop (mkF m 131 #[.val (.long p0), .second, .val (.long p1), .second, .val (.int p2), .val (.long jh), .second, .val (.long jl), .second, .val (.ref b3), .val (.ref b7), .val (.int (0 : Int32)), .val (.int (1 : Int32)), .val (.ref b23), .val (.int (0 : Int32))] [(.int (0 : Int32))]))
              refine Go.retN X26 hx hlk (z' := (0 : Int32)) hret (by simp) (hb hby at_131) rfl (by decide) (by decide) ?_
              exfalso
              simp only [lw_eq, own_or] at hz6 hc77_12 hz22 hz26
              simp_all
          · skip
            show Go p.tables e below _ (T22.setTop (mkF m 92 #[.val (.long p0), .second, .val (.long p1), .second, .val (.int p2), .val (.long jh), .second, .val (.long jl), .second, .val (.ref b3), .val (.ref b7), .val (.int (0 : Int32)), .unset, .unset, .unset] [(.int (0 : Int32))]))
            refine Go.by (fun _ => XS.istore X22.here hx rfl (hb hby at_92) rfl (l' := #[.val (.long p0), .second, .val (.long p1), .second, .val (.int p2), .val (.long jh), .second, .val (.long jl), .second, .val (.ref b3), .val (.ref b7), .val (.int (0 : Int32)), .val (.int (0 : Int32)), .unset, .unset]) rfl) ?_
            show Go p.tables e below _ (T22.setTop (mkF m 94 #[.val (.long p0), .second, .val (.long p1), .second, .val (.int p2), .val (.long jh), .second, .val (.long jl), .second, .val (.ref b3), .val (.ref b7), .val (.int (0 : Int32)), .val (.int (0 : Int32)), .unset, .unset] []))
            obtain ⟨T27, h27, b27, X27, g27, E27, A27, D27, st27⟩ := X22.newO hx hZ hown (tw hw 1 rfl) (tw hw 2 rfl) (tw hw 3 rfl) (g := (mkF m 94 #[.val (.long p0), .second, .val (.long p1), .second, .val (.int p2), .val (.long jh), .second, .val (.long jl), .second, .val (.ref b3), .val (.ref b7), .val (.int (0 : Int32)), .val (.int (0 : Int32)), .unset, .unset] [])) rfl (hb hby at_94) (k' := 3) (n' := 6) rfl rfl (by decide) (by decide)
            have g_b27 : n0 ≤ b27 := by rw [g27]; exact Zs11
            have ne_b3_b27 : b3 ≠ b27 := Nat.ne_of_lt (by rw [g27]; exact f11_74.lt)
            have ne_b7_b27 : b7 ≠ b27 := Nat.ne_of_lt (by rw [g27]; exact Ex10.lt)
            have f28_336 := f11_74.ext E27
            have f28_337 := f11_75.ext E27
            have f28_338 := f11_76.ext E27
            have f28_339 := Ex10.ext E27
            have f28_340 := Fh10.ext E27
            have f28_341 := Fl10.ext E27
            have Zs28 : n0 ≤ h27.size := Nat.le_trans Zs11 E27.1
            have F27_high : Fld Z h27 b27 "com/example/spotline/spotline/decimal/Amount" "high" "J" (.long (0 : Int64)) := D27 (Or.inl (tw hw 16 rfl)) (ty := .long) (by decide)
            have F27_low : Fld Z h27 b27 "com/example/spotline/spotline/decimal/Amount" "low" "J" (.long (0 : Int64)) := D27 (Or.inl (tw hw 18 rfl)) (ty := .long) (by decide)
            refine Go.by st27 ?_
            show Go p.tables e below _ (T27.setTop (mkF m 97 #[.val (.long p0), .second, .val (.long p1), .second, .val (.int p2), .val (.long jh), .second, .val (.long jl), .second, .val (.ref b3), .val (.ref b7), .val (.int (0 : Int32)), .val (.int (0 : Int32)), .unset, .unset] [(.ref b27)]))
            refine Go.by (fun _ => XS.dup X27.here hx rfl (hb hby at_97) rfl rfl) ?_
            show Go p.tables e below _ (T27.setTop (mkF m 98 #[.val (.long p0), .second, .val (.long p1), .second, .val (.int p2), .val (.long jh), .second, .val (.long jl), .second, .val (.ref b3), .val (.ref b7), .val (.int (0 : Int32)), .val (.int (0 : Int32)), .unset, .unset] [(.ref b27), (.ref b27)]))
            obtain ⟨v29, T29, h29, X29, q29, st29⟩ := X27.callI hx hZ (y := (⟨"com/example/spotline/spotline/decimal/Amount", "<init>", "()V"⟩ : MethodName)) rfl hown (tw hw 4 rfl) (tw hw 5 rfl) (tw hw 3 rfl) (tw hw 6 rfl) (by decide) (rm1 l Z a0 hw [] b27 h27 n0 Zs28) (g := (mkF m 98 #[.val (.long p0), .second, .val (.long p1), .second, .val (.int p2), .val (.long jh), .second, .val (.long jl), .second, .val (.ref b3), .val (.ref b7), .val (.int (0 : Int32)), .val (.int (0 : Int32)), .unset, .unset] [(.ref b27), (.ref b27)])) rfl (by rw [hml]; rfl) (argsL := []) (rest := [(.ref b27)]) (lenOf pd1 rfl) rfl (hb hby at_98) rfl (by decide) (Nat.le_of_ble_eq_true rfl) (k' := 3) (n' := 6) rfl rfl (by decide) (by decide)
            refine Go.by st29 ?_
            obtain ⟨rfl, rfl⟩ := q29
            show Go p.tables e below _ (T29.setTop (mkF m 101 #[.val (.long p0), .second, .val (.long p1), .second, .val (.int p2), .val (.long jh), .second, .val (.long jl), .second, .val (.ref b3), .val (.ref b7), .val (.int (0 : Int32)), .val (.int (0 : Int32)), .unset, .unset] [(.ref b27)]))
            refine Go.by (fun _ => XS.astore X29.here hx rfl (hb hby at_101) rfl rfl (l' := #[.val (.long p0), .second, .val (.long p1), .second, .val (.int p2), .val (.long jh), .second, .val (.long jl), .second, .val (.ref b3), .val (.ref b7), .val (.int (0 : Int32)), .val (.int (0 : Int32)), .val (.ref b27), .unset]) rfl) ?_
            show Go p.tables e below _ (T29.setTop (mkF m 103 #[.val (.long p0), .second, .val (.long p1), .second, .val (.int p2), .val (.long jh), .second, .val (.long jl), .second, .val (.ref b3), .val (.ref b7), .val (.int (0 : Int32)), .val (.int (0 : Int32)), .val (.ref b27), .unset] []))
            refine Go.by (fun _ => XS.aload X29.here hx rfl (hb hby at_103) rfl rfl) ?_
            show Go p.tables e below _ (T29.setTop (mkF m 105 #[.val (.long p0), .second, .val (.long p1), .second, .val (.int p2), .val (.long jh), .second, .val (.long jl), .second, .val (.ref b3), .val (.ref b7), .val (.int (0 : Int32)), .val (.int (0 : Int32)), .val (.ref b27), .unset] [(.ref b27)]))
            refine Go.by (fun _ => XS.aload X29.here hx rfl (hb hby at_105) rfl rfl) ?_
            show Go p.tables e below _ (T29.setTop (mkF m 107 #[.val (.long p0), .second, .val (.long p1), .second, .val (.int p2), .val (.long jh), .second, .val (.long jl), .second, .val (.ref b3), .val (.ref b7), .val (.int (0 : Int32)), .val (.int (0 : Int32)), .val (.ref b27), .unset] [(.ref b7), (.ref b27)]))
            obtain ⟨v30, T30, h30, X30, q30, st30⟩ := X29.callV hx hZ (y := (⟨"com/example/spotline/spotline/decimal/Amount", "covers", "(Lcom/example/spotline/spotline/decimal/Amount;)Z"⟩ : MethodName)) (z := (⟨"com/example/spotline/spotline/decimal/Amount", "covers", "(Lcom/example/spotline/spotline/decimal/Amount;)Z"⟩ : MethodName)) hown (tw hw 24 rfl) (tw hw 25 rfl) (notFace_of_selects (args := #[]) (mvT hZ (tw hw 27 rfl))) (tw hw 27 rfl) (tw hw 26 rfl) (tw hw 3 rfl) (tw hw 28 rfl) (by decide) (rm5 l Z a0 hw [] b27 b7 jh jl h27 n0 Zs28 F27_high F27_low f28_340 f28_341 hnn) A27 (g := (mkF m 107 #[.val (.long p0), .second, .val (.long p1), .second, .val (.int p2), .val (.long jh), .second, .val (.long jl), .second, .val (.ref b3), .val (.ref b7), .val (.int (0 : Int32)), .val (.int (0 : Int32)), .val (.ref b27), .unset] [(.ref b7), (.ref b27)])) rfl (by rw [hml]; rfl) (argsL := [(.ref b7)]) (rest := []) (lenOf pd4 rfl) rfl (hb hby at_107) rfl (by decide) (Nat.le_of_ble_eq_true rfl) (k' := 3) (n' := 6) rfl rfl (by decide) (by decide)
            refine Go.by st30 ?_
            rcases q30 with ⟨⟨hz30, rfl⟩ | ⟨hz30, rfl⟩, rfl⟩
            · skip
              show Go p.tables e below _ (T30.setTop (mkF m 110 #[.val (.long p0), .second, .val (.long p1), .second, .val (.int p2), .val (.long jh), .second, .val (.long jl), .second, .val (.ref b3), .val (.ref b7), .val (.int (0 : Int32)), .val (.int (0 : Int32)), .val (.ref b27), .unset] [(.int (1 : Int32))]))
              refine Go.by (fun _ => XS.istore X30.here hx rfl (hb hby at_110) rfl (l' := #[.val (.long p0), .second, .val (.long p1), .second, .val (.int p2), .val (.long jh), .second, .val (.long jl), .second, .val (.ref b3), .val (.ref b7), .val (.int (0 : Int32)), .val (.int (0 : Int32)), .val (.ref b27), .val (.int (1 : Int32))]) rfl) ?_
              show Go p.tables e below _ (T30.setTop (mkF m 112 #[.val (.long p0), .second, .val (.long p1), .second, .val (.int p2), .val (.long jh), .second, .val (.long jl), .second, .val (.ref b3), .val (.ref b7), .val (.int (0 : Int32)), .val (.int (0 : Int32)), .val (.ref b27), .val (.int (1 : Int32))] []))
              refine Go.by (fun _ => XS.iload X30.here hx rfl (hb hby at_112) rfl) ?_
              show Go p.tables e below _ (T30.setTop (mkF m 114 #[.val (.long p0), .second, .val (.long p1), .second, .val (.int p2), .val (.long jh), .second, .val (.long jl), .second, .val (.ref b3), .val (.ref b7), .val (.int (0 : Int32)), .val (.int (0 : Int32)), .val (.ref b27), .val (.int (1 : Int32))] [(.int (0 : Int32))]))
              refine Go.by (fun _ => XS.iload X30.here hx rfl (hb hby at_114) rfl) ?_
              show Go p.tables e below _ (T30.setTop (mkF m 116 #[.val (.long p0), .second, .val (.long p1), .second, .val (.int p2), .val (.long jh), .second, .val (.long jl), .second, .val (.ref b3), .val (.ref b7), .val (.int (0 : Int32)), .val (.int (0 : Int32)), .val (.ref b27), .val (.int (1 : Int32))] [(.int (0 : Int32)), (.int (0 : Int32))]))
              refine Go.by (fun _ => XS.icmpNo X30.here hx rfl (hb hby at_116) rfl (teq (by decide)).2) ?_
              show Go p.tables e below _ (T30.setTop (mkF m 119 #[.val (.long p0), .second, .val (.long p1), .second, .val (.int p2), .val (.long jh), .second, .val (.long jl), .second, .val (.ref b3), .val (.ref b7), .val (.int (0 : Int32)), .val (.int (0 : Int32)), .val (.ref b27), .val (.int (1 : Int32))] []))
              refine Go.by (fun _ => XS.iload X30.here hx rfl (hb hby at_119) rfl) ?_
              show Go p.tables e below _ (T30.setTop (mkF m 121 #[.val (.long p0), .second, .val (.long p1), .second, .val (.int p2), .val (.long jh), .second, .val (.long jl), .second, .val (.ref b3), .val (.ref b7), .val (.int (0 : Int32)), .val (.int (0 : Int32)), .val (.ref b27), .val (.int (1 : Int32))] [(.int (1 : Int32))]))
              refine Go.by (fun _ => XS.iload X30.here hx rfl (hb hby at_121) rfl) ?_
              show Go p.tables e below _ (T30.setTop (mkF m 123 #[.val (.long p0), .second, .val (.long p1), .second, .val (.int p2), .val (.long jh), .second, .val (.long jl), .second, .val (.ref b3), .val (.ref b7), .val (.int (0 : Int32)), .val (.int (0 : Int32)), .val (.ref b27), .val (.int (1 : Int32))] [(.int (0 : Int32)), (.int (1 : Int32))]))
              refine Go.by (fun _ => XS.icmpYes X30.here hx rfl (pc0 := 123) (pc' := 130) rfl (hb hby at_123) rfl (feq (by decide)).2 (by decide) (by decide)) ?_
              show Go p.tables e below _ (T30.setTop (mkF m 130 #[.val (.long p0), .second, .val (.long p1), .second, .val (.int p2), .val (.long jh), .second, .val (.long jl), .second, .val (.ref b3), .val (.ref b7), .val (.int (0 : Int32)), .val (.int (0 : Int32)), .val (.ref b27), .val (.int (1 : Int32))] []))
              refine Go.by (fun _ => XS.iconst X30.here hx rfl (hb hby at_130)) ?_
              show Go p.tables e below _ (T30.setTop (mkF m 131 #[.val (.long p0), .second, .val (.long p1), .second, .val (.int p2), .val (.long jh), .second, .val (.long jl), .second, .val (.ref b3), .val (.ref b7), .val (.int (0 : Int32)), .val (.int (0 : Int32)), .val (.ref b27), .val (.int (1 : Int32))] [(.int (0 : Int32))]))
              refine Go.retN X30 hx hlk (z' := (0 : Int32)) hret (by simp) (hb hby at_131) rfl (by decide) (by decide) ?_
              exfalso
              simp only [lw_eq, own_or] at hz6 hc77_12 hz22 hz30
              simp_all
            · skip
              show Go p.tables e below _ (T30.setTop (mkF m 110 #[.val (.long p0), .second, .val (.long p1), .second, .val (.int p2), .val (.long jh), .second, .val (.long jl), .second, .val (.ref b3), .val (.ref b7), .val (.int (0 : Int32)), .val (.int (0 : Int32)), .val (.ref b27), .unset] [(.int (0 : Int32))]))
              refine Go.by (fun _ => XS.istore X30.here hx rfl (hb hby at_110) rfl (l' := #[.val (.long p0), .second, .val (.long p1), .second, .val (.int p2), .val (.long jh), .second, .val (.long jl), .second, .val (.ref b3), .val (.ref b7), .val (.int (0 : Int32)), .val (.int (0 : Int32)), .val (.ref b27), .val (.int (0 : Int32))]) rfl) ?_
              show Go p.tables e below _ (T30.setTop (mkF m 112 #[.val (.long p0), .second, .val (.long p1), .second, .val (.int p2), .val (.long jh), .second, .val (.long jl), .second, .val (.ref b3), .val (.ref b7), .val (.int (0 : Int32)), .val (.int (0 : Int32)), .val (.ref b27), .val (.int (0 : Int32))] []))
              refine Go.by (fun _ => XS.iload X30.here hx rfl (hb hby at_112) rfl) ?_
              show Go p.tables e below _ (T30.setTop (mkF m 114 #[.val (.long p0), .second, .val (.long p1), .second, .val (.int p2), .val (.long jh), .second, .val (.long jl), .second, .val (.ref b3), .val (.ref b7), .val (.int (0 : Int32)), .val (.int (0 : Int32)), .val (.ref b27), .val (.int (0 : Int32))] [(.int (0 : Int32))]))
              refine Go.by (fun _ => XS.iload X30.here hx rfl (hb hby at_114) rfl) ?_
              show Go p.tables e below _ (T30.setTop (mkF m 116 #[.val (.long p0), .second, .val (.long p1), .second, .val (.int p2), .val (.long jh), .second, .val (.long jl), .second, .val (.ref b3), .val (.ref b7), .val (.int (0 : Int32)), .val (.int (0 : Int32)), .val (.ref b27), .val (.int (0 : Int32))] [(.int (0 : Int32)), (.int (0 : Int32))]))
              refine Go.by (fun _ => XS.icmpNo X30.here hx rfl (hb hby at_116) rfl (teq (by decide)).2) ?_
              show Go p.tables e below _ (T30.setTop (mkF m 119 #[.val (.long p0), .second, .val (.long p1), .second, .val (.int p2), .val (.long jh), .second, .val (.long jl), .second, .val (.ref b3), .val (.ref b7), .val (.int (0 : Int32)), .val (.int (0 : Int32)), .val (.ref b27), .val (.int (0 : Int32))] []))
              refine Go.by (fun _ => XS.iload X30.here hx rfl (hb hby at_119) rfl) ?_
              show Go p.tables e below _ (T30.setTop (mkF m 121 #[.val (.long p0), .second, .val (.long p1), .second, .val (.int p2), .val (.long jh), .second, .val (.long jl), .second, .val (.ref b3), .val (.ref b7), .val (.int (0 : Int32)), .val (.int (0 : Int32)), .val (.ref b27), .val (.int (0 : Int32))] [(.int (0 : Int32))]))
              refine Go.by (fun _ => XS.iload X30.here hx rfl (hb hby at_121) rfl) ?_
              show Go p.tables e below _ (T30.setTop (mkF m 123 #[.val (.long p0), .second, .val (.long p1), .second, .val (.int p2), .val (.long jh), .second, .val (.long jl), .second, .val (.ref b3), .val (.ref b7), .val (.int (0 : Int32)), .val (.int (0 : Int32)), .val (.ref b27), .val (.int (0 : Int32))] [(.int (0 : Int32)), (.int (0 : Int32))]))
              refine Go.by (fun _ => XS.icmpNo X30.here hx rfl (hb hby at_123) rfl (teq (by decide)).2) ?_
              show Go p.tables e below _ (T30.setTop (mkF m 126 #[.val (.long p0), .second, .val (.long p1), .second, .val (.int p2), .val (.long jh), .second, .val (.long jl), .second, .val (.ref b3), .val (.ref b7), .val (.int (0 : Int32)), .val (.int (0 : Int32)), .val (.ref b27), .val (.int (0 : Int32))] []))
              refine Go.by (fun _ => XS.iconst X30.here hx rfl (hb hby at_126)) ?_
              show Go p.tables e below _ (T30.setTop (mkF m 127 #[.val (.long p0), .second, .val (.long p1), .second, .val (.int p2), .val (.long jh), .second, .val (.long jl), .second, .val (.ref b3), .val (.ref b7), .val (.int (0 : Int32)), .val (.int (0 : Int32)), .val (.ref b27), .val (.int (0 : Int32))] [(.int (1 : Int32))]))
              refine Go.by (fun _ => XS.goto X30.here hx rfl (pc0 := 127) (pc' := 131) rfl (hb hby at_127) (by decide) (by decide)) ?_
              show Go p.tables e below _ (T30.setTop (mkF m 131 #[.val (.long p0), .second, .val (.long p1), .second, .val (.int p2), .val (.long jh), .second, .val (.long jl), .second, .val (.ref b3), .val (.ref b7), .val (.int (0 : Int32)), .val (.int (0 : Int32)), .val (.ref b27), .val (.int (0 : Int32))] [(.int (1 : Int32))]))
              exact Go.retN X30 hx hlk (z' := (1 : Int32)) hret (by simp) (hb hby at_131) rfl (by decide) (by decide) rfl
      · skip
        show Go p.tables e below _ (T6.setTop (mkF m 46 #[.val (.long p0), .second, .val (.long p1), .second, .val (.int p2), .val (.long jh), .second, .val (.long jl), .second, .val (.ref b3), .unset, .unset, .unset, .unset, .unset] [(.int (0 : Int32))]))
        refine Go.by (fun _ => XS.ifNo X6.here hx rfl (hb hby at_46) rfl ((if0 _ _).trans (teq (by decide)).2)) ?_
        show Go p.tables e below _ (T6.setTop (mkF m 49 #[.val (.long p0), .second, .val (.long p1), .second, .val (.int p2), .val (.long jh), .second, .val (.long jl), .second, .val (.ref b3), .unset, .unset, .unset, .unset, .unset] []))
        refine Go.by (fun _ => XS.iconst X6.here hx rfl (hb hby at_49)) ?_
        show Go p.tables e below _ (T6.setTop (mkF m 50 #[.val (.long p0), .second, .val (.long p1), .second, .val (.int p2), .val (.long jh), .second, .val (.long jl), .second, .val (.ref b3), .unset, .unset, .unset, .unset, .unset] [(.int (0 : Int32))]))
        refine Go.retN X6 hx hlk (z' := (0 : Int32)) hret (by simp) (hb hby at_50) rfl (by decide) (by decide) ?_
        exfalso
        simp only [lw_eq, own_or] at hz6
        simp_all
    by_cases hc22_31 : (p2 &&& (2 : Int32)) = (0 : Int32)
    · skip
      refine Go.by (fun _ => XS.ifYes Xj1.here hx rfl (pc0 := 22) (pc' := 29) rfl (hb hby at_22) rfl ((if0 _ _).trans (teq hc22_31).1) (by decide) (by decide)) ?_
      show Go p.tables e below _ (Tj1.setTop (mkF m 29 #[.val (.long p0), .second, .val (.long p1), .second, .val (.int p2), .val (.long jh), .second, .unset, .unset, .unset, .unset, .unset, .unset, .unset, .unset] []))
      refine Go.by (fun _ => XS.lloadN Xj1.here hx rfl (hb hby at_29) rfl) ?_
      show Go p.tables e below _ (Tj1.setTop (mkF m 30 #[.val (.long p0), .second, .val (.long p1), .second, .val (.int p2), .val (.long jh), .second, .unset, .unset, .unset, .unset, .unset, .unset, .unset, .unset] [(.long p1)]))
      exact J2 _ Xj1 _ trivial
    · skip
      refine Go.by (fun _ => XS.ifNo Xj1.here hx rfl (hb hby at_22) rfl ((if0 _ _).trans (feq hc22_31).1)) ?_
      show Go p.tables e below _ (Tj1.setTop (mkF m 25 #[.val (.long p0), .second, .val (.long p1), .second, .val (.int p2), .val (.long jh), .second, .unset, .unset, .unset, .unset, .unset, .unset, .unset, .unset] []))
      refine Go.by (fun _ => XS.lconst Xj1.here hx rfl (hb hby at_25)) ?_
      show Go p.tables e below _ (Tj1.setTop (mkF m 26 #[.val (.long p0), .second, .val (.long p1), .second, .val (.int p2), .val (.long jh), .second, .unset, .unset, .unset, .unset, .unset, .unset, .unset, .unset] [(.long (0 : Int64))]))
      refine Go.by (fun _ => XS.goto Xj1.here hx rfl (pc0 := 26) (pc' := 30) rfl (hb hby at_26) (by decide) (by decide)) ?_
      show Go p.tables e below _ (Tj1.setTop (mkF m 30 #[.val (.long p0), .second, .val (.long p1), .second, .val (.int p2), .val (.long jh), .second, .unset, .unset, .unset, .unset, .unset, .unset, .unset, .unset] [(.long (0 : Int64))]))
      exact J2 _ Xj1 _ trivial
  by_cases hc4_32 : (p2 &&& (1 : Int32)) = (0 : Int32)
  · skip
    refine Go.by (fun _ => XS.ifYes X0.here hx rfl (pc0 := 4) (pc' := 11) rfl (hb hby at_4) rfl ((if0 _ _).trans (teq hc4_32).1) (by decide) (by decide)) ?_
    show Go p.tables e below _ (T0.setTop (mkF m 11 #[.val (.long p0), .second, .val (.long p1), .second, .val (.int p2), .unset, .unset, .unset, .unset, .unset, .unset, .unset, .unset, .unset, .unset] []))
    refine Go.by (fun _ => XS.lloadN X0.here hx rfl (hb hby at_11) rfl) ?_
    show Go p.tables e below _ (T0.setTop (mkF m 12 #[.val (.long p0), .second, .val (.long p1), .second, .val (.int p2), .unset, .unset, .unset, .unset, .unset, .unset, .unset, .unset, .unset, .unset] [(.long p0)]))
    refine Go.by (X0.ldc2Long hx hZ hown (tw hw 0 rfl) (g := (mkF m 12 #[.val (.long p0), .second, .val (.long p1), .second, .val (.int p2), .unset, .unset, .unset, .unset, .unset, .unset, .unset, .unset, .unset, .unset] [(.long p0)])) rfl (hb hby at_12)) ?_
    show Go p.tables e below _ (T0.setTop (mkF m 15 #[.val (.long p0), .second, .val (.long p1), .second, .val (.int p2), .unset, .unset, .unset, .unset, .unset, .unset, .unset, .unset, .unset, .unset] [(.long (9223372036854775807 : Int64)), (.long p0)]))
    refine Go.by (fun _ => XS.land X0.here hx rfl (hb hby at_15) rfl) ?_
    show Go p.tables e below _ (T0.setTop (mkF m 16 #[.val (.long p0), .second, .val (.long p1), .second, .val (.int p2), .unset, .unset, .unset, .unset, .unset, .unset, .unset, .unset, .unset, .unset] [(.long (p0 &&& (9223372036854775807 : Int64)))]))
    exact J1 _ X0 _ (own_nn _)
  · skip
    refine Go.by (fun _ => XS.ifNo X0.here hx rfl (hb hby at_4) rfl ((if0 _ _).trans (feq hc4_32).1)) ?_
    show Go p.tables e below _ (T0.setTop (mkF m 7 #[.val (.long p0), .second, .val (.long p1), .second, .val (.int p2), .unset, .unset, .unset, .unset, .unset, .unset, .unset, .unset, .unset, .unset] []))
    refine Go.by (fun _ => XS.lconst X0.here hx rfl (hb hby at_7)) ?_
    show Go p.tables e below _ (T0.setTop (mkF m 8 #[.val (.long p0), .second, .val (.long p1), .second, .val (.int p2), .unset, .unset, .unset, .unset, .unset, .unset, .unset, .unset, .unset, .unset] [(.long (0 : Int64))]))
    refine Go.by (fun _ => XS.goto X0.here hx rfl (pc0 := 8) (pc' := 16) rfl (hb hby at_8) (by decide) (by decide)) ?_
    show Go p.tables e below _ (T0.setTop (mkF m 16 #[.val (.long p0), .second, .val (.long p1), .second, .val (.int p2), .unset, .unset, .unset, .unset, .unset, .unset, .unset, .unset, .unset, .unset] [(.long (0 : Int64))]))
    exact J1 _ X0 _ (by decide)
set_option maxRecDepth 65536 in
set_option maxHeartbeats 40000000 in
theorem comes_1 {Post : Tables → Env → Array Value → State → Outcome → State → Prop} (hpost : ∀ tb e args s v u, (limb_1_1.after args s (.returned v) u = true ∧ limb_1_2.after args s (.returned v) u = true ∧ True) → FrameEnd s (.returned v) u (Jvm.fieldLocs frame_1_writes args s ++ Jvm.arrayLocs frame_1_arrays args s ++ Jvm.staticLocs frame_1_statics s) 16 128 → Post tb e args s (.returned v) u) :
    ArmFor flags0 classFile x code maxLocals ret World_1 tables_1 room_1 Calls_1 rest_1 Pre_1 Post := by
  intro l hfl _ _ p e ha hc hk s m args below hf hA hF happ hP
  obtain ⟨hcalls, hrest, hpre⟩ := hP
  obtain ⟨-, -, -, hnamed, -, -, -, hat⟩ := (Spec.applies_iff hf).mp happ
  obtain ⟨hg, hn⟩ := and_e (Cond.before_iff.mp (show (Jvm.Cond.and given_1 narrow_1).before args s = true from hpre))
  obtain ⟨gc, gr0⟩ := and_e hg
  obtain ⟨ga0, gr1⟩ := and_e gr0
  obtain ⟨ga1, ga2⟩ := and_e gr1
  obtain ⟨w0, w1, w2, rfl⟩ : ∃ w0 w1 w2 : Value, args = #[w0, w1, w2] := by
    have hs : args.size = 3 := by simpa [Cond.value, given_1] using gc
    obtain ⟨L⟩ := args
    match L, hs with
    | [w0, w1, w2], _ => exact ⟨w0, w1, w2, rfl⟩
  have hw := fun d (hd : d ∈ tables_1) => atoms_spec (ws := Jvm.Cond.code x code maxLocals ret :: tables_1) hat d (List.mem_cons_of_mem _ hd)
  have hfit : Fit s := fun {y c} hc i hi => by
    obtain ⟨ha, rfl⟩ := Array.getElem?_eq_some_iff.mp hc
    have q := List.all_eq_true.mp ((Array.all_eq_true_iff_forall_mem.mp hF) _ (Array.getElem_mem ha)) i (List.mem_range.mpr hi)
    simpa [Array.getElem?_eq_getElem hi] using q
  obtain ⟨i0, ei0⟩ := isL_v ga0
  obtain rfl : w0 = (.long i0) := Option.some.inj ei0
  obtain ⟨i1, ei1⟩ := isL_v ga1
  obtain rfl : w1 = (.long i1) := Option.some.inj ei1
  obtain ⟨i2, ei2⟩ := is_v ga2
  obtain rfl : w2 = (.int i2) := Option.some.inj ei2
  obtain ⟨n, o, h1, h2, h3, _, L, rfl, ⟨rfl, N⟩, hq⟩ := rm0 l s _ hw tables_1 i0 i1 i2 s.heap s.heap.size (Nat.le_refl _) p e ha hc hk s m _ below hf ((Spec.applies_iff_loose hf).mp happ).1 ⟨rfl, State.Warmed39.refl s, rfl⟩ trivial
  refine ⟨n, _, h1, h2, h3, hpost _ _ _ _ _ _ ⟨Cond.after_iff.mpr rfl, Cond.after_iff.mpr (eq_i res_at (Term.int_eval (1)) rfl), trivial⟩ ⟨hq.1, hq.2.1, (hq.2.2.sift fun y hy => Or.inr (N y hy)).mono (by decide) (by decide)⟩⟩
theorem main_1_1 : Claimed_1_1 := comes_1 fun _ _ _ _ _ _ h hF => ⟨h.1, hF⟩
theorem main_1_2 : Claimed_1_2 := comes_1 fun _ _ _ _ _ _ h hF => ⟨h.2.1, hF⟩
end Jvm.Pilot.@@N@@
namespace Jvm.Pilot.@@N@@
open Jvm Jvm.ClassFile Sem Op Lib Jvm.Free Jvm.Stand Jvm.Pilot.@@N@@.Jvm.D
/-! MADE BY PROGRAM (witnessworld.py) out of the Statement's table words and the real class files: 14 classes; the members and pool entries that the words name. The judged class is class 1, her method 1. -/
namespace start1
open Jvm.ClassFile
def u (s : String) : CpInfo := .utf8 (stringToUtf16 s)
/-- a pool by its gaps: so many unusable entries, then the entry; so many at the end -/
def gap : Nat → List CpInfo → List CpInfo
  | 0, r => r
  | n + 1, r => .unusable :: gap n r
def poolList (es : List (Nat × CpInfo)) (last : Nat) : List CpInfo := es.foldr (fun e r => gap e.1 (e.2 :: r)) (gap last [])
def pool (es : List (Nat × CpInfo)) (last : Nat) : Array CpInfo := ⟨poolList es last⟩
def fileOf (pool : Array CpInfo) (this : Nat) (attrs : Array Attribute := #[]) (ms : Array MethodInfo := #[]) (fl : Nat := 33) (sup : Nat := 0) (ifs : Array Nat := #[]) (fds : Array FieldInfo := #[]) : ClassFile where
  minorVersion := 0
  majorVersion := 65
  constantPool := pool
  accessFlags := fl
  thisClass := this
  superClass := sup
  interfaces := ifs
  fields := fds
  methods := ms
  attributes := attrs
def plain (name : String) (sup : Option ClassId) : Class where
  name := name
  kind := .ordinary
  loader := none
  accessFlags := 33
  super := sup
  interfaces := #[]
  cf := none
  fields := #[]
  methods := #[]
  instanceTypes := #[]
  staticTypes := #[]
  resolved := #[]
  callSites := []
  init := .initialized
  statics := none
  mirror := none

def pool0 : Array CpInfo := pool [(5, u "<init>"), (0, u "()V"), (1, .class_ 10), (1, u "java/lang/Object")] 113

def k0c0 : Code := { maxStack := 0, maxLocals := 1, code := object_method_1_code, exceptionTable := #[], attributes := #[] }
def k0m0 : Method := { name := "<init>", desc := "()V", sig := { parameters := [], returnType := none }, accessFlags := 1, code := some k0c0 }
/-- java/lang/Object -/
def k0 : Class := { plain "java/lang/Object" none with
  accessFlags := 33
  interfaces := #[]
  cf := some (fileOf pool0 8 #[] #[{ accessFlags := 1, nameIndex := 5, descriptorIndex := 6, attributes := #[] }] 33 0 #[] #[])
  fields := #[]
  methods := #[k0m0]
  instanceTypes := #[]
  staticTypes := #[]
  resolved := Array.replicate 124 none
  statics := none }

def pool1 : Array CpInfo := pool [(2, .class_ 4), (0, .nameAndType 5 6), (0, u "java/lang/Object"), (0, u "<init>"), (0, u "()V"), (2, .long 9223372036854775807), (1, .class_ 12), (0, u "com/example/spotline/spotline/decimal/Amount"), (0, .methodref 11 3), (0, .methodref 11 15), (0, .nameAndType 16 17), (0, u "isZero"), (0, u "()Z"), (0, .methodref 11 19), (0, .nameAndType 20 21), (0, u "set"), (0, u "(JJ)Lcom/example/spotline/spotline/decimal/Amount;"), (0, .methodref 11 23), (0, .nameAndType 24 25), (0, u "covers"), (0, u "(Lcom/example/spotline/spotline/decimal/Amount;)Z"), (0, .class_ 27), (0, u "com/example/spotline/spotline/decimal/AmountIsZeroPinLaw"), (2, u "law"), (0, u "(JJI)Z")] 3

def k1m0 : Method := { name := "<init>", desc := "()V", sig := { parameters := [], returnType := none }, accessFlags := 1, code := none }
def k1c1 : Code := { maxStack := 5, maxLocals := 15, code := code, exceptionTable := #[], attributes := #[] }
def k1m1 : Method := { name := "law", desc := "(JJI)Z", sig := { parameters := [.long, .long, .int], returnType := some .boolean }, accessFlags := 9, code := some k1c1 }
/-- com/example/spotline/spotline/decimal/AmountIsZeroPinLaw -/
def k1 : Class := { plain "com/example/spotline/spotline/decimal/AmountIsZeroPinLaw" (some 0) with
  accessFlags := 49
  interfaces := #[]
  cf := some (fileOf pool1 26 #[] #[{ accessFlags := 1, nameIndex := 5, descriptorIndex := 6, attributes := #[] }, { accessFlags := 9, nameIndex := 30, descriptorIndex := 31, attributes := #[] }] 49 2 #[] #[])
  fields := #[]
  methods := #[k1m0, k1m1]
  instanceTypes := #[]
  staticTypes := #[]
  resolved := Array.replicate 35 none
  statics := none }

def pool2 : Array CpInfo := pool [(1, .methodref 2 3), (0, .class_ 4), (0, .nameAndType 5 6), (0, u "java/lang/Object"), (0, u "<init>"), (0, u "()V"), (20, .class_ 29), (1, u "com/example/spotline/spotline/decimal/Amount"), (0, u "TWO_TO_THE_64"), (0, u "Ljava/math/BigInteger;"), (11, .methodref 44 45), (0, .class_ 46), (0, .nameAndType 47 48), (0, u "java/lang/Long"), (0, u "compareUnsigned"), (0, u "(JJ)I"), (6, .fieldref 27 56), (0, .nameAndType 57 58), (0, u "high"), (0, u "J"), (0, .fieldref 27 60), (0, .nameAndType 61 58), (0, u "low"), (17, u "MOST"), (37, u "POWERS_OF_TEN"), (0, u "[J"), (13, u "covers"), (0, u "(Lcom/example/spotline/spotline/decimal/Amount;)Z"), (24, u "isZero"), (0, u "()Z"), (0, u "set"), (1, u "(JJ)Lcom/example/spotline/spotline/decimal/Amount;")] 27

def k2c0 : Code := { maxStack := 1, maxLocals := 1, code := prog_7_method_1_code, exceptionTable := #[], attributes := #[] }
def k2m0 : Method := { name := "<init>", desc := "()V", sig := { parameters := [], returnType := none }, accessFlags := 1, code := some k2c0 }
def k2c1 : Code := { maxStack := 4, maxLocals := 1, code := prog_7_method_9_code, exceptionTable := #[], attributes := #[] }
def k2m1 : Method := { name := "isZero", desc := "()Z", sig := { parameters := [], returnType := some .boolean }, accessFlags := 1, code := some k2c1 }
def k2c2 : Code := { maxStack := 4, maxLocals := 2, code := prog_7_method_10_code, exceptionTable := #[], attributes := #[] }
def k2m2 : Method := { name := "covers", desc := "(Lcom/example/spotline/spotline/decimal/Amount;)Z", sig := { parameters := [(.object "com/example/spotline/spotline/decimal/Amount")], returnType := some .boolean }, accessFlags := 1, code := some k2c2 }
def k2c3 : Code := { maxStack := 4, maxLocals := 5, code := prog_7_method_12_code, exceptionTable := #[], attributes := #[] }
def k2m3 : Method := { name := "set", desc := "(JJ)Lcom/example/spotline/spotline/decimal/Amount;", sig := { parameters := [.long, .long], returnType := some (.object "com/example/spotline/spotline/decimal/Amount") }, accessFlags := 1, code := some k2c3 }
/-- com/example/spotline/spotline/decimal/Amount -/
def k2 : Class := { plain "com/example/spotline/spotline/decimal/Amount" (some 0) with
  accessFlags := 49
  interfaces := #[]
  cf := some (fileOf pool2 27 #[] #[{ accessFlags := 1, nameIndex := 5, descriptorIndex := 6, attributes := #[] }, { accessFlags := 1, nameIndex := 158, descriptorIndex := 159, attributes := #[] }, { accessFlags := 1, nameIndex := 132, descriptorIndex := 133, attributes := #[] }, { accessFlags := 1, nameIndex := 160, descriptorIndex := 162, attributes := #[] }] 49 2 #[] #[{ accessFlags := 25, nameIndex := 79, descriptorIndex := 31, attributes := #[] }, { accessFlags := 26, nameIndex := 30, descriptorIndex := 31, attributes := #[] }, { accessFlags := 26, nameIndex := 117, descriptorIndex := 118, attributes := #[] }, { accessFlags := 2, nameIndex := 57, descriptorIndex := 58, attributes := #[] }, { accessFlags := 2, nameIndex := 61, descriptorIndex := 58, attributes := #[] }])
  fields := #[{ name := "MOST", type := (.object "java/math/BigInteger"), accessFlags := 25, slot := 0, constantValue := 0 }, { name := "TWO_TO_THE_64", type := (.object "java/math/BigInteger"), accessFlags := 26, slot := 1, constantValue := 0 }, { name := "POWERS_OF_TEN", type := (.array .long), accessFlags := 26, slot := 2, constantValue := 0 }, { name := "high", type := .long, accessFlags := 2, slot := 0, constantValue := 0 }, { name := "low", type := .long, accessFlags := 2, slot := 1, constantValue := 0 }]
  methods := #[k2m0, k2m1, k2m2, k2m3]
  instanceTypes := #[.long, .long]
  staticTypes := #[(.object "java/math/BigInteger"), (.object "java/math/BigInteger"), (.array .long)]
  resolved := Array.replicate 190 none
  statics := none }

def pool3 : Array CpInfo := pool [(1, .class_ 2), (0, u "java/io/Serializable"), (0, .class_ 4), (0, u "java/lang/Object")] 2

/-- java/io/Serializable -/
def k3 : Class := { plain "java/io/Serializable" (some 0) with
  accessFlags := 1537
  interfaces := #[]
  cf := some (fileOf pool3 1 #[] #[] 1537 3 #[] #[])
  fields := #[]
  methods := #[]
  instanceTypes := #[]
  staticTypes := #[]
  resolved := Array.replicate 7 none
  statics := none }

def pool4 : Array CpInfo := pool [(2, .class_ 4), (1, u "java/lang/Object"), (0, u "<init>"), (0, u "()V"), (1, .class_ 10), (1, u "java/lang/Number"), (2, .class_ 14), (0, u "java/io/Serializable"), (0, u "serialVersionUID"), (0, u "J")] 20

def k4m0 : Method := { name := "<init>", desc := "()V", sig := { parameters := [], returnType := none }, accessFlags := 1, code := none }
/-- java/lang/Number -/
def k4 : Class := { plain "java/lang/Number" (some 0) with
  accessFlags := 1057
  interfaces := #[3]
  cf := some (fileOf pool4 8 #[] #[{ accessFlags := 1, nameIndex := 5, descriptorIndex := 6, attributes := #[] }] 1057 2 #[13] #[{ accessFlags := 26, nameIndex := 15, descriptorIndex := 16, attributes := #[] }])
  fields := #[{ name := "serialVersionUID", type := .long, accessFlags := 26, slot := 0, constantValue := 0 }]
  methods := #[k4m0]
  instanceTypes := #[]
  staticTypes := #[.long]
  resolved := Array.replicate 37 none
  statics := none }

def pool5 : Array CpInfo := pool [(1, .class_ 2), (0, u "java/lang/Comparable"), (0, .class_ 4), (0, u "java/lang/Object")] 7

/-- java/lang/Comparable -/
def k5 : Class := { plain "java/lang/Comparable" (some 0) with
  accessFlags := 1537
  interfaces := #[]
  cf := some (fileOf pool5 1 #[] #[] 1537 3 #[] #[])
  fields := #[]
  methods := #[]
  instanceTypes := #[]
  staticTypes := #[]
  resolved := Array.replicate 12 none
  statics := none }

def pool6 : Array CpInfo := pool [(1, .class_ 2), (0, u "java/lang/constant/Constable"), (0, .class_ 4), (0, u "java/lang/Object")] 6

/-- java/lang/constant/Constable -/
def k6 : Class := { plain "java/lang/constant/Constable" (some 0) with
  accessFlags := 1537
  interfaces := #[]
  cf := some (fileOf pool6 1 #[] #[] 1537 3 #[] #[])
  fields := #[]
  methods := #[]
  instanceTypes := #[]
  staticTypes := #[]
  resolved := Array.replicate 11 none
  statics := none }

def pool7 : Array CpInfo := pool [(1, .class_ 2), (0, u "java/lang/constant/ConstantDesc"), (0, .class_ 4), (0, u "java/lang/Object")] 32

/-- java/lang/constant/ConstantDesc -/
def k7 : Class := { plain "java/lang/constant/ConstantDesc" (some 0) with
  accessFlags := 1537
  interfaces := #[]
  cf := some (fileOf pool7 1 #[] #[] 1537 3 #[] #[])
  fields := #[]
  methods := #[]
  instanceTypes := #[]
  staticTypes := #[]
  resolved := Array.replicate 37 none
  statics := none }

def pool8 : Array CpInfo := pool [(1, .class_ 2), (0, u "java/lang/Long"), (165, .long 9223372036854775808), (66, .class_ 237), (1, u "java/lang/Long$LongCache"), (33, .class_ 272), (0, u "java/lang/Number"), (2, u "value"), (0, u "J"), (25, .methodref 1 303), (0, .nameAndType 304 305), (0, u "compare"), (0, u "(JJ)I"), (55, u "TYPE"), (0, u "Ljava/lang/Class;"), (0, .class_ 364), (0, u "java/lang/Comparable"), (0, .class_ 366), (0, u "java/lang/constant/Constable"), (0, .class_ 368), (0, u "java/lang/constant/ConstantDesc"), (0, u "MIN_VALUE"), (1, u "MAX_VALUE"), (4, u "SIZE"), (0, u "I"), (1, u "BYTES"), (1, u "serialVersionUID"), (87, u "compareUnsigned")] 54

def k8c0 : Code := { maxStack := 4, maxLocals := 4, code := jdk_35_method_42_code, exceptionTable := #[], attributes := #[] }
def k8m0 : Method := { name := "compare", desc := "(JJ)I", sig := { parameters := [.long, .long], returnType := some .int }, accessFlags := 9, code := some k8c0 }
def k8c1 : Code := { maxStack := 6, maxLocals := 4, code := jdk_35_method_43_code, exceptionTable := #[], attributes := #[] }
def k8m1 : Method := { name := "compareUnsigned", desc := "(JJ)I", sig := { parameters := [.long, .long], returnType := some .int }, accessFlags := 9, code := some k8c1 }
/-- java/lang/Long -/
def k8 : Class := { plain "java/lang/Long" (some 4) with
  accessFlags := 49
  interfaces := #[5, 6, 7]
  cf := some (fileOf pool8 1 #[.nestMembers #[235]] #[{ accessFlags := 9, nameIndex := 304, descriptorIndex := 305, attributes := #[] }, { accessFlags := 9, nameIndex := 469, descriptorIndex := 305, attributes := #[] }] 49 271 #[363, 365, 367] #[{ accessFlags := 25, nameIndex := 369, descriptorIndex := 276, attributes := #[] }, { accessFlags := 25, nameIndex := 371, descriptorIndex := 276, attributes := #[] }, { accessFlags := 25, nameIndex := 361, descriptorIndex := 362, attributes := #[] }, { accessFlags := 18, nameIndex := 275, descriptorIndex := 276, attributes := #[] }, { accessFlags := 25, nameIndex := 376, descriptorIndex := 377, attributes := #[] }, { accessFlags := 25, nameIndex := 379, descriptorIndex := 377, attributes := #[] }, { accessFlags := 26, nameIndex := 381, descriptorIndex := 276, attributes := #[] }])
  fields := #[{ name := "MIN_VALUE", type := .long, accessFlags := 25, slot := 0, constantValue := 0 }, { name := "MAX_VALUE", type := .long, accessFlags := 25, slot := 1, constantValue := 0 }, { name := "TYPE", type := (.object "java/lang/Class"), accessFlags := 25, slot := 2, constantValue := 0 }, { name := "value", type := .long, accessFlags := 18, slot := 0, constantValue := 0 }, { name := "SIZE", type := .int, accessFlags := 25, slot := 3, constantValue := 0 }, { name := "BYTES", type := .int, accessFlags := 25, slot := 4, constantValue := 0 }, { name := "serialVersionUID", type := .long, accessFlags := 26, slot := 5, constantValue := 0 }]
  methods := #[k8m0, k8m1]
  instanceTypes := #[.long]
  staticTypes := #[.long, .long, (.object "java/lang/Class"), .int, .int, .long]
  resolved := Array.replicate 524 none
  statics := none }

def pool9 : Array CpInfo := pool [(1, u "java/lang/Cloneable"), (0, .class_ 1), (0, u "java/lang/Object"), (0, .class_ 3)] 3

/-- java/lang/Cloneable -/
def k9 : Class := { plain "java/lang/Cloneable" (some 0) with
  accessFlags := 1537
  interfaces := #[]
  cf := some (fileOf pool9 2 #[] #[] 1537 4 #[] #[])
  fields := #[]
  methods := #[]
  instanceTypes := #[]
  staticTypes := #[]
  resolved := Array.replicate 8 none
  statics := none }

/-- the primitive byte -/
def k10 : Class := { plain "byte" none with kind := .primitive 'B', accessFlags := 0x411 }
/-- [B -/
def k11 : Class := { plain "[B" (some 0) with kind := .array 10 .byte, interfaces := #[9, 3], accessFlags := 1041 }

/-- the primitive int -/
def k12 : Class := { plain "int" none with kind := .primitive 'I', accessFlags := 0x411 }
/-- [I -/
def k13 : Class := { plain "[I" (some 0) with kind := .array 12 .int, interfaces := #[9, 3], accessFlags := 1041 }

def heap : Heap := #[]
def classes : Array Class := #[k0, k1, k2, k3, k4, k5, k6, k7, k8, k9, k10, k11, k12, k13]
def interned : List (Array UInt16 × Addr) := []
def slotsUsed : Nat := 0
def theMethod : MethodId := ⟨1, 1⟩
def args0 : Array Value := #[.long 5, .long 7, .int 0]
def aboutOver (below : List Frame) : State where
  vm := { classes := classes, interned := interned.toArray }
  heap := heap
  slotsUsed := slotsUsed
  threads := #[{ frames := .invoking theMethod args0 :: below }]
def below0 : List Frame := [.native { method := ⟨0, 0⟩, args := #[] }]
def about1 : State := aboutOver below0
def p0 : Program := .bare "" "" ""
def e0 : Env := launch0.env 0 0 0
theorem w_frames : about1.frames = Frame.invoking theMethod args0 :: below0 := rfl
set_option maxRecDepth 65536 in
theorem w_args : argsFit about1.vm theMethod args0 = true := by decide +kernel
set_option maxRecDepth 65536 in
theorem w_heap : heapFits about1 = true := by decide +kernel
set_option maxRecDepth 65536 in
theorem w_runnable : about1.curStatus? = some .runnable := by decide +kernel
set_option maxRecDepth 65536 in
theorem w_alone : about1.alone = true := by decide +kernel
set_option maxRecDepth 65536 in
theorem w_named : about1.methodNamed? x = some theMethod := by decide +kernel
set_option maxRecDepth 65536 in
theorem w_hears : about1.hears theMethod below0 = true := by decide +kernel
set_option maxRecDepth 65536 in
theorem w_ripe : about1.ripe theMethod args0 below0 = true := by decide +kernel
theorem w_running : about1.status = .running := rfl
set_option maxRecDepth 65536 in
theorem w_room : about1.hasRoom e0.platform room_1 = true :=
  launch0.hasRoom_least _ room_1 (by decide +kernel) (by decide +kernel) (by decide +kernel) (by decide +kernel) (by decide +kernel) (by decide +kernel)
theorem allAtoms_all (ts : List Jvm.Cond) (a : Array Jvm.Value) (st : Jvm.State) : (allAtoms ts).before a st = ts.all (fun c => c.before a st) := by
  induction ts with
  | nil => rfl
  | cons c t ih =>
    show (Jvm.Cond.and c (allAtoms t)).before a st = _
    rw [Jvm.Cond.before_and, ih, List.all_cons]
def words1 : List Jvm.Cond := Jvm.Cond.code x code maxLocals ret :: tables_1
/-- a 'code' word, met by the world's own term for the bytes: nothing is compared byte by byte -/
theorem code_word {y : MethodName} {bytes : ByteArray} {mx : Nat} {rt : Option FieldType} {a : Array Value} {s : State} {m : MethodId} {meth : Method} {c : Code} (h1 : s.methodNamed? y = some m) (h2 : s.vm.method? m = some meth) (h3 : meth.code = some c) (h4 : c.code = bytes)
    (h5 : (c.maxLocals == mx && c.exceptionTable.isEmpty && decide (c.maxStack ≤ mostOperands) && decide (meth.sig.returnType = rt) && !meth.locks && decide (parseMethodDescriptor y.desc = some meth.sig)) = true) : (Jvm.Cond.code y bytes mx rt).before a s = true := by
  simp only [Bool.and_eq_true, beq_iff_eq, Bool.not_eq_true', decide_eq_true_eq] at h5
  obtain ⟨⟨⟨⟨⟨g1, g2⟩, g3⟩, g4⟩, g5⟩, g6⟩ := h5
  simp [Cond.before, Cond.holds, Cond.value, h1, h2, h3, h4, g1, g2, g3, g4, g5, g6]
def isCode : Jvm.Cond → Bool
  | .code _ _ _ _ => true
  | _ => false
theorem all_split {L : List Jvm.Cond} {P : Jvm.Cond → Bool} (h1 : L.all (fun c => isCode c || P c) = true) (h2 : ∀ c ∈ L.filter isCode, P c = true) : L.all P = true := by
  refine List.all_eq_true.mpr fun c hc => ?_
  have h := List.all_eq_true.mp h1 c hc
  rcases Bool.eq_false_or_eq_true (isCode c) with hi | hi
  · exact h2 c (List.mem_filter.mpr ⟨hc, hi⟩)
  · simpa [hi] using h
set_option maxRecDepth 65536 in
theorem w_c0 : (Jvm.Cond.code x code maxLocals ret).before args0 about1 = true := code_word (m := ⟨1, 1⟩) (meth := k1m1) (c := k1c1) (by decide +kernel) rfl rfl rfl (by decide +kernel)
set_option maxRecDepth 65536 in
theorem w_c1 : (Jvm.Cond.code ({ cls := "com/example/spotline/spotline/decimal/Amount", name := "<init>", desc := "()V" } : Jvm.MethodName) prog_7_method_1_code (1 : Nat) (Option.none : Option Jvm.ClassFile.FieldType)).before args0 about1 = true := code_word (m := ⟨2, 0⟩) (meth := k2m0) (c := k2c0) (by decide +kernel) rfl rfl rfl (by decide +kernel)
set_option maxRecDepth 65536 in
theorem w_c2 : (Jvm.Cond.code ({ cls := "java/lang/Object", name := "<init>", desc := "()V" } : Jvm.MethodName) object_method_1_code (1 : Nat) (Option.none : Option Jvm.ClassFile.FieldType)).before args0 about1 = true := code_word (m := ⟨0, 0⟩) (meth := k0m0) (c := k0c0) (by decide +kernel) rfl rfl rfl (by decide +kernel)
set_option maxRecDepth 65536 in
theorem w_c3 : (Jvm.Cond.code ({ cls := "com/example/spotline/spotline/decimal/Amount", name := "isZero", desc := "()Z" } : Jvm.MethodName) prog_7_method_9_code (1 : Nat) (Option.some Jvm.ClassFile.FieldType.boolean)).before args0 about1 = true := code_word (m := ⟨2, 1⟩) (meth := k2m1) (c := k2c1) (by decide +kernel) rfl rfl rfl (by decide +kernel)
set_option maxRecDepth 65536 in
theorem w_c4 : (Jvm.Cond.code ({ cls := "com/example/spotline/spotline/decimal/Amount", name := "set", desc := "(JJ)Lcom/example/spotline/spotline/decimal/Amount;" } : Jvm.MethodName) prog_7_method_12_code (5 : Nat) (Option.some (Jvm.ClassFile.FieldType.object "com/example/spotline/spotline/decimal/Amount"))).before args0 about1 = true := code_word (m := ⟨2, 3⟩) (meth := k2m3) (c := k2c3) (by decide +kernel) rfl rfl rfl (by decide +kernel)
set_option maxRecDepth 65536 in
theorem w_c5 : (Jvm.Cond.code ({ cls := "com/example/spotline/spotline/decimal/Amount", name := "covers", desc := "(Lcom/example/spotline/spotline/decimal/Amount;)Z" } : Jvm.MethodName) prog_7_method_10_code (2 : Nat) (Option.some Jvm.ClassFile.FieldType.boolean)).before args0 about1 = true := code_word (m := ⟨2, 2⟩) (meth := k2m2) (c := k2c2) (by decide +kernel) rfl rfl rfl (by decide +kernel)
set_option maxRecDepth 65536 in
theorem w_c6 : (Jvm.Cond.code ({ cls := "java/lang/Long", name := "compareUnsigned", desc := "(JJ)I" } : Jvm.MethodName) jdk_35_method_43_code (4 : Nat) (Option.some Jvm.ClassFile.FieldType.int)).before args0 about1 = true := code_word (m := ⟨8, 1⟩) (meth := k8m1) (c := k8c1) (by decide +kernel) rfl rfl rfl (by decide +kernel)
set_option maxRecDepth 65536 in
theorem w_c7 : (Jvm.Cond.code ({ cls := "java/lang/Long", name := "compare", desc := "(JJ)I" } : Jvm.MethodName) jdk_35_method_42_code (4 : Nat) (Option.some Jvm.ClassFile.FieldType.int)).before args0 about1 = true := code_word (m := ⟨8, 0⟩) (meth := k8m0) (c := k8c0) (by decide +kernel) rfl rfl rfl (by decide +kernel)
def codes1 : List Jvm.Cond := [Jvm.Cond.code x code maxLocals ret, Jvm.Cond.code ({ cls := "com/example/spotline/spotline/decimal/Amount", name := "<init>", desc := "()V" } : Jvm.MethodName) prog_7_method_1_code (1 : Nat) (Option.none : Option Jvm.ClassFile.FieldType), Jvm.Cond.code ({ cls := "java/lang/Object", name := "<init>", desc := "()V" } : Jvm.MethodName) object_method_1_code (1 : Nat) (Option.none : Option Jvm.ClassFile.FieldType), Jvm.Cond.code ({ cls := "com/example/spotline/spotline/decimal/Amount", name := "isZero", desc := "()Z" } : Jvm.MethodName) prog_7_method_9_code (1 : Nat) (Option.some Jvm.ClassFile.FieldType.boolean), Jvm.Cond.code ({ cls := "com/example/spotline/spotline/decimal/Amount", name := "set", desc := "(JJ)Lcom/example/spotline/spotline/decimal/Amount;" } : Jvm.MethodName) prog_7_method_12_code (5 : Nat) (Option.some (Jvm.ClassFile.FieldType.object "com/example/spotline/spotline/decimal/Amount")), Jvm.Cond.code ({ cls := "com/example/spotline/spotline/decimal/Amount", name := "covers", desc := "(Lcom/example/spotline/spotline/decimal/Amount;)Z" } : Jvm.MethodName) prog_7_method_10_code (2 : Nat) (Option.some Jvm.ClassFile.FieldType.boolean), Jvm.Cond.code ({ cls := "java/lang/Long", name := "compareUnsigned", desc := "(JJ)I" } : Jvm.MethodName) jdk_35_method_43_code (4 : Nat) (Option.some Jvm.ClassFile.FieldType.int), Jvm.Cond.code ({ cls := "java/lang/Long", name := "compare", desc := "(JJ)I" } : Jvm.MethodName) jdk_35_method_42_code (4 : Nat) (Option.some Jvm.ClassFile.FieldType.int)]
set_option maxRecDepth 65536 in
theorem codes_eq : words1.filter isCode = codes1 := rfl
theorem w_codes : ∀ c ∈ words1.filter isCode, c.before args0 about1 = true := by
  rw [codes_eq]
  intro c hc
  simp only [codes1, List.mem_cons, List.not_mem_nil, or_false] at hc
  rcases hc with rfl | rfl | rfl | rfl | rfl | rfl | rfl | rfl
  · exact w_c0
  · exact w_c1
  · exact w_c2
  · exact w_c3
  · exact w_c4
  · exact w_c5
  · exact w_c6
  · exact w_c7
set_option maxRecDepth 65536 in
theorem w_t1 : (words1.take 24).all (fun c => isCode c || c.before args0 about1) = true := by decide +kernel
set_option maxRecDepth 65536 in
theorem w_t2 : (words1.drop 24).all (fun c => isCode c || c.before args0 about1) = true := by decide +kernel
theorem w_tables : (allAtoms (Jvm.Cond.code x code maxLocals ret :: tables_1)).before args0 about1 = true := by
  rw [allAtoms_all]
  show words1.all (fun c => c.before args0 about1) = true
  refine all_split ?_ w_codes
  rw [← List.take_append_drop 24 words1, List.all_append, w_t1, w_t2]
  rfl
set_option maxRecDepth 65536 in
theorem w_case : (Jvm.Cond.and given_1 narrow_1).before args0 about1 = true := by decide +kernel
theorem w_applies : (headSpec (Jvm.Cond.code x code maxLocals ret :: tables_1) room_1).applies x e0.platform about1 = true :=
  (Spec.applies_iff w_frames).mpr ⟨w_running, w_runnable, w_alone, w_named, w_hears, w_ripe, w_room, w_tables⟩
theorem atStart : AtStart classFile x code maxLocals ret World_1 tables_1 room_1 Calls_1 rest_1 Pre_1 launch0 p0 e0 about1 theMethod args0 below0 :=
  ⟨lists_1, trivial, launch0.admits_env _ _ _, launch0.least_env, fairChoices_fair.cas, fairChoices_fair.clock, w_frames, w_args, w_heap, w_applies, trivial, trivial, w_case⟩
end start1
theorem witness_1 : WitnessClaimed_1 := ⟨start1.p0, start1.e0, start1.about1, start1.theMethod, start1.args0, start1.below0, start1.atStart⟩
end Jvm.Pilot.@@N@@
