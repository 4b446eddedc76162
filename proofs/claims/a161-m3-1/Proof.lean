import JvmDerived
import JvmDerived.Pilot.@@N@@Statement
import JvmDerived.Pilot.@@N@@Code
set_option linter.unusedVariables false
set_option linter.unusedSimpArgs false
namespace Jvm.RoadKit
open Sem ClassFile Op Lib Jvm.Stand Jvm.Free Jvm.LawKit
/-- the run from S ends, and ends as Q says -/
def Go (tb : Tables) (e : Env) (below : List Frame) (Q : Outcome → State → Prop) (S : State) : Prop := ∃ s₂ o, Steps tb e below S s₂ ∧ s₂.status = .running ∧ Ended s₂ below o ∧ Q o s₂
theorem Go.by {tb : Tables} {e : Env} {below : List Frame} {Q : Outcome → State → Prop} {S S' : State} (h : ∀ t, Steps tb e below S' t → Steps tb e below S t) (k : Go tb e below Q S') : Go tb e below Q S := by
  obtain ⟨s₂, o, h1, r⟩ := k
  exact ⟨s₂, o, h _ h1, r⟩
/-- what a contract says of the end -/
def Ret (s : State) (n0 : Nat) (Q : Option Value → Heap → Prop) (C S : Nat) : Outcome → State → Prop := fun o U => ∃ v L, o = .returned v ∧ (Q v U.heap ∧ Fr n0 L) ∧ FrameEnd s o U L C S
def Met (l : Launch) (Z : State) (n0 : Nat) (y : MethodName) (bytes : ByteArray) (maxL : Nat) (ret : Option FieldType) (ws : List Cond) (rm : Room) (as : Array Value) (h0 : Heap) (Q : Option Value → Heap → Prop) : Prop :=
  MetFree l y (head1 (Cond.code y bytes maxL ret :: ws) rm) (fun a U => a = as ∧ Z.Warmed39 U.vm ∧ U.heap = h0) (fun _ _ _ _ _ => True) (fun _ U o U' => ∃ v L, o = .returned v ∧ (Q v U'.heap ∧ Fr n0 L) ∧ FrameEnd U o U' L rm.cells rm.slots)
/-- where the walk stands: the heap is h, k cells of n slots were made, nothing below n0 was written -/
def Sd (n0 : Nat) (p : Program) (l : Launch) (e : Env) (R : Room) (s : State) (m : MethodId) (args : Array Value) (below : List Frame) (meth : Method) (c : Code) (T : State) (h : Heap) (k n : Nat) : Prop :=
  ∃ locs, Stand p l e R s m args below meth c T locs k n ∧ Fr n0 locs ∧ T.heap = h
section Sds
variable {n0 : Nat} {p : Program} {l : Launch} {e : Env} {R : Room} {s : State} {m : MethodId} {args : Array Value} {below : List Frame} {meth : Method} {c : Code} {T : State} {h : Heap} {k n : Nat} {Z : State} {a0 : Array Value}
theorem catV {v : Value} (h : v.isRef = true) : v.category = 1 := by cases v <;> first | rfl | (cases h; done)
theorem Sd.here (X : Sd n0 p l e R s m args below meth c T h k n) : At T m c below := by obtain ⟨_, X, -⟩ := X; exact X.here
theorem Sd.more (X : Sd n0 p l e R s m args below meth c T h k n) {k' n' : Nat} (hk : k ≤ k') (hn : n ≤ n') : Sd n0 p l e R s m args below meth c T h k' n' := by
  obtain ⟨L, X, N, q⟩ := X; exact ⟨L, X.more hk hn, N, q⟩
theorem enter {y : MethodName} {bytes : ByteArray} {maxL : Nat} {ret : Option FieldType} {ws : List Cond} {rm : Room} {as : Array Value} {h0 : Heap} {Q : Option Value → Heap → Prop} {Ls : Array Slot}
    (hpl : plainFor y = true) (hef : ∀ m, entryFrame m as maxL = mkF m 0 Ls [])
    (body : ∀ (p : Program) (e : Env) (s : State) (m : MethodId) (below : List Frame) (meth : Method) (c : Code) (T0 : State), p.tables.exec = Jvm.exec → c.code = bytes → c.maxLocals = maxL → s.vm.findClass y.cls = some m.cls → meth.name = y.name → meth.sig.returnType = ret → meth.locks = false → Z.Warmed39 s.vm →
      Sd n0 p l e rm s m as below meth c T0 h0 0 0 → Go p.tables e below (Ret s n0 Q rm.cells rm.slots) (T0.setTop (mkF m 0 Ls []))) : Met l Z n0 y bytes maxL ret ws rm as h0 Q := by
  refine MetFree.of_bodySF hpl hisR ?_
  intro p e s m args below meth c s₁ Bd hml0 hP hK
  obtain ⟨rfl, hZ, hh⟩ := hP
  have X0 : Stand p l e rm s m args below meth c s₁ [] 0 0 := Stand.of_body Bd
  have e0 : s₁.heap = h0 := by rw [← hh, Bd.state]; rfl
  have hlk : meth.locks = false := BodyLoose.notSynchronized Bd
  have k := body p e s m below meth c s₁ Bd.exec Bd.bytes hml0 (findClass_of_methodNamed Bd.named) (name_of_methodNamed Bd.named Bd.method).1 Bd.returns hlk hZ ⟨[], X0, Fr.nil n0, e0⟩
  obtain ⟨s₂, o, h1, h2, h3, h4⟩ := k
  exact ⟨s₂, o, castTop (hef m) h1, h2, h3, h4⟩
/-! returns -/
theorem Go.leave (X : Sd n0 p l e R s m args below meth c T h k n) {Q : Option Value → Heap → Prop} {C S : Nat} {v : Option Value} {g : JFrame} (hlk : meth.locks = false) (hv : meth.sig.returnType = none → v = none)
    (hst : ∀ fs, (∀ (f : JFrame) (acts : List Action), f.method = m → f.locked = none → f.entered = [] → (doReturn e (T.setTop f) acts v).1 = T.setFrames fs) → Steps p.tables e below (T.setTop g) (T.setFrames fs))
    (hk : k ≤ C) (hn : n ≤ S) (hQ : Q v h) : Go p.tables e below (Ret s n0 Q C S) (T.setTop g) := by
  obtain ⟨L, X, N, q⟩ := X
  obtain ⟨fs, hr, hrun, hended, hW, hsame⟩ := X.leave (v := v) hv hlk
  refine ⟨_, _, hst fs hr, hrun, hended, _, L, rfl, ⟨?_, N⟩, ⟨_, rfl⟩, hW, hsame.mono hk hn⟩
  show Q v T.heap
  rw [q]; exact hQ
theorem Go.retN (X : Sd n0 p l e R s m args below meth c T h k n) (hx : p.tables.exec = Jvm.exec) (hlk : meth.locks = false) {Q : Option Value → Heap → Prop} {C S : Nat} {t : FieldType} {pc : Nat} {Ls : Array Slot} {z z' : Int32} {rest : List Value} (hret : meth.sig.returnType = some t) (ht : t = .boolean ∨ t = .byte ∨ t = .char ∨ t = .short)
    (hd : decode c.code pc = .ok (.ireturn, 1)) (hz : nar t z = z') (hk : k ≤ C) (hn : n ≤ S) (hQ : Q (some (.int z')) h) : Go p.tables e below (Ret s n0 Q C S) (T.setTop (mkF m pc Ls (.int z :: rest))) := by
  subst hz
  refine Go.leave X hlk (fun q => by rw [hret] at q; cases q) (fun fs hr => ?_) hk hn hQ
  obtain ⟨L, X, -⟩ := X
  exact Jvm.RoadKit.retN X hx hret ht hd hr
theorem Go.retI (X : Sd n0 p l e R s m args below meth c T h k n) (hx : p.tables.exec = Jvm.exec) (hlk : meth.locks = false) {Q : Option Value → Heap → Prop} {C S : Nat} {pc : Nat} {Ls : Array Slot} {z : Int32} {rest : List Value} (hret : meth.sig.returnType = some .int)
    (hd : decode c.code pc = .ok (.ireturn, 1)) (hk : k ≤ C) (hn : n ≤ S) (hQ : Q (some (.int z)) h) : Go p.tables e below (Ret s n0 Q C S) (T.setTop (mkF m pc Ls (.int z :: rest))) := by
  refine Go.leave X hlk (fun q => by rw [hret] at q; cases q) (fun fs hr => ?_) hk hn hQ
  obtain ⟨L, X, -⟩ := X
  exact retOut X hx hret rfl (Or.inl ⟨rfl, Or.inl rfl, _, rfl⟩) hd hr
theorem Go.retL (X : Sd n0 p l e R s m args below meth c T h k n) (hx : p.tables.exec = Jvm.exec) (hlk : meth.locks = false) {Q : Option Value → Heap → Prop} {C S : Nat} {pc : Nat} {Ls : Array Slot} {z : Int64} {rest : List Value} (hret : meth.sig.returnType = some .long)
    (hd : decode c.code pc = .ok (.lreturn, 1)) (hk : k ≤ C) (hn : n ≤ S) (hQ : Q (some (.long z)) h) : Go p.tables e below (Ret s n0 Q C S) (T.setTop (mkF m pc Ls (.long z :: rest))) := by
  refine Go.leave X hlk (fun q => by rw [hret] at q; cases q) (fun fs hr => ?_) hk hn hQ
  obtain ⟨L, X, -⟩ := X
  exact retOut X hx hret rfl (Or.inr (Or.inl ⟨rfl, rfl, _, rfl⟩)) hd hr
theorem Go.retA (X : Sd n0 p l e R s m args below meth c T h k n) (hx : p.tables.exec = Jvm.exec) (hlk : meth.locks = false) {Q : Option Value → Heap → Prop} {C S : Nat} {t : FieldType} {pc : Nat} {Ls : Array Slot} {w : Value} {rest : List Value} (hret : meth.sig.returnType = some t) (ht : t.isReference = true) (hw : w.isRef = true)
    (hd : decode c.code pc = .ok (.areturn, 1)) (hk : k ≤ C) (hn : n ≤ S) (hQ : Q (some w) h) : Go p.tables e below (Ret s n0 Q C S) (T.setTop (mkF m pc Ls (w :: rest))) := by
  refine Go.leave X hlk (fun q => by rw [hret] at q; cases q) (fun fs hr => ?_) hk hn hQ
  obtain ⟨L, X, -⟩ := X
  have hnar : narrow t w = w := by cases t <;> first | (cases ht; done) | (cases w <;> first | rfl | (cases hw; done))
  exact retOut X hx hret hnar (Or.inr (Or.inr (Or.inr (Or.inr ⟨rfl, ht, hw⟩)))) hd hr
theorem Go.ret0 (X : Sd n0 p l e R s m args below meth c T h k n) (hx : p.tables.exec = Jvm.exec) (hlk : meth.locks = false) {Q : Option Value → Heap → Prop} {C S : Nat} {pc : Nat} {Ls : Array Slot} (hret : meth.sig.returnType = none)
    (hd : decode c.code pc = .ok (.return_, 1)) (hk : k ≤ C) (hn : n ≤ S) (hQ : Q none h) : Go p.tables e below (Ret s n0 Q C S) (T.setTop (mkF m pc Ls [])) := by
  refine Go.leave X hlk (fun _ => rfl) (fun fs hr => ?_) hk hn hQ
  obtain ⟨L, X, -⟩ := X
  exact X.returnOut hx hret hd hr
/-! fields, statics, casts -/
theorem Sd.getF (X : Sd n0 p l e R s m args below meth c T h k n) (hx : p.tables.exec = Jvm.exec) (hZ : Z.Warmed39 s.vm) {own R0 O nm d host : String} {index : Nat} (hown : s.vm.findClass own = some m.cls) (w : (Cond.fieldLink own index R0 nm d).before a0 Z = true ∨ (Cond.fieldLinkNest own index R0 nm d host).before a0 Z = true) (via : Via Z R0 O nm d)
    {a : Addr} {v : Value} (F : Fld Z h a O nm d v) {g : JFrame} (hg : g.method = m) {rest : List Value} (hs : g.stack = .ref a :: rest) (hd : decode c.code g.pc = .ok (.getfield index, 3)) :
    ∃ T', Sd n0 p l e R s m args below meth c T' h k n ∧ ∀ target, Steps p.tables e below (T'.setTop { g with pc := g.pc + 3, stack := v :: rest }) target → Steps p.tables e below (T.setTop g) target := by
  obtain ⟨L, X, N, q⟩ := X
  obtain ⟨T', X', e', st⟩ := Jvm.RoadKit.getF X hx hZ hown w via q F hg hs hd
  exact ⟨T', ⟨L, X', N, e'⟩, st⟩
theorem Sd.getS (X : Sd n0 p l e R s m args below meth c T h k n) (hx : p.tables.exec = Jvm.exec) (hZ : Z.Warmed39 s.vm) {own R0 O nm d host : String} {index : Nat} (hown : s.vm.findClass own = some m.cls) (w : (Cond.fieldLink own index R0 nm d).before a0 Z = true ∨ (Cond.fieldLinkNest own index R0 nm d host).before a0 Z = true) (via : Via Z R0 O nm d)
    {v : Value} (F : Sta Z h O nm d v) {g : JFrame} (hg : g.method = m) (hd : decode c.code g.pc = .ok (.getstatic index, 3)) :
    ∃ T', Sd n0 p l e R s m args below meth c T' h k n ∧ ∀ target, Steps p.tables e below (T'.setTop { g with pc := g.pc + 3, stack := v :: g.stack }) target → Steps p.tables e below (T.setTop g) target := by
  obtain ⟨L, X, N, q⟩ := X
  obtain ⟨T', X', e', st⟩ := getS2 X hx hZ hown w via q F hg hd
  exact ⟨T', ⟨L, X', N, e'⟩, st⟩
theorem Sd.putF (X : Sd n0 p l e R s m args below meth c T h k n) (hx : p.tables.exec = Jvm.exec) (hZ : Z.Warmed39 s.vm) {own R0 O nm d host C : String} {index kk : Nat} {ty : FieldType} (hown : s.vm.findClass own = some m.cls) (w : (Cond.fieldLink own index R0 nm d).before a0 Z = true ∨ (Cond.fieldLinkNest own index R0 nm d host).before a0 Z = true) (via : Via Z R0 O nm d)
    {a : Addr} {v old : Value} (F : Fld Z h a O nm d old) (E : Exa Z h a C) (ga : n0 ≤ a) (L : (Cond.lays C O nm d).before a0 Z = true ∨ ((Cond.laysFinal C O nm d).before a0 Z = true ∧ own = O ∧ meth.name = "<init>")) (wi : (Cond.instantiable C kk).before a0 Z = true)
    (hty : parseFieldDescriptor d = some ty) (hnr : narrow ty v = v) (hf : fits ty v = true) {g : JFrame} (hg : g.method = m) {rest : List Value} (hs : g.stack = v :: .ref a :: rest) (hd : decode c.code g.pc = .ok (.putfield index, 3)) :
    ∃ T' h', Sd n0 p l e R s m args below meth c T' h' k n ∧ Wr h h' a (slotOf Z O nm d) v ∧ ∀ target, Steps p.tables e below (T'.setTop { g with pc := g.pc + 3, stack := rest }) target → Steps p.tables e below (T.setTop g) target := by
  obtain ⟨Lc, X, N, q⟩ := X
  obtain ⟨T', h', X', e', W, st⟩ := Jvm.RoadKit.putF X hx hZ hown w via q F E L wi hty hnr hf hg hs hd
  exact ⟨T', h', ⟨_, X', Fr.snoc X' N ga, e'⟩, W, st⟩
theorem Sd.putFN (X : Sd n0 p l e R s m args below meth c T h k n) (hx : p.tables.exec = Jvm.exec) (hZ : Z.Warmed39 s.vm) {own R0 O nm d C : String} {index kk : Nat} {ty : FieldType} (hown : s.vm.findClass own = some m.cls) (w : (Cond.fieldLink own index R0 nm d).before a0 Z = true) (via : Via Z R0 O nm d)
    {a : Addr} {v v' old : Value} (F : Fld Z h a O nm d old) (E : Exa Z h a C) (ga : n0 ≤ a) (L : (Cond.lays C O nm d).before a0 Z = true ∨ ((Cond.laysFinal C O nm d).before a0 Z = true ∧ own = O ∧ meth.name = "<init>")) (wi : (Cond.instantiable C kk).before a0 Z = true)
    (hty : parseFieldDescriptor d = some ty) (hnr : narrow ty v = v') (hf : fits ty v' = true) {g : JFrame} (hg : g.method = m) {rest : List Value} (hs : g.stack = v :: .ref a :: rest) (hd : decode c.code g.pc = .ok (.putfield index, 3)) :
    ∃ T' h', Sd n0 p l e R s m args below meth c T' h' k n ∧ Wr h h' a (slotOf Z O nm d) v' ∧ ∀ target, Steps p.tables e below (T'.setTop { g with pc := g.pc + 3, stack := rest }) target → Steps p.tables e below (T.setTop g) target := by
  obtain ⟨Lc, X, N, q⟩ := X
  obtain ⟨T', h', X', e', W, st⟩ := Jvm.RoadKit.putFN X hx hZ hown w via q F E L wi hty hnr hf hg hs hd
  exact ⟨T', h', ⟨_, X', Fr.snoc X' N ga, e'⟩, W, st⟩
theorem Sd.castY (X : Sd n0 p l e R s m args below meth c T h k n) (hx : p.tables.exec = Jvm.exec) (hZ : Z.Warmed39 s.vm) {own K : String} {index : Nat} (hown : s.vm.findClass own = some m.cls) (w : (Cond.classLink own index K).before a0 Z = true) {a : Addr} (F : Ins Z h a K true)
    {g : JFrame} (hg : g.method = m) {rest : List Value} (hs : g.stack = .ref a :: rest) (hd : decode c.code g.pc = .ok (.checkcast index, 3)) :
    ∃ T', Sd n0 p l e R s m args below meth c T' h k n ∧ ∀ target, Steps p.tables e below (T'.setTop { g with pc := g.pc + 3 }) target → Steps p.tables e below (T.setTop g) target := by
  obtain ⟨L, X, N, q⟩ := X
  obtain ⟨T', X', e', st⟩ := Jvm.RoadKit.castY X hx hZ hown w q F hg hs hd
  exact ⟨T', ⟨L, X', N, e'⟩, st⟩
theorem Sd.instY (X : Sd n0 p l e R s m args below meth c T h k n) (hx : p.tables.exec = Jvm.exec) (hZ : Z.Warmed39 s.vm) {own K : String} {index : Nat} (hown : s.vm.findClass own = some m.cls) (w : (Cond.classLink own index K).before a0 Z = true) {a : Addr} (F : Ins Z h a K true)
    {g : JFrame} (hg : g.method = m) {rest : List Value} (hs : g.stack = .ref a :: rest) (hd : decode c.code g.pc = .ok (.instanceof index, 3)) :
    ∃ T', Sd n0 p l e R s m args below meth c T' h k n ∧ ∀ target, Steps p.tables e below (T'.setTop { g with pc := g.pc + 3, stack := .int 1 :: rest }) target → Steps p.tables e below (T.setTop g) target := by
  obtain ⟨L, X, N, q⟩ := X
  obtain ⟨T', X', e', st⟩ := Jvm.RoadKit.instY X hx hZ hown w q F hg hs hd
  exact ⟨T', ⟨L, X', N, e'⟩, st⟩
theorem Sd.instNull (X : Sd n0 p l e R s m args below meth c T h k n) (hx : p.tables.exec = Jvm.exec) {index : Nat} {g : JFrame} (hg : g.method = m) {rest : List Value} (hs : g.stack = .null :: rest) (hd : decode c.code g.pc = .ok (.instanceof index, 3)) :
    ∀ target, Steps p.tables e below (T.setTop { g with pc := g.pc + 3, stack := .int 0 :: rest }) target → Steps p.tables e below (T.setTop g) target := by
  obtain ⟨L, X, -⟩ := X; exact X.instanceofNull hx hg hs hd
theorem Sd.ldcInt (X : Sd n0 p l e R s m args below meth c T h k n) (hx : p.tables.exec = Jvm.exec) (hZ : Z.Warmed39 s.vm) {own : String} {index : Nat} {v : Int32} (hown : s.vm.findClass own = some m.cls) (w : (Cond.constant own index v).before a0 Z = true) {g : JFrame} (hg : g.method = m) (hd : decode c.code g.pc = .ok (.ldc index, 2)) :
    ∀ target, Steps p.tables e below (T.setTop { g with pc := g.pc + 2, stack := .int v :: g.stack }) target → Steps p.tables e below (T.setTop g) target := by
  obtain ⟨L, X, -⟩ := X; exact X.ldcInt hx hown (mvT hZ w) hg hd
theorem Sd.ldc2Long (X : Sd n0 p l e R s m args below meth c T h k n) (hx : p.tables.exec = Jvm.exec) (hZ : Z.Warmed39 s.vm) {own : String} {index : Nat} {v : Int64} (hown : s.vm.findClass own = some m.cls) (w : (Cond.constantLong own index v).before a0 Z = true) {g : JFrame} (hg : g.method = m) (hd : decode c.code g.pc = .ok (.ldc2_w index, 3)) :
    ∀ target, Steps p.tables e below (T.setTop { g with pc := g.pc + 3, stack := .long v :: g.stack }) target → Steps p.tables e below (T.setTop g) target := by
  obtain ⟨L, X, -⟩ := X; exact X.ldc2Long hx hown (mvT hZ w) hg hd
theorem Sd.acmp {g : JFrame} (X : Sd n0 p l e R s m args below meth c T h k n) (hx : p.tables.exec = Jvm.exec) (hg : g.method = m) {cd : ACond} {x y : Value} (h1 : x.isRef = true) (h2 : y.isRef = true) {rest : List Value} {o : Int} {pc0 pc' : Nat} {same : Bool} (hpc : g.pc = pc0)
    (hd : decode c.code g.pc = .ok (.if_acmp cd o, 3)) (hs : g.stack = y :: x :: rest) (hq : decide (x = y) = same) (ho : 0 ≤ (pc0 : Int) + o) (hp : pc' = if acV cd same = true then ((pc0 : Int) + o).toNat else pc0 + 3) :
    ∀ target, Steps p.tables e below (T.setTop { g with pc := pc', stack := rest }) target → Steps p.tables e below (T.setTop g) target := by
  obtain ⟨L, X, -⟩ := X; exact fun _ => Jvm.RoadKit.acmp X hx hg h1 h2 hpc hd hs hq ho hp
theorem Sd.getFR (X : Sd n0 p l e R s m args below meth c T h k n) (hx : p.tables.exec = Jvm.exec) (hZ : Z.Warmed39 s.vm) {own O nm d : String} {index : Nat} (hown : s.vm.findClass own = some m.cls) (w : (Cond.fieldRef own index O nm d).before a0 Z = true)
    {a : Addr} {v : Value} (F : Fld Z h a O nm d v) {g : JFrame} (hg : g.method = m) {rest : List Value} (hs : g.stack = .ref a :: rest) (hd : decode c.code g.pc = .ok (.getfield index, 3)) :
    ∀ target, Steps p.tables e below (T.setTop { g with pc := g.pc + 3, stack := v :: rest }) target → Steps p.tables e below (T.setTop g) target := by
  obtain ⟨L, X, N, q⟩ := X
  obtain ⟨cell, cf, kk, i, f, h1, h2, h3, h4, h5, h6, h7⟩ := F
  have hT : Z.Warmed39 T.vm := wtrans hZ X.warmed
  have w' := Cond.fieldRef_warmed39 hT w
  have hcur : (Z.setVm T.vm).vm.findClass own = some m.cls := by show T.vm.findClass own = _; rw [X.warmed.alike.findClass]; exact hown
  obtain ⟨c', k', i', f', e1, e2⟩ := Cond.fieldRef_spec hcur w'
  obtain ⟨k2, hi, -⟩ := State.fieldFound?_setVm (s := Z) hT.alike h2
  cases e1.symm.trans hi
  intro target hrest
  subst hg
  jvm_step X.here [hx, hd, getfield.wp_ready (e := e) (s := T) (f := g) X.here.top e2 h3 hs (by rw [q]; exact h1) h4 h7]
  exact hrest
/-! making -/
theorem Sd.newO (X : Sd n0 p l e R s m args below meth c T h k n) (hx : p.tables.exec = Jvm.exec) (hZ : Z.Warmed39 s.vm) {own C : String} {index sz k' n' : Nat} (hown : s.vm.findClass own = some m.cls) (w : (Cond.classLink own index C).before a0 Z = true) (wi : (Cond.instantiable C sz).before a0 Z = true) (wz : (Cond.initialized C).before a0 Z = true)
    {g : JFrame} (hg : g.method = m) (hd : decode c.code g.pc = .ok (.new index, 3)) (hk : k + 1 = k') (hn : n + sz = n') (hc : k' ≤ R.cells) (hl : n' ≤ R.slots) :
    ∃ T' h' a, Sd n0 p l e R s m args below meth c T' h' k' n' ∧ a = h.size ∧ Ext h h' ∧ Exa Z h' a C ∧ (∀ {O nm d : String} {ty : FieldType}, Laid Z a0 C O nm d → parseFieldDescriptor d = some ty → Fld Z h' a O nm d (defaultValue ty)) ∧
      ∀ target, Steps p.tables e below (T'.setTop { g with pc := g.pc + 3, stack := .ref a :: g.stack }) target → Steps p.tables e below (T.setTop g) target := by
  subst hk hn
  obtain ⟨L, X, N, q⟩ := X
  obtain ⟨T', h', X', e', E, A, D, -, st⟩ := Jvm.RoadKit.newO X hx hZ hown w wi wz q hg hd hc hl
  exact ⟨T', h', _, ⟨L, X', N, e'⟩, rfl, E, A, D, st⟩
theorem Sd.initO (X : Sd n0 p l e R s m args below meth c T h k n) (hx : p.tables.exec = Jvm.exec) (hZ : Z.Warmed39 s.vm) {own : String} {idx : Nat} (hown : s.vm.findClass own = some m.cls) (w1 : (Cond.methodLink own idx Lib.objectInit).before a0 Z = true) (w2 : (Cond.instanceMethod Lib.objectInit).before a0 Z = true)
    (w3 : (Cond.code Lib.objectInit ⟨#[0xb1]⟩ 1 none).before a0 Z = true) {g : JFrame} (hg : g.method = m) (hsize : g.locals.size = c.maxLocals) {a : Addr} {rest : List Value} (hs : g.stack = .ref a :: rest) (hd : decode c.code g.pc = .ok (.invokespecial idx, 3))
    (hf : 1 ≤ R.frames) (hl : 2 * g.monitorRoom + (rest.map fun v => v.category).sum + 12 ≤ R.locals) :
    ∃ T', Sd n0 p l e R s m args below meth c T' h k n ∧ ∀ target, Steps p.tables e below (T'.setTop { g with pc := g.pc + 3, stack := rest }) target → Steps p.tables e below (T.setTop g) target := by
  obtain ⟨L, X, N, q⟩ := X
  obtain ⟨T', X', e', st⟩ := Jvm.RoadKit.initO X hx hZ hown w1 w2 w3 q hg hsize hs hd hf (W := 2 * g.monitorRoom + (rest.map fun v => v.category).sum) (Nat.le_refl _) hl
  exact ⟨T', ⟨L, X', N, e'⟩, st⟩
/-- an array of n' places, place i holds f i -/
def Avf (Z : State) (h : Heap) (a : Addr) (kc : ClassId) (ty : FieldType) (sz : Nat) (f : Nat → Value) : Prop := ∃ cl : Cell, Arr Z h a cl ty ∧ cl.cls = kc ∧ cl.slots.size = sz ∧ sz < 2 ^ 31 ∧ ∀ i, i < sz → cl.slots[i]? = some (f i) ∧ fits ty (f i) = true
theorem Avf.lt {h : Heap} {a : Addr} {kc : ClassId} {ty : FieldType} {sz : Nat} {f : Nat → Value} (F : Avf Z h a kc ty sz f) : a < h.size := by obtain ⟨_, A, -⟩ := F; exact A.lt
theorem Avf.ext {h h' : Heap} {a : Addr} {kc : ClassId} {ty : FieldType} {sz : Nat} {f : Nat → Value} (F : Avf Z h a kc ty sz f) (E : Ext h h') : Avf Z h' a kc ty sz f := by obtain ⟨cl, A, r⟩ := F; exact ⟨cl, A.ext E, r⟩
theorem Avf.other {h h' : Heap} {a b : Addr} {kc : ClassId} {ty : FieldType} {sz sl : Nat} {f : Nat → Value} {v : Value} (F : Avf Z h b kc ty sz f) (W : Wr h h' a sl v) (q : b ≠ a) : Avf Z h' b kc ty sz f := by obtain ⟨cl, A, r⟩ := F; exact ⟨cl, A.other W q, r⟩
theorem Avf.keep {h h' : Heap} {a : Addr} {kc : ClassId} {ty : FieldType} {sz : Nat} {f : Nat → Value} {ws : List Addr} (F : Avf Z h a kc ty sz f) (K : Keep h h' ws) (q : a ∉ ws) : Avf Z h' a kc ty sz f := by obtain ⟨cl, A, r⟩ := F; exact ⟨cl, ⟨K.2.1 a cl A.1 q, A.2⟩, r⟩
theorem Avf.cong {h : Heap} {a : Addr} {kc : ClassId} {ty : FieldType} {sz : Nat} {f g : Nat → Value} (F : Avf Z h a kc ty sz f) (q : ∀ i, i < sz → f i = g i) : Avf Z h a kc ty sz g := by
  obtain ⟨cl, A, r1, r2, r3, r4⟩ := F; exact ⟨cl, A, r1, r2, r3, fun i hi => by rw [← q i hi]; exact r4 i hi⟩
theorem Avf.set {h h' : Heap} {a : Addr} {kc : ClassId} {ty : FieldType} {sz : Nat} {f : Nat → Value} {v : Value} {j : Nat} (F : Avf Z h a kc ty sz f) (W : Wr h h' a j v) (hv : fits ty v = true) : Avf Z h' a kc ty sz (fun i => if i = j then v else f i) := by
  obtain ⟨cl, A, r1, r2, r3, r4⟩ := F
  refine ⟨_, A.same W, r1, by rw [sz_set]; exact r2, r3, fun i hi => ?_⟩
  by_cases q : i = j
  · subst q; simp [Cell.setSlot, r2, hi, hv]
  · simp [Cell.setSlot, q, r4 i hi, Array.getElem?_setIfInBounds_ne (Ne.symm q)]
theorem Avf.of_arv {h : Heap} {a : Addr} {kc : ClassId} {ty : FieldType} {z : Int32} {vs : List Value} {dv : Value} (F : Arv Z h a kc ty z vs dv) : Avf Z h a kc ty z.toNatClampNeg (fun i => vs.getD i dv) := by
  obtain ⟨cl, A, r1, r2, r3, H, G⟩ := F
  exact ⟨cl, A, r1, r2, (back32 r3).2, fun i hi => ⟨H i (by rw [r2]; exact hi), G i (by rw [r2]; exact hi)⟩⟩
theorem Sd.newP (X : Sd n0 p l e R s m args below meth c T h k n) (hx : p.tables.exec = Jvm.exec) (hZ : Z.Warmed39 s.vm) {aty : ArrayType} (w : (Cond.arrayClass (newarray.typeOf aty)).before a0 Z = true) {g : JFrame} (hg : g.method = m) (hd : decode c.code g.pc = .ok (.newarray aty, 2)) {z : Int32} {rest : List Value} (hs : g.stack = .int z :: rest)
    (hz : ¬ z < 0) {sz cap k' n' : Nat} (hsz : z.toNatClampNeg = sz) (hcap : sz ≤ cap) (hb : cap * 8 ≤ 536870912) (hk : k + 1 = k') (hn : n + cap = n') (hc : k' ≤ R.cells) (hl : n' ≤ R.slots) {ad : String} (had : "[" ++ (newarray.typeOf aty).toString = ad) :
    ∃ T' h' kc a, Sd n0 p l e R s m args below meth c T' h' k' n' ∧ a = h.size ∧ Ext h h' ∧ Exa Z h' a ad ∧ Avf Z h' a kc (newarray.typeOf aty) sz (fun _ => defaultValue (newarray.typeOf aty)) ∧
      ∀ target, Steps p.tables e below (T'.setTop { g with pc := g.pc + 2, stack := .ref a :: rest }) target → Steps p.tables e below (T.setTop g) target := by
  subst hk hn hsz
  obtain ⟨L, X, N, q⟩ := X
  obtain ⟨T', h', kc, X', e', E, A, Ex, st⟩ := Jvm.RoadKit.newPE X hx hZ w q hg hd hs hz hcap hb hc hl had
  refine ⟨T', h', kc, _, ⟨L, X', N, e'⟩, rfl, E, Ex, ⟨_, A, rfl, sz_new _ _ _, (back32 hz).2, fun i hi => ⟨by simp [newA, hi], ?_⟩⟩, st⟩
  cases aty <;> rfl
theorem Sd.newR (X : Sd n0 p l e R s m args below meth c T h k n) (hx : p.tables.exec = Jvm.exec) (hZ : Z.Warmed39 s.vm) {own C : String} {index : Nat} (hown : s.vm.findClass own = some m.cls) (w1 : (Cond.classLink own index C).before a0 Z = true) (w2 : (Cond.arrayOver (.object C)).before a0 Z = true)
    {g : JFrame} (hg : g.method = m) (hd : decode c.code g.pc = .ok (.anewarray index, 3)) {z : Int32} {rest : List Value} (hs : g.stack = .int z :: rest)
    (hz : ¬ z < 0) {sz cap k' n' : Nat} (hsz : z.toNatClampNeg = sz) (hcap : sz ≤ cap) (hb : cap * 8 ≤ 536870912) (hk : k + 1 = k') (hn : n + cap = n') (hc : k' ≤ R.cells) (hl : n' ≤ R.slots) {ad : String} (had : "[" ++ (FieldType.object C).toString = ad) :
    ∃ T' h' kc a, Sd n0 p l e R s m args below meth c T' h' k' n' ∧ a = h.size ∧ Ext h h' ∧ Exa Z h' a ad ∧ Avf Z h' a kc (.object C) sz (fun _ => .null) ∧ Ovr Z kc C ∧
      ∀ target, Steps p.tables e below (T'.setTop { g with pc := g.pc + 3, stack := .ref a :: rest }) target → Steps p.tables e below (T.setTop g) target := by
  subst hk hn hsz
  obtain ⟨L, X, N, q⟩ := X
  obtain ⟨T', h', kc, X', e', E, A, Ex, O, st⟩ := Jvm.RoadKit.newRE X hx hZ hown w1 w2 q hg hd hs hz hcap hb hc hl had
  exact ⟨T', h', kc, _, ⟨L, X', N, e'⟩, rfl, E, Ex, ⟨_, A, rfl, sz_new _ _ _, (back32 hz).2, fun i hi => ⟨by simp [newA, hi, defaultValue], rfl⟩⟩, O, st⟩
theorem Sd.clone (X : Sd n0 p l e R s m args below meth c T h k n) (hx : p.tables.exec = Jvm.exec) (hZ : Z.Warmed39 s.vm) {own ad : String} {index : Nat} (hown : s.vm.findClass own = some m.cls)
    (w1 : (Cond.methodLink own index ⟨ad, "clone", "()Ljava/lang/Object;"⟩).before a0 Z = true) (w2 : (Cond.sameMethod ad "java/lang/Object" "clone" "()Ljava/lang/Object;").before a0 Z = true) (w3 : (Cond.native ⟨"java/lang/Object", "clone", "()Ljava/lang/Object;"⟩).before a0 Z = true)
    (w4 : (Cond.instanceMethod ⟨"java/lang/Object", "clone", "()Ljava/lang/Object;"⟩).before a0 Z = true) (w5 : (Cond.selects ad ⟨ad, "clone", "()Ljava/lang/Object;"⟩ ⟨"java/lang/Object", "clone", "()Ljava/lang/Object;"⟩).before a0 Z = true) (w6 : (Cond.castable ad "java/lang/Cloneable").before a0 Z = true)
    {a : Addr} {kc : ClassId} {ty : FieldType} {sz : Nat} {f : Nat → Value} (F : Avf Z h a kc ty sz f) (E : Exa Z h a ad) {g : JFrame} (hg : g.method = m) (hsize : g.locals.size = c.maxLocals) {rest : List Value} (hst : g.stack = .ref a :: rest) (hd : decode c.code g.pc = .ok (.invokevirtual index, 3))
    (hf : 1 ≤ R.frames) (hl : 2 * g.monitorRoom + (rest.map fun v => v.category).sum + 14 ≤ R.locals) {cap k' n' : Nat} (hcap : sz ≤ cap) (hk : k + 1 = k') (hn : n + cap = n') (hc : k' ≤ R.cells) (hs : n' ≤ R.slots) :
    ∃ T' h' b, Sd n0 p l e R s m args below meth c T' h' k' n' ∧ b = h.size ∧ Ext h h' ∧ Exa Z h' b ad ∧ Avf Z h' b kc ty sz f ∧ ∀ target, Steps p.tables e below (T'.setTop { g with pc := g.pc + 3, stack := .ref b :: rest }) target → Steps p.tables e below (T.setTop g) target := by
  subst hk hn
  obtain ⟨L, X, N, q⟩ := X
  obtain ⟨cl, A, r1, r2, r3, r4⟩ := F
  have FC : FitC Z cl := fitC_of A fun i hi v hv => by rw [(r4 i (r2 ▸ hi)).1] at hv; cases hv; exact (r4 i (r2 ▸ hi)).2
  obtain ⟨T', h', X', e', ex, A', E', st⟩ := cloneA X hx hZ hown w1 w2 w3 w4 w5 w6 q A E FC hg hsize hst hd hf (W := 2 * g.monitorRoom + (rest.map fun v => v.category).sum) (Nat.le_refl _) hl (by rw [r2]; exact hcap) hc hs
  exact ⟨T', h', _, ⟨L, X', N, e'⟩, rfl, ex, E', ⟨cloneOf cl, A', r1, r2, r3, r4⟩, st⟩
/-! arrays: length, load, store -/
theorem Sd.len (X : Sd n0 p l e R s m args below meth c T h k n) (hx : p.tables.exec = Jvm.exec) (hZ : Z.Warmed39 s.vm) {a : Addr} {kc : ClassId} {ty : FieldType} {sz : Nat} {f : Nat → Value} (F : Avf Z h a kc ty sz f) {z : Int32} (hz : sz.toInt32 = z)
    {g : JFrame} (hg : g.method = m) {rest : List Value} (hs : g.stack = .ref a :: rest) (hd : decode c.code g.pc = .ok (.arraylength, 1)) :
    ∀ target, Steps p.tables e below (T.setTop { g with pc := g.pc + 1, stack := .int z :: rest }) target → Steps p.tables e below (T.setTop g) target := by
  obtain ⟨L, X, -, q⟩ := X
  obtain ⟨cl, A, r1, r2, r3, r4⟩ := F
  intro t kt
  refine X.arraylength hx (by rw [q]; exact A.1) (State.isArrayOf_alike hZ.alike A.2.1) hg hs hd _ ?_
  rw [r2, hz]; exact kt
theorem inb {cl : Cell} {sz i : Nat} {j : Int32} (r2 : cl.slots.size = sz) (hj : ¬ j < 0) (hi : j.toNatClampNeg = i) (hlt : i < sz) : ¬ (j < 0 ∨ cl.slots.size ≤ j.toNatClampNeg) := fun q => q.elim hj fun q => by omega
theorem Sd.ldI (X : Sd n0 p l e R s m args below meth c T h k n) (hx : p.tables.exec = Jvm.exec) (hZ : Z.Warmed39 s.vm) {a : Addr} {kc : ClassId} {sz : Nat} {f : Nat → Value} (F : Avf Z h a kc .int sz f) {j : Int32} (hj : ¬ j < 0) {i : Nat} (hi : j.toNatClampNeg = i) (hlt : i < sz) {v : Value} (hv : f i = v)
    {g : JFrame} (hg : g.method = m) {rest : List Value} (hs : g.stack = .int j :: .ref a :: rest) (hd : decode c.code g.pc = .ok (.iaload, 1)) :
    ∀ target, Steps p.tables e below (T.setTop { g with pc := g.pc + 1, stack := v :: rest }) target → Steps p.tables e below (T.setTop g) target := by
  subst hv
  obtain ⟨L, X, -, q⟩ := X
  obtain ⟨cl, A, r1, r2, r3, r4⟩ := F
  exact X.iaload hx (by rw [q]; exact A.1) (State.isArrayOf_alike hZ.alike A.2.1) A.2.2 (inb r2 hj hi hlt) (by rw [hi]; exact (r4 i hlt).1) hg hs hd
theorem Sd.ldJ (X : Sd n0 p l e R s m args below meth c T h k n) (hx : p.tables.exec = Jvm.exec) (hZ : Z.Warmed39 s.vm) {a : Addr} {kc : ClassId} {sz : Nat} {f : Nat → Value} (F : Avf Z h a kc .long sz f) {j : Int32} (hj : ¬ j < 0) {i : Nat} (hi : j.toNatClampNeg = i) (hlt : i < sz) {v : Value} (hv : f i = v)
    {g : JFrame} (hg : g.method = m) {rest : List Value} (hs : g.stack = .int j :: .ref a :: rest) (hd : decode c.code g.pc = .ok (.laload, 1)) :
    ∀ target, Steps p.tables e below (T.setTop { g with pc := g.pc + 1, stack := v :: rest }) target → Steps p.tables e below (T.setTop g) target := by
  subst hv
  obtain ⟨L, X, -, q⟩ := X
  obtain ⟨cl, A, r1, r2, r3, r4⟩ := F
  exact X.laload hx (by rw [q]; exact A.1) (State.isArrayOf_alike hZ.alike A.2.1) A.2.2 (inb r2 hj hi hlt) (by rw [hi]; exact (r4 i hlt).1) hg hs hd
theorem Sd.ldC (X : Sd n0 p l e R s m args below meth c T h k n) (hx : p.tables.exec = Jvm.exec) (hZ : Z.Warmed39 s.vm) {a : Addr} {kc : ClassId} {sz : Nat} {f : Nat → Value} (F : Avf Z h a kc .char sz f) {j : Int32} (hj : ¬ j < 0) {i : Nat} (hi : j.toNatClampNeg = i) (hlt : i < sz) {v : Value} (hv : f i = v)
    {g : JFrame} (hg : g.method = m) {rest : List Value} (hs : g.stack = .int j :: .ref a :: rest) (hd : decode c.code g.pc = .ok (.caload, 1)) :
    ∀ target, Steps p.tables e below (T.setTop { g with pc := g.pc + 1, stack := v :: rest }) target → Steps p.tables e below (T.setTop g) target := by
  subst hv
  obtain ⟨L, X, -, q⟩ := X
  obtain ⟨cl, A, r1, r2, r3, r4⟩ := F
  exact X.caload hx (by rw [q]; exact A.1) (State.isArrayOf_alike hZ.alike A.2.1) A.2.2 (inb r2 hj hi hlt) (by rw [hi]; exact (r4 i hlt).1) hg hs hd
theorem Sd.ldB (X : Sd n0 p l e R s m args below meth c T h k n) (hx : p.tables.exec = Jvm.exec) (hZ : Z.Warmed39 s.vm) {a : Addr} {kc : ClassId} {sz : Nat} {f : Nat → Value} (F : Avf Z h a kc .byte sz f) {j : Int32} (hj : ¬ j < 0) {i : Nat} (hi : j.toNatClampNeg = i) (hlt : i < sz) {v : Value} (hv : f i = v)
    {g : JFrame} (hg : g.method = m) {rest : List Value} (hs : g.stack = .int j :: .ref a :: rest) (hd : decode c.code g.pc = .ok (.baload, 1)) :
    ∀ target, Steps p.tables e below (T.setTop { g with pc := g.pc + 1, stack := v :: rest }) target → Steps p.tables e below (T.setTop g) target := by
  subst hv
  obtain ⟨L, X, -, q⟩ := X
  obtain ⟨cl, A, r1, r2, r3, r4⟩ := F
  exact X.baloadBytes hx (by rw [q]; exact A.1) (State.isArrayOf_alike hZ.alike A.2.1) A.2.2 (inb r2 hj hi hlt) (by rw [hi]; exact (r4 i hlt).1) hg hs hd
theorem Sd.ldA (X : Sd n0 p l e R s m args below meth c T h k n) (hx : p.tables.exec = Jvm.exec) (hZ : Z.Warmed39 s.vm) {a : Addr} {kc : ClassId} {ty : FieldType} {sz : Nat} {f : Nat → Value} (F : Avf Z h a kc ty sz f) (hty : ty.isReference = true) {j : Int32} (hj : ¬ j < 0) {i : Nat} (hi : j.toNatClampNeg = i) (hlt : i < sz) {v : Value} (hv : f i = v)
    {g : JFrame} (hg : g.method = m) {rest : List Value} (hs : g.stack = .int j :: .ref a :: rest) (hd : decode c.code g.pc = .ok (.aaload, 1)) :
    ∀ target, Steps p.tables e below (T.setTop { g with pc := g.pc + 1, stack := v :: rest }) target → Steps p.tables e below (T.setTop g) target := by
  subst hv
  obtain ⟨L, X, -, q⟩ := X
  obtain ⟨cl, A, r1, r2, r3, r4⟩ := F
  exact X.aaload hx (by rw [q]; exact A.1) (State.isArrayOf_alike hZ.alike A.2.1) hty A.2.2 (inb r2 hj hi hlt) (by rw [hi]; exact (r4 i hlt).1) hg hs hd
theorem Sd.stI (X : Sd n0 p l e R s m args below meth c T h k n) (hx : p.tables.exec = Jvm.exec) (hZ : Z.Warmed39 s.vm) {a : Addr} {kc : ClassId} {sz : Nat} {f : Nat → Value} (F : Avf Z h a kc .int sz f) (ga : n0 ≤ a) {j x : Int32} (hj : ¬ j < 0) {i : Nat} (hi : j.toNatClampNeg = i) (hlt : i < sz)
    {g : JFrame} (hg : g.method = m) {rest : List Value} (hs : g.stack = .int x :: .int j :: .ref a :: rest) (hd : decode c.code g.pc = .ok (.iastore, 1)) :
    ∃ T' h', Sd n0 p l e R s m args below meth c T' h' k n ∧ Wr h h' a i (.int x) ∧ Avf Z h' a kc .int sz (fun t => if t = i then .int x else f t) ∧ ∀ target, Steps p.tables e below (T'.setTop { g with pc := g.pc + 1, stack := rest }) target → Steps p.tables e below (T.setTop g) target := by
  obtain ⟨L, X, N, q⟩ := X
  obtain ⟨cl, A, r1, r2, r3, r4⟩ := F
  obtain ⟨T', h', X', e', W, st⟩ := Jvm.RoadKit.stI X hx hZ q A (inb r2 hj hi hlt) hg hs hd
  subst hi
  exact ⟨T', h', ⟨_, X', Fr.snoc X' N ga, e'⟩, W, Avf.set ⟨cl, A, r1, r2, r3, r4⟩ W rfl, st⟩
theorem Sd.stJ (X : Sd n0 p l e R s m args below meth c T h k n) (hx : p.tables.exec = Jvm.exec) (hZ : Z.Warmed39 s.vm) {a : Addr} {kc : ClassId} {sz : Nat} {f : Nat → Value} (F : Avf Z h a kc .long sz f) (ga : n0 ≤ a) {j : Int32} {x : Int64} (hj : ¬ j < 0) {i : Nat} (hi : j.toNatClampNeg = i) (hlt : i < sz)
    {g : JFrame} (hg : g.method = m) {rest : List Value} (hs : g.stack = .long x :: .int j :: .ref a :: rest) (hd : decode c.code g.pc = .ok (.lastore, 1)) :
    ∃ T' h', Sd n0 p l e R s m args below meth c T' h' k n ∧ Wr h h' a i (.long x) ∧ Avf Z h' a kc .long sz (fun t => if t = i then .long x else f t) ∧ ∀ target, Steps p.tables e below (T'.setTop { g with pc := g.pc + 1, stack := rest }) target → Steps p.tables e below (T.setTop g) target := by
  obtain ⟨L, X, N, q⟩ := X
  obtain ⟨cl, A, r1, r2, r3, r4⟩ := F
  obtain ⟨T', h', X', e', W, st⟩ := Jvm.RoadKit.stJ X hx hZ q A (inb r2 hj hi hlt) hg hs hd
  subst hi
  exact ⟨T', h', ⟨_, X', Fr.snoc X' N ga, e'⟩, W, Avf.set ⟨cl, A, r1, r2, r3, r4⟩ W rfl, st⟩
theorem Sd.stB (X : Sd n0 p l e R s m args below meth c T h k n) (hx : p.tables.exec = Jvm.exec) (hZ : Z.Warmed39 s.vm) {a : Addr} {kc : ClassId} {sz : Nat} {f : Nat → Value} (F : Avf Z h a kc .byte sz f) (ga : n0 ≤ a) {j x : Int32} (hj : ¬ j < 0) {i : Nat} (hi : j.toNatClampNeg = i) (hlt : i < sz)
    {g : JFrame} (hg : g.method = m) {rest : List Value} (hs : g.stack = .int x :: .int j :: .ref a :: rest) (hd : decode c.code g.pc = .ok (.bastore, 1)) :
    ∃ T' h', Sd n0 p l e R s m args below meth c T' h' k n ∧ Wr h h' a i (.int x.toInt8.toInt32) ∧ Avf Z h' a kc .byte sz (fun t => if t = i then .int x.toInt8.toInt32 else f t) ∧ ∀ target, Steps p.tables e below (T'.setTop { g with pc := g.pc + 1, stack := rest }) target → Steps p.tables e below (T.setTop g) target := by
  obtain ⟨L, X, N, q⟩ := X
  obtain ⟨cl, A, r1, r2, r3, r4⟩ := F
  obtain ⟨T', h', X', e', W, st⟩ := Jvm.RoadKit.stB X hx hZ q A (inb r2 hj hi hlt) hg hs hd
  subst hi
  exact ⟨T', h', ⟨_, X', Fr.snoc X' N ga, e'⟩, W, Avf.set ⟨cl, A, r1, r2, r3, r4⟩ W (fits_nar_byte _), st⟩
theorem Sd.stC (X : Sd n0 p l e R s m args below meth c T h k n) (hx : p.tables.exec = Jvm.exec) (hZ : Z.Warmed39 s.vm) {a : Addr} {kc : ClassId} {sz : Nat} {f : Nat → Value} (F : Avf Z h a kc .char sz f) (ga : n0 ≤ a) {j x : Int32} (hj : ¬ j < 0) {i : Nat} (hi : j.toNatClampNeg = i) (hlt : i < sz)
    {g : JFrame} (hg : g.method = m) {rest : List Value} (hs : g.stack = .int x :: .int j :: .ref a :: rest) (hd : decode c.code g.pc = .ok (.castore, 1)) :
    ∃ T' h', Sd n0 p l e R s m args below meth c T' h' k n ∧ Wr h h' a i (.int (nar .char x)) ∧ Avf Z h' a kc .char sz (fun t => if t = i then .int (nar .char x) else f t) ∧ ∀ target, Steps p.tables e below (T'.setTop { g with pc := g.pc + 1, stack := rest }) target → Steps p.tables e below (T.setTop g) target := by
  obtain ⟨L, X, N, q⟩ := X
  obtain ⟨cl, A, r1, r2, r3, r4⟩ := F
  obtain ⟨T', h', X', e', W, st⟩ := Jvm.RoadKit.stC X hx hZ q A (inb r2 hj hi hlt) hg hs hd
  subst hi
  exact ⟨T', h', ⟨_, X', Fr.snoc X' N ga, e'⟩, W, Avf.set ⟨cl, A, r1, r2, r3, r4⟩ W (fits_nar_char _), st⟩
theorem Sd.newRA (X : Sd n0 p l e R s m args below meth c T h k n) (hx : p.tables.exec = Jvm.exec) (hZ : Z.Warmed39 s.vm) {own C : String} {ty : FieldType} {index : Nat} (hown : s.vm.findClass own = some m.cls) (hC : (FieldType.array ty).toString = C) (w1 : (Cond.classLink own index C).before a0 Z = true) (w2 : (Cond.arrayOver (.array ty)).before a0 Z = true)
    {g : JFrame} (hg : g.method = m) (hd : decode c.code g.pc = .ok (.anewarray index, 3)) {z : Int32} {rest : List Value} (hs : g.stack = .int z :: rest)
    (hz : ¬ z < 0) {sz cap k' n' : Nat} (hsz : z.toNatClampNeg = sz) (hcap : sz ≤ cap) (hb : cap * 8 ≤ 536870912) (hk : k + 1 = k') (hn : n + cap = n') (hc : k' ≤ R.cells) (hl : n' ≤ R.slots) {ad : String} (had : "[" ++ C = ad) :
    ∃ T' h' kc a, Sd n0 p l e R s m args below meth c T' h' k' n' ∧ a = h.size ∧ Ext h h' ∧ Exa Z h' a ad ∧ Avf Z h' a kc (.array ty) sz (fun _ => .null) ∧ OvrA Z kc ty C ∧
      ∀ target, Steps p.tables e below (T'.setTop { g with pc := g.pc + 3, stack := .ref a :: rest }) target → Steps p.tables e below (T.setTop g) target := by
  subst hk hn hsz
  obtain ⟨L, X, N, q⟩ := X
  obtain ⟨T', h', kc, X', e', E, A, Ex, O, st⟩ := Jvm.RoadKit.newRA X hx hZ hown hC w1 w2 q hg hd hs hz hcap hb hc hl had
  exact ⟨T', h', kc, _, ⟨L, X', N, e'⟩, rfl, E, Ex, ⟨_, A, rfl, sz_new _ _ _, (back32 hz).2, fun i hi => ⟨by simp [newA, hi, defaultValue], rfl⟩⟩, O, st⟩
theorem Sd.stR (X : Sd n0 p l e R s m args below meth c T h k n) (hx : p.tables.exec = Jvm.exec) (hZ : Z.Warmed39 s.vm) {a : Addr} {kc : ClassId} {ty : FieldType} {sz : Nat} {f : Nat → Value} (F : Avf Z h a kc ty sz f) (ga : n0 ≤ a) (hty : ty.isReference = true) {j : Int32} {v : Value} (hv : v.isRef = true) (St : Sto Z h a v) (hj : ¬ j < 0) {i : Nat} (hi : j.toNatClampNeg = i) (hlt : i < sz)
    {g : JFrame} (hg : g.method = m) {rest : List Value} (hs : g.stack = v :: .int j :: .ref a :: rest) (hd : decode c.code g.pc = .ok (.aastore, 1)) :
    ∃ T' h', Sd n0 p l e R s m args below meth c T' h' k n ∧ Wr h h' a i v ∧ Avf Z h' a kc ty sz (fun t => if t = i then v else f t) ∧ ∀ target, Steps p.tables e below (T'.setTop { g with pc := g.pc + 1, stack := rest }) target → Steps p.tables e below (T.setTop g) target := by
  obtain ⟨L, X, N, q⟩ := X
  obtain ⟨cl, A, r1, r2, r3, r4⟩ := F
  obtain ⟨T', h', X', e', W, st⟩ := Jvm.RoadKit.stR X hx hZ q A (inb r2 hj hi hlt) hty St hg hs hd
  subst hi
  have hf : fits ty v = true := by cases ty <;> first | (cases hty; done) | (cases v <;> first | rfl | (cases hv; done))
  exact ⟨T', h', ⟨_, X', Fr.snoc X' N ga, e'⟩, W, Avf.set ⟨cl, A, r1, r2, r3, r4⟩ W hf, st⟩
theorem sto_avf {h : Heap} {a y : Addr} {kc : ClassId} {ty ty' : FieldType} {sz : Nat} {f : Nat → Value} {C : String} (F : Avf Z h a kc ty sz f) (O : OvrA Z kc ty' C) (I : Ins Z h y C true) : Sto Z h a (.ref y) := by
  obtain ⟨cl, A, r1, -⟩ := F
  exact Sto.ofVA A r1 O I
/-! calls -/
theorem Sd.callS (X : Sd n0 p l e R s m args below meth c T h k n) (hx : p.tables.exec = Jvm.exec) (hZ : Z.Warmed39 s.vm) {own : String} {index : Nat} {y : MethodName} {bytes : ByteArray} {maxL : Nat} {ret : Option FieldType} {rm : Room} {as' : Array Value} {Q : Option Value → Heap → Prop}
    (hown : s.vm.findClass own = some m.cls) (w1 : (Cond.methodLink own index y).before a0 Z = true) (w2 : (Cond.static y).before a0 Z = true) (w3 : (Cond.initialized y.cls).before a0 Z = true) (w4 : (Cond.code y bytes maxL ret).before a0 Z = true) (hy : y.cls ≠ "java/lang/invoke/MethodHandle" ∧ y.cls ≠ "java/lang/invoke/VarHandle")
    (hM : Met l Z n0 y bytes maxL ret [] rm as' h Q) {g : JFrame} (hg : g.method = m) (hsize : g.locals.size = c.maxLocals) {argsL rest : List Value} (hlen : ∀ sig, parseMethodDescriptor y.desc = some sig → argsL.length = sig.parameters.length)
    (hstack : g.stack = argsL.reverse ++ rest) (hd : decode c.code g.pc = .ok (.invokestatic index, 3)) (has : argsL.toArray = as') (hf : rm.frames + 1 ≤ R.frames) (hl : 2 * g.monitorRoom + (rest.map fun v => v.category).sum + (maxL + 11) + rm.locals ≤ R.locals)
    {k' n' : Nat} (hk : k + rm.cells = k') (hn : n + rm.slots = n') (hc : k' ≤ R.cells) (hs : n' ≤ R.slots) :
    ∃ v T' h', Sd n0 p l e R s m args below meth c T' h' k' n' ∧ Q v h' ∧ ∀ target, Steps p.tables e below (T'.setTop { g with pc := g.pc + 3, stack := v.toList ++ rest }) target → Steps p.tables e below (T.setTop g) target := by
  subst hk hn
  obtain ⟨L, X, N, q⟩ := X
  obtain ⟨v, _, ⟨T', L', k1, n1⟩, -, X', ⟨Lc, hQ, q1, q2, q3⟩, st⟩ := Jvm.LawKit.callS X hx (y := y) hown (mvT hZ w1) (mvT hZ w2) (mvT hZ w3) (mvT hZ w4) hy (backOf (Q := fun v h L => Q v h ∧ Fr n0 L) hM hZ w4 w3 hf hl) hg hsize hlen hstack (Nat.le_refl _) hd (fun _ _ => ⟨has, q, hc, hs⟩)
  dsimp only [Pt.U, Pt.locs, Pt.cells, Pt.slots] at X' q1 q2 q3 st hQ
  subst q1 q2 q3
  exact ⟨v, T', _, ⟨_, X', Fr.app N hQ.2, rfl⟩, hQ.1, st⟩
theorem Sd.callI (X : Sd n0 p l e R s m args below meth c T h k n) (hx : p.tables.exec = Jvm.exec) (hZ : Z.Warmed39 s.vm) {own : String} {index : Nat} {y : MethodName} {bytes : ByteArray} {maxL : Nat} {rm : Room} {as' : Array Value} {Q : Option Value → Heap → Prop} (hy1 : y.name = "<init>")
    (hown : s.vm.findClass own = some m.cls) (w1 : (Cond.methodLink own index y).before a0 Z = true) (w2 : (Cond.instanceMethod y).before a0 Z = true) (w3 : (Cond.initialized y.cls).before a0 Z = true) (w4 : (Cond.code y bytes maxL none).before a0 Z = true) (hy : y.cls ≠ "java/lang/invoke/MethodHandle" ∧ y.cls ≠ "java/lang/invoke/VarHandle")
    (hM : Met l Z n0 y bytes maxL none [] rm as' h Q) {g : JFrame} (hg : g.method = m) (hsize : g.locals.size = c.maxLocals) {a : Addr} {argsL rest : List Value} (hlen : ∀ sig, parseMethodDescriptor y.desc = some sig → argsL.length = sig.parameters.length)
    (hstack : g.stack = argsL.reverse ++ .ref a :: rest) (hd : decode c.code g.pc = .ok (.invokespecial index, 3)) (has : (.ref a :: argsL).toArray = as') (hf : rm.frames + 1 ≤ R.frames) (hl : 2 * g.monitorRoom + (rest.map fun v => v.category).sum + (maxL + 11) + rm.locals ≤ R.locals)
    {k' n' : Nat} (hk : k + rm.cells = k') (hn : n + rm.slots = n') (hc : k' ≤ R.cells) (hs : n' ≤ R.slots) :
    ∃ v T' h', Sd n0 p l e R s m args below meth c T' h' k' n' ∧ Q v h' ∧ ∀ target, Steps p.tables e below (T'.setTop { g with pc := g.pc + 3, stack := v.toList ++ rest }) target → Steps p.tables e below (T.setTop g) target := by
  subst hk hn
  obtain ⟨L, X, N, q⟩ := X
  obtain ⟨v, _, ⟨T', L', k1, n1⟩, -, X', ⟨Lc, hQ, q1, q2, q3⟩, st⟩ := X.specialBack hx (y := y) hy1 hown (mvT hZ w1) (mvT hZ w2) (mvT hZ w4) hy (backOf (Q := fun v h L => Q v h ∧ Fr n0 L) hM hZ w4 w3 hf hl) hg hsize (Steps.refl _) hlen hstack (Nat.le_refl _) hd (fun _ _ => ⟨has, q, hc, hs⟩)
  dsimp only [Pt.U, Pt.locs, Pt.cells, Pt.slots] at X' q1 q2 q3 st hQ
  subst q1 q2 q3
  exact ⟨v, T', _, ⟨_, X', Fr.app N hQ.2, rfl⟩, hQ.1, fun _ kt => st.trans kt⟩
theorem Sd.callV (X : Sd n0 p l e R s m args below meth c T h k n) (hx : p.tables.exec = Jvm.exec) (hZ : Z.Warmed39 s.vm) {own C : String} {index : Nat} {y z : MethodName} {bytes : ByteArray} {maxL : Nat} {ret : Option FieldType} {rm : Room} {as' : Array Value} {Q : Option Value → Heap → Prop}
    (hown : s.vm.findClass own = some m.cls) (w1 : (Cond.methodLink own index y).before a0 Z = true) (w2 : (Cond.declares y).before a0 Z = true) (hnf : NotFace s y) (w5 : (Cond.selects C y z).before a0 Z = true) (w6 : (Cond.instanceMethod z).before a0 Z = true) (w3 : (Cond.initialized z.cls).before a0 Z = true) (w4 : (Cond.code z bytes maxL ret).before a0 Z = true) (hy : y.cls ≠ "java/lang/invoke/MethodHandle" ∧ y.cls ≠ "java/lang/invoke/VarHandle")
    (hM : Met l Z n0 z bytes maxL ret [] rm as' h Q) {a : Addr} (E : Exa Z h a C) {g : JFrame} (hg : g.method = m) (hsize : g.locals.size = c.maxLocals) {argsL rest : List Value} (hlen : ∀ sig, parseMethodDescriptor y.desc = some sig → argsL.length = sig.parameters.length)
    (hstack : g.stack = argsL.reverse ++ .ref a :: rest) (hd : decode c.code g.pc = .ok (.invokevirtual index, 3)) (has : (.ref a :: argsL).toArray = as') (hf : rm.frames + 1 ≤ R.frames) (hl : 2 * g.monitorRoom + (rest.map fun v => v.category).sum + (maxL + 11) + rm.locals ≤ R.locals)
    {k' n' : Nat} (hk : k + rm.cells = k') (hn : n + rm.slots = n') (hc : k' ≤ R.cells) (hs : n' ≤ R.slots) :
    ∃ v T' h', Sd n0 p l e R s m args below meth c T' h' k' n' ∧ Q v h' ∧ ∀ target, Steps p.tables e below (T'.setTop { g with pc := g.pc + 3, stack := v.toList ++ rest }) target → Steps p.tables e below (T.setTop g) target := by
  subst hk hn
  obtain ⟨L, X, N, q⟩ := X
  obtain ⟨cB, kB, b1, b2, b3⟩ := isOf (T := T) hZ q E
  obtain ⟨v, _, ⟨T', L', k1, n1⟩, -, X', ⟨Lc, hQ, q1, q2, q3⟩, st⟩ := X.virtualBack hx (y := y) (z := z) hown (mvT hZ w1) (mvT hZ w2) hnf (mvT hZ w5) (mvT hZ w6) hy (backOf (Q := fun v h L => Q v h ∧ Fr n0 L) hM hZ w4 w3 hf hl) b1 b3 hg hsize (Steps.refl _) hlen hstack (Nat.le_refl _) hd (fun _ _ => ⟨has, q, hc, hs⟩)
  dsimp only [Pt.U, Pt.locs, Pt.cells, Pt.slots] at X' q1 q2 q3 st hQ
  subst q1 q2 q3
  exact ⟨v, T', _, ⟨_, X', Fr.app N hQ.2, rfl⟩, hQ.1, fun _ kt => st.trans kt⟩
theorem Sd.callP (X : Sd n0 p l e R s m args below meth c T h k n) (hx : p.tables.exec = Jvm.exec) (hZ : Z.Warmed39 s.vm) {own C : String} {index : Nat} {y : MethodName} {bytes : ByteArray} {maxL : Nat} {ret : Option FieldType} {rm : Room} {as' : Array Value} {Q : Option Value → Heap → Prop}
    (hown : s.vm.findClass own = some m.cls) (w1 : (Cond.methodLink own index y).before a0 Z = true) (w6 : (Cond.instanceMethod y).before a0 Z = true) (w5 : (Cond.selects y.cls y y).before a0 Z = true) (w7 : (Cond.privateMethod y).before a0 Z = true) (w3 : (Cond.initialized y.cls).before a0 Z = true) (w4 : (Cond.code y bytes maxL ret).before a0 Z = true) (hy : y.cls ≠ "java/lang/invoke/MethodHandle" ∧ y.cls ≠ "java/lang/invoke/VarHandle")
    (hM : Met l Z n0 y bytes maxL ret [] rm as' h Q) {a : Addr} (E : Exa Z h a C) {g : JFrame} (hg : g.method = m) (hsize : g.locals.size = c.maxLocals) {argsL rest : List Value} (hlen : ∀ sig, parseMethodDescriptor y.desc = some sig → argsL.length = sig.parameters.length)
    (hstack : g.stack = argsL.reverse ++ .ref a :: rest) (hd : decode c.code g.pc = .ok (.invokevirtual index, 3)) (has : (.ref a :: argsL).toArray = as') (hf : rm.frames + 1 ≤ R.frames) (hl : 2 * g.monitorRoom + (rest.map fun v => v.category).sum + (maxL + 11) + rm.locals ≤ R.locals)
    {k' n' : Nat} (hk : k + rm.cells = k') (hn : n + rm.slots = n') (hc : k' ≤ R.cells) (hs : n' ≤ R.slots) :
    ∃ v T' h', Sd n0 p l e R s m args below meth c T' h' k' n' ∧ Q v h' ∧ ∀ target, Steps p.tables e below (T'.setTop { g with pc := g.pc + 3, stack := v.toList ++ rest }) target → Steps p.tables e below (T.setTop g) target := by
  subst hk hn
  obtain ⟨L, X, N, q⟩ := X
  obtain ⟨cl, b1, b2⟩ := E.cell
  obtain ⟨v, _, ⟨T', L', k1, n1⟩, -, X', ⟨Lc, hQ, q1, q2, q3⟩, st⟩ := X.privateBack hx (y := y) hown (mvT hZ w1) (mvT hZ w6) (mvT hZ w5) (Cond.privateMethod_at (mvP hZ w7 (args := #[]))) (mvT hZ w4) hy (backOf (Q := fun v h L => Q v h ∧ Fr n0 L) hM hZ w4 w3 hf hl) hg hsize (Steps.refl _) (a := a) (by rw [q]; exact b1) b2 hlen hstack (Nat.le_refl _) hd (fun _ _ => ⟨has, q, hc, hs⟩)
  dsimp only [Pt.U, Pt.locs, Pt.cells, Pt.slots] at X' q1 q2 q3 st hQ
  subst q1 q2 q3
  exact ⟨v, T', _, ⟨_, X', Fr.app N hQ.2, rfl⟩, hQ.1, fun _ kt => st.trans kt⟩
theorem Sd.callU (X : Sd n0 p l e R s m args below meth c T h k n) (hx : p.tables.exec = Jvm.exec) (hZ : Z.Warmed39 s.vm) {own C owner : String} {index : Nat} {y z : MethodName} {bytes : ByteArray} {maxL : Nat} {ret : Option FieldType} {rm : Room} {as' : Array Value} {Q : Option Value → Heap → Prop}
    (hown : s.vm.findClass own = some m.cls) (w1 : (Cond.methodLink own index y).before a0 Z = true) (w2 : (Cond.sameMethod y.cls owner y.name y.desc).before a0 Z = true) (w7 : (Cond.declares ⟨owner, y.name, y.desc⟩).before a0 Z = true) (ho : owner ≠ "java/lang/invoke/MethodHandle" ∧ owner ≠ "java/lang/invoke/VarHandle") (w5 : (Cond.selects C y z).before a0 Z = true) (w6 : (Cond.instanceMethod z).before a0 Z = true) (w3 : (Cond.initialized z.cls).before a0 Z = true) (w4 : (Cond.code z bytes maxL ret).before a0 Z = true)
    (hM : Met l Z n0 z bytes maxL ret [] rm as' h Q) {a : Addr} (E : Exa Z h a C) {g : JFrame} (hg : g.method = m) (hsize : g.locals.size = c.maxLocals) {argsL rest : List Value} (hlen : ∀ sig, parseMethodDescriptor y.desc = some sig → argsL.length = sig.parameters.length)
    (hstack : g.stack = argsL.reverse ++ .ref a :: rest) (hd : decode c.code g.pc = .ok (.invokevirtual index, 3)) (has : (.ref a :: argsL).toArray = as') (hf : rm.frames + 1 ≤ R.frames) (hl : 2 * g.monitorRoom + (rest.map fun v => v.category).sum + (maxL + 11) + rm.locals ≤ R.locals)
    {k' n' : Nat} (hk : k + rm.cells = k') (hn : n + rm.slots = n') (hc : k' ≤ R.cells) (hs : n' ≤ R.slots) :
    ∃ v T' h', Sd n0 p l e R s m args below meth c T' h' k' n' ∧ Q v h' ∧ ∀ target, Steps p.tables e below (T'.setTop { g with pc := g.pc + 3, stack := v.toList ++ rest }) target → Steps p.tables e below (T.setTop g) target := by
  subst hk hn
  obtain ⟨L, X, N, q⟩ := X
  obtain ⟨cB, kB, b1, b2, b3⟩ := isOf (T := T) hZ q E
  obtain ⟨v, _, ⟨T', L', k1, n1⟩, -, X', ⟨Lc, hQ, q1, q2, q3⟩, st⟩ := X.virtualBackUp hx (x := y) (y := z) hown (mvT hZ w1) (mvT hZ w2) (mvT hZ w7) ho (mvT hZ w5) (mvT hZ w6) (backOf (Q := fun v h L => Q v h ∧ Fr n0 L) hM hZ w4 w3 hf hl) b1 b3 hg hsize (Steps.refl _) hlen hstack (Nat.le_refl _) hd (fun _ _ => ⟨has, q, hc, hs⟩)
  dsimp only [Pt.U, Pt.locs, Pt.cells, Pt.slots] at X' q1 q2 q3 st hQ
  subst q1 q2 q3
  exact ⟨v, T', _, ⟨_, X', Fr.app N hQ.2, rfl⟩, hQ.1, fun _ kt => st.trans kt⟩
theorem Sd.instNo (X : Sd n0 p l e R s m args below meth c T h k n) (hx : p.tables.exec = Jvm.exec) (hZ : Z.Warmed39 s.vm) {own K C : String} {index : Nat} (hown : s.vm.findClass own = some m.cls) (w : (Cond.classLink own index K).before a0 Z = true) {a : Addr} (E : Exa Z h a C) (F : ∃ c t, Z.vm.findClass C = some c ∧ Z.vm.findClass K = some t ∧ Z.vm.assignable c t = false)
    {g : JFrame} (hg : g.method = m) {rest : List Value} (hs : g.stack = .ref a :: rest) (hd : decode c.code g.pc = .ok (.instanceof index, 3)) :
    ∃ T', Sd n0 p l e R s m args below meth c T' h k n ∧ ∀ target, Steps p.tables e below (T'.setTop { g with pc := g.pc + 3, stack := .int 0 :: rest }) target → Steps p.tables e below (T.setTop g) target := by
  obtain ⟨L, X, N, q⟩ := X
  obtain ⟨T', X', e', st⟩ := Jvm.RoadKit.instNo X hx hZ hown w q E F hg hs hd
  exact ⟨T', ⟨L, X', N, e'⟩, st⟩
theorem ns_root {O K : String} {kk : Nat} (w : (Cond.noSuperclass O).before a0 Z = true) (wk : (Cond.instantiable K kk).before a0 Z = true) (hn : O ≠ K) : NS Z O K := by
  obtain ⟨c, k, h1, h2, h3, -, -⟩ := Cond.noSuperclass_spec w
  obtain ⟨t, k2, g1, -⟩ := Cond.instantiable_spec wk
  have ne := ids_ne h1 g1 hn
  refine ⟨c, t, h1, g1, fun fuel => ?_⟩
  cases fuel with
  | zero => rfl
  | succ f => simp [Vm.isSubclassAux, ne, h2, h3]
theorem ns_no {C K : String} {k1 k2 : Nat} (w : (Cond.instantiable C k1).before a0 Z = true) (wk : (Cond.instantiable K k2).before a0 Z = true) (n : NS Z C K) (hn : C ≠ K) : ∃ c t, Z.vm.findClass C = some c ∧ Z.vm.findClass K = some t ∧ Z.vm.assignable c t = false := by
  obtain ⟨c, t, h0, g0, n3⟩ := n
  obtain ⟨c', kc, h1, h2, h3, h4, -⟩ := Cond.instantiable_spec w
  obtain ⟨t', kt, g1, g2, g3, g4, -⟩ := Cond.instantiable_spec wk
  cases h0.symm.trans h1
  cases g0.symm.trans g1
  have ne := ids_ne h0 g0 hn
  refine ⟨c, t, h0, g0, ?_⟩
  have g5 : kt.isInterface = false := by simp at g4; exact g4.1
  show Z.vm.assignableAux (255 + 1) c t = false
  simp [Vm.assignableAux, ne, h2, g2, h3, g3, g5, Vm.isSubclass, n3]
theorem keep_ext {h h' : Heap} (K : Keep h h' []) : Ext h h' := ⟨K.1, fun x c q => K.2.1 x c q nin0⟩
theorem Exa.plain {h : Heap} {a : Addr} {C : String} (F : Exa Z h a C) : ∀ cell : Cell, h[a]? = some cell → cell.vm.isStatics = false := fun cell hc => by
  obtain ⟨c, k, h1, -, -, h4, -⟩ := F
  cases h1.symm.trans hc; exact h4
theorem Avf.plain {h : Heap} {a : Addr} {kc : ClassId} {ty : FieldType} {sz : Nat} {f : Nat → Value} (F : Avf Z h a kc ty sz f) : ∀ cell : Cell, h[a]? = some cell → cell.vm.isStatics = false := fun cell hc => by
  obtain ⟨cl, A, -⟩ := F
  cases A.1.symm.trans hc; exact Arr.plain A
theorem Sta.keepN {h h' : Heap} {C f d : String} {v : Value} {ws : List Addr} (F : Sta Z h C f d v) (K : Keep h h' ws) (q : ∀ x ∈ ws, ∀ cell : Cell, h[x]? = some cell → cell.vm.isStatics = false) : Sta Z h' C f d v := by
  obtain ⟨cf, i, k, fl, st, cell, h1, h2, h3, h4, h5, h6, h7⟩ := F
  exact ⟨cf, i, k, fl, st, cell, h1, h2, h3, h4, K.2.1 st cell h5 (fun z => by rw [q st z cell h5] at h6; cases h6), h6, h7⟩
/-! at the start -/
theorem sta_exa {args : Array Value} {C f d K : String} (hx : (Cond.exactly (.static C f d) K).value args Z none Z [] = some true) (wi : (Cond.initialized C).before args Z = true) (wl : (Cond.laysStatic C f d).before args Z = true) : ∃ a, (Term.static C f d).eval args Z none [] Z = some (.ref a) ∧ Sta Z Z.heap C f d (.ref a) ∧ Exa Z Z.heap a K := by
  obtain ⟨a, ev⟩ := exa_v hx
  exact ⟨a, ev, Sta.start ev (Or.inr ⟨wi, wl⟩), Exa.start ev hx⟩
theorem sta_arr {args : Array Value} {C f d : String} {ty : FieldType} (hx : (Cond.arrayOf (.static C f d) ty).value args Z none Z [] = some true) (wi : (Cond.initialized C).before args Z = true) (wl : (Cond.laysStatic C f d).before args Z = true) : ∃ a cl, (Term.static C f d).eval args Z none [] Z = some (.ref a) ∧ Sta Z Z.heap C f d (.ref a) ∧ Arr Z Z.heap a cl ty := by
  obtain ⟨a, ev⟩ := arr_v hx
  obtain ⟨cl, A⟩ := Arr.start ev hx
  exact ⟨a, cl, ev, Sta.start ev (Or.inr ⟨wi, wl⟩), A⟩
theorem int_of_eq {args : Array Value} {t : Term} {kk : Int32} (h : (Cond.eq t (.int kk)).value args Z none Z [] = some true) : t.eval args Z none [] Z = some (.int kk) := by
  obtain ⟨x, y, h1, h2, k1, k2⟩ := cmp_v (Or.inl h)
  cases (Option.some.inj h2 : Value.int kk = y)
  obtain ⟨z, rfl⟩ : ∃ z, x = .int z := k2
  have q : z = kk := by simpa [Cond.value, h1, Term.eval] using h
  rw [h1, q]
theorem fld_eq {args : Array Value} {t : Term} {C f d : String} {a : Addr} {kk : Int32} (ht : t.eval args Z none [] Z = some (.ref a)) (h : (Cond.eq (.field t C f d) (.int kk)).value args Z none Z [] = some true) : Fld Z Z.heap a C f d (.int kk) :=
  Fld.start ((fld_at ht).symm.trans (int_of_eq h))
theorem ref_of_eq {args : Array Value} {t u : Term} {a : Addr} (hu : u.eval args Z none [] Z = some (.ref a)) (h : (Cond.eq t u).value args Z none Z [] = some true) : t.eval args Z none [] Z = some (.ref a) := by
  obtain ⟨x, y, h1, h2, k1, k2⟩ := cmp_v (Or.inl h)
  cases (Option.some.inj (hu.symm.trans h2) : Value.ref a = y)
  have kx : x.isRef = true := k2.2
  rw [h1, gotT (eq_R h1 hu kx rfl) h]
theorem avf_len {args : Array Value} {t : Term} {a : Addr} {cl : Cell} {ty : FieldType} {z : Int32} {sz : Nat} (A : Arr Z Z.heap a cl ty) (ev : t.eval args Z none [] Z = some (.ref a)) (h : (Term.length t).eval args Z none [] Z = some (.int z)) (hz : z.toNatClampNeg = sz) : cl.slots.size = sz := by
  have ha : Z.arrayAt? a = some cl := A.fin (Vm.Alike.refl _)
  simp only [Term.eval, ev, ha, Option.bind_eq_bind, Option.bind_some] at h
  split at h
  · rename_i hl
    have e : cl.slots.size.toInt32 = z := by simpa using h
    rw [← hz, ← e]
    have q := len_toInt hl
    simp only [Int32.toNatClampNeg, q]; omega
  · cases h
theorem iremS {g : JFrame} {target : State} (X : Sd n0 p l e R s m args below meth c T h k n) (hx : p.tables.exec = Jvm.exec) (hg : g.method = m) {x y : Int32} {rest : List Value} (hd : decode c.code g.pc = .ok (.irem, 1)) (hs : g.stack = .int y :: .int x :: rest) (hy : y ≠ 0)
    (hr : Steps p.tables e below (T.setTop { g with pc := g.pc + 1, stack := .int (x % y) :: rest }) target) : Steps p.tables e below (T.setTop g) target := by
  obtain ⟨L, X, -⟩ := X; exact iremM X hx hg hd hs hy hr
end Sds
end Jvm.RoadKit
namespace Jvm.Pilot.@@N@@
open Jvm Jvm.ClassFile Sem Op Lib Jvm.Free Jvm.Stand Jvm.LawKit Jvm.RoadKit Bundle Jvm.Pilot.@@N@@.Jvm.D
theorem tw {a0 : Array Value} {Z : State} (hw : ∀ d ∈ tables_1, d.before a0 Z = true) (i : Nat) {d : Jvm.Cond} (h : tables_1[i]? = some d) : d.before a0 Z = true := hw _ (List.mem_of_getElem? h)
theorem own_ips (x : Int32) : ∃ n : Int32, ((x &&& (2147483647 : Int32)) % (3 : Int32)) + (1 : Int32) = n ∧ 1 ≤ n.toInt ∧ n.toInt ≤ 3 := by
  have q := c_mask x 2147483647 31 (by decide) (by decide)
  have r := Int32.toInt_mod (x &&& (2147483647 : Int32)) 3
  have e3 : (3 : Int32).toInt = 3 := rfl
  rw [e3, Int.tmod_eq_emod_of_nonneg (by omega)] at r
  have a := c_iadd ((x &&& (2147483647 : Int32)) % (3 : Int32)) 1
  have b := rng32 (((x &&& (2147483647 : Int32)) % (3 : Int32)) + (1 : Int32))
  have e1 : (1 : Int32).toInt = 1 := rfl
  rw [e1] at a
  refine ⟨_, rfl, ?_, ?_⟩ <;> omega
theorem own_m4 (x : Int32) : 0 ≤ (x &&& (3 : Int32)).toInt ∧ (x &&& (3 : Int32)).toInt ≤ 3 := by
  have q := c_mask x 3 2 (by decide) (by decide)
  omega
theorem own_64 {z : Int32} (h1 : 0 ≤ z.toInt) (h2 : z.toInt ≤ 3) : ¬ ((64 : Int32) * z) < 0 ∧ ((64 : Int32) * z).toNatClampNeg ≤ 192 := by
  have a := c_imul 64 z
  have b := rng32 ((64 : Int32) * z)
  have e : (64 : Int32).toInt = 64 := rfl
  have e0 : (0 : Int32).toInt = 0 := rfl
  rw [e] at a
  refine ⟨?_, ?_⟩
  · rw [Int32.lt_iff_toInt_lt, e0]; omega
  · simp only [Int32.toNatClampNeg]; omega
theorem own_r3 (x : Int32) : 0 ≤ ((x &&& (3 : Int32)) % (3 : Int32)).toInt ∧ ((x &&& (3 : Int32)) % (3 : Int32)).toInt ≤ 2 := by
  have q := c_mask x 3 2 (by decide) (by decide)
  have r := Int32.toInt_mod (x &&& (3 : Int32)) 3
  have e3 : (3 : Int32).toInt = 3 := rfl
  rw [e3, Int.tmod_eq_emod_of_nonneg (by omega)] at r
  omega
theorem own_fm (x n : Int32) (h1 : 1 ≤ n.toInt) : 0 ≤ ((x &&& (7 : Int32)) % n).toInt ∧ ((x &&& (7 : Int32)) % n).toInt < n.toInt := by
  have q := c_mask x 7 3 (by decide) (by decide)
  have r := Int32.toInt_mod (x &&& (7 : Int32)) n
  rw [Int.tmod_eq_emod_of_nonneg (by omega)] at r
  have a := Int.emod_nonneg (x &&& (7 : Int32)).toInt (b := n.toInt) (by omega)
  have b := Int.emod_lt_of_pos (x &&& (7 : Int32)).toInt (b := n.toInt) (by omega)
  omega
theorem own_nz {n : Int32} (h1 : 1 ≤ n.toInt) : n ≠ 0 := fun q => by
  rw [q] at h1
  have e0 : (0 : Int32).toInt = 0 := rfl
  omega
theorem own_r {r : Int32} (h1 : 0 ≤ r.toInt) (h2 : r.toInt ≤ 2) : r = 0 ∨ r = 1 ∨ r = 2 := by
  have e0 : (0 : Int32).toInt = 0 := rfl
  have e1 : (1 : Int32).toInt = 1 := rfl
  have e2 : (2 : Int32).toInt = 2 := rfl
  simp only [← Int32.toInt_inj, e0, e1, e2]
  omega
theorem own_ix {r f n : Int32} (r1 : 0 ≤ r.toInt) (r2 : r.toInt ≤ 2) (n1 : 1 ≤ n.toInt) (n2 : n.toInt ≤ 3) (f1 : 0 ≤ f.toInt) (f2 : f.toInt < n.toInt) : (((r &&& (65535 : Int32)) * n) + f).toInt = r.toInt * n.toInt + f.toInt ∧ 0 ≤ r.toInt * n.toInt + f.toInt ∧ r.toInt * n.toInt + f.toInt < 9 := by
  have e0 : (0 : Int32).toInt = 0 := rfl
  have e1 : (1 : Int32).toInt = 1 := rfl
  have e2 : (2 : Int32).toInt = 2 := rfl
  rcases own_r r1 r2 with rfl | rfl | rfl
  · have m : ((0 : Int32) &&& 65535) = 0 := by decide
    rw [m]
    have a := c_imul 0 n
    have a2 := rng32 ((0 : Int32) * n)
    have b := c_iadd ((0 : Int32) * n) f
    have b2 := rng32 ((0 : Int32) * n + f)
    rw [e0] at a ⊢
    omega
  · have m : ((1 : Int32) &&& 65535) = 1 := by decide
    rw [m]
    have a := c_imul 1 n
    have a2 := rng32 ((1 : Int32) * n)
    have b := c_iadd ((1 : Int32) * n) f
    have b2 := rng32 ((1 : Int32) * n + f)
    rw [e1] at a ⊢
    omega
  · have m : ((2 : Int32) &&& 65535) = 2 := by decide
    rw [m]
    have a := c_imul 2 n
    have a2 := rng32 ((2 : Int32) * n)
    have b := c_iadd ((2 : Int32) * n) f
    have b2 := rng32 ((2 : Int32) * n + f)
    rw [e2] at a ⊢
    omega
theorem own_cell {r f n : Int32} (r1 : 0 ≤ r.toInt) (r2 : r.toInt ≤ 2) (n1 : 1 ≤ n.toInt) (n2 : n.toInt ≤ 3) (f1 : 0 ≤ f.toInt) (f2 : f.toInt < n.toInt) : (r.toUInt32 >>> ((16 : Int32) &&& 31).toUInt32).toInt32 = 0 ∧ ¬ (((r &&& (65535 : Int32)) * n) + f) < 0 ∧ (((r &&& (65535 : Int32)) * n) + f).toNatClampNeg < ((64 : Int32) * n).toNatClampNeg := by
  have q := own_ix r1 r2 n1 n2 f1 f2
  have e0 : (0 : Int32).toInt = 0 := rfl
  have a := c_imul 64 n
  have b := rng32 ((64 : Int32) * n)
  have e : (64 : Int32).toInt = 64 := rfl
  rw [e] at a
  refine ⟨?_, ?_, ?_⟩
  · rcases own_r r1 r2 with rfl | rfl | rfl <;> decide
  · rw [Int32.lt_iff_toInt_lt, e0]; omega
  · simp only [Int32.toNatClampNeg]; omega
theorem own_same {r f r' f' n : Int32} (r1 : 0 ≤ r.toInt) (r2 : r.toInt ≤ 2) (n1 : 1 ≤ n.toInt) (n2 : n.toInt ≤ 3) (f1 : 0 ≤ f.toInt) (f2 : f.toInt < n.toInt) (s1 : 0 ≤ r'.toInt) (s2 : r'.toInt ≤ 2) (t1 : 0 ≤ f'.toInt) (t2 : f'.toInt < n.toInt)
    (h : (((r &&& (65535 : Int32)) * n) + f).toNatClampNeg = (((r' &&& (65535 : Int32)) * n) + f').toNatClampNeg) : r = r' ∧ f = f' := by
  have q := own_ix r1 r2 n1 n2 f1 f2
  have q' := own_ix s1 s2 n1 n2 t1 t2
  simp only [Int32.toNatClampNeg, q.1, q'.1] at h
  have u1 := Int.toNat_of_nonneg q.2.1
  have u2 := Int.toNat_of_nonneg q'.2.1
  have h' : r.toInt * n.toInt + f.toInt = r'.toInt * n.toInt + f'.toInt := by rw [← u1, ← u2, h]
  rw [← Int32.toInt_inj, ← Int32.toInt_inj]
  clear q q' u1 u2 h
  generalize r.toInt = R at *
  generalize r'.toInt = R' at *
  generalize n.toInt = N at *
  generalize f.toInt = F at *
  generalize f'.toInt = F' at *
  have a1 : R = 0 ∨ R = 1 ∨ R = 2 := by omega
  have a2 : R' = 0 ∨ R' = 1 ∨ R' = 2 := by omega
  rcases a1 with rfl | rfl | rfl <;> rcases a2 with rfl | rfl | rfl <;> omega
theorem d4_0 : decode jdk_29_method_65_code 0 = .ok (.iload_n 0, 1) := by decide +kernel
theorem d4_1 : decode jdk_29_method_65_code 1 = .ok (.iload_n 1, 1) := by decide +kernel
theorem d4_2 : decode jdk_29_method_65_code 2 = .ok (.if_icmp .lt 7, 3) := by decide +kernel
theorem d4_5 : decode jdk_29_method_65_code 5 = .ok (.iload_n 0, 1) := by decide +kernel
theorem d4_6 : decode jdk_29_method_65_code 6 = .ok (.goto 4, 3) := by decide +kernel
theorem d4_10 : decode jdk_29_method_65_code 10 = .ok (.ireturn, 1) := by decide +kernel
abbrev Rm4 : Room := { frames := 0, cells := 0, slots := 0, locals := 0 }
set_option maxRecDepth 65536 in
set_option maxHeartbeats 40000000 in
theorem rm4 (l : Launch) (Z : State) (a0 : Array Value) (hw : ∀ d ∈ tables_1, d.before a0 Z = true) (ws : List Jvm.Cond)  (h0 : Heap) (n0 : Nat) (Z0 : n0 ≤ h0.size) :
    Met l Z n0 (⟨"java/lang/Math", "max", "(II)I"⟩ : MethodName) jdk_29_method_65_code 2 (some .int) ws Rm4 #[(.int (64 : Int32)), (.int (0 : Int32))] h0 (fun v h => v = some (.int 64) ∧ h0 = h) := by
  refine enter (Ls := #[.val (.int (64 : Int32)), .val (.int (0 : Int32))]) (Jvm.Free.JP.mathPlain rfl (by decide +kernel)) (fun m => by first | (simp [entryFrame, mkF, argsToLocals, Value.category]; done) | rfl) ?_
  intro p e s m below meth c T0 hx hby hml hown hnm hret hlk hZ X0
  show Go p.tables e below _ (T0.setTop (mkF m 0 #[.val (.int (64 : Int32)), .val (.int (0 : Int32))] []))
  refine Go.by (fun _ => XS.iloadN X0.here hx rfl (hb hby d4_0) rfl) ?_
  show Go p.tables e below _ (T0.setTop (mkF m 1 #[.val (.int (64 : Int32)), .val (.int (0 : Int32))] [(.int (64 : Int32))]))
  refine Go.by (fun _ => XS.iloadN X0.here hx rfl (hb hby d4_1) rfl) ?_
  show Go p.tables e below _ (T0.setTop (mkF m 2 #[.val (.int (64 : Int32)), .val (.int (0 : Int32))] [(.int (0 : Int32)), (.int (64 : Int32))]))
  refine Go.by (fun _ => XS.icmpNo X0.here hx rfl (hb hby d4_2) rfl (flt (by decide)).1) ?_
  show Go p.tables e below _ (T0.setTop (mkF m 5 #[.val (.int (64 : Int32)), .val (.int (0 : Int32))] []))
  refine Go.by (fun _ => XS.iloadN X0.here hx rfl (hb hby d4_5) rfl) ?_
  show Go p.tables e below _ (T0.setTop (mkF m 6 #[.val (.int (64 : Int32)), .val (.int (0 : Int32))] [(.int (64 : Int32))]))
  refine Go.by (fun _ => XS.goto X0.here hx rfl (pc0 := 6) (pc' := 10) rfl (hb hby d4_6) (by decide) (by decide)) ?_
  show Go p.tables e below _ (T0.setTop (mkF m 10 #[.val (.int (64 : Int32)), .val (.int (0 : Int32))] [(.int (64 : Int32))]))
  exact Go.retI X0 hx hlk hret (hb hby d4_10) (by decide) (by decide) ⟨rfl, rfl⟩
theorem d5_0 : decode jdk_29_method_69_code 0 = .ok (.iload_n 0, 1) := by decide +kernel
theorem d5_1 : decode jdk_29_method_69_code 1 = .ok (.iload_n 1, 1) := by decide +kernel
theorem d5_2 : decode jdk_29_method_69_code 2 = .ok (.if_icmp .gt 7, 3) := by decide +kernel
theorem d5_9 : decode jdk_29_method_69_code 9 = .ok (.iload_n 1, 1) := by decide +kernel
theorem d5_10 : decode jdk_29_method_69_code 10 = .ok (.ireturn, 1) := by decide +kernel
abbrev Rm5 : Room := { frames := 0, cells := 0, slots := 0, locals := 0 }
set_option maxRecDepth 65536 in
set_option maxHeartbeats 40000000 in
theorem rm5 (l : Launch) (Z : State) (a0 : Array Value) (hw : ∀ d ∈ tables_1, d.before a0 Z = true) (ws : List Jvm.Cond)  (h0 : Heap) (n0 : Nat) (Z0 : n0 ≤ h0.size) :
    Met l Z n0 (⟨"java/lang/Math", "min", "(II)I"⟩ : MethodName) jdk_29_method_69_code 2 (some .int) ws Rm5 #[(.int (65536 : Int32)), (.int (64 : Int32))] h0 (fun v h => v = some (.int 64) ∧ h0 = h) := by
  refine enter (Ls := #[.val (.int (65536 : Int32)), .val (.int (64 : Int32))]) (Jvm.Free.JP.mathPlain rfl (by decide +kernel)) (fun m => by first | (simp [entryFrame, mkF, argsToLocals, Value.category]; done) | rfl) ?_
  intro p e s m below meth c T0 hx hby hml hown hnm hret hlk hZ X0
  show Go p.tables e below _ (T0.setTop (mkF m 0 #[.val (.int (65536 : Int32)), .val (.int (64 : Int32))] []))
  refine Go.by (fun _ => XS.iloadN X0.here hx rfl (hb hby d5_0) rfl) ?_
  show Go p.tables e below _ (T0.setTop (mkF m 1 #[.val (.int (65536 : Int32)), .val (.int (64 : Int32))] [(.int (65536 : Int32))]))
  refine Go.by (fun _ => XS.iloadN X0.here hx rfl (hb hby d5_1) rfl) ?_
  show Go p.tables e below _ (T0.setTop (mkF m 2 #[.val (.int (65536 : Int32)), .val (.int (64 : Int32))] [(.int (64 : Int32)), (.int (65536 : Int32))]))
  refine Go.by (fun _ => XS.icmpYes X0.here hx rfl (pc0 := 2) (pc' := 9) rfl (hb hby d5_2) rfl (tlt (by decide)).2.2.1 (by decide) (by decide)) ?_
  show Go p.tables e below _ (T0.setTop (mkF m 9 #[.val (.int (65536 : Int32)), .val (.int (64 : Int32))] []))
  refine Go.by (fun _ => XS.iloadN X0.here hx rfl (hb hby d5_9) rfl) ?_
  show Go p.tables e below _ (T0.setTop (mkF m 10 #[.val (.int (65536 : Int32)), .val (.int (64 : Int32))] [(.int (64 : Int32))]))
  exact Go.retI X0 hx hlk hret (hb hby d5_10) (by decide) (by decide) ⟨rfl, rfl⟩
theorem d6_0 : decode prog_40_method_9_code 0 = .ok (.aload_n 0, 1) := by decide +kernel
theorem d6_1 : decode prog_40_method_9_code 1 = .ok (.ifnonnull 9, 3) := by decide +kernel
theorem d6_4 : decode prog_40_method_9_code 4 = .ok (.iload_n 1, 1) := by decide +kernel
theorem d6_5 : decode prog_40_method_9_code 5 = .ok (.newarray .long, 2) := by decide +kernel
theorem d6_7 : decode prog_40_method_9_code 7 = .ok (.goto 8, 3) := by decide +kernel
theorem d6_15 : decode prog_40_method_9_code 15 = .ok (.areturn, 1) := by decide +kernel
abbrev Rm6 : Room := { frames := 0, cells := 1, slots := 192, locals := 0 }
theorem pn0 : plainName "com/example/spotline/spotline/engine/Table" = true := by first | (simp [plainName, overriddenIn]; done) | decide +kernel
set_option maxRecDepth 65536 in
set_option maxHeartbeats 40000000 in
theorem rm6 (l : Launch) (Z : State) (a0 : Array Value) (hw : ∀ d ∈ tables_1, d.before a0 Z = true) (ws : List Jvm.Cond) (p2 : Int32) (h0 : Heap) (n0 : Nat) (Z0 : n0 ≤ h0.size) (hp : ¬ p2 < 0) (hc : p2.toNatClampNeg ≤ 192) :
    Met l Z n0 (⟨"com/example/spotline/spotline/engine/Table", "grow", "([JI)[J"⟩ : MethodName) prog_40_method_9_code 2 (some (.array .long)) ws Rm6 #[.null, (.int p2)] h0 (fun v h => ∃ r kc, v = some (.ref r) ∧ h0.size ≤ r ∧ Keep h0 h [] ∧ Exa Z h r "[J" ∧ Avf Z h r kc .long (p2.toNatClampNeg) (fun _ => (.long 0))) := by
  refine enter (Ls := #[.val .null, .val (.int p2)]) (plainFor_of_name pn0) (fun m => by first | (simp [entryFrame, mkF, argsToLocals, Value.category]; done) | rfl) ?_
  intro p e s m below meth c T0 hx hby hml hown hnm hret hlk hZ X0
  have K0 := Keep.refl h0 []
  show Go p.tables e below _ (T0.setTop (mkF m 0 #[.val .null, .val (.int p2)] []))
  refine Go.by (fun _ => XS.aloadN X0.here hx rfl (hb hby d6_0) rfl rfl) ?_
  show Go p.tables e below _ (T0.setTop (mkF m 1 #[.val .null, .val (.int p2)] [.null]))
  refine Go.by (fun _ => XS.ifnonnullNo X0.here hx rfl (hb hby d6_1) rfl) ?_
  show Go p.tables e below _ (T0.setTop (mkF m 4 #[.val .null, .val (.int p2)] []))
  refine Go.by (fun _ => XS.iloadN X0.here hx rfl (hb hby d6_4) rfl) ?_
  show Go p.tables e below _ (T0.setTop (mkF m 5 #[.val .null, .val (.int p2)] [(.int p2)]))
  obtain ⟨T1, h1, kc1, b1, X1, g1, E1, A1, V1, st1⟩ := X0.newP hx hZ (tw hw 49 rfl) (g := (mkF m 5 #[.val .null, .val (.int p2)] [(.int p2)])) rfl (hb hby d6_5) rfl hp (sz := (p2.toNatClampNeg)) (cap := 192) (k' := 1) (n' := 192) rfl hc (by decide) rfl rfl (by decide) (by decide) (ad := "[J") (by decide)
  have g_b1 : n0 ≤ b1 := by rw [g1]; exact Z0
  have sz_b1 : h0.size ≤ b1 := by rw [g1]; exact K0.1
  have f2_11 := K0.ext E1
  have Zs2 : n0 ≤ h1.size := Nat.le_trans Z0 E1.1
  refine Go.by st1 ?_
  show Go p.tables e below _ (T1.setTop (mkF m 7 #[.val .null, .val (.int p2)] [(.ref b1)]))
  refine Go.by (fun _ => XS.goto X1.here hx rfl (pc0 := 7) (pc' := 15) rfl (hb hby d6_7) (by decide) (by decide)) ?_
  show Go p.tables e below _ (T1.setTop (mkF m 15 #[.val .null, .val (.int p2)] [(.ref b1)]))
  exact Go.retA X1 hx hlk hret rfl rfl (hb hby d6_15) (by decide) (by decide) ⟨b1, kc1, rfl, sz_b1, f2_11, A1, V1⟩
theorem d7_0 : decode prog_40_method_10_code 0 = .ok (.aload_n 0, 1) := by decide +kernel
theorem d7_1 : decode prog_40_method_10_code 1 = .ok (.ifnonnull 9, 3) := by decide +kernel
theorem d7_4 : decode prog_40_method_10_code 4 = .ok (.iload_n 1, 1) := by decide +kernel
theorem d7_5 : decode prog_40_method_10_code 5 = .ok (.newarray .int, 2) := by decide +kernel
theorem d7_7 : decode prog_40_method_10_code 7 = .ok (.goto 8, 3) := by decide +kernel
theorem d7_15 : decode prog_40_method_10_code 15 = .ok (.areturn, 1) := by decide +kernel
abbrev Rm7 : Room := { frames := 0, cells := 1, slots := 192, locals := 0 }
set_option maxRecDepth 65536 in
set_option maxHeartbeats 40000000 in
theorem rm7 (l : Launch) (Z : State) (a0 : Array Value) (hw : ∀ d ∈ tables_1, d.before a0 Z = true) (ws : List Jvm.Cond) (p2 : Int32) (h0 : Heap) (n0 : Nat) (Z0 : n0 ≤ h0.size) (hp : ¬ p2 < 0) (hc : p2.toNatClampNeg ≤ 192) :
    Met l Z n0 (⟨"com/example/spotline/spotline/engine/Table", "grow", "([II)[I"⟩ : MethodName) prog_40_method_10_code 2 (some (.array .int)) ws Rm7 #[.null, (.int p2)] h0 (fun v h => ∃ r kc, v = some (.ref r) ∧ h0.size ≤ r ∧ Keep h0 h [] ∧ Exa Z h r "[I" ∧ Avf Z h r kc .int (p2.toNatClampNeg) (fun _ => (.int 0))) := by
  refine enter (Ls := #[.val .null, .val (.int p2)]) (plainFor_of_name pn0) (fun m => by first | (simp [entryFrame, mkF, argsToLocals, Value.category]; done) | rfl) ?_
  intro p e s m below meth c T0 hx hby hml hown hnm hret hlk hZ X0
  have K0 := Keep.refl h0 []
  show Go p.tables e below _ (T0.setTop (mkF m 0 #[.val .null, .val (.int p2)] []))
  refine Go.by (fun _ => XS.aloadN X0.here hx rfl (hb hby d7_0) rfl rfl) ?_
  show Go p.tables e below _ (T0.setTop (mkF m 1 #[.val .null, .val (.int p2)] [.null]))
  refine Go.by (fun _ => XS.ifnonnullNo X0.here hx rfl (hb hby d7_1) rfl) ?_
  show Go p.tables e below _ (T0.setTop (mkF m 4 #[.val .null, .val (.int p2)] []))
  refine Go.by (fun _ => XS.iloadN X0.here hx rfl (hb hby d7_4) rfl) ?_
  show Go p.tables e below _ (T0.setTop (mkF m 5 #[.val .null, .val (.int p2)] [(.int p2)]))
  obtain ⟨T1, h1, kc1, b1, X1, g1, E1, A1, V1, st1⟩ := X0.newP hx hZ (tw hw 54 rfl) (g := (mkF m 5 #[.val .null, .val (.int p2)] [(.int p2)])) rfl (hb hby d7_5) rfl hp (sz := (p2.toNatClampNeg)) (cap := 192) (k' := 1) (n' := 192) rfl hc (by decide) rfl rfl (by decide) (by decide) (ad := "[I") (by decide)
  have g_b1 : n0 ≤ b1 := by rw [g1]; exact Z0
  have sz_b1 : h0.size ≤ b1 := by rw [g1]; exact K0.1
  have f2_11 := K0.ext E1
  have Zs2 : n0 ≤ h1.size := Nat.le_trans Z0 E1.1
  refine Go.by st1 ?_
  show Go p.tables e below _ (T1.setTop (mkF m 7 #[.val .null, .val (.int p2)] [(.ref b1)]))
  refine Go.by (fun _ => XS.goto X1.here hx rfl (pc0 := 7) (pc' := 15) rfl (hb hby d7_7) (by decide) (by decide)) ?_
  show Go p.tables e below _ (T1.setTop (mkF m 15 #[.val .null, .val (.int p2)] [(.ref b1)]))
  exact Go.retA X1 hx hlk hret rfl rfl (hb hby d7_15) (by decide) (by decide) ⟨b1, kc1, rfl, sz_b1, f2_11, A1, V1⟩
theorem d1_0 : decode prog_40_method_1_code 0 = .ok (.aload_n 0, 1) := by decide +kernel
theorem d1_1 : decode prog_40_method_1_code 1 = .ok (.invokespecial 3, 3) := by decide +kernel
theorem d1_4 : decode prog_40_method_1_code 4 = .ok (.aload_n 0, 1) := by decide +kernel
theorem d1_5 : decode prog_40_method_1_code 5 = .ok (.bipush 16, 2) := by decide +kernel
theorem d1_7 : decode prog_40_method_1_code 7 = .ok (.anewarray 9, 3) := by decide +kernel
theorem d1_10 : decode prog_40_method_1_code 10 = .ok (.putfield 11, 3) := by decide +kernel
theorem d1_13 : decode prog_40_method_1_code 13 = .ok (.aload_n 0, 1) := by decide +kernel
theorem d1_14 : decode prog_40_method_1_code 14 = .ok (.bipush 16, 2) := by decide +kernel
theorem d1_16 : decode prog_40_method_1_code 16 = .ok (.anewarray 15, 3) := by decide +kernel
theorem d1_19 : decode prog_40_method_1_code 19 = .ok (.putfield 17, 3) := by decide +kernel
theorem d1_22 : decode prog_40_method_1_code 22 = .ok (.aload_n 0, 1) := by decide +kernel
theorem d1_23 : decode prog_40_method_1_code 23 = .ok (.bipush 16, 2) := by decide +kernel
theorem d1_25 : decode prog_40_method_1_code 25 = .ok (.anewarray 21, 3) := by decide +kernel
theorem d1_28 : decode prog_40_method_1_code 28 = .ok (.putfield 23, 3) := by decide +kernel
theorem d1_31 : decode prog_40_method_1_code 31 = .ok (.aload_n 0, 1) := by decide +kernel
theorem d1_32 : decode prog_40_method_1_code 32 = .ok (.iload_n 1, 1) := by decide +kernel
theorem d1_33 : decode prog_40_method_1_code 33 = .ok (.putfield 27, 3) := by decide +kernel
theorem d1_36 : decode prog_40_method_1_code 36 = .ok (.aload_n 0, 1) := by decide +kernel
theorem d1_37 : decode prog_40_method_1_code 37 = .ok (.iload_n 2, 1) := by decide +kernel
theorem d1_38 : decode prog_40_method_1_code 38 = .ok (.putfield 31, 3) := by decide +kernel
theorem d1_41 : decode prog_40_method_1_code 41 = .ok (.aload_n 0, 1) := by decide +kernel
theorem d1_42 : decode prog_40_method_1_code 42 = .ok (.iload_n 3, 1) := by decide +kernel
theorem d1_43 : decode prog_40_method_1_code 43 = .ok (.ifCond .eq 7, 3) := by decide +kernel
theorem d1_50 : decode prog_40_method_1_code 50 = .ok (.iconst 0, 1) := by decide +kernel
theorem d1_51 : decode prog_40_method_1_code 51 = .ok (.putfield 34, 3) := by decide +kernel
theorem d1_54 : decode prog_40_method_1_code 54 = .ok (.return_, 1) := by decide +kernel
abbrev Rm1_0 : Room := { frames := 1, cells := 3, slots := 48, locals := 12 }
set_option maxRecDepth 65536 in
set_option maxHeartbeats 40000000 in
theorem rm1_0 (l : Launch) (Z : State) (a0 : Array Value) (hw : ∀ d ∈ tables_1, d.before a0 Z = true) (ws : List Jvm.Cond) (a1 : Addr) (p2 : Int32) (p3 : Int32) (h0 : Heap) (n0 : Nat) (Z0 : n0 ≤ h0.size) (E_a1 : Exa Z h0 a1 "com/example/spotline/spotline/engine/Table") (g_a1 : n0 ≤ a1) (F_longs : Fld Z h0 a1 "com/example/spotline/spotline/engine/Table" "longs" "[[J" .null) (F_ints : Fld Z h0 a1 "com/example/spotline/spotline/engine/Table" "ints" "[[I" .null) (F_objects : Fld Z h0 a1 "com/example/spotline/spotline/engine/Table" "objects" "[[Ljava/lang/Object;" .null) (F_longsPerRow : Fld Z h0 a1 "com/example/spotline/spotline/engine/Table" "longsPerRow" "I" (.int (0 : Int32))) (F_intsPerRow : Fld Z h0 a1 "com/example/spotline/spotline/engine/Table" "intsPerRow" "I" (.int (0 : Int32))) (F_objectsPerRow : Fld Z h0 a1 "com/example/spotline/spotline/engine/Table" "objectsPerRow" "I" (.int (0 : Int32))) (F_size : Fld Z h0 a1 "com/example/spotline/spotline/engine/Table" "size" "I" (.int (0 : Int32))) (F_capacity : Fld Z h0 a1 "com/example/spotline/spotline/engine/Table" "capacity" "I" (.int (0 : Int32))) :
    Met l Z n0 (⟨"com/example/spotline/spotline/engine/Table", "<init>", "(IIZ)V"⟩ : MethodName) prog_40_method_1_code 4 none ws Rm1_0 #[(.ref a1), (.int p2), (.int p3), (.int (0 : Int32))] h0 (fun v h => ∃ oL oI oO kL kI kO, v = none ∧ h0.size ≤ oL ∧ h0.size ≤ oI ∧ h0.size ≤ oO ∧ oL ≠ oI ∧ oL ≠ oO ∧ oI ≠ oO ∧ Keep h0 h [a1] ∧ Exa Z h a1 "com/example/spotline/spotline/engine/Table" ∧ Fld Z h a1 "com/example/spotline/spotline/engine/Table" "longs" "[[J" (.ref oL) ∧ Fld Z h a1 "com/example/spotline/spotline/engine/Table" "ints" "[[I" (.ref oI) ∧ Fld Z h a1 "com/example/spotline/spotline/engine/Table" "objects" "[[Ljava/lang/Object;" (.ref oO) ∧ Fld Z h a1 "com/example/spotline/spotline/engine/Table" "longsPerRow" "I" (.int p2) ∧ Fld Z h a1 "com/example/spotline/spotline/engine/Table" "intsPerRow" "I" (.int p3) ∧ Fld Z h a1 "com/example/spotline/spotline/engine/Table" "objectsPerRow" "I" (.int (0 : Int32)) ∧ Fld Z h a1 "com/example/spotline/spotline/engine/Table" "size" "I" (.int (0 : Int32)) ∧ Fld Z h a1 "com/example/spotline/spotline/engine/Table" "capacity" "I" (.int (0 : Int32)) ∧ Avf Z h oL kL (.array .long) 16 (fun _ => .null) ∧ Avf Z h oI kI (.array .int) 16 (fun _ => .null) ∧ Avf Z h oO kO (.array (.object "java/lang/Object")) 16 (fun _ => .null) ∧ OvrA Z kL .long "[J" ∧ OvrA Z kI .int "[I" ∧ OvrA Z kO (.object "java/lang/Object") "[Ljava/lang/Object;") := by
  refine enter (Ls := #[.val (.ref a1), .val (.int p2), .val (.int p3), .val (.int (0 : Int32))]) (plainFor_of_name pn0) (fun m => by first | (simp [entryFrame, mkF, argsToLocals, Value.category]; done) | rfl) ?_
  intro p e s m below meth c T0 hx hby hml hown hnm hret hlk hZ X0
  have K0 := Keep.refl h0 [a1]
  show Go p.tables e below _ (T0.setTop (mkF m 0 #[.val (.ref a1), .val (.int p2), .val (.int p3), .val (.int (0 : Int32))] []))
  refine Go.by (fun _ => XS.aloadN X0.here hx rfl (hb hby d1_0) rfl rfl) ?_
  show Go p.tables e below _ (T0.setTop (mkF m 1 #[.val (.ref a1), .val (.int p2), .val (.int p3), .val (.int (0 : Int32))] [(.ref a1)]))
  obtain ⟨T1, X1, st1⟩ := X0.initO hx hZ hown (tw hw 7 rfl) (tw hw 8 rfl) (tw hw 9 rfl) (g := (mkF m 1 #[.val (.ref a1), .val (.int p2), .val (.int p3), .val (.int (0 : Int32))] [(.ref a1)])) rfl (by rw [hml]; rfl) rfl (hb hby d1_1) (by decide) (Nat.le_of_ble_eq_true rfl)
  refine Go.by st1 ?_
  show Go p.tables e below _ (T1.setTop (mkF m 4 #[.val (.ref a1), .val (.int p2), .val (.int p3), .val (.int (0 : Int32))] []))
  refine Go.by (fun _ => XS.aloadN X1.here hx rfl (hb hby d1_4) rfl rfl) ?_
  show Go p.tables e below _ (T1.setTop (mkF m 5 #[.val (.ref a1), .val (.int p2), .val (.int p3), .val (.int (0 : Int32))] [(.ref a1)]))
  refine Go.by (fun _ => XS.bipush X1.here hx rfl (hb hby d1_5)) ?_
  show Go p.tables e below _ (T1.setTop (mkF m 7 #[.val (.ref a1), .val (.int p2), .val (.int p3), .val (.int (0 : Int32))] [(.int (16 : Int32)), (.ref a1)]))
  obtain ⟨T2, h2, kc2, b2, X2, g2, E2, A2, V2, Ov2, st2⟩ := X1.newRA hx hZ hown (ty := .long) (C := "[J") (by decide) (tw hw 10 rfl) (tw hw 11 rfl) (g := (mkF m 7 #[.val (.ref a1), .val (.int p2), .val (.int p3), .val (.int (0 : Int32))] [(.int (16 : Int32)), (.ref a1)])) rfl (hb hby d1_7) rfl (by decide) (sz := 16) (cap := 16) (k' := 1) (n' := 16) rfl (Nat.le_refl _) (by decide) rfl rfl (by decide) (by decide) (ad := "[[J") (by decide)
  have g_b2 : n0 ≤ b2 := by rw [g2]; exact Z0
  have sz_b2 : h0.size ≤ b2 := by rw [g2]; exact K0.1
  have ne_a1_b2 : a1 ≠ b2 := Nat.ne_of_lt (by rw [g2]; exact E_a1.lt)
  have f3_15 := E_a1.ext E2
  have f3_16 := F_longs.ext E2
  have f3_17 := F_ints.ext E2
  have f3_18 := F_objects.ext E2
  have f3_19 := F_longsPerRow.ext E2
  have f3_20 := F_intsPerRow.ext E2
  have f3_21 := F_objectsPerRow.ext E2
  have f3_22 := F_size.ext E2
  have f3_23 := F_capacity.ext E2
  have f3_24 := K0.ext E2
  have Zs3 : n0 ≤ h2.size := Nat.le_trans Z0 E2.1
  refine Go.by st2 ?_
  show Go p.tables e below _ (T2.setTop (mkF m 10 #[.val (.ref a1), .val (.int p2), .val (.int p3), .val (.int (0 : Int32))] [(.ref b2), (.ref a1)]))
  obtain ⟨T4, h4, X4, W4, st4⟩ := X2.putF hx hZ hown (host := "") (Or.inl (tw hw 12 rfl)) Via.refl f3_16 f3_15 g_a1 (Or.inl (tw hw 13 rfl)) (tw hw 2 rfl) (ty := (.array (.array .long))) (by decide) rfl rfl (g := (mkF m 10 #[.val (.ref a1), .val (.int p2), .val (.int p3), .val (.int (0 : Int32))] [(.ref b2), (.ref a1)])) rfl rfl (hb hby d1_10)
  have Fw4 := f3_16.same W4
  have f5_30 := f3_15.wr W4
  have f5_31 := f3_17.other W4 (Or.inr (slot_ne (Or.inl (tw hw 17 rfl)) (Or.inl (tw hw 13 rfl)) (by decide) (t := (.array (.array .int))) (t' := (.array (.array .long))) (by decide) (by decide)))
  have f5_32 := f3_18.other W4 (Or.inr (slot_ne (Or.inl (tw hw 21 rfl)) (Or.inl (tw hw 13 rfl)) (by decide) (t := (.array (.array (.object "java/lang/Object")))) (t' := (.array (.array .long))) (by decide) (by decide)))
  have f5_33 := f3_19.other W4 (Or.inr (slot_ne (Or.inr (tw hw 23 rfl)) (Or.inl (tw hw 13 rfl)) (by decide) (t := .int) (t' := (.array (.array .long))) (by decide) (by decide)))
  have f5_34 := f3_20.other W4 (Or.inr (slot_ne (Or.inr (tw hw 25 rfl)) (Or.inl (tw hw 13 rfl)) (by decide) (t := .int) (t' := (.array (.array .long))) (by decide) (by decide)))
  have f5_35 := f3_21.other W4 (Or.inr (slot_ne (Or.inr (tw hw 27 rfl)) (Or.inl (tw hw 13 rfl)) (by decide) (t := .int) (t' := (.array (.array .long))) (by decide) (by decide)))
  have f5_36 := f3_22.other W4 (Or.inr (slot_ne (Or.inl (tw hw 34 rfl)) (Or.inl (tw hw 13 rfl)) (by decide) (t := .int) (t' := (.array (.array .long))) (by decide) (by decide)))
  have f5_37 := f3_23.other W4 (Or.inr (slot_ne (Or.inl (tw hw 37 rfl)) (Or.inl (tw hw 13 rfl)) (by decide) (t := .int) (t' := (.array (.array .long))) (by decide) (by decide)))
  have f5_38 := f3_24.wr W4 (Or.inl (List.mem_of_getElem? (i := 0) rfl))
  have f5_39 := A2.wr W4
  have f5_40 := Avf.other V2 W4 (Ne.symm ne_a1_b2)
  have Zs5 : n0 ≤ h4.size := by rw [W4.size]; exact Zs3
  refine Go.by st4 ?_
  show Go p.tables e below _ (T4.setTop (mkF m 13 #[.val (.ref a1), .val (.int p2), .val (.int p3), .val (.int (0 : Int32))] []))
  refine Go.by (fun _ => XS.aloadN X4.here hx rfl (hb hby d1_13) rfl rfl) ?_
  show Go p.tables e below _ (T4.setTop (mkF m 14 #[.val (.ref a1), .val (.int p2), .val (.int p3), .val (.int (0 : Int32))] [(.ref a1)]))
  refine Go.by (fun _ => XS.bipush X4.here hx rfl (hb hby d1_14)) ?_
  show Go p.tables e below _ (T4.setTop (mkF m 16 #[.val (.ref a1), .val (.int p2), .val (.int p3), .val (.int (0 : Int32))] [(.int (16 : Int32)), (.ref a1)]))
  obtain ⟨T6, h6, kc6, b6, X6, g6, E6, A6, V6, Ov6, st6⟩ := X4.newRA hx hZ hown (ty := .int) (C := "[I") (by decide) (tw hw 14 rfl) (tw hw 15 rfl) (g := (mkF m 16 #[.val (.ref a1), .val (.int p2), .val (.int p3), .val (.int (0 : Int32))] [(.int (16 : Int32)), (.ref a1)])) rfl (hb hby d1_16) rfl (by decide) (sz := 16) (cap := 16) (k' := 2) (n' := 32) rfl (Nat.le_refl _) (by decide) rfl rfl (by decide) (by decide) (ad := "[[I") (by decide)
  have g_b6 : n0 ≤ b6 := by rw [g6]; exact Zs5
  have sz_b6 : h0.size ≤ b6 := by rw [g6]; exact f5_38.1
  have ne_a1_b6 : a1 ≠ b6 := Nat.ne_of_lt (by rw [g6]; exact f5_30.lt)
  have ne_b2_b6 : b2 ≠ b6 := Nat.ne_of_lt (by rw [g6]; exact f5_39.lt)
  have f7_53 := f5_30.ext E6
  have f7_54 := Fw4.ext E6
  have f7_55 := f5_31.ext E6
  have f7_56 := f5_32.ext E6
  have f7_57 := f5_33.ext E6
  have f7_58 := f5_34.ext E6
  have f7_59 := f5_35.ext E6
  have f7_60 := f5_36.ext E6
  have f7_61 := f5_37.ext E6
  have f7_62 := f5_38.ext E6
  have f7_63 := f5_39.ext E6
  have f7_64 := Avf.ext f5_40 E6
  have Zs7 : n0 ≤ h6.size := Nat.le_trans Zs5 E6.1
  refine Go.by st6 ?_
  show Go p.tables e below _ (T6.setTop (mkF m 19 #[.val (.ref a1), .val (.int p2), .val (.int p3), .val (.int (0 : Int32))] [(.ref b6), (.ref a1)]))
  obtain ⟨T8, h8, X8, W8, st8⟩ := X6.putF hx hZ hown (host := "") (Or.inl (tw hw 16 rfl)) Via.refl f7_55 f7_53 g_a1 (Or.inl (tw hw 17 rfl)) (tw hw 2 rfl) (ty := (.array (.array .int))) (by decide) rfl rfl (g := (mkF m 19 #[.val (.ref a1), .val (.int p2), .val (.int p3), .val (.int (0 : Int32))] [(.ref b6), (.ref a1)])) rfl rfl (hb hby d1_19)
  have Fw8 := f7_55.same W8
  have f9_70 := f7_53.wr W8
  have f9_71 := f7_54.other W8 (Or.inr (slot_ne (Or.inl (tw hw 13 rfl)) (Or.inl (tw hw 17 rfl)) (by decide) (t := (.array (.array .long))) (t' := (.array (.array .int))) (by decide) (by decide)))
  have f9_72 := f7_56.other W8 (Or.inr (slot_ne (Or.inl (tw hw 21 rfl)) (Or.inl (tw hw 17 rfl)) (by decide) (t := (.array (.array (.object "java/lang/Object")))) (t' := (.array (.array .int))) (by decide) (by decide)))
  have f9_73 := f7_57.other W8 (Or.inr (slot_ne (Or.inr (tw hw 23 rfl)) (Or.inl (tw hw 17 rfl)) (by decide) (t := .int) (t' := (.array (.array .int))) (by decide) (by decide)))
  have f9_74 := f7_58.other W8 (Or.inr (slot_ne (Or.inr (tw hw 25 rfl)) (Or.inl (tw hw 17 rfl)) (by decide) (t := .int) (t' := (.array (.array .int))) (by decide) (by decide)))
  have f9_75 := f7_59.other W8 (Or.inr (slot_ne (Or.inr (tw hw 27 rfl)) (Or.inl (tw hw 17 rfl)) (by decide) (t := .int) (t' := (.array (.array .int))) (by decide) (by decide)))
  have f9_76 := f7_60.other W8 (Or.inr (slot_ne (Or.inl (tw hw 34 rfl)) (Or.inl (tw hw 17 rfl)) (by decide) (t := .int) (t' := (.array (.array .int))) (by decide) (by decide)))
  have f9_77 := f7_61.other W8 (Or.inr (slot_ne (Or.inl (tw hw 37 rfl)) (Or.inl (tw hw 17 rfl)) (by decide) (t := .int) (t' := (.array (.array .int))) (by decide) (by decide)))
  have f9_78 := f7_62.wr W8 (Or.inl (List.mem_of_getElem? (i := 0) rfl))
  have f9_79 := f7_63.wr W8
  have f9_80 := Avf.other f7_64 W8 (Ne.symm ne_a1_b2)
  have f9_81 := A6.wr W8
  have f9_82 := Avf.other V6 W8 (Ne.symm ne_a1_b6)
  have Zs9 : n0 ≤ h8.size := by rw [W8.size]; exact Zs7
  refine Go.by st8 ?_
  show Go p.tables e below _ (T8.setTop (mkF m 22 #[.val (.ref a1), .val (.int p2), .val (.int p3), .val (.int (0 : Int32))] []))
  refine Go.by (fun _ => XS.aloadN X8.here hx rfl (hb hby d1_22) rfl rfl) ?_
  show Go p.tables e below _ (T8.setTop (mkF m 23 #[.val (.ref a1), .val (.int p2), .val (.int p3), .val (.int (0 : Int32))] [(.ref a1)]))
  refine Go.by (fun _ => XS.bipush X8.here hx rfl (hb hby d1_23)) ?_
  show Go p.tables e below _ (T8.setTop (mkF m 25 #[.val (.ref a1), .val (.int p2), .val (.int p3), .val (.int (0 : Int32))] [(.int (16 : Int32)), (.ref a1)]))
  obtain ⟨T10, h10, kc10, b10, X10, g10, E10, A10, V10, Ov10, st10⟩ := X8.newRA hx hZ hown (ty := (.object "java/lang/Object")) (C := "[Ljava/lang/Object;") (by decide) (tw hw 18 rfl) (tw hw 19 rfl) (g := (mkF m 25 #[.val (.ref a1), .val (.int p2), .val (.int p3), .val (.int (0 : Int32))] [(.int (16 : Int32)), (.ref a1)])) rfl (hb hby d1_25) rfl (by decide) (sz := 16) (cap := 16) (k' := 3) (n' := 48) rfl (Nat.le_refl _) (by decide) rfl rfl (by decide) (by decide) (ad := "[[Ljava/lang/Object;") (by decide)
  have g_b10 : n0 ≤ b10 := by rw [g10]; exact Zs9
  have sz_b10 : h0.size ≤ b10 := by rw [g10]; exact f9_78.1
  have ne_a1_b10 : a1 ≠ b10 := Nat.ne_of_lt (by rw [g10]; exact f9_70.lt)
  have ne_b2_b10 : b2 ≠ b10 := Nat.ne_of_lt (by rw [g10]; exact f9_79.lt)
  have ne_b6_b10 : b6 ≠ b10 := Nat.ne_of_lt (by rw [g10]; exact f9_81.lt)
  have f11_96 := f9_70.ext E10
  have f11_97 := f9_71.ext E10
  have f11_98 := Fw8.ext E10
  have f11_99 := f9_72.ext E10
  have f11_100 := f9_73.ext E10
  have f11_101 := f9_74.ext E10
  have f11_102 := f9_75.ext E10
  have f11_103 := f9_76.ext E10
  have f11_104 := f9_77.ext E10
  have f11_105 := f9_78.ext E10
  have f11_106 := f9_79.ext E10
  have f11_107 := Avf.ext f9_80 E10
  have f11_108 := f9_81.ext E10
  have f11_109 := Avf.ext f9_82 E10
  have Zs11 : n0 ≤ h10.size := Nat.le_trans Zs9 E10.1
  refine Go.by st10 ?_
  show Go p.tables e below _ (T10.setTop (mkF m 28 #[.val (.ref a1), .val (.int p2), .val (.int p3), .val (.int (0 : Int32))] [(.ref b10), (.ref a1)]))
  obtain ⟨T12, h12, X12, W12, st12⟩ := X10.putF hx hZ hown (host := "") (Or.inl (tw hw 20 rfl)) Via.refl f11_99 f11_96 g_a1 (Or.inl (tw hw 21 rfl)) (tw hw 2 rfl) (ty := (.array (.array (.object "java/lang/Object")))) (by decide) rfl rfl (g := (mkF m 28 #[.val (.ref a1), .val (.int p2), .val (.int p3), .val (.int (0 : Int32))] [(.ref b10), (.ref a1)])) rfl rfl (hb hby d1_28)
  have Fw12 := f11_99.same W12
  have f13_115 := f11_96.wr W12
  have f13_116 := f11_97.other W12 (Or.inr (slot_ne (Or.inl (tw hw 13 rfl)) (Or.inl (tw hw 21 rfl)) (by decide) (t := (.array (.array .long))) (t' := (.array (.array (.object "java/lang/Object")))) (by decide) (by decide)))
  have f13_117 := f11_98.other W12 (Or.inr (slot_ne (Or.inl (tw hw 17 rfl)) (Or.inl (tw hw 21 rfl)) (by decide) (t := (.array (.array .int))) (t' := (.array (.array (.object "java/lang/Object")))) (by decide) (by decide)))
  have f13_118 := f11_100.other W12 (Or.inr (slot_ne (Or.inr (tw hw 23 rfl)) (Or.inl (tw hw 21 rfl)) (by decide) (t := .int) (t' := (.array (.array (.object "java/lang/Object")))) (by decide) (by decide)))
  have f13_119 := f11_101.other W12 (Or.inr (slot_ne (Or.inr (tw hw 25 rfl)) (Or.inl (tw hw 21 rfl)) (by decide) (t := .int) (t' := (.array (.array (.object "java/lang/Object")))) (by decide) (by decide)))
  have f13_120 := f11_102.other W12 (Or.inr (slot_ne (Or.inr (tw hw 27 rfl)) (Or.inl (tw hw 21 rfl)) (by decide) (t := .int) (t' := (.array (.array (.object "java/lang/Object")))) (by decide) (by decide)))
  have f13_121 := f11_103.other W12 (Or.inr (slot_ne (Or.inl (tw hw 34 rfl)) (Or.inl (tw hw 21 rfl)) (by decide) (t := .int) (t' := (.array (.array (.object "java/lang/Object")))) (by decide) (by decide)))
  have f13_122 := f11_104.other W12 (Or.inr (slot_ne (Or.inl (tw hw 37 rfl)) (Or.inl (tw hw 21 rfl)) (by decide) (t := .int) (t' := (.array (.array (.object "java/lang/Object")))) (by decide) (by decide)))
  have f13_123 := f11_105.wr W12 (Or.inl (List.mem_of_getElem? (i := 0) rfl))
  have f13_124 := f11_106.wr W12
  have f13_125 := Avf.other f11_107 W12 (Ne.symm ne_a1_b2)
  have f13_126 := f11_108.wr W12
  have f13_127 := Avf.other f11_109 W12 (Ne.symm ne_a1_b6)
  have f13_128 := A10.wr W12
  have f13_129 := Avf.other V10 W12 (Ne.symm ne_a1_b10)
  have Zs13 : n0 ≤ h12.size := by rw [W12.size]; exact Zs11
  refine Go.by st12 ?_
  show Go p.tables e below _ (T12.setTop (mkF m 31 #[.val (.ref a1), .val (.int p2), .val (.int p3), .val (.int (0 : Int32))] []))
  refine Go.by (fun _ => XS.aloadN X12.here hx rfl (hb hby d1_31) rfl rfl) ?_
  show Go p.tables e below _ (T12.setTop (mkF m 32 #[.val (.ref a1), .val (.int p2), .val (.int p3), .val (.int (0 : Int32))] [(.ref a1)]))
  refine Go.by (fun _ => XS.iloadN X12.here hx rfl (hb hby d1_32) rfl) ?_
  show Go p.tables e below _ (T12.setTop (mkF m 33 #[.val (.ref a1), .val (.int p2), .val (.int p3), .val (.int (0 : Int32))] [(.int p2), (.ref a1)]))
  obtain ⟨T14, h14, X14, W14, st14⟩ := X12.putF hx hZ hown (host := "") (Or.inl (tw hw 22 rfl)) Via.refl f13_118 f13_115 g_a1 (Or.inr ⟨(tw hw 23 rfl), rfl, hnm⟩) (tw hw 2 rfl) (ty := .int) (by decide) rfl rfl (g := (mkF m 33 #[.val (.ref a1), .val (.int p2), .val (.int p3), .val (.int (0 : Int32))] [(.int p2), (.ref a1)])) rfl rfl (hb hby d1_33)
  have Fw14 := f13_118.same W14
  have f15_139 := f13_115.wr W14
  have f15_140 := f13_116.other W14 (Or.inr (slot_ne (Or.inl (tw hw 13 rfl)) (Or.inr (tw hw 23 rfl)) (by decide) (t := (.array (.array .long))) (t' := .int) (by decide) (by decide)))
  have f15_141 := f13_117.other W14 (Or.inr (slot_ne (Or.inl (tw hw 17 rfl)) (Or.inr (tw hw 23 rfl)) (by decide) (t := (.array (.array .int))) (t' := .int) (by decide) (by decide)))
  have f15_142 := Fw12.other W14 (Or.inr (slot_ne (Or.inl (tw hw 21 rfl)) (Or.inr (tw hw 23 rfl)) (by decide) (t := (.array (.array (.object "java/lang/Object")))) (t' := .int) (by decide) (by decide)))
  have f15_143 := f13_119.other W14 (Or.inr (slot_ne (Or.inr (tw hw 25 rfl)) (Or.inr (tw hw 23 rfl)) (by decide) (t := .int) (t' := .int) (by decide) (by decide)))
  have f15_144 := f13_120.other W14 (Or.inr (slot_ne (Or.inr (tw hw 27 rfl)) (Or.inr (tw hw 23 rfl)) (by decide) (t := .int) (t' := .int) (by decide) (by decide)))
  have f15_145 := f13_121.other W14 (Or.inr (slot_ne (Or.inl (tw hw 34 rfl)) (Or.inr (tw hw 23 rfl)) (by decide) (t := .int) (t' := .int) (by decide) (by decide)))
  have f15_146 := f13_122.other W14 (Or.inr (slot_ne (Or.inl (tw hw 37 rfl)) (Or.inr (tw hw 23 rfl)) (by decide) (t := .int) (t' := .int) (by decide) (by decide)))
  have f15_147 := f13_123.wr W14 (Or.inl (List.mem_of_getElem? (i := 0) rfl))
  have f15_148 := f13_124.wr W14
  have f15_149 := Avf.other f13_125 W14 (Ne.symm ne_a1_b2)
  have f15_150 := f13_126.wr W14
  have f15_151 := Avf.other f13_127 W14 (Ne.symm ne_a1_b6)
  have f15_152 := f13_128.wr W14
  have f15_153 := Avf.other f13_129 W14 (Ne.symm ne_a1_b10)
  have Zs15 : n0 ≤ h14.size := by rw [W14.size]; exact Zs13
  refine Go.by st14 ?_
  show Go p.tables e below _ (T14.setTop (mkF m 36 #[.val (.ref a1), .val (.int p2), .val (.int p3), .val (.int (0 : Int32))] []))
  refine Go.by (fun _ => XS.aloadN X14.here hx rfl (hb hby d1_36) rfl rfl) ?_
  show Go p.tables e below _ (T14.setTop (mkF m 37 #[.val (.ref a1), .val (.int p2), .val (.int p3), .val (.int (0 : Int32))] [(.ref a1)]))
  refine Go.by (fun _ => XS.iloadN X14.here hx rfl (hb hby d1_37) rfl) ?_
  show Go p.tables e below _ (T14.setTop (mkF m 38 #[.val (.ref a1), .val (.int p2), .val (.int p3), .val (.int (0 : Int32))] [(.int p3), (.ref a1)]))
  obtain ⟨T16, h16, X16, W16, st16⟩ := X14.putF hx hZ hown (host := "") (Or.inl (tw hw 24 rfl)) Via.refl f15_143 f15_139 g_a1 (Or.inr ⟨(tw hw 25 rfl), rfl, hnm⟩) (tw hw 2 rfl) (ty := .int) (by decide) rfl rfl (g := (mkF m 38 #[.val (.ref a1), .val (.int p2), .val (.int p3), .val (.int (0 : Int32))] [(.int p3), (.ref a1)])) rfl rfl (hb hby d1_38)
  have Fw16 := f15_143.same W16
  have f17_163 := f15_139.wr W16
  have f17_164 := f15_140.other W16 (Or.inr (slot_ne (Or.inl (tw hw 13 rfl)) (Or.inr (tw hw 25 rfl)) (by decide) (t := (.array (.array .long))) (t' := .int) (by decide) (by decide)))
  have f17_165 := f15_141.other W16 (Or.inr (slot_ne (Or.inl (tw hw 17 rfl)) (Or.inr (tw hw 25 rfl)) (by decide) (t := (.array (.array .int))) (t' := .int) (by decide) (by decide)))
  have f17_166 := f15_142.other W16 (Or.inr (slot_ne (Or.inl (tw hw 21 rfl)) (Or.inr (tw hw 25 rfl)) (by decide) (t := (.array (.array (.object "java/lang/Object")))) (t' := .int) (by decide) (by decide)))
  have f17_167 := Fw14.other W16 (Or.inr (slot_ne (Or.inr (tw hw 23 rfl)) (Or.inr (tw hw 25 rfl)) (by decide) (t := .int) (t' := .int) (by decide) (by decide)))
  have f17_168 := f15_144.other W16 (Or.inr (slot_ne (Or.inr (tw hw 27 rfl)) (Or.inr (tw hw 25 rfl)) (by decide) (t := .int) (t' := .int) (by decide) (by decide)))
  have f17_169 := f15_145.other W16 (Or.inr (slot_ne (Or.inl (tw hw 34 rfl)) (Or.inr (tw hw 25 rfl)) (by decide) (t := .int) (t' := .int) (by decide) (by decide)))
  have f17_170 := f15_146.other W16 (Or.inr (slot_ne (Or.inl (tw hw 37 rfl)) (Or.inr (tw hw 25 rfl)) (by decide) (t := .int) (t' := .int) (by decide) (by decide)))
  have f17_171 := f15_147.wr W16 (Or.inl (List.mem_of_getElem? (i := 0) rfl))
  have f17_172 := f15_148.wr W16
  have f17_173 := Avf.other f15_149 W16 (Ne.symm ne_a1_b2)
  have f17_174 := f15_150.wr W16
  have f17_175 := Avf.other f15_151 W16 (Ne.symm ne_a1_b6)
  have f17_176 := f15_152.wr W16
  have f17_177 := Avf.other f15_153 W16 (Ne.symm ne_a1_b10)
  have Zs17 : n0 ≤ h16.size := by rw [W16.size]; exact Zs15
  refine Go.by st16 ?_
  show Go p.tables e below _ (T16.setTop (mkF m 41 #[.val (.ref a1), .val (.int p2), .val (.int p3), .val (.int (0 : Int32))] []))
  refine Go.by (fun _ => XS.aloadN X16.here hx rfl (hb hby d1_41) rfl rfl) ?_
  show Go p.tables e below _ (T16.setTop (mkF m 42 #[.val (.ref a1), .val (.int p2), .val (.int p3), .val (.int (0 : Int32))] [(.ref a1)]))
  refine Go.by (fun _ => XS.iloadN X16.here hx rfl (hb hby d1_42) rfl) ?_
  show Go p.tables e below _ (T16.setTop (mkF m 43 #[.val (.ref a1), .val (.int p2), .val (.int p3), .val (.int (0 : Int32))] [(.int (0 : Int32)), (.ref a1)]))
  refine Go.by (fun _ => XS.ifYes X16.here hx rfl (pc0 := 43) (pc' := 50) rfl (hb hby d1_43) rfl ((if0 _ _).trans (teq (by decide)).1) (by decide) (by decide)) ?_
  show Go p.tables e below _ (T16.setTop (mkF m 50 #[.val (.ref a1), .val (.int p2), .val (.int p3), .val (.int (0 : Int32))] [(.ref a1)]))
  refine Go.by (fun _ => XS.iconst X16.here hx rfl (hb hby d1_50)) ?_
  show Go p.tables e below _ (T16.setTop (mkF m 51 #[.val (.ref a1), .val (.int p2), .val (.int p3), .val (.int (0 : Int32))] [(.int (0 : Int32)), (.ref a1)]))
  obtain ⟨T18, h18, X18, W18, st18⟩ := X16.putF hx hZ hown (host := "") (Or.inl (tw hw 26 rfl)) Via.refl f17_168 f17_163 g_a1 (Or.inr ⟨(tw hw 27 rfl), rfl, hnm⟩) (tw hw 2 rfl) (ty := .int) (by decide) rfl rfl (g := (mkF m 51 #[.val (.ref a1), .val (.int p2), .val (.int p3), .val (.int (0 : Int32))] [(.int (0 : Int32)), (.ref a1)])) rfl rfl (hb hby d1_51)
  have Fw18 := f17_168.same W18
  have f19_191 := f17_163.wr W18
  have f19_192 := f17_164.other W18 (Or.inr (slot_ne (Or.inl (tw hw 13 rfl)) (Or.inr (tw hw 27 rfl)) (by decide) (t := (.array (.array .long))) (t' := .int) (by decide) (by decide)))
  have f19_193 := f17_165.other W18 (Or.inr (slot_ne (Or.inl (tw hw 17 rfl)) (Or.inr (tw hw 27 rfl)) (by decide) (t := (.array (.array .int))) (t' := .int) (by decide) (by decide)))
  have f19_194 := f17_166.other W18 (Or.inr (slot_ne (Or.inl (tw hw 21 rfl)) (Or.inr (tw hw 27 rfl)) (by decide) (t := (.array (.array (.object "java/lang/Object")))) (t' := .int) (by decide) (by decide)))
  have f19_195 := f17_167.other W18 (Or.inr (slot_ne (Or.inr (tw hw 23 rfl)) (Or.inr (tw hw 27 rfl)) (by decide) (t := .int) (t' := .int) (by decide) (by decide)))
  have f19_196 := Fw16.other W18 (Or.inr (slot_ne (Or.inr (tw hw 25 rfl)) (Or.inr (tw hw 27 rfl)) (by decide) (t := .int) (t' := .int) (by decide) (by decide)))
  have f19_197 := f17_169.other W18 (Or.inr (slot_ne (Or.inl (tw hw 34 rfl)) (Or.inr (tw hw 27 rfl)) (by decide) (t := .int) (t' := .int) (by decide) (by decide)))
  have f19_198 := f17_170.other W18 (Or.inr (slot_ne (Or.inl (tw hw 37 rfl)) (Or.inr (tw hw 27 rfl)) (by decide) (t := .int) (t' := .int) (by decide) (by decide)))
  have f19_199 := f17_171.wr W18 (Or.inl (List.mem_of_getElem? (i := 0) rfl))
  have f19_200 := f17_172.wr W18
  have f19_201 := Avf.other f17_173 W18 (Ne.symm ne_a1_b2)
  have f19_202 := f17_174.wr W18
  have f19_203 := Avf.other f17_175 W18 (Ne.symm ne_a1_b6)
  have f19_204 := f17_176.wr W18
  have f19_205 := Avf.other f17_177 W18 (Ne.symm ne_a1_b10)
  have Zs19 : n0 ≤ h18.size := by rw [W18.size]; exact Zs17
  refine Go.by st18 ?_
  show Go p.tables e below _ (T18.setTop (mkF m 54 #[.val (.ref a1), .val (.int p2), .val (.int p3), .val (.int (0 : Int32))] []))
  exact Go.ret0 X18 hx hlk hret (hb hby d1_54) (by decide) (by decide) ⟨b2, b6, b10, kc2, kc6, kc10, rfl, sz_b2, sz_b6, sz_b10, ne_b2_b6, ne_b2_b10, ne_b6_b10, f19_199, f19_191, f19_192, f19_193, f19_194, f19_195, f19_196, Fw18, f19_197, f19_198, f19_201, f19_203, f19_205, Ov2, Ov6, Ov10⟩
theorem d1_46 : decode prog_40_method_1_code 46 = .ok (.iconst 1, 1) := by decide +kernel
theorem d1_47 : decode prog_40_method_1_code 47 = .ok (.goto 4, 3) := by decide +kernel
abbrev Rm1_1 : Room := { frames := 1, cells := 3, slots := 48, locals := 12 }
set_option maxRecDepth 65536 in
set_option maxHeartbeats 40000000 in
theorem rm1_1 (l : Launch) (Z : State) (a0 : Array Value) (hw : ∀ d ∈ tables_1, d.before a0 Z = true) (ws : List Jvm.Cond) (a1 : Addr) (p2 : Int32) (p3 : Int32) (h0 : Heap) (n0 : Nat) (Z0 : n0 ≤ h0.size) (E_a1 : Exa Z h0 a1 "com/example/spotline/spotline/engine/Table") (g_a1 : n0 ≤ a1) (F_longs : Fld Z h0 a1 "com/example/spotline/spotline/engine/Table" "longs" "[[J" .null) (F_ints : Fld Z h0 a1 "com/example/spotline/spotline/engine/Table" "ints" "[[I" .null) (F_objects : Fld Z h0 a1 "com/example/spotline/spotline/engine/Table" "objects" "[[Ljava/lang/Object;" .null) (F_longsPerRow : Fld Z h0 a1 "com/example/spotline/spotline/engine/Table" "longsPerRow" "I" (.int (0 : Int32))) (F_intsPerRow : Fld Z h0 a1 "com/example/spotline/spotline/engine/Table" "intsPerRow" "I" (.int (0 : Int32))) (F_objectsPerRow : Fld Z h0 a1 "com/example/spotline/spotline/engine/Table" "objectsPerRow" "I" (.int (0 : Int32))) (F_size : Fld Z h0 a1 "com/example/spotline/spotline/engine/Table" "size" "I" (.int (0 : Int32))) (F_capacity : Fld Z h0 a1 "com/example/spotline/spotline/engine/Table" "capacity" "I" (.int (0 : Int32))) :
    Met l Z n0 (⟨"com/example/spotline/spotline/engine/Table", "<init>", "(IIZ)V"⟩ : MethodName) prog_40_method_1_code 4 none ws Rm1_1 #[(.ref a1), (.int p2), (.int p3), (.int (1 : Int32))] h0 (fun v h => ∃ oL oI oO kL kI kO, v = none ∧ h0.size ≤ oL ∧ h0.size ≤ oI ∧ h0.size ≤ oO ∧ oL ≠ oI ∧ oL ≠ oO ∧ oI ≠ oO ∧ Keep h0 h [a1] ∧ Exa Z h a1 "com/example/spotline/spotline/engine/Table" ∧ Fld Z h a1 "com/example/spotline/spotline/engine/Table" "longs" "[[J" (.ref oL) ∧ Fld Z h a1 "com/example/spotline/spotline/engine/Table" "ints" "[[I" (.ref oI) ∧ Fld Z h a1 "com/example/spotline/spotline/engine/Table" "objects" "[[Ljava/lang/Object;" (.ref oO) ∧ Fld Z h a1 "com/example/spotline/spotline/engine/Table" "longsPerRow" "I" (.int p2) ∧ Fld Z h a1 "com/example/spotline/spotline/engine/Table" "intsPerRow" "I" (.int p3) ∧ Fld Z h a1 "com/example/spotline/spotline/engine/Table" "objectsPerRow" "I" (.int (1 : Int32)) ∧ Fld Z h a1 "com/example/spotline/spotline/engine/Table" "size" "I" (.int (0 : Int32)) ∧ Fld Z h a1 "com/example/spotline/spotline/engine/Table" "capacity" "I" (.int (0 : Int32)) ∧ Avf Z h oL kL (.array .long) 16 (fun _ => .null) ∧ Avf Z h oI kI (.array .int) 16 (fun _ => .null) ∧ Avf Z h oO kO (.array (.object "java/lang/Object")) 16 (fun _ => .null) ∧ OvrA Z kL .long "[J" ∧ OvrA Z kI .int "[I" ∧ OvrA Z kO (.object "java/lang/Object") "[Ljava/lang/Object;") := by
  refine enter (Ls := #[.val (.ref a1), .val (.int p2), .val (.int p3), .val (.int (1 : Int32))]) (plainFor_of_name pn0) (fun m => by first | (simp [entryFrame, mkF, argsToLocals, Value.category]; done) | rfl) ?_
  intro p e s m below meth c T0 hx hby hml hown hnm hret hlk hZ X0
  have K0 := Keep.refl h0 [a1]
  show Go p.tables e below _ (T0.setTop (mkF m 0 #[.val (.ref a1), .val (.int p2), .val (.int p3), .val (.int (1 : Int32))] []))
  refine Go.by (fun _ => XS.aloadN X0.here hx rfl (hb hby d1_0) rfl rfl) ?_
  show Go p.tables e below _ (T0.setTop (mkF m 1 #[.val (.ref a1), .val (.int p2), .val (.int p3), .val (.int (1 : Int32))] [(.ref a1)]))
  obtain ⟨T1, X1, st1⟩ := X0.initO hx hZ hown (tw hw 7 rfl) (tw hw 8 rfl) (tw hw 9 rfl) (g := (mkF m 1 #[.val (.ref a1), .val (.int p2), .val (.int p3), .val (.int (1 : Int32))] [(.ref a1)])) rfl (by rw [hml]; rfl) rfl (hb hby d1_1) (by decide) (Nat.le_of_ble_eq_true rfl)
  refine Go.by st1 ?_
  show Go p.tables e below _ (T1.setTop (mkF m 4 #[.val (.ref a1), .val (.int p2), .val (.int p3), .val (.int (1 : Int32))] []))
  refine Go.by (fun _ => XS.aloadN X1.here hx rfl (hb hby d1_4) rfl rfl) ?_
  show Go p.tables e below _ (T1.setTop (mkF m 5 #[.val (.ref a1), .val (.int p2), .val (.int p3), .val (.int (1 : Int32))] [(.ref a1)]))
  refine Go.by (fun _ => XS.bipush X1.here hx rfl (hb hby d1_5)) ?_
  show Go p.tables e below _ (T1.setTop (mkF m 7 #[.val (.ref a1), .val (.int p2), .val (.int p3), .val (.int (1 : Int32))] [(.int (16 : Int32)), (.ref a1)]))
  obtain ⟨T2, h2, kc2, b2, X2, g2, E2, A2, V2, Ov2, st2⟩ := X1.newRA hx hZ hown (ty := .long) (C := "[J") (by decide) (tw hw 10 rfl) (tw hw 11 rfl) (g := (mkF m 7 #[.val (.ref a1), .val (.int p2), .val (.int p3), .val (.int (1 : Int32))] [(.int (16 : Int32)), (.ref a1)])) rfl (hb hby d1_7) rfl (by decide) (sz := 16) (cap := 16) (k' := 1) (n' := 16) rfl (Nat.le_refl _) (by decide) rfl rfl (by decide) (by decide) (ad := "[[J") (by decide)
  have g_b2 : n0 ≤ b2 := by rw [g2]; exact Z0
  have sz_b2 : h0.size ≤ b2 := by rw [g2]; exact K0.1
  have ne_a1_b2 : a1 ≠ b2 := Nat.ne_of_lt (by rw [g2]; exact E_a1.lt)
  have f3_15 := E_a1.ext E2
  have f3_16 := F_longs.ext E2
  have f3_17 := F_ints.ext E2
  have f3_18 := F_objects.ext E2
  have f3_19 := F_longsPerRow.ext E2
  have f3_20 := F_intsPerRow.ext E2
  have f3_21 := F_objectsPerRow.ext E2
  have f3_22 := F_size.ext E2
  have f3_23 := F_capacity.ext E2
  have f3_24 := K0.ext E2
  have Zs3 : n0 ≤ h2.size := Nat.le_trans Z0 E2.1
  refine Go.by st2 ?_
  show Go p.tables e below _ (T2.setTop (mkF m 10 #[.val (.ref a1), .val (.int p2), .val (.int p3), .val (.int (1 : Int32))] [(.ref b2), (.ref a1)]))
  obtain ⟨T4, h4, X4, W4, st4⟩ := X2.putF hx hZ hown (host := "") (Or.inl (tw hw 12 rfl)) Via.refl f3_16 f3_15 g_a1 (Or.inl (tw hw 13 rfl)) (tw hw 2 rfl) (ty := (.array (.array .long))) (by decide) rfl rfl (g := (mkF m 10 #[.val (.ref a1), .val (.int p2), .val (.int p3), .val (.int (1 : Int32))] [(.ref b2), (.ref a1)])) rfl rfl (hb hby d1_10)
  have Fw4 := f3_16.same W4
  have f5_30 := f3_15.wr W4
  have f5_31 := f3_17.other W4 (Or.inr (slot_ne (Or.inl (tw hw 17 rfl)) (Or.inl (tw hw 13 rfl)) (by decide) (t := (.array (.array .int))) (t' := (.array (.array .long))) (by decide) (by decide)))
  have f5_32 := f3_18.other W4 (Or.inr (slot_ne (Or.inl (tw hw 21 rfl)) (Or.inl (tw hw 13 rfl)) (by decide) (t := (.array (.array (.object "java/lang/Object")))) (t' := (.array (.array .long))) (by decide) (by decide)))
  have f5_33 := f3_19.other W4 (Or.inr (slot_ne (Or.inr (tw hw 23 rfl)) (Or.inl (tw hw 13 rfl)) (by decide) (t := .int) (t' := (.array (.array .long))) (by decide) (by decide)))
  have f5_34 := f3_20.other W4 (Or.inr (slot_ne (Or.inr (tw hw 25 rfl)) (Or.inl (tw hw 13 rfl)) (by decide) (t := .int) (t' := (.array (.array .long))) (by decide) (by decide)))
  have f5_35 := f3_21.other W4 (Or.inr (slot_ne (Or.inr (tw hw 27 rfl)) (Or.inl (tw hw 13 rfl)) (by decide) (t := .int) (t' := (.array (.array .long))) (by decide) (by decide)))
  have f5_36 := f3_22.other W4 (Or.inr (slot_ne (Or.inl (tw hw 34 rfl)) (Or.inl (tw hw 13 rfl)) (by decide) (t := .int) (t' := (.array (.array .long))) (by decide) (by decide)))
  have f5_37 := f3_23.other W4 (Or.inr (slot_ne (Or.inl (tw hw 37 rfl)) (Or.inl (tw hw 13 rfl)) (by decide) (t := .int) (t' := (.array (.array .long))) (by decide) (by decide)))
  have f5_38 := f3_24.wr W4 (Or.inl (List.mem_of_getElem? (i := 0) rfl))
  have f5_39 := A2.wr W4
  have f5_40 := Avf.other V2 W4 (Ne.symm ne_a1_b2)
  have Zs5 : n0 ≤ h4.size := by rw [W4.size]; exact Zs3
  refine Go.by st4 ?_
  show Go p.tables e below _ (T4.setTop (mkF m 13 #[.val (.ref a1), .val (.int p2), .val (.int p3), .val (.int (1 : Int32))] []))
  refine Go.by (fun _ => XS.aloadN X4.here hx rfl (hb hby d1_13) rfl rfl) ?_
  show Go p.tables e below _ (T4.setTop (mkF m 14 #[.val (.ref a1), .val (.int p2), .val (.int p3), .val (.int (1 : Int32))] [(.ref a1)]))
  refine Go.by (fun _ => XS.bipush X4.here hx rfl (hb hby d1_14)) ?_
  show Go p.tables e below _ (T4.setTop (mkF m 16 #[.val (.ref a1), .val (.int p2), .val (.int p3), .val (.int (1 : Int32))] [(.int (16 : Int32)), (.ref a1)]))
  obtain ⟨T6, h6, kc6, b6, X6, g6, E6, A6, V6, Ov6, st6⟩ := X4.newRA hx hZ hown (ty := .int) (C := "[I") (by decide) (tw hw 14 rfl) (tw hw 15 rfl) (g := (mkF m 16 #[.val (.ref a1), .val (.int p2), .val (.int p3), .val (.int (1 : Int32))] [(.int (16 : Int32)), (.ref a1)])) rfl (hb hby d1_16) rfl (by decide) (sz := 16) (cap := 16) (k' := 2) (n' := 32) rfl (Nat.le_refl _) (by decide) rfl rfl (by decide) (by decide) (ad := "[[I") (by decide)
  have g_b6 : n0 ≤ b6 := by rw [g6]; exact Zs5
  have sz_b6 : h0.size ≤ b6 := by rw [g6]; exact f5_38.1
  have ne_a1_b6 : a1 ≠ b6 := Nat.ne_of_lt (by rw [g6]; exact f5_30.lt)
  have ne_b2_b6 : b2 ≠ b6 := Nat.ne_of_lt (by rw [g6]; exact f5_39.lt)
  have f7_53 := f5_30.ext E6
  have f7_54 := Fw4.ext E6
  have f7_55 := f5_31.ext E6
  have f7_56 := f5_32.ext E6
  have f7_57 := f5_33.ext E6
  have f7_58 := f5_34.ext E6
  have f7_59 := f5_35.ext E6
  have f7_60 := f5_36.ext E6
  have f7_61 := f5_37.ext E6
  have f7_62 := f5_38.ext E6
  have f7_63 := f5_39.ext E6
  have f7_64 := Avf.ext f5_40 E6
  have Zs7 : n0 ≤ h6.size := Nat.le_trans Zs5 E6.1
  refine Go.by st6 ?_
  show Go p.tables e below _ (T6.setTop (mkF m 19 #[.val (.ref a1), .val (.int p2), .val (.int p3), .val (.int (1 : Int32))] [(.ref b6), (.ref a1)]))
  obtain ⟨T8, h8, X8, W8, st8⟩ := X6.putF hx hZ hown (host := "") (Or.inl (tw hw 16 rfl)) Via.refl f7_55 f7_53 g_a1 (Or.inl (tw hw 17 rfl)) (tw hw 2 rfl) (ty := (.array (.array .int))) (by decide) rfl rfl (g := (mkF m 19 #[.val (.ref a1), .val (.int p2), .val (.int p3), .val (.int (1 : Int32))] [(.ref b6), (.ref a1)])) rfl rfl (hb hby d1_19)
  have Fw8 := f7_55.same W8
  have f9_70 := f7_53.wr W8
  have f9_71 := f7_54.other W8 (Or.inr (slot_ne (Or.inl (tw hw 13 rfl)) (Or.inl (tw hw 17 rfl)) (by decide) (t := (.array (.array .long))) (t' := (.array (.array .int))) (by decide) (by decide)))
  have f9_72 := f7_56.other W8 (Or.inr (slot_ne (Or.inl (tw hw 21 rfl)) (Or.inl (tw hw 17 rfl)) (by decide) (t := (.array (.array (.object "java/lang/Object")))) (t' := (.array (.array .int))) (by decide) (by decide)))
  have f9_73 := f7_57.other W8 (Or.inr (slot_ne (Or.inr (tw hw 23 rfl)) (Or.inl (tw hw 17 rfl)) (by decide) (t := .int) (t' := (.array (.array .int))) (by decide) (by decide)))
  have f9_74 := f7_58.other W8 (Or.inr (slot_ne (Or.inr (tw hw 25 rfl)) (Or.inl (tw hw 17 rfl)) (by decide) (t := .int) (t' := (.array (.array .int))) (by decide) (by decide)))
  have f9_75 := f7_59.other W8 (Or.inr (slot_ne (Or.inr (tw hw 27 rfl)) (Or.inl (tw hw 17 rfl)) (by decide) (t := .int) (t' := (.array (.array .int))) (by decide) (by decide)))
  have f9_76 := f7_60.other W8 (Or.inr (slot_ne (Or.inl (tw hw 34 rfl)) (Or.inl (tw hw 17 rfl)) (by decide) (t := .int) (t' := (.array (.array .int))) (by decide) (by decide)))
  have f9_77 := f7_61.other W8 (Or.inr (slot_ne (Or.inl (tw hw 37 rfl)) (Or.inl (tw hw 17 rfl)) (by decide) (t := .int) (t' := (.array (.array .int))) (by decide) (by decide)))
  have f9_78 := f7_62.wr W8 (Or.inl (List.mem_of_getElem? (i := 0) rfl))
  have f9_79 := f7_63.wr W8
  have f9_80 := Avf.other f7_64 W8 (Ne.symm ne_a1_b2)
  have f9_81 := A6.wr W8
  have f9_82 := Avf.other V6 W8 (Ne.symm ne_a1_b6)
  have Zs9 : n0 ≤ h8.size := by rw [W8.size]; exact Zs7
  refine Go.by st8 ?_
  show Go p.tables e below _ (T8.setTop (mkF m 22 #[.val (.ref a1), .val (.int p2), .val (.int p3), .val (.int (1 : Int32))] []))
  refine Go.by (fun _ => XS.aloadN X8.here hx rfl (hb hby d1_22) rfl rfl) ?_
  show Go p.tables e below _ (T8.setTop (mkF m 23 #[.val (.ref a1), .val (.int p2), .val (.int p3), .val (.int (1 : Int32))] [(.ref a1)]))
  refine Go.by (fun _ => XS.bipush X8.here hx rfl (hb hby d1_23)) ?_
  show Go p.tables e below _ (T8.setTop (mkF m 25 #[.val (.ref a1), .val (.int p2), .val (.int p3), .val (.int (1 : Int32))] [(.int (16 : Int32)), (.ref a1)]))
  obtain ⟨T10, h10, kc10, b10, X10, g10, E10, A10, V10, Ov10, st10⟩ := X8.newRA hx hZ hown (ty := (.object "java/lang/Object")) (C := "[Ljava/lang/Object;") (by decide) (tw hw 18 rfl) (tw hw 19 rfl) (g := (mkF m 25 #[.val (.ref a1), .val (.int p2), .val (.int p3), .val (.int (1 : Int32))] [(.int (16 : Int32)), (.ref a1)])) rfl (hb hby d1_25) rfl (by decide) (sz := 16) (cap := 16) (k' := 3) (n' := 48) rfl (Nat.le_refl _) (by decide) rfl rfl (by decide) (by decide) (ad := "[[Ljava/lang/Object;") (by decide)
  have g_b10 : n0 ≤ b10 := by rw [g10]; exact Zs9
  have sz_b10 : h0.size ≤ b10 := by rw [g10]; exact f9_78.1
  have ne_a1_b10 : a1 ≠ b10 := Nat.ne_of_lt (by rw [g10]; exact f9_70.lt)
  have ne_b2_b10 : b2 ≠ b10 := Nat.ne_of_lt (by rw [g10]; exact f9_79.lt)
  have ne_b6_b10 : b6 ≠ b10 := Nat.ne_of_lt (by rw [g10]; exact f9_81.lt)
  have f11_96 := f9_70.ext E10
  have f11_97 := f9_71.ext E10
  have f11_98 := Fw8.ext E10
  have f11_99 := f9_72.ext E10
  have f11_100 := f9_73.ext E10
  have f11_101 := f9_74.ext E10
  have f11_102 := f9_75.ext E10
  have f11_103 := f9_76.ext E10
  have f11_104 := f9_77.ext E10
  have f11_105 := f9_78.ext E10
  have f11_106 := f9_79.ext E10
  have f11_107 := Avf.ext f9_80 E10
  have f11_108 := f9_81.ext E10
  have f11_109 := Avf.ext f9_82 E10
  have Zs11 : n0 ≤ h10.size := Nat.le_trans Zs9 E10.1
  refine Go.by st10 ?_
  show Go p.tables e below _ (T10.setTop (mkF m 28 #[.val (.ref a1), .val (.int p2), .val (.int p3), .val (.int (1 : Int32))] [(.ref b10), (.ref a1)]))
  obtain ⟨T12, h12, X12, W12, st12⟩ := X10.putF hx hZ hown (host := "") (Or.inl (tw hw 20 rfl)) Via.refl f11_99 f11_96 g_a1 (Or.inl (tw hw 21 rfl)) (tw hw 2 rfl) (ty := (.array (.array (.object "java/lang/Object")))) (by decide) rfl rfl (g := (mkF m 28 #[.val (.ref a1), .val (.int p2), .val (.int p3), .val (.int (1 : Int32))] [(.ref b10), (.ref a1)])) rfl rfl (hb hby d1_28)
  have Fw12 := f11_99.same W12
  have f13_115 := f11_96.wr W12
  have f13_116 := f11_97.other W12 (Or.inr (slot_ne (Or.inl (tw hw 13 rfl)) (Or.inl (tw hw 21 rfl)) (by decide) (t := (.array (.array .long))) (t' := (.array (.array (.object "java/lang/Object")))) (by decide) (by decide)))
  have f13_117 := f11_98.other W12 (Or.inr (slot_ne (Or.inl (tw hw 17 rfl)) (Or.inl (tw hw 21 rfl)) (by decide) (t := (.array (.array .int))) (t' := (.array (.array (.object "java/lang/Object")))) (by decide) (by decide)))
  have f13_118 := f11_100.other W12 (Or.inr (slot_ne (Or.inr (tw hw 23 rfl)) (Or.inl (tw hw 21 rfl)) (by decide) (t := .int) (t' := (.array (.array (.object "java/lang/Object")))) (by decide) (by decide)))
  have f13_119 := f11_101.other W12 (Or.inr (slot_ne (Or.inr (tw hw 25 rfl)) (Or.inl (tw hw 21 rfl)) (by decide) (t := .int) (t' := (.array (.array (.object "java/lang/Object")))) (by decide) (by decide)))
  have f13_120 := f11_102.other W12 (Or.inr (slot_ne (Or.inr (tw hw 27 rfl)) (Or.inl (tw hw 21 rfl)) (by decide) (t := .int) (t' := (.array (.array (.object "java/lang/Object")))) (by decide) (by decide)))
  have f13_121 := f11_103.other W12 (Or.inr (slot_ne (Or.inl (tw hw 34 rfl)) (Or.inl (tw hw 21 rfl)) (by decide) (t := .int) (t' := (.array (.array (.object "java/lang/Object")))) (by decide) (by decide)))
  have f13_122 := f11_104.other W12 (Or.inr (slot_ne (Or.inl (tw hw 37 rfl)) (Or.inl (tw hw 21 rfl)) (by decide) (t := .int) (t' := (.array (.array (.object "java/lang/Object")))) (by decide) (by decide)))
  have f13_123 := f11_105.wr W12 (Or.inl (List.mem_of_getElem? (i := 0) rfl))
  have f13_124 := f11_106.wr W12
  have f13_125 := Avf.other f11_107 W12 (Ne.symm ne_a1_b2)
  have f13_126 := f11_108.wr W12
  have f13_127 := Avf.other f11_109 W12 (Ne.symm ne_a1_b6)
  have f13_128 := A10.wr W12
  have f13_129 := Avf.other V10 W12 (Ne.symm ne_a1_b10)
  have Zs13 : n0 ≤ h12.size := by rw [W12.size]; exact Zs11
  refine Go.by st12 ?_
  show Go p.tables e below _ (T12.setTop (mkF m 31 #[.val (.ref a1), .val (.int p2), .val (.int p3), .val (.int (1 : Int32))] []))
  refine Go.by (fun _ => XS.aloadN X12.here hx rfl (hb hby d1_31) rfl rfl) ?_
  show Go p.tables e below _ (T12.setTop (mkF m 32 #[.val (.ref a1), .val (.int p2), .val (.int p3), .val (.int (1 : Int32))] [(.ref a1)]))
  refine Go.by (fun _ => XS.iloadN X12.here hx rfl (hb hby d1_32) rfl) ?_
  show Go p.tables e below _ (T12.setTop (mkF m 33 #[.val (.ref a1), .val (.int p2), .val (.int p3), .val (.int (1 : Int32))] [(.int p2), (.ref a1)]))
  obtain ⟨T14, h14, X14, W14, st14⟩ := X12.putF hx hZ hown (host := "") (Or.inl (tw hw 22 rfl)) Via.refl f13_118 f13_115 g_a1 (Or.inr ⟨(tw hw 23 rfl), rfl, hnm⟩) (tw hw 2 rfl) (ty := .int) (by decide) rfl rfl (g := (mkF m 33 #[.val (.ref a1), .val (.int p2), .val (.int p3), .val (.int (1 : Int32))] [(.int p2), (.ref a1)])) rfl rfl (hb hby d1_33)
  have Fw14 := f13_118.same W14
  have f15_139 := f13_115.wr W14
  have f15_140 := f13_116.other W14 (Or.inr (slot_ne (Or.inl (tw hw 13 rfl)) (Or.inr (tw hw 23 rfl)) (by decide) (t := (.array (.array .long))) (t' := .int) (by decide) (by decide)))
  have f15_141 := f13_117.other W14 (Or.inr (slot_ne (Or.inl (tw hw 17 rfl)) (Or.inr (tw hw 23 rfl)) (by decide) (t := (.array (.array .int))) (t' := .int) (by decide) (by decide)))
  have f15_142 := Fw12.other W14 (Or.inr (slot_ne (Or.inl (tw hw 21 rfl)) (Or.inr (tw hw 23 rfl)) (by decide) (t := (.array (.array (.object "java/lang/Object")))) (t' := .int) (by decide) (by decide)))
  have f15_143 := f13_119.other W14 (Or.inr (slot_ne (Or.inr (tw hw 25 rfl)) (Or.inr (tw hw 23 rfl)) (by decide) (t := .int) (t' := .int) (by decide) (by decide)))
  have f15_144 := f13_120.other W14 (Or.inr (slot_ne (Or.inr (tw hw 27 rfl)) (Or.inr (tw hw 23 rfl)) (by decide) (t := .int) (t' := .int) (by decide) (by decide)))
  have f15_145 := f13_121.other W14 (Or.inr (slot_ne (Or.inl (tw hw 34 rfl)) (Or.inr (tw hw 23 rfl)) (by decide) (t := .int) (t' := .int) (by decide) (by decide)))
  have f15_146 := f13_122.other W14 (Or.inr (slot_ne (Or.inl (tw hw 37 rfl)) (Or.inr (tw hw 23 rfl)) (by decide) (t := .int) (t' := .int) (by decide) (by decide)))
  have f15_147 := f13_123.wr W14 (Or.inl (List.mem_of_getElem? (i := 0) rfl))
  have f15_148 := f13_124.wr W14
  have f15_149 := Avf.other f13_125 W14 (Ne.symm ne_a1_b2)
  have f15_150 := f13_126.wr W14
  have f15_151 := Avf.other f13_127 W14 (Ne.symm ne_a1_b6)
  have f15_152 := f13_128.wr W14
  have f15_153 := Avf.other f13_129 W14 (Ne.symm ne_a1_b10)
  have Zs15 : n0 ≤ h14.size := by rw [W14.size]; exact Zs13
  refine Go.by st14 ?_
  show Go p.tables e below _ (T14.setTop (mkF m 36 #[.val (.ref a1), .val (.int p2), .val (.int p3), .val (.int (1 : Int32))] []))
  refine Go.by (fun _ => XS.aloadN X14.here hx rfl (hb hby d1_36) rfl rfl) ?_
  show Go p.tables e below _ (T14.setTop (mkF m 37 #[.val (.ref a1), .val (.int p2), .val (.int p3), .val (.int (1 : Int32))] [(.ref a1)]))
  refine Go.by (fun _ => XS.iloadN X14.here hx rfl (hb hby d1_37) rfl) ?_
  show Go p.tables e below _ (T14.setTop (mkF m 38 #[.val (.ref a1), .val (.int p2), .val (.int p3), .val (.int (1 : Int32))] [(.int p3), (.ref a1)]))
  obtain ⟨T16, h16, X16, W16, st16⟩ := X14.putF hx hZ hown (host := "") (Or.inl (tw hw 24 rfl)) Via.refl f15_143 f15_139 g_a1 (Or.inr ⟨(tw hw 25 rfl), rfl, hnm⟩) (tw hw 2 rfl) (ty := .int) (by decide) rfl rfl (g := (mkF m 38 #[.val (.ref a1), .val (.int p2), .val (.int p3), .val (.int (1 : Int32))] [(.int p3), (.ref a1)])) rfl rfl (hb hby d1_38)
  have Fw16 := f15_143.same W16
  have f17_163 := f15_139.wr W16
  have f17_164 := f15_140.other W16 (Or.inr (slot_ne (Or.inl (tw hw 13 rfl)) (Or.inr (tw hw 25 rfl)) (by decide) (t := (.array (.array .long))) (t' := .int) (by decide) (by decide)))
  have f17_165 := f15_141.other W16 (Or.inr (slot_ne (Or.inl (tw hw 17 rfl)) (Or.inr (tw hw 25 rfl)) (by decide) (t := (.array (.array .int))) (t' := .int) (by decide) (by decide)))
  have f17_166 := f15_142.other W16 (Or.inr (slot_ne (Or.inl (tw hw 21 rfl)) (Or.inr (tw hw 25 rfl)) (by decide) (t := (.array (.array (.object "java/lang/Object")))) (t' := .int) (by decide) (by decide)))
  have f17_167 := Fw14.other W16 (Or.inr (slot_ne (Or.inr (tw hw 23 rfl)) (Or.inr (tw hw 25 rfl)) (by decide) (t := .int) (t' := .int) (by decide) (by decide)))
  have f17_168 := f15_144.other W16 (Or.inr (slot_ne (Or.inr (tw hw 27 rfl)) (Or.inr (tw hw 25 rfl)) (by decide) (t := .int) (t' := .int) (by decide) (by decide)))
  have f17_169 := f15_145.other W16 (Or.inr (slot_ne (Or.inl (tw hw 34 rfl)) (Or.inr (tw hw 25 rfl)) (by decide) (t := .int) (t' := .int) (by decide) (by decide)))
  have f17_170 := f15_146.other W16 (Or.inr (slot_ne (Or.inl (tw hw 37 rfl)) (Or.inr (tw hw 25 rfl)) (by decide) (t := .int) (t' := .int) (by decide) (by decide)))
  have f17_171 := f15_147.wr W16 (Or.inl (List.mem_of_getElem? (i := 0) rfl))
  have f17_172 := f15_148.wr W16
  have f17_173 := Avf.other f15_149 W16 (Ne.symm ne_a1_b2)
  have f17_174 := f15_150.wr W16
  have f17_175 := Avf.other f15_151 W16 (Ne.symm ne_a1_b6)
  have f17_176 := f15_152.wr W16
  have f17_177 := Avf.other f15_153 W16 (Ne.symm ne_a1_b10)
  have Zs17 : n0 ≤ h16.size := by rw [W16.size]; exact Zs15
  refine Go.by st16 ?_
  show Go p.tables e below _ (T16.setTop (mkF m 41 #[.val (.ref a1), .val (.int p2), .val (.int p3), .val (.int (1 : Int32))] []))
  refine Go.by (fun _ => XS.aloadN X16.here hx rfl (hb hby d1_41) rfl rfl) ?_
  show Go p.tables e below _ (T16.setTop (mkF m 42 #[.val (.ref a1), .val (.int p2), .val (.int p3), .val (.int (1 : Int32))] [(.ref a1)]))
  refine Go.by (fun _ => XS.iloadN X16.here hx rfl (hb hby d1_42) rfl) ?_
  show Go p.tables e below _ (T16.setTop (mkF m 43 #[.val (.ref a1), .val (.int p2), .val (.int p3), .val (.int (1 : Int32))] [(.int (1 : Int32)), (.ref a1)]))
  refine Go.by (fun _ => XS.ifNo X16.here hx rfl (hb hby d1_43) rfl ((if0 _ _).trans (feq (by decide)).1)) ?_
  show Go p.tables e below _ (T16.setTop (mkF m 46 #[.val (.ref a1), .val (.int p2), .val (.int p3), .val (.int (1 : Int32))] [(.ref a1)]))
  refine Go.by (fun _ => XS.iconst X16.here hx rfl (hb hby d1_46)) ?_
  show Go p.tables e below _ (T16.setTop (mkF m 47 #[.val (.ref a1), .val (.int p2), .val (.int p3), .val (.int (1 : Int32))] [(.int (1 : Int32)), (.ref a1)]))
  refine Go.by (fun _ => XS.goto X16.here hx rfl (pc0 := 47) (pc' := 51) rfl (hb hby d1_47) (by decide) (by decide)) ?_
  show Go p.tables e below _ (T16.setTop (mkF m 51 #[.val (.ref a1), .val (.int p2), .val (.int p3), .val (.int (1 : Int32))] [(.int (1 : Int32)), (.ref a1)]))
  obtain ⟨T18, h18, X18, W18, st18⟩ := X16.putF hx hZ hown (host := "") (Or.inl (tw hw 26 rfl)) Via.refl f17_168 f17_163 g_a1 (Or.inr ⟨(tw hw 27 rfl), rfl, hnm⟩) (tw hw 2 rfl) (ty := .int) (by decide) rfl rfl (g := (mkF m 51 #[.val (.ref a1), .val (.int p2), .val (.int p3), .val (.int (1 : Int32))] [(.int (1 : Int32)), (.ref a1)])) rfl rfl (hb hby d1_51)
  have Fw18 := f17_168.same W18
  have f19_193 := f17_163.wr W18
  have f19_194 := f17_164.other W18 (Or.inr (slot_ne (Or.inl (tw hw 13 rfl)) (Or.inr (tw hw 27 rfl)) (by decide) (t := (.array (.array .long))) (t' := .int) (by decide) (by decide)))
  have f19_195 := f17_165.other W18 (Or.inr (slot_ne (Or.inl (tw hw 17 rfl)) (Or.inr (tw hw 27 rfl)) (by decide) (t := (.array (.array .int))) (t' := .int) (by decide) (by decide)))
  have f19_196 := f17_166.other W18 (Or.inr (slot_ne (Or.inl (tw hw 21 rfl)) (Or.inr (tw hw 27 rfl)) (by decide) (t := (.array (.array (.object "java/lang/Object")))) (t' := .int) (by decide) (by decide)))
  have f19_197 := f17_167.other W18 (Or.inr (slot_ne (Or.inr (tw hw 23 rfl)) (Or.inr (tw hw 27 rfl)) (by decide) (t := .int) (t' := .int) (by decide) (by decide)))
  have f19_198 := Fw16.other W18 (Or.inr (slot_ne (Or.inr (tw hw 25 rfl)) (Or.inr (tw hw 27 rfl)) (by decide) (t := .int) (t' := .int) (by decide) (by decide)))
  have f19_199 := f17_169.other W18 (Or.inr (slot_ne (Or.inl (tw hw 34 rfl)) (Or.inr (tw hw 27 rfl)) (by decide) (t := .int) (t' := .int) (by decide) (by decide)))
  have f19_200 := f17_170.other W18 (Or.inr (slot_ne (Or.inl (tw hw 37 rfl)) (Or.inr (tw hw 27 rfl)) (by decide) (t := .int) (t' := .int) (by decide) (by decide)))
  have f19_201 := f17_171.wr W18 (Or.inl (List.mem_of_getElem? (i := 0) rfl))
  have f19_202 := f17_172.wr W18
  have f19_203 := Avf.other f17_173 W18 (Ne.symm ne_a1_b2)
  have f19_204 := f17_174.wr W18
  have f19_205 := Avf.other f17_175 W18 (Ne.symm ne_a1_b6)
  have f19_206 := f17_176.wr W18
  have f19_207 := Avf.other f17_177 W18 (Ne.symm ne_a1_b10)
  have Zs19 : n0 ≤ h18.size := by rw [W18.size]; exact Zs17
  refine Go.by st18 ?_
  show Go p.tables e below _ (T18.setTop (mkF m 54 #[.val (.ref a1), .val (.int p2), .val (.int p3), .val (.int (1 : Int32))] []))
  exact Go.ret0 X18 hx hlk hret (hb hby d1_54) (by decide) (by decide) ⟨b2, b6, b10, kc2, kc6, kc10, rfl, sz_b2, sz_b6, sz_b10, ne_b2_b6, ne_b2_b10, ne_b6_b10, f19_201, f19_193, f19_194, f19_195, f19_196, f19_197, f19_198, Fw18, f19_199, f19_200, f19_203, f19_205, f19_207, Ov2, Ov6, Ov10⟩
theorem d3_0 : decode prog_40_method_3_code 0 = .ok (.aload_n 0, 1) := by decide +kernel
theorem d3_1 : decode prog_40_method_3_code 1 = .ok (.getfield 37, 3) := by decide +kernel
theorem d3_4 : decode prog_40_method_3_code 4 = .ok (.ldc 42, 2) := by decide +kernel
theorem d3_6 : decode prog_40_method_3_code 6 = .ok (.if_icmp .ne 20, 3) := by decide +kernel
theorem d3_26 : decode prog_40_method_3_code 26 = .ok (.aload_n 0, 1) := by decide +kernel
theorem d3_27 : decode prog_40_method_3_code 27 = .ok (.getfield 37, 3) := by decide +kernel
theorem d3_30 : decode prog_40_method_3_code 30 = .ok (.istore_n 2, 1) := by decide +kernel
theorem d3_31 : decode prog_40_method_3_code 31 = .ok (.iload_n 2, 1) := by decide +kernel
theorem d3_32 : decode prog_40_method_3_code 32 = .ok (.bipush 16, 2) := by decide +kernel
theorem d3_34 : decode prog_40_method_3_code 34 = .ok (.iushr, 1) := by decide +kernel
theorem d3_35 : decode prog_40_method_3_code 35 = .ok (.istore_n 3, 1) := by decide +kernel
theorem d3_36 : decode prog_40_method_3_code 36 = .ok (.iload_n 3, 1) := by decide +kernel
theorem d3_37 : decode prog_40_method_3_code 37 = .ok (.aload_n 0, 1) := by decide +kernel
theorem d3_38 : decode prog_40_method_3_code 38 = .ok (.getfield 11, 3) := by decide +kernel
theorem d3_41 : decode prog_40_method_3_code 41 = .ok (.arraylength, 1) := by decide +kernel
theorem d3_42 : decode prog_40_method_3_code 42 = .ok (.if_icmp .ne 54, 3) := by decide +kernel
theorem d3_96 : decode prog_40_method_3_code 96 = .ok (.iload_n 2, 1) := by decide +kernel
theorem d3_97 : decode prog_40_method_3_code 97 = .ok (.aload_n 0, 1) := by decide +kernel
theorem d3_98 : decode prog_40_method_3_code 98 = .ok (.getfield 61, 3) := by decide +kernel
theorem d3_101 : decode prog_40_method_3_code 101 = .ok (.if_icmp .ne 129, 3) := by decide +kernel
theorem d3_104 : decode prog_40_method_3_code 104 = .ok (.iload_n 3, 1) := by decide +kernel
theorem d3_105 : decode prog_40_method_3_code 105 = .ok (.ifCond .ne 22, 3) := by decide +kernel
theorem d3_108 : decode prog_40_method_3_code 108 = .ok (.ldc 64, 2) := by decide +kernel
theorem d3_110 : decode prog_40_method_3_code 110 = .ok (.bipush 64, 2) := by decide +kernel
theorem d3_112 : decode prog_40_method_3_code 112 = .ok (.aload_n 0, 1) := by decide +kernel
theorem d3_113 : decode prog_40_method_3_code 113 = .ok (.getfield 61, 3) := by decide +kernel
theorem d3_116 : decode prog_40_method_3_code 116 = .ok (.iconst 2, 1) := by decide +kernel
theorem d3_117 : decode prog_40_method_3_code 117 = .ok (.imul, 1) := by decide +kernel
theorem d3_118 : decode prog_40_method_3_code 118 = .ok (.invokestatic 65, 3) := by decide +kernel
theorem pd0 : parseMethodDescriptor "(II)I" = some ⟨[.int, .int], some .int⟩ := by decide +kernel
theorem d3_121 : decode prog_40_method_3_code 121 = .ok (.invokestatic 71, 3) := by decide +kernel
theorem d3_124 : decode prog_40_method_3_code 124 = .ok (.goto 5, 3) := by decide +kernel
theorem d3_129 : decode prog_40_method_3_code 129 = .ok (.istore 4, 2) := by decide +kernel
theorem d3_131 : decode prog_40_method_3_code 131 = .ok (.aload_n 0, 1) := by decide +kernel
theorem d3_132 : decode prog_40_method_3_code 132 = .ok (.getfield 11, 3) := by decide +kernel
theorem d3_135 : decode prog_40_method_3_code 135 = .ok (.iload_n 3, 1) := by decide +kernel
theorem d3_136 : decode prog_40_method_3_code 136 = .ok (.aload_n 0, 1) := by decide +kernel
theorem d3_137 : decode prog_40_method_3_code 137 = .ok (.getfield 11, 3) := by decide +kernel
theorem d3_140 : decode prog_40_method_3_code 140 = .ok (.iload_n 3, 1) := by decide +kernel
theorem d3_141 : decode prog_40_method_3_code 141 = .ok (.aaload, 1) := by decide +kernel
theorem d3_142 : decode prog_40_method_3_code 142 = .ok (.iload 4, 2) := by decide +kernel
theorem d3_144 : decode prog_40_method_3_code 144 = .ok (.aload_n 0, 1) := by decide +kernel
theorem d3_145 : decode prog_40_method_3_code 145 = .ok (.getfield 27, 3) := by decide +kernel
theorem d3_148 : decode prog_40_method_3_code 148 = .ok (.imul, 1) := by decide +kernel
theorem d3_149 : decode prog_40_method_3_code 149 = .ok (.invokestatic 74, 3) := by decide +kernel
theorem pd1 : parseMethodDescriptor "([JI)[J" = some ⟨[(.array .long), .int], some (.array .long)⟩ := by decide +kernel
theorem d3_152 : decode prog_40_method_3_code 152 = .ok (.aastore, 1) := by decide +kernel
theorem d3_153 : decode prog_40_method_3_code 153 = .ok (.aload_n 0, 1) := by decide +kernel
theorem d3_154 : decode prog_40_method_3_code 154 = .ok (.getfield 17, 3) := by decide +kernel
theorem d3_157 : decode prog_40_method_3_code 157 = .ok (.iload_n 3, 1) := by decide +kernel
theorem d3_158 : decode prog_40_method_3_code 158 = .ok (.aload_n 0, 1) := by decide +kernel
theorem d3_159 : decode prog_40_method_3_code 159 = .ok (.getfield 17, 3) := by decide +kernel
theorem d3_162 : decode prog_40_method_3_code 162 = .ok (.iload_n 3, 1) := by decide +kernel
theorem d3_163 : decode prog_40_method_3_code 163 = .ok (.aaload, 1) := by decide +kernel
theorem d3_164 : decode prog_40_method_3_code 164 = .ok (.iload 4, 2) := by decide +kernel
theorem d3_166 : decode prog_40_method_3_code 166 = .ok (.aload_n 0, 1) := by decide +kernel
theorem d3_167 : decode prog_40_method_3_code 167 = .ok (.getfield 31, 3) := by decide +kernel
theorem d3_170 : decode prog_40_method_3_code 170 = .ok (.imul, 1) := by decide +kernel
theorem d3_171 : decode prog_40_method_3_code 171 = .ok (.invokestatic 78, 3) := by decide +kernel
theorem pd2 : parseMethodDescriptor "([II)[I" = some ⟨[(.array .int), .int], some (.array .int)⟩ := by decide +kernel
theorem d3_174 : decode prog_40_method_3_code 174 = .ok (.aastore, 1) := by decide +kernel
theorem d3_175 : decode prog_40_method_3_code 175 = .ok (.aload_n 0, 1) := by decide +kernel
theorem d3_176 : decode prog_40_method_3_code 176 = .ok (.getfield 23, 3) := by decide +kernel
theorem d3_179 : decode prog_40_method_3_code 179 = .ok (.iload_n 3, 1) := by decide +kernel
theorem d3_180 : decode prog_40_method_3_code 180 = .ok (.aload_n 0, 1) := by decide +kernel
theorem d3_181 : decode prog_40_method_3_code 181 = .ok (.getfield 23, 3) := by decide +kernel
theorem d3_184 : decode prog_40_method_3_code 184 = .ok (.iload_n 3, 1) := by decide +kernel
theorem d3_185 : decode prog_40_method_3_code 185 = .ok (.aaload, 1) := by decide +kernel
theorem d3_186 : decode prog_40_method_3_code 186 = .ok (.ifnonnull 16, 3) := by decide +kernel
theorem d3_189 : decode prog_40_method_3_code 189 = .ok (.iload 4, 2) := by decide +kernel
theorem d3_191 : decode prog_40_method_3_code 191 = .ok (.aload_n 0, 1) := by decide +kernel
theorem d3_192 : decode prog_40_method_3_code 192 = .ok (.getfield 34, 3) := by decide +kernel
theorem d3_195 : decode prog_40_method_3_code 195 = .ok (.imul, 1) := by decide +kernel
theorem d3_196 : decode prog_40_method_3_code 196 = .ok (.anewarray 4, 3) := by decide +kernel
theorem d3_199 : decode prog_40_method_3_code 199 = .ok (.goto 19, 3) := by decide +kernel
theorem d3_218 : decode prog_40_method_3_code 218 = .ok (.aastore, 1) := by decide +kernel
theorem d3_219 : decode prog_40_method_3_code 219 = .ok (.aload_n 0, 1) := by decide +kernel
theorem d3_220 : decode prog_40_method_3_code 220 = .ok (.iload_n 3, 1) := by decide +kernel
theorem d3_221 : decode prog_40_method_3_code 221 = .ok (.ldc 64, 2) := by decide +kernel
theorem d3_223 : decode prog_40_method_3_code 223 = .ok (.imul, 1) := by decide +kernel
theorem d3_224 : decode prog_40_method_3_code 224 = .ok (.iload 4, 2) := by decide +kernel
theorem d3_226 : decode prog_40_method_3_code 226 = .ok (.iadd, 1) := by decide +kernel
theorem d3_227 : decode prog_40_method_3_code 227 = .ok (.putfield 61, 3) := by decide +kernel
theorem d3_230 : decode prog_40_method_3_code 230 = .ok (.aload_n 0, 1) := by decide +kernel
theorem d3_231 : decode prog_40_method_3_code 231 = .ok (.getfield 34, 3) := by decide +kernel
theorem d3_234 : decode prog_40_method_3_code 234 = .ok (.ifCond .le 15, 3) := by decide +kernel
theorem d3_249 : decode prog_40_method_3_code 249 = .ok (.aload_n 0, 1) := by decide +kernel
theorem d3_250 : decode prog_40_method_3_code 250 = .ok (.dup, 1) := by decide +kernel
theorem d3_251 : decode prog_40_method_3_code 251 = .ok (.getfield 37, 3) := by decide +kernel
theorem d3_254 : decode prog_40_method_3_code 254 = .ok (.iconst 1, 1) := by decide +kernel
theorem d3_255 : decode prog_40_method_3_code 255 = .ok (.iadd, 1) := by decide +kernel
theorem d3_256 : decode prog_40_method_3_code 256 = .ok (.putfield 37, 3) := by decide +kernel
theorem d3_259 : decode prog_40_method_3_code 259 = .ok (.iload_n 2, 1) := by decide +kernel
theorem d3_260 : decode prog_40_method_3_code 260 = .ok (.ireturn, 1) := by decide +kernel
abbrev Rm3_0 : Room := { frames := 1, cells := 3, slots := 384, locals := 15 }
set_option maxRecDepth 65536 in
set_option maxHeartbeats 40000000 in
theorem rm3_0 (l : Launch) (Z : State) (a0 : Array Value) (hw : ∀ d ∈ tables_1, d.before a0 Z = true) (ws : List Jvm.Cond) (a1 : Addr) (oL oI oO : Addr) (kL kI kO : ClassId) (lp ip : Int32) (h0 : Heap) (n0 : Nat) (Z0 : n0 ≤ h0.size) (E_a1 : Exa Z h0 a1 "com/example/spotline/spotline/engine/Table") (g_a1 : n0 ≤ a1) (F_longs : Fld Z h0 a1 "com/example/spotline/spotline/engine/Table" "longs" "[[J" (.ref oL)) (F_ints : Fld Z h0 a1 "com/example/spotline/spotline/engine/Table" "ints" "[[I" (.ref oI)) (F_objects : Fld Z h0 a1 "com/example/spotline/spotline/engine/Table" "objects" "[[Ljava/lang/Object;" (.ref oO)) (F_longsPerRow : Fld Z h0 a1 "com/example/spotline/spotline/engine/Table" "longsPerRow" "I" (.int lp)) (F_intsPerRow : Fld Z h0 a1 "com/example/spotline/spotline/engine/Table" "intsPerRow" "I" (.int ip)) (F_objectsPerRow : Fld Z h0 a1 "com/example/spotline/spotline/engine/Table" "objectsPerRow" "I" (.int (0 : Int32))) (F_size : Fld Z h0 a1 "com/example/spotline/spotline/engine/Table" "size" "I" (.int (0 : Int32))) (F_capacity : Fld Z h0 a1 "com/example/spotline/spotline/engine/Table" "capacity" "I" (.int (0 : Int32))) (g_o : n0 ≤ oL ∧ n0 ≤ oI ∧ n0 ≤ oO) (nn : a1 ≠ oL ∧ a1 ≠ oI ∧ a1 ≠ oO ∧ oL ≠ oI ∧ oL ≠ oO ∧ oI ≠ oO) (V_oL : Avf Z h0 oL kL (.array .long) 16 (fun _ => .null)) (V_oI : Avf Z h0 oI kI (.array .int) 16 (fun _ => .null)) (V_oO : Avf Z h0 oO kO (.array (.object "java/lang/Object")) 16 (fun _ => .null)) (Ov_oL : OvrA Z kL .long "[J") (Ov_oI : OvrA Z kI .int "[I") (Ov_oO : OvrA Z kO (.object "java/lang/Object") "[Ljava/lang/Object;") (hL : ¬ ((64 : Int32) * lp) < 0 ∧ ((64 : Int32) * lp).toNatClampNeg ≤ 192) (hI : ¬ ((64 : Int32) * ip) < 0 ∧ ((64 : Int32) * ip).toNatClampNeg ≤ 192) :
    Met l Z n0 (⟨"com/example/spotline/spotline/engine/Table", "add", "(Ljava/lang/Object;)I"⟩ : MethodName) prog_40_method_3_code 5 (some .int) ws Rm3_0 #[(.ref a1), .null] h0 (fun v h => ∃ dL dI dO kdL kdI kdO, v = some (.int 0) ∧ h0.size ≤ dL ∧ h0.size ≤ dI ∧ h0.size ≤ dO ∧ dL ≠ dO ∧ dI ≠ dO ∧ dL ≠ dI ∧ Keep h0 h [a1, oL, oI, oO] ∧ Exa Z h a1 "com/example/spotline/spotline/engine/Table" ∧ Fld Z h a1 "com/example/spotline/spotline/engine/Table" "longs" "[[J" (.ref oL) ∧ Fld Z h a1 "com/example/spotline/spotline/engine/Table" "ints" "[[I" (.ref oI) ∧ Fld Z h a1 "com/example/spotline/spotline/engine/Table" "objects" "[[Ljava/lang/Object;" (.ref oO) ∧ Fld Z h a1 "com/example/spotline/spotline/engine/Table" "longsPerRow" "I" (.int lp) ∧ Fld Z h a1 "com/example/spotline/spotline/engine/Table" "intsPerRow" "I" (.int ip) ∧ Fld Z h a1 "com/example/spotline/spotline/engine/Table" "objectsPerRow" "I" (.int (0 : Int32)) ∧ Fld Z h a1 "com/example/spotline/spotline/engine/Table" "size" "I" (.int (1 : Int32)) ∧ Fld Z h a1 "com/example/spotline/spotline/engine/Table" "capacity" "I" (.int (64 : Int32)) ∧ Avf Z h oL kL (.array .long) 16 (fun i => if i = 0 then (.ref dL) else .null) ∧ Avf Z h oI kI (.array .int) 16 (fun i => if i = 0 then (.ref dI) else .null) ∧ Avf Z h oO kO (.array (.object "java/lang/Object")) 16 (fun i => if i = 0 then (.ref dO) else .null) ∧ Avf Z h dL kdL .long (((64 : Int32) * lp).toNatClampNeg) (fun _ => (.long 0)) ∧ Avf Z h dI kdI .int (((64 : Int32) * ip).toNatClampNeg) (fun _ => (.int 0)) ∧ Avf Z h dO kdO (.object "java/lang/Object") 0 (fun _ => .null)) := by
  refine enter (Ls := #[.val (.ref a1), .val .null, .unset, .unset, .unset]) (plainFor_of_name pn0) (fun m => by first | (simp [entryFrame, mkF, argsToLocals, Value.category]; done) | rfl) ?_
  intro p e s m below meth c T0 hx hby hml hown hnm hret hlk hZ X0
  have K0 := Keep.refl h0 [a1, oL, oI, oO]
  show Go p.tables e below _ (T0.setTop (mkF m 0 #[.val (.ref a1), .val .null, .unset, .unset, .unset] []))
  refine Go.by (fun _ => XS.aloadN X0.here hx rfl (hb hby d3_0) rfl rfl) ?_
  show Go p.tables e below _ (T0.setTop (mkF m 1 #[.val (.ref a1), .val .null, .unset, .unset, .unset] [(.ref a1)]))
  obtain ⟨T1, X1, st1⟩ := X0.getF hx hZ hown (host := "") (Or.inl (tw hw 33 rfl)) Via.refl F_size (g := (mkF m 1 #[.val (.ref a1), .val .null, .unset, .unset, .unset] [(.ref a1)])) rfl rfl (hb hby d3_1)
  refine Go.by st1 ?_
  show Go p.tables e below _ (T1.setTop (mkF m 4 #[.val (.ref a1), .val .null, .unset, .unset, .unset] [(.int (0 : Int32))]))
  refine Go.by (X1.ldcInt hx hZ hown (tw hw 35 rfl) (g := (mkF m 4 #[.val (.ref a1), .val .null, .unset, .unset, .unset] [(.int (0 : Int32))])) rfl (hb hby d3_4)) ?_
  show Go p.tables e below _ (T1.setTop (mkF m 6 #[.val (.ref a1), .val .null, .unset, .unset, .unset] [(.int (2147483647 : Int32)), (.int (0 : Int32))]))
  refine Go.by (fun _ => XS.icmpYes X1.here hx rfl (pc0 := 6) (pc' := 26) rfl (hb hby d3_6) rfl (feq (by decide)).2 (by decide) (by decide)) ?_
  show Go p.tables e below _ (T1.setTop (mkF m 26 #[.val (.ref a1), .val .null, .unset, .unset, .unset] []))
  refine Go.by (fun _ => XS.aloadN X1.here hx rfl (hb hby d3_26) rfl rfl) ?_
  show Go p.tables e below _ (T1.setTop (mkF m 27 #[.val (.ref a1), .val .null, .unset, .unset, .unset] [(.ref a1)]))
  obtain ⟨T2, X2, st2⟩ := X1.getF hx hZ hown (host := "") (Or.inl (tw hw 33 rfl)) Via.refl F_size (g := (mkF m 27 #[.val (.ref a1), .val .null, .unset, .unset, .unset] [(.ref a1)])) rfl rfl (hb hby d3_27)
  refine Go.by st2 ?_
  show Go p.tables e below _ (T2.setTop (mkF m 30 #[.val (.ref a1), .val .null, .unset, .unset, .unset] [(.int (0 : Int32))]))
  refine Go.by (fun _ => XS.istoreN X2.here hx rfl (hb hby d3_30) rfl (l' := #[.val (.ref a1), .val .null, .val (.int (0 : Int32)), .unset, .unset]) rfl) ?_
  show Go p.tables e below _ (T2.setTop (mkF m 31 #[.val (.ref a1), .val .null, .val (.int (0 : Int32)), .unset, .unset] []))
  refine Go.by (fun _ => XS.iloadN X2.here hx rfl (hb hby d3_31) rfl) ?_
  show Go p.tables e below _ (T2.setTop (mkF m 32 #[.val (.ref a1), .val .null, .val (.int (0 : Int32)), .unset, .unset] [(.int (0 : Int32))]))
  refine Go.by (fun _ => XS.bipush X2.here hx rfl (hb hby d3_32)) ?_
  show Go p.tables e below _ (T2.setTop (mkF m 34 #[.val (.ref a1), .val .null, .val (.int (0 : Int32)), .unset, .unset] [(.int (16 : Int32)), (.int (0 : Int32))]))
  refine Go.by (fun _ => XS.iushr X2.here hx rfl (hb hby d3_34) rfl) ?_
  show Go p.tables e below _ (T2.setTop (mkF m 35 #[.val (.ref a1), .val .null, .val (.int (0 : Int32)), .unset, .unset] [(.int (0 : Int32))]))
  refine Go.by (fun _ => XS.istoreN X2.here hx rfl (hb hby d3_35) rfl (l' := #[.val (.ref a1), .val .null, .val (.int (0 : Int32)), .val (.int (0 : Int32)), .unset]) rfl) ?_
  show Go p.tables e below _ (T2.setTop (mkF m 36 #[.val (.ref a1), .val .null, .val (.int (0 : Int32)), .val (.int (0 : Int32)), .unset] []))
  refine Go.by (fun _ => XS.iloadN X2.here hx rfl (hb hby d3_36) rfl) ?_
  show Go p.tables e below _ (T2.setTop (mkF m 37 #[.val (.ref a1), .val .null, .val (.int (0 : Int32)), .val (.int (0 : Int32)), .unset] [(.int (0 : Int32))]))
  refine Go.by (fun _ => XS.aloadN X2.here hx rfl (hb hby d3_37) rfl rfl) ?_
  show Go p.tables e below _ (T2.setTop (mkF m 38 #[.val (.ref a1), .val .null, .val (.int (0 : Int32)), .val (.int (0 : Int32)), .unset] [(.ref a1), (.int (0 : Int32))]))
  obtain ⟨T3, X3, st3⟩ := X2.getF hx hZ hown (host := "") (Or.inl (tw hw 12 rfl)) Via.refl F_longs (g := (mkF m 38 #[.val (.ref a1), .val .null, .val (.int (0 : Int32)), .val (.int (0 : Int32)), .unset] [(.ref a1), (.int (0 : Int32))])) rfl rfl (hb hby d3_38)
  refine Go.by st3 ?_
  show Go p.tables e below _ (T3.setTop (mkF m 41 #[.val (.ref a1), .val .null, .val (.int (0 : Int32)), .val (.int (0 : Int32)), .unset] [(.ref oL), (.int (0 : Int32))]))
  refine Go.by (X3.len hx hZ V_oL (z := (16 : Int32)) rfl (g := (mkF m 41 #[.val (.ref a1), .val .null, .val (.int (0 : Int32)), .val (.int (0 : Int32)), .unset] [(.ref oL), (.int (0 : Int32))])) rfl rfl (hb hby d3_41)) ?_
  show Go p.tables e below _ (T3.setTop (mkF m 42 #[.val (.ref a1), .val .null, .val (.int (0 : Int32)), .val (.int (0 : Int32)), .unset] [(.int (16 : Int32)), (.int (0 : Int32))]))
  refine Go.by (fun _ => XS.icmpYes X3.here hx rfl (pc0 := 42) (pc' := 96) rfl (hb hby d3_42) rfl (feq (by decide)).2 (by decide) (by decide)) ?_
  show Go p.tables e below _ (T3.setTop (mkF m 96 #[.val (.ref a1), .val .null, .val (.int (0 : Int32)), .val (.int (0 : Int32)), .unset] []))
  refine Go.by (fun _ => XS.iloadN X3.here hx rfl (hb hby d3_96) rfl) ?_
  show Go p.tables e below _ (T3.setTop (mkF m 97 #[.val (.ref a1), .val .null, .val (.int (0 : Int32)), .val (.int (0 : Int32)), .unset] [(.int (0 : Int32))]))
  refine Go.by (fun _ => XS.aloadN X3.here hx rfl (hb hby d3_97) rfl rfl) ?_
  show Go p.tables e below _ (T3.setTop (mkF m 98 #[.val (.ref a1), .val .null, .val (.int (0 : Int32)), .val (.int (0 : Int32)), .unset] [(.ref a1), (.int (0 : Int32))]))
  obtain ⟨T4, X4, st4⟩ := X3.getF hx hZ hown (host := "") (Or.inl (tw hw 36 rfl)) Via.refl F_capacity (g := (mkF m 98 #[.val (.ref a1), .val .null, .val (.int (0 : Int32)), .val (.int (0 : Int32)), .unset] [(.ref a1), (.int (0 : Int32))])) rfl rfl (hb hby d3_98)
  refine Go.by st4 ?_
  show Go p.tables e below _ (T4.setTop (mkF m 101 #[.val (.ref a1), .val .null, .val (.int (0 : Int32)), .val (.int (0 : Int32)), .unset] [(.int (0 : Int32)), (.int (0 : Int32))]))
  refine Go.by (fun _ => XS.icmpNo X4.here hx rfl (hb hby d3_101) rfl (teq (by decide)).2) ?_
  show Go p.tables e below _ (T4.setTop (mkF m 104 #[.val (.ref a1), .val .null, .val (.int (0 : Int32)), .val (.int (0 : Int32)), .unset] []))
  refine Go.by (fun _ => XS.iloadN X4.here hx rfl (hb hby d3_104) rfl) ?_
  show Go p.tables e below _ (T4.setTop (mkF m 105 #[.val (.ref a1), .val .null, .val (.int (0 : Int32)), .val (.int (0 : Int32)), .unset] [(.int (0 : Int32))]))
  refine Go.by (fun _ => XS.ifNo X4.here hx rfl (hb hby d3_105) rfl ((if0 _ _).trans (teq (by decide)).2)) ?_
  show Go p.tables e below _ (T4.setTop (mkF m 108 #[.val (.ref a1), .val .null, .val (.int (0 : Int32)), .val (.int (0 : Int32)), .unset] []))
  refine Go.by (X4.ldcInt hx hZ hown (tw hw 38 rfl) (g := (mkF m 108 #[.val (.ref a1), .val .null, .val (.int (0 : Int32)), .val (.int (0 : Int32)), .unset] [])) rfl (hb hby d3_108)) ?_
  show Go p.tables e below _ (T4.setTop (mkF m 110 #[.val (.ref a1), .val .null, .val (.int (0 : Int32)), .val (.int (0 : Int32)), .unset] [(.int (65536 : Int32))]))
  refine Go.by (fun _ => XS.bipush X4.here hx rfl (hb hby d3_110)) ?_
  show Go p.tables e below _ (T4.setTop (mkF m 112 #[.val (.ref a1), .val .null, .val (.int (0 : Int32)), .val (.int (0 : Int32)), .unset] [(.int (64 : Int32)), (.int (65536 : Int32))]))
  refine Go.by (fun _ => XS.aloadN X4.here hx rfl (hb hby d3_112) rfl rfl) ?_
  show Go p.tables e below _ (T4.setTop (mkF m 113 #[.val (.ref a1), .val .null, .val (.int (0 : Int32)), .val (.int (0 : Int32)), .unset] [(.ref a1), (.int (64 : Int32)), (.int (65536 : Int32))]))
  obtain ⟨T5, X5, st5⟩ := X4.getF hx hZ hown (host := "") (Or.inl (tw hw 36 rfl)) Via.refl F_capacity (g := (mkF m 113 #[.val (.ref a1), .val .null, .val (.int (0 : Int32)), .val (.int (0 : Int32)), .unset] [(.ref a1), (.int (64 : Int32)), (.int (65536 : Int32))])) rfl rfl (hb hby d3_113)
  refine Go.by st5 ?_
  show Go p.tables e below _ (T5.setTop (mkF m 116 #[.val (.ref a1), .val .null, .val (.int (0 : Int32)), .val (.int (0 : Int32)), .unset] [(.int (0 : Int32)), (.int (64 : Int32)), (.int (65536 : Int32))]))
  refine Go.by (fun _ => XS.iconst X5.here hx rfl (hb hby d3_116)) ?_
  show Go p.tables e below _ (T5.setTop (mkF m 117 #[.val (.ref a1), .val .null, .val (.int (0 : Int32)), .val (.int (0 : Int32)), .unset] [(.int (2 : Int32)), (.int (0 : Int32)), (.int (64 : Int32)), (.int (65536 : Int32))]))
  refine Go.by (fun _ => XS.imul X5.here hx rfl (hb hby d3_117) rfl) ?_
  show Go p.tables e below _ (T5.setTop (mkF m 118 #[.val (.ref a1), .val .null, .val (.int (0 : Int32)), .val (.int (0 : Int32)), .unset] [(.int (0 : Int32)), (.int (64 : Int32)), (.int (65536 : Int32))]))
  obtain ⟨v6, T6, h6, X6, q6, st6⟩ := X5.callS hx hZ (y := (⟨"java/lang/Math", "max", "(II)I"⟩ : MethodName)) hown (tw hw 39 rfl) (tw hw 40 rfl) (tw hw 41 rfl) (tw hw 42 rfl) (by decide) (rm4 l Z a0 hw [] h0 n0 Z0) (g := (mkF m 118 #[.val (.ref a1), .val .null, .val (.int (0 : Int32)), .val (.int (0 : Int32)), .unset] [(.int (0 : Int32)), (.int (64 : Int32)), (.int (65536 : Int32))])) rfl (by rw [hml]; rfl) (argsL := [(.int (64 : Int32)), (.int (0 : Int32))]) (rest := [(.int (65536 : Int32))]) (lenOf pd0 rfl) rfl (hb hby d3_118) rfl (by decide) (Nat.le_of_ble_eq_true rfl) (k' := 0) (n' := 0) rfl rfl (by decide) (by decide)
  refine Go.by st6 ?_
  obtain ⟨rfl, rfl⟩ := q6
  show Go p.tables e below _ (T6.setTop (mkF m 121 #[.val (.ref a1), .val .null, .val (.int (0 : Int32)), .val (.int (0 : Int32)), .unset] [(.int (64 : Int32)), (.int (65536 : Int32))]))
  obtain ⟨v7, T7, h7, X7, q7, st7⟩ := X6.callS hx hZ (y := (⟨"java/lang/Math", "min", "(II)I"⟩ : MethodName)) hown (tw hw 43 rfl) (tw hw 44 rfl) (tw hw 41 rfl) (tw hw 45 rfl) (by decide) (rm5 l Z a0 hw [] h0 n0 Z0) (g := (mkF m 121 #[.val (.ref a1), .val .null, .val (.int (0 : Int32)), .val (.int (0 : Int32)), .unset] [(.int (64 : Int32)), (.int (65536 : Int32))])) rfl (by rw [hml]; rfl) (argsL := [(.int (65536 : Int32)), (.int (64 : Int32))]) (rest := []) (lenOf pd0 rfl) rfl (hb hby d3_121) rfl (by decide) (Nat.le_of_ble_eq_true rfl) (k' := 0) (n' := 0) rfl rfl (by decide) (by decide)
  refine Go.by st7 ?_
  obtain ⟨rfl, rfl⟩ := q7
  show Go p.tables e below _ (T7.setTop (mkF m 124 #[.val (.ref a1), .val .null, .val (.int (0 : Int32)), .val (.int (0 : Int32)), .unset] [(.int (64 : Int32))]))
  refine Go.by (fun _ => XS.goto X7.here hx rfl (pc0 := 124) (pc' := 129) rfl (hb hby d3_124) (by decide) (by decide)) ?_
  show Go p.tables e below _ (T7.setTop (mkF m 129 #[.val (.ref a1), .val .null, .val (.int (0 : Int32)), .val (.int (0 : Int32)), .unset] [(.int (64 : Int32))]))
  refine Go.by (fun _ => XS.istore X7.here hx rfl (hb hby d3_129) rfl (l' := #[.val (.ref a1), .val .null, .val (.int (0 : Int32)), .val (.int (0 : Int32)), .val (.int (64 : Int32))]) rfl) ?_
  show Go p.tables e below _ (T7.setTop (mkF m 131 #[.val (.ref a1), .val .null, .val (.int (0 : Int32)), .val (.int (0 : Int32)), .val (.int (64 : Int32))] []))
  refine Go.by (fun _ => XS.aloadN X7.here hx rfl (hb hby d3_131) rfl rfl) ?_
  show Go p.tables e below _ (T7.setTop (mkF m 132 #[.val (.ref a1), .val .null, .val (.int (0 : Int32)), .val (.int (0 : Int32)), .val (.int (64 : Int32))] [(.ref a1)]))
  obtain ⟨T8, X8, st8⟩ := X7.getF hx hZ hown (host := "") (Or.inl (tw hw 12 rfl)) Via.refl F_longs (g := (mkF m 132 #[.val (.ref a1), .val .null, .val (.int (0 : Int32)), .val (.int (0 : Int32)), .val (.int (64 : Int32))] [(.ref a1)])) rfl rfl (hb hby d3_132)
  refine Go.by st8 ?_
  show Go p.tables e below _ (T8.setTop (mkF m 135 #[.val (.ref a1), .val .null, .val (.int (0 : Int32)), .val (.int (0 : Int32)), .val (.int (64 : Int32))] [(.ref oL)]))
  refine Go.by (fun _ => XS.iloadN X8.here hx rfl (hb hby d3_135) rfl) ?_
  show Go p.tables e below _ (T8.setTop (mkF m 136 #[.val (.ref a1), .val .null, .val (.int (0 : Int32)), .val (.int (0 : Int32)), .val (.int (64 : Int32))] [(.int (0 : Int32)), (.ref oL)]))
  refine Go.by (fun _ => XS.aloadN X8.here hx rfl (hb hby d3_136) rfl rfl) ?_
  show Go p.tables e below _ (T8.setTop (mkF m 137 #[.val (.ref a1), .val .null, .val (.int (0 : Int32)), .val (.int (0 : Int32)), .val (.int (64 : Int32))] [(.ref a1), (.int (0 : Int32)), (.ref oL)]))
  obtain ⟨T9, X9, st9⟩ := X8.getF hx hZ hown (host := "") (Or.inl (tw hw 12 rfl)) Via.refl F_longs (g := (mkF m 137 #[.val (.ref a1), .val .null, .val (.int (0 : Int32)), .val (.int (0 : Int32)), .val (.int (64 : Int32))] [(.ref a1), (.int (0 : Int32)), (.ref oL)])) rfl rfl (hb hby d3_137)
  refine Go.by st9 ?_
  show Go p.tables e below _ (T9.setTop (mkF m 140 #[.val (.ref a1), .val .null, .val (.int (0 : Int32)), .val (.int (0 : Int32)), .val (.int (64 : Int32))] [(.ref oL), (.int (0 : Int32)), (.ref oL)]))
  refine Go.by (fun _ => XS.iloadN X9.here hx rfl (hb hby d3_140) rfl) ?_
  show Go p.tables e below _ (T9.setTop (mkF m 141 #[.val (.ref a1), .val .null, .val (.int (0 : Int32)), .val (.int (0 : Int32)), .val (.int (64 : Int32))] [(.int (0 : Int32)), (.ref oL), (.int (0 : Int32)), (.ref oL)]))
  refine Go.by (X9.ldA hx hZ V_oL rfl (by decide) (i := 0) rfl (by decide) (v := .null) rfl (g := (mkF m 141 #[.val (.ref a1), .val .null, .val (.int (0 : Int32)), .val (.int (0 : Int32)), .val (.int (64 : Int32))] [(.int (0 : Int32)), (.ref oL), (.int (0 : Int32)), (.ref oL)])) rfl rfl (hb hby d3_141)) ?_
  show Go p.tables e below _ (T9.setTop (mkF m 142 #[.val (.ref a1), .val .null, .val (.int (0 : Int32)), .val (.int (0 : Int32)), .val (.int (64 : Int32))] [.null, (.int (0 : Int32)), (.ref oL)]))
  refine Go.by (fun _ => XS.iload X9.here hx rfl (hb hby d3_142) rfl) ?_
  show Go p.tables e below _ (T9.setTop (mkF m 144 #[.val (.ref a1), .val .null, .val (.int (0 : Int32)), .val (.int (0 : Int32)), .val (.int (64 : Int32))] [(.int (64 : Int32)), .null, (.int (0 : Int32)), (.ref oL)]))
  refine Go.by (fun _ => XS.aloadN X9.here hx rfl (hb hby d3_144) rfl rfl) ?_
  show Go p.tables e below _ (T9.setTop (mkF m 145 #[.val (.ref a1), .val .null, .val (.int (0 : Int32)), .val (.int (0 : Int32)), .val (.int (64 : Int32))] [(.ref a1), (.int (64 : Int32)), .null, (.int (0 : Int32)), (.ref oL)]))
  obtain ⟨T10, X10, st10⟩ := X9.getF hx hZ hown (host := "") (Or.inl (tw hw 22 rfl)) Via.refl F_longsPerRow (g := (mkF m 145 #[.val (.ref a1), .val .null, .val (.int (0 : Int32)), .val (.int (0 : Int32)), .val (.int (64 : Int32))] [(.ref a1), (.int (64 : Int32)), .null, (.int (0 : Int32)), (.ref oL)])) rfl rfl (hb hby d3_145)
  refine Go.by st10 ?_
  show Go p.tables e below _ (T10.setTop (mkF m 148 #[.val (.ref a1), .val .null, .val (.int (0 : Int32)), .val (.int (0 : Int32)), .val (.int (64 : Int32))] [(.int lp), (.int (64 : Int32)), .null, (.int (0 : Int32)), (.ref oL)]))
  refine Go.by (fun _ => XS.imul X10.here hx rfl (hb hby d3_148) rfl) ?_
  show Go p.tables e below _ (T10.setTop (mkF m 149 #[.val (.ref a1), .val .null, .val (.int (0 : Int32)), .val (.int (0 : Int32)), .val (.int (64 : Int32))] [(.int ((64 : Int32) * lp)), .null, (.int (0 : Int32)), (.ref oL)]))
  obtain ⟨v11, T11, h11, X11, q11, st11⟩ := X10.callS hx hZ (y := (⟨"com/example/spotline/spotline/engine/Table", "grow", "([JI)[J"⟩ : MethodName)) hown (tw hw 46 rfl) (tw hw 47 rfl) (tw hw 3 rfl) (tw hw 48 rfl) (by decide) (rm6 l Z a0 hw [] ((64 : Int32) * lp) h0 n0 Z0 hL.1 hL.2) (g := (mkF m 149 #[.val (.ref a1), .val .null, .val (.int (0 : Int32)), .val (.int (0 : Int32)), .val (.int (64 : Int32))] [(.int ((64 : Int32) * lp)), .null, (.int (0 : Int32)), (.ref oL)])) rfl (by rw [hml]; rfl) (argsL := [.null, (.int ((64 : Int32) * lp))]) (rest := [(.int (0 : Int32)), (.ref oL)]) (lenOf pd1 rfl) rfl (hb hby d3_149) rfl (by decide) (Nat.le_of_ble_eq_true rfl) (k' := 1) (n' := 192) rfl rfl (by decide) (by decide)
  refine Go.by st11 ?_
  obtain ⟨d11, kc11, rfl, sd11, K11, Ex11, V11⟩ := q11
  have g_d11 : n0 ≤ d11 := Nat.le_trans Z0 sd11
  have sz_d11 : h0.size ≤ d11 := Nat.le_trans K0.1 sd11
  have ne_a1_d11 : a1 ≠ d11 := Nat.ne_of_lt (Nat.lt_of_lt_of_le E_a1.lt sd11)
  have ne_oL_d11 : oL ≠ d11 := Nat.ne_of_lt (Nat.lt_of_lt_of_le V_oL.lt sd11)
  have ne_oI_d11 : oI ≠ d11 := Nat.ne_of_lt (Nat.lt_of_lt_of_le V_oI.lt sd11)
  have ne_oO_d11 : oO ≠ d11 := Nat.ne_of_lt (Nat.lt_of_lt_of_le V_oO.lt sd11)
  have f12_109 := E_a1.ext (keep_ext K11)
  have f12_110 := F_longs.ext (keep_ext K11)
  have f12_111 := F_ints.ext (keep_ext K11)
  have f12_112 := F_objects.ext (keep_ext K11)
  have f12_113 := F_longsPerRow.ext (keep_ext K11)
  have f12_114 := F_intsPerRow.ext (keep_ext K11)
  have f12_115 := F_objectsPerRow.ext (keep_ext K11)
  have f12_116 := F_size.ext (keep_ext K11)
  have f12_117 := F_capacity.ext (keep_ext K11)
  have f12_118 := Avf.ext V_oL (keep_ext K11)
  have f12_119 := Avf.ext V_oI (keep_ext K11)
  have f12_120 := Avf.ext V_oO (keep_ext K11)
  have f12_121 := K0.ext (keep_ext K11)
  have Zs12 : n0 ≤ h11.size := Nat.le_trans Z0 (keep_ext K11).1
  show Go p.tables e below _ (T11.setTop (mkF m 152 #[.val (.ref a1), .val .null, .val (.int (0 : Int32)), .val (.int (0 : Int32)), .val (.int (64 : Int32))] [(.ref d11), (.int (0 : Int32)), (.ref oL)]))
  obtain ⟨T13, h13, X13, W13, V13, st13⟩ := X11.stR hx hZ f12_118 g_o.1 rfl rfl (sto_avf f12_118 Ov_oL (Ins.self Ex11)) (by decide) (i := 0) rfl (by decide) (g := (mkF m 152 #[.val (.ref a1), .val .null, .val (.int (0 : Int32)), .val (.int (0 : Int32)), .val (.int (64 : Int32))] [(.ref d11), (.int (0 : Int32)), (.ref oL)])) rfl rfl (hb hby d3_152)
  have f14_125 := f12_109.wr W13
  have f14_126 := f12_110.other W13 (Or.inl nn.1)
  have f14_127 := f12_111.other W13 (Or.inl nn.1)
  have f14_128 := f12_112.other W13 (Or.inl nn.1)
  have f14_129 := f12_113.other W13 (Or.inl nn.1)
  have f14_130 := f12_114.other W13 (Or.inl nn.1)
  have f14_131 := f12_115.other W13 (Or.inl nn.1)
  have f14_132 := f12_116.other W13 (Or.inl nn.1)
  have f14_133 := f12_117.other W13 (Or.inl nn.1)
  have f14_134 := Avf.other f12_119 W13 (Ne.symm nn.2.2.2.1)
  have f14_135 := Avf.other f12_120 W13 (Ne.symm nn.2.2.2.2.1)
  have f14_136 := f12_121.wr W13 (Or.inl (List.mem_of_getElem? (i := 1) rfl))
  have f14_137 := Ex11.wr W13
  have f14_138 := Avf.other V11 W13 (Ne.symm ne_oL_d11)
  have Zs14 : n0 ≤ h13.size := by rw [W13.size]; exact Zs12
  refine Go.by st13 ?_
  show Go p.tables e below _ (T13.setTop (mkF m 153 #[.val (.ref a1), .val .null, .val (.int (0 : Int32)), .val (.int (0 : Int32)), .val (.int (64 : Int32))] []))
  refine Go.by (fun _ => XS.aloadN X13.here hx rfl (hb hby d3_153) rfl rfl) ?_
  show Go p.tables e below _ (T13.setTop (mkF m 154 #[.val (.ref a1), .val .null, .val (.int (0 : Int32)), .val (.int (0 : Int32)), .val (.int (64 : Int32))] [(.ref a1)]))
  obtain ⟨T15, X15, st15⟩ := X13.getF hx hZ hown (host := "") (Or.inl (tw hw 16 rfl)) Via.refl f14_127 (g := (mkF m 154 #[.val (.ref a1), .val .null, .val (.int (0 : Int32)), .val (.int (0 : Int32)), .val (.int (64 : Int32))] [(.ref a1)])) rfl rfl (hb hby d3_154)
  refine Go.by st15 ?_
  show Go p.tables e below _ (T15.setTop (mkF m 157 #[.val (.ref a1), .val .null, .val (.int (0 : Int32)), .val (.int (0 : Int32)), .val (.int (64 : Int32))] [(.ref oI)]))
  refine Go.by (fun _ => XS.iloadN X15.here hx rfl (hb hby d3_157) rfl) ?_
  show Go p.tables e below _ (T15.setTop (mkF m 158 #[.val (.ref a1), .val .null, .val (.int (0 : Int32)), .val (.int (0 : Int32)), .val (.int (64 : Int32))] [(.int (0 : Int32)), (.ref oI)]))
  refine Go.by (fun _ => XS.aloadN X15.here hx rfl (hb hby d3_158) rfl rfl) ?_
  show Go p.tables e below _ (T15.setTop (mkF m 159 #[.val (.ref a1), .val .null, .val (.int (0 : Int32)), .val (.int (0 : Int32)), .val (.int (64 : Int32))] [(.ref a1), (.int (0 : Int32)), (.ref oI)]))
  obtain ⟨T16, X16, st16⟩ := X15.getF hx hZ hown (host := "") (Or.inl (tw hw 16 rfl)) Via.refl f14_127 (g := (mkF m 159 #[.val (.ref a1), .val .null, .val (.int (0 : Int32)), .val (.int (0 : Int32)), .val (.int (64 : Int32))] [(.ref a1), (.int (0 : Int32)), (.ref oI)])) rfl rfl (hb hby d3_159)
  refine Go.by st16 ?_
  show Go p.tables e below _ (T16.setTop (mkF m 162 #[.val (.ref a1), .val .null, .val (.int (0 : Int32)), .val (.int (0 : Int32)), .val (.int (64 : Int32))] [(.ref oI), (.int (0 : Int32)), (.ref oI)]))
  refine Go.by (fun _ => XS.iloadN X16.here hx rfl (hb hby d3_162) rfl) ?_
  show Go p.tables e below _ (T16.setTop (mkF m 163 #[.val (.ref a1), .val .null, .val (.int (0 : Int32)), .val (.int (0 : Int32)), .val (.int (64 : Int32))] [(.int (0 : Int32)), (.ref oI), (.int (0 : Int32)), (.ref oI)]))
  refine Go.by (X16.ldA hx hZ f14_134 rfl (by decide) (i := 0) rfl (by decide) (v := .null) rfl (g := (mkF m 163 #[.val (.ref a1), .val .null, .val (.int (0 : Int32)), .val (.int (0 : Int32)), .val (.int (64 : Int32))] [(.int (0 : Int32)), (.ref oI), (.int (0 : Int32)), (.ref oI)])) rfl rfl (hb hby d3_163)) ?_
  show Go p.tables e below _ (T16.setTop (mkF m 164 #[.val (.ref a1), .val .null, .val (.int (0 : Int32)), .val (.int (0 : Int32)), .val (.int (64 : Int32))] [.null, (.int (0 : Int32)), (.ref oI)]))
  refine Go.by (fun _ => XS.iload X16.here hx rfl (hb hby d3_164) rfl) ?_
  show Go p.tables e below _ (T16.setTop (mkF m 166 #[.val (.ref a1), .val .null, .val (.int (0 : Int32)), .val (.int (0 : Int32)), .val (.int (64 : Int32))] [(.int (64 : Int32)), .null, (.int (0 : Int32)), (.ref oI)]))
  refine Go.by (fun _ => XS.aloadN X16.here hx rfl (hb hby d3_166) rfl rfl) ?_
  show Go p.tables e below _ (T16.setTop (mkF m 167 #[.val (.ref a1), .val .null, .val (.int (0 : Int32)), .val (.int (0 : Int32)), .val (.int (64 : Int32))] [(.ref a1), (.int (64 : Int32)), .null, (.int (0 : Int32)), (.ref oI)]))
  obtain ⟨T17, X17, st17⟩ := X16.getF hx hZ hown (host := "") (Or.inl (tw hw 24 rfl)) Via.refl f14_130 (g := (mkF m 167 #[.val (.ref a1), .val .null, .val (.int (0 : Int32)), .val (.int (0 : Int32)), .val (.int (64 : Int32))] [(.ref a1), (.int (64 : Int32)), .null, (.int (0 : Int32)), (.ref oI)])) rfl rfl (hb hby d3_167)
  refine Go.by st17 ?_
  show Go p.tables e below _ (T17.setTop (mkF m 170 #[.val (.ref a1), .val .null, .val (.int (0 : Int32)), .val (.int (0 : Int32)), .val (.int (64 : Int32))] [(.int ip), (.int (64 : Int32)), .null, (.int (0 : Int32)), (.ref oI)]))
  refine Go.by (fun _ => XS.imul X17.here hx rfl (hb hby d3_170) rfl) ?_
  show Go p.tables e below _ (T17.setTop (mkF m 171 #[.val (.ref a1), .val .null, .val (.int (0 : Int32)), .val (.int (0 : Int32)), .val (.int (64 : Int32))] [(.int ((64 : Int32) * ip)), .null, (.int (0 : Int32)), (.ref oI)]))
  obtain ⟨v18, T18, h18, X18, q18, st18⟩ := X17.callS hx hZ (y := (⟨"com/example/spotline/spotline/engine/Table", "grow", "([II)[I"⟩ : MethodName)) hown (tw hw 51 rfl) (tw hw 52 rfl) (tw hw 3 rfl) (tw hw 53 rfl) (by decide) (rm7 l Z a0 hw [] ((64 : Int32) * ip) h13 n0 Zs14 hI.1 hI.2) (g := (mkF m 171 #[.val (.ref a1), .val .null, .val (.int (0 : Int32)), .val (.int (0 : Int32)), .val (.int (64 : Int32))] [(.int ((64 : Int32) * ip)), .null, (.int (0 : Int32)), (.ref oI)])) rfl (by rw [hml]; rfl) (argsL := [.null, (.int ((64 : Int32) * ip))]) (rest := [(.int (0 : Int32)), (.ref oI)]) (lenOf pd2 rfl) rfl (hb hby d3_171) rfl (by decide) (Nat.le_of_ble_eq_true rfl) (k' := 2) (n' := 384) rfl rfl (by decide) (by decide)
  refine Go.by st18 ?_
  obtain ⟨d18, kc18, rfl, sd18, K18, Ex18, V18⟩ := q18
  have g_d18 : n0 ≤ d18 := Nat.le_trans Zs14 sd18
  have sz_d18 : h0.size ≤ d18 := Nat.le_trans f14_136.1 sd18
  have ne_a1_d18 : a1 ≠ d18 := Nat.ne_of_lt (Nat.lt_of_lt_of_le f14_125.lt sd18)
  have ne_oL_d18 : oL ≠ d18 := Nat.ne_of_lt (Nat.lt_of_lt_of_le V13.lt sd18)
  have ne_oI_d18 : oI ≠ d18 := Nat.ne_of_lt (Nat.lt_of_lt_of_le f14_134.lt sd18)
  have ne_oO_d18 : oO ≠ d18 := Nat.ne_of_lt (Nat.lt_of_lt_of_le f14_135.lt sd18)
  have ne_d11_d18 : d11 ≠ d18 := Nat.ne_of_lt (Nat.lt_of_lt_of_le f14_137.lt sd18)
  have f19_177 := f14_125.ext (keep_ext K18)
  have f19_178 := f14_126.ext (keep_ext K18)
  have f19_179 := f14_127.ext (keep_ext K18)
  have f19_180 := f14_128.ext (keep_ext K18)
  have f19_181 := f14_129.ext (keep_ext K18)
  have f19_182 := f14_130.ext (keep_ext K18)
  have f19_183 := f14_131.ext (keep_ext K18)
  have f19_184 := f14_132.ext (keep_ext K18)
  have f19_185 := f14_133.ext (keep_ext K18)
  have f19_186 := Avf.ext V13 (keep_ext K18)
  have f19_187 := Avf.ext f14_134 (keep_ext K18)
  have f19_188 := Avf.ext f14_135 (keep_ext K18)
  have f19_189 := f14_136.ext (keep_ext K18)
  have f19_190 := f14_137.ext (keep_ext K18)
  have f19_191 := Avf.ext f14_138 (keep_ext K18)
  have Zs19 : n0 ≤ h18.size := Nat.le_trans Zs14 (keep_ext K18).1
  show Go p.tables e below _ (T18.setTop (mkF m 174 #[.val (.ref a1), .val .null, .val (.int (0 : Int32)), .val (.int (0 : Int32)), .val (.int (64 : Int32))] [(.ref d18), (.int (0 : Int32)), (.ref oI)]))
  obtain ⟨T20, h20, X20, W20, V20, st20⟩ := X18.stR hx hZ f19_187 g_o.2.1 rfl rfl (sto_avf f19_187 Ov_oI (Ins.self Ex18)) (by decide) (i := 0) rfl (by decide) (g := (mkF m 174 #[.val (.ref a1), .val .null, .val (.int (0 : Int32)), .val (.int (0 : Int32)), .val (.int (64 : Int32))] [(.ref d18), (.int (0 : Int32)), (.ref oI)])) rfl rfl (hb hby d3_174)
  have f21_195 := f19_177.wr W20
  have f21_196 := f19_178.other W20 (Or.inl nn.2.1)
  have f21_197 := f19_179.other W20 (Or.inl nn.2.1)
  have f21_198 := f19_180.other W20 (Or.inl nn.2.1)
  have f21_199 := f19_181.other W20 (Or.inl nn.2.1)
  have f21_200 := f19_182.other W20 (Or.inl nn.2.1)
  have f21_201 := f19_183.other W20 (Or.inl nn.2.1)
  have f21_202 := f19_184.other W20 (Or.inl nn.2.1)
  have f21_203 := f19_185.other W20 (Or.inl nn.2.1)
  have f21_204 := Avf.other f19_186 W20 nn.2.2.2.1
  have f21_205 := Avf.other f19_188 W20 (Ne.symm nn.2.2.2.2.2)
  have f21_206 := f19_189.wr W20 (Or.inl (List.mem_of_getElem? (i := 2) rfl))
  have f21_207 := f19_190.wr W20
  have f21_208 := Avf.other f19_191 W20 (Ne.symm ne_oI_d11)
  have f21_209 := Ex18.wr W20
  have f21_210 := Avf.other V18 W20 (Ne.symm ne_oI_d18)
  have Zs21 : n0 ≤ h20.size := by rw [W20.size]; exact Zs19
  refine Go.by st20 ?_
  show Go p.tables e below _ (T20.setTop (mkF m 175 #[.val (.ref a1), .val .null, .val (.int (0 : Int32)), .val (.int (0 : Int32)), .val (.int (64 : Int32))] []))
  refine Go.by (fun _ => XS.aloadN X20.here hx rfl (hb hby d3_175) rfl rfl) ?_
  show Go p.tables e below _ (T20.setTop (mkF m 176 #[.val (.ref a1), .val .null, .val (.int (0 : Int32)), .val (.int (0 : Int32)), .val (.int (64 : Int32))] [(.ref a1)]))
  obtain ⟨T22, X22, st22⟩ := X20.getF hx hZ hown (host := "") (Or.inl (tw hw 20 rfl)) Via.refl f21_198 (g := (mkF m 176 #[.val (.ref a1), .val .null, .val (.int (0 : Int32)), .val (.int (0 : Int32)), .val (.int (64 : Int32))] [(.ref a1)])) rfl rfl (hb hby d3_176)
  refine Go.by st22 ?_
  show Go p.tables e below _ (T22.setTop (mkF m 179 #[.val (.ref a1), .val .null, .val (.int (0 : Int32)), .val (.int (0 : Int32)), .val (.int (64 : Int32))] [(.ref oO)]))
  refine Go.by (fun _ => XS.iloadN X22.here hx rfl (hb hby d3_179) rfl) ?_
  show Go p.tables e below _ (T22.setTop (mkF m 180 #[.val (.ref a1), .val .null, .val (.int (0 : Int32)), .val (.int (0 : Int32)), .val (.int (64 : Int32))] [(.int (0 : Int32)), (.ref oO)]))
  refine Go.by (fun _ => XS.aloadN X22.here hx rfl (hb hby d3_180) rfl rfl) ?_
  show Go p.tables e below _ (T22.setTop (mkF m 181 #[.val (.ref a1), .val .null, .val (.int (0 : Int32)), .val (.int (0 : Int32)), .val (.int (64 : Int32))] [(.ref a1), (.int (0 : Int32)), (.ref oO)]))
  obtain ⟨T23, X23, st23⟩ := X22.getF hx hZ hown (host := "") (Or.inl (tw hw 20 rfl)) Via.refl f21_198 (g := (mkF m 181 #[.val (.ref a1), .val .null, .val (.int (0 : Int32)), .val (.int (0 : Int32)), .val (.int (64 : Int32))] [(.ref a1), (.int (0 : Int32)), (.ref oO)])) rfl rfl (hb hby d3_181)
  refine Go.by st23 ?_
  show Go p.tables e below _ (T23.setTop (mkF m 184 #[.val (.ref a1), .val .null, .val (.int (0 : Int32)), .val (.int (0 : Int32)), .val (.int (64 : Int32))] [(.ref oO), (.int (0 : Int32)), (.ref oO)]))
  refine Go.by (fun _ => XS.iloadN X23.here hx rfl (hb hby d3_184) rfl) ?_
  show Go p.tables e below _ (T23.setTop (mkF m 185 #[.val (.ref a1), .val .null, .val (.int (0 : Int32)), .val (.int (0 : Int32)), .val (.int (64 : Int32))] [(.int (0 : Int32)), (.ref oO), (.int (0 : Int32)), (.ref oO)]))
  refine Go.by (X23.ldA hx hZ f21_205 rfl (by decide) (i := 0) rfl (by decide) (v := .null) rfl (g := (mkF m 185 #[.val (.ref a1), .val .null, .val (.int (0 : Int32)), .val (.int (0 : Int32)), .val (.int (64 : Int32))] [(.int (0 : Int32)), (.ref oO), (.int (0 : Int32)), (.ref oO)])) rfl rfl (hb hby d3_185)) ?_
  show Go p.tables e below _ (T23.setTop (mkF m 186 #[.val (.ref a1), .val .null, .val (.int (0 : Int32)), .val (.int (0 : Int32)), .val (.int (64 : Int32))] [.null, (.int (0 : Int32)), (.ref oO)]))
  refine Go.by (fun _ => XS.ifnonnullNo X23.here hx rfl (hb hby d3_186) rfl) ?_
  show Go p.tables e below _ (T23.setTop (mkF m 189 #[.val (.ref a1), .val .null, .val (.int (0 : Int32)), .val (.int (0 : Int32)), .val (.int (64 : Int32))] [(.int (0 : Int32)), (.ref oO)]))
  refine Go.by (fun _ => XS.iload X23.here hx rfl (hb hby d3_189) rfl) ?_
  show Go p.tables e below _ (T23.setTop (mkF m 191 #[.val (.ref a1), .val .null, .val (.int (0 : Int32)), .val (.int (0 : Int32)), .val (.int (64 : Int32))] [(.int (64 : Int32)), (.int (0 : Int32)), (.ref oO)]))
  refine Go.by (fun _ => XS.aloadN X23.here hx rfl (hb hby d3_191) rfl rfl) ?_
  show Go p.tables e below _ (T23.setTop (mkF m 192 #[.val (.ref a1), .val .null, .val (.int (0 : Int32)), .val (.int (0 : Int32)), .val (.int (64 : Int32))] [(.ref a1), (.int (64 : Int32)), (.int (0 : Int32)), (.ref oO)]))
  obtain ⟨T24, X24, st24⟩ := X23.getF hx hZ hown (host := "") (Or.inl (tw hw 26 rfl)) Via.refl f21_201 (g := (mkF m 192 #[.val (.ref a1), .val .null, .val (.int (0 : Int32)), .val (.int (0 : Int32)), .val (.int (64 : Int32))] [(.ref a1), (.int (64 : Int32)), (.int (0 : Int32)), (.ref oO)])) rfl rfl (hb hby d3_192)
  refine Go.by st24 ?_
  show Go p.tables e below _ (T24.setTop (mkF m 195 #[.val (.ref a1), .val .null, .val (.int (0 : Int32)), .val (.int (0 : Int32)), .val (.int (64 : Int32))] [(.int (0 : Int32)), (.int (64 : Int32)), (.int (0 : Int32)), (.ref oO)]))
  refine Go.by (fun _ => XS.imul X24.here hx rfl (hb hby d3_195) rfl) ?_
  show Go p.tables e below _ (T24.setTop (mkF m 196 #[.val (.ref a1), .val .null, .val (.int (0 : Int32)), .val (.int (0 : Int32)), .val (.int (64 : Int32))] [(.int (0 : Int32)), (.int (0 : Int32)), (.ref oO)]))
  obtain ⟨T25, h25, kc25, b25, X25, g25, E25, A25, V25, Ov25, st25⟩ := X24.newR hx hZ hown (tw hw 56 rfl) (tw hw 57 rfl) (g := (mkF m 196 #[.val (.ref a1), .val .null, .val (.int (0 : Int32)), .val (.int (0 : Int32)), .val (.int (64 : Int32))] [(.int (0 : Int32)), (.int (0 : Int32)), (.ref oO)])) rfl (hb hby d3_196) rfl (by decide) (sz := 0) (cap := 0) (k' := 3) (n' := 384) rfl (Nat.le_refl _) (by decide) rfl rfl (by decide) (by decide) (ad := "[Ljava/lang/Object;") (by decide)
  have g_b25 : n0 ≤ b25 := by rw [g25]; exact Zs21
  have sz_b25 : h0.size ≤ b25 := by rw [g25]; exact f21_206.1
  have ne_a1_b25 : a1 ≠ b25 := Nat.ne_of_lt (by rw [g25]; exact f21_195.lt)
  have ne_oL_b25 : oL ≠ b25 := Nat.ne_of_lt (by rw [g25]; exact f21_204.lt)
  have ne_oI_b25 : oI ≠ b25 := Nat.ne_of_lt (by rw [g25]; exact V20.lt)
  have ne_oO_b25 : oO ≠ b25 := Nat.ne_of_lt (by rw [g25]; exact f21_205.lt)
  have ne_d11_b25 : d11 ≠ b25 := Nat.ne_of_lt (by rw [g25]; exact f21_207.lt)
  have ne_d18_b25 : d18 ≠ b25 := Nat.ne_of_lt (by rw [g25]; exact f21_209.lt)
  have f26_250 := f21_195.ext E25
  have f26_251 := f21_196.ext E25
  have f26_252 := f21_197.ext E25
  have f26_253 := f21_198.ext E25
  have f26_254 := f21_199.ext E25
  have f26_255 := f21_200.ext E25
  have f26_256 := f21_201.ext E25
  have f26_257 := f21_202.ext E25
  have f26_258 := f21_203.ext E25
  have f26_259 := Avf.ext f21_204 E25
  have f26_260 := Avf.ext V20 E25
  have f26_261 := Avf.ext f21_205 E25
  have f26_262 := f21_206.ext E25
  have f26_263 := f21_207.ext E25
  have f26_264 := Avf.ext f21_208 E25
  have f26_265 := f21_209.ext E25
  have f26_266 := Avf.ext f21_210 E25
  have Zs26 : n0 ≤ h25.size := Nat.le_trans Zs21 E25.1
  refine Go.by st25 ?_
  show Go p.tables e below _ (T25.setTop (mkF m 199 #[.val (.ref a1), .val .null, .val (.int (0 : Int32)), .val (.int (0 : Int32)), .val (.int (64 : Int32))] [(.ref b25), (.int (0 : Int32)), (.ref oO)]))
  refine Go.by (fun _ => XS.goto X25.here hx rfl (pc0 := 199) (pc' := 218) rfl (hb hby d3_199) (by decide) (by decide)) ?_
  show Go p.tables e below _ (T25.setTop (mkF m 218 #[.val (.ref a1), .val .null, .val (.int (0 : Int32)), .val (.int (0 : Int32)), .val (.int (64 : Int32))] [(.ref b25), (.int (0 : Int32)), (.ref oO)]))
  obtain ⟨T27, h27, X27, W27, V27, st27⟩ := X25.stR hx hZ f26_261 g_o.2.2 rfl rfl (sto_avf f26_261 Ov_oO (Ins.self A25)) (by decide) (i := 0) rfl (by decide) (g := (mkF m 218 #[.val (.ref a1), .val .null, .val (.int (0 : Int32)), .val (.int (0 : Int32)), .val (.int (64 : Int32))] [(.ref b25), (.int (0 : Int32)), (.ref oO)])) rfl rfl (hb hby d3_218)
  have f28_273 := f26_250.wr W27
  have f28_274 := f26_251.other W27 (Or.inl nn.2.2.1)
  have f28_275 := f26_252.other W27 (Or.inl nn.2.2.1)
  have f28_276 := f26_253.other W27 (Or.inl nn.2.2.1)
  have f28_277 := f26_254.other W27 (Or.inl nn.2.2.1)
  have f28_278 := f26_255.other W27 (Or.inl nn.2.2.1)
  have f28_279 := f26_256.other W27 (Or.inl nn.2.2.1)
  have f28_280 := f26_257.other W27 (Or.inl nn.2.2.1)
  have f28_281 := f26_258.other W27 (Or.inl nn.2.2.1)
  have f28_282 := Avf.other f26_259 W27 nn.2.2.2.2.1
  have f28_283 := Avf.other f26_260 W27 nn.2.2.2.2.2
  have f28_284 := f26_262.wr W27 (Or.inl (List.mem_of_getElem? (i := 3) rfl))
  have f28_285 := f26_263.wr W27
  have f28_286 := Avf.other f26_264 W27 (Ne.symm ne_oO_d11)
  have f28_287 := f26_265.wr W27
  have f28_288 := Avf.other f26_266 W27 (Ne.symm ne_oO_d18)
  have f28_289 := A25.wr W27
  have f28_290 := Avf.other V25 W27 (Ne.symm ne_oO_b25)
  have Zs28 : n0 ≤ h27.size := by rw [W27.size]; exact Zs26
  refine Go.by st27 ?_
  show Go p.tables e below _ (T27.setTop (mkF m 219 #[.val (.ref a1), .val .null, .val (.int (0 : Int32)), .val (.int (0 : Int32)), .val (.int (64 : Int32))] []))
  refine Go.by (fun _ => XS.aloadN X27.here hx rfl (hb hby d3_219) rfl rfl) ?_
  show Go p.tables e below _ (T27.setTop (mkF m 220 #[.val (.ref a1), .val .null, .val (.int (0 : Int32)), .val (.int (0 : Int32)), .val (.int (64 : Int32))] [(.ref a1)]))
  refine Go.by (fun _ => XS.iloadN X27.here hx rfl (hb hby d3_220) rfl) ?_
  show Go p.tables e below _ (T27.setTop (mkF m 221 #[.val (.ref a1), .val .null, .val (.int (0 : Int32)), .val (.int (0 : Int32)), .val (.int (64 : Int32))] [(.int (0 : Int32)), (.ref a1)]))
  refine Go.by (X27.ldcInt hx hZ hown (tw hw 38 rfl) (g := (mkF m 221 #[.val (.ref a1), .val .null, .val (.int (0 : Int32)), .val (.int (0 : Int32)), .val (.int (64 : Int32))] [(.int (0 : Int32)), (.ref a1)])) rfl (hb hby d3_221)) ?_
  show Go p.tables e below _ (T27.setTop (mkF m 223 #[.val (.ref a1), .val .null, .val (.int (0 : Int32)), .val (.int (0 : Int32)), .val (.int (64 : Int32))] [(.int (65536 : Int32)), (.int (0 : Int32)), (.ref a1)]))
  refine Go.by (fun _ => XS.imul X27.here hx rfl (hb hby d3_223) rfl) ?_
  show Go p.tables e below _ (T27.setTop (mkF m 224 #[.val (.ref a1), .val .null, .val (.int (0 : Int32)), .val (.int (0 : Int32)), .val (.int (64 : Int32))] [(.int (0 : Int32)), (.ref a1)]))
  refine Go.by (fun _ => XS.iload X27.here hx rfl (hb hby d3_224) rfl) ?_
  show Go p.tables e below _ (T27.setTop (mkF m 226 #[.val (.ref a1), .val .null, .val (.int (0 : Int32)), .val (.int (0 : Int32)), .val (.int (64 : Int32))] [(.int (64 : Int32)), (.int (0 : Int32)), (.ref a1)]))
  refine Go.by (fun _ => XS.iadd X27.here hx rfl (hb hby d3_226) rfl) ?_
  show Go p.tables e below _ (T27.setTop (mkF m 227 #[.val (.ref a1), .val .null, .val (.int (0 : Int32)), .val (.int (0 : Int32)), .val (.int (64 : Int32))] [(.int (64 : Int32)), (.ref a1)]))
  obtain ⟨T29, h29, X29, W29, st29⟩ := X27.putF hx hZ hown (host := "") (Or.inl (tw hw 36 rfl)) Via.refl f28_281 f28_273 g_a1 (Or.inl (tw hw 37 rfl)) (tw hw 2 rfl) (ty := .int) (by decide) rfl rfl (g := (mkF m 227 #[.val (.ref a1), .val .null, .val (.int (0 : Int32)), .val (.int (0 : Int32)), .val (.int (64 : Int32))] [(.int (64 : Int32)), (.ref a1)])) rfl rfl (hb hby d3_227)
  have Fw29 := f28_281.same W29
  have f30_308 := f28_273.wr W29
  have f30_309 := f28_274.other W29 (Or.inr (slot_ne (Or.inl (tw hw 13 rfl)) (Or.inl (tw hw 37 rfl)) (by decide) (t := (.array (.array .long))) (t' := .int) (by decide) (by decide)))
  have f30_310 := f28_275.other W29 (Or.inr (slot_ne (Or.inl (tw hw 17 rfl)) (Or.inl (tw hw 37 rfl)) (by decide) (t := (.array (.array .int))) (t' := .int) (by decide) (by decide)))
  have f30_311 := f28_276.other W29 (Or.inr (slot_ne (Or.inl (tw hw 21 rfl)) (Or.inl (tw hw 37 rfl)) (by decide) (t := (.array (.array (.object "java/lang/Object")))) (t' := .int) (by decide) (by decide)))
  have f30_312 := f28_277.other W29 (Or.inr (slot_ne (Or.inr (tw hw 23 rfl)) (Or.inl (tw hw 37 rfl)) (by decide) (t := .int) (t' := .int) (by decide) (by decide)))
  have f30_313 := f28_278.other W29 (Or.inr (slot_ne (Or.inr (tw hw 25 rfl)) (Or.inl (tw hw 37 rfl)) (by decide) (t := .int) (t' := .int) (by decide) (by decide)))
  have f30_314 := f28_279.other W29 (Or.inr (slot_ne (Or.inr (tw hw 27 rfl)) (Or.inl (tw hw 37 rfl)) (by decide) (t := .int) (t' := .int) (by decide) (by decide)))
  have f30_315 := f28_280.other W29 (Or.inr (slot_ne (Or.inl (tw hw 34 rfl)) (Or.inl (tw hw 37 rfl)) (by decide) (t := .int) (t' := .int) (by decide) (by decide)))
  have f30_316 := Avf.other f28_282 W29 (Ne.symm nn.1)
  have f30_317 := Avf.other f28_283 W29 (Ne.symm nn.2.1)
  have f30_318 := Avf.other V27 W29 (Ne.symm nn.2.2.1)
  have f30_319 := f28_284.wr W29 (Or.inl (List.mem_of_getElem? (i := 0) rfl))
  have f30_320 := f28_285.wr W29
  have f30_321 := Avf.other f28_286 W29 (Ne.symm ne_a1_d11)
  have f30_322 := f28_287.wr W29
  have f30_323 := Avf.other f28_288 W29 (Ne.symm ne_a1_d18)
  have f30_324 := f28_289.wr W29
  have f30_325 := Avf.other f28_290 W29 (Ne.symm ne_a1_b25)
  have Zs30 : n0 ≤ h29.size := by rw [W29.size]; exact Zs28
  refine Go.by st29 ?_
  show Go p.tables e below _ (T29.setTop (mkF m 230 #[.val (.ref a1), .val .null, .val (.int (0 : Int32)), .val (.int (0 : Int32)), .val (.int (64 : Int32))] []))
  refine Go.by (fun _ => XS.aloadN X29.here hx rfl (hb hby d3_230) rfl rfl) ?_
  show Go p.tables e below _ (T29.setTop (mkF m 231 #[.val (.ref a1), .val .null, .val (.int (0 : Int32)), .val (.int (0 : Int32)), .val (.int (64 : Int32))] [(.ref a1)]))
  obtain ⟨T31, X31, st31⟩ := X29.getF hx hZ hown (host := "") (Or.inl (tw hw 26 rfl)) Via.refl f30_314 (g := (mkF m 231 #[.val (.ref a1), .val .null, .val (.int (0 : Int32)), .val (.int (0 : Int32)), .val (.int (64 : Int32))] [(.ref a1)])) rfl rfl (hb hby d3_231)
  refine Go.by st31 ?_
  show Go p.tables e below _ (T31.setTop (mkF m 234 #[.val (.ref a1), .val .null, .val (.int (0 : Int32)), .val (.int (0 : Int32)), .val (.int (64 : Int32))] [(.int (0 : Int32))]))
  refine Go.by (fun _ => XS.ifYes X31.here hx rfl (pc0 := 234) (pc' := 249) rfl (hb hby d3_234) rfl ((if0 _ _).trans (flt (by decide)).2.2.2) (by decide) (by decide)) ?_
  show Go p.tables e below _ (T31.setTop (mkF m 249 #[.val (.ref a1), .val .null, .val (.int (0 : Int32)), .val (.int (0 : Int32)), .val (.int (64 : Int32))] []))
  refine Go.by (fun _ => XS.aloadN X31.here hx rfl (hb hby d3_249) rfl rfl) ?_
  show Go p.tables e below _ (T31.setTop (mkF m 250 #[.val (.ref a1), .val .null, .val (.int (0 : Int32)), .val (.int (0 : Int32)), .val (.int (64 : Int32))] [(.ref a1)]))
  refine Go.by (fun _ => XS.dup X31.here hx rfl (hb hby d3_250) rfl rfl) ?_
  show Go p.tables e below _ (T31.setTop (mkF m 251 #[.val (.ref a1), .val .null, .val (.int (0 : Int32)), .val (.int (0 : Int32)), .val (.int (64 : Int32))] [(.ref a1), (.ref a1)]))
  obtain ⟨T32, X32, st32⟩ := X31.getF hx hZ hown (host := "") (Or.inl (tw hw 33 rfl)) Via.refl f30_315 (g := (mkF m 251 #[.val (.ref a1), .val .null, .val (.int (0 : Int32)), .val (.int (0 : Int32)), .val (.int (64 : Int32))] [(.ref a1), (.ref a1)])) rfl rfl (hb hby d3_251)
  refine Go.by st32 ?_
  show Go p.tables e below _ (T32.setTop (mkF m 254 #[.val (.ref a1), .val .null, .val (.int (0 : Int32)), .val (.int (0 : Int32)), .val (.int (64 : Int32))] [(.int (0 : Int32)), (.ref a1)]))
  refine Go.by (fun _ => XS.iconst X32.here hx rfl (hb hby d3_254)) ?_
  show Go p.tables e below _ (T32.setTop (mkF m 255 #[.val (.ref a1), .val .null, .val (.int (0 : Int32)), .val (.int (0 : Int32)), .val (.int (64 : Int32))] [(.int (1 : Int32)), (.int (0 : Int32)), (.ref a1)]))
  refine Go.by (fun _ => XS.iadd X32.here hx rfl (hb hby d3_255) rfl) ?_
  show Go p.tables e below _ (T32.setTop (mkF m 256 #[.val (.ref a1), .val .null, .val (.int (0 : Int32)), .val (.int (0 : Int32)), .val (.int (64 : Int32))] [(.int (1 : Int32)), (.ref a1)]))
  obtain ⟨T33, h33, X33, W33, st33⟩ := X32.putF hx hZ hown (host := "") (Or.inl (tw hw 33 rfl)) Via.refl f30_315 f30_308 g_a1 (Or.inl (tw hw 34 rfl)) (tw hw 2 rfl) (ty := .int) (by decide) rfl rfl (g := (mkF m 256 #[.val (.ref a1), .val .null, .val (.int (0 : Int32)), .val (.int (0 : Int32)), .val (.int (64 : Int32))] [(.int (1 : Int32)), (.ref a1)])) rfl rfl (hb hby d3_256)
  have Fw33 := f30_315.same W33
  have f34_349 := f30_308.wr W33
  have f34_350 := f30_309.other W33 (Or.inr (slot_ne (Or.inl (tw hw 13 rfl)) (Or.inl (tw hw 34 rfl)) (by decide) (t := (.array (.array .long))) (t' := .int) (by decide) (by decide)))
  have f34_351 := f30_310.other W33 (Or.inr (slot_ne (Or.inl (tw hw 17 rfl)) (Or.inl (tw hw 34 rfl)) (by decide) (t := (.array (.array .int))) (t' := .int) (by decide) (by decide)))
  have f34_352 := f30_311.other W33 (Or.inr (slot_ne (Or.inl (tw hw 21 rfl)) (Or.inl (tw hw 34 rfl)) (by decide) (t := (.array (.array (.object "java/lang/Object")))) (t' := .int) (by decide) (by decide)))
  have f34_353 := f30_312.other W33 (Or.inr (slot_ne (Or.inr (tw hw 23 rfl)) (Or.inl (tw hw 34 rfl)) (by decide) (t := .int) (t' := .int) (by decide) (by decide)))
  have f34_354 := f30_313.other W33 (Or.inr (slot_ne (Or.inr (tw hw 25 rfl)) (Or.inl (tw hw 34 rfl)) (by decide) (t := .int) (t' := .int) (by decide) (by decide)))
  have f34_355 := f30_314.other W33 (Or.inr (slot_ne (Or.inr (tw hw 27 rfl)) (Or.inl (tw hw 34 rfl)) (by decide) (t := .int) (t' := .int) (by decide) (by decide)))
  have f34_356 := Fw29.other W33 (Or.inr (slot_ne (Or.inl (tw hw 37 rfl)) (Or.inl (tw hw 34 rfl)) (by decide) (t := .int) (t' := .int) (by decide) (by decide)))
  have f34_357 := Avf.other f30_316 W33 (Ne.symm nn.1)
  have f34_358 := Avf.other f30_317 W33 (Ne.symm nn.2.1)
  have f34_359 := Avf.other f30_318 W33 (Ne.symm nn.2.2.1)
  have f34_360 := f30_319.wr W33 (Or.inl (List.mem_of_getElem? (i := 0) rfl))
  have f34_361 := f30_320.wr W33
  have f34_362 := Avf.other f30_321 W33 (Ne.symm ne_a1_d11)
  have f34_363 := f30_322.wr W33
  have f34_364 := Avf.other f30_323 W33 (Ne.symm ne_a1_d18)
  have f34_365 := f30_324.wr W33
  have f34_366 := Avf.other f30_325 W33 (Ne.symm ne_a1_b25)
  have Zs34 : n0 ≤ h33.size := by rw [W33.size]; exact Zs30
  refine Go.by st33 ?_
  show Go p.tables e below _ (T33.setTop (mkF m 259 #[.val (.ref a1), .val .null, .val (.int (0 : Int32)), .val (.int (0 : Int32)), .val (.int (64 : Int32))] []))
  refine Go.by (fun _ => XS.iloadN X33.here hx rfl (hb hby d3_259) rfl) ?_
  show Go p.tables e below _ (T33.setTop (mkF m 260 #[.val (.ref a1), .val .null, .val (.int (0 : Int32)), .val (.int (0 : Int32)), .val (.int (64 : Int32))] [(.int (0 : Int32))]))
  exact Go.retI X33 hx hlk hret (hb hby d3_260) (by decide) (by decide) ⟨d11, d18, b25, kc11, kc18, kc25, rfl, sz_d11, sz_d18, sz_b25, ne_d11_b25, ne_d18_b25, ne_d11_d18, f34_360, f34_349, f34_350, f34_351, f34_352, f34_353, f34_354, f34_355, Fw33, f34_356, Avf.cong f34_357 (fun i hi => by match i with | 0 => rfl | i + 1 => rfl), Avf.cong f34_358 (fun i hi => by match i with | 0 => rfl | i + 1 => rfl), Avf.cong f34_359 (fun i hi => by match i with | 0 => rfl | i + 1 => rfl), f34_362, f34_364, Avf.cong f34_366 (fun i hi => by rfl)⟩
theorem d3_237 : decode prog_40_method_3_code 237 = .ok (.aload_n 0, 1) := by decide +kernel
theorem d3_238 : decode prog_40_method_3_code 238 = .ok (.getfield 23, 3) := by decide +kernel
theorem d3_241 : decode prog_40_method_3_code 241 = .ok (.iload_n 3, 1) := by decide +kernel
theorem d3_242 : decode prog_40_method_3_code 242 = .ok (.aaload, 1) := by decide +kernel
theorem d3_243 : decode prog_40_method_3_code 243 = .ok (.iload_n 2, 1) := by decide +kernel
theorem d3_244 : decode prog_40_method_3_code 244 = .ok (.ldc 81, 2) := by decide +kernel
theorem d3_246 : decode prog_40_method_3_code 246 = .ok (.iand, 1) := by decide +kernel
theorem d3_247 : decode prog_40_method_3_code 247 = .ok (.aload_n 1, 1) := by decide +kernel
theorem d3_248 : decode prog_40_method_3_code 248 = .ok (.aastore, 1) := by decide +kernel
abbrev Rm3_1 : Room := { frames := 1, cells := 3, slots := 448, locals := 15 }
set_option maxRecDepth 65536 in
set_option maxHeartbeats 40000000 in
theorem rm3_1 (l : Launch) (Z : State) (a0 : Array Value) (hw : ∀ d ∈ tables_1, d.before a0 Z = true) (ws : List Jvm.Cond) (a1 : Addr) (oL oI oO : Addr) (kL kI kO : ClassId) (lp ip : Int32) (h0 : Heap) (n0 : Nat) (Z0 : n0 ≤ h0.size) (E_a1 : Exa Z h0 a1 "com/example/spotline/spotline/engine/Table") (g_a1 : n0 ≤ a1) (F_longs : Fld Z h0 a1 "com/example/spotline/spotline/engine/Table" "longs" "[[J" (.ref oL)) (F_ints : Fld Z h0 a1 "com/example/spotline/spotline/engine/Table" "ints" "[[I" (.ref oI)) (F_objects : Fld Z h0 a1 "com/example/spotline/spotline/engine/Table" "objects" "[[Ljava/lang/Object;" (.ref oO)) (F_longsPerRow : Fld Z h0 a1 "com/example/spotline/spotline/engine/Table" "longsPerRow" "I" (.int lp)) (F_intsPerRow : Fld Z h0 a1 "com/example/spotline/spotline/engine/Table" "intsPerRow" "I" (.int ip)) (F_objectsPerRow : Fld Z h0 a1 "com/example/spotline/spotline/engine/Table" "objectsPerRow" "I" (.int (1 : Int32))) (F_size : Fld Z h0 a1 "com/example/spotline/spotline/engine/Table" "size" "I" (.int (0 : Int32))) (F_capacity : Fld Z h0 a1 "com/example/spotline/spotline/engine/Table" "capacity" "I" (.int (0 : Int32))) (g_o : n0 ≤ oL ∧ n0 ≤ oI ∧ n0 ≤ oO) (nn : a1 ≠ oL ∧ a1 ≠ oI ∧ a1 ≠ oO ∧ oL ≠ oI ∧ oL ≠ oO ∧ oI ≠ oO) (V_oL : Avf Z h0 oL kL (.array .long) 16 (fun _ => .null)) (V_oI : Avf Z h0 oI kI (.array .int) 16 (fun _ => .null)) (V_oO : Avf Z h0 oO kO (.array (.object "java/lang/Object")) 16 (fun _ => .null)) (Ov_oL : OvrA Z kL .long "[J") (Ov_oI : OvrA Z kI .int "[I") (Ov_oO : OvrA Z kO (.object "java/lang/Object") "[Ljava/lang/Object;") (hL : ¬ ((64 : Int32) * lp) < 0 ∧ ((64 : Int32) * lp).toNatClampNeg ≤ 192) (hI : ¬ ((64 : Int32) * ip) < 0 ∧ ((64 : Int32) * ip).toNatClampNeg ≤ 192) :
    Met l Z n0 (⟨"com/example/spotline/spotline/engine/Table", "add", "(Ljava/lang/Object;)I"⟩ : MethodName) prog_40_method_3_code 5 (some .int) ws Rm3_1 #[(.ref a1), .null] h0 (fun v h => ∃ dL dI dO kdL kdI kdO, v = some (.int 0) ∧ h0.size ≤ dL ∧ h0.size ≤ dI ∧ h0.size ≤ dO ∧ dL ≠ dO ∧ dI ≠ dO ∧ dL ≠ dI ∧ Keep h0 h [a1, oL, oI, oO] ∧ Exa Z h a1 "com/example/spotline/spotline/engine/Table" ∧ Fld Z h a1 "com/example/spotline/spotline/engine/Table" "longs" "[[J" (.ref oL) ∧ Fld Z h a1 "com/example/spotline/spotline/engine/Table" "ints" "[[I" (.ref oI) ∧ Fld Z h a1 "com/example/spotline/spotline/engine/Table" "objects" "[[Ljava/lang/Object;" (.ref oO) ∧ Fld Z h a1 "com/example/spotline/spotline/engine/Table" "longsPerRow" "I" (.int lp) ∧ Fld Z h a1 "com/example/spotline/spotline/engine/Table" "intsPerRow" "I" (.int ip) ∧ Fld Z h a1 "com/example/spotline/spotline/engine/Table" "objectsPerRow" "I" (.int (1 : Int32)) ∧ Fld Z h a1 "com/example/spotline/spotline/engine/Table" "size" "I" (.int (1 : Int32)) ∧ Fld Z h a1 "com/example/spotline/spotline/engine/Table" "capacity" "I" (.int (64 : Int32)) ∧ Avf Z h oL kL (.array .long) 16 (fun i => if i = 0 then (.ref dL) else .null) ∧ Avf Z h oI kI (.array .int) 16 (fun i => if i = 0 then (.ref dI) else .null) ∧ Avf Z h oO kO (.array (.object "java/lang/Object")) 16 (fun i => if i = 0 then (.ref dO) else .null) ∧ Avf Z h dL kdL .long (((64 : Int32) * lp).toNatClampNeg) (fun _ => (.long 0)) ∧ Avf Z h dI kdI .int (((64 : Int32) * ip).toNatClampNeg) (fun _ => (.int 0)) ∧ Avf Z h dO kdO (.object "java/lang/Object") 64 (fun _ => .null)) := by
  refine enter (Ls := #[.val (.ref a1), .val .null, .unset, .unset, .unset]) (plainFor_of_name pn0) (fun m => by first | (simp [entryFrame, mkF, argsToLocals, Value.category]; done) | rfl) ?_
  intro p e s m below meth c T0 hx hby hml hown hnm hret hlk hZ X0
  have K0 := Keep.refl h0 [a1, oL, oI, oO]
  show Go p.tables e below _ (T0.setTop (mkF m 0 #[.val (.ref a1), .val .null, .unset, .unset, .unset] []))
  refine Go.by (fun _ => XS.aloadN X0.here hx rfl (hb hby d3_0) rfl rfl) ?_
  show Go p.tables e below _ (T0.setTop (mkF m 1 #[.val (.ref a1), .val .null, .unset, .unset, .unset] [(.ref a1)]))
  obtain ⟨T1, X1, st1⟩ := X0.getF hx hZ hown (host := "") (Or.inl (tw hw 33 rfl)) Via.refl F_size (g := (mkF m 1 #[.val (.ref a1), .val .null, .unset, .unset, .unset] [(.ref a1)])) rfl rfl (hb hby d3_1)
  refine Go.by st1 ?_
  show Go p.tables e below _ (T1.setTop (mkF m 4 #[.val (.ref a1), .val .null, .unset, .unset, .unset] [(.int (0 : Int32))]))
  refine Go.by (X1.ldcInt hx hZ hown (tw hw 35 rfl) (g := (mkF m 4 #[.val (.ref a1), .val .null, .unset, .unset, .unset] [(.int (0 : Int32))])) rfl (hb hby d3_4)) ?_
  show Go p.tables e below _ (T1.setTop (mkF m 6 #[.val (.ref a1), .val .null, .unset, .unset, .unset] [(.int (2147483647 : Int32)), (.int (0 : Int32))]))
  refine Go.by (fun _ => XS.icmpYes X1.here hx rfl (pc0 := 6) (pc' := 26) rfl (hb hby d3_6) rfl (feq (by decide)).2 (by decide) (by decide)) ?_
  show Go p.tables e below _ (T1.setTop (mkF m 26 #[.val (.ref a1), .val .null, .unset, .unset, .unset] []))
  refine Go.by (fun _ => XS.aloadN X1.here hx rfl (hb hby d3_26) rfl rfl) ?_
  show Go p.tables e below _ (T1.setTop (mkF m 27 #[.val (.ref a1), .val .null, .unset, .unset, .unset] [(.ref a1)]))
  obtain ⟨T2, X2, st2⟩ := X1.getF hx hZ hown (host := "") (Or.inl (tw hw 33 rfl)) Via.refl F_size (g := (mkF m 27 #[.val (.ref a1), .val .null, .unset, .unset, .unset] [(.ref a1)])) rfl rfl (hb hby d3_27)
  refine Go.by st2 ?_
  show Go p.tables e below _ (T2.setTop (mkF m 30 #[.val (.ref a1), .val .null, .unset, .unset, .unset] [(.int (0 : Int32))]))
  refine Go.by (fun _ => XS.istoreN X2.here hx rfl (hb hby d3_30) rfl (l' := #[.val (.ref a1), .val .null, .val (.int (0 : Int32)), .unset, .unset]) rfl) ?_
  show Go p.tables e below _ (T2.setTop (mkF m 31 #[.val (.ref a1), .val .null, .val (.int (0 : Int32)), .unset, .unset] []))
  refine Go.by (fun _ => XS.iloadN X2.here hx rfl (hb hby d3_31) rfl) ?_
  show Go p.tables e below _ (T2.setTop (mkF m 32 #[.val (.ref a1), .val .null, .val (.int (0 : Int32)), .unset, .unset] [(.int (0 : Int32))]))
  refine Go.by (fun _ => XS.bipush X2.here hx rfl (hb hby d3_32)) ?_
  show Go p.tables e below _ (T2.setTop (mkF m 34 #[.val (.ref a1), .val .null, .val (.int (0 : Int32)), .unset, .unset] [(.int (16 : Int32)), (.int (0 : Int32))]))
  refine Go.by (fun _ => XS.iushr X2.here hx rfl (hb hby d3_34) rfl) ?_
  show Go p.tables e below _ (T2.setTop (mkF m 35 #[.val (.ref a1), .val .null, .val (.int (0 : Int32)), .unset, .unset] [(.int (0 : Int32))]))
  refine Go.by (fun _ => XS.istoreN X2.here hx rfl (hb hby d3_35) rfl (l' := #[.val (.ref a1), .val .null, .val (.int (0 : Int32)), .val (.int (0 : Int32)), .unset]) rfl) ?_
  show Go p.tables e below _ (T2.setTop (mkF m 36 #[.val (.ref a1), .val .null, .val (.int (0 : Int32)), .val (.int (0 : Int32)), .unset] []))
  refine Go.by (fun _ => XS.iloadN X2.here hx rfl (hb hby d3_36) rfl) ?_
  show Go p.tables e below _ (T2.setTop (mkF m 37 #[.val (.ref a1), .val .null, .val (.int (0 : Int32)), .val (.int (0 : Int32)), .unset] [(.int (0 : Int32))]))
  refine Go.by (fun _ => XS.aloadN X2.here hx rfl (hb hby d3_37) rfl rfl) ?_
  show Go p.tables e below _ (T2.setTop (mkF m 38 #[.val (.ref a1), .val .null, .val (.int (0 : Int32)), .val (.int (0 : Int32)), .unset] [(.ref a1), (.int (0 : Int32))]))
  obtain ⟨T3, X3, st3⟩ := X2.getF hx hZ hown (host := "") (Or.inl (tw hw 12 rfl)) Via.refl F_longs (g := (mkF m 38 #[.val (.ref a1), .val .null, .val (.int (0 : Int32)), .val (.int (0 : Int32)), .unset] [(.ref a1), (.int (0 : Int32))])) rfl rfl (hb hby d3_38)
  refine Go.by st3 ?_
  show Go p.tables e below _ (T3.setTop (mkF m 41 #[.val (.ref a1), .val .null, .val (.int (0 : Int32)), .val (.int (0 : Int32)), .unset] [(.ref oL), (.int (0 : Int32))]))
  refine Go.by (X3.len hx hZ V_oL (z := (16 : Int32)) rfl (g := (mkF m 41 #[.val (.ref a1), .val .null, .val (.int (0 : Int32)), .val (.int (0 : Int32)), .unset] [(.ref oL), (.int (0 : Int32))])) rfl rfl (hb hby d3_41)) ?_
  show Go p.tables e below _ (T3.setTop (mkF m 42 #[.val (.ref a1), .val .null, .val (.int (0 : Int32)), .val (.int (0 : Int32)), .unset] [(.int (16 : Int32)), (.int (0 : Int32))]))
  refine Go.by (fun _ => XS.icmpYes X3.here hx rfl (pc0 := 42) (pc' := 96) rfl (hb hby d3_42) rfl (feq (by decide)).2 (by decide) (by decide)) ?_
  show Go p.tables e below _ (T3.setTop (mkF m 96 #[.val (.ref a1), .val .null, .val (.int (0 : Int32)), .val (.int (0 : Int32)), .unset] []))
  refine Go.by (fun _ => XS.iloadN X3.here hx rfl (hb hby d3_96) rfl) ?_
  show Go p.tables e below _ (T3.setTop (mkF m 97 #[.val (.ref a1), .val .null, .val (.int (0 : Int32)), .val (.int (0 : Int32)), .unset] [(.int (0 : Int32))]))
  refine Go.by (fun _ => XS.aloadN X3.here hx rfl (hb hby d3_97) rfl rfl) ?_
  show Go p.tables e below _ (T3.setTop (mkF m 98 #[.val (.ref a1), .val .null, .val (.int (0 : Int32)), .val (.int (0 : Int32)), .unset] [(.ref a1), (.int (0 : Int32))]))
  obtain ⟨T4, X4, st4⟩ := X3.getF hx hZ hown (host := "") (Or.inl (tw hw 36 rfl)) Via.refl F_capacity (g := (mkF m 98 #[.val (.ref a1), .val .null, .val (.int (0 : Int32)), .val (.int (0 : Int32)), .unset] [(.ref a1), (.int (0 : Int32))])) rfl rfl (hb hby d3_98)
  refine Go.by st4 ?_
  show Go p.tables e below _ (T4.setTop (mkF m 101 #[.val (.ref a1), .val .null, .val (.int (0 : Int32)), .val (.int (0 : Int32)), .unset] [(.int (0 : Int32)), (.int (0 : Int32))]))
  refine Go.by (fun _ => XS.icmpNo X4.here hx rfl (hb hby d3_101) rfl (teq (by decide)).2) ?_
  show Go p.tables e below _ (T4.setTop (mkF m 104 #[.val (.ref a1), .val .null, .val (.int (0 : Int32)), .val (.int (0 : Int32)), .unset] []))
  refine Go.by (fun _ => XS.iloadN X4.here hx rfl (hb hby d3_104) rfl) ?_
  show Go p.tables e below _ (T4.setTop (mkF m 105 #[.val (.ref a1), .val .null, .val (.int (0 : Int32)), .val (.int (0 : Int32)), .unset] [(.int (0 : Int32))]))
  refine Go.by (fun _ => XS.ifNo X4.here hx rfl (hb hby d3_105) rfl ((if0 _ _).trans (teq (by decide)).2)) ?_
  show Go p.tables e below _ (T4.setTop (mkF m 108 #[.val (.ref a1), .val .null, .val (.int (0 : Int32)), .val (.int (0 : Int32)), .unset] []))
  refine Go.by (X4.ldcInt hx hZ hown (tw hw 38 rfl) (g := (mkF m 108 #[.val (.ref a1), .val .null, .val (.int (0 : Int32)), .val (.int (0 : Int32)), .unset] [])) rfl (hb hby d3_108)) ?_
  show Go p.tables e below _ (T4.setTop (mkF m 110 #[.val (.ref a1), .val .null, .val (.int (0 : Int32)), .val (.int (0 : Int32)), .unset] [(.int (65536 : Int32))]))
  refine Go.by (fun _ => XS.bipush X4.here hx rfl (hb hby d3_110)) ?_
  show Go p.tables e below _ (T4.setTop (mkF m 112 #[.val (.ref a1), .val .null, .val (.int (0 : Int32)), .val (.int (0 : Int32)), .unset] [(.int (64 : Int32)), (.int (65536 : Int32))]))
  refine Go.by (fun _ => XS.aloadN X4.here hx rfl (hb hby d3_112) rfl rfl) ?_
  show Go p.tables e below _ (T4.setTop (mkF m 113 #[.val (.ref a1), .val .null, .val (.int (0 : Int32)), .val (.int (0 : Int32)), .unset] [(.ref a1), (.int (64 : Int32)), (.int (65536 : Int32))]))
  obtain ⟨T5, X5, st5⟩ := X4.getF hx hZ hown (host := "") (Or.inl (tw hw 36 rfl)) Via.refl F_capacity (g := (mkF m 113 #[.val (.ref a1), .val .null, .val (.int (0 : Int32)), .val (.int (0 : Int32)), .unset] [(.ref a1), (.int (64 : Int32)), (.int (65536 : Int32))])) rfl rfl (hb hby d3_113)
  refine Go.by st5 ?_
  show Go p.tables e below _ (T5.setTop (mkF m 116 #[.val (.ref a1), .val .null, .val (.int (0 : Int32)), .val (.int (0 : Int32)), .unset] [(.int (0 : Int32)), (.int (64 : Int32)), (.int (65536 : Int32))]))
  refine Go.by (fun _ => XS.iconst X5.here hx rfl (hb hby d3_116)) ?_
  show Go p.tables e below _ (T5.setTop (mkF m 117 #[.val (.ref a1), .val .null, .val (.int (0 : Int32)), .val (.int (0 : Int32)), .unset] [(.int (2 : Int32)), (.int (0 : Int32)), (.int (64 : Int32)), (.int (65536 : Int32))]))
  refine Go.by (fun _ => XS.imul X5.here hx rfl (hb hby d3_117) rfl) ?_
  show Go p.tables e below _ (T5.setTop (mkF m 118 #[.val (.ref a1), .val .null, .val (.int (0 : Int32)), .val (.int (0 : Int32)), .unset] [(.int (0 : Int32)), (.int (64 : Int32)), (.int (65536 : Int32))]))
  obtain ⟨v6, T6, h6, X6, q6, st6⟩ := X5.callS hx hZ (y := (⟨"java/lang/Math", "max", "(II)I"⟩ : MethodName)) hown (tw hw 39 rfl) (tw hw 40 rfl) (tw hw 41 rfl) (tw hw 42 rfl) (by decide) (rm4 l Z a0 hw [] h0 n0 Z0) (g := (mkF m 118 #[.val (.ref a1), .val .null, .val (.int (0 : Int32)), .val (.int (0 : Int32)), .unset] [(.int (0 : Int32)), (.int (64 : Int32)), (.int (65536 : Int32))])) rfl (by rw [hml]; rfl) (argsL := [(.int (64 : Int32)), (.int (0 : Int32))]) (rest := [(.int (65536 : Int32))]) (lenOf pd0 rfl) rfl (hb hby d3_118) rfl (by decide) (Nat.le_of_ble_eq_true rfl) (k' := 0) (n' := 0) rfl rfl (by decide) (by decide)
  refine Go.by st6 ?_
  obtain ⟨rfl, rfl⟩ := q6
  show Go p.tables e below _ (T6.setTop (mkF m 121 #[.val (.ref a1), .val .null, .val (.int (0 : Int32)), .val (.int (0 : Int32)), .unset] [(.int (64 : Int32)), (.int (65536 : Int32))]))
  obtain ⟨v7, T7, h7, X7, q7, st7⟩ := X6.callS hx hZ (y := (⟨"java/lang/Math", "min", "(II)I"⟩ : MethodName)) hown (tw hw 43 rfl) (tw hw 44 rfl) (tw hw 41 rfl) (tw hw 45 rfl) (by decide) (rm5 l Z a0 hw [] h0 n0 Z0) (g := (mkF m 121 #[.val (.ref a1), .val .null, .val (.int (0 : Int32)), .val (.int (0 : Int32)), .unset] [(.int (64 : Int32)), (.int (65536 : Int32))])) rfl (by rw [hml]; rfl) (argsL := [(.int (65536 : Int32)), (.int (64 : Int32))]) (rest := []) (lenOf pd0 rfl) rfl (hb hby d3_121) rfl (by decide) (Nat.le_of_ble_eq_true rfl) (k' := 0) (n' := 0) rfl rfl (by decide) (by decide)
  refine Go.by st7 ?_
  obtain ⟨rfl, rfl⟩ := q7
  show Go p.tables e below _ (T7.setTop (mkF m 124 #[.val (.ref a1), .val .null, .val (.int (0 : Int32)), .val (.int (0 : Int32)), .unset] [(.int (64 : Int32))]))
  refine Go.by (fun _ => XS.goto X7.here hx rfl (pc0 := 124) (pc' := 129) rfl (hb hby d3_124) (by decide) (by decide)) ?_
  show Go p.tables e below _ (T7.setTop (mkF m 129 #[.val (.ref a1), .val .null, .val (.int (0 : Int32)), .val (.int (0 : Int32)), .unset] [(.int (64 : Int32))]))
  refine Go.by (fun _ => XS.istore X7.here hx rfl (hb hby d3_129) rfl (l' := #[.val (.ref a1), .val .null, .val (.int (0 : Int32)), .val (.int (0 : Int32)), .val (.int (64 : Int32))]) rfl) ?_
  show Go p.tables e below _ (T7.setTop (mkF m 131 #[.val (.ref a1), .val .null, .val (.int (0 : Int32)), .val (.int (0 : Int32)), .val (.int (64 : Int32))] []))
  refine Go.by (fun _ => XS.aloadN X7.here hx rfl (hb hby d3_131) rfl rfl) ?_
  show Go p.tables e below _ (T7.setTop (mkF m 132 #[.val (.ref a1), .val .null, .val (.int (0 : Int32)), .val (.int (0 : Int32)), .val (.int (64 : Int32))] [(.ref a1)]))
  obtain ⟨T8, X8, st8⟩ := X7.getF hx hZ hown (host := "") (Or.inl (tw hw 12 rfl)) Via.refl F_longs (g := (mkF m 132 #[.val (.ref a1), .val .null, .val (.int (0 : Int32)), .val (.int (0 : Int32)), .val (.int (64 : Int32))] [(.ref a1)])) rfl rfl (hb hby d3_132)
  refine Go.by st8 ?_
  show Go p.tables e below _ (T8.setTop (mkF m 135 #[.val (.ref a1), .val .null, .val (.int (0 : Int32)), .val (.int (0 : Int32)), .val (.int (64 : Int32))] [(.ref oL)]))
  refine Go.by (fun _ => XS.iloadN X8.here hx rfl (hb hby d3_135) rfl) ?_
  show Go p.tables e below _ (T8.setTop (mkF m 136 #[.val (.ref a1), .val .null, .val (.int (0 : Int32)), .val (.int (0 : Int32)), .val (.int (64 : Int32))] [(.int (0 : Int32)), (.ref oL)]))
  refine Go.by (fun _ => XS.aloadN X8.here hx rfl (hb hby d3_136) rfl rfl) ?_
  show Go p.tables e below _ (T8.setTop (mkF m 137 #[.val (.ref a1), .val .null, .val (.int (0 : Int32)), .val (.int (0 : Int32)), .val (.int (64 : Int32))] [(.ref a1), (.int (0 : Int32)), (.ref oL)]))
  obtain ⟨T9, X9, st9⟩ := X8.getF hx hZ hown (host := "") (Or.inl (tw hw 12 rfl)) Via.refl F_longs (g := (mkF m 137 #[.val (.ref a1), .val .null, .val (.int (0 : Int32)), .val (.int (0 : Int32)), .val (.int (64 : Int32))] [(.ref a1), (.int (0 : Int32)), (.ref oL)])) rfl rfl (hb hby d3_137)
  refine Go.by st9 ?_
  show Go p.tables e below _ (T9.setTop (mkF m 140 #[.val (.ref a1), .val .null, .val (.int (0 : Int32)), .val (.int (0 : Int32)), .val (.int (64 : Int32))] [(.ref oL), (.int (0 : Int32)), (.ref oL)]))
  refine Go.by (fun _ => XS.iloadN X9.here hx rfl (hb hby d3_140) rfl) ?_
  show Go p.tables e below _ (T9.setTop (mkF m 141 #[.val (.ref a1), .val .null, .val (.int (0 : Int32)), .val (.int (0 : Int32)), .val (.int (64 : Int32))] [(.int (0 : Int32)), (.ref oL), (.int (0 : Int32)), (.ref oL)]))
  refine Go.by (X9.ldA hx hZ V_oL rfl (by decide) (i := 0) rfl (by decide) (v := .null) rfl (g := (mkF m 141 #[.val (.ref a1), .val .null, .val (.int (0 : Int32)), .val (.int (0 : Int32)), .val (.int (64 : Int32))] [(.int (0 : Int32)), (.ref oL), (.int (0 : Int32)), (.ref oL)])) rfl rfl (hb hby d3_141)) ?_
  show Go p.tables e below _ (T9.setTop (mkF m 142 #[.val (.ref a1), .val .null, .val (.int (0 : Int32)), .val (.int (0 : Int32)), .val (.int (64 : Int32))] [.null, (.int (0 : Int32)), (.ref oL)]))
  refine Go.by (fun _ => XS.iload X9.here hx rfl (hb hby d3_142) rfl) ?_
  show Go p.tables e below _ (T9.setTop (mkF m 144 #[.val (.ref a1), .val .null, .val (.int (0 : Int32)), .val (.int (0 : Int32)), .val (.int (64 : Int32))] [(.int (64 : Int32)), .null, (.int (0 : Int32)), (.ref oL)]))
  refine Go.by (fun _ => XS.aloadN X9.here hx rfl (hb hby d3_144) rfl rfl) ?_
  show Go p.tables e below _ (T9.setTop (mkF m 145 #[.val (.ref a1), .val .null, .val (.int (0 : Int32)), .val (.int (0 : Int32)), .val (.int (64 : Int32))] [(.ref a1), (.int (64 : Int32)), .null, (.int (0 : Int32)), (.ref oL)]))
  obtain ⟨T10, X10, st10⟩ := X9.getF hx hZ hown (host := "") (Or.inl (tw hw 22 rfl)) Via.refl F_longsPerRow (g := (mkF m 145 #[.val (.ref a1), .val .null, .val (.int (0 : Int32)), .val (.int (0 : Int32)), .val (.int (64 : Int32))] [(.ref a1), (.int (64 : Int32)), .null, (.int (0 : Int32)), (.ref oL)])) rfl rfl (hb hby d3_145)
  refine Go.by st10 ?_
  show Go p.tables e below _ (T10.setTop (mkF m 148 #[.val (.ref a1), .val .null, .val (.int (0 : Int32)), .val (.int (0 : Int32)), .val (.int (64 : Int32))] [(.int lp), (.int (64 : Int32)), .null, (.int (0 : Int32)), (.ref oL)]))
  refine Go.by (fun _ => XS.imul X10.here hx rfl (hb hby d3_148) rfl) ?_
  show Go p.tables e below _ (T10.setTop (mkF m 149 #[.val (.ref a1), .val .null, .val (.int (0 : Int32)), .val (.int (0 : Int32)), .val (.int (64 : Int32))] [(.int ((64 : Int32) * lp)), .null, (.int (0 : Int32)), (.ref oL)]))
  obtain ⟨v11, T11, h11, X11, q11, st11⟩ := X10.callS hx hZ (y := (⟨"com/example/spotline/spotline/engine/Table", "grow", "([JI)[J"⟩ : MethodName)) hown (tw hw 46 rfl) (tw hw 47 rfl) (tw hw 3 rfl) (tw hw 48 rfl) (by decide) (rm6 l Z a0 hw [] ((64 : Int32) * lp) h0 n0 Z0 hL.1 hL.2) (g := (mkF m 149 #[.val (.ref a1), .val .null, .val (.int (0 : Int32)), .val (.int (0 : Int32)), .val (.int (64 : Int32))] [(.int ((64 : Int32) * lp)), .null, (.int (0 : Int32)), (.ref oL)])) rfl (by rw [hml]; rfl) (argsL := [.null, (.int ((64 : Int32) * lp))]) (rest := [(.int (0 : Int32)), (.ref oL)]) (lenOf pd1 rfl) rfl (hb hby d3_149) rfl (by decide) (Nat.le_of_ble_eq_true rfl) (k' := 1) (n' := 192) rfl rfl (by decide) (by decide)
  refine Go.by st11 ?_
  obtain ⟨d11, kc11, rfl, sd11, K11, Ex11, V11⟩ := q11
  have g_d11 : n0 ≤ d11 := Nat.le_trans Z0 sd11
  have sz_d11 : h0.size ≤ d11 := Nat.le_trans K0.1 sd11
  have ne_a1_d11 : a1 ≠ d11 := Nat.ne_of_lt (Nat.lt_of_lt_of_le E_a1.lt sd11)
  have ne_oL_d11 : oL ≠ d11 := Nat.ne_of_lt (Nat.lt_of_lt_of_le V_oL.lt sd11)
  have ne_oI_d11 : oI ≠ d11 := Nat.ne_of_lt (Nat.lt_of_lt_of_le V_oI.lt sd11)
  have ne_oO_d11 : oO ≠ d11 := Nat.ne_of_lt (Nat.lt_of_lt_of_le V_oO.lt sd11)
  have f12_109 := E_a1.ext (keep_ext K11)
  have f12_110 := F_longs.ext (keep_ext K11)
  have f12_111 := F_ints.ext (keep_ext K11)
  have f12_112 := F_objects.ext (keep_ext K11)
  have f12_113 := F_longsPerRow.ext (keep_ext K11)
  have f12_114 := F_intsPerRow.ext (keep_ext K11)
  have f12_115 := F_objectsPerRow.ext (keep_ext K11)
  have f12_116 := F_size.ext (keep_ext K11)
  have f12_117 := F_capacity.ext (keep_ext K11)
  have f12_118 := Avf.ext V_oL (keep_ext K11)
  have f12_119 := Avf.ext V_oI (keep_ext K11)
  have f12_120 := Avf.ext V_oO (keep_ext K11)
  have f12_121 := K0.ext (keep_ext K11)
  have Zs12 : n0 ≤ h11.size := Nat.le_trans Z0 (keep_ext K11).1
  show Go p.tables e below _ (T11.setTop (mkF m 152 #[.val (.ref a1), .val .null, .val (.int (0 : Int32)), .val (.int (0 : Int32)), .val (.int (64 : Int32))] [(.ref d11), (.int (0 : Int32)), (.ref oL)]))
  obtain ⟨T13, h13, X13, W13, V13, st13⟩ := X11.stR hx hZ f12_118 g_o.1 rfl rfl (sto_avf f12_118 Ov_oL (Ins.self Ex11)) (by decide) (i := 0) rfl (by decide) (g := (mkF m 152 #[.val (.ref a1), .val .null, .val (.int (0 : Int32)), .val (.int (0 : Int32)), .val (.int (64 : Int32))] [(.ref d11), (.int (0 : Int32)), (.ref oL)])) rfl rfl (hb hby d3_152)
  have f14_125 := f12_109.wr W13
  have f14_126 := f12_110.other W13 (Or.inl nn.1)
  have f14_127 := f12_111.other W13 (Or.inl nn.1)
  have f14_128 := f12_112.other W13 (Or.inl nn.1)
  have f14_129 := f12_113.other W13 (Or.inl nn.1)
  have f14_130 := f12_114.other W13 (Or.inl nn.1)
  have f14_131 := f12_115.other W13 (Or.inl nn.1)
  have f14_132 := f12_116.other W13 (Or.inl nn.1)
  have f14_133 := f12_117.other W13 (Or.inl nn.1)
  have f14_134 := Avf.other f12_119 W13 (Ne.symm nn.2.2.2.1)
  have f14_135 := Avf.other f12_120 W13 (Ne.symm nn.2.2.2.2.1)
  have f14_136 := f12_121.wr W13 (Or.inl (List.mem_of_getElem? (i := 1) rfl))
  have f14_137 := Ex11.wr W13
  have f14_138 := Avf.other V11 W13 (Ne.symm ne_oL_d11)
  have Zs14 : n0 ≤ h13.size := by rw [W13.size]; exact Zs12
  refine Go.by st13 ?_
  show Go p.tables e below _ (T13.setTop (mkF m 153 #[.val (.ref a1), .val .null, .val (.int (0 : Int32)), .val (.int (0 : Int32)), .val (.int (64 : Int32))] []))
  refine Go.by (fun _ => XS.aloadN X13.here hx rfl (hb hby d3_153) rfl rfl) ?_
  show Go p.tables e below _ (T13.setTop (mkF m 154 #[.val (.ref a1), .val .null, .val (.int (0 : Int32)), .val (.int (0 : Int32)), .val (.int (64 : Int32))] [(.ref a1)]))
  obtain ⟨T15, X15, st15⟩ := X13.getF hx hZ hown (host := "") (Or.inl (tw hw 16 rfl)) Via.refl f14_127 (g := (mkF m 154 #[.val (.ref a1), .val .null, .val (.int (0 : Int32)), .val (.int (0 : Int32)), .val (.int (64 : Int32))] [(.ref a1)])) rfl rfl (hb hby d3_154)
  refine Go.by st15 ?_
  show Go p.tables e below _ (T15.setTop (mkF m 157 #[.val (.ref a1), .val .null, .val (.int (0 : Int32)), .val (.int (0 : Int32)), .val (.int (64 : Int32))] [(.ref oI)]))
  refine Go.by (fun _ => XS.iloadN X15.here hx rfl (hb hby d3_157) rfl) ?_
  show Go p.tables e below _ (T15.setTop (mkF m 158 #[.val (.ref a1), .val .null, .val (.int (0 : Int32)), .val (.int (0 : Int32)), .val (.int (64 : Int32))] [(.int (0 : Int32)), (.ref oI)]))
  refine Go.by (fun _ => XS.aloadN X15.here hx rfl (hb hby d3_158) rfl rfl) ?_
  show Go p.tables e below _ (T15.setTop (mkF m 159 #[.val (.ref a1), .val .null, .val (.int (0 : Int32)), .val (.int (0 : Int32)), .val (.int (64 : Int32))] [(.ref a1), (.int (0 : Int32)), (.ref oI)]))
  obtain ⟨T16, X16, st16⟩ := X15.getF hx hZ hown (host := "") (Or.inl (tw hw 16 rfl)) Via.refl f14_127 (g := (mkF m 159 #[.val (.ref a1), .val .null, .val (.int (0 : Int32)), .val (.int (0 : Int32)), .val (.int (64 : Int32))] [(.ref a1), (.int (0 : Int32)), (.ref oI)])) rfl rfl (hb hby d3_159)
  refine Go.by st16 ?_
  show Go p.tables e below _ (T16.setTop (mkF m 162 #[.val (.ref a1), .val .null, .val (.int (0 : Int32)), .val (.int (0 : Int32)), .val (.int (64 : Int32))] [(.ref oI), (.int (0 : Int32)), (.ref oI)]))
  refine Go.by (fun _ => XS.iloadN X16.here hx rfl (hb hby d3_162) rfl) ?_
  show Go p.tables e below _ (T16.setTop (mkF m 163 #[.val (.ref a1), .val .null, .val (.int (0 : Int32)), .val (.int (0 : Int32)), .val (.int (64 : Int32))] [(.int (0 : Int32)), (.ref oI), (.int (0 : Int32)), (.ref oI)]))
  refine Go.by (X16.ldA hx hZ f14_134 rfl (by decide) (i := 0) rfl (by decide) (v := .null) rfl (g := (mkF m 163 #[.val (.ref a1), .val .null, .val (.int (0 : Int32)), .val (.int (0 : Int32)), .val (.int (64 : Int32))] [(.int (0 : Int32)), (.ref oI), (.int (0 : Int32)), (.ref oI)])) rfl rfl (hb hby d3_163)) ?_
  show Go p.tables e below _ (T16.setTop (mkF m 164 #[.val (.ref a1), .val .null, .val (.int (0 : Int32)), .val (.int (0 : Int32)), .val (.int (64 : Int32))] [.null, (.int (0 : Int32)), (.ref oI)]))
  refine Go.by (fun _ => XS.iload X16.here hx rfl (hb hby d3_164) rfl) ?_
  show Go p.tables e below _ (T16.setTop (mkF m 166 #[.val (.ref a1), .val .null, .val (.int (0 : Int32)), .val (.int (0 : Int32)), .val (.int (64 : Int32))] [(.int (64 : Int32)), .null, (.int (0 : Int32)), (.ref oI)]))
  refine Go.by (fun _ => XS.aloadN X16.here hx rfl (hb hby d3_166) rfl rfl) ?_
  show Go p.tables e below _ (T16.setTop (mkF m 167 #[.val (.ref a1), .val .null, .val (.int (0 : Int32)), .val (.int (0 : Int32)), .val (.int (64 : Int32))] [(.ref a1), (.int (64 : Int32)), .null, (.int (0 : Int32)), (.ref oI)]))
  obtain ⟨T17, X17, st17⟩ := X16.getF hx hZ hown (host := "") (Or.inl (tw hw 24 rfl)) Via.refl f14_130 (g := (mkF m 167 #[.val (.ref a1), .val .null, .val (.int (0 : Int32)), .val (.int (0 : Int32)), .val (.int (64 : Int32))] [(.ref a1), (.int (64 : Int32)), .null, (.int (0 : Int32)), (.ref oI)])) rfl rfl (hb hby d3_167)
  refine Go.by st17 ?_
  show Go p.tables e below _ (T17.setTop (mkF m 170 #[.val (.ref a1), .val .null, .val (.int (0 : Int32)), .val (.int (0 : Int32)), .val (.int (64 : Int32))] [(.int ip), (.int (64 : Int32)), .null, (.int (0 : Int32)), (.ref oI)]))
  refine Go.by (fun _ => XS.imul X17.here hx rfl (hb hby d3_170) rfl) ?_
  show Go p.tables e below _ (T17.setTop (mkF m 171 #[.val (.ref a1), .val .null, .val (.int (0 : Int32)), .val (.int (0 : Int32)), .val (.int (64 : Int32))] [(.int ((64 : Int32) * ip)), .null, (.int (0 : Int32)), (.ref oI)]))
  obtain ⟨v18, T18, h18, X18, q18, st18⟩ := X17.callS hx hZ (y := (⟨"com/example/spotline/spotline/engine/Table", "grow", "([II)[I"⟩ : MethodName)) hown (tw hw 51 rfl) (tw hw 52 rfl) (tw hw 3 rfl) (tw hw 53 rfl) (by decide) (rm7 l Z a0 hw [] ((64 : Int32) * ip) h13 n0 Zs14 hI.1 hI.2) (g := (mkF m 171 #[.val (.ref a1), .val .null, .val (.int (0 : Int32)), .val (.int (0 : Int32)), .val (.int (64 : Int32))] [(.int ((64 : Int32) * ip)), .null, (.int (0 : Int32)), (.ref oI)])) rfl (by rw [hml]; rfl) (argsL := [.null, (.int ((64 : Int32) * ip))]) (rest := [(.int (0 : Int32)), (.ref oI)]) (lenOf pd2 rfl) rfl (hb hby d3_171) rfl (by decide) (Nat.le_of_ble_eq_true rfl) (k' := 2) (n' := 384) rfl rfl (by decide) (by decide)
  refine Go.by st18 ?_
  obtain ⟨d18, kc18, rfl, sd18, K18, Ex18, V18⟩ := q18
  have g_d18 : n0 ≤ d18 := Nat.le_trans Zs14 sd18
  have sz_d18 : h0.size ≤ d18 := Nat.le_trans f14_136.1 sd18
  have ne_a1_d18 : a1 ≠ d18 := Nat.ne_of_lt (Nat.lt_of_lt_of_le f14_125.lt sd18)
  have ne_oL_d18 : oL ≠ d18 := Nat.ne_of_lt (Nat.lt_of_lt_of_le V13.lt sd18)
  have ne_oI_d18 : oI ≠ d18 := Nat.ne_of_lt (Nat.lt_of_lt_of_le f14_134.lt sd18)
  have ne_oO_d18 : oO ≠ d18 := Nat.ne_of_lt (Nat.lt_of_lt_of_le f14_135.lt sd18)
  have ne_d11_d18 : d11 ≠ d18 := Nat.ne_of_lt (Nat.lt_of_lt_of_le f14_137.lt sd18)
  have f19_177 := f14_125.ext (keep_ext K18)
  have f19_178 := f14_126.ext (keep_ext K18)
  have f19_179 := f14_127.ext (keep_ext K18)
  have f19_180 := f14_128.ext (keep_ext K18)
  have f19_181 := f14_129.ext (keep_ext K18)
  have f19_182 := f14_130.ext (keep_ext K18)
  have f19_183 := f14_131.ext (keep_ext K18)
  have f19_184 := f14_132.ext (keep_ext K18)
  have f19_185 := f14_133.ext (keep_ext K18)
  have f19_186 := Avf.ext V13 (keep_ext K18)
  have f19_187 := Avf.ext f14_134 (keep_ext K18)
  have f19_188 := Avf.ext f14_135 (keep_ext K18)
  have f19_189 := f14_136.ext (keep_ext K18)
  have f19_190 := f14_137.ext (keep_ext K18)
  have f19_191 := Avf.ext f14_138 (keep_ext K18)
  have Zs19 : n0 ≤ h18.size := Nat.le_trans Zs14 (keep_ext K18).1
  show Go p.tables e below _ (T18.setTop (mkF m 174 #[.val (.ref a1), .val .null, .val (.int (0 : Int32)), .val (.int (0 : Int32)), .val (.int (64 : Int32))] [(.ref d18), (.int (0 : Int32)), (.ref oI)]))
  obtain ⟨T20, h20, X20, W20, V20, st20⟩ := X18.stR hx hZ f19_187 g_o.2.1 rfl rfl (sto_avf f19_187 Ov_oI (Ins.self Ex18)) (by decide) (i := 0) rfl (by decide) (g := (mkF m 174 #[.val (.ref a1), .val .null, .val (.int (0 : Int32)), .val (.int (0 : Int32)), .val (.int (64 : Int32))] [(.ref d18), (.int (0 : Int32)), (.ref oI)])) rfl rfl (hb hby d3_174)
  have f21_195 := f19_177.wr W20
  have f21_196 := f19_178.other W20 (Or.inl nn.2.1)
  have f21_197 := f19_179.other W20 (Or.inl nn.2.1)
  have f21_198 := f19_180.other W20 (Or.inl nn.2.1)
  have f21_199 := f19_181.other W20 (Or.inl nn.2.1)
  have f21_200 := f19_182.other W20 (Or.inl nn.2.1)
  have f21_201 := f19_183.other W20 (Or.inl nn.2.1)
  have f21_202 := f19_184.other W20 (Or.inl nn.2.1)
  have f21_203 := f19_185.other W20 (Or.inl nn.2.1)
  have f21_204 := Avf.other f19_186 W20 nn.2.2.2.1
  have f21_205 := Avf.other f19_188 W20 (Ne.symm nn.2.2.2.2.2)
  have f21_206 := f19_189.wr W20 (Or.inl (List.mem_of_getElem? (i := 2) rfl))
  have f21_207 := f19_190.wr W20
  have f21_208 := Avf.other f19_191 W20 (Ne.symm ne_oI_d11)
  have f21_209 := Ex18.wr W20
  have f21_210 := Avf.other V18 W20 (Ne.symm ne_oI_d18)
  have Zs21 : n0 ≤ h20.size := by rw [W20.size]; exact Zs19
  refine Go.by st20 ?_
  show Go p.tables e below _ (T20.setTop (mkF m 175 #[.val (.ref a1), .val .null, .val (.int (0 : Int32)), .val (.int (0 : Int32)), .val (.int (64 : Int32))] []))
  refine Go.by (fun _ => XS.aloadN X20.here hx rfl (hb hby d3_175) rfl rfl) ?_
  show Go p.tables e below _ (T20.setTop (mkF m 176 #[.val (.ref a1), .val .null, .val (.int (0 : Int32)), .val (.int (0 : Int32)), .val (.int (64 : Int32))] [(.ref a1)]))
  obtain ⟨T22, X22, st22⟩ := X20.getF hx hZ hown (host := "") (Or.inl (tw hw 20 rfl)) Via.refl f21_198 (g := (mkF m 176 #[.val (.ref a1), .val .null, .val (.int (0 : Int32)), .val (.int (0 : Int32)), .val (.int (64 : Int32))] [(.ref a1)])) rfl rfl (hb hby d3_176)
  refine Go.by st22 ?_
  show Go p.tables e below _ (T22.setTop (mkF m 179 #[.val (.ref a1), .val .null, .val (.int (0 : Int32)), .val (.int (0 : Int32)), .val (.int (64 : Int32))] [(.ref oO)]))
  refine Go.by (fun _ => XS.iloadN X22.here hx rfl (hb hby d3_179) rfl) ?_
  show Go p.tables e below _ (T22.setTop (mkF m 180 #[.val (.ref a1), .val .null, .val (.int (0 : Int32)), .val (.int (0 : Int32)), .val (.int (64 : Int32))] [(.int (0 : Int32)), (.ref oO)]))
  refine Go.by (fun _ => XS.aloadN X22.here hx rfl (hb hby d3_180) rfl rfl) ?_
  show Go p.tables e below _ (T22.setTop (mkF m 181 #[.val (.ref a1), .val .null, .val (.int (0 : Int32)), .val (.int (0 : Int32)), .val (.int (64 : Int32))] [(.ref a1), (.int (0 : Int32)), (.ref oO)]))
  obtain ⟨T23, X23, st23⟩ := X22.getF hx hZ hown (host := "") (Or.inl (tw hw 20 rfl)) Via.refl f21_198 (g := (mkF m 181 #[.val (.ref a1), .val .null, .val (.int (0 : Int32)), .val (.int (0 : Int32)), .val (.int (64 : Int32))] [(.ref a1), (.int (0 : Int32)), (.ref oO)])) rfl rfl (hb hby d3_181)
  refine Go.by st23 ?_
  show Go p.tables e below _ (T23.setTop (mkF m 184 #[.val (.ref a1), .val .null, .val (.int (0 : Int32)), .val (.int (0 : Int32)), .val (.int (64 : Int32))] [(.ref oO), (.int (0 : Int32)), (.ref oO)]))
  refine Go.by (fun _ => XS.iloadN X23.here hx rfl (hb hby d3_184) rfl) ?_
  show Go p.tables e below _ (T23.setTop (mkF m 185 #[.val (.ref a1), .val .null, .val (.int (0 : Int32)), .val (.int (0 : Int32)), .val (.int (64 : Int32))] [(.int (0 : Int32)), (.ref oO), (.int (0 : Int32)), (.ref oO)]))
  refine Go.by (X23.ldA hx hZ f21_205 rfl (by decide) (i := 0) rfl (by decide) (v := .null) rfl (g := (mkF m 185 #[.val (.ref a1), .val .null, .val (.int (0 : Int32)), .val (.int (0 : Int32)), .val (.int (64 : Int32))] [(.int (0 : Int32)), (.ref oO), (.int (0 : Int32)), (.ref oO)])) rfl rfl (hb hby d3_185)) ?_
  show Go p.tables e below _ (T23.setTop (mkF m 186 #[.val (.ref a1), .val .null, .val (.int (0 : Int32)), .val (.int (0 : Int32)), .val (.int (64 : Int32))] [.null, (.int (0 : Int32)), (.ref oO)]))
  refine Go.by (fun _ => XS.ifnonnullNo X23.here hx rfl (hb hby d3_186) rfl) ?_
  show Go p.tables e below _ (T23.setTop (mkF m 189 #[.val (.ref a1), .val .null, .val (.int (0 : Int32)), .val (.int (0 : Int32)), .val (.int (64 : Int32))] [(.int (0 : Int32)), (.ref oO)]))
  refine Go.by (fun _ => XS.iload X23.here hx rfl (hb hby d3_189) rfl) ?_
  show Go p.tables e below _ (T23.setTop (mkF m 191 #[.val (.ref a1), .val .null, .val (.int (0 : Int32)), .val (.int (0 : Int32)), .val (.int (64 : Int32))] [(.int (64 : Int32)), (.int (0 : Int32)), (.ref oO)]))
  refine Go.by (fun _ => XS.aloadN X23.here hx rfl (hb hby d3_191) rfl rfl) ?_
  show Go p.tables e below _ (T23.setTop (mkF m 192 #[.val (.ref a1), .val .null, .val (.int (0 : Int32)), .val (.int (0 : Int32)), .val (.int (64 : Int32))] [(.ref a1), (.int (64 : Int32)), (.int (0 : Int32)), (.ref oO)]))
  obtain ⟨T24, X24, st24⟩ := X23.getF hx hZ hown (host := "") (Or.inl (tw hw 26 rfl)) Via.refl f21_201 (g := (mkF m 192 #[.val (.ref a1), .val .null, .val (.int (0 : Int32)), .val (.int (0 : Int32)), .val (.int (64 : Int32))] [(.ref a1), (.int (64 : Int32)), (.int (0 : Int32)), (.ref oO)])) rfl rfl (hb hby d3_192)
  refine Go.by st24 ?_
  show Go p.tables e below _ (T24.setTop (mkF m 195 #[.val (.ref a1), .val .null, .val (.int (0 : Int32)), .val (.int (0 : Int32)), .val (.int (64 : Int32))] [(.int (1 : Int32)), (.int (64 : Int32)), (.int (0 : Int32)), (.ref oO)]))
  refine Go.by (fun _ => XS.imul X24.here hx rfl (hb hby d3_195) rfl) ?_
  show Go p.tables e below _ (T24.setTop (mkF m 196 #[.val (.ref a1), .val .null, .val (.int (0 : Int32)), .val (.int (0 : Int32)), .val (.int (64 : Int32))] [(.int (64 : Int32)), (.int (0 : Int32)), (.ref oO)]))
  obtain ⟨T25, h25, kc25, b25, X25, g25, E25, A25, V25, Ov25, st25⟩ := X24.newR hx hZ hown (tw hw 56 rfl) (tw hw 57 rfl) (g := (mkF m 196 #[.val (.ref a1), .val .null, .val (.int (0 : Int32)), .val (.int (0 : Int32)), .val (.int (64 : Int32))] [(.int (64 : Int32)), (.int (0 : Int32)), (.ref oO)])) rfl (hb hby d3_196) rfl (by decide) (sz := 64) (cap := 64) (k' := 3) (n' := 448) rfl (Nat.le_refl _) (by decide) rfl rfl (by decide) (by decide) (ad := "[Ljava/lang/Object;") (by decide)
  have g_b25 : n0 ≤ b25 := by rw [g25]; exact Zs21
  have sz_b25 : h0.size ≤ b25 := by rw [g25]; exact f21_206.1
  have ne_a1_b25 : a1 ≠ b25 := Nat.ne_of_lt (by rw [g25]; exact f21_195.lt)
  have ne_oL_b25 : oL ≠ b25 := Nat.ne_of_lt (by rw [g25]; exact f21_204.lt)
  have ne_oI_b25 : oI ≠ b25 := Nat.ne_of_lt (by rw [g25]; exact V20.lt)
  have ne_oO_b25 : oO ≠ b25 := Nat.ne_of_lt (by rw [g25]; exact f21_205.lt)
  have ne_d11_b25 : d11 ≠ b25 := Nat.ne_of_lt (by rw [g25]; exact f21_207.lt)
  have ne_d18_b25 : d18 ≠ b25 := Nat.ne_of_lt (by rw [g25]; exact f21_209.lt)
  have f26_250 := f21_195.ext E25
  have f26_251 := f21_196.ext E25
  have f26_252 := f21_197.ext E25
  have f26_253 := f21_198.ext E25
  have f26_254 := f21_199.ext E25
  have f26_255 := f21_200.ext E25
  have f26_256 := f21_201.ext E25
  have f26_257 := f21_202.ext E25
  have f26_258 := f21_203.ext E25
  have f26_259 := Avf.ext f21_204 E25
  have f26_260 := Avf.ext V20 E25
  have f26_261 := Avf.ext f21_205 E25
  have f26_262 := f21_206.ext E25
  have f26_263 := f21_207.ext E25
  have f26_264 := Avf.ext f21_208 E25
  have f26_265 := f21_209.ext E25
  have f26_266 := Avf.ext f21_210 E25
  have Zs26 : n0 ≤ h25.size := Nat.le_trans Zs21 E25.1
  refine Go.by st25 ?_
  show Go p.tables e below _ (T25.setTop (mkF m 199 #[.val (.ref a1), .val .null, .val (.int (0 : Int32)), .val (.int (0 : Int32)), .val (.int (64 : Int32))] [(.ref b25), (.int (0 : Int32)), (.ref oO)]))
  refine Go.by (fun _ => XS.goto X25.here hx rfl (pc0 := 199) (pc' := 218) rfl (hb hby d3_199) (by decide) (by decide)) ?_
  show Go p.tables e below _ (T25.setTop (mkF m 218 #[.val (.ref a1), .val .null, .val (.int (0 : Int32)), .val (.int (0 : Int32)), .val (.int (64 : Int32))] [(.ref b25), (.int (0 : Int32)), (.ref oO)]))
  obtain ⟨T27, h27, X27, W27, V27, st27⟩ := X25.stR hx hZ f26_261 g_o.2.2 rfl rfl (sto_avf f26_261 Ov_oO (Ins.self A25)) (by decide) (i := 0) rfl (by decide) (g := (mkF m 218 #[.val (.ref a1), .val .null, .val (.int (0 : Int32)), .val (.int (0 : Int32)), .val (.int (64 : Int32))] [(.ref b25), (.int (0 : Int32)), (.ref oO)])) rfl rfl (hb hby d3_218)
  have f28_273 := f26_250.wr W27
  have f28_274 := f26_251.other W27 (Or.inl nn.2.2.1)
  have f28_275 := f26_252.other W27 (Or.inl nn.2.2.1)
  have f28_276 := f26_253.other W27 (Or.inl nn.2.2.1)
  have f28_277 := f26_254.other W27 (Or.inl nn.2.2.1)
  have f28_278 := f26_255.other W27 (Or.inl nn.2.2.1)
  have f28_279 := f26_256.other W27 (Or.inl nn.2.2.1)
  have f28_280 := f26_257.other W27 (Or.inl nn.2.2.1)
  have f28_281 := f26_258.other W27 (Or.inl nn.2.2.1)
  have f28_282 := Avf.other f26_259 W27 nn.2.2.2.2.1
  have f28_283 := Avf.other f26_260 W27 nn.2.2.2.2.2
  have f28_284 := f26_262.wr W27 (Or.inl (List.mem_of_getElem? (i := 3) rfl))
  have f28_285 := f26_263.wr W27
  have f28_286 := Avf.other f26_264 W27 (Ne.symm ne_oO_d11)
  have f28_287 := f26_265.wr W27
  have f28_288 := Avf.other f26_266 W27 (Ne.symm ne_oO_d18)
  have f28_289 := A25.wr W27
  have f28_290 := Avf.other V25 W27 (Ne.symm ne_oO_b25)
  have Zs28 : n0 ≤ h27.size := by rw [W27.size]; exact Zs26
  refine Go.by st27 ?_
  show Go p.tables e below _ (T27.setTop (mkF m 219 #[.val (.ref a1), .val .null, .val (.int (0 : Int32)), .val (.int (0 : Int32)), .val (.int (64 : Int32))] []))
  refine Go.by (fun _ => XS.aloadN X27.here hx rfl (hb hby d3_219) rfl rfl) ?_
  show Go p.tables e below _ (T27.setTop (mkF m 220 #[.val (.ref a1), .val .null, .val (.int (0 : Int32)), .val (.int (0 : Int32)), .val (.int (64 : Int32))] [(.ref a1)]))
  refine Go.by (fun _ => XS.iloadN X27.here hx rfl (hb hby d3_220) rfl) ?_
  show Go p.tables e below _ (T27.setTop (mkF m 221 #[.val (.ref a1), .val .null, .val (.int (0 : Int32)), .val (.int (0 : Int32)), .val (.int (64 : Int32))] [(.int (0 : Int32)), (.ref a1)]))
  refine Go.by (X27.ldcInt hx hZ hown (tw hw 38 rfl) (g := (mkF m 221 #[.val (.ref a1), .val .null, .val (.int (0 : Int32)), .val (.int (0 : Int32)), .val (.int (64 : Int32))] [(.int (0 : Int32)), (.ref a1)])) rfl (hb hby d3_221)) ?_
  show Go p.tables e below _ (T27.setTop (mkF m 223 #[.val (.ref a1), .val .null, .val (.int (0 : Int32)), .val (.int (0 : Int32)), .val (.int (64 : Int32))] [(.int (65536 : Int32)), (.int (0 : Int32)), (.ref a1)]))
  refine Go.by (fun _ => XS.imul X27.here hx rfl (hb hby d3_223) rfl) ?_
  show Go p.tables e below _ (T27.setTop (mkF m 224 #[.val (.ref a1), .val .null, .val (.int (0 : Int32)), .val (.int (0 : Int32)), .val (.int (64 : Int32))] [(.int (0 : Int32)), (.ref a1)]))
  refine Go.by (fun _ => XS.iload X27.here hx rfl (hb hby d3_224) rfl) ?_
  show Go p.tables e below _ (T27.setTop (mkF m 226 #[.val (.ref a1), .val .null, .val (.int (0 : Int32)), .val (.int (0 : Int32)), .val (.int (64 : Int32))] [(.int (64 : Int32)), (.int (0 : Int32)), (.ref a1)]))
  refine Go.by (fun _ => XS.iadd X27.here hx rfl (hb hby d3_226) rfl) ?_
  show Go p.tables e below _ (T27.setTop (mkF m 227 #[.val (.ref a1), .val .null, .val (.int (0 : Int32)), .val (.int (0 : Int32)), .val (.int (64 : Int32))] [(.int (64 : Int32)), (.ref a1)]))
  obtain ⟨T29, h29, X29, W29, st29⟩ := X27.putF hx hZ hown (host := "") (Or.inl (tw hw 36 rfl)) Via.refl f28_281 f28_273 g_a1 (Or.inl (tw hw 37 rfl)) (tw hw 2 rfl) (ty := .int) (by decide) rfl rfl (g := (mkF m 227 #[.val (.ref a1), .val .null, .val (.int (0 : Int32)), .val (.int (0 : Int32)), .val (.int (64 : Int32))] [(.int (64 : Int32)), (.ref a1)])) rfl rfl (hb hby d3_227)
  have Fw29 := f28_281.same W29
  have f30_308 := f28_273.wr W29
  have f30_309 := f28_274.other W29 (Or.inr (slot_ne (Or.inl (tw hw 13 rfl)) (Or.inl (tw hw 37 rfl)) (by decide) (t := (.array (.array .long))) (t' := .int) (by decide) (by decide)))
  have f30_310 := f28_275.other W29 (Or.inr (slot_ne (Or.inl (tw hw 17 rfl)) (Or.inl (tw hw 37 rfl)) (by decide) (t := (.array (.array .int))) (t' := .int) (by decide) (by decide)))
  have f30_311 := f28_276.other W29 (Or.inr (slot_ne (Or.inl (tw hw 21 rfl)) (Or.inl (tw hw 37 rfl)) (by decide) (t := (.array (.array (.object "java/lang/Object")))) (t' := .int) (by decide) (by decide)))
  have f30_312 := f28_277.other W29 (Or.inr (slot_ne (Or.inr (tw hw 23 rfl)) (Or.inl (tw hw 37 rfl)) (by decide) (t := .int) (t' := .int) (by decide) (by decide)))
  have f30_313 := f28_278.other W29 (Or.inr (slot_ne (Or.inr (tw hw 25 rfl)) (Or.inl (tw hw 37 rfl)) (by decide) (t := .int) (t' := .int) (by decide) (by decide)))
  have f30_314 := f28_279.other W29 (Or.inr (slot_ne (Or.inr (tw hw 27 rfl)) (Or.inl (tw hw 37 rfl)) (by decide) (t := .int) (t' := .int) (by decide) (by decide)))
  have f30_315 := f28_280.other W29 (Or.inr (slot_ne (Or.inl (tw hw 34 rfl)) (Or.inl (tw hw 37 rfl)) (by decide) (t := .int) (t' := .int) (by decide) (by decide)))
  have f30_316 := Avf.other f28_282 W29 (Ne.symm nn.1)
  have f30_317 := Avf.other f28_283 W29 (Ne.symm nn.2.1)
  have f30_318 := Avf.other V27 W29 (Ne.symm nn.2.2.1)
  have f30_319 := f28_284.wr W29 (Or.inl (List.mem_of_getElem? (i := 0) rfl))
  have f30_320 := f28_285.wr W29
  have f30_321 := Avf.other f28_286 W29 (Ne.symm ne_a1_d11)
  have f30_322 := f28_287.wr W29
  have f30_323 := Avf.other f28_288 W29 (Ne.symm ne_a1_d18)
  have f30_324 := f28_289.wr W29
  have f30_325 := Avf.other f28_290 W29 (Ne.symm ne_a1_b25)
  have Zs30 : n0 ≤ h29.size := by rw [W29.size]; exact Zs28
  refine Go.by st29 ?_
  show Go p.tables e below _ (T29.setTop (mkF m 230 #[.val (.ref a1), .val .null, .val (.int (0 : Int32)), .val (.int (0 : Int32)), .val (.int (64 : Int32))] []))
  refine Go.by (fun _ => XS.aloadN X29.here hx rfl (hb hby d3_230) rfl rfl) ?_
  show Go p.tables e below _ (T29.setTop (mkF m 231 #[.val (.ref a1), .val .null, .val (.int (0 : Int32)), .val (.int (0 : Int32)), .val (.int (64 : Int32))] [(.ref a1)]))
  obtain ⟨T31, X31, st31⟩ := X29.getF hx hZ hown (host := "") (Or.inl (tw hw 26 rfl)) Via.refl f30_314 (g := (mkF m 231 #[.val (.ref a1), .val .null, .val (.int (0 : Int32)), .val (.int (0 : Int32)), .val (.int (64 : Int32))] [(.ref a1)])) rfl rfl (hb hby d3_231)
  refine Go.by st31 ?_
  show Go p.tables e below _ (T31.setTop (mkF m 234 #[.val (.ref a1), .val .null, .val (.int (0 : Int32)), .val (.int (0 : Int32)), .val (.int (64 : Int32))] [(.int (1 : Int32))]))
  refine Go.by (fun _ => XS.ifNo X31.here hx rfl (hb hby d3_234) rfl ((if0 _ _).trans (tlt (by decide)).2.2.2)) ?_
  show Go p.tables e below _ (T31.setTop (mkF m 237 #[.val (.ref a1), .val .null, .val (.int (0 : Int32)), .val (.int (0 : Int32)), .val (.int (64 : Int32))] []))
  refine Go.by (fun _ => XS.aloadN X31.here hx rfl (hb hby d3_237) rfl rfl) ?_
  show Go p.tables e below _ (T31.setTop (mkF m 238 #[.val (.ref a1), .val .null, .val (.int (0 : Int32)), .val (.int (0 : Int32)), .val (.int (64 : Int32))] [(.ref a1)]))
  obtain ⟨T32, X32, st32⟩ := X31.getF hx hZ hown (host := "") (Or.inl (tw hw 20 rfl)) Via.refl f30_311 (g := (mkF m 238 #[.val (.ref a1), .val .null, .val (.int (0 : Int32)), .val (.int (0 : Int32)), .val (.int (64 : Int32))] [(.ref a1)])) rfl rfl (hb hby d3_238)
  refine Go.by st32 ?_
  show Go p.tables e below _ (T32.setTop (mkF m 241 #[.val (.ref a1), .val .null, .val (.int (0 : Int32)), .val (.int (0 : Int32)), .val (.int (64 : Int32))] [(.ref oO)]))
  refine Go.by (fun _ => XS.iloadN X32.here hx rfl (hb hby d3_241) rfl) ?_
  show Go p.tables e below _ (T32.setTop (mkF m 242 #[.val (.ref a1), .val .null, .val (.int (0 : Int32)), .val (.int (0 : Int32)), .val (.int (64 : Int32))] [(.int (0 : Int32)), (.ref oO)]))
  refine Go.by (X32.ldA hx hZ f30_318 rfl (by decide) (i := 0) rfl (by decide) (v := (.ref b25)) rfl (g := (mkF m 242 #[.val (.ref a1), .val .null, .val (.int (0 : Int32)), .val (.int (0 : Int32)), .val (.int (64 : Int32))] [(.int (0 : Int32)), (.ref oO)])) rfl rfl (hb hby d3_242)) ?_
  show Go p.tables e below _ (T32.setTop (mkF m 243 #[.val (.ref a1), .val .null, .val (.int (0 : Int32)), .val (.int (0 : Int32)), .val (.int (64 : Int32))] [(.ref b25)]))
  refine Go.by (fun _ => XS.iloadN X32.here hx rfl (hb hby d3_243) rfl) ?_
  show Go p.tables e below _ (T32.setTop (mkF m 244 #[.val (.ref a1), .val .null, .val (.int (0 : Int32)), .val (.int (0 : Int32)), .val (.int (64 : Int32))] [(.int (0 : Int32)), (.ref b25)]))
  refine Go.by (X32.ldcInt hx hZ hown (tw hw 64 rfl) (g := (mkF m 244 #[.val (.ref a1), .val .null, .val (.int (0 : Int32)), .val (.int (0 : Int32)), .val (.int (64 : Int32))] [(.int (0 : Int32)), (.ref b25)])) rfl (hb hby d3_244)) ?_
  show Go p.tables e below _ (T32.setTop (mkF m 246 #[.val (.ref a1), .val .null, .val (.int (0 : Int32)), .val (.int (0 : Int32)), .val (.int (64 : Int32))] [(.int (65535 : Int32)), (.int (0 : Int32)), (.ref b25)]))
  refine Go.by (fun _ => XS.iand X32.here hx rfl (hb hby d3_246) rfl) ?_
  show Go p.tables e below _ (T32.setTop (mkF m 247 #[.val (.ref a1), .val .null, .val (.int (0 : Int32)), .val (.int (0 : Int32)), .val (.int (64 : Int32))] [(.int (0 : Int32)), (.ref b25)]))
  refine Go.by (fun _ => XS.aloadN X32.here hx rfl (hb hby d3_247) rfl rfl) ?_
  show Go p.tables e below _ (T32.setTop (mkF m 248 #[.val (.ref a1), .val .null, .val (.int (0 : Int32)), .val (.int (0 : Int32)), .val (.int (64 : Int32))] [.null, (.int (0 : Int32)), (.ref b25)]))
  obtain ⟨T33, h33, X33, W33, V33, st33⟩ := X32.stR hx hZ f30_325 g_b25 rfl rfl (Or.inl rfl) (by decide) (i := 0) rfl (by decide) (g := (mkF m 248 #[.val (.ref a1), .val .null, .val (.int (0 : Int32)), .val (.int (0 : Int32)), .val (.int (64 : Int32))] [.null, (.int (0 : Int32)), (.ref b25)])) rfl rfl (hb hby d3_248)
  have f34_354 := f30_308.wr W33
  have f34_355 := f30_309.other W33 (Or.inl ne_a1_b25)
  have f34_356 := f30_310.other W33 (Or.inl ne_a1_b25)
  have f34_357 := f30_311.other W33 (Or.inl ne_a1_b25)
  have f34_358 := f30_312.other W33 (Or.inl ne_a1_b25)
  have f34_359 := f30_313.other W33 (Or.inl ne_a1_b25)
  have f34_360 := f30_314.other W33 (Or.inl ne_a1_b25)
  have f34_361 := f30_315.other W33 (Or.inl ne_a1_b25)
  have f34_362 := Fw29.other W33 (Or.inl ne_a1_b25)
  have f34_363 := Avf.other f30_316 W33 ne_oL_b25
  have f34_364 := Avf.other f30_317 W33 ne_oI_b25
  have f34_365 := Avf.other f30_318 W33 ne_oO_b25
  have f34_366 := f30_319.wr W33 (Or.inr sz_b25)
  have f34_367 := f30_320.wr W33
  have f34_368 := Avf.other f30_321 W33 ne_d11_b25
  have f34_369 := f30_322.wr W33
  have f34_370 := Avf.other f30_323 W33 ne_d18_b25
  have f34_371 := f30_324.wr W33
  have Zs34 : n0 ≤ h33.size := by rw [W33.size]; exact Zs30
  refine Go.by st33 ?_
  show Go p.tables e below _ (T33.setTop (mkF m 249 #[.val (.ref a1), .val .null, .val (.int (0 : Int32)), .val (.int (0 : Int32)), .val (.int (64 : Int32))] []))
  refine Go.by (fun _ => XS.aloadN X33.here hx rfl (hb hby d3_249) rfl rfl) ?_
  show Go p.tables e below _ (T33.setTop (mkF m 250 #[.val (.ref a1), .val .null, .val (.int (0 : Int32)), .val (.int (0 : Int32)), .val (.int (64 : Int32))] [(.ref a1)]))
  refine Go.by (fun _ => XS.dup X33.here hx rfl (hb hby d3_250) rfl rfl) ?_
  show Go p.tables e below _ (T33.setTop (mkF m 251 #[.val (.ref a1), .val .null, .val (.int (0 : Int32)), .val (.int (0 : Int32)), .val (.int (64 : Int32))] [(.ref a1), (.ref a1)]))
  obtain ⟨T35, X35, st35⟩ := X33.getF hx hZ hown (host := "") (Or.inl (tw hw 33 rfl)) Via.refl f34_361 (g := (mkF m 251 #[.val (.ref a1), .val .null, .val (.int (0 : Int32)), .val (.int (0 : Int32)), .val (.int (64 : Int32))] [(.ref a1), (.ref a1)])) rfl rfl (hb hby d3_251)
  refine Go.by st35 ?_
  show Go p.tables e below _ (T35.setTop (mkF m 254 #[.val (.ref a1), .val .null, .val (.int (0 : Int32)), .val (.int (0 : Int32)), .val (.int (64 : Int32))] [(.int (0 : Int32)), (.ref a1)]))
  refine Go.by (fun _ => XS.iconst X35.here hx rfl (hb hby d3_254)) ?_
  show Go p.tables e below _ (T35.setTop (mkF m 255 #[.val (.ref a1), .val .null, .val (.int (0 : Int32)), .val (.int (0 : Int32)), .val (.int (64 : Int32))] [(.int (1 : Int32)), (.int (0 : Int32)), (.ref a1)]))
  refine Go.by (fun _ => XS.iadd X35.here hx rfl (hb hby d3_255) rfl) ?_
  show Go p.tables e below _ (T35.setTop (mkF m 256 #[.val (.ref a1), .val .null, .val (.int (0 : Int32)), .val (.int (0 : Int32)), .val (.int (64 : Int32))] [(.int (1 : Int32)), (.ref a1)]))
  obtain ⟨T36, h36, X36, W36, st36⟩ := X35.putF hx hZ hown (host := "") (Or.inl (tw hw 33 rfl)) Via.refl f34_361 f34_354 g_a1 (Or.inl (tw hw 34 rfl)) (tw hw 2 rfl) (ty := .int) (by decide) rfl rfl (g := (mkF m 256 #[.val (.ref a1), .val .null, .val (.int (0 : Int32)), .val (.int (0 : Int32)), .val (.int (64 : Int32))] [(.int (1 : Int32)), (.ref a1)])) rfl rfl (hb hby d3_256)
  have Fw36 := f34_361.same W36
  have f37_388 := f34_354.wr W36
  have f37_389 := f34_355.other W36 (Or.inr (slot_ne (Or.inl (tw hw 13 rfl)) (Or.inl (tw hw 34 rfl)) (by decide) (t := (.array (.array .long))) (t' := .int) (by decide) (by decide)))
  have f37_390 := f34_356.other W36 (Or.inr (slot_ne (Or.inl (tw hw 17 rfl)) (Or.inl (tw hw 34 rfl)) (by decide) (t := (.array (.array .int))) (t' := .int) (by decide) (by decide)))
  have f37_391 := f34_357.other W36 (Or.inr (slot_ne (Or.inl (tw hw 21 rfl)) (Or.inl (tw hw 34 rfl)) (by decide) (t := (.array (.array (.object "java/lang/Object")))) (t' := .int) (by decide) (by decide)))
  have f37_392 := f34_358.other W36 (Or.inr (slot_ne (Or.inr (tw hw 23 rfl)) (Or.inl (tw hw 34 rfl)) (by decide) (t := .int) (t' := .int) (by decide) (by decide)))
  have f37_393 := f34_359.other W36 (Or.inr (slot_ne (Or.inr (tw hw 25 rfl)) (Or.inl (tw hw 34 rfl)) (by decide) (t := .int) (t' := .int) (by decide) (by decide)))
  have f37_394 := f34_360.other W36 (Or.inr (slot_ne (Or.inr (tw hw 27 rfl)) (Or.inl (tw hw 34 rfl)) (by decide) (t := .int) (t' := .int) (by decide) (by decide)))
  have f37_395 := f34_362.other W36 (Or.inr (slot_ne (Or.inl (tw hw 37 rfl)) (Or.inl (tw hw 34 rfl)) (by decide) (t := .int) (t' := .int) (by decide) (by decide)))
  have f37_396 := Avf.other f34_363 W36 (Ne.symm nn.1)
  have f37_397 := Avf.other f34_364 W36 (Ne.symm nn.2.1)
  have f37_398 := Avf.other f34_365 W36 (Ne.symm nn.2.2.1)
  have f37_399 := f34_366.wr W36 (Or.inl (List.mem_of_getElem? (i := 0) rfl))
  have f37_400 := f34_367.wr W36
  have f37_401 := Avf.other f34_368 W36 (Ne.symm ne_a1_d11)
  have f37_402 := f34_369.wr W36
  have f37_403 := Avf.other f34_370 W36 (Ne.symm ne_a1_d18)
  have f37_404 := f34_371.wr W36
  have f37_405 := Avf.other V33 W36 (Ne.symm ne_a1_b25)
  have Zs37 : n0 ≤ h36.size := by rw [W36.size]; exact Zs34
  refine Go.by st36 ?_
  show Go p.tables e below _ (T36.setTop (mkF m 259 #[.val (.ref a1), .val .null, .val (.int (0 : Int32)), .val (.int (0 : Int32)), .val (.int (64 : Int32))] []))
  refine Go.by (fun _ => XS.iloadN X36.here hx rfl (hb hby d3_259) rfl) ?_
  show Go p.tables e below _ (T36.setTop (mkF m 260 #[.val (.ref a1), .val .null, .val (.int (0 : Int32)), .val (.int (0 : Int32)), .val (.int (64 : Int32))] [(.int (0 : Int32))]))
  exact Go.retI X36 hx hlk hret (hb hby d3_260) (by decide) (by decide) ⟨d11, d18, b25, kc11, kc18, kc25, rfl, sz_d11, sz_d18, sz_b25, ne_d11_b25, ne_d18_b25, ne_d11_d18, f37_399, f37_388, f37_389, f37_390, f37_391, f37_392, f37_393, f37_394, Fw36, f37_395, Avf.cong f37_396 (fun i hi => by match i with | 0 => rfl | i + 1 => rfl), Avf.cong f37_397 (fun i hi => by match i with | 0 => rfl | i + 1 => rfl), Avf.cong f37_398 (fun i hi => by match i with | 0 => rfl | i + 1 => rfl), f37_401, f37_403, Avf.cong f37_405 (fun i hi => by match i with | 0 => rfl | i + 1 => rfl)⟩
abbrev Rm3_01 : Room := { frames := 0, cells := 0, slots := 0, locals := 0 }
set_option maxRecDepth 65536 in
set_option maxHeartbeats 40000000 in
theorem rm3_01 (l : Launch) (Z : State) (a0 : Array Value) (hw : ∀ d ∈ tables_1, d.before a0 Z = true) (ws : List Jvm.Cond) (a1 : Addr) (oL oI oO dL : Addr) (kL : ClassId) (lp ip : Int32) (h0 : Heap) (n0 : Nat) (Z0 : n0 ≤ h0.size) (E_a1 : Exa Z h0 a1 "com/example/spotline/spotline/engine/Table") (g_a1 : n0 ≤ a1) (F_longs : Fld Z h0 a1 "com/example/spotline/spotline/engine/Table" "longs" "[[J" (.ref oL)) (F_ints : Fld Z h0 a1 "com/example/spotline/spotline/engine/Table" "ints" "[[I" (.ref oI)) (F_objects : Fld Z h0 a1 "com/example/spotline/spotline/engine/Table" "objects" "[[Ljava/lang/Object;" (.ref oO)) (F_longsPerRow : Fld Z h0 a1 "com/example/spotline/spotline/engine/Table" "longsPerRow" "I" (.int lp)) (F_intsPerRow : Fld Z h0 a1 "com/example/spotline/spotline/engine/Table" "intsPerRow" "I" (.int ip)) (F_objectsPerRow : Fld Z h0 a1 "com/example/spotline/spotline/engine/Table" "objectsPerRow" "I" (.int (0 : Int32))) (F_size : Fld Z h0 a1 "com/example/spotline/spotline/engine/Table" "size" "I" (.int (1 : Int32))) (F_capacity : Fld Z h0 a1 "com/example/spotline/spotline/engine/Table" "capacity" "I" (.int (64 : Int32))) (V_oL : Avf Z h0 oL kL (.array .long) 16 (fun i => if i = 0 then (.ref dL) else .null)) :
    Met l Z n0 (⟨"com/example/spotline/spotline/engine/Table", "add", "(Ljava/lang/Object;)I"⟩ : MethodName) prog_40_method_3_code 5 (some .int) ws Rm3_01 #[(.ref a1), .null] h0 (fun v h => v = some (.int (1 : Int32)) ∧ Keep h0 h [a1] ∧ Exa Z h a1 "com/example/spotline/spotline/engine/Table" ∧ Fld Z h a1 "com/example/spotline/spotline/engine/Table" "longs" "[[J" (.ref oL) ∧ Fld Z h a1 "com/example/spotline/spotline/engine/Table" "ints" "[[I" (.ref oI) ∧ Fld Z h a1 "com/example/spotline/spotline/engine/Table" "objects" "[[Ljava/lang/Object;" (.ref oO) ∧ Fld Z h a1 "com/example/spotline/spotline/engine/Table" "longsPerRow" "I" (.int lp) ∧ Fld Z h a1 "com/example/spotline/spotline/engine/Table" "intsPerRow" "I" (.int ip) ∧ Fld Z h a1 "com/example/spotline/spotline/engine/Table" "objectsPerRow" "I" (.int (0 : Int32)) ∧ Fld Z h a1 "com/example/spotline/spotline/engine/Table" "size" "I" (.int (2 : Int32)) ∧ Fld Z h a1 "com/example/spotline/spotline/engine/Table" "capacity" "I" (.int (64 : Int32))) := by
  refine enter (Ls := #[.val (.ref a1), .val .null, .unset, .unset, .unset]) (plainFor_of_name pn0) (fun m => by first | (simp [entryFrame, mkF, argsToLocals, Value.category]; done) | rfl) ?_
  intro p e s m below meth c T0 hx hby hml hown hnm hret hlk hZ X0
  have K0 := Keep.refl h0 [a1]
  show Go p.tables e below _ (T0.setTop (mkF m 0 #[.val (.ref a1), .val .null, .unset, .unset, .unset] []))
  refine Go.by (fun _ => XS.aloadN X0.here hx rfl (hb hby d3_0) rfl rfl) ?_
  show Go p.tables e below _ (T0.setTop (mkF m 1 #[.val (.ref a1), .val .null, .unset, .unset, .unset] [(.ref a1)]))
  obtain ⟨T1, X1, st1⟩ := X0.getF hx hZ hown (host := "") (Or.inl (tw hw 33 rfl)) Via.refl F_size (g := (mkF m 1 #[.val (.ref a1), .val .null, .unset, .unset, .unset] [(.ref a1)])) rfl rfl (hb hby d3_1)
  refine Go.by st1 ?_
  show Go p.tables e below _ (T1.setTop (mkF m 4 #[.val (.ref a1), .val .null, .unset, .unset, .unset] [(.int (1 : Int32))]))
  refine Go.by (X1.ldcInt hx hZ hown (tw hw 35 rfl) (g := (mkF m 4 #[.val (.ref a1), .val .null, .unset, .unset, .unset] [(.int (1 : Int32))])) rfl (hb hby d3_4)) ?_
  show Go p.tables e below _ (T1.setTop (mkF m 6 #[.val (.ref a1), .val .null, .unset, .unset, .unset] [(.int (2147483647 : Int32)), (.int (1 : Int32))]))
  refine Go.by (fun _ => XS.icmpYes X1.here hx rfl (pc0 := 6) (pc' := 26) rfl (hb hby d3_6) rfl (feq (by decide)).2 (by decide) (by decide)) ?_
  show Go p.tables e below _ (T1.setTop (mkF m 26 #[.val (.ref a1), .val .null, .unset, .unset, .unset] []))
  refine Go.by (fun _ => XS.aloadN X1.here hx rfl (hb hby d3_26) rfl rfl) ?_
  show Go p.tables e below _ (T1.setTop (mkF m 27 #[.val (.ref a1), .val .null, .unset, .unset, .unset] [(.ref a1)]))
  obtain ⟨T2, X2, st2⟩ := X1.getF hx hZ hown (host := "") (Or.inl (tw hw 33 rfl)) Via.refl F_size (g := (mkF m 27 #[.val (.ref a1), .val .null, .unset, .unset, .unset] [(.ref a1)])) rfl rfl (hb hby d3_27)
  refine Go.by st2 ?_
  show Go p.tables e below _ (T2.setTop (mkF m 30 #[.val (.ref a1), .val .null, .unset, .unset, .unset] [(.int (1 : Int32))]))
  refine Go.by (fun _ => XS.istoreN X2.here hx rfl (hb hby d3_30) rfl (l' := #[.val (.ref a1), .val .null, .val (.int (1 : Int32)), .unset, .unset]) rfl) ?_
  show Go p.tables e below _ (T2.setTop (mkF m 31 #[.val (.ref a1), .val .null, .val (.int (1 : Int32)), .unset, .unset] []))
  refine Go.by (fun _ => XS.iloadN X2.here hx rfl (hb hby d3_31) rfl) ?_
  show Go p.tables e below _ (T2.setTop (mkF m 32 #[.val (.ref a1), .val .null, .val (.int (1 : Int32)), .unset, .unset] [(.int (1 : Int32))]))
  refine Go.by (fun _ => XS.bipush X2.here hx rfl (hb hby d3_32)) ?_
  show Go p.tables e below _ (T2.setTop (mkF m 34 #[.val (.ref a1), .val .null, .val (.int (1 : Int32)), .unset, .unset] [(.int (16 : Int32)), (.int (1 : Int32))]))
  refine Go.by (fun _ => XS.iushr X2.here hx rfl (hb hby d3_34) rfl) ?_
  show Go p.tables e below _ (T2.setTop (mkF m 35 #[.val (.ref a1), .val .null, .val (.int (1 : Int32)), .unset, .unset] [(.int (0 : Int32))]))
  refine Go.by (fun _ => XS.istoreN X2.here hx rfl (hb hby d3_35) rfl (l' := #[.val (.ref a1), .val .null, .val (.int (1 : Int32)), .val (.int (0 : Int32)), .unset]) rfl) ?_
  show Go p.tables e below _ (T2.setTop (mkF m 36 #[.val (.ref a1), .val .null, .val (.int (1 : Int32)), .val (.int (0 : Int32)), .unset] []))
  refine Go.by (fun _ => XS.iloadN X2.here hx rfl (hb hby d3_36) rfl) ?_
  show Go p.tables e below _ (T2.setTop (mkF m 37 #[.val (.ref a1), .val .null, .val (.int (1 : Int32)), .val (.int (0 : Int32)), .unset] [(.int (0 : Int32))]))
  refine Go.by (fun _ => XS.aloadN X2.here hx rfl (hb hby d3_37) rfl rfl) ?_
  show Go p.tables e below _ (T2.setTop (mkF m 38 #[.val (.ref a1), .val .null, .val (.int (1 : Int32)), .val (.int (0 : Int32)), .unset] [(.ref a1), (.int (0 : Int32))]))
  obtain ⟨T3, X3, st3⟩ := X2.getF hx hZ hown (host := "") (Or.inl (tw hw 12 rfl)) Via.refl F_longs (g := (mkF m 38 #[.val (.ref a1), .val .null, .val (.int (1 : Int32)), .val (.int (0 : Int32)), .unset] [(.ref a1), (.int (0 : Int32))])) rfl rfl (hb hby d3_38)
  refine Go.by st3 ?_
  show Go p.tables e below _ (T3.setTop (mkF m 41 #[.val (.ref a1), .val .null, .val (.int (1 : Int32)), .val (.int (0 : Int32)), .unset] [(.ref oL), (.int (0 : Int32))]))
  refine Go.by (X3.len hx hZ V_oL (z := (16 : Int32)) rfl (g := (mkF m 41 #[.val (.ref a1), .val .null, .val (.int (1 : Int32)), .val (.int (0 : Int32)), .unset] [(.ref oL), (.int (0 : Int32))])) rfl rfl (hb hby d3_41)) ?_
  show Go p.tables e below _ (T3.setTop (mkF m 42 #[.val (.ref a1), .val .null, .val (.int (1 : Int32)), .val (.int (0 : Int32)), .unset] [(.int (16 : Int32)), (.int (0 : Int32))]))
  refine Go.by (fun _ => XS.icmpYes X3.here hx rfl (pc0 := 42) (pc' := 96) rfl (hb hby d3_42) rfl (feq (by decide)).2 (by decide) (by decide)) ?_
  show Go p.tables e below _ (T3.setTop (mkF m 96 #[.val (.ref a1), .val .null, .val (.int (1 : Int32)), .val (.int (0 : Int32)), .unset] []))
  refine Go.by (fun _ => XS.iloadN X3.here hx rfl (hb hby d3_96) rfl) ?_
  show Go p.tables e below _ (T3.setTop (mkF m 97 #[.val (.ref a1), .val .null, .val (.int (1 : Int32)), .val (.int (0 : Int32)), .unset] [(.int (1 : Int32))]))
  refine Go.by (fun _ => XS.aloadN X3.here hx rfl (hb hby d3_97) rfl rfl) ?_
  show Go p.tables e below _ (T3.setTop (mkF m 98 #[.val (.ref a1), .val .null, .val (.int (1 : Int32)), .val (.int (0 : Int32)), .unset] [(.ref a1), (.int (1 : Int32))]))
  obtain ⟨T4, X4, st4⟩ := X3.getF hx hZ hown (host := "") (Or.inl (tw hw 36 rfl)) Via.refl F_capacity (g := (mkF m 98 #[.val (.ref a1), .val .null, .val (.int (1 : Int32)), .val (.int (0 : Int32)), .unset] [(.ref a1), (.int (1 : Int32))])) rfl rfl (hb hby d3_98)
  refine Go.by st4 ?_
  show Go p.tables e below _ (T4.setTop (mkF m 101 #[.val (.ref a1), .val .null, .val (.int (1 : Int32)), .val (.int (0 : Int32)), .unset] [(.int (64 : Int32)), (.int (1 : Int32))]))
  refine Go.by (fun _ => XS.icmpYes X4.here hx rfl (pc0 := 101) (pc' := 230) rfl (hb hby d3_101) rfl (feq (by decide)).2 (by decide) (by decide)) ?_
  show Go p.tables e below _ (T4.setTop (mkF m 230 #[.val (.ref a1), .val .null, .val (.int (1 : Int32)), .val (.int (0 : Int32)), .unset] []))
  refine Go.by (fun _ => XS.aloadN X4.here hx rfl (hb hby d3_230) rfl rfl) ?_
  show Go p.tables e below _ (T4.setTop (mkF m 231 #[.val (.ref a1), .val .null, .val (.int (1 : Int32)), .val (.int (0 : Int32)), .unset] [(.ref a1)]))
  obtain ⟨T5, X5, st5⟩ := X4.getF hx hZ hown (host := "") (Or.inl (tw hw 26 rfl)) Via.refl F_objectsPerRow (g := (mkF m 231 #[.val (.ref a1), .val .null, .val (.int (1 : Int32)), .val (.int (0 : Int32)), .unset] [(.ref a1)])) rfl rfl (hb hby d3_231)
  refine Go.by st5 ?_
  show Go p.tables e below _ (T5.setTop (mkF m 234 #[.val (.ref a1), .val .null, .val (.int (1 : Int32)), .val (.int (0 : Int32)), .unset] [(.int (0 : Int32))]))
  refine Go.by (fun _ => XS.ifYes X5.here hx rfl (pc0 := 234) (pc' := 249) rfl (hb hby d3_234) rfl ((if0 _ _).trans (flt (by decide)).2.2.2) (by decide) (by decide)) ?_
  show Go p.tables e below _ (T5.setTop (mkF m 249 #[.val (.ref a1), .val .null, .val (.int (1 : Int32)), .val (.int (0 : Int32)), .unset] []))
  refine Go.by (fun _ => XS.aloadN X5.here hx rfl (hb hby d3_249) rfl rfl) ?_
  show Go p.tables e below _ (T5.setTop (mkF m 250 #[.val (.ref a1), .val .null, .val (.int (1 : Int32)), .val (.int (0 : Int32)), .unset] [(.ref a1)]))
  refine Go.by (fun _ => XS.dup X5.here hx rfl (hb hby d3_250) rfl rfl) ?_
  show Go p.tables e below _ (T5.setTop (mkF m 251 #[.val (.ref a1), .val .null, .val (.int (1 : Int32)), .val (.int (0 : Int32)), .unset] [(.ref a1), (.ref a1)]))
  obtain ⟨T6, X6, st6⟩ := X5.getF hx hZ hown (host := "") (Or.inl (tw hw 33 rfl)) Via.refl F_size (g := (mkF m 251 #[.val (.ref a1), .val .null, .val (.int (1 : Int32)), .val (.int (0 : Int32)), .unset] [(.ref a1), (.ref a1)])) rfl rfl (hb hby d3_251)
  refine Go.by st6 ?_
  show Go p.tables e below _ (T6.setTop (mkF m 254 #[.val (.ref a1), .val .null, .val (.int (1 : Int32)), .val (.int (0 : Int32)), .unset] [(.int (1 : Int32)), (.ref a1)]))
  refine Go.by (fun _ => XS.iconst X6.here hx rfl (hb hby d3_254)) ?_
  show Go p.tables e below _ (T6.setTop (mkF m 255 #[.val (.ref a1), .val .null, .val (.int (1 : Int32)), .val (.int (0 : Int32)), .unset] [(.int (1 : Int32)), (.int (1 : Int32)), (.ref a1)]))
  refine Go.by (fun _ => XS.iadd X6.here hx rfl (hb hby d3_255) rfl) ?_
  show Go p.tables e below _ (T6.setTop (mkF m 256 #[.val (.ref a1), .val .null, .val (.int (1 : Int32)), .val (.int (0 : Int32)), .unset] [(.int (2 : Int32)), (.ref a1)]))
  obtain ⟨T7, h7, X7, W7, st7⟩ := X6.putF hx hZ hown (host := "") (Or.inl (tw hw 33 rfl)) Via.refl F_size E_a1 g_a1 (Or.inl (tw hw 34 rfl)) (tw hw 2 rfl) (ty := .int) (by decide) rfl rfl (g := (mkF m 256 #[.val (.ref a1), .val .null, .val (.int (1 : Int32)), .val (.int (0 : Int32)), .unset] [(.int (2 : Int32)), (.ref a1)])) rfl rfl (hb hby d3_256)
  have Fw7 := F_size.same W7
  have f8_66 := E_a1.wr W7
  have f8_67 := F_longs.other W7 (Or.inr (slot_ne (Or.inl (tw hw 13 rfl)) (Or.inl (tw hw 34 rfl)) (by decide) (t := (.array (.array .long))) (t' := .int) (by decide) (by decide)))
  have f8_68 := F_ints.other W7 (Or.inr (slot_ne (Or.inl (tw hw 17 rfl)) (Or.inl (tw hw 34 rfl)) (by decide) (t := (.array (.array .int))) (t' := .int) (by decide) (by decide)))
  have f8_69 := F_objects.other W7 (Or.inr (slot_ne (Or.inl (tw hw 21 rfl)) (Or.inl (tw hw 34 rfl)) (by decide) (t := (.array (.array (.object "java/lang/Object")))) (t' := .int) (by decide) (by decide)))
  have f8_70 := F_longsPerRow.other W7 (Or.inr (slot_ne (Or.inr (tw hw 23 rfl)) (Or.inl (tw hw 34 rfl)) (by decide) (t := .int) (t' := .int) (by decide) (by decide)))
  have f8_71 := F_intsPerRow.other W7 (Or.inr (slot_ne (Or.inr (tw hw 25 rfl)) (Or.inl (tw hw 34 rfl)) (by decide) (t := .int) (t' := .int) (by decide) (by decide)))
  have f8_72 := F_objectsPerRow.other W7 (Or.inr (slot_ne (Or.inr (tw hw 27 rfl)) (Or.inl (tw hw 34 rfl)) (by decide) (t := .int) (t' := .int) (by decide) (by decide)))
  have f8_73 := F_capacity.other W7 (Or.inr (slot_ne (Or.inl (tw hw 37 rfl)) (Or.inl (tw hw 34 rfl)) (by decide) (t := .int) (t' := .int) (by decide) (by decide)))
  have f8_74 := K0.wr W7 (Or.inl (List.mem_of_getElem? (i := 0) rfl))
  have Zs8 : n0 ≤ h7.size := by rw [W7.size]; exact Z0
  refine Go.by st7 ?_
  show Go p.tables e below _ (T7.setTop (mkF m 259 #[.val (.ref a1), .val .null, .val (.int (1 : Int32)), .val (.int (0 : Int32)), .unset] []))
  refine Go.by (fun _ => XS.iloadN X7.here hx rfl (hb hby d3_259) rfl) ?_
  show Go p.tables e below _ (T7.setTop (mkF m 260 #[.val (.ref a1), .val .null, .val (.int (1 : Int32)), .val (.int (0 : Int32)), .unset] [(.int (1 : Int32))]))
  exact Go.retI X7 hx hlk hret (hb hby d3_260) (by decide) (by decide) ⟨rfl, f8_74, f8_66, f8_67, f8_68, f8_69, f8_70, f8_71, f8_72, Fw7, f8_73⟩
abbrev Rm3_02 : Room := { frames := 0, cells := 0, slots := 0, locals := 0 }
set_option maxRecDepth 65536 in
set_option maxHeartbeats 40000000 in
theorem rm3_02 (l : Launch) (Z : State) (a0 : Array Value) (hw : ∀ d ∈ tables_1, d.before a0 Z = true) (ws : List Jvm.Cond) (a1 : Addr) (oL oI oO dL : Addr) (kL : ClassId) (lp ip : Int32) (h0 : Heap) (n0 : Nat) (Z0 : n0 ≤ h0.size) (E_a1 : Exa Z h0 a1 "com/example/spotline/spotline/engine/Table") (g_a1 : n0 ≤ a1) (F_longs : Fld Z h0 a1 "com/example/spotline/spotline/engine/Table" "longs" "[[J" (.ref oL)) (F_ints : Fld Z h0 a1 "com/example/spotline/spotline/engine/Table" "ints" "[[I" (.ref oI)) (F_objects : Fld Z h0 a1 "com/example/spotline/spotline/engine/Table" "objects" "[[Ljava/lang/Object;" (.ref oO)) (F_longsPerRow : Fld Z h0 a1 "com/example/spotline/spotline/engine/Table" "longsPerRow" "I" (.int lp)) (F_intsPerRow : Fld Z h0 a1 "com/example/spotline/spotline/engine/Table" "intsPerRow" "I" (.int ip)) (F_objectsPerRow : Fld Z h0 a1 "com/example/spotline/spotline/engine/Table" "objectsPerRow" "I" (.int (0 : Int32))) (F_size : Fld Z h0 a1 "com/example/spotline/spotline/engine/Table" "size" "I" (.int (2 : Int32))) (F_capacity : Fld Z h0 a1 "com/example/spotline/spotline/engine/Table" "capacity" "I" (.int (64 : Int32))) (V_oL : Avf Z h0 oL kL (.array .long) 16 (fun i => if i = 0 then (.ref dL) else .null)) :
    Met l Z n0 (⟨"com/example/spotline/spotline/engine/Table", "add", "(Ljava/lang/Object;)I"⟩ : MethodName) prog_40_method_3_code 5 (some .int) ws Rm3_02 #[(.ref a1), .null] h0 (fun v h => v = some (.int (2 : Int32)) ∧ Keep h0 h [a1] ∧ Exa Z h a1 "com/example/spotline/spotline/engine/Table" ∧ Fld Z h a1 "com/example/spotline/spotline/engine/Table" "longs" "[[J" (.ref oL) ∧ Fld Z h a1 "com/example/spotline/spotline/engine/Table" "ints" "[[I" (.ref oI) ∧ Fld Z h a1 "com/example/spotline/spotline/engine/Table" "objects" "[[Ljava/lang/Object;" (.ref oO) ∧ Fld Z h a1 "com/example/spotline/spotline/engine/Table" "longsPerRow" "I" (.int lp) ∧ Fld Z h a1 "com/example/spotline/spotline/engine/Table" "intsPerRow" "I" (.int ip) ∧ Fld Z h a1 "com/example/spotline/spotline/engine/Table" "objectsPerRow" "I" (.int (0 : Int32)) ∧ Fld Z h a1 "com/example/spotline/spotline/engine/Table" "size" "I" (.int (3 : Int32)) ∧ Fld Z h a1 "com/example/spotline/spotline/engine/Table" "capacity" "I" (.int (64 : Int32))) := by
  refine enter (Ls := #[.val (.ref a1), .val .null, .unset, .unset, .unset]) (plainFor_of_name pn0) (fun m => by first | (simp [entryFrame, mkF, argsToLocals, Value.category]; done) | rfl) ?_
  intro p e s m below meth c T0 hx hby hml hown hnm hret hlk hZ X0
  have K0 := Keep.refl h0 [a1]
  show Go p.tables e below _ (T0.setTop (mkF m 0 #[.val (.ref a1), .val .null, .unset, .unset, .unset] []))
  refine Go.by (fun _ => XS.aloadN X0.here hx rfl (hb hby d3_0) rfl rfl) ?_
  show Go p.tables e below _ (T0.setTop (mkF m 1 #[.val (.ref a1), .val .null, .unset, .unset, .unset] [(.ref a1)]))
  obtain ⟨T1, X1, st1⟩ := X0.getF hx hZ hown (host := "") (Or.inl (tw hw 33 rfl)) Via.refl F_size (g := (mkF m 1 #[.val (.ref a1), .val .null, .unset, .unset, .unset] [(.ref a1)])) rfl rfl (hb hby d3_1)
  refine Go.by st1 ?_
  show Go p.tables e below _ (T1.setTop (mkF m 4 #[.val (.ref a1), .val .null, .unset, .unset, .unset] [(.int (2 : Int32))]))
  refine Go.by (X1.ldcInt hx hZ hown (tw hw 35 rfl) (g := (mkF m 4 #[.val (.ref a1), .val .null, .unset, .unset, .unset] [(.int (2 : Int32))])) rfl (hb hby d3_4)) ?_
  show Go p.tables e below _ (T1.setTop (mkF m 6 #[.val (.ref a1), .val .null, .unset, .unset, .unset] [(.int (2147483647 : Int32)), (.int (2 : Int32))]))
  refine Go.by (fun _ => XS.icmpYes X1.here hx rfl (pc0 := 6) (pc' := 26) rfl (hb hby d3_6) rfl (feq (by decide)).2 (by decide) (by decide)) ?_
  show Go p.tables e below _ (T1.setTop (mkF m 26 #[.val (.ref a1), .val .null, .unset, .unset, .unset] []))
  refine Go.by (fun _ => XS.aloadN X1.here hx rfl (hb hby d3_26) rfl rfl) ?_
  show Go p.tables e below _ (T1.setTop (mkF m 27 #[.val (.ref a1), .val .null, .unset, .unset, .unset] [(.ref a1)]))
  obtain ⟨T2, X2, st2⟩ := X1.getF hx hZ hown (host := "") (Or.inl (tw hw 33 rfl)) Via.refl F_size (g := (mkF m 27 #[.val (.ref a1), .val .null, .unset, .unset, .unset] [(.ref a1)])) rfl rfl (hb hby d3_27)
  refine Go.by st2 ?_
  show Go p.tables e below _ (T2.setTop (mkF m 30 #[.val (.ref a1), .val .null, .unset, .unset, .unset] [(.int (2 : Int32))]))
  refine Go.by (fun _ => XS.istoreN X2.here hx rfl (hb hby d3_30) rfl (l' := #[.val (.ref a1), .val .null, .val (.int (2 : Int32)), .unset, .unset]) rfl) ?_
  show Go p.tables e below _ (T2.setTop (mkF m 31 #[.val (.ref a1), .val .null, .val (.int (2 : Int32)), .unset, .unset] []))
  refine Go.by (fun _ => XS.iloadN X2.here hx rfl (hb hby d3_31) rfl) ?_
  show Go p.tables e below _ (T2.setTop (mkF m 32 #[.val (.ref a1), .val .null, .val (.int (2 : Int32)), .unset, .unset] [(.int (2 : Int32))]))
  refine Go.by (fun _ => XS.bipush X2.here hx rfl (hb hby d3_32)) ?_
  show Go p.tables e below _ (T2.setTop (mkF m 34 #[.val (.ref a1), .val .null, .val (.int (2 : Int32)), .unset, .unset] [(.int (16 : Int32)), (.int (2 : Int32))]))
  refine Go.by (fun _ => XS.iushr X2.here hx rfl (hb hby d3_34) rfl) ?_
  show Go p.tables e below _ (T2.setTop (mkF m 35 #[.val (.ref a1), .val .null, .val (.int (2 : Int32)), .unset, .unset] [(.int (0 : Int32))]))
  refine Go.by (fun _ => XS.istoreN X2.here hx rfl (hb hby d3_35) rfl (l' := #[.val (.ref a1), .val .null, .val (.int (2 : Int32)), .val (.int (0 : Int32)), .unset]) rfl) ?_
  show Go p.tables e below _ (T2.setTop (mkF m 36 #[.val (.ref a1), .val .null, .val (.int (2 : Int32)), .val (.int (0 : Int32)), .unset] []))
  refine Go.by (fun _ => XS.iloadN X2.here hx rfl (hb hby d3_36) rfl) ?_
  show Go p.tables e below _ (T2.setTop (mkF m 37 #[.val (.ref a1), .val .null, .val (.int (2 : Int32)), .val (.int (0 : Int32)), .unset] [(.int (0 : Int32))]))
  refine Go.by (fun _ => XS.aloadN X2.here hx rfl (hb hby d3_37) rfl rfl) ?_
  show Go p.tables e below _ (T2.setTop (mkF m 38 #[.val (.ref a1), .val .null, .val (.int (2 : Int32)), .val (.int (0 : Int32)), .unset] [(.ref a1), (.int (0 : Int32))]))
  obtain ⟨T3, X3, st3⟩ := X2.getF hx hZ hown (host := "") (Or.inl (tw hw 12 rfl)) Via.refl F_longs (g := (mkF m 38 #[.val (.ref a1), .val .null, .val (.int (2 : Int32)), .val (.int (0 : Int32)), .unset] [(.ref a1), (.int (0 : Int32))])) rfl rfl (hb hby d3_38)
  refine Go.by st3 ?_
  show Go p.tables e below _ (T3.setTop (mkF m 41 #[.val (.ref a1), .val .null, .val (.int (2 : Int32)), .val (.int (0 : Int32)), .unset] [(.ref oL), (.int (0 : Int32))]))
  refine Go.by (X3.len hx hZ V_oL (z := (16 : Int32)) rfl (g := (mkF m 41 #[.val (.ref a1), .val .null, .val (.int (2 : Int32)), .val (.int (0 : Int32)), .unset] [(.ref oL), (.int (0 : Int32))])) rfl rfl (hb hby d3_41)) ?_
  show Go p.tables e below _ (T3.setTop (mkF m 42 #[.val (.ref a1), .val .null, .val (.int (2 : Int32)), .val (.int (0 : Int32)), .unset] [(.int (16 : Int32)), (.int (0 : Int32))]))
  refine Go.by (fun _ => XS.icmpYes X3.here hx rfl (pc0 := 42) (pc' := 96) rfl (hb hby d3_42) rfl (feq (by decide)).2 (by decide) (by decide)) ?_
  show Go p.tables e below _ (T3.setTop (mkF m 96 #[.val (.ref a1), .val .null, .val (.int (2 : Int32)), .val (.int (0 : Int32)), .unset] []))
  refine Go.by (fun _ => XS.iloadN X3.here hx rfl (hb hby d3_96) rfl) ?_
  show Go p.tables e below _ (T3.setTop (mkF m 97 #[.val (.ref a1), .val .null, .val (.int (2 : Int32)), .val (.int (0 : Int32)), .unset] [(.int (2 : Int32))]))
  refine Go.by (fun _ => XS.aloadN X3.here hx rfl (hb hby d3_97) rfl rfl) ?_
  show Go p.tables e below _ (T3.setTop (mkF m 98 #[.val (.ref a1), .val .null, .val (.int (2 : Int32)), .val (.int (0 : Int32)), .unset] [(.ref a1), (.int (2 : Int32))]))
  obtain ⟨T4, X4, st4⟩ := X3.getF hx hZ hown (host := "") (Or.inl (tw hw 36 rfl)) Via.refl F_capacity (g := (mkF m 98 #[.val (.ref a1), .val .null, .val (.int (2 : Int32)), .val (.int (0 : Int32)), .unset] [(.ref a1), (.int (2 : Int32))])) rfl rfl (hb hby d3_98)
  refine Go.by st4 ?_
  show Go p.tables e below _ (T4.setTop (mkF m 101 #[.val (.ref a1), .val .null, .val (.int (2 : Int32)), .val (.int (0 : Int32)), .unset] [(.int (64 : Int32)), (.int (2 : Int32))]))
  refine Go.by (fun _ => XS.icmpYes X4.here hx rfl (pc0 := 101) (pc' := 230) rfl (hb hby d3_101) rfl (feq (by decide)).2 (by decide) (by decide)) ?_
  show Go p.tables e below _ (T4.setTop (mkF m 230 #[.val (.ref a1), .val .null, .val (.int (2 : Int32)), .val (.int (0 : Int32)), .unset] []))
  refine Go.by (fun _ => XS.aloadN X4.here hx rfl (hb hby d3_230) rfl rfl) ?_
  show Go p.tables e below _ (T4.setTop (mkF m 231 #[.val (.ref a1), .val .null, .val (.int (2 : Int32)), .val (.int (0 : Int32)), .unset] [(.ref a1)]))
  obtain ⟨T5, X5, st5⟩ := X4.getF hx hZ hown (host := "") (Or.inl (tw hw 26 rfl)) Via.refl F_objectsPerRow (g := (mkF m 231 #[.val (.ref a1), .val .null, .val (.int (2 : Int32)), .val (.int (0 : Int32)), .unset] [(.ref a1)])) rfl rfl (hb hby d3_231)
  refine Go.by st5 ?_
  show Go p.tables e below _ (T5.setTop (mkF m 234 #[.val (.ref a1), .val .null, .val (.int (2 : Int32)), .val (.int (0 : Int32)), .unset] [(.int (0 : Int32))]))
  refine Go.by (fun _ => XS.ifYes X5.here hx rfl (pc0 := 234) (pc' := 249) rfl (hb hby d3_234) rfl ((if0 _ _).trans (flt (by decide)).2.2.2) (by decide) (by decide)) ?_
  show Go p.tables e below _ (T5.setTop (mkF m 249 #[.val (.ref a1), .val .null, .val (.int (2 : Int32)), .val (.int (0 : Int32)), .unset] []))
  refine Go.by (fun _ => XS.aloadN X5.here hx rfl (hb hby d3_249) rfl rfl) ?_
  show Go p.tables e below _ (T5.setTop (mkF m 250 #[.val (.ref a1), .val .null, .val (.int (2 : Int32)), .val (.int (0 : Int32)), .unset] [(.ref a1)]))
  refine Go.by (fun _ => XS.dup X5.here hx rfl (hb hby d3_250) rfl rfl) ?_
  show Go p.tables e below _ (T5.setTop (mkF m 251 #[.val (.ref a1), .val .null, .val (.int (2 : Int32)), .val (.int (0 : Int32)), .unset] [(.ref a1), (.ref a1)]))
  obtain ⟨T6, X6, st6⟩ := X5.getF hx hZ hown (host := "") (Or.inl (tw hw 33 rfl)) Via.refl F_size (g := (mkF m 251 #[.val (.ref a1), .val .null, .val (.int (2 : Int32)), .val (.int (0 : Int32)), .unset] [(.ref a1), (.ref a1)])) rfl rfl (hb hby d3_251)
  refine Go.by st6 ?_
  show Go p.tables e below _ (T6.setTop (mkF m 254 #[.val (.ref a1), .val .null, .val (.int (2 : Int32)), .val (.int (0 : Int32)), .unset] [(.int (2 : Int32)), (.ref a1)]))
  refine Go.by (fun _ => XS.iconst X6.here hx rfl (hb hby d3_254)) ?_
  show Go p.tables e below _ (T6.setTop (mkF m 255 #[.val (.ref a1), .val .null, .val (.int (2 : Int32)), .val (.int (0 : Int32)), .unset] [(.int (1 : Int32)), (.int (2 : Int32)), (.ref a1)]))
  refine Go.by (fun _ => XS.iadd X6.here hx rfl (hb hby d3_255) rfl) ?_
  show Go p.tables e below _ (T6.setTop (mkF m 256 #[.val (.ref a1), .val .null, .val (.int (2 : Int32)), .val (.int (0 : Int32)), .unset] [(.int (3 : Int32)), (.ref a1)]))
  obtain ⟨T7, h7, X7, W7, st7⟩ := X6.putF hx hZ hown (host := "") (Or.inl (tw hw 33 rfl)) Via.refl F_size E_a1 g_a1 (Or.inl (tw hw 34 rfl)) (tw hw 2 rfl) (ty := .int) (by decide) rfl rfl (g := (mkF m 256 #[.val (.ref a1), .val .null, .val (.int (2 : Int32)), .val (.int (0 : Int32)), .unset] [(.int (3 : Int32)), (.ref a1)])) rfl rfl (hb hby d3_256)
  have Fw7 := F_size.same W7
  have f8_66 := E_a1.wr W7
  have f8_67 := F_longs.other W7 (Or.inr (slot_ne (Or.inl (tw hw 13 rfl)) (Or.inl (tw hw 34 rfl)) (by decide) (t := (.array (.array .long))) (t' := .int) (by decide) (by decide)))
  have f8_68 := F_ints.other W7 (Or.inr (slot_ne (Or.inl (tw hw 17 rfl)) (Or.inl (tw hw 34 rfl)) (by decide) (t := (.array (.array .int))) (t' := .int) (by decide) (by decide)))
  have f8_69 := F_objects.other W7 (Or.inr (slot_ne (Or.inl (tw hw 21 rfl)) (Or.inl (tw hw 34 rfl)) (by decide) (t := (.array (.array (.object "java/lang/Object")))) (t' := .int) (by decide) (by decide)))
  have f8_70 := F_longsPerRow.other W7 (Or.inr (slot_ne (Or.inr (tw hw 23 rfl)) (Or.inl (tw hw 34 rfl)) (by decide) (t := .int) (t' := .int) (by decide) (by decide)))
  have f8_71 := F_intsPerRow.other W7 (Or.inr (slot_ne (Or.inr (tw hw 25 rfl)) (Or.inl (tw hw 34 rfl)) (by decide) (t := .int) (t' := .int) (by decide) (by decide)))
  have f8_72 := F_objectsPerRow.other W7 (Or.inr (slot_ne (Or.inr (tw hw 27 rfl)) (Or.inl (tw hw 34 rfl)) (by decide) (t := .int) (t' := .int) (by decide) (by decide)))
  have f8_73 := F_capacity.other W7 (Or.inr (slot_ne (Or.inl (tw hw 37 rfl)) (Or.inl (tw hw 34 rfl)) (by decide) (t := .int) (t' := .int) (by decide) (by decide)))
  have f8_74 := K0.wr W7 (Or.inl (List.mem_of_getElem? (i := 0) rfl))
  have Zs8 : n0 ≤ h7.size := by rw [W7.size]; exact Z0
  refine Go.by st7 ?_
  show Go p.tables e below _ (T7.setTop (mkF m 259 #[.val (.ref a1), .val .null, .val (.int (2 : Int32)), .val (.int (0 : Int32)), .unset] []))
  refine Go.by (fun _ => XS.iloadN X7.here hx rfl (hb hby d3_259) rfl) ?_
  show Go p.tables e below _ (T7.setTop (mkF m 260 #[.val (.ref a1), .val .null, .val (.int (2 : Int32)), .val (.int (0 : Int32)), .unset] [(.int (2 : Int32))]))
  exact Go.retI X7 hx hlk hret (hb hby d3_260) (by decide) (by decide) ⟨rfl, f8_74, f8_66, f8_67, f8_68, f8_69, f8_70, f8_71, f8_72, Fw7, f8_73⟩
abbrev Rm3_11 : Room := { frames := 0, cells := 0, slots := 0, locals := 0 }
set_option maxRecDepth 65536 in
set_option maxHeartbeats 40000000 in
theorem rm3_11 (l : Launch) (Z : State) (a0 : Array Value) (hw : ∀ d ∈ tables_1, d.before a0 Z = true) (ws : List Jvm.Cond) (a1 : Addr) (oL oI oO dL : Addr) (kL : ClassId) (lp ip : Int32) (dO : Addr) (kO kdO : ClassId) (h0 : Heap) (n0 : Nat) (Z0 : n0 ≤ h0.size) (E_a1 : Exa Z h0 a1 "com/example/spotline/spotline/engine/Table") (g_a1 : n0 ≤ a1) (F_longs : Fld Z h0 a1 "com/example/spotline/spotline/engine/Table" "longs" "[[J" (.ref oL)) (F_ints : Fld Z h0 a1 "com/example/spotline/spotline/engine/Table" "ints" "[[I" (.ref oI)) (F_objects : Fld Z h0 a1 "com/example/spotline/spotline/engine/Table" "objects" "[[Ljava/lang/Object;" (.ref oO)) (F_longsPerRow : Fld Z h0 a1 "com/example/spotline/spotline/engine/Table" "longsPerRow" "I" (.int lp)) (F_intsPerRow : Fld Z h0 a1 "com/example/spotline/spotline/engine/Table" "intsPerRow" "I" (.int ip)) (F_objectsPerRow : Fld Z h0 a1 "com/example/spotline/spotline/engine/Table" "objectsPerRow" "I" (.int (1 : Int32))) (F_size : Fld Z h0 a1 "com/example/spotline/spotline/engine/Table" "size" "I" (.int (1 : Int32))) (F_capacity : Fld Z h0 a1 "com/example/spotline/spotline/engine/Table" "capacity" "I" (.int (64 : Int32))) (V_oL : Avf Z h0 oL kL (.array .long) 16 (fun i => if i = 0 then (.ref dL) else .null)) (V_oO : Avf Z h0 oO kO (.array (.object "java/lang/Object")) 16 (fun i => if i = 0 then (.ref dO) else .null)) (V_dO : Avf Z h0 dO kdO (.object "java/lang/Object") 64 (fun _ => .null)) (g_dO : n0 ≤ dO) (nd : a1 ≠ dO) :
    Met l Z n0 (⟨"com/example/spotline/spotline/engine/Table", "add", "(Ljava/lang/Object;)I"⟩ : MethodName) prog_40_method_3_code 5 (some .int) ws Rm3_11 #[(.ref a1), .null] h0 (fun v h => v = some (.int (1 : Int32)) ∧ Keep h0 h [a1, dO] ∧ Exa Z h a1 "com/example/spotline/spotline/engine/Table" ∧ Fld Z h a1 "com/example/spotline/spotline/engine/Table" "longs" "[[J" (.ref oL) ∧ Fld Z h a1 "com/example/spotline/spotline/engine/Table" "ints" "[[I" (.ref oI) ∧ Fld Z h a1 "com/example/spotline/spotline/engine/Table" "objects" "[[Ljava/lang/Object;" (.ref oO) ∧ Fld Z h a1 "com/example/spotline/spotline/engine/Table" "longsPerRow" "I" (.int lp) ∧ Fld Z h a1 "com/example/spotline/spotline/engine/Table" "intsPerRow" "I" (.int ip) ∧ Fld Z h a1 "com/example/spotline/spotline/engine/Table" "objectsPerRow" "I" (.int (1 : Int32)) ∧ Fld Z h a1 "com/example/spotline/spotline/engine/Table" "size" "I" (.int (2 : Int32)) ∧ Fld Z h a1 "com/example/spotline/spotline/engine/Table" "capacity" "I" (.int (64 : Int32)) ∧ Avf Z h dO kdO (.object "java/lang/Object") 64 (fun _ => .null)) := by
  refine enter (Ls := #[.val (.ref a1), .val .null, .unset, .unset, .unset]) (plainFor_of_name pn0) (fun m => by first | (simp [entryFrame, mkF, argsToLocals, Value.category]; done) | rfl) ?_
  intro p e s m below meth c T0 hx hby hml hown hnm hret hlk hZ X0
  have K0 := Keep.refl h0 [a1, dO]
  show Go p.tables e below _ (T0.setTop (mkF m 0 #[.val (.ref a1), .val .null, .unset, .unset, .unset] []))
  refine Go.by (fun _ => XS.aloadN X0.here hx rfl (hb hby d3_0) rfl rfl) ?_
  show Go p.tables e below _ (T0.setTop (mkF m 1 #[.val (.ref a1), .val .null, .unset, .unset, .unset] [(.ref a1)]))
  obtain ⟨T1, X1, st1⟩ := X0.getF hx hZ hown (host := "") (Or.inl (tw hw 33 rfl)) Via.refl F_size (g := (mkF m 1 #[.val (.ref a1), .val .null, .unset, .unset, .unset] [(.ref a1)])) rfl rfl (hb hby d3_1)
  refine Go.by st1 ?_
  show Go p.tables e below _ (T1.setTop (mkF m 4 #[.val (.ref a1), .val .null, .unset, .unset, .unset] [(.int (1 : Int32))]))
  refine Go.by (X1.ldcInt hx hZ hown (tw hw 35 rfl) (g := (mkF m 4 #[.val (.ref a1), .val .null, .unset, .unset, .unset] [(.int (1 : Int32))])) rfl (hb hby d3_4)) ?_
  show Go p.tables e below _ (T1.setTop (mkF m 6 #[.val (.ref a1), .val .null, .unset, .unset, .unset] [(.int (2147483647 : Int32)), (.int (1 : Int32))]))
  refine Go.by (fun _ => XS.icmpYes X1.here hx rfl (pc0 := 6) (pc' := 26) rfl (hb hby d3_6) rfl (feq (by decide)).2 (by decide) (by decide)) ?_
  show Go p.tables e below _ (T1.setTop (mkF m 26 #[.val (.ref a1), .val .null, .unset, .unset, .unset] []))
  refine Go.by (fun _ => XS.aloadN X1.here hx rfl (hb hby d3_26) rfl rfl) ?_
  show Go p.tables e below _ (T1.setTop (mkF m 27 #[.val (.ref a1), .val .null, .unset, .unset, .unset] [(.ref a1)]))
  obtain ⟨T2, X2, st2⟩ := X1.getF hx hZ hown (host := "") (Or.inl (tw hw 33 rfl)) Via.refl F_size (g := (mkF m 27 #[.val (.ref a1), .val .null, .unset, .unset, .unset] [(.ref a1)])) rfl rfl (hb hby d3_27)
  refine Go.by st2 ?_
  show Go p.tables e below _ (T2.setTop (mkF m 30 #[.val (.ref a1), .val .null, .unset, .unset, .unset] [(.int (1 : Int32))]))
  refine Go.by (fun _ => XS.istoreN X2.here hx rfl (hb hby d3_30) rfl (l' := #[.val (.ref a1), .val .null, .val (.int (1 : Int32)), .unset, .unset]) rfl) ?_
  show Go p.tables e below _ (T2.setTop (mkF m 31 #[.val (.ref a1), .val .null, .val (.int (1 : Int32)), .unset, .unset] []))
  refine Go.by (fun _ => XS.iloadN X2.here hx rfl (hb hby d3_31) rfl) ?_
  show Go p.tables e below _ (T2.setTop (mkF m 32 #[.val (.ref a1), .val .null, .val (.int (1 : Int32)), .unset, .unset] [(.int (1 : Int32))]))
  refine Go.by (fun _ => XS.bipush X2.here hx rfl (hb hby d3_32)) ?_
  show Go p.tables e below _ (T2.setTop (mkF m 34 #[.val (.ref a1), .val .null, .val (.int (1 : Int32)), .unset, .unset] [(.int (16 : Int32)), (.int (1 : Int32))]))
  refine Go.by (fun _ => XS.iushr X2.here hx rfl (hb hby d3_34) rfl) ?_
  show Go p.tables e below _ (T2.setTop (mkF m 35 #[.val (.ref a1), .val .null, .val (.int (1 : Int32)), .unset, .unset] [(.int (0 : Int32))]))
  refine Go.by (fun _ => XS.istoreN X2.here hx rfl (hb hby d3_35) rfl (l' := #[.val (.ref a1), .val .null, .val (.int (1 : Int32)), .val (.int (0 : Int32)), .unset]) rfl) ?_
  show Go p.tables e below _ (T2.setTop (mkF m 36 #[.val (.ref a1), .val .null, .val (.int (1 : Int32)), .val (.int (0 : Int32)), .unset] []))
  refine Go.by (fun _ => XS.iloadN X2.here hx rfl (hb hby d3_36) rfl) ?_
  show Go p.tables e below _ (T2.setTop (mkF m 37 #[.val (.ref a1), .val .null, .val (.int (1 : Int32)), .val (.int (0 : Int32)), .unset] [(.int (0 : Int32))]))
  refine Go.by (fun _ => XS.aloadN X2.here hx rfl (hb hby d3_37) rfl rfl) ?_
  show Go p.tables e below _ (T2.setTop (mkF m 38 #[.val (.ref a1), .val .null, .val (.int (1 : Int32)), .val (.int (0 : Int32)), .unset] [(.ref a1), (.int (0 : Int32))]))
  obtain ⟨T3, X3, st3⟩ := X2.getF hx hZ hown (host := "") (Or.inl (tw hw 12 rfl)) Via.refl F_longs (g := (mkF m 38 #[.val (.ref a1), .val .null, .val (.int (1 : Int32)), .val (.int (0 : Int32)), .unset] [(.ref a1), (.int (0 : Int32))])) rfl rfl (hb hby d3_38)
  refine Go.by st3 ?_
  show Go p.tables e below _ (T3.setTop (mkF m 41 #[.val (.ref a1), .val .null, .val (.int (1 : Int32)), .val (.int (0 : Int32)), .unset] [(.ref oL), (.int (0 : Int32))]))
  refine Go.by (X3.len hx hZ V_oL (z := (16 : Int32)) rfl (g := (mkF m 41 #[.val (.ref a1), .val .null, .val (.int (1 : Int32)), .val (.int (0 : Int32)), .unset] [(.ref oL), (.int (0 : Int32))])) rfl rfl (hb hby d3_41)) ?_
  show Go p.tables e below _ (T3.setTop (mkF m 42 #[.val (.ref a1), .val .null, .val (.int (1 : Int32)), .val (.int (0 : Int32)), .unset] [(.int (16 : Int32)), (.int (0 : Int32))]))
  refine Go.by (fun _ => XS.icmpYes X3.here hx rfl (pc0 := 42) (pc' := 96) rfl (hb hby d3_42) rfl (feq (by decide)).2 (by decide) (by decide)) ?_
  show Go p.tables e below _ (T3.setTop (mkF m 96 #[.val (.ref a1), .val .null, .val (.int (1 : Int32)), .val (.int (0 : Int32)), .unset] []))
  refine Go.by (fun _ => XS.iloadN X3.here hx rfl (hb hby d3_96) rfl) ?_
  show Go p.tables e below _ (T3.setTop (mkF m 97 #[.val (.ref a1), .val .null, .val (.int (1 : Int32)), .val (.int (0 : Int32)), .unset] [(.int (1 : Int32))]))
  refine Go.by (fun _ => XS.aloadN X3.here hx rfl (hb hby d3_97) rfl rfl) ?_
  show Go p.tables e below _ (T3.setTop (mkF m 98 #[.val (.ref a1), .val .null, .val (.int (1 : Int32)), .val (.int (0 : Int32)), .unset] [(.ref a1), (.int (1 : Int32))]))
  obtain ⟨T4, X4, st4⟩ := X3.getF hx hZ hown (host := "") (Or.inl (tw hw 36 rfl)) Via.refl F_capacity (g := (mkF m 98 #[.val (.ref a1), .val .null, .val (.int (1 : Int32)), .val (.int (0 : Int32)), .unset] [(.ref a1), (.int (1 : Int32))])) rfl rfl (hb hby d3_98)
  refine Go.by st4 ?_
  show Go p.tables e below _ (T4.setTop (mkF m 101 #[.val (.ref a1), .val .null, .val (.int (1 : Int32)), .val (.int (0 : Int32)), .unset] [(.int (64 : Int32)), (.int (1 : Int32))]))
  refine Go.by (fun _ => XS.icmpYes X4.here hx rfl (pc0 := 101) (pc' := 230) rfl (hb hby d3_101) rfl (feq (by decide)).2 (by decide) (by decide)) ?_
  show Go p.tables e below _ (T4.setTop (mkF m 230 #[.val (.ref a1), .val .null, .val (.int (1 : Int32)), .val (.int (0 : Int32)), .unset] []))
  refine Go.by (fun _ => XS.aloadN X4.here hx rfl (hb hby d3_230) rfl rfl) ?_
  show Go p.tables e below _ (T4.setTop (mkF m 231 #[.val (.ref a1), .val .null, .val (.int (1 : Int32)), .val (.int (0 : Int32)), .unset] [(.ref a1)]))
  obtain ⟨T5, X5, st5⟩ := X4.getF hx hZ hown (host := "") (Or.inl (tw hw 26 rfl)) Via.refl F_objectsPerRow (g := (mkF m 231 #[.val (.ref a1), .val .null, .val (.int (1 : Int32)), .val (.int (0 : Int32)), .unset] [(.ref a1)])) rfl rfl (hb hby d3_231)
  refine Go.by st5 ?_
  show Go p.tables e below _ (T5.setTop (mkF m 234 #[.val (.ref a1), .val .null, .val (.int (1 : Int32)), .val (.int (0 : Int32)), .unset] [(.int (1 : Int32))]))
  refine Go.by (fun _ => XS.ifNo X5.here hx rfl (hb hby d3_234) rfl ((if0 _ _).trans (tlt (by decide)).2.2.2)) ?_
  show Go p.tables e below _ (T5.setTop (mkF m 237 #[.val (.ref a1), .val .null, .val (.int (1 : Int32)), .val (.int (0 : Int32)), .unset] []))
  refine Go.by (fun _ => XS.aloadN X5.here hx rfl (hb hby d3_237) rfl rfl) ?_
  show Go p.tables e below _ (T5.setTop (mkF m 238 #[.val (.ref a1), .val .null, .val (.int (1 : Int32)), .val (.int (0 : Int32)), .unset] [(.ref a1)]))
  obtain ⟨T6, X6, st6⟩ := X5.getF hx hZ hown (host := "") (Or.inl (tw hw 20 rfl)) Via.refl F_objects (g := (mkF m 238 #[.val (.ref a1), .val .null, .val (.int (1 : Int32)), .val (.int (0 : Int32)), .unset] [(.ref a1)])) rfl rfl (hb hby d3_238)
  refine Go.by st6 ?_
  show Go p.tables e below _ (T6.setTop (mkF m 241 #[.val (.ref a1), .val .null, .val (.int (1 : Int32)), .val (.int (0 : Int32)), .unset] [(.ref oO)]))
  refine Go.by (fun _ => XS.iloadN X6.here hx rfl (hb hby d3_241) rfl) ?_
  show Go p.tables e below _ (T6.setTop (mkF m 242 #[.val (.ref a1), .val .null, .val (.int (1 : Int32)), .val (.int (0 : Int32)), .unset] [(.int (0 : Int32)), (.ref oO)]))
  refine Go.by (X6.ldA hx hZ V_oO rfl (by decide) (i := 0) rfl (by decide) (v := (.ref dO)) rfl (g := (mkF m 242 #[.val (.ref a1), .val .null, .val (.int (1 : Int32)), .val (.int (0 : Int32)), .unset] [(.int (0 : Int32)), (.ref oO)])) rfl rfl (hb hby d3_242)) ?_
  show Go p.tables e below _ (T6.setTop (mkF m 243 #[.val (.ref a1), .val .null, .val (.int (1 : Int32)), .val (.int (0 : Int32)), .unset] [(.ref dO)]))
  refine Go.by (fun _ => XS.iloadN X6.here hx rfl (hb hby d3_243) rfl) ?_
  show Go p.tables e below _ (T6.setTop (mkF m 244 #[.val (.ref a1), .val .null, .val (.int (1 : Int32)), .val (.int (0 : Int32)), .unset] [(.int (1 : Int32)), (.ref dO)]))
  refine Go.by (X6.ldcInt hx hZ hown (tw hw 64 rfl) (g := (mkF m 244 #[.val (.ref a1), .val .null, .val (.int (1 : Int32)), .val (.int (0 : Int32)), .unset] [(.int (1 : Int32)), (.ref dO)])) rfl (hb hby d3_244)) ?_
  show Go p.tables e below _ (T6.setTop (mkF m 246 #[.val (.ref a1), .val .null, .val (.int (1 : Int32)), .val (.int (0 : Int32)), .unset] [(.int (65535 : Int32)), (.int (1 : Int32)), (.ref dO)]))
  refine Go.by (fun _ => XS.iand X6.here hx rfl (hb hby d3_246) rfl) ?_
  show Go p.tables e below _ (T6.setTop (mkF m 247 #[.val (.ref a1), .val .null, .val (.int (1 : Int32)), .val (.int (0 : Int32)), .unset] [(.int (1 : Int32)), (.ref dO)]))
  refine Go.by (fun _ => XS.aloadN X6.here hx rfl (hb hby d3_247) rfl rfl) ?_
  show Go p.tables e below _ (T6.setTop (mkF m 248 #[.val (.ref a1), .val .null, .val (.int (1 : Int32)), .val (.int (0 : Int32)), .unset] [.null, (.int (1 : Int32)), (.ref dO)]))
  obtain ⟨T7, h7, X7, W7, V7, st7⟩ := X6.stR hx hZ V_dO g_dO rfl rfl (Or.inl rfl) (by decide) (i := 1) rfl (by decide) (g := (mkF m 248 #[.val (.ref a1), .val .null, .val (.int (1 : Int32)), .val (.int (0 : Int32)), .unset] [.null, (.int (1 : Int32)), (.ref dO)])) rfl rfl (hb hby d3_248)
  have f8_71 := E_a1.wr W7
  have f8_72 := F_longs.other W7 (Or.inl nd)
  have f8_73 := F_ints.other W7 (Or.inl nd)
  have f8_74 := F_objects.other W7 (Or.inl nd)
  have f8_75 := F_longsPerRow.other W7 (Or.inl nd)
  have f8_76 := F_intsPerRow.other W7 (Or.inl nd)
  have f8_77 := F_objectsPerRow.other W7 (Or.inl nd)
  have f8_78 := F_size.other W7 (Or.inl nd)
  have f8_79 := F_capacity.other W7 (Or.inl nd)
  have f8_80 := K0.wr W7 (Or.inl (List.mem_of_getElem? (i := 1) rfl))
  have Zs8 : n0 ≤ h7.size := by rw [W7.size]; exact Z0
  refine Go.by st7 ?_
  show Go p.tables e below _ (T7.setTop (mkF m 249 #[.val (.ref a1), .val .null, .val (.int (1 : Int32)), .val (.int (0 : Int32)), .unset] []))
  refine Go.by (fun _ => XS.aloadN X7.here hx rfl (hb hby d3_249) rfl rfl) ?_
  show Go p.tables e below _ (T7.setTop (mkF m 250 #[.val (.ref a1), .val .null, .val (.int (1 : Int32)), .val (.int (0 : Int32)), .unset] [(.ref a1)]))
  refine Go.by (fun _ => XS.dup X7.here hx rfl (hb hby d3_250) rfl rfl) ?_
  show Go p.tables e below _ (T7.setTop (mkF m 251 #[.val (.ref a1), .val .null, .val (.int (1 : Int32)), .val (.int (0 : Int32)), .unset] [(.ref a1), (.ref a1)]))
  obtain ⟨T9, X9, st9⟩ := X7.getF hx hZ hown (host := "") (Or.inl (tw hw 33 rfl)) Via.refl f8_78 (g := (mkF m 251 #[.val (.ref a1), .val .null, .val (.int (1 : Int32)), .val (.int (0 : Int32)), .unset] [(.ref a1), (.ref a1)])) rfl rfl (hb hby d3_251)
  refine Go.by st9 ?_
  show Go p.tables e below _ (T9.setTop (mkF m 254 #[.val (.ref a1), .val .null, .val (.int (1 : Int32)), .val (.int (0 : Int32)), .unset] [(.int (1 : Int32)), (.ref a1)]))
  refine Go.by (fun _ => XS.iconst X9.here hx rfl (hb hby d3_254)) ?_
  show Go p.tables e below _ (T9.setTop (mkF m 255 #[.val (.ref a1), .val .null, .val (.int (1 : Int32)), .val (.int (0 : Int32)), .unset] [(.int (1 : Int32)), (.int (1 : Int32)), (.ref a1)]))
  refine Go.by (fun _ => XS.iadd X9.here hx rfl (hb hby d3_255) rfl) ?_
  show Go p.tables e below _ (T9.setTop (mkF m 256 #[.val (.ref a1), .val .null, .val (.int (1 : Int32)), .val (.int (0 : Int32)), .unset] [(.int (2 : Int32)), (.ref a1)]))
  obtain ⟨T10, h10, X10, W10, st10⟩ := X9.putF hx hZ hown (host := "") (Or.inl (tw hw 33 rfl)) Via.refl f8_78 f8_71 g_a1 (Or.inl (tw hw 34 rfl)) (tw hw 2 rfl) (ty := .int) (by decide) rfl rfl (g := (mkF m 256 #[.val (.ref a1), .val .null, .val (.int (1 : Int32)), .val (.int (0 : Int32)), .unset] [(.int (2 : Int32)), (.ref a1)])) rfl rfl (hb hby d3_256)
  have Fw10 := f8_78.same W10
  have f11_97 := f8_71.wr W10
  have f11_98 := f8_72.other W10 (Or.inr (slot_ne (Or.inl (tw hw 13 rfl)) (Or.inl (tw hw 34 rfl)) (by decide) (t := (.array (.array .long))) (t' := .int) (by decide) (by decide)))
  have f11_99 := f8_73.other W10 (Or.inr (slot_ne (Or.inl (tw hw 17 rfl)) (Or.inl (tw hw 34 rfl)) (by decide) (t := (.array (.array .int))) (t' := .int) (by decide) (by decide)))
  have f11_100 := f8_74.other W10 (Or.inr (slot_ne (Or.inl (tw hw 21 rfl)) (Or.inl (tw hw 34 rfl)) (by decide) (t := (.array (.array (.object "java/lang/Object")))) (t' := .int) (by decide) (by decide)))
  have f11_101 := f8_75.other W10 (Or.inr (slot_ne (Or.inr (tw hw 23 rfl)) (Or.inl (tw hw 34 rfl)) (by decide) (t := .int) (t' := .int) (by decide) (by decide)))
  have f11_102 := f8_76.other W10 (Or.inr (slot_ne (Or.inr (tw hw 25 rfl)) (Or.inl (tw hw 34 rfl)) (by decide) (t := .int) (t' := .int) (by decide) (by decide)))
  have f11_103 := f8_77.other W10 (Or.inr (slot_ne (Or.inr (tw hw 27 rfl)) (Or.inl (tw hw 34 rfl)) (by decide) (t := .int) (t' := .int) (by decide) (by decide)))
  have f11_104 := f8_79.other W10 (Or.inr (slot_ne (Or.inl (tw hw 37 rfl)) (Or.inl (tw hw 34 rfl)) (by decide) (t := .int) (t' := .int) (by decide) (by decide)))
  have f11_105 := Avf.other V7 W10 (Ne.symm nd)
  have f11_106 := f8_80.wr W10 (Or.inl (List.mem_of_getElem? (i := 0) rfl))
  have Zs11 : n0 ≤ h10.size := by rw [W10.size]; exact Zs8
  refine Go.by st10 ?_
  show Go p.tables e below _ (T10.setTop (mkF m 259 #[.val (.ref a1), .val .null, .val (.int (1 : Int32)), .val (.int (0 : Int32)), .unset] []))
  refine Go.by (fun _ => XS.iloadN X10.here hx rfl (hb hby d3_259) rfl) ?_
  show Go p.tables e below _ (T10.setTop (mkF m 260 #[.val (.ref a1), .val .null, .val (.int (1 : Int32)), .val (.int (0 : Int32)), .unset] [(.int (1 : Int32))]))
  exact Go.retI X10 hx hlk hret (hb hby d3_260) (by decide) (by decide) ⟨rfl, f11_106, f11_97, f11_98, f11_99, f11_100, f11_101, f11_102, f11_103, Fw10, f11_104, Avf.cong f11_105 (fun i hi => by by_cases q : i = 1 <;> simp [q])⟩
abbrev Rm3_12 : Room := { frames := 0, cells := 0, slots := 0, locals := 0 }
set_option maxRecDepth 65536 in
set_option maxHeartbeats 40000000 in
theorem rm3_12 (l : Launch) (Z : State) (a0 : Array Value) (hw : ∀ d ∈ tables_1, d.before a0 Z = true) (ws : List Jvm.Cond) (a1 : Addr) (oL oI oO dL : Addr) (kL : ClassId) (lp ip : Int32) (dO : Addr) (kO kdO : ClassId) (h0 : Heap) (n0 : Nat) (Z0 : n0 ≤ h0.size) (E_a1 : Exa Z h0 a1 "com/example/spotline/spotline/engine/Table") (g_a1 : n0 ≤ a1) (F_longs : Fld Z h0 a1 "com/example/spotline/spotline/engine/Table" "longs" "[[J" (.ref oL)) (F_ints : Fld Z h0 a1 "com/example/spotline/spotline/engine/Table" "ints" "[[I" (.ref oI)) (F_objects : Fld Z h0 a1 "com/example/spotline/spotline/engine/Table" "objects" "[[Ljava/lang/Object;" (.ref oO)) (F_longsPerRow : Fld Z h0 a1 "com/example/spotline/spotline/engine/Table" "longsPerRow" "I" (.int lp)) (F_intsPerRow : Fld Z h0 a1 "com/example/spotline/spotline/engine/Table" "intsPerRow" "I" (.int ip)) (F_objectsPerRow : Fld Z h0 a1 "com/example/spotline/spotline/engine/Table" "objectsPerRow" "I" (.int (1 : Int32))) (F_size : Fld Z h0 a1 "com/example/spotline/spotline/engine/Table" "size" "I" (.int (2 : Int32))) (F_capacity : Fld Z h0 a1 "com/example/spotline/spotline/engine/Table" "capacity" "I" (.int (64 : Int32))) (V_oL : Avf Z h0 oL kL (.array .long) 16 (fun i => if i = 0 then (.ref dL) else .null)) (V_oO : Avf Z h0 oO kO (.array (.object "java/lang/Object")) 16 (fun i => if i = 0 then (.ref dO) else .null)) (V_dO : Avf Z h0 dO kdO (.object "java/lang/Object") 64 (fun _ => .null)) (g_dO : n0 ≤ dO) (nd : a1 ≠ dO) :
    Met l Z n0 (⟨"com/example/spotline/spotline/engine/Table", "add", "(Ljava/lang/Object;)I"⟩ : MethodName) prog_40_method_3_code 5 (some .int) ws Rm3_12 #[(.ref a1), .null] h0 (fun v h => v = some (.int (2 : Int32)) ∧ Keep h0 h [a1, dO] ∧ Exa Z h a1 "com/example/spotline/spotline/engine/Table" ∧ Fld Z h a1 "com/example/spotline/spotline/engine/Table" "longs" "[[J" (.ref oL) ∧ Fld Z h a1 "com/example/spotline/spotline/engine/Table" "ints" "[[I" (.ref oI) ∧ Fld Z h a1 "com/example/spotline/spotline/engine/Table" "objects" "[[Ljava/lang/Object;" (.ref oO) ∧ Fld Z h a1 "com/example/spotline/spotline/engine/Table" "longsPerRow" "I" (.int lp) ∧ Fld Z h a1 "com/example/spotline/spotline/engine/Table" "intsPerRow" "I" (.int ip) ∧ Fld Z h a1 "com/example/spotline/spotline/engine/Table" "objectsPerRow" "I" (.int (1 : Int32)) ∧ Fld Z h a1 "com/example/spotline/spotline/engine/Table" "size" "I" (.int (3 : Int32)) ∧ Fld Z h a1 "com/example/spotline/spotline/engine/Table" "capacity" "I" (.int (64 : Int32)) ∧ Avf Z h dO kdO (.object "java/lang/Object") 64 (fun _ => .null)) := by
  refine enter (Ls := #[.val (.ref a1), .val .null, .unset, .unset, .unset]) (plainFor_of_name pn0) (fun m => by first | (simp [entryFrame, mkF, argsToLocals, Value.category]; done) | rfl) ?_
  intro p e s m below meth c T0 hx hby hml hown hnm hret hlk hZ X0
  have K0 := Keep.refl h0 [a1, dO]
  show Go p.tables e below _ (T0.setTop (mkF m 0 #[.val (.ref a1), .val .null, .unset, .unset, .unset] []))
  refine Go.by (fun _ => XS.aloadN X0.here hx rfl (hb hby d3_0) rfl rfl) ?_
  show Go p.tables e below _ (T0.setTop (mkF m 1 #[.val (.ref a1), .val .null, .unset, .unset, .unset] [(.ref a1)]))
  obtain ⟨T1, X1, st1⟩ := X0.getF hx hZ hown (host := "") (Or.inl (tw hw 33 rfl)) Via.refl F_size (g := (mkF m 1 #[.val (.ref a1), .val .null, .unset, .unset, .unset] [(.ref a1)])) rfl rfl (hb hby d3_1)
  refine Go.by st1 ?_
  show Go p.tables e below _ (T1.setTop (mkF m 4 #[.val (.ref a1), .val .null, .unset, .unset, .unset] [(.int (2 : Int32))]))
  refine Go.by (X1.ldcInt hx hZ hown (tw hw 35 rfl) (g := (mkF m 4 #[.val (.ref a1), .val .null, .unset, .unset, .unset] [(.int (2 : Int32))])) rfl (hb hby d3_4)) ?_
  show Go p.tables e below _ (T1.setTop (mkF m 6 #[.val (.ref a1), .val .null, .unset, .unset, .unset] [(.int (2147483647 : Int32)), (.int (2 : Int32))]))
  refine Go.by (fun _ => XS.icmpYes X1.here hx rfl (pc0 := 6) (pc' := 26) rfl (hb hby d3_6) rfl (feq (by decide)).2 (by decide) (by decide)) ?_
  show Go p.tables e below _ (T1.setTop (mkF m 26 #[.val (.ref a1), .val .null, .unset, .unset, .unset] []))
  refine Go.by (fun _ => XS.aloadN X1.here hx rfl (hb hby d3_26) rfl rfl) ?_
  show Go p.tables e below _ (T1.setTop (mkF m 27 #[.val (.ref a1), .val .null, .unset, .unset, .unset] [(.ref a1)]))
  obtain ⟨T2, X2, st2⟩ := X1.getF hx hZ hown (host := "") (Or.inl (tw hw 33 rfl)) Via.refl F_size (g := (mkF m 27 #[.val (.ref a1), .val .null, .unset, .unset, .unset] [(.ref a1)])) rfl rfl (hb hby d3_27)
  refine Go.by st2 ?_
  show Go p.tables e below _ (T2.setTop (mkF m 30 #[.val (.ref a1), .val .null, .unset, .unset, .unset] [(.int (2 : Int32))]))
  refine Go.by (fun _ => XS.istoreN X2.here hx rfl (hb hby d3_30) rfl (l' := #[.val (.ref a1), .val .null, .val (.int (2 : Int32)), .unset, .unset]) rfl) ?_
  show Go p.tables e below _ (T2.setTop (mkF m 31 #[.val (.ref a1), .val .null, .val (.int (2 : Int32)), .unset, .unset] []))
  refine Go.by (fun _ => XS.iloadN X2.here hx rfl (hb hby d3_31) rfl) ?_
  show Go p.tables e below _ (T2.setTop (mkF m 32 #[.val (.ref a1), .val .null, .val (.int (2 : Int32)), .unset, .unset] [(.int (2 : Int32))]))
  refine Go.by (fun _ => XS.bipush X2.here hx rfl (hb hby d3_32)) ?_
  show Go p.tables e below _ (T2.setTop (mkF m 34 #[.val (.ref a1), .val .null, .val (.int (2 : Int32)), .unset, .unset] [(.int (16 : Int32)), (.int (2 : Int32))]))
  refine Go.by (fun _ => XS.iushr X2.here hx rfl (hb hby d3_34) rfl) ?_
  show Go p.tables e below _ (T2.setTop (mkF m 35 #[.val (.ref a1), .val .null, .val (.int (2 : Int32)), .unset, .unset] [(.int (0 : Int32))]))
  refine Go.by (fun _ => XS.istoreN X2.here hx rfl (hb hby d3_35) rfl (l' := #[.val (.ref a1), .val .null, .val (.int (2 : Int32)), .val (.int (0 : Int32)), .unset]) rfl) ?_
  show Go p.tables e below _ (T2.setTop (mkF m 36 #[.val (.ref a1), .val .null, .val (.int (2 : Int32)), .val (.int (0 : Int32)), .unset] []))
  refine Go.by (fun _ => XS.iloadN X2.here hx rfl (hb hby d3_36) rfl) ?_
  show Go p.tables e below _ (T2.setTop (mkF m 37 #[.val (.ref a1), .val .null, .val (.int (2 : Int32)), .val (.int (0 : Int32)), .unset] [(.int (0 : Int32))]))
  refine Go.by (fun _ => XS.aloadN X2.here hx rfl (hb hby d3_37) rfl rfl) ?_
  show Go p.tables e below _ (T2.setTop (mkF m 38 #[.val (.ref a1), .val .null, .val (.int (2 : Int32)), .val (.int (0 : Int32)), .unset] [(.ref a1), (.int (0 : Int32))]))
  obtain ⟨T3, X3, st3⟩ := X2.getF hx hZ hown (host := "") (Or.inl (tw hw 12 rfl)) Via.refl F_longs (g := (mkF m 38 #[.val (.ref a1), .val .null, .val (.int (2 : Int32)), .val (.int (0 : Int32)), .unset] [(.ref a1), (.int (0 : Int32))])) rfl rfl (hb hby d3_38)
  refine Go.by st3 ?_
  show Go p.tables e below _ (T3.setTop (mkF m 41 #[.val (.ref a1), .val .null, .val (.int (2 : Int32)), .val (.int (0 : Int32)), .unset] [(.ref oL), (.int (0 : Int32))]))
  refine Go.by (X3.len hx hZ V_oL (z := (16 : Int32)) rfl (g := (mkF m 41 #[.val (.ref a1), .val .null, .val (.int (2 : Int32)), .val (.int (0 : Int32)), .unset] [(.ref oL), (.int (0 : Int32))])) rfl rfl (hb hby d3_41)) ?_
  show Go p.tables e below _ (T3.setTop (mkF m 42 #[.val (.ref a1), .val .null, .val (.int (2 : Int32)), .val (.int (0 : Int32)), .unset] [(.int (16 : Int32)), (.int (0 : Int32))]))
  refine Go.by (fun _ => XS.icmpYes X3.here hx rfl (pc0 := 42) (pc' := 96) rfl (hb hby d3_42) rfl (feq (by decide)).2 (by decide) (by decide)) ?_
  show Go p.tables e below _ (T3.setTop (mkF m 96 #[.val (.ref a1), .val .null, .val (.int (2 : Int32)), .val (.int (0 : Int32)), .unset] []))
  refine Go.by (fun _ => XS.iloadN X3.here hx rfl (hb hby d3_96) rfl) ?_
  show Go p.tables e below _ (T3.setTop (mkF m 97 #[.val (.ref a1), .val .null, .val (.int (2 : Int32)), .val (.int (0 : Int32)), .unset] [(.int (2 : Int32))]))
  refine Go.by (fun _ => XS.aloadN X3.here hx rfl (hb hby d3_97) rfl rfl) ?_
  show Go p.tables e below _ (T3.setTop (mkF m 98 #[.val (.ref a1), .val .null, .val (.int (2 : Int32)), .val (.int (0 : Int32)), .unset] [(.ref a1), (.int (2 : Int32))]))
  obtain ⟨T4, X4, st4⟩ := X3.getF hx hZ hown (host := "") (Or.inl (tw hw 36 rfl)) Via.refl F_capacity (g := (mkF m 98 #[.val (.ref a1), .val .null, .val (.int (2 : Int32)), .val (.int (0 : Int32)), .unset] [(.ref a1), (.int (2 : Int32))])) rfl rfl (hb hby d3_98)
  refine Go.by st4 ?_
  show Go p.tables e below _ (T4.setTop (mkF m 101 #[.val (.ref a1), .val .null, .val (.int (2 : Int32)), .val (.int (0 : Int32)), .unset] [(.int (64 : Int32)), (.int (2 : Int32))]))
  refine Go.by (fun _ => XS.icmpYes X4.here hx rfl (pc0 := 101) (pc' := 230) rfl (hb hby d3_101) rfl (feq (by decide)).2 (by decide) (by decide)) ?_
  show Go p.tables e below _ (T4.setTop (mkF m 230 #[.val (.ref a1), .val .null, .val (.int (2 : Int32)), .val (.int (0 : Int32)), .unset] []))
  refine Go.by (fun _ => XS.aloadN X4.here hx rfl (hb hby d3_230) rfl rfl) ?_
  show Go p.tables e below _ (T4.setTop (mkF m 231 #[.val (.ref a1), .val .null, .val (.int (2 : Int32)), .val (.int (0 : Int32)), .unset] [(.ref a1)]))
  obtain ⟨T5, X5, st5⟩ := X4.getF hx hZ hown (host := "") (Or.inl (tw hw 26 rfl)) Via.refl F_objectsPerRow (g := (mkF m 231 #[.val (.ref a1), .val .null, .val (.int (2 : Int32)), .val (.int (0 : Int32)), .unset] [(.ref a1)])) rfl rfl (hb hby d3_231)
  refine Go.by st5 ?_
  show Go p.tables e below _ (T5.setTop (mkF m 234 #[.val (.ref a1), .val .null, .val (.int (2 : Int32)), .val (.int (0 : Int32)), .unset] [(.int (1 : Int32))]))
  refine Go.by (fun _ => XS.ifNo X5.here hx rfl (hb hby d3_234) rfl ((if0 _ _).trans (tlt (by decide)).2.2.2)) ?_
  show Go p.tables e below _ (T5.setTop (mkF m 237 #[.val (.ref a1), .val .null, .val (.int (2 : Int32)), .val (.int (0 : Int32)), .unset] []))
  refine Go.by (fun _ => XS.aloadN X5.here hx rfl (hb hby d3_237) rfl rfl) ?_
  show Go p.tables e below _ (T5.setTop (mkF m 238 #[.val (.ref a1), .val .null, .val (.int (2 : Int32)), .val (.int (0 : Int32)), .unset] [(.ref a1)]))
  obtain ⟨T6, X6, st6⟩ := X5.getF hx hZ hown (host := "") (Or.inl (tw hw 20 rfl)) Via.refl F_objects (g := (mkF m 238 #[.val (.ref a1), .val .null, .val (.int (2 : Int32)), .val (.int (0 : Int32)), .unset] [(.ref a1)])) rfl rfl (hb hby d3_238)
  refine Go.by st6 ?_
  show Go p.tables e below _ (T6.setTop (mkF m 241 #[.val (.ref a1), .val .null, .val (.int (2 : Int32)), .val (.int (0 : Int32)), .unset] [(.ref oO)]))
  refine Go.by (fun _ => XS.iloadN X6.here hx rfl (hb hby d3_241) rfl) ?_
  show Go p.tables e below _ (T6.setTop (mkF m 242 #[.val (.ref a1), .val .null, .val (.int (2 : Int32)), .val (.int (0 : Int32)), .unset] [(.int (0 : Int32)), (.ref oO)]))
  refine Go.by (X6.ldA hx hZ V_oO rfl (by decide) (i := 0) rfl (by decide) (v := (.ref dO)) rfl (g := (mkF m 242 #[.val (.ref a1), .val .null, .val (.int (2 : Int32)), .val (.int (0 : Int32)), .unset] [(.int (0 : Int32)), (.ref oO)])) rfl rfl (hb hby d3_242)) ?_
  show Go p.tables e below _ (T6.setTop (mkF m 243 #[.val (.ref a1), .val .null, .val (.int (2 : Int32)), .val (.int (0 : Int32)), .unset] [(.ref dO)]))
  refine Go.by (fun _ => XS.iloadN X6.here hx rfl (hb hby d3_243) rfl) ?_
  show Go p.tables e below _ (T6.setTop (mkF m 244 #[.val (.ref a1), .val .null, .val (.int (2 : Int32)), .val (.int (0 : Int32)), .unset] [(.int (2 : Int32)), (.ref dO)]))
  refine Go.by (X6.ldcInt hx hZ hown (tw hw 64 rfl) (g := (mkF m 244 #[.val (.ref a1), .val .null, .val (.int (2 : Int32)), .val (.int (0 : Int32)), .unset] [(.int (2 : Int32)), (.ref dO)])) rfl (hb hby d3_244)) ?_
  show Go p.tables e below _ (T6.setTop (mkF m 246 #[.val (.ref a1), .val .null, .val (.int (2 : Int32)), .val (.int (0 : Int32)), .unset] [(.int (65535 : Int32)), (.int (2 : Int32)), (.ref dO)]))
  refine Go.by (fun _ => XS.iand X6.here hx rfl (hb hby d3_246) rfl) ?_
  show Go p.tables e below _ (T6.setTop (mkF m 247 #[.val (.ref a1), .val .null, .val (.int (2 : Int32)), .val (.int (0 : Int32)), .unset] [(.int (2 : Int32)), (.ref dO)]))
  refine Go.by (fun _ => XS.aloadN X6.here hx rfl (hb hby d3_247) rfl rfl) ?_
  show Go p.tables e below _ (T6.setTop (mkF m 248 #[.val (.ref a1), .val .null, .val (.int (2 : Int32)), .val (.int (0 : Int32)), .unset] [.null, (.int (2 : Int32)), (.ref dO)]))
  obtain ⟨T7, h7, X7, W7, V7, st7⟩ := X6.stR hx hZ V_dO g_dO rfl rfl (Or.inl rfl) (by decide) (i := 2) rfl (by decide) (g := (mkF m 248 #[.val (.ref a1), .val .null, .val (.int (2 : Int32)), .val (.int (0 : Int32)), .unset] [.null, (.int (2 : Int32)), (.ref dO)])) rfl rfl (hb hby d3_248)
  have f8_71 := E_a1.wr W7
  have f8_72 := F_longs.other W7 (Or.inl nd)
  have f8_73 := F_ints.other W7 (Or.inl nd)
  have f8_74 := F_objects.other W7 (Or.inl nd)
  have f8_75 := F_longsPerRow.other W7 (Or.inl nd)
  have f8_76 := F_intsPerRow.other W7 (Or.inl nd)
  have f8_77 := F_objectsPerRow.other W7 (Or.inl nd)
  have f8_78 := F_size.other W7 (Or.inl nd)
  have f8_79 := F_capacity.other W7 (Or.inl nd)
  have f8_80 := K0.wr W7 (Or.inl (List.mem_of_getElem? (i := 1) rfl))
  have Zs8 : n0 ≤ h7.size := by rw [W7.size]; exact Z0
  refine Go.by st7 ?_
  show Go p.tables e below _ (T7.setTop (mkF m 249 #[.val (.ref a1), .val .null, .val (.int (2 : Int32)), .val (.int (0 : Int32)), .unset] []))
  refine Go.by (fun _ => XS.aloadN X7.here hx rfl (hb hby d3_249) rfl rfl) ?_
  show Go p.tables e below _ (T7.setTop (mkF m 250 #[.val (.ref a1), .val .null, .val (.int (2 : Int32)), .val (.int (0 : Int32)), .unset] [(.ref a1)]))
  refine Go.by (fun _ => XS.dup X7.here hx rfl (hb hby d3_250) rfl rfl) ?_
  show Go p.tables e below _ (T7.setTop (mkF m 251 #[.val (.ref a1), .val .null, .val (.int (2 : Int32)), .val (.int (0 : Int32)), .unset] [(.ref a1), (.ref a1)]))
  obtain ⟨T9, X9, st9⟩ := X7.getF hx hZ hown (host := "") (Or.inl (tw hw 33 rfl)) Via.refl f8_78 (g := (mkF m 251 #[.val (.ref a1), .val .null, .val (.int (2 : Int32)), .val (.int (0 : Int32)), .unset] [(.ref a1), (.ref a1)])) rfl rfl (hb hby d3_251)
  refine Go.by st9 ?_
  show Go p.tables e below _ (T9.setTop (mkF m 254 #[.val (.ref a1), .val .null, .val (.int (2 : Int32)), .val (.int (0 : Int32)), .unset] [(.int (2 : Int32)), (.ref a1)]))
  refine Go.by (fun _ => XS.iconst X9.here hx rfl (hb hby d3_254)) ?_
  show Go p.tables e below _ (T9.setTop (mkF m 255 #[.val (.ref a1), .val .null, .val (.int (2 : Int32)), .val (.int (0 : Int32)), .unset] [(.int (1 : Int32)), (.int (2 : Int32)), (.ref a1)]))
  refine Go.by (fun _ => XS.iadd X9.here hx rfl (hb hby d3_255) rfl) ?_
  show Go p.tables e below _ (T9.setTop (mkF m 256 #[.val (.ref a1), .val .null, .val (.int (2 : Int32)), .val (.int (0 : Int32)), .unset] [(.int (3 : Int32)), (.ref a1)]))
  obtain ⟨T10, h10, X10, W10, st10⟩ := X9.putF hx hZ hown (host := "") (Or.inl (tw hw 33 rfl)) Via.refl f8_78 f8_71 g_a1 (Or.inl (tw hw 34 rfl)) (tw hw 2 rfl) (ty := .int) (by decide) rfl rfl (g := (mkF m 256 #[.val (.ref a1), .val .null, .val (.int (2 : Int32)), .val (.int (0 : Int32)), .unset] [(.int (3 : Int32)), (.ref a1)])) rfl rfl (hb hby d3_256)
  have Fw10 := f8_78.same W10
  have f11_97 := f8_71.wr W10
  have f11_98 := f8_72.other W10 (Or.inr (slot_ne (Or.inl (tw hw 13 rfl)) (Or.inl (tw hw 34 rfl)) (by decide) (t := (.array (.array .long))) (t' := .int) (by decide) (by decide)))
  have f11_99 := f8_73.other W10 (Or.inr (slot_ne (Or.inl (tw hw 17 rfl)) (Or.inl (tw hw 34 rfl)) (by decide) (t := (.array (.array .int))) (t' := .int) (by decide) (by decide)))
  have f11_100 := f8_74.other W10 (Or.inr (slot_ne (Or.inl (tw hw 21 rfl)) (Or.inl (tw hw 34 rfl)) (by decide) (t := (.array (.array (.object "java/lang/Object")))) (t' := .int) (by decide) (by decide)))
  have f11_101 := f8_75.other W10 (Or.inr (slot_ne (Or.inr (tw hw 23 rfl)) (Or.inl (tw hw 34 rfl)) (by decide) (t := .int) (t' := .int) (by decide) (by decide)))
  have f11_102 := f8_76.other W10 (Or.inr (slot_ne (Or.inr (tw hw 25 rfl)) (Or.inl (tw hw 34 rfl)) (by decide) (t := .int) (t' := .int) (by decide) (by decide)))
  have f11_103 := f8_77.other W10 (Or.inr (slot_ne (Or.inr (tw hw 27 rfl)) (Or.inl (tw hw 34 rfl)) (by decide) (t := .int) (t' := .int) (by decide) (by decide)))
  have f11_104 := f8_79.other W10 (Or.inr (slot_ne (Or.inl (tw hw 37 rfl)) (Or.inl (tw hw 34 rfl)) (by decide) (t := .int) (t' := .int) (by decide) (by decide)))
  have f11_105 := Avf.other V7 W10 (Ne.symm nd)
  have f11_106 := f8_80.wr W10 (Or.inl (List.mem_of_getElem? (i := 0) rfl))
  have Zs11 : n0 ≤ h10.size := by rw [W10.size]; exact Zs8
  refine Go.by st10 ?_
  show Go p.tables e below _ (T10.setTop (mkF m 259 #[.val (.ref a1), .val .null, .val (.int (2 : Int32)), .val (.int (0 : Int32)), .unset] []))
  refine Go.by (fun _ => XS.iloadN X10.here hx rfl (hb hby d3_259) rfl) ?_
  show Go p.tables e below _ (T10.setTop (mkF m 260 #[.val (.ref a1), .val .null, .val (.int (2 : Int32)), .val (.int (0 : Int32)), .unset] [(.int (2 : Int32))]))
  exact Go.retI X10 hx hlk hret (hb hby d3_260) (by decide) (by decide) ⟨rfl, f11_106, f11_97, f11_98, f11_99, f11_100, f11_101, f11_102, f11_103, Fw10, f11_104, Avf.cong f11_105 (fun i hi => by by_cases q : i = 2 <;> simp [q])⟩
theorem d8_0 : decode prog_40_method_6_code 0 = .ok (.aload_n 0, 1) := by decide +kernel
theorem d8_1 : decode prog_40_method_6_code 1 = .ok (.getfield 11, 3) := by decide +kernel
theorem d8_4 : decode prog_40_method_6_code 4 = .ok (.iload_n 1, 1) := by decide +kernel
theorem d8_5 : decode prog_40_method_6_code 5 = .ok (.bipush 16, 2) := by decide +kernel
theorem d8_7 : decode prog_40_method_6_code 7 = .ok (.iushr, 1) := by decide +kernel
theorem d8_8 : decode prog_40_method_6_code 8 = .ok (.aaload, 1) := by decide +kernel
theorem d8_9 : decode prog_40_method_6_code 9 = .ok (.iload_n 1, 1) := by decide +kernel
theorem d8_10 : decode prog_40_method_6_code 10 = .ok (.ldc 81, 2) := by decide +kernel
theorem d8_12 : decode prog_40_method_6_code 12 = .ok (.iand, 1) := by decide +kernel
theorem d8_13 : decode prog_40_method_6_code 13 = .ok (.aload_n 0, 1) := by decide +kernel
theorem d8_14 : decode prog_40_method_6_code 14 = .ok (.getfield 27, 3) := by decide +kernel
theorem d8_17 : decode prog_40_method_6_code 17 = .ok (.imul, 1) := by decide +kernel
theorem d8_18 : decode prog_40_method_6_code 18 = .ok (.iload_n 2, 1) := by decide +kernel
theorem d8_19 : decode prog_40_method_6_code 19 = .ok (.iadd, 1) := by decide +kernel
theorem d8_20 : decode prog_40_method_6_code 20 = .ok (.lload_n 3, 1) := by decide +kernel
theorem d8_21 : decode prog_40_method_6_code 21 = .ok (.lastore, 1) := by decide +kernel
theorem d8_22 : decode prog_40_method_6_code 22 = .ok (.return_, 1) := by decide +kernel
abbrev Rm8 : Room := { frames := 0, cells := 0, slots := 0, locals := 0 }
set_option maxRecDepth 65536 in
set_option maxHeartbeats 40000000 in
theorem rm8 (l : Launch) (Z : State) (a0 : Array Value) (hw : ∀ d ∈ tables_1, d.before a0 Z = true) (ws : List Jvm.Cond) (a1 : Addr) (p1 : Int32) (p2 : Int32) (q3 : Int64) (o1 d1 : Addr) (ko kd : ClassId) (ip : Int32) (sz : Nat) (fo f : Nat → Value) (h0 : Heap) (n0 : Nat) (Z0 : n0 ≤ h0.size) (F_longs : Fld Z h0 a1 "com/example/spotline/spotline/engine/Table" "longs" "[[J" (.ref o1)) (F_longsPerRow : Fld Z h0 a1 "com/example/spotline/spotline/engine/Table" "longsPerRow" "I" (.int ip)) (V_o : Avf Z h0 o1 ko (.array .long) 16 fo) (ho : fo 0 = .ref d1) (V_d : Avf Z h0 d1 kd .long sz f) (hrow : ((p1.toUInt32 >>> ((16 : Int32) &&& 31).toUInt32).toInt32) = 0) (hj : ¬ (((p1 &&& (65535 : Int32)) * ip) + p2) < 0) (hlt : ((((p1 &&& (65535 : Int32)) * ip) + p2).toNatClampNeg) < sz) (g_d : n0 ≤ d1) :
    Met l Z n0 (⟨"com/example/spotline/spotline/engine/Table", "setLong", "(IIJ)V"⟩ : MethodName) prog_40_method_6_code 5 none ws Rm8 #[(.ref a1), (.int p1), (.int p2), (.long q3)] h0 (fun v h => v = none ∧ Keep h0 h [d1] ∧ Avf Z h d1 kd .long sz (fun t => if t = ((((p1 &&& (65535 : Int32)) * ip) + p2).toNatClampNeg) then (.long q3) else f t)) := by
  refine enter (Ls := #[.val (.ref a1), .val (.int p1), .val (.int p2), .val (.long q3), .second]) (plainFor_of_name pn0) (fun m => by first | (simp [entryFrame, mkF, argsToLocals, Value.category]; done) | rfl) ?_
  intro p e s m below meth c T0 hx hby hml hown hnm hret hlk hZ X0
  have K0 := Keep.refl h0 [d1]
  show Go p.tables e below _ (T0.setTop (mkF m 0 #[.val (.ref a1), .val (.int p1), .val (.int p2), .val (.long q3), .second] []))
  refine Go.by (fun _ => XS.aloadN X0.here hx rfl (hb hby d8_0) rfl rfl) ?_
  show Go p.tables e below _ (T0.setTop (mkF m 1 #[.val (.ref a1), .val (.int p1), .val (.int p2), .val (.long q3), .second] [(.ref a1)]))
  obtain ⟨T1, X1, st1⟩ := X0.getF hx hZ hown (host := "") (Or.inl (tw hw 12 rfl)) Via.refl F_longs (g := (mkF m 1 #[.val (.ref a1), .val (.int p1), .val (.int p2), .val (.long q3), .second] [(.ref a1)])) rfl rfl (hb hby d8_1)
  refine Go.by st1 ?_
  show Go p.tables e below _ (T1.setTop (mkF m 4 #[.val (.ref a1), .val (.int p1), .val (.int p2), .val (.long q3), .second] [(.ref o1)]))
  refine Go.by (fun _ => XS.iloadN X1.here hx rfl (hb hby d8_4) rfl) ?_
  show Go p.tables e below _ (T1.setTop (mkF m 5 #[.val (.ref a1), .val (.int p1), .val (.int p2), .val (.long q3), .second] [(.int p1), (.ref o1)]))
  refine Go.by (fun _ => XS.bipush X1.here hx rfl (hb hby d8_5)) ?_
  show Go p.tables e below _ (T1.setTop (mkF m 7 #[.val (.ref a1), .val (.int p1), .val (.int p2), .val (.long q3), .second] [(.int (16 : Int32)), (.int p1), (.ref o1)]))
  refine Go.by (fun _ => XS.iushr X1.here hx rfl (hb hby d8_7) rfl) ?_
  show Go p.tables e below _ (T1.setTop (mkF m 8 #[.val (.ref a1), .val (.int p1), .val (.int p2), .val (.long q3), .second] [(.int ((p1.toUInt32 >>> ((16 : Int32) &&& 31).toUInt32).toInt32)), (.ref o1)]))
  rw [hrow]
  show Go p.tables e below _ (T1.setTop (mkF m 8 #[.val (.ref a1), .val (.int p1), .val (.int p2), .val (.long q3), .second] [(.int (0 : Int32)), (.ref o1)]))
  refine Go.by (X1.ldA hx hZ V_o rfl (by decide) (i := 0) rfl (by decide) (v := (.ref d1)) ho (g := (mkF m 8 #[.val (.ref a1), .val (.int p1), .val (.int p2), .val (.long q3), .second] [(.int (0 : Int32)), (.ref o1)])) rfl rfl (hb hby d8_8)) ?_
  show Go p.tables e below _ (T1.setTop (mkF m 9 #[.val (.ref a1), .val (.int p1), .val (.int p2), .val (.long q3), .second] [(.ref d1)]))
  refine Go.by (fun _ => XS.iloadN X1.here hx rfl (hb hby d8_9) rfl) ?_
  show Go p.tables e below _ (T1.setTop (mkF m 10 #[.val (.ref a1), .val (.int p1), .val (.int p2), .val (.long q3), .second] [(.int p1), (.ref d1)]))
  refine Go.by (X1.ldcInt hx hZ hown (tw hw 64 rfl) (g := (mkF m 10 #[.val (.ref a1), .val (.int p1), .val (.int p2), .val (.long q3), .second] [(.int p1), (.ref d1)])) rfl (hb hby d8_10)) ?_
  show Go p.tables e below _ (T1.setTop (mkF m 12 #[.val (.ref a1), .val (.int p1), .val (.int p2), .val (.long q3), .second] [(.int (65535 : Int32)), (.int p1), (.ref d1)]))
  refine Go.by (fun _ => XS.iand X1.here hx rfl (hb hby d8_12) rfl) ?_
  show Go p.tables e below _ (T1.setTop (mkF m 13 #[.val (.ref a1), .val (.int p1), .val (.int p2), .val (.long q3), .second] [(.int (p1 &&& (65535 : Int32))), (.ref d1)]))
  refine Go.by (fun _ => XS.aloadN X1.here hx rfl (hb hby d8_13) rfl rfl) ?_
  show Go p.tables e below _ (T1.setTop (mkF m 14 #[.val (.ref a1), .val (.int p1), .val (.int p2), .val (.long q3), .second] [(.ref a1), (.int (p1 &&& (65535 : Int32))), (.ref d1)]))
  obtain ⟨T2, X2, st2⟩ := X1.getF hx hZ hown (host := "") (Or.inl (tw hw 22 rfl)) Via.refl F_longsPerRow (g := (mkF m 14 #[.val (.ref a1), .val (.int p1), .val (.int p2), .val (.long q3), .second] [(.ref a1), (.int (p1 &&& (65535 : Int32))), (.ref d1)])) rfl rfl (hb hby d8_14)
  refine Go.by st2 ?_
  show Go p.tables e below _ (T2.setTop (mkF m 17 #[.val (.ref a1), .val (.int p1), .val (.int p2), .val (.long q3), .second] [(.int ip), (.int (p1 &&& (65535 : Int32))), (.ref d1)]))
  refine Go.by (fun _ => XS.imul X2.here hx rfl (hb hby d8_17) rfl) ?_
  show Go p.tables e below _ (T2.setTop (mkF m 18 #[.val (.ref a1), .val (.int p1), .val (.int p2), .val (.long q3), .second] [(.int ((p1 &&& (65535 : Int32)) * ip)), (.ref d1)]))
  refine Go.by (fun _ => XS.iloadN X2.here hx rfl (hb hby d8_18) rfl) ?_
  show Go p.tables e below _ (T2.setTop (mkF m 19 #[.val (.ref a1), .val (.int p1), .val (.int p2), .val (.long q3), .second] [(.int p2), (.int ((p1 &&& (65535 : Int32)) * ip)), (.ref d1)]))
  refine Go.by (fun _ => XS.iadd X2.here hx rfl (hb hby d8_19) rfl) ?_
  show Go p.tables e below _ (T2.setTop (mkF m 20 #[.val (.ref a1), .val (.int p1), .val (.int p2), .val (.long q3), .second] [(.int (((p1 &&& (65535 : Int32)) * ip) + p2)), (.ref d1)]))
  refine Go.by (fun _ => XS.lloadN X2.here hx rfl (hb hby d8_20) rfl) ?_
  show Go p.tables e below _ (T2.setTop (mkF m 21 #[.val (.ref a1), .val (.int p1), .val (.int p2), .val (.long q3), .second] [(.long q3), (.int (((p1 &&& (65535 : Int32)) * ip) + p2)), (.ref d1)]))
  obtain ⟨T3, h3, X3, W3, V3, st3⟩ := X2.stJ hx hZ V_d g_d hj (i := ((((p1 &&& (65535 : Int32)) * ip) + p2).toNatClampNeg)) rfl hlt (g := (mkF m 21 #[.val (.ref a1), .val (.int p1), .val (.int p2), .val (.long q3), .second] [(.long q3), (.int (((p1 &&& (65535 : Int32)) * ip) + p2)), (.ref d1)])) rfl rfl (hb hby d8_21)
  have f4_37 := K0.wr W3 (Or.inl (List.mem_of_getElem? (i := 0) rfl))
  have Zs4 : n0 ≤ h3.size := by rw [W3.size]; exact Z0
  refine Go.by st3 ?_
  show Go p.tables e below _ (T3.setTop (mkF m 22 #[.val (.ref a1), .val (.int p1), .val (.int p2), .val (.long q3), .second] []))
  exact Go.ret0 X3 hx hlk hret (hb hby d8_22) (by decide) (by decide) ⟨rfl, f4_37, V3⟩
theorem d9_0 : decode prog_40_method_5_code 0 = .ok (.aload_n 0, 1) := by decide +kernel
theorem d9_1 : decode prog_40_method_5_code 1 = .ok (.getfield 11, 3) := by decide +kernel
theorem d9_4 : decode prog_40_method_5_code 4 = .ok (.iload_n 1, 1) := by decide +kernel
theorem d9_5 : decode prog_40_method_5_code 5 = .ok (.bipush 16, 2) := by decide +kernel
theorem d9_7 : decode prog_40_method_5_code 7 = .ok (.iushr, 1) := by decide +kernel
theorem d9_8 : decode prog_40_method_5_code 8 = .ok (.aaload, 1) := by decide +kernel
theorem d9_9 : decode prog_40_method_5_code 9 = .ok (.iload_n 1, 1) := by decide +kernel
theorem d9_10 : decode prog_40_method_5_code 10 = .ok (.ldc 81, 2) := by decide +kernel
theorem d9_12 : decode prog_40_method_5_code 12 = .ok (.iand, 1) := by decide +kernel
theorem d9_13 : decode prog_40_method_5_code 13 = .ok (.aload_n 0, 1) := by decide +kernel
theorem d9_14 : decode prog_40_method_5_code 14 = .ok (.getfield 27, 3) := by decide +kernel
theorem d9_17 : decode prog_40_method_5_code 17 = .ok (.imul, 1) := by decide +kernel
theorem d9_18 : decode prog_40_method_5_code 18 = .ok (.iload_n 2, 1) := by decide +kernel
theorem d9_19 : decode prog_40_method_5_code 19 = .ok (.iadd, 1) := by decide +kernel
theorem d9_20 : decode prog_40_method_5_code 20 = .ok (.laload, 1) := by decide +kernel
theorem d9_21 : decode prog_40_method_5_code 21 = .ok (.lreturn, 1) := by decide +kernel
abbrev Rm9 : Room := { frames := 0, cells := 0, slots := 0, locals := 0 }
set_option maxRecDepth 65536 in
set_option maxHeartbeats 40000000 in
theorem rm9 (l : Launch) (Z : State) (a0 : Array Value) (hw : ∀ d ∈ tables_1, d.before a0 Z = true) (ws : List Jvm.Cond) (a1 : Addr) (p1 : Int32) (p2 : Int32) (o1 d1 : Addr) (ko kd : ClassId) (ip : Int32) (sz : Nat) (fo f : Nat → Value) (xv : Int64) (h0 : Heap) (n0 : Nat) (Z0 : n0 ≤ h0.size) (F_longs : Fld Z h0 a1 "com/example/spotline/spotline/engine/Table" "longs" "[[J" (.ref o1)) (F_longsPerRow : Fld Z h0 a1 "com/example/spotline/spotline/engine/Table" "longsPerRow" "I" (.int ip)) (V_o : Avf Z h0 o1 ko (.array .long) 16 fo) (ho : fo 0 = .ref d1) (V_d : Avf Z h0 d1 kd .long sz f) (hrow : ((p1.toUInt32 >>> ((16 : Int32) &&& 31).toUInt32).toInt32) = 0) (hj : ¬ (((p1 &&& (65535 : Int32)) * ip) + p2) < 0) (hlt : ((((p1 &&& (65535 : Int32)) * ip) + p2).toNatClampNeg) < sz) (hval : f ((((p1 &&& (65535 : Int32)) * ip) + p2).toNatClampNeg) = (.long xv)) :
    Met l Z n0 (⟨"com/example/spotline/spotline/engine/Table", "getLong", "(II)J"⟩ : MethodName) prog_40_method_5_code 3 (some .long) ws Rm9 #[(.ref a1), (.int p1), (.int p2)] h0 (fun v h => v = some (.long xv) ∧ h0 = h) := by
  refine enter (Ls := #[.val (.ref a1), .val (.int p1), .val (.int p2)]) (plainFor_of_name pn0) (fun m => by first | (simp [entryFrame, mkF, argsToLocals, Value.category]; done) | rfl) ?_
  intro p e s m below meth c T0 hx hby hml hown hnm hret hlk hZ X0
  show Go p.tables e below _ (T0.setTop (mkF m 0 #[.val (.ref a1), .val (.int p1), .val (.int p2)] []))
  refine Go.by (fun _ => XS.aloadN X0.here hx rfl (hb hby d9_0) rfl rfl) ?_
  show Go p.tables e below _ (T0.setTop (mkF m 1 #[.val (.ref a1), .val (.int p1), .val (.int p2)] [(.ref a1)]))
  obtain ⟨T1, X1, st1⟩ := X0.getF hx hZ hown (host := "") (Or.inl (tw hw 12 rfl)) Via.refl F_longs (g := (mkF m 1 #[.val (.ref a1), .val (.int p1), .val (.int p2)] [(.ref a1)])) rfl rfl (hb hby d9_1)
  refine Go.by st1 ?_
  show Go p.tables e below _ (T1.setTop (mkF m 4 #[.val (.ref a1), .val (.int p1), .val (.int p2)] [(.ref o1)]))
  refine Go.by (fun _ => XS.iloadN X1.here hx rfl (hb hby d9_4) rfl) ?_
  show Go p.tables e below _ (T1.setTop (mkF m 5 #[.val (.ref a1), .val (.int p1), .val (.int p2)] [(.int p1), (.ref o1)]))
  refine Go.by (fun _ => XS.bipush X1.here hx rfl (hb hby d9_5)) ?_
  show Go p.tables e below _ (T1.setTop (mkF m 7 #[.val (.ref a1), .val (.int p1), .val (.int p2)] [(.int (16 : Int32)), (.int p1), (.ref o1)]))
  refine Go.by (fun _ => XS.iushr X1.here hx rfl (hb hby d9_7) rfl) ?_
  show Go p.tables e below _ (T1.setTop (mkF m 8 #[.val (.ref a1), .val (.int p1), .val (.int p2)] [(.int ((p1.toUInt32 >>> ((16 : Int32) &&& 31).toUInt32).toInt32)), (.ref o1)]))
  rw [hrow]
  show Go p.tables e below _ (T1.setTop (mkF m 8 #[.val (.ref a1), .val (.int p1), .val (.int p2)] [(.int (0 : Int32)), (.ref o1)]))
  refine Go.by (X1.ldA hx hZ V_o rfl (by decide) (i := 0) rfl (by decide) (v := (.ref d1)) ho (g := (mkF m 8 #[.val (.ref a1), .val (.int p1), .val (.int p2)] [(.int (0 : Int32)), (.ref o1)])) rfl rfl (hb hby d9_8)) ?_
  show Go p.tables e below _ (T1.setTop (mkF m 9 #[.val (.ref a1), .val (.int p1), .val (.int p2)] [(.ref d1)]))
  refine Go.by (fun _ => XS.iloadN X1.here hx rfl (hb hby d9_9) rfl) ?_
  show Go p.tables e below _ (T1.setTop (mkF m 10 #[.val (.ref a1), .val (.int p1), .val (.int p2)] [(.int p1), (.ref d1)]))
  refine Go.by (X1.ldcInt hx hZ hown (tw hw 64 rfl) (g := (mkF m 10 #[.val (.ref a1), .val (.int p1), .val (.int p2)] [(.int p1), (.ref d1)])) rfl (hb hby d9_10)) ?_
  show Go p.tables e below _ (T1.setTop (mkF m 12 #[.val (.ref a1), .val (.int p1), .val (.int p2)] [(.int (65535 : Int32)), (.int p1), (.ref d1)]))
  refine Go.by (fun _ => XS.iand X1.here hx rfl (hb hby d9_12) rfl) ?_
  show Go p.tables e below _ (T1.setTop (mkF m 13 #[.val (.ref a1), .val (.int p1), .val (.int p2)] [(.int (p1 &&& (65535 : Int32))), (.ref d1)]))
  refine Go.by (fun _ => XS.aloadN X1.here hx rfl (hb hby d9_13) rfl rfl) ?_
  show Go p.tables e below _ (T1.setTop (mkF m 14 #[.val (.ref a1), .val (.int p1), .val (.int p2)] [(.ref a1), (.int (p1 &&& (65535 : Int32))), (.ref d1)]))
  obtain ⟨T2, X2, st2⟩ := X1.getF hx hZ hown (host := "") (Or.inl (tw hw 22 rfl)) Via.refl F_longsPerRow (g := (mkF m 14 #[.val (.ref a1), .val (.int p1), .val (.int p2)] [(.ref a1), (.int (p1 &&& (65535 : Int32))), (.ref d1)])) rfl rfl (hb hby d9_14)
  refine Go.by st2 ?_
  show Go p.tables e below _ (T2.setTop (mkF m 17 #[.val (.ref a1), .val (.int p1), .val (.int p2)] [(.int ip), (.int (p1 &&& (65535 : Int32))), (.ref d1)]))
  refine Go.by (fun _ => XS.imul X2.here hx rfl (hb hby d9_17) rfl) ?_
  show Go p.tables e below _ (T2.setTop (mkF m 18 #[.val (.ref a1), .val (.int p1), .val (.int p2)] [(.int ((p1 &&& (65535 : Int32)) * ip)), (.ref d1)]))
  refine Go.by (fun _ => XS.iloadN X2.here hx rfl (hb hby d9_18) rfl) ?_
  show Go p.tables e below _ (T2.setTop (mkF m 19 #[.val (.ref a1), .val (.int p1), .val (.int p2)] [(.int p2), (.int ((p1 &&& (65535 : Int32)) * ip)), (.ref d1)]))
  refine Go.by (fun _ => XS.iadd X2.here hx rfl (hb hby d9_19) rfl) ?_
  show Go p.tables e below _ (T2.setTop (mkF m 20 #[.val (.ref a1), .val (.int p1), .val (.int p2)] [(.int (((p1 &&& (65535 : Int32)) * ip) + p2)), (.ref d1)]))
  refine Go.by (X2.ldJ hx hZ V_d hj (i := ((((p1 &&& (65535 : Int32)) * ip) + p2).toNatClampNeg)) rfl hlt (v := (.long xv)) hval (g := (mkF m 20 #[.val (.ref a1), .val (.int p1), .val (.int p2)] [(.int (((p1 &&& (65535 : Int32)) * ip) + p2)), (.ref d1)])) rfl rfl (hb hby d9_20)) ?_
  show Go p.tables e below _ (T2.setTop (mkF m 21 #[.val (.ref a1), .val (.int p1), .val (.int p2)] [(.long xv)]))
  exact Go.retL X2 hx hlk hret (hb hby d9_21) (by decide) (by decide) ⟨rfl, rfl⟩
theorem pd3 : parseMethodDescriptor "(IIZ)V" = some ⟨[.int, .int, .boolean], none⟩ := by decide +kernel
theorem pd4 : parseMethodDescriptor "(Ljava/lang/Object;)I" = some ⟨[(.object "java/lang/Object")], some .int⟩ := by decide +kernel
theorem pd5 : parseMethodDescriptor "(IIJ)V" = some ⟨[.int, .int, .long], none⟩ := by decide +kernel
theorem pd6 : parseMethodDescriptor "(II)J" = some ⟨[.int, .int], some .long⟩ := by decide +kernel
theorem pn1 : plainName "com/example/spotline/spotline/engine/TableSetLongPinLaw" = true := by first | (simp [plainName, overriddenIn]; done) | decide +kernel
set_option maxRecDepth 65536 in
set_option maxHeartbeats 40000000 in
theorem rm0 (l : Launch) (Z : State) (a0 : Array Value) (hw : ∀ d ∈ tables_1, d.before a0 Z = true) (ws : List Jvm.Cond) (p0 : Int32) (p1 : Int32) (p2 : Int64) (p3 : Int64) (h0 : Heap) (n0 : Nat) (Z0 : n0 ≤ h0.size) :
    Met l Z n0 x code maxLocals ret ws room_1 #[(.int p0), (.int p1), (.long p2), (.long p3)] h0 (fun v h => v = some (.int 1)) := by
  refine enter (Ls := #[.val (.int p0), .val (.int p1), .val (.long p2), .second, .val (.long p3), .second, .unset, .unset, .unset, .unset, .unset, .unset, .unset, .unset, .unset, .unset, .unset, .unset, .unset, .unset, .unset, .unset, .unset, .unset, .unset, .unset, .unset, .unset, .unset]) (plainFor_of_name pn1) (fun m => by first | (simp [entryFrame, mkF, argsToLocals, Value.category, maxLocals]; done) | rfl) ?_
  intro p e s m below meth c T0 hx hby hml hown hnm hret hlk hZ X0
  show Go p.tables e below _ (T0.setTop (mkF m 0 #[.val (.int p0), .val (.int p1), .val (.long p2), .second, .val (.long p3), .second, .unset, .unset, .unset, .unset, .unset, .unset, .unset, .unset, .unset, .unset, .unset, .unset, .unset, .unset, .unset, .unset, .unset, .unset, .unset, .unset, .unset, .unset, .unset] []))
  refine Go.by (fun _ => XS.iloadN X0.here hx rfl (hb hby at_0) rfl) ?_
  refine Go.by (X0.ldcInt hx hZ hown (tw hw 0 rfl) (g := (mkF m 1 #[.val (.int p0), .val (.int p1), .val (.long p2), .second, .val (.long p3), .second, .unset, .unset, .unset, .unset, .unset, .unset, .unset, .unset, .unset, .unset, .unset, .unset, .unset, .unset, .unset, .unset, .unset, .unset, .unset, .unset, .unset, .unset, .unset] [(.int p0)])) rfl (hb hby at_1)) ?_
  show Go p.tables e below _ (T0.setTop (mkF m 3 #[.val (.int p0), .val (.int p1), .val (.long p2), .second, .val (.long p3), .second, .unset, .unset, .unset, .unset, .unset, .unset, .unset, .unset, .unset, .unset, .unset, .unset, .unset, .unset, .unset, .unset, .unset, .unset, .unset, .unset, .unset, .unset, .unset] [(.int (2147483647 : Int32)), (.int p0)]))
  refine Go.by (fun _ => XS.iand X0.here hx rfl (hb hby at_3) rfl) ?_
  refine Go.by (fun _ => XS.iconst X0.here hx rfl (hb hby at_4)) ?_
  refine Go.by (fun _ => iremS X0 hx rfl (hb hby at_5) rfl (by decide)) ?_
  show Go p.tables e below _ (T0.setTop (mkF m 6 #[.val (.int p0), .val (.int p1), .val (.long p2), .second, .val (.long p3), .second, .unset, .unset, .unset, .unset, .unset, .unset, .unset, .unset, .unset, .unset, .unset, .unset, .unset, .unset, .unset, .unset, .unset, .unset, .unset, .unset, .unset, .unset, .unset] [(.int ((p0 &&& (2147483647 : Int32)) % (3 : Int32)))]))
  refine Go.by (fun _ => XS.iconst X0.here hx rfl (hb hby at_6)) ?_
  show Go p.tables e below _ (T0.setTop (mkF m 7 #[.val (.int p0), .val (.int p1), .val (.long p2), .second, .val (.long p3), .second, .unset, .unset, .unset, .unset, .unset, .unset, .unset, .unset, .unset, .unset, .unset, .unset, .unset, .unset, .unset, .unset, .unset, .unset, .unset, .unset, .unset, .unset, .unset] [(.int (1 : Int32)), (.int ((p0 &&& (2147483647 : Int32)) % (3 : Int32)))]))
  refine Go.by (fun _ => XS.iadd X0.here hx rfl (hb hby at_7) rfl) ?_
  refine Go.by (fun _ => XS.istore X0.here hx rfl (hb hby at_8) rfl (l' := #[.val (.int p0), .val (.int p1), .val (.long p2), .second, .val (.long p3), .second, .val (.int (((p0 &&& (2147483647 : Int32)) % (3 : Int32)) + (1 : Int32))), .unset, .unset, .unset, .unset, .unset, .unset, .unset, .unset, .unset, .unset, .unset, .unset, .unset, .unset, .unset, .unset, .unset, .unset, .unset, .unset, .unset, .unset]) rfl) ?_
  show Go p.tables e below _ (T0.setTop (mkF m 10 #[.val (.int p0), .val (.int p1), .val (.long p2), .second, .val (.long p3), .second, .val (.int (((p0 &&& (2147483647 : Int32)) % (3 : Int32)) + (1 : Int32))), .unset, .unset, .unset, .unset, .unset, .unset, .unset, .unset, .unset, .unset, .unset, .unset, .unset, .unset, .unset, .unset, .unset, .unset, .unset, .unset, .unset, .unset] []))
  obtain ⟨ip, eip, hip1, hip2⟩ := own_ips p0
  rw [eip]
  show Go p.tables e below _ (T0.setTop (mkF m 10 #[.val (.int p0), .val (.int p1), .val (.long p2), .second, .val (.long p3), .second, .val (.int ip), .unset, .unset, .unset, .unset, .unset, .unset, .unset, .unset, .unset, .unset, .unset, .unset, .unset, .unset, .unset, .unset, .unset, .unset, .unset, .unset, .unset, .unset] []))
  refine Go.by (fun _ => XS.iloadN X0.here hx rfl (hb hby at_10) rfl) ?_
  refine Go.by (fun _ => XS.iconst X0.here hx rfl (hb hby at_11)) ?_
  refine Go.by (fun _ => XS.iushr X0.here hx rfl (hb hby at_12) rfl) ?_
  show Go p.tables e below _ (T0.setTop (mkF m 13 #[.val (.int p0), .val (.int p1), .val (.long p2), .second, .val (.long p3), .second, .val (.int ip), .unset, .unset, .unset, .unset, .unset, .unset, .unset, .unset, .unset, .unset, .unset, .unset, .unset, .unset, .unset, .unset, .unset, .unset, .unset, .unset, .unset, .unset] [(.int ((p0.toUInt32 >>> ((2 : Int32) &&& 31).toUInt32).toInt32))]))
  refine Go.by (fun _ => XS.iconst X0.here hx rfl (hb hby at_13)) ?_
  show Go p.tables e below _ (T0.setTop (mkF m 14 #[.val (.int p0), .val (.int p1), .val (.long p2), .second, .val (.long p3), .second, .val (.int ip), .unset, .unset, .unset, .unset, .unset, .unset, .unset, .unset, .unset, .unset, .unset, .unset, .unset, .unset, .unset, .unset, .unset, .unset, .unset, .unset, .unset, .unset] [(.int (3 : Int32)), (.int ((p0.toUInt32 >>> ((2 : Int32) &&& 31).toUInt32).toInt32))]))
  refine Go.by (fun _ => XS.iand X0.here hx rfl (hb hby at_14) rfl) ?_
  refine Go.by (fun _ => XS.istore X0.here hx rfl (hb hby at_15) rfl (l' := #[.val (.int p0), .val (.int p1), .val (.long p2), .second, .val (.long p3), .second, .val (.int ip), .val (.int (((p0.toUInt32 >>> ((2 : Int32) &&& 31).toUInt32).toInt32) &&& (3 : Int32))), .unset, .unset, .unset, .unset, .unset, .unset, .unset, .unset, .unset, .unset, .unset, .unset, .unset, .unset, .unset, .unset, .unset, .unset, .unset, .unset, .unset]) rfl) ?_
  show Go p.tables e below _ (T0.setTop (mkF m 17 #[.val (.int p0), .val (.int p1), .val (.long p2), .second, .val (.long p3), .second, .val (.int ip), .val (.int (((p0.toUInt32 >>> ((2 : Int32) &&& 31).toUInt32).toInt32) &&& (3 : Int32))), .unset, .unset, .unset, .unset, .unset, .unset, .unset, .unset, .unset, .unset, .unset, .unset, .unset, .unset, .unset, .unset, .unset, .unset, .unset, .unset, .unset] []))
  have hlp := own_m4 ((p0.toUInt32 >>> ((2 : Int32) &&& 31).toUInt32).toInt32)
  generalize (((p0.toUInt32 >>> ((2 : Int32) &&& 31).toUInt32).toInt32) &&& (3 : Int32)) = lp at *
  show Go p.tables e below _ (T0.setTop (mkF m 17 #[.val (.int p0), .val (.int p1), .val (.long p2), .second, .val (.long p3), .second, .val (.int ip), .val (.int lp), .unset, .unset, .unset, .unset, .unset, .unset, .unset, .unset, .unset, .unset, .unset, .unset, .unset, .unset, .unset, .unset, .unset, .unset, .unset, .unset, .unset] []))
  have hI := own_64 hlp.1 hlp.2
  have hL := own_64 (Int.le_trans (by decide) hip1) hip2
  refine Go.by (fun _ => XS.iloadN X0.here hx rfl (hb hby at_17) rfl) ?_
  refine Go.by (fun _ => XS.iconst X0.here hx rfl (hb hby at_18)) ?_
  refine Go.by (fun _ => XS.iushr X0.here hx rfl (hb hby at_19) rfl) ?_
  show Go p.tables e below _ (T0.setTop (mkF m 20 #[.val (.int p0), .val (.int p1), .val (.long p2), .second, .val (.long p3), .second, .val (.int ip), .val (.int lp), .unset, .unset, .unset, .unset, .unset, .unset, .unset, .unset, .unset, .unset, .unset, .unset, .unset, .unset, .unset, .unset, .unset, .unset, .unset, .unset, .unset] [(.int ((p0.toUInt32 >>> ((4 : Int32) &&& 31).toUInt32).toInt32))]))
  refine Go.by (fun _ => XS.iconst X0.here hx rfl (hb hby at_20)) ?_
  show Go p.tables e below _ (T0.setTop (mkF m 21 #[.val (.int p0), .val (.int p1), .val (.long p2), .second, .val (.long p3), .second, .val (.int ip), .val (.int lp), .unset, .unset, .unset, .unset, .unset, .unset, .unset, .unset, .unset, .unset, .unset, .unset, .unset, .unset, .unset, .unset, .unset, .unset, .unset, .unset, .unset] [(.int (1 : Int32)), (.int ((p0.toUInt32 >>> ((4 : Int32) &&& 31).toUInt32).toInt32))]))
  refine Go.by (fun _ => XS.iand X0.here hx rfl (hb hby at_21) rfl) ?_
  by_cases hc22_1 : (((p0.toUInt32 >>> ((4 : Int32) &&& 31).toUInt32).toInt32) &&& (1 : Int32)) = (0 : Int32)
  · skip
    refine Go.by (fun _ => XS.ifYes X0.here hx rfl (pc0 := 22) (pc' := 29) rfl (hb hby at_22) rfl ((if0 _ _).trans (teq hc22_1).1) (by decide) (by decide)) ?_
    show Go p.tables e below _ (T0.setTop (mkF m 29 #[.val (.int p0), .val (.int p1), .val (.long p2), .second, .val (.long p3), .second, .val (.int ip), .val (.int lp), .unset, .unset, .unset, .unset, .unset, .unset, .unset, .unset, .unset, .unset, .unset, .unset, .unset, .unset, .unset, .unset, .unset, .unset, .unset, .unset, .unset] []))
    refine Go.by (fun _ => XS.iconst X0.here hx rfl (hb hby at_29)) ?_
    refine Go.by (fun _ => XS.istore X0.here hx rfl (hb hby at_30) rfl (l' := #[.val (.int p0), .val (.int p1), .val (.long p2), .second, .val (.long p3), .second, .val (.int ip), .val (.int lp), .val (.int (0 : Int32)), .unset, .unset, .unset, .unset, .unset, .unset, .unset, .unset, .unset, .unset, .unset, .unset, .unset, .unset, .unset, .unset, .unset, .unset, .unset, .unset]) rfl) ?_
    show Go p.tables e below _ (T0.setTop (mkF m 32 #[.val (.int p0), .val (.int p1), .val (.long p2), .second, .val (.long p3), .second, .val (.int ip), .val (.int lp), .val (.int (0 : Int32)), .unset, .unset, .unset, .unset, .unset, .unset, .unset, .unset, .unset, .unset, .unset, .unset, .unset, .unset, .unset, .unset, .unset, .unset, .unset, .unset] []))
    obtain ⟨T2, h2, b2, X2, g2, E2, A2, D2, st2⟩ := X0.newO hx hZ hown (tw hw 1 rfl) (tw hw 2 rfl) (tw hw 3 rfl) (g := (mkF m 32 #[.val (.int p0), .val (.int p1), .val (.long p2), .second, .val (.long p3), .second, .val (.int ip), .val (.int lp), .val (.int (0 : Int32)), .unset, .unset, .unset, .unset, .unset, .unset, .unset, .unset, .unset, .unset, .unset, .unset, .unset, .unset, .unset, .unset, .unset, .unset, .unset, .unset] [])) rfl (hb hby at_32) (k' := 1) (n' := 8) rfl rfl (by decide) (by decide)
    have g_b2 : n0 ≤ b2 := by rw [g2]; exact Z0
    have Zs3 : n0 ≤ h2.size := Nat.le_trans Z0 E2.1
    have F2_longs : Fld Z h2 b2 "com/example/spotline/spotline/engine/Table" "longs" "[[J" .null := D2 (Or.inl (tw hw 13 rfl)) (ty := (.array (.array .long))) (by decide)
    have F2_ints : Fld Z h2 b2 "com/example/spotline/spotline/engine/Table" "ints" "[[I" .null := D2 (Or.inl (tw hw 17 rfl)) (ty := (.array (.array .int))) (by decide)
    have F2_objects : Fld Z h2 b2 "com/example/spotline/spotline/engine/Table" "objects" "[[Ljava/lang/Object;" .null := D2 (Or.inl (tw hw 21 rfl)) (ty := (.array (.array (.object "java/lang/Object")))) (by decide)
    have F2_longsPerRow : Fld Z h2 b2 "com/example/spotline/spotline/engine/Table" "longsPerRow" "I" (.int (0 : Int32)) := D2 (Or.inr (tw hw 23 rfl)) (ty := .int) (by decide)
    have F2_intsPerRow : Fld Z h2 b2 "com/example/spotline/spotline/engine/Table" "intsPerRow" "I" (.int (0 : Int32)) := D2 (Or.inr (tw hw 25 rfl)) (ty := .int) (by decide)
    have F2_objectsPerRow : Fld Z h2 b2 "com/example/spotline/spotline/engine/Table" "objectsPerRow" "I" (.int (0 : Int32)) := D2 (Or.inr (tw hw 27 rfl)) (ty := .int) (by decide)
    have F2_size : Fld Z h2 b2 "com/example/spotline/spotline/engine/Table" "size" "I" (.int (0 : Int32)) := D2 (Or.inl (tw hw 34 rfl)) (ty := .int) (by decide)
    have F2_capacity : Fld Z h2 b2 "com/example/spotline/spotline/engine/Table" "capacity" "I" (.int (0 : Int32)) := D2 (Or.inl (tw hw 37 rfl)) (ty := .int) (by decide)
    refine Go.by st2 ?_
    show Go p.tables e below _ (T2.setTop (mkF m 35 #[.val (.int p0), .val (.int p1), .val (.long p2), .second, .val (.long p3), .second, .val (.int ip), .val (.int lp), .val (.int (0 : Int32)), .unset, .unset, .unset, .unset, .unset, .unset, .unset, .unset, .unset, .unset, .unset, .unset, .unset, .unset, .unset, .unset, .unset, .unset, .unset, .unset] [(.ref b2)]))
    refine Go.by (fun _ => XS.dup X2.here hx rfl (hb hby at_35) rfl rfl) ?_
    refine Go.by (fun _ => XS.iload X2.here hx rfl (hb hby at_36) rfl) ?_
    show Go p.tables e below _ (T2.setTop (mkF m 38 #[.val (.int p0), .val (.int p1), .val (.long p2), .second, .val (.long p3), .second, .val (.int ip), .val (.int lp), .val (.int (0 : Int32)), .unset, .unset, .unset, .unset, .unset, .unset, .unset, .unset, .unset, .unset, .unset, .unset, .unset, .unset, .unset, .unset, .unset, .unset, .unset, .unset] [(.int ip), (.ref b2), (.ref b2)]))
    refine Go.by (fun _ => XS.iload X2.here hx rfl (hb hby at_38) rfl) ?_
    refine Go.by (fun _ => XS.iload X2.here hx rfl (hb hby at_40) rfl) ?_
    obtain ⟨v4, T4, h4, X4, q4, st4⟩ := X2.callI hx hZ (y := (⟨"com/example/spotline/spotline/engine/Table", "<init>", "(IIZ)V"⟩ : MethodName)) rfl hown (tw hw 4 rfl) (tw hw 5 rfl) (tw hw 3 rfl) (tw hw 6 rfl) (by decide) (rm1_0 l Z a0 hw [] b2 ip lp h2 n0 Zs3 A2 g_b2 F2_longs F2_ints F2_objects F2_longsPerRow F2_intsPerRow F2_objectsPerRow F2_size F2_capacity) (g := (mkF m 42 #[.val (.int p0), .val (.int p1), .val (.long p2), .second, .val (.long p3), .second, .val (.int ip), .val (.int lp), .val (.int (0 : Int32)), .unset, .unset, .unset, .unset, .unset, .unset, .unset, .unset, .unset, .unset, .unset, .unset, .unset, .unset, .unset, .unset, .unset, .unset, .unset, .unset] [(.int (0 : Int32)), (.int lp), (.int ip), (.ref b2), (.ref b2)])) rfl (by rw [hml]; rfl) (argsL := [(.int ip), (.int lp), (.int (0 : Int32))]) (rest := [(.ref b2)]) (lenOf pd3 rfl) rfl (hb hby at_42) rfl (by decide) (Nat.le_of_ble_eq_true rfl) (k' := 4) (n' := 56) rfl rfl (by decide) (by decide)
    refine Go.by st4 ?_
    obtain ⟨oL4, oI4, oO4, kL4, kI4, kO4, rfl, sL4, sI4, sO4, nLI4, nLO4, nIO4, K4, Ex4, Flongs4, Fints4, Fobjects4, FlongsPerRow4, FintsPerRow4, FobjectsPerRow4, Fsize4, Fcapacity4, VoL4, VoI4, VoO4, OvoL4, OvoI4, OvoO4⟩ := q4
    have g_oL4 : n0 ≤ oL4 := Nat.le_trans Zs3 sL4
    have ne_b2_oL4 : b2 ≠ oL4 := Nat.ne_of_lt (Nat.lt_of_lt_of_le A2.lt sL4)
    have g_oI4 : n0 ≤ oI4 := Nat.le_trans Zs3 sI4
    have ne_b2_oI4 : b2 ≠ oI4 := Nat.ne_of_lt (Nat.lt_of_lt_of_le A2.lt sI4)
    have g_oO4 : n0 ≤ oO4 := Nat.le_trans Zs3 sO4
    have ne_b2_oO4 : b2 ≠ oO4 := Nat.ne_of_lt (Nat.lt_of_lt_of_le A2.lt sO4)
    have f5_71 := A2.keep K4
    have Zs5 : n0 ≤ h4.size := Nat.le_trans Zs3 K4.1
    show Go p.tables e below _ (T4.setTop (mkF m 45 #[.val (.int p0), .val (.int p1), .val (.long p2), .second, .val (.long p3), .second, .val (.int ip), .val (.int lp), .val (.int (0 : Int32)), .unset, .unset, .unset, .unset, .unset, .unset, .unset, .unset, .unset, .unset, .unset, .unset, .unset, .unset, .unset, .unset, .unset, .unset, .unset, .unset] [(.ref b2)]))
    refine Go.by (fun _ => XS.astore X4.here hx rfl (hb hby at_45) rfl rfl (l' := #[.val (.int p0), .val (.int p1), .val (.long p2), .second, .val (.long p3), .second, .val (.int ip), .val (.int lp), .val (.int (0 : Int32)), .val (.ref b2), .unset, .unset, .unset, .unset, .unset, .unset, .unset, .unset, .unset, .unset, .unset, .unset, .unset, .unset, .unset, .unset, .unset, .unset, .unset]) rfl) ?_
    show Go p.tables e below _ (T4.setTop (mkF m 47 #[.val (.int p0), .val (.int p1), .val (.long p2), .second, .val (.long p3), .second, .val (.int ip), .val (.int lp), .val (.int (0 : Int32)), .val (.ref b2), .unset, .unset, .unset, .unset, .unset, .unset, .unset, .unset, .unset, .unset, .unset, .unset, .unset, .unset, .unset, .unset, .unset, .unset, .unset] []))
    refine Go.by (fun _ => XS.aload X4.here hx rfl (hb hby at_47) rfl rfl) ?_
    refine Go.by (fun _ => XS.aconstNull X4.here hx rfl (hb hby at_49)) ?_
    obtain ⟨v6, T6, h6, X6, q6, st6⟩ := X4.callV hx hZ (y := (⟨"com/example/spotline/spotline/engine/Table", "add", "(Ljava/lang/Object;)I"⟩ : MethodName)) (z := (⟨"com/example/spotline/spotline/engine/Table", "add", "(Ljava/lang/Object;)I"⟩ : MethodName)) hown (tw hw 28 rfl) (tw hw 29 rfl) (notFace_of_selects (args := #[]) (mvT hZ (tw hw 31 rfl))) (tw hw 31 rfl) (tw hw 30 rfl) (tw hw 3 rfl) (tw hw 32 rfl) (by decide) (rm3_0 l Z a0 hw [] b2 oL4 oI4 oO4 kL4 kI4 kO4 ip lp h4 n0 Zs5 Ex4 g_b2 Flongs4 Fints4 Fobjects4 FlongsPerRow4 FintsPerRow4 FobjectsPerRow4 Fsize4 Fcapacity4 ⟨g_oL4, g_oI4, g_oO4⟩ ⟨ne_b2_oL4, ne_b2_oI4, ne_b2_oO4, nLI4, nLO4, nIO4⟩ VoL4 VoI4 VoO4 OvoL4 OvoI4 OvoO4 hL hI) Ex4 (g := (mkF m 50 #[.val (.int p0), .val (.int p1), .val (.long p2), .second, .val (.long p3), .second, .val (.int ip), .val (.int lp), .val (.int (0 : Int32)), .val (.ref b2), .unset, .unset, .unset, .unset, .unset, .unset, .unset, .unset, .unset, .unset, .unset, .unset, .unset, .unset, .unset, .unset, .unset, .unset, .unset] [.null, (.ref b2)])) rfl (by rw [hml]; rfl) (argsL := [.null]) (rest := []) (lenOf pd4 rfl) rfl (hb hby at_50) rfl (by decide) (Nat.le_of_ble_eq_true rfl) (k' := 7) (n' := 440) rfl rfl (by decide) (by decide)
    refine Go.by st6 ?_
    obtain ⟨dL6, dI6, dO6, kdL6, kdI6, kdO6, rfl, sL6, sI6, sO6, nLO6, nIO6, nLI6, K6, Ex6, Flongs6, Fints6, Fobjects6, FlongsPerRow6, FintsPerRow6, FobjectsPerRow6, Fsize6, Fcapacity6, VoL6, VoI6, VoO6, VdL6, VdI6, VdO6⟩ := q6
    have g_dL6 : n0 ≤ dL6 := Nat.le_trans Zs5 sL6
    have ne_b2_dL6 : b2 ≠ dL6 := Nat.ne_of_lt (Nat.lt_of_lt_of_le Ex4.lt sL6)
    have ne_oL4_dL6 : oL4 ≠ dL6 := Nat.ne_of_lt (Nat.lt_of_lt_of_le VoL4.lt sL6)
    have ne_oI4_dL6 : oI4 ≠ dL6 := Nat.ne_of_lt (Nat.lt_of_lt_of_le VoI4.lt sL6)
    have ne_oO4_dL6 : oO4 ≠ dL6 := Nat.ne_of_lt (Nat.lt_of_lt_of_le VoO4.lt sL6)
    have g_dI6 : n0 ≤ dI6 := Nat.le_trans Zs5 sI6
    have ne_b2_dI6 : b2 ≠ dI6 := Nat.ne_of_lt (Nat.lt_of_lt_of_le Ex4.lt sI6)
    have ne_oL4_dI6 : oL4 ≠ dI6 := Nat.ne_of_lt (Nat.lt_of_lt_of_le VoL4.lt sI6)
    have ne_oI4_dI6 : oI4 ≠ dI6 := Nat.ne_of_lt (Nat.lt_of_lt_of_le VoI4.lt sI6)
    have ne_oO4_dI6 : oO4 ≠ dI6 := Nat.ne_of_lt (Nat.lt_of_lt_of_le VoO4.lt sI6)
    have g_dO6 : n0 ≤ dO6 := Nat.le_trans Zs5 sO6
    have ne_b2_dO6 : b2 ≠ dO6 := Nat.ne_of_lt (Nat.lt_of_lt_of_le Ex4.lt sO6)
    have ne_oL4_dO6 : oL4 ≠ dO6 := Nat.ne_of_lt (Nat.lt_of_lt_of_le VoL4.lt sO6)
    have ne_oI4_dO6 : oI4 ≠ dO6 := Nat.ne_of_lt (Nat.lt_of_lt_of_le VoI4.lt sO6)
    have ne_oO4_dO6 : oO4 ≠ dO6 := Nat.ne_of_lt (Nat.lt_of_lt_of_le VoO4.lt sO6)
    have f7_96 := Ex4.keep K6
    have Zs7 : n0 ≤ h6.size := Nat.le_trans Zs5 K6.1
    show Go p.tables e below _ (T6.setTop (mkF m 53 #[.val (.int p0), .val (.int p1), .val (.long p2), .second, .val (.long p3), .second, .val (.int ip), .val (.int lp), .val (.int (0 : Int32)), .val (.ref b2), .unset, .unset, .unset, .unset, .unset, .unset, .unset, .unset, .unset, .unset, .unset, .unset, .unset, .unset, .unset, .unset, .unset, .unset, .unset] [(.int (0 : Int32))]))
    refine Go.by (fun _ => XS.pop X6.here hx rfl (hb hby at_53) rfl rfl) ?_
    show Go p.tables e below _ (T6.setTop (mkF m 54 #[.val (.int p0), .val (.int p1), .val (.long p2), .second, .val (.long p3), .second, .val (.int ip), .val (.int lp), .val (.int (0 : Int32)), .val (.ref b2), .unset, .unset, .unset, .unset, .unset, .unset, .unset, .unset, .unset, .unset, .unset, .unset, .unset, .unset, .unset, .unset, .unset, .unset, .unset] []))
    refine Go.by (fun _ => XS.aload X6.here hx rfl (hb hby at_54) rfl rfl) ?_
    refine Go.by (fun _ => XS.aconstNull X6.here hx rfl (hb hby at_56)) ?_
    obtain ⟨v8, T8, h8, X8, q8, st8⟩ := X6.callV hx hZ (y := (⟨"com/example/spotline/spotline/engine/Table", "add", "(Ljava/lang/Object;)I"⟩ : MethodName)) (z := (⟨"com/example/spotline/spotline/engine/Table", "add", "(Ljava/lang/Object;)I"⟩ : MethodName)) hown (tw hw 28 rfl) (tw hw 29 rfl) (notFace_of_selects (args := #[]) (mvT hZ (tw hw 31 rfl))) (tw hw 31 rfl) (tw hw 30 rfl) (tw hw 3 rfl) (tw hw 32 rfl) (by decide) (rm3_01 l Z a0 hw [] b2 oL4 oI4 oO4 dL6 kL4 ip lp h6 n0 Zs7 Ex6 g_b2 Flongs6 Fints6 Fobjects6 FlongsPerRow6 FintsPerRow6 FobjectsPerRow6 Fsize6 Fcapacity6 VoL6) Ex6 (g := (mkF m 57 #[.val (.int p0), .val (.int p1), .val (.long p2), .second, .val (.long p3), .second, .val (.int ip), .val (.int lp), .val (.int (0 : Int32)), .val (.ref b2), .unset, .unset, .unset, .unset, .unset, .unset, .unset, .unset, .unset, .unset, .unset, .unset, .unset, .unset, .unset, .unset, .unset, .unset, .unset] [.null, (.ref b2)])) rfl (by rw [hml]; rfl) (argsL := [.null]) (rest := []) (lenOf pd4 rfl) rfl (hb hby at_57) rfl (by decide) (Nat.le_of_ble_eq_true rfl) (k' := 7) (n' := 440) rfl rfl (by decide) (by decide)
    refine Go.by st8 ?_
    obtain ⟨rfl, K8, Ex8, Flongs8, Fints8, Fobjects8, FlongsPerRow8, FintsPerRow8, FobjectsPerRow8, Fsize8, Fcapacity8⟩ := q8
    have f9_106 := Ex6.keep K8
    have f9_107 := Avf.keep VoL6 K8 (ninS (Ne.symm ne_b2_oL4) nin0)
    have f9_108 := Avf.keep VoI6 K8 (ninS (Ne.symm ne_b2_oI4) nin0)
    have f9_109 := Avf.keep VoO6 K8 (ninS (Ne.symm ne_b2_oO4) nin0)
    have f9_110 := Avf.keep VdL6 K8 (ninS (Ne.symm ne_b2_dL6) nin0)
    have f9_111 := Avf.keep VdI6 K8 (ninS (Ne.symm ne_b2_dI6) nin0)
    have f9_112 := Avf.keep VdO6 K8 (ninS (Ne.symm ne_b2_dO6) nin0)
    have Zs9 : n0 ≤ h8.size := Nat.le_trans Zs7 K8.1
    show Go p.tables e below _ (T8.setTop (mkF m 60 #[.val (.int p0), .val (.int p1), .val (.long p2), .second, .val (.long p3), .second, .val (.int ip), .val (.int lp), .val (.int (0 : Int32)), .val (.ref b2), .unset, .unset, .unset, .unset, .unset, .unset, .unset, .unset, .unset, .unset, .unset, .unset, .unset, .unset, .unset, .unset, .unset, .unset, .unset] [(.int (1 : Int32))]))
    refine Go.by (fun _ => XS.pop X8.here hx rfl (hb hby at_60) rfl rfl) ?_
    show Go p.tables e below _ (T8.setTop (mkF m 61 #[.val (.int p0), .val (.int p1), .val (.long p2), .second, .val (.long p3), .second, .val (.int ip), .val (.int lp), .val (.int (0 : Int32)), .val (.ref b2), .unset, .unset, .unset, .unset, .unset, .unset, .unset, .unset, .unset, .unset, .unset, .unset, .unset, .unset, .unset, .unset, .unset, .unset, .unset] []))
    refine Go.by (fun _ => XS.aload X8.here hx rfl (hb hby at_61) rfl rfl) ?_
    refine Go.by (fun _ => XS.aconstNull X8.here hx rfl (hb hby at_63)) ?_
    obtain ⟨v10, T10, h10, X10, q10, st10⟩ := X8.callV hx hZ (y := (⟨"com/example/spotline/spotline/engine/Table", "add", "(Ljava/lang/Object;)I"⟩ : MethodName)) (z := (⟨"com/example/spotline/spotline/engine/Table", "add", "(Ljava/lang/Object;)I"⟩ : MethodName)) hown (tw hw 28 rfl) (tw hw 29 rfl) (notFace_of_selects (args := #[]) (mvT hZ (tw hw 31 rfl))) (tw hw 31 rfl) (tw hw 30 rfl) (tw hw 3 rfl) (tw hw 32 rfl) (by decide) (rm3_02 l Z a0 hw [] b2 oL4 oI4 oO4 dL6 kL4 ip lp h8 n0 Zs9 Ex8 g_b2 Flongs8 Fints8 Fobjects8 FlongsPerRow8 FintsPerRow8 FobjectsPerRow8 Fsize8 Fcapacity8 f9_107) Ex8 (g := (mkF m 64 #[.val (.int p0), .val (.int p1), .val (.long p2), .second, .val (.long p3), .second, .val (.int ip), .val (.int lp), .val (.int (0 : Int32)), .val (.ref b2), .unset, .unset, .unset, .unset, .unset, .unset, .unset, .unset, .unset, .unset, .unset, .unset, .unset, .unset, .unset, .unset, .unset, .unset, .unset] [.null, (.ref b2)])) rfl (by rw [hml]; rfl) (argsL := [.null]) (rest := []) (lenOf pd4 rfl) rfl (hb hby at_64) rfl (by decide) (Nat.le_of_ble_eq_true rfl) (k' := 7) (n' := 440) rfl rfl (by decide) (by decide)
    refine Go.by st10 ?_
    obtain ⟨rfl, K10, Ex10, Flongs10, Fints10, Fobjects10, FlongsPerRow10, FintsPerRow10, FobjectsPerRow10, Fsize10, Fcapacity10⟩ := q10
    have f11_122 := Ex8.keep K10
    have f11_123 := Avf.keep f9_107 K10 (ninS (Ne.symm ne_b2_oL4) nin0)
    have f11_124 := Avf.keep f9_108 K10 (ninS (Ne.symm ne_b2_oI4) nin0)
    have f11_125 := Avf.keep f9_109 K10 (ninS (Ne.symm ne_b2_oO4) nin0)
    have f11_126 := Avf.keep f9_110 K10 (ninS (Ne.symm ne_b2_dL6) nin0)
    have f11_127 := Avf.keep f9_111 K10 (ninS (Ne.symm ne_b2_dI6) nin0)
    have f11_128 := Avf.keep f9_112 K10 (ninS (Ne.symm ne_b2_dO6) nin0)
    have Zs11 : n0 ≤ h10.size := Nat.le_trans Zs9 K10.1
    show Go p.tables e below _ (T10.setTop (mkF m 67 #[.val (.int p0), .val (.int p1), .val (.long p2), .second, .val (.long p3), .second, .val (.int ip), .val (.int lp), .val (.int (0 : Int32)), .val (.ref b2), .unset, .unset, .unset, .unset, .unset, .unset, .unset, .unset, .unset, .unset, .unset, .unset, .unset, .unset, .unset, .unset, .unset, .unset, .unset] [(.int (2 : Int32))]))
    refine Go.by (fun _ => XS.pop X10.here hx rfl (hb hby at_67) rfl rfl) ?_
    show Go p.tables e below _ (T10.setTop (mkF m 68 #[.val (.int p0), .val (.int p1), .val (.long p2), .second, .val (.long p3), .second, .val (.int ip), .val (.int lp), .val (.int (0 : Int32)), .val (.ref b2), .unset, .unset, .unset, .unset, .unset, .unset, .unset, .unset, .unset, .unset, .unset, .unset, .unset, .unset, .unset, .unset, .unset, .unset, .unset] []))
    refine Go.by (fun _ => XS.iloadN X10.here hx rfl (hb hby at_68) rfl) ?_
    refine Go.by (fun _ => XS.iconst X10.here hx rfl (hb hby at_69)) ?_
    refine Go.by (fun _ => XS.iand X10.here hx rfl (hb hby at_70) rfl) ?_
    refine Go.by (fun _ => XS.iconst X10.here hx rfl (hb hby at_71)) ?_
    refine Go.by (fun _ => iremS X10 hx rfl (hb hby at_72) rfl (by decide)) ?_
    show Go p.tables e below _ (T10.setTop (mkF m 73 #[.val (.int p0), .val (.int p1), .val (.long p2), .second, .val (.long p3), .second, .val (.int ip), .val (.int lp), .val (.int (0 : Int32)), .val (.ref b2), .unset, .unset, .unset, .unset, .unset, .unset, .unset, .unset, .unset, .unset, .unset, .unset, .unset, .unset, .unset, .unset, .unset, .unset, .unset] [(.int ((p1 &&& (3 : Int32)) % (3 : Int32)))]))
    refine Go.by (fun _ => XS.istore X10.here hx rfl (hb hby at_73) rfl (l' := #[.val (.int p0), .val (.int p1), .val (.long p2), .second, .val (.long p3), .second, .val (.int ip), .val (.int lp), .val (.int (0 : Int32)), .val (.ref b2), .val (.int ((p1 &&& (3 : Int32)) % (3 : Int32))), .unset, .unset, .unset, .unset, .unset, .unset, .unset, .unset, .unset, .unset, .unset, .unset, .unset, .unset, .unset, .unset, .unset, .unset]) rfl) ?_
    show Go p.tables e below _ (T10.setTop (mkF m 75 #[.val (.int p0), .val (.int p1), .val (.long p2), .second, .val (.long p3), .second, .val (.int ip), .val (.int lp), .val (.int (0 : Int32)), .val (.ref b2), .val (.int ((p1 &&& (3 : Int32)) % (3 : Int32))), .unset, .unset, .unset, .unset, .unset, .unset, .unset, .unset, .unset, .unset, .unset, .unset, .unset, .unset, .unset, .unset, .unset, .unset] []))
    have h_r1 := own_r3 p1
    generalize ((p1 &&& (3 : Int32)) % (3 : Int32)) = r1 at *
    show Go p.tables e below _ (T10.setTop (mkF m 75 #[.val (.int p0), .val (.int p1), .val (.long p2), .second, .val (.long p3), .second, .val (.int ip), .val (.int lp), .val (.int (0 : Int32)), .val (.ref b2), .val (.int r1), .unset, .unset, .unset, .unset, .unset, .unset, .unset, .unset, .unset, .unset, .unset, .unset, .unset, .unset, .unset, .unset, .unset, .unset] []))
    refine Go.by (fun _ => XS.iloadN X10.here hx rfl (hb hby at_75) rfl) ?_
    refine Go.by (fun _ => XS.iconst X10.here hx rfl (hb hby at_76)) ?_
    refine Go.by (fun _ => XS.iushr X10.here hx rfl (hb hby at_77) rfl) ?_
    show Go p.tables e below _ (T10.setTop (mkF m 78 #[.val (.int p0), .val (.int p1), .val (.long p2), .second, .val (.long p3), .second, .val (.int ip), .val (.int lp), .val (.int (0 : Int32)), .val (.ref b2), .val (.int r1), .unset, .unset, .unset, .unset, .unset, .unset, .unset, .unset, .unset, .unset, .unset, .unset, .unset, .unset, .unset, .unset, .unset, .unset] [(.int ((p1.toUInt32 >>> ((2 : Int32) &&& 31).toUInt32).toInt32))]))
    refine Go.by (fun _ => XS.bipush X10.here hx rfl (hb hby at_78)) ?_
    refine Go.by (fun _ => XS.iand X10.here hx rfl (hb hby at_80) rfl) ?_
    refine Go.by (fun _ => XS.iload X10.here hx rfl (hb hby at_81) rfl) ?_
    show Go p.tables e below _ (T10.setTop (mkF m 83 #[.val (.int p0), .val (.int p1), .val (.long p2), .second, .val (.long p3), .second, .val (.int ip), .val (.int lp), .val (.int (0 : Int32)), .val (.ref b2), .val (.int r1), .unset, .unset, .unset, .unset, .unset, .unset, .unset, .unset, .unset, .unset, .unset, .unset, .unset, .unset, .unset, .unset, .unset, .unset] [(.int ip), (.int (((p1.toUInt32 >>> ((2 : Int32) &&& 31).toUInt32).toInt32) &&& (7 : Int32)))]))
    refine Go.by (fun _ => iremS X10 hx rfl (hb hby at_83) rfl (own_nz hip1)) ?_
    show Go p.tables e below _ (T10.setTop (mkF m 84 #[.val (.int p0), .val (.int p1), .val (.long p2), .second, .val (.long p3), .second, .val (.int ip), .val (.int lp), .val (.int (0 : Int32)), .val (.ref b2), .val (.int r1), .unset, .unset, .unset, .unset, .unset, .unset, .unset, .unset, .unset, .unset, .unset, .unset, .unset, .unset, .unset, .unset, .unset, .unset] [(.int ((((p1.toUInt32 >>> ((2 : Int32) &&& 31).toUInt32).toInt32) &&& (7 : Int32)) % ip))]))
    refine Go.by (fun _ => XS.istore X10.here hx rfl (hb hby at_84) rfl (l' := #[.val (.int p0), .val (.int p1), .val (.long p2), .second, .val (.long p3), .second, .val (.int ip), .val (.int lp), .val (.int (0 : Int32)), .val (.ref b2), .val (.int r1), .val (.int ((((p1.toUInt32 >>> ((2 : Int32) &&& 31).toUInt32).toInt32) &&& (7 : Int32)) % ip)), .unset, .unset, .unset, .unset, .unset, .unset, .unset, .unset, .unset, .unset, .unset, .unset, .unset, .unset, .unset, .unset, .unset]) rfl) ?_
    show Go p.tables e below _ (T10.setTop (mkF m 86 #[.val (.int p0), .val (.int p1), .val (.long p2), .second, .val (.long p3), .second, .val (.int ip), .val (.int lp), .val (.int (0 : Int32)), .val (.ref b2), .val (.int r1), .val (.int ((((p1.toUInt32 >>> ((2 : Int32) &&& 31).toUInt32).toInt32) &&& (7 : Int32)) % ip)), .unset, .unset, .unset, .unset, .unset, .unset, .unset, .unset, .unset, .unset, .unset, .unset, .unset, .unset, .unset, .unset, .unset] []))
    have h_f1 := own_fm ((p1.toUInt32 >>> ((2 : Int32) &&& 31).toUInt32).toInt32) ip hip1
    generalize ((((p1.toUInt32 >>> ((2 : Int32) &&& 31).toUInt32).toInt32) &&& (7 : Int32)) % ip) = f1 at *
    show Go p.tables e below _ (T10.setTop (mkF m 86 #[.val (.int p0), .val (.int p1), .val (.long p2), .second, .val (.long p3), .second, .val (.int ip), .val (.int lp), .val (.int (0 : Int32)), .val (.ref b2), .val (.int r1), .val (.int f1), .unset, .unset, .unset, .unset, .unset, .unset, .unset, .unset, .unset, .unset, .unset, .unset, .unset, .unset, .unset, .unset, .unset] []))
    refine Go.by (fun _ => XS.iloadN X10.here hx rfl (hb hby at_86) rfl) ?_
    refine Go.by (fun _ => XS.iconst X10.here hx rfl (hb hby at_87)) ?_
    refine Go.by (fun _ => XS.iushr X10.here hx rfl (hb hby at_88) rfl) ?_
    show Go p.tables e below _ (T10.setTop (mkF m 89 #[.val (.int p0), .val (.int p1), .val (.long p2), .second, .val (.long p3), .second, .val (.int ip), .val (.int lp), .val (.int (0 : Int32)), .val (.ref b2), .val (.int r1), .val (.int f1), .unset, .unset, .unset, .unset, .unset, .unset, .unset, .unset, .unset, .unset, .unset, .unset, .unset, .unset, .unset, .unset, .unset] [(.int ((p1.toUInt32 >>> ((5 : Int32) &&& 31).toUInt32).toInt32))]))
    refine Go.by (fun _ => XS.iconst X10.here hx rfl (hb hby at_89)) ?_
    show Go p.tables e below _ (T10.setTop (mkF m 90 #[.val (.int p0), .val (.int p1), .val (.long p2), .second, .val (.long p3), .second, .val (.int ip), .val (.int lp), .val (.int (0 : Int32)), .val (.ref b2), .val (.int r1), .val (.int f1), .unset, .unset, .unset, .unset, .unset, .unset, .unset, .unset, .unset, .unset, .unset, .unset, .unset, .unset, .unset, .unset, .unset] [(.int (3 : Int32)), (.int ((p1.toUInt32 >>> ((5 : Int32) &&& 31).toUInt32).toInt32))]))
    refine Go.by (fun _ => XS.iand X10.here hx rfl (hb hby at_90) rfl) ?_
    refine Go.by (fun _ => XS.iconst X10.here hx rfl (hb hby at_91)) ?_
    refine Go.by (fun _ => iremS X10 hx rfl (hb hby at_92) rfl (by decide)) ?_
    show Go p.tables e below _ (T10.setTop (mkF m 93 #[.val (.int p0), .val (.int p1), .val (.long p2), .second, .val (.long p3), .second, .val (.int ip), .val (.int lp), .val (.int (0 : Int32)), .val (.ref b2), .val (.int r1), .val (.int f1), .unset, .unset, .unset, .unset, .unset, .unset, .unset, .unset, .unset, .unset, .unset, .unset, .unset, .unset, .unset, .unset, .unset] [(.int ((((p1.toUInt32 >>> ((5 : Int32) &&& 31).toUInt32).toInt32) &&& (3 : Int32)) % (3 : Int32)))]))
    refine Go.by (fun _ => XS.istore X10.here hx rfl (hb hby at_93) rfl (l' := #[.val (.int p0), .val (.int p1), .val (.long p2), .second, .val (.long p3), .second, .val (.int ip), .val (.int lp), .val (.int (0 : Int32)), .val (.ref b2), .val (.int r1), .val (.int f1), .val (.int ((((p1.toUInt32 >>> ((5 : Int32) &&& 31).toUInt32).toInt32) &&& (3 : Int32)) % (3 : Int32))), .unset, .unset, .unset, .unset, .unset, .unset, .unset, .unset, .unset, .unset, .unset, .unset, .unset, .unset, .unset, .unset]) rfl) ?_
    show Go p.tables e below _ (T10.setTop (mkF m 95 #[.val (.int p0), .val (.int p1), .val (.long p2), .second, .val (.long p3), .second, .val (.int ip), .val (.int lp), .val (.int (0 : Int32)), .val (.ref b2), .val (.int r1), .val (.int f1), .val (.int ((((p1.toUInt32 >>> ((5 : Int32) &&& 31).toUInt32).toInt32) &&& (3 : Int32)) % (3 : Int32))), .unset, .unset, .unset, .unset, .unset, .unset, .unset, .unset, .unset, .unset, .unset, .unset, .unset, .unset, .unset, .unset] []))
    have h_r2 := own_r3 ((p1.toUInt32 >>> ((5 : Int32) &&& 31).toUInt32).toInt32)
    generalize ((((p1.toUInt32 >>> ((5 : Int32) &&& 31).toUInt32).toInt32) &&& (3 : Int32)) % (3 : Int32)) = r2 at *
    show Go p.tables e below _ (T10.setTop (mkF m 95 #[.val (.int p0), .val (.int p1), .val (.long p2), .second, .val (.long p3), .second, .val (.int ip), .val (.int lp), .val (.int (0 : Int32)), .val (.ref b2), .val (.int r1), .val (.int f1), .val (.int r2), .unset, .unset, .unset, .unset, .unset, .unset, .unset, .unset, .unset, .unset, .unset, .unset, .unset, .unset, .unset, .unset] []))
    refine Go.by (fun _ => XS.iloadN X10.here hx rfl (hb hby at_95) rfl) ?_
    refine Go.by (fun _ => XS.bipush X10.here hx rfl (hb hby at_96)) ?_
    show Go p.tables e below _ (T10.setTop (mkF m 98 #[.val (.int p0), .val (.int p1), .val (.long p2), .second, .val (.long p3), .second, .val (.int ip), .val (.int lp), .val (.int (0 : Int32)), .val (.ref b2), .val (.int r1), .val (.int f1), .val (.int r2), .unset, .unset, .unset, .unset, .unset, .unset, .unset, .unset, .unset, .unset, .unset, .unset, .unset, .unset, .unset, .unset] [(.int (7 : Int32)), (.int p1)]))
    refine Go.by (fun _ => XS.iushr X10.here hx rfl (hb hby at_98) rfl) ?_
    show Go p.tables e below _ (T10.setTop (mkF m 99 #[.val (.int p0), .val (.int p1), .val (.long p2), .second, .val (.long p3), .second, .val (.int ip), .val (.int lp), .val (.int (0 : Int32)), .val (.ref b2), .val (.int r1), .val (.int f1), .val (.int r2), .unset, .unset, .unset, .unset, .unset, .unset, .unset, .unset, .unset, .unset, .unset, .unset, .unset, .unset, .unset, .unset] [(.int ((p1.toUInt32 >>> ((7 : Int32) &&& 31).toUInt32).toInt32))]))
    refine Go.by (fun _ => XS.bipush X10.here hx rfl (hb hby at_99)) ?_
    refine Go.by (fun _ => XS.iand X10.here hx rfl (hb hby at_101) rfl) ?_
    refine Go.by (fun _ => XS.iload X10.here hx rfl (hb hby at_102) rfl) ?_
    refine Go.by (fun _ => iremS X10 hx rfl (hb hby at_104) rfl (own_nz hip1)) ?_
    show Go p.tables e below _ (T10.setTop (mkF m 105 #[.val (.int p0), .val (.int p1), .val (.long p2), .second, .val (.long p3), .second, .val (.int ip), .val (.int lp), .val (.int (0 : Int32)), .val (.ref b2), .val (.int r1), .val (.int f1), .val (.int r2), .unset, .unset, .unset, .unset, .unset, .unset, .unset, .unset, .unset, .unset, .unset, .unset, .unset, .unset, .unset, .unset] [(.int ((((p1.toUInt32 >>> ((7 : Int32) &&& 31).toUInt32).toInt32) &&& (7 : Int32)) % ip))]))
    refine Go.by (fun _ => XS.istore X10.here hx rfl (hb hby at_105) rfl (l' := #[.val (.int p0), .val (.int p1), .val (.long p2), .second, .val (.long p3), .second, .val (.int ip), .val (.int lp), .val (.int (0 : Int32)), .val (.ref b2), .val (.int r1), .val (.int f1), .val (.int r2), .val (.int ((((p1.toUInt32 >>> ((7 : Int32) &&& 31).toUInt32).toInt32) &&& (7 : Int32)) % ip)), .unset, .unset, .unset, .unset, .unset, .unset, .unset, .unset, .unset, .unset, .unset, .unset, .unset, .unset, .unset]) rfl) ?_
    show Go p.tables e below _ (T10.setTop (mkF m 107 #[.val (.int p0), .val (.int p1), .val (.long p2), .second, .val (.long p3), .second, .val (.int ip), .val (.int lp), .val (.int (0 : Int32)), .val (.ref b2), .val (.int r1), .val (.int f1), .val (.int r2), .val (.int ((((p1.toUInt32 >>> ((7 : Int32) &&& 31).toUInt32).toInt32) &&& (7 : Int32)) % ip)), .unset, .unset, .unset, .unset, .unset, .unset, .unset, .unset, .unset, .unset, .unset, .unset, .unset, .unset, .unset] []))
    have h_f2 := own_fm ((p1.toUInt32 >>> ((7 : Int32) &&& 31).toUInt32).toInt32) ip hip1
    generalize ((((p1.toUInt32 >>> ((7 : Int32) &&& 31).toUInt32).toInt32) &&& (7 : Int32)) % ip) = f2 at *
    show Go p.tables e below _ (T10.setTop (mkF m 107 #[.val (.int p0), .val (.int p1), .val (.long p2), .second, .val (.long p3), .second, .val (.int ip), .val (.int lp), .val (.int (0 : Int32)), .val (.ref b2), .val (.int r1), .val (.int f1), .val (.int r2), .val (.int f2), .unset, .unset, .unset, .unset, .unset, .unset, .unset, .unset, .unset, .unset, .unset, .unset, .unset, .unset, .unset] []))
    refine Go.by (fun _ => XS.iloadN X10.here hx rfl (hb hby at_107) rfl) ?_
    refine Go.by (fun _ => XS.bipush X10.here hx rfl (hb hby at_108)) ?_
    refine Go.by (fun _ => XS.iushr X10.here hx rfl (hb hby at_110) rfl) ?_
    show Go p.tables e below _ (T10.setTop (mkF m 111 #[.val (.int p0), .val (.int p1), .val (.long p2), .second, .val (.long p3), .second, .val (.int ip), .val (.int lp), .val (.int (0 : Int32)), .val (.ref b2), .val (.int r1), .val (.int f1), .val (.int r2), .val (.int f2), .unset, .unset, .unset, .unset, .unset, .unset, .unset, .unset, .unset, .unset, .unset, .unset, .unset, .unset, .unset] [(.int ((p1.toUInt32 >>> ((10 : Int32) &&& 31).toUInt32).toInt32))]))
    refine Go.by (fun _ => XS.iconst X10.here hx rfl (hb hby at_111)) ?_
    refine Go.by (fun _ => XS.iand X10.here hx rfl (hb hby at_112) rfl) ?_
    refine Go.by (fun _ => XS.iconst X10.here hx rfl (hb hby at_113)) ?_
    show Go p.tables e below _ (T10.setTop (mkF m 114 #[.val (.int p0), .val (.int p1), .val (.long p2), .second, .val (.long p3), .second, .val (.int ip), .val (.int lp), .val (.int (0 : Int32)), .val (.ref b2), .val (.int r1), .val (.int f1), .val (.int r2), .val (.int f2), .unset, .unset, .unset, .unset, .unset, .unset, .unset, .unset, .unset, .unset, .unset, .unset, .unset, .unset, .unset] [(.int (3 : Int32)), (.int (((p1.toUInt32 >>> ((10 : Int32) &&& 31).toUInt32).toInt32) &&& (3 : Int32)))]))
    refine Go.by (fun _ => iremS X10 hx rfl (hb hby at_114) rfl (by decide)) ?_
    show Go p.tables e below _ (T10.setTop (mkF m 115 #[.val (.int p0), .val (.int p1), .val (.long p2), .second, .val (.long p3), .second, .val (.int ip), .val (.int lp), .val (.int (0 : Int32)), .val (.ref b2), .val (.int r1), .val (.int f1), .val (.int r2), .val (.int f2), .unset, .unset, .unset, .unset, .unset, .unset, .unset, .unset, .unset, .unset, .unset, .unset, .unset, .unset, .unset] [(.int ((((p1.toUInt32 >>> ((10 : Int32) &&& 31).toUInt32).toInt32) &&& (3 : Int32)) % (3 : Int32)))]))
    refine Go.by (fun _ => XS.istore X10.here hx rfl (hb hby at_115) rfl (l' := #[.val (.int p0), .val (.int p1), .val (.long p2), .second, .val (.long p3), .second, .val (.int ip), .val (.int lp), .val (.int (0 : Int32)), .val (.ref b2), .val (.int r1), .val (.int f1), .val (.int r2), .val (.int f2), .val (.int ((((p1.toUInt32 >>> ((10 : Int32) &&& 31).toUInt32).toInt32) &&& (3 : Int32)) % (3 : Int32))), .unset, .unset, .unset, .unset, .unset, .unset, .unset, .unset, .unset, .unset, .unset, .unset, .unset, .unset]) rfl) ?_
    show Go p.tables e below _ (T10.setTop (mkF m 117 #[.val (.int p0), .val (.int p1), .val (.long p2), .second, .val (.long p3), .second, .val (.int ip), .val (.int lp), .val (.int (0 : Int32)), .val (.ref b2), .val (.int r1), .val (.int f1), .val (.int r2), .val (.int f2), .val (.int ((((p1.toUInt32 >>> ((10 : Int32) &&& 31).toUInt32).toInt32) &&& (3 : Int32)) % (3 : Int32))), .unset, .unset, .unset, .unset, .unset, .unset, .unset, .unset, .unset, .unset, .unset, .unset, .unset, .unset] []))
    have h_r3 := own_r3 ((p1.toUInt32 >>> ((10 : Int32) &&& 31).toUInt32).toInt32)
    generalize ((((p1.toUInt32 >>> ((10 : Int32) &&& 31).toUInt32).toInt32) &&& (3 : Int32)) % (3 : Int32)) = r3 at *
    show Go p.tables e below _ (T10.setTop (mkF m 117 #[.val (.int p0), .val (.int p1), .val (.long p2), .second, .val (.long p3), .second, .val (.int ip), .val (.int lp), .val (.int (0 : Int32)), .val (.ref b2), .val (.int r1), .val (.int f1), .val (.int r2), .val (.int f2), .val (.int r3), .unset, .unset, .unset, .unset, .unset, .unset, .unset, .unset, .unset, .unset, .unset, .unset, .unset, .unset] []))
    refine Go.by (fun _ => XS.iloadN X10.here hx rfl (hb hby at_117) rfl) ?_
    refine Go.by (fun _ => XS.bipush X10.here hx rfl (hb hby at_118)) ?_
    refine Go.by (fun _ => XS.iushr X10.here hx rfl (hb hby at_120) rfl) ?_
    show Go p.tables e below _ (T10.setTop (mkF m 121 #[.val (.int p0), .val (.int p1), .val (.long p2), .second, .val (.long p3), .second, .val (.int ip), .val (.int lp), .val (.int (0 : Int32)), .val (.ref b2), .val (.int r1), .val (.int f1), .val (.int r2), .val (.int f2), .val (.int r3), .unset, .unset, .unset, .unset, .unset, .unset, .unset, .unset, .unset, .unset, .unset, .unset, .unset, .unset] [(.int ((p1.toUInt32 >>> ((12 : Int32) &&& 31).toUInt32).toInt32))]))
    refine Go.by (fun _ => XS.bipush X10.here hx rfl (hb hby at_121)) ?_
    show Go p.tables e below _ (T10.setTop (mkF m 123 #[.val (.int p0), .val (.int p1), .val (.long p2), .second, .val (.long p3), .second, .val (.int ip), .val (.int lp), .val (.int (0 : Int32)), .val (.ref b2), .val (.int r1), .val (.int f1), .val (.int r2), .val (.int f2), .val (.int r3), .unset, .unset, .unset, .unset, .unset, .unset, .unset, .unset, .unset, .unset, .unset, .unset, .unset, .unset] [(.int (7 : Int32)), (.int ((p1.toUInt32 >>> ((12 : Int32) &&& 31).toUInt32).toInt32))]))
    refine Go.by (fun _ => XS.iand X10.here hx rfl (hb hby at_123) rfl) ?_
    refine Go.by (fun _ => XS.iload X10.here hx rfl (hb hby at_124) rfl) ?_
    refine Go.by (fun _ => iremS X10 hx rfl (hb hby at_126) rfl (own_nz hip1)) ?_
    show Go p.tables e below _ (T10.setTop (mkF m 127 #[.val (.int p0), .val (.int p1), .val (.long p2), .second, .val (.long p3), .second, .val (.int ip), .val (.int lp), .val (.int (0 : Int32)), .val (.ref b2), .val (.int r1), .val (.int f1), .val (.int r2), .val (.int f2), .val (.int r3), .unset, .unset, .unset, .unset, .unset, .unset, .unset, .unset, .unset, .unset, .unset, .unset, .unset, .unset] [(.int ((((p1.toUInt32 >>> ((12 : Int32) &&& 31).toUInt32).toInt32) &&& (7 : Int32)) % ip))]))
    refine Go.by (fun _ => XS.istore X10.here hx rfl (hb hby at_127) rfl (l' := #[.val (.int p0), .val (.int p1), .val (.long p2), .second, .val (.long p3), .second, .val (.int ip), .val (.int lp), .val (.int (0 : Int32)), .val (.ref b2), .val (.int r1), .val (.int f1), .val (.int r2), .val (.int f2), .val (.int r3), .val (.int ((((p1.toUInt32 >>> ((12 : Int32) &&& 31).toUInt32).toInt32) &&& (7 : Int32)) % ip)), .unset, .unset, .unset, .unset, .unset, .unset, .unset, .unset, .unset, .unset, .unset, .unset, .unset]) rfl) ?_
    show Go p.tables e below _ (T10.setTop (mkF m 129 #[.val (.int p0), .val (.int p1), .val (.long p2), .second, .val (.long p3), .second, .val (.int ip), .val (.int lp), .val (.int (0 : Int32)), .val (.ref b2), .val (.int r1), .val (.int f1), .val (.int r2), .val (.int f2), .val (.int r3), .val (.int ((((p1.toUInt32 >>> ((12 : Int32) &&& 31).toUInt32).toInt32) &&& (7 : Int32)) % ip)), .unset, .unset, .unset, .unset, .unset, .unset, .unset, .unset, .unset, .unset, .unset, .unset, .unset] []))
    have h_f3 := own_fm ((p1.toUInt32 >>> ((12 : Int32) &&& 31).toUInt32).toInt32) ip hip1
    generalize ((((p1.toUInt32 >>> ((12 : Int32) &&& 31).toUInt32).toInt32) &&& (7 : Int32)) % ip) = f3 at *
    show Go p.tables e below _ (T10.setTop (mkF m 129 #[.val (.int p0), .val (.int p1), .val (.long p2), .second, .val (.long p3), .second, .val (.int ip), .val (.int lp), .val (.int (0 : Int32)), .val (.ref b2), .val (.int r1), .val (.int f1), .val (.int r2), .val (.int f2), .val (.int r3), .val (.int f3), .unset, .unset, .unset, .unset, .unset, .unset, .unset, .unset, .unset, .unset, .unset, .unset, .unset] []))
    have hc_r1_f1 := own_cell h_r1.1 h_r1.2 hip1 hip2 h_f1.1 h_f1.2
    have hc_r2_f2 := own_cell h_r2.1 h_r2.2 hip1 hip2 h_f2.1 h_f2.2
    have hc_r3_f3 := own_cell h_r3.1 h_r3.2 hip1 hip2 h_f3.1 h_f3.2
    refine Go.by (fun _ => XS.aload X10.here hx rfl (hb hby at_129) rfl rfl) ?_
    refine Go.by (fun _ => XS.iload X10.here hx rfl (hb hby at_131) rfl) ?_
    show Go p.tables e below _ (T10.setTop (mkF m 133 #[.val (.int p0), .val (.int p1), .val (.long p2), .second, .val (.long p3), .second, .val (.int ip), .val (.int lp), .val (.int (0 : Int32)), .val (.ref b2), .val (.int r1), .val (.int f1), .val (.int r2), .val (.int f2), .val (.int r3), .val (.int f3), .unset, .unset, .unset, .unset, .unset, .unset, .unset, .unset, .unset, .unset, .unset, .unset, .unset] [(.int r2), (.ref b2)]))
    refine Go.by (fun _ => XS.iload X10.here hx rfl (hb hby at_133) rfl) ?_
    refine Go.by (fun _ => XS.lload X10.here hx rfl (hb hby at_135) rfl) ?_
    obtain ⟨v12, T12, h12, X12, q12, st12⟩ := X10.callV hx hZ (y := (⟨"com/example/spotline/spotline/engine/Table", "setLong", "(IIJ)V"⟩ : MethodName)) (z := (⟨"com/example/spotline/spotline/engine/Table", "setLong", "(IIJ)V"⟩ : MethodName)) hown (tw hw 59 rfl) (tw hw 60 rfl) (notFace_of_selects (args := #[]) (mvT hZ (tw hw 62 rfl))) (tw hw 62 rfl) (tw hw 61 rfl) (tw hw 3 rfl) (tw hw 63 rfl) (by decide) (rm8 l Z a0 hw [] b2 r2 f2 p3 oL4 dL6 kL4 kdL6 ip (((64 : Int32) * ip).toNatClampNeg) (fun i => if i = 0 then (.ref dL6) else .null) (fun _ => (.long 0)) h10 n0 Zs11 Flongs10 FlongsPerRow10 f11_123 rfl f11_126 hc_r2_f2.1 hc_r2_f2.2.1 hc_r2_f2.2.2 g_dL6) Ex10 (g := (mkF m 137 #[.val (.int p0), .val (.int p1), .val (.long p2), .second, .val (.long p3), .second, .val (.int ip), .val (.int lp), .val (.int (0 : Int32)), .val (.ref b2), .val (.int r1), .val (.int f1), .val (.int r2), .val (.int f2), .val (.int r3), .val (.int f3), .unset, .unset, .unset, .unset, .unset, .unset, .unset, .unset, .unset, .unset, .unset, .unset, .unset] [(.long p3), (.int f2), (.int r2), (.ref b2)])) rfl (by rw [hml]; rfl) (argsL := [(.int r2), (.int f2), (.long p3)]) (rest := []) (lenOf pd5 rfl) rfl (hb hby at_137) rfl (by decide) (Nat.le_of_ble_eq_true rfl) (k' := 7) (n' := 440) rfl rfl (by decide) (by decide)
    refine Go.by st12 ?_
    obtain ⟨rfl, K12, V12⟩ := q12
    have f13_230 := Ex10.keep K12
    have f13_231 := Avf.keep f11_123 K12 (ninS ne_oL4_dL6 nin0)
    have f13_232 := Avf.keep f11_124 K12 (ninS ne_oI4_dL6 nin0)
    have f13_233 := Avf.keep f11_125 K12 (ninS ne_oO4_dL6 nin0)
    have f13_234 := Avf.keep f11_127 K12 (ninS (Ne.symm nLI6) nin0)
    have f13_235 := Avf.keep f11_128 K12 (ninS (Ne.symm nLO6) nin0)
    have f13_236 := Flongs10.keep K12 (ninS ne_b2_dL6 nin0)
    have f13_237 := Fints10.keep K12 (ninS ne_b2_dL6 nin0)
    have f13_238 := Fobjects10.keep K12 (ninS ne_b2_dL6 nin0)
    have f13_239 := FlongsPerRow10.keep K12 (ninS ne_b2_dL6 nin0)
    have f13_240 := FintsPerRow10.keep K12 (ninS ne_b2_dL6 nin0)
    have f13_241 := FobjectsPerRow10.keep K12 (ninS ne_b2_dL6 nin0)
    have f13_242 := Fsize10.keep K12 (ninS ne_b2_dL6 nin0)
    have f13_243 := Fcapacity10.keep K12 (ninS ne_b2_dL6 nin0)
    have Zs13 : n0 ≤ h12.size := Nat.le_trans Zs11 K12.1
    show Go p.tables e below _ (T12.setTop (mkF m 140 #[.val (.int p0), .val (.int p1), .val (.long p2), .second, .val (.long p3), .second, .val (.int ip), .val (.int lp), .val (.int (0 : Int32)), .val (.ref b2), .val (.int r1), .val (.int f1), .val (.int r2), .val (.int f2), .val (.int r3), .val (.int f3), .unset, .unset, .unset, .unset, .unset, .unset, .unset, .unset, .unset, .unset, .unset, .unset, .unset] []))
    refine Go.by (fun _ => XS.aload X12.here hx rfl (hb hby at_140) rfl rfl) ?_
    refine Go.by (fun _ => XS.iload X12.here hx rfl (hb hby at_142) rfl) ?_
    refine Go.by (fun _ => XS.iload X12.here hx rfl (hb hby at_144) rfl) ?_
    refine Go.by (fun _ => XS.lloadN X12.here hx rfl (hb hby at_146) rfl) ?_
    show Go p.tables e below _ (T12.setTop (mkF m 147 #[.val (.int p0), .val (.int p1), .val (.long p2), .second, .val (.long p3), .second, .val (.int ip), .val (.int lp), .val (.int (0 : Int32)), .val (.ref b2), .val (.int r1), .val (.int f1), .val (.int r2), .val (.int f2), .val (.int r3), .val (.int f3), .unset, .unset, .unset, .unset, .unset, .unset, .unset, .unset, .unset, .unset, .unset, .unset, .unset] [(.long p2), (.int f1), (.int r1), (.ref b2)]))
    obtain ⟨v14, T14, h14, X14, q14, st14⟩ := X12.callV hx hZ (y := (⟨"com/example/spotline/spotline/engine/Table", "setLong", "(IIJ)V"⟩ : MethodName)) (z := (⟨"com/example/spotline/spotline/engine/Table", "setLong", "(IIJ)V"⟩ : MethodName)) hown (tw hw 59 rfl) (tw hw 60 rfl) (notFace_of_selects (args := #[]) (mvT hZ (tw hw 62 rfl))) (tw hw 62 rfl) (tw hw 61 rfl) (tw hw 3 rfl) (tw hw 63 rfl) (by decide) (rm8 l Z a0 hw [] b2 r1 f1 p2 oL4 dL6 kL4 kdL6 ip (((64 : Int32) * ip).toNatClampNeg) (fun i => if i = 0 then (.ref dL6) else .null) (fun t => if t = ((((r2 &&& (65535 : Int32)) * ip) + f2).toNatClampNeg) then (.long p3) else (fun _ => (.long 0)) t) h12 n0 Zs13 f13_236 f13_239 f13_231 rfl V12 hc_r1_f1.1 hc_r1_f1.2.1 hc_r1_f1.2.2 g_dL6) f13_230 (g := (mkF m 147 #[.val (.int p0), .val (.int p1), .val (.long p2), .second, .val (.long p3), .second, .val (.int ip), .val (.int lp), .val (.int (0 : Int32)), .val (.ref b2), .val (.int r1), .val (.int f1), .val (.int r2), .val (.int f2), .val (.int r3), .val (.int f3), .unset, .unset, .unset, .unset, .unset, .unset, .unset, .unset, .unset, .unset, .unset, .unset, .unset] [(.long p2), (.int f1), (.int r1), (.ref b2)])) rfl (by rw [hml]; rfl) (argsL := [(.int r1), (.int f1), (.long p2)]) (rest := []) (lenOf pd5 rfl) rfl (hb hby at_147) rfl (by decide) (Nat.le_of_ble_eq_true rfl) (k' := 7) (n' := 440) rfl rfl (by decide) (by decide)
    refine Go.by st14 ?_
    obtain ⟨rfl, K14, V14⟩ := q14
    have f15_254 := f13_230.keep K14
    have f15_255 := Avf.keep f13_231 K14 (ninS ne_oL4_dL6 nin0)
    have f15_256 := Avf.keep f13_232 K14 (ninS ne_oI4_dL6 nin0)
    have f15_257 := Avf.keep f13_233 K14 (ninS ne_oO4_dL6 nin0)
    have f15_258 := Avf.keep f13_234 K14 (ninS (Ne.symm nLI6) nin0)
    have f15_259 := Avf.keep f13_235 K14 (ninS (Ne.symm nLO6) nin0)
    have f15_260 := f13_236.keep K14 (ninS ne_b2_dL6 nin0)
    have f15_261 := f13_237.keep K14 (ninS ne_b2_dL6 nin0)
    have f15_262 := f13_238.keep K14 (ninS ne_b2_dL6 nin0)
    have f15_263 := f13_239.keep K14 (ninS ne_b2_dL6 nin0)
    have f15_264 := f13_240.keep K14 (ninS ne_b2_dL6 nin0)
    have f15_265 := f13_241.keep K14 (ninS ne_b2_dL6 nin0)
    have f15_266 := f13_242.keep K14 (ninS ne_b2_dL6 nin0)
    have f15_267 := f13_243.keep K14 (ninS ne_b2_dL6 nin0)
    have Zs15 : n0 ≤ h14.size := Nat.le_trans Zs13 K14.1
    show Go p.tables e below _ (T14.setTop (mkF m 150 #[.val (.int p0), .val (.int p1), .val (.long p2), .second, .val (.long p3), .second, .val (.int ip), .val (.int lp), .val (.int (0 : Int32)), .val (.ref b2), .val (.int r1), .val (.int f1), .val (.int r2), .val (.int f2), .val (.int r3), .val (.int f3), .unset, .unset, .unset, .unset, .unset, .unset, .unset, .unset, .unset, .unset, .unset, .unset, .unset] []))
    have J16 : ∀ (Tj16 : State), Sd n0 p l e room_1 s m #[(.int p0), (.int p1), (.long p2), (.long p3)] below meth c Tj16 h14 7 440 → ∀ (jb : Int32), ((jb = 1 ∧ r1 = r2 ∧ f1 = f2) ∨ (jb = 0 ∧ ¬ (r1 = r2 ∧ f1 = f2))) → Go p.tables e below (Ret s n0 (fun v h => v = some (.int 1)) room_1.cells room_1.slots) (Tj16.setTop (mkF m 169 #[.val (.int p0), .val (.int p1), .val (.long p2), .second, .val (.long p3), .second, .val (.int ip), .val (.int lp), .val (.int (0 : Int32)), .val (.ref b2), .val (.int r1), .val (.int f1), .val (.int r2), .val (.int f2), .val (.int r3), .val (.int f3), .unset, .unset, .unset, .unset, .unset, .unset, .unset, .unset, .unset, .unset, .unset, .unset, .unset] [(.int jb)])) := by
      intro Tj16 Xj16 jb hj16
      rcases hj16 with ⟨rfl, hP16⟩ | ⟨rfl, hP16⟩
      · skip
        show Go p.tables e below _ (Tj16.setTop (mkF m 169 #[.val (.int p0), .val (.int p1), .val (.long p2), .second, .val (.long p3), .second, .val (.int ip), .val (.int lp), .val (.int (0 : Int32)), .val (.ref b2), .val (.int r1), .val (.int f1), .val (.int r2), .val (.int f2), .val (.int r3), .val (.int f3), .unset, .unset, .unset, .unset, .unset, .unset, .unset, .unset, .unset, .unset, .unset, .unset, .unset] [(.int (1 : Int32))]))
        refine Go.by (fun _ => XS.istore Xj16.here hx rfl (hb hby at_169) rfl (l' := #[.val (.int p0), .val (.int p1), .val (.long p2), .second, .val (.long p3), .second, .val (.int ip), .val (.int lp), .val (.int (0 : Int32)), .val (.ref b2), .val (.int r1), .val (.int f1), .val (.int r2), .val (.int f2), .val (.int r3), .val (.int f3), .val (.int (1 : Int32)), .unset, .unset, .unset, .unset, .unset, .unset, .unset, .unset, .unset, .unset, .unset, .unset]) rfl) ?_
        show Go p.tables e below _ (Tj16.setTop (mkF m 171 #[.val (.int p0), .val (.int p1), .val (.long p2), .second, .val (.long p3), .second, .val (.int ip), .val (.int lp), .val (.int (0 : Int32)), .val (.ref b2), .val (.int r1), .val (.int f1), .val (.int r2), .val (.int f2), .val (.int r3), .val (.int f3), .val (.int (1 : Int32)), .unset, .unset, .unset, .unset, .unset, .unset, .unset, .unset, .unset, .unset, .unset, .unset] []))
        have J17 : ∀ (Tj17 : State), Sd n0 p l e room_1 s m #[(.int p0), (.int p1), (.long p2), (.long p3)] below meth c Tj17 h14 7 440 → ∀ (jb : Int32), ((jb = 1 ∧ r1 = r3 ∧ f1 = f3) ∨ (jb = 0 ∧ ¬ (r1 = r3 ∧ f1 = f3))) → Go p.tables e below (Ret s n0 (fun v h => v = some (.int 1)) room_1.cells room_1.slots) (Tj17.setTop (mkF m 190 #[.val (.int p0), .val (.int p1), .val (.long p2), .second, .val (.long p3), .second, .val (.int ip), .val (.int lp), .val (.int (0 : Int32)), .val (.ref b2), .val (.int r1), .val (.int f1), .val (.int r2), .val (.int f2), .val (.int r3), .val (.int f3), .val (.int (1 : Int32)), .unset, .unset, .unset, .unset, .unset, .unset, .unset, .unset, .unset, .unset, .unset, .unset] [(.int jb)])) := by
          intro Tj17 Xj17 jb hj17
          rcases hj17 with ⟨rfl, hP17⟩ | ⟨rfl, hP17⟩
          · skip
            show Go p.tables e below _ (Tj17.setTop (mkF m 190 #[.val (.int p0), .val (.int p1), .val (.long p2), .second, .val (.long p3), .second, .val (.int ip), .val (.int lp), .val (.int (0 : Int32)), .val (.ref b2), .val (.int r1), .val (.int f1), .val (.int r2), .val (.int f2), .val (.int r3), .val (.int f3), .val (.int (1 : Int32)), .unset, .unset, .unset, .unset, .unset, .unset, .unset, .unset, .unset, .unset, .unset, .unset] [(.int (1 : Int32))]))
            refine Go.by (fun _ => XS.istore Xj17.here hx rfl (hb hby at_190) rfl (l' := #[.val (.int p0), .val (.int p1), .val (.long p2), .second, .val (.long p3), .second, .val (.int ip), .val (.int lp), .val (.int (0 : Int32)), .val (.ref b2), .val (.int r1), .val (.int f1), .val (.int r2), .val (.int f2), .val (.int r3), .val (.int f3), .val (.int (1 : Int32)), .val (.int (1 : Int32)), .unset, .unset, .unset, .unset, .unset, .unset, .unset, .unset, .unset, .unset, .unset]) rfl) ?_
            show Go p.tables e below _ (Tj17.setTop (mkF m 192 #[.val (.int p0), .val (.int p1), .val (.long p2), .second, .val (.long p3), .second, .val (.int ip), .val (.int lp), .val (.int (0 : Int32)), .val (.ref b2), .val (.int r1), .val (.int f1), .val (.int r2), .val (.int f2), .val (.int r3), .val (.int f3), .val (.int (1 : Int32)), .val (.int (1 : Int32)), .unset, .unset, .unset, .unset, .unset, .unset, .unset, .unset, .unset, .unset, .unset] []))
            have J18 : ∀ (Tj18 : State), Sd n0 p l e room_1 s m #[(.int p0), (.int p1), (.long p2), (.long p3)] below meth c Tj18 h14 7 440 → ∀ (jb : Int32), ((jb = 1 ∧ r2 = r3 ∧ f2 = f3) ∨ (jb = 0 ∧ ¬ (r2 = r3 ∧ f2 = f3))) → Go p.tables e below (Ret s n0 (fun v h => v = some (.int 1)) room_1.cells room_1.slots) (Tj18.setTop (mkF m 211 #[.val (.int p0), .val (.int p1), .val (.long p2), .second, .val (.long p3), .second, .val (.int ip), .val (.int lp), .val (.int (0 : Int32)), .val (.ref b2), .val (.int r1), .val (.int f1), .val (.int r2), .val (.int f2), .val (.int r3), .val (.int f3), .val (.int (1 : Int32)), .val (.int (1 : Int32)), .unset, .unset, .unset, .unset, .unset, .unset, .unset, .unset, .unset, .unset, .unset] [(.int jb)])) := by
              intro Tj18 Xj18 jb hj18
              rcases hj18 with ⟨rfl, hP18⟩ | ⟨rfl, hP18⟩
              · skip
                show Go p.tables e below _ (Tj18.setTop (mkF m 211 #[.val (.int p0), .val (.int p1), .val (.long p2), .second, .val (.long p3), .second, .val (.int ip), .val (.int lp), .val (.int (0 : Int32)), .val (.ref b2), .val (.int r1), .val (.int f1), .val (.int r2), .val (.int f2), .val (.int r3), .val (.int f3), .val (.int (1 : Int32)), .val (.int (1 : Int32)), .unset, .unset, .unset, .unset, .unset, .unset, .unset, .unset, .unset, .unset, .unset] [(.int (1 : Int32))]))
                refine Go.by (fun _ => XS.istore Xj18.here hx rfl (hb hby at_211) rfl (l' := #[.val (.int p0), .val (.int p1), .val (.long p2), .second, .val (.long p3), .second, .val (.int ip), .val (.int lp), .val (.int (0 : Int32)), .val (.ref b2), .val (.int r1), .val (.int f1), .val (.int r2), .val (.int f2), .val (.int r3), .val (.int f3), .val (.int (1 : Int32)), .val (.int (1 : Int32)), .val (.int (1 : Int32)), .unset, .unset, .unset, .unset, .unset, .unset, .unset, .unset, .unset, .unset]) rfl) ?_
                show Go p.tables e below _ (Tj18.setTop (mkF m 213 #[.val (.int p0), .val (.int p1), .val (.long p2), .second, .val (.long p3), .second, .val (.int ip), .val (.int lp), .val (.int (0 : Int32)), .val (.ref b2), .val (.int r1), .val (.int f1), .val (.int r2), .val (.int f2), .val (.int r3), .val (.int f3), .val (.int (1 : Int32)), .val (.int (1 : Int32)), .val (.int (1 : Int32)), .unset, .unset, .unset, .unset, .unset, .unset, .unset, .unset, .unset, .unset] []))
                refine Go.by (fun _ => XS.iload Xj18.here hx rfl (hb hby at_213) rfl) ?_
                refine Go.by (fun _ => XS.ifNo Xj18.here hx rfl (hb hby at_215) rfl ((if0 _ _).trans (feq (by decide)).1)) ?_
                show Go p.tables e below _ (Tj18.setTop (mkF m 218 #[.val (.int p0), .val (.int p1), .val (.long p2), .second, .val (.long p3), .second, .val (.int ip), .val (.int lp), .val (.int (0 : Int32)), .val (.ref b2), .val (.int r1), .val (.int f1), .val (.int r2), .val (.int f2), .val (.int r3), .val (.int f3), .val (.int (1 : Int32)), .val (.int (1 : Int32)), .val (.int (1 : Int32)), .unset, .unset, .unset, .unset, .unset, .unset, .unset, .unset, .unset, .unset] []))
                refine Go.by (fun _ => XS.lloadN Xj18.here hx rfl (hb hby at_218) rfl) ?_
                refine Go.by (fun _ => XS.goto Xj18.here hx rfl (pc0 := 219) (pc' := 224) rfl (hb hby at_219) (by decide) (by decide)) ?_
                show Go p.tables e below _ (Tj18.setTop (mkF m 224 #[.val (.int p0), .val (.int p1), .val (.long p2), .second, .val (.long p3), .second, .val (.int ip), .val (.int lp), .val (.int (0 : Int32)), .val (.ref b2), .val (.int r1), .val (.int f1), .val (.int r2), .val (.int f2), .val (.int r3), .val (.int f3), .val (.int (1 : Int32)), .val (.int (1 : Int32)), .val (.int (1 : Int32)), .unset, .unset, .unset, .unset, .unset, .unset, .unset, .unset, .unset, .unset] [(.long p2)]))
                refine Go.by (fun _ => XS.lstore Xj18.here hx rfl (hb hby at_224) rfl (l' := #[.val (.int p0), .val (.int p1), .val (.long p2), .second, .val (.long p3), .second, .val (.int ip), .val (.int lp), .val (.int (0 : Int32)), .val (.ref b2), .val (.int r1), .val (.int f1), .val (.int r2), .val (.int f2), .val (.int r3), .val (.int f3), .val (.int (1 : Int32)), .val (.int (1 : Int32)), .val (.int (1 : Int32)), .val (.long p2), .second, .unset, .unset, .unset, .unset, .unset, .unset, .unset, .unset]) rfl) ?_
                show Go p.tables e below _ (Tj18.setTop (mkF m 226 #[.val (.int p0), .val (.int p1), .val (.long p2), .second, .val (.long p3), .second, .val (.int ip), .val (.int lp), .val (.int (0 : Int32)), .val (.ref b2), .val (.int r1), .val (.int f1), .val (.int r2), .val (.int f2), .val (.int r3), .val (.int f3), .val (.int (1 : Int32)), .val (.int (1 : Int32)), .val (.int (1 : Int32)), .val (.long p2), .second, .unset, .unset, .unset, .unset, .unset, .unset, .unset, .unset] []))
                refine Go.by (fun _ => XS.iload Xj18.here hx rfl (hb hby at_226) rfl) ?_
                refine Go.by (fun _ => XS.ifNo Xj18.here hx rfl (hb hby at_228) rfl ((if0 _ _).trans (feq (by decide)).1)) ?_
                show Go p.tables e below _ (Tj18.setTop (mkF m 231 #[.val (.int p0), .val (.int p1), .val (.long p2), .second, .val (.long p3), .second, .val (.int ip), .val (.int lp), .val (.int (0 : Int32)), .val (.ref b2), .val (.int r1), .val (.int f1), .val (.int r2), .val (.int f2), .val (.int r3), .val (.int f3), .val (.int (1 : Int32)), .val (.int (1 : Int32)), .val (.int (1 : Int32)), .val (.long p2), .second, .unset, .unset, .unset, .unset, .unset, .unset, .unset, .unset] []))
                refine Go.by (fun _ => XS.lloadN Xj18.here hx rfl (hb hby at_231) rfl) ?_
                refine Go.by (fun _ => XS.goto Xj18.here hx rfl (pc0 := 232) (pc' := 246) rfl (hb hby at_232) (by decide) (by decide)) ?_
                show Go p.tables e below _ (Tj18.setTop (mkF m 246 #[.val (.int p0), .val (.int p1), .val (.long p2), .second, .val (.long p3), .second, .val (.int ip), .val (.int lp), .val (.int (0 : Int32)), .val (.ref b2), .val (.int r1), .val (.int f1), .val (.int r2), .val (.int f2), .val (.int r3), .val (.int f3), .val (.int (1 : Int32)), .val (.int (1 : Int32)), .val (.int (1 : Int32)), .val (.long p2), .second, .unset, .unset, .unset, .unset, .unset, .unset, .unset, .unset] [(.long p2)]))
                refine Go.by (fun _ => XS.lstore Xj18.here hx rfl (hb hby at_246) rfl (l' := #[.val (.int p0), .val (.int p1), .val (.long p2), .second, .val (.long p3), .second, .val (.int ip), .val (.int lp), .val (.int (0 : Int32)), .val (.ref b2), .val (.int r1), .val (.int f1), .val (.int r2), .val (.int f2), .val (.int r3), .val (.int f3), .val (.int (1 : Int32)), .val (.int (1 : Int32)), .val (.int (1 : Int32)), .val (.long p2), .second, .val (.long p2), .second, .unset, .unset, .unset, .unset, .unset, .unset]) rfl) ?_
                show Go p.tables e below _ (Tj18.setTop (mkF m 248 #[.val (.int p0), .val (.int p1), .val (.long p2), .second, .val (.long p3), .second, .val (.int ip), .val (.int lp), .val (.int (0 : Int32)), .val (.ref b2), .val (.int r1), .val (.int f1), .val (.int r2), .val (.int f2), .val (.int r3), .val (.int f3), .val (.int (1 : Int32)), .val (.int (1 : Int32)), .val (.int (1 : Int32)), .val (.long p2), .second, .val (.long p2), .second, .unset, .unset, .unset, .unset, .unset, .unset] []))
                refine Go.by (fun _ => XS.aload Xj18.here hx rfl (hb hby at_248) rfl rfl) ?_
                refine Go.by (fun _ => XS.iload Xj18.here hx rfl (hb hby at_250) rfl) ?_
                refine Go.by (fun _ => XS.iload Xj18.here hx rfl (hb hby at_252) rfl) ?_
                show Go p.tables e below _ (Tj18.setTop (mkF m 254 #[.val (.int p0), .val (.int p1), .val (.long p2), .second, .val (.long p3), .second, .val (.int ip), .val (.int lp), .val (.int (0 : Int32)), .val (.ref b2), .val (.int r1), .val (.int f1), .val (.int r2), .val (.int f2), .val (.int r3), .val (.int f3), .val (.int (1 : Int32)), .val (.int (1 : Int32)), .val (.int (1 : Int32)), .val (.long p2), .second, .val (.long p2), .second, .unset, .unset, .unset, .unset, .unset, .unset] [(.int f1), (.int r1), (.ref b2)]))
                obtain ⟨v19, T19, h19, X19, q19, st19⟩ := Xj18.callV hx hZ (y := (⟨"com/example/spotline/spotline/engine/Table", "getLong", "(II)J"⟩ : MethodName)) (z := (⟨"com/example/spotline/spotline/engine/Table", "getLong", "(II)J"⟩ : MethodName)) hown (tw hw 65 rfl) (tw hw 66 rfl) (notFace_of_selects (args := #[]) (mvT hZ (tw hw 68 rfl))) (tw hw 68 rfl) (tw hw 67 rfl) (tw hw 3 rfl) (tw hw 69 rfl) (by decide) (rm9 l Z a0 hw [] b2 r1 f1 oL4 dL6 kL4 kdL6 ip (((64 : Int32) * ip).toNatClampNeg) (fun i => if i = 0 then (.ref dL6) else .null) (fun t => if t = ((((r1 &&& (65535 : Int32)) * ip) + f1).toNatClampNeg) then (.long p2) else (fun t => if t = ((((r2 &&& (65535 : Int32)) * ip) + f2).toNatClampNeg) then (.long p3) else (fun _ => (.long 0)) t) t) p2 h14 n0 Zs15 f15_260 f15_263 f15_255 rfl V14 hc_r1_f1.1 hc_r1_f1.2.1 hc_r1_f1.2.2 (if_pos rfl)) f15_254 (g := (mkF m 254 #[.val (.int p0), .val (.int p1), .val (.long p2), .second, .val (.long p3), .second, .val (.int ip), .val (.int lp), .val (.int (0 : Int32)), .val (.ref b2), .val (.int r1), .val (.int f1), .val (.int r2), .val (.int f2), .val (.int r3), .val (.int f3), .val (.int (1 : Int32)), .val (.int (1 : Int32)), .val (.int (1 : Int32)), .val (.long p2), .second, .val (.long p2), .second, .unset, .unset, .unset, .unset, .unset, .unset] [(.int f1), (.int r1), (.ref b2)])) rfl (by rw [hml]; rfl) (argsL := [(.int r1), (.int f1)]) (rest := []) (lenOf pd6 rfl) rfl (hb hby at_254) rfl (by decide) (Nat.le_of_ble_eq_true rfl) (k' := 7) (n' := 440) rfl rfl (by decide) (by decide)
                refine Go.by st19 ?_
                obtain ⟨rfl, rfl⟩ := q19
                show Go p.tables e below _ (T19.setTop (mkF m 257 #[.val (.int p0), .val (.int p1), .val (.long p2), .second, .val (.long p3), .second, .val (.int ip), .val (.int lp), .val (.int (0 : Int32)), .val (.ref b2), .val (.int r1), .val (.int f1), .val (.int r2), .val (.int f2), .val (.int r3), .val (.int f3), .val (.int (1 : Int32)), .val (.int (1 : Int32)), .val (.int (1 : Int32)), .val (.long p2), .second, .val (.long p2), .second, .unset, .unset, .unset, .unset, .unset, .unset] [(.long p2)]))
                refine Go.by (fun _ => XS.lstore X19.here hx rfl (hb hby at_257) rfl (l' := #[.val (.int p0), .val (.int p1), .val (.long p2), .second, .val (.long p3), .second, .val (.int ip), .val (.int lp), .val (.int (0 : Int32)), .val (.ref b2), .val (.int r1), .val (.int f1), .val (.int r2), .val (.int f2), .val (.int r3), .val (.int f3), .val (.int (1 : Int32)), .val (.int (1 : Int32)), .val (.int (1 : Int32)), .val (.long p2), .second, .val (.long p2), .second, .val (.long p2), .second, .unset, .unset, .unset, .unset]) rfl) ?_
                show Go p.tables e below _ (T19.setTop (mkF m 259 #[.val (.int p0), .val (.int p1), .val (.long p2), .second, .val (.long p3), .second, .val (.int ip), .val (.int lp), .val (.int (0 : Int32)), .val (.ref b2), .val (.int r1), .val (.int f1), .val (.int r2), .val (.int f2), .val (.int r3), .val (.int f3), .val (.int (1 : Int32)), .val (.int (1 : Int32)), .val (.int (1 : Int32)), .val (.long p2), .second, .val (.long p2), .second, .val (.long p2), .second, .unset, .unset, .unset, .unset] []))
                refine Go.by (fun _ => XS.aload X19.here hx rfl (hb hby at_259) rfl rfl) ?_
                refine Go.by (fun _ => XS.iload X19.here hx rfl (hb hby at_261) rfl) ?_
                refine Go.by (fun _ => XS.iload X19.here hx rfl (hb hby at_263) rfl) ?_
                obtain ⟨v20, T20, h20, X20, q20, st20⟩ := X19.callV hx hZ (y := (⟨"com/example/spotline/spotline/engine/Table", "getLong", "(II)J"⟩ : MethodName)) (z := (⟨"com/example/spotline/spotline/engine/Table", "getLong", "(II)J"⟩ : MethodName)) hown (tw hw 65 rfl) (tw hw 66 rfl) (notFace_of_selects (args := #[]) (mvT hZ (tw hw 68 rfl))) (tw hw 68 rfl) (tw hw 67 rfl) (tw hw 3 rfl) (tw hw 69 rfl) (by decide) (rm9 l Z a0 hw [] b2 r2 f2 oL4 dL6 kL4 kdL6 ip (((64 : Int32) * ip).toNatClampNeg) (fun i => if i = 0 then (.ref dL6) else .null) (fun t => if t = ((((r1 &&& (65535 : Int32)) * ip) + f1).toNatClampNeg) then (.long p2) else (fun t => if t = ((((r2 &&& (65535 : Int32)) * ip) + f2).toNatClampNeg) then (.long p3) else (fun _ => (.long 0)) t) t) p2 h14 n0 Zs15 f15_260 f15_263 f15_255 rfl V14 hc_r2_f2.1 hc_r2_f2.2.1 hc_r2_f2.2.2 (if_pos (by rw [hP16.1, hP16.2]))) f15_254 (g := (mkF m 265 #[.val (.int p0), .val (.int p1), .val (.long p2), .second, .val (.long p3), .second, .val (.int ip), .val (.int lp), .val (.int (0 : Int32)), .val (.ref b2), .val (.int r1), .val (.int f1), .val (.int r2), .val (.int f2), .val (.int r3), .val (.int f3), .val (.int (1 : Int32)), .val (.int (1 : Int32)), .val (.int (1 : Int32)), .val (.long p2), .second, .val (.long p2), .second, .val (.long p2), .second, .unset, .unset, .unset, .unset] [(.int f2), (.int r2), (.ref b2)])) rfl (by rw [hml]; rfl) (argsL := [(.int r2), (.int f2)]) (rest := []) (lenOf pd6 rfl) rfl (hb hby at_265) rfl (by decide) (Nat.le_of_ble_eq_true rfl) (k' := 7) (n' := 440) rfl rfl (by decide) (by decide)
                refine Go.by st20 ?_
                obtain ⟨rfl, rfl⟩ := q20
                show Go p.tables e below _ (T20.setTop (mkF m 268 #[.val (.int p0), .val (.int p1), .val (.long p2), .second, .val (.long p3), .second, .val (.int ip), .val (.int lp), .val (.int (0 : Int32)), .val (.ref b2), .val (.int r1), .val (.int f1), .val (.int r2), .val (.int f2), .val (.int r3), .val (.int f3), .val (.int (1 : Int32)), .val (.int (1 : Int32)), .val (.int (1 : Int32)), .val (.long p2), .second, .val (.long p2), .second, .val (.long p2), .second, .unset, .unset, .unset, .unset] [(.long p2)]))
                refine Go.by (fun _ => XS.lstore X20.here hx rfl (hb hby at_268) rfl (l' := #[.val (.int p0), .val (.int p1), .val (.long p2), .second, .val (.long p3), .second, .val (.int ip), .val (.int lp), .val (.int (0 : Int32)), .val (.ref b2), .val (.int r1), .val (.int f1), .val (.int r2), .val (.int f2), .val (.int r3), .val (.int f3), .val (.int (1 : Int32)), .val (.int (1 : Int32)), .val (.int (1 : Int32)), .val (.long p2), .second, .val (.long p2), .second, .val (.long p2), .second, .val (.long p2), .second, .unset, .unset]) rfl) ?_
                show Go p.tables e below _ (T20.setTop (mkF m 270 #[.val (.int p0), .val (.int p1), .val (.long p2), .second, .val (.long p3), .second, .val (.int ip), .val (.int lp), .val (.int (0 : Int32)), .val (.ref b2), .val (.int r1), .val (.int f1), .val (.int r2), .val (.int f2), .val (.int r3), .val (.int f3), .val (.int (1 : Int32)), .val (.int (1 : Int32)), .val (.int (1 : Int32)), .val (.long p2), .second, .val (.long p2), .second, .val (.long p2), .second, .val (.long p2), .second, .unset, .unset] []))
                refine Go.by (fun _ => XS.aload X20.here hx rfl (hb hby at_270) rfl rfl) ?_
                show Go p.tables e below _ (T20.setTop (mkF m 272 #[.val (.int p0), .val (.int p1), .val (.long p2), .second, .val (.long p3), .second, .val (.int ip), .val (.int lp), .val (.int (0 : Int32)), .val (.ref b2), .val (.int r1), .val (.int f1), .val (.int r2), .val (.int f2), .val (.int r3), .val (.int f3), .val (.int (1 : Int32)), .val (.int (1 : Int32)), .val (.int (1 : Int32)), .val (.long p2), .second, .val (.long p2), .second, .val (.long p2), .second, .val (.long p2), .second, .unset, .unset] [(.ref b2)]))
                refine Go.by (fun _ => XS.iload X20.here hx rfl (hb hby at_272) rfl) ?_
                refine Go.by (fun _ => XS.iload X20.here hx rfl (hb hby at_274) rfl) ?_
                obtain ⟨v21, T21, h21, X21, q21, st21⟩ := X20.callV hx hZ (y := (⟨"com/example/spotline/spotline/engine/Table", "getLong", "(II)J"⟩ : MethodName)) (z := (⟨"com/example/spotline/spotline/engine/Table", "getLong", "(II)J"⟩ : MethodName)) hown (tw hw 65 rfl) (tw hw 66 rfl) (notFace_of_selects (args := #[]) (mvT hZ (tw hw 68 rfl))) (tw hw 68 rfl) (tw hw 67 rfl) (tw hw 3 rfl) (tw hw 69 rfl) (by decide) (rm9 l Z a0 hw [] b2 r3 f3 oL4 dL6 kL4 kdL6 ip (((64 : Int32) * ip).toNatClampNeg) (fun i => if i = 0 then (.ref dL6) else .null) (fun t => if t = ((((r1 &&& (65535 : Int32)) * ip) + f1).toNatClampNeg) then (.long p2) else (fun t => if t = ((((r2 &&& (65535 : Int32)) * ip) + f2).toNatClampNeg) then (.long p3) else (fun _ => (.long 0)) t) t) p2 h14 n0 Zs15 f15_260 f15_263 f15_255 rfl V14 hc_r3_f3.1 hc_r3_f3.2.1 hc_r3_f3.2.2 (if_pos (by rw [hP17.1, hP17.2]))) f15_254 (g := (mkF m 276 #[.val (.int p0), .val (.int p1), .val (.long p2), .second, .val (.long p3), .second, .val (.int ip), .val (.int lp), .val (.int (0 : Int32)), .val (.ref b2), .val (.int r1), .val (.int f1), .val (.int r2), .val (.int f2), .val (.int r3), .val (.int f3), .val (.int (1 : Int32)), .val (.int (1 : Int32)), .val (.int (1 : Int32)), .val (.long p2), .second, .val (.long p2), .second, .val (.long p2), .second, .val (.long p2), .second, .unset, .unset] [(.int f3), (.int r3), (.ref b2)])) rfl (by rw [hml]; rfl) (argsL := [(.int r3), (.int f3)]) (rest := []) (lenOf pd6 rfl) rfl (hb hby at_276) rfl (by decide) (Nat.le_of_ble_eq_true rfl) (k' := 7) (n' := 440) rfl rfl (by decide) (by decide)
                refine Go.by st21 ?_
                obtain ⟨rfl, rfl⟩ := q21
                show Go p.tables e below _ (T21.setTop (mkF m 279 #[.val (.int p0), .val (.int p1), .val (.long p2), .second, .val (.long p3), .second, .val (.int ip), .val (.int lp), .val (.int (0 : Int32)), .val (.ref b2), .val (.int r1), .val (.int f1), .val (.int r2), .val (.int f2), .val (.int r3), .val (.int f3), .val (.int (1 : Int32)), .val (.int (1 : Int32)), .val (.int (1 : Int32)), .val (.long p2), .second, .val (.long p2), .second, .val (.long p2), .second, .val (.long p2), .second, .unset, .unset] [(.long p2)]))
                refine Go.by (fun _ => XS.lstore X21.here hx rfl (hb hby at_279) rfl (l' := #[.val (.int p0), .val (.int p1), .val (.long p2), .second, .val (.long p3), .second, .val (.int ip), .val (.int lp), .val (.int (0 : Int32)), .val (.ref b2), .val (.int r1), .val (.int f1), .val (.int r2), .val (.int f2), .val (.int r3), .val (.int f3), .val (.int (1 : Int32)), .val (.int (1 : Int32)), .val (.int (1 : Int32)), .val (.long p2), .second, .val (.long p2), .second, .val (.long p2), .second, .val (.long p2), .second, .val (.long p2), .second]) rfl) ?_
                show Go p.tables e below _ (T21.setTop (mkF m 281 #[.val (.int p0), .val (.int p1), .val (.long p2), .second, .val (.long p3), .second, .val (.int ip), .val (.int lp), .val (.int (0 : Int32)), .val (.ref b2), .val (.int r1), .val (.int f1), .val (.int r2), .val (.int f2), .val (.int r3), .val (.int f3), .val (.int (1 : Int32)), .val (.int (1 : Int32)), .val (.int (1 : Int32)), .val (.long p2), .second, .val (.long p2), .second, .val (.long p2), .second, .val (.long p2), .second, .val (.long p2), .second] []))
                refine Go.by (fun _ => XS.lload X21.here hx rfl (hb hby at_281) rfl) ?_
                refine Go.by (fun _ => XS.lloadN X21.here hx rfl (hb hby at_283) rfl) ?_
                refine Go.by (fun _ => XS.lcmp X21.here hx rfl (hb hby at_284) rfl) ?_
                show Go p.tables e below _ (T21.setTop (mkF m 285 #[.val (.int p0), .val (.int p1), .val (.long p2), .second, .val (.long p3), .second, .val (.int ip), .val (.int lp), .val (.int (0 : Int32)), .val (.ref b2), .val (.int r1), .val (.int f1), .val (.int r2), .val (.int f2), .val (.int r3), .val (.int f3), .val (.int (1 : Int32)), .val (.int (1 : Int32)), .val (.int (1 : Int32)), .val (.long p2), .second, .val (.long p2), .second, .val (.long p2), .second, .val (.long p2), .second, .val (.long p2), .second] [(.int (lcmpW p2 p2))]))
                refine Go.by (fun _ => XS.ifNo X21.here hx rfl (hb hby at_285) rfl ((if0 _ _).trans (teq ((lw_eq _ _).mpr rfl)).2)) ?_
                show Go p.tables e below _ (T21.setTop (mkF m 288 #[.val (.int p0), .val (.int p1), .val (.long p2), .second, .val (.long p3), .second, .val (.int ip), .val (.int lp), .val (.int (0 : Int32)), .val (.ref b2), .val (.int r1), .val (.int f1), .val (.int r2), .val (.int f2), .val (.int r3), .val (.int f3), .val (.int (1 : Int32)), .val (.int (1 : Int32)), .val (.int (1 : Int32)), .val (.long p2), .second, .val (.long p2), .second, .val (.long p2), .second, .val (.long p2), .second, .val (.long p2), .second] []))
                refine Go.by (fun _ => XS.lload X21.here hx rfl (hb hby at_288) rfl) ?_
                refine Go.by (fun _ => XS.lload X21.here hx rfl (hb hby at_290) rfl) ?_
                refine Go.by (fun _ => XS.lcmp X21.here hx rfl (hb hby at_292) rfl) ?_
                show Go p.tables e below _ (T21.setTop (mkF m 293 #[.val (.int p0), .val (.int p1), .val (.long p2), .second, .val (.long p3), .second, .val (.int ip), .val (.int lp), .val (.int (0 : Int32)), .val (.ref b2), .val (.int r1), .val (.int f1), .val (.int r2), .val (.int f2), .val (.int r3), .val (.int f3), .val (.int (1 : Int32)), .val (.int (1 : Int32)), .val (.int (1 : Int32)), .val (.long p2), .second, .val (.long p2), .second, .val (.long p2), .second, .val (.long p2), .second, .val (.long p2), .second] [(.int (lcmpW p2 p2))]))
                refine Go.by (fun _ => XS.ifNo X21.here hx rfl (hb hby at_293) rfl ((if0 _ _).trans (teq ((lw_eq _ _).mpr rfl)).2)) ?_
                show Go p.tables e below _ (T21.setTop (mkF m 296 #[.val (.int p0), .val (.int p1), .val (.long p2), .second, .val (.long p3), .second, .val (.int ip), .val (.int lp), .val (.int (0 : Int32)), .val (.ref b2), .val (.int r1), .val (.int f1), .val (.int r2), .val (.int f2), .val (.int r3), .val (.int f3), .val (.int (1 : Int32)), .val (.int (1 : Int32)), .val (.int (1 : Int32)), .val (.long p2), .second, .val (.long p2), .second, .val (.long p2), .second, .val (.long p2), .second, .val (.long p2), .second] []))
                refine Go.by (fun _ => XS.lload X21.here hx rfl (hb hby at_296) rfl) ?_
                refine Go.by (fun _ => XS.lload X21.here hx rfl (hb hby at_298) rfl) ?_
                refine Go.by (fun _ => XS.lcmp X21.here hx rfl (hb hby at_300) rfl) ?_
                show Go p.tables e below _ (T21.setTop (mkF m 301 #[.val (.int p0), .val (.int p1), .val (.long p2), .second, .val (.long p3), .second, .val (.int ip), .val (.int lp), .val (.int (0 : Int32)), .val (.ref b2), .val (.int r1), .val (.int f1), .val (.int r2), .val (.int f2), .val (.int r3), .val (.int f3), .val (.int (1 : Int32)), .val (.int (1 : Int32)), .val (.int (1 : Int32)), .val (.long p2), .second, .val (.long p2), .second, .val (.long p2), .second, .val (.long p2), .second, .val (.long p2), .second] [(.int (lcmpW p2 p2))]))
                refine Go.by (fun _ => XS.ifNo X21.here hx rfl (hb hby at_301) rfl ((if0 _ _).trans (teq ((lw_eq _ _).mpr rfl)).2)) ?_
                show Go p.tables e below _ (T21.setTop (mkF m 304 #[.val (.int p0), .val (.int p1), .val (.long p2), .second, .val (.long p3), .second, .val (.int ip), .val (.int lp), .val (.int (0 : Int32)), .val (.ref b2), .val (.int r1), .val (.int f1), .val (.int r2), .val (.int f2), .val (.int r3), .val (.int f3), .val (.int (1 : Int32)), .val (.int (1 : Int32)), .val (.int (1 : Int32)), .val (.long p2), .second, .val (.long p2), .second, .val (.long p2), .second, .val (.long p2), .second, .val (.long p2), .second] []))
                refine Go.by (fun _ => XS.iconst X21.here hx rfl (hb hby at_304)) ?_
                refine Go.by (fun _ => XS.goto X21.here hx rfl (pc0 := 305) (pc' := 309) rfl (hb hby at_305) (by decide) (by decide)) ?_
                show Go p.tables e below _ (T21.setTop (mkF m 309 #[.val (.int p0), .val (.int p1), .val (.long p2), .second, .val (.long p3), .second, .val (.int ip), .val (.int lp), .val (.int (0 : Int32)), .val (.ref b2), .val (.int r1), .val (.int f1), .val (.int r2), .val (.int f2), .val (.int r3), .val (.int f3), .val (.int (1 : Int32)), .val (.int (1 : Int32)), .val (.int (1 : Int32)), .val (.long p2), .second, .val (.long p2), .second, .val (.long p2), .second, .val (.long p2), .second, .val (.long p2), .second] [(.int (1 : Int32))]))
                exact Go.retN X21 hx hlk (z' := (1 : Int32)) hret (by simp) (hb hby at_309) rfl (by decide) (by decide) rfl
              · skip
                show Go p.tables e below _ (Tj18.setTop (mkF m 211 #[.val (.int p0), .val (.int p1), .val (.long p2), .second, .val (.long p3), .second, .val (.int ip), .val (.int lp), .val (.int (0 : Int32)), .val (.ref b2), .val (.int r1), .val (.int f1), .val (.int r2), .val (.int f2), .val (.int r3), .val (.int f3), .val (.int (1 : Int32)), .val (.int (1 : Int32)), .unset, .unset, .unset, .unset, .unset, .unset, .unset, .unset, .unset, .unset, .unset] [(.int (0 : Int32))]))
                refine Go.by (fun _ => XS.istore Xj18.here hx rfl (hb hby at_211) rfl (l' := #[.val (.int p0), .val (.int p1), .val (.long p2), .second, .val (.long p3), .second, .val (.int ip), .val (.int lp), .val (.int (0 : Int32)), .val (.ref b2), .val (.int r1), .val (.int f1), .val (.int r2), .val (.int f2), .val (.int r3), .val (.int f3), .val (.int (1 : Int32)), .val (.int (1 : Int32)), .val (.int (0 : Int32)), .unset, .unset, .unset, .unset, .unset, .unset, .unset, .unset, .unset, .unset]) rfl) ?_
                show Go p.tables e below _ (Tj18.setTop (mkF m 213 #[.val (.int p0), .val (.int p1), .val (.long p2), .second, .val (.long p3), .second, .val (.int ip), .val (.int lp), .val (.int (0 : Int32)), .val (.ref b2), .val (.int r1), .val (.int f1), .val (.int r2), .val (.int f2), .val (.int r3), .val (.int f3), .val (.int (1 : Int32)), .val (.int (1 : Int32)), .val (.int (0 : Int32)), .unset, .unset, .unset, .unset, .unset, .unset, .unset, .unset, .unset, .unset] []))
                refine Go.by (fun _ => XS.iload Xj18.here hx rfl (hb hby at_213) rfl) ?_
                refine Go.by (fun _ => XS.ifNo Xj18.here hx rfl (hb hby at_215) rfl ((if0 _ _).trans (feq (by decide)).1)) ?_
                show Go p.tables e below _ (Tj18.setTop (mkF m 218 #[.val (.int p0), .val (.int p1), .val (.long p2), .second, .val (.long p3), .second, .val (.int ip), .val (.int lp), .val (.int (0 : Int32)), .val (.ref b2), .val (.int r1), .val (.int f1), .val (.int r2), .val (.int f2), .val (.int r3), .val (.int f3), .val (.int (1 : Int32)), .val (.int (1 : Int32)), .val (.int (0 : Int32)), .unset, .unset, .unset, .unset, .unset, .unset, .unset, .unset, .unset, .unset] []))
                refine Go.by (fun _ => XS.lloadN Xj18.here hx rfl (hb hby at_218) rfl) ?_
                refine Go.by (fun _ => XS.goto Xj18.here hx rfl (pc0 := 219) (pc' := 224) rfl (hb hby at_219) (by decide) (by decide)) ?_
                show Go p.tables e below _ (Tj18.setTop (mkF m 224 #[.val (.int p0), .val (.int p1), .val (.long p2), .second, .val (.long p3), .second, .val (.int ip), .val (.int lp), .val (.int (0 : Int32)), .val (.ref b2), .val (.int r1), .val (.int f1), .val (.int r2), .val (.int f2), .val (.int r3), .val (.int f3), .val (.int (1 : Int32)), .val (.int (1 : Int32)), .val (.int (0 : Int32)), .unset, .unset, .unset, .unset, .unset, .unset, .unset, .unset, .unset, .unset] [(.long p2)]))
                refine Go.by (fun _ => XS.lstore Xj18.here hx rfl (hb hby at_224) rfl (l' := #[.val (.int p0), .val (.int p1), .val (.long p2), .second, .val (.long p3), .second, .val (.int ip), .val (.int lp), .val (.int (0 : Int32)), .val (.ref b2), .val (.int r1), .val (.int f1), .val (.int r2), .val (.int f2), .val (.int r3), .val (.int f3), .val (.int (1 : Int32)), .val (.int (1 : Int32)), .val (.int (0 : Int32)), .val (.long p2), .second, .unset, .unset, .unset, .unset, .unset, .unset, .unset, .unset]) rfl) ?_
                show Go p.tables e below _ (Tj18.setTop (mkF m 226 #[.val (.int p0), .val (.int p1), .val (.long p2), .second, .val (.long p3), .second, .val (.int ip), .val (.int lp), .val (.int (0 : Int32)), .val (.ref b2), .val (.int r1), .val (.int f1), .val (.int r2), .val (.int f2), .val (.int r3), .val (.int f3), .val (.int (1 : Int32)), .val (.int (1 : Int32)), .val (.int (0 : Int32)), .val (.long p2), .second, .unset, .unset, .unset, .unset, .unset, .unset, .unset, .unset] []))
                refine Go.by (fun _ => XS.iload Xj18.here hx rfl (hb hby at_226) rfl) ?_
                show Go p.tables e below _ (Tj18.setTop (mkF m 228 #[.val (.int p0), .val (.int p1), .val (.long p2), .second, .val (.long p3), .second, .val (.int ip), .val (.int lp), .val (.int (0 : Int32)), .val (.ref b2), .val (.int r1), .val (.int f1), .val (.int r2), .val (.int f2), .val (.int r3), .val (.int f3), .val (.int (1 : Int32)), .val (.int (1 : Int32)), .val (.int (0 : Int32)), .val (.long p2), .second, .unset, .unset, .unset, .unset, .unset, .unset, .unset, .unset] [(.int (1 : Int32))]))
                refine Go.by (fun _ => XS.ifNo Xj18.here hx rfl (hb hby at_228) rfl ((if0 _ _).trans (feq (by decide)).1)) ?_
                show Go p.tables e below _ (Tj18.setTop (mkF m 231 #[.val (.int p0), .val (.int p1), .val (.long p2), .second, .val (.long p3), .second, .val (.int ip), .val (.int lp), .val (.int (0 : Int32)), .val (.ref b2), .val (.int r1), .val (.int f1), .val (.int r2), .val (.int f2), .val (.int r3), .val (.int f3), .val (.int (1 : Int32)), .val (.int (1 : Int32)), .val (.int (0 : Int32)), .val (.long p2), .second, .unset, .unset, .unset, .unset, .unset, .unset, .unset, .unset] []))
                refine Go.by (fun _ => XS.lloadN Xj18.here hx rfl (hb hby at_231) rfl) ?_
                refine Go.by (fun _ => XS.goto Xj18.here hx rfl (pc0 := 232) (pc' := 246) rfl (hb hby at_232) (by decide) (by decide)) ?_
                show Go p.tables e below _ (Tj18.setTop (mkF m 246 #[.val (.int p0), .val (.int p1), .val (.long p2), .second, .val (.long p3), .second, .val (.int ip), .val (.int lp), .val (.int (0 : Int32)), .val (.ref b2), .val (.int r1), .val (.int f1), .val (.int r2), .val (.int f2), .val (.int r3), .val (.int f3), .val (.int (1 : Int32)), .val (.int (1 : Int32)), .val (.int (0 : Int32)), .val (.long p2), .second, .unset, .unset, .unset, .unset, .unset, .unset, .unset, .unset] [(.long p2)]))
                refine Go.by (fun _ => XS.lstore Xj18.here hx rfl (hb hby at_246) rfl (l' := #[.val (.int p0), .val (.int p1), .val (.long p2), .second, .val (.long p3), .second, .val (.int ip), .val (.int lp), .val (.int (0 : Int32)), .val (.ref b2), .val (.int r1), .val (.int f1), .val (.int r2), .val (.int f2), .val (.int r3), .val (.int f3), .val (.int (1 : Int32)), .val (.int (1 : Int32)), .val (.int (0 : Int32)), .val (.long p2), .second, .val (.long p2), .second, .unset, .unset, .unset, .unset, .unset, .unset]) rfl) ?_
                show Go p.tables e below _ (Tj18.setTop (mkF m 248 #[.val (.int p0), .val (.int p1), .val (.long p2), .second, .val (.long p3), .second, .val (.int ip), .val (.int lp), .val (.int (0 : Int32)), .val (.ref b2), .val (.int r1), .val (.int f1), .val (.int r2), .val (.int f2), .val (.int r3), .val (.int f3), .val (.int (1 : Int32)), .val (.int (1 : Int32)), .val (.int (0 : Int32)), .val (.long p2), .second, .val (.long p2), .second, .unset, .unset, .unset, .unset, .unset, .unset] []))
                refine Go.by (fun _ => XS.aload Xj18.here hx rfl (hb hby at_248) rfl rfl) ?_
                refine Go.by (fun _ => XS.iload Xj18.here hx rfl (hb hby at_250) rfl) ?_
                refine Go.by (fun _ => XS.iload Xj18.here hx rfl (hb hby at_252) rfl) ?_
                obtain ⟨v22, T22, h22, X22, q22, st22⟩ := Xj18.callV hx hZ (y := (⟨"com/example/spotline/spotline/engine/Table", "getLong", "(II)J"⟩ : MethodName)) (z := (⟨"com/example/spotline/spotline/engine/Table", "getLong", "(II)J"⟩ : MethodName)) hown (tw hw 65 rfl) (tw hw 66 rfl) (notFace_of_selects (args := #[]) (mvT hZ (tw hw 68 rfl))) (tw hw 68 rfl) (tw hw 67 rfl) (tw hw 3 rfl) (tw hw 69 rfl) (by decide) (rm9 l Z a0 hw [] b2 r1 f1 oL4 dL6 kL4 kdL6 ip (((64 : Int32) * ip).toNatClampNeg) (fun i => if i = 0 then (.ref dL6) else .null) (fun t => if t = ((((r1 &&& (65535 : Int32)) * ip) + f1).toNatClampNeg) then (.long p2) else (fun t => if t = ((((r2 &&& (65535 : Int32)) * ip) + f2).toNatClampNeg) then (.long p3) else (fun _ => (.long 0)) t) t) p2 h14 n0 Zs15 f15_260 f15_263 f15_255 rfl V14 hc_r1_f1.1 hc_r1_f1.2.1 hc_r1_f1.2.2 (if_pos rfl)) f15_254 (g := (mkF m 254 #[.val (.int p0), .val (.int p1), .val (.long p2), .second, .val (.long p3), .second, .val (.int ip), .val (.int lp), .val (.int (0 : Int32)), .val (.ref b2), .val (.int r1), .val (.int f1), .val (.int r2), .val (.int f2), .val (.int r3), .val (.int f3), .val (.int (1 : Int32)), .val (.int (1 : Int32)), .val (.int (0 : Int32)), .val (.long p2), .second, .val (.long p2), .second, .unset, .unset, .unset, .unset, .unset, .unset] [(.int f1), (.int r1), (.ref b2)])) rfl (by rw [hml]; rfl) (argsL := [(.int r1), (.int f1)]) (rest := []) (lenOf pd6 rfl) rfl (hb hby at_254) rfl (by decide) (Nat.le_of_ble_eq_true rfl) (k' := 7) (n' := 440) rfl rfl (by decide) (by decide)
                refine Go.by st22 ?_
                obtain ⟨rfl, rfl⟩ := q22
                show Go p.tables e below _ (T22.setTop (mkF m 257 #[.val (.int p0), .val (.int p1), .val (.long p2), .second, .val (.long p3), .second, .val (.int ip), .val (.int lp), .val (.int (0 : Int32)), .val (.ref b2), .val (.int r1), .val (.int f1), .val (.int r2), .val (.int f2), .val (.int r3), .val (.int f3), .val (.int (1 : Int32)), .val (.int (1 : Int32)), .val (.int (0 : Int32)), .val (.long p2), .second, .val (.long p2), .second, .unset, .unset, .unset, .unset, .unset, .unset] [(.long p2)]))
                refine Go.by (fun _ => XS.lstore X22.here hx rfl (hb hby at_257) rfl (l' := #[.val (.int p0), .val (.int p1), .val (.long p2), .second, .val (.long p3), .second, .val (.int ip), .val (.int lp), .val (.int (0 : Int32)), .val (.ref b2), .val (.int r1), .val (.int f1), .val (.int r2), .val (.int f2), .val (.int r3), .val (.int f3), .val (.int (1 : Int32)), .val (.int (1 : Int32)), .val (.int (0 : Int32)), .val (.long p2), .second, .val (.long p2), .second, .val (.long p2), .second, .unset, .unset, .unset, .unset]) rfl) ?_
                show Go p.tables e below _ (T22.setTop (mkF m 259 #[.val (.int p0), .val (.int p1), .val (.long p2), .second, .val (.long p3), .second, .val (.int ip), .val (.int lp), .val (.int (0 : Int32)), .val (.ref b2), .val (.int r1), .val (.int f1), .val (.int r2), .val (.int f2), .val (.int r3), .val (.int f3), .val (.int (1 : Int32)), .val (.int (1 : Int32)), .val (.int (0 : Int32)), .val (.long p2), .second, .val (.long p2), .second, .val (.long p2), .second, .unset, .unset, .unset, .unset] []))
                refine Go.by (fun _ => XS.aload X22.here hx rfl (hb hby at_259) rfl rfl) ?_
                refine Go.by (fun _ => XS.iload X22.here hx rfl (hb hby at_261) rfl) ?_
                refine Go.by (fun _ => XS.iload X22.here hx rfl (hb hby at_263) rfl) ?_
                obtain ⟨v23, T23, h23, X23, q23, st23⟩ := X22.callV hx hZ (y := (⟨"com/example/spotline/spotline/engine/Table", "getLong", "(II)J"⟩ : MethodName)) (z := (⟨"com/example/spotline/spotline/engine/Table", "getLong", "(II)J"⟩ : MethodName)) hown (tw hw 65 rfl) (tw hw 66 rfl) (notFace_of_selects (args := #[]) (mvT hZ (tw hw 68 rfl))) (tw hw 68 rfl) (tw hw 67 rfl) (tw hw 3 rfl) (tw hw 69 rfl) (by decide) (rm9 l Z a0 hw [] b2 r2 f2 oL4 dL6 kL4 kdL6 ip (((64 : Int32) * ip).toNatClampNeg) (fun i => if i = 0 then (.ref dL6) else .null) (fun t => if t = ((((r1 &&& (65535 : Int32)) * ip) + f1).toNatClampNeg) then (.long p2) else (fun t => if t = ((((r2 &&& (65535 : Int32)) * ip) + f2).toNatClampNeg) then (.long p3) else (fun _ => (.long 0)) t) t) p2 h14 n0 Zs15 f15_260 f15_263 f15_255 rfl V14 hc_r2_f2.1 hc_r2_f2.2.1 hc_r2_f2.2.2 (if_pos (by rw [hP16.1, hP16.2]))) f15_254 (g := (mkF m 265 #[.val (.int p0), .val (.int p1), .val (.long p2), .second, .val (.long p3), .second, .val (.int ip), .val (.int lp), .val (.int (0 : Int32)), .val (.ref b2), .val (.int r1), .val (.int f1), .val (.int r2), .val (.int f2), .val (.int r3), .val (.int f3), .val (.int (1 : Int32)), .val (.int (1 : Int32)), .val (.int (0 : Int32)), .val (.long p2), .second, .val (.long p2), .second, .val (.long p2), .second, .unset, .unset, .unset, .unset] [(.int f2), (.int r2), (.ref b2)])) rfl (by rw [hml]; rfl) (argsL := [(.int r2), (.int f2)]) (rest := []) (lenOf pd6 rfl) rfl (hb hby at_265) rfl (by decide) (Nat.le_of_ble_eq_true rfl) (k' := 7) (n' := 440) rfl rfl (by decide) (by decide)
                refine Go.by st23 ?_
                obtain ⟨rfl, rfl⟩ := q23
                show Go p.tables e below _ (T23.setTop (mkF m 268 #[.val (.int p0), .val (.int p1), .val (.long p2), .second, .val (.long p3), .second, .val (.int ip), .val (.int lp), .val (.int (0 : Int32)), .val (.ref b2), .val (.int r1), .val (.int f1), .val (.int r2), .val (.int f2), .val (.int r3), .val (.int f3), .val (.int (1 : Int32)), .val (.int (1 : Int32)), .val (.int (0 : Int32)), .val (.long p2), .second, .val (.long p2), .second, .val (.long p2), .second, .unset, .unset, .unset, .unset] [(.long p2)]))
                refine Go.by (fun _ => XS.lstore X23.here hx rfl (hb hby at_268) rfl (l' := #[.val (.int p0), .val (.int p1), .val (.long p2), .second, .val (.long p3), .second, .val (.int ip), .val (.int lp), .val (.int (0 : Int32)), .val (.ref b2), .val (.int r1), .val (.int f1), .val (.int r2), .val (.int f2), .val (.int r3), .val (.int f3), .val (.int (1 : Int32)), .val (.int (1 : Int32)), .val (.int (0 : Int32)), .val (.long p2), .second, .val (.long p2), .second, .val (.long p2), .second, .val (.long p2), .second, .unset, .unset]) rfl) ?_
                show Go p.tables e below _ (T23.setTop (mkF m 270 #[.val (.int p0), .val (.int p1), .val (.long p2), .second, .val (.long p3), .second, .val (.int ip), .val (.int lp), .val (.int (0 : Int32)), .val (.ref b2), .val (.int r1), .val (.int f1), .val (.int r2), .val (.int f2), .val (.int r3), .val (.int f3), .val (.int (1 : Int32)), .val (.int (1 : Int32)), .val (.int (0 : Int32)), .val (.long p2), .second, .val (.long p2), .second, .val (.long p2), .second, .val (.long p2), .second, .unset, .unset] []))
                refine Go.by (fun _ => XS.aload X23.here hx rfl (hb hby at_270) rfl rfl) ?_
                refine Go.by (fun _ => XS.iload X23.here hx rfl (hb hby at_272) rfl) ?_
                show Go p.tables e below _ (T23.setTop (mkF m 274 #[.val (.int p0), .val (.int p1), .val (.long p2), .second, .val (.long p3), .second, .val (.int ip), .val (.int lp), .val (.int (0 : Int32)), .val (.ref b2), .val (.int r1), .val (.int f1), .val (.int r2), .val (.int f2), .val (.int r3), .val (.int f3), .val (.int (1 : Int32)), .val (.int (1 : Int32)), .val (.int (0 : Int32)), .val (.long p2), .second, .val (.long p2), .second, .val (.long p2), .second, .val (.long p2), .second, .unset, .unset] [(.int r3), (.ref b2)]))
                refine Go.by (fun _ => XS.iload X23.here hx rfl (hb hby at_274) rfl) ?_
                obtain ⟨v24, T24, h24, X24, q24, st24⟩ := X23.callV hx hZ (y := (⟨"com/example/spotline/spotline/engine/Table", "getLong", "(II)J"⟩ : MethodName)) (z := (⟨"com/example/spotline/spotline/engine/Table", "getLong", "(II)J"⟩ : MethodName)) hown (tw hw 65 rfl) (tw hw 66 rfl) (notFace_of_selects (args := #[]) (mvT hZ (tw hw 68 rfl))) (tw hw 68 rfl) (tw hw 67 rfl) (tw hw 3 rfl) (tw hw 69 rfl) (by decide) (rm9 l Z a0 hw [] b2 r3 f3 oL4 dL6 kL4 kdL6 ip (((64 : Int32) * ip).toNatClampNeg) (fun i => if i = 0 then (.ref dL6) else .null) (fun t => if t = ((((r1 &&& (65535 : Int32)) * ip) + f1).toNatClampNeg) then (.long p2) else (fun t => if t = ((((r2 &&& (65535 : Int32)) * ip) + f2).toNatClampNeg) then (.long p3) else (fun _ => (.long 0)) t) t) p2 h14 n0 Zs15 f15_260 f15_263 f15_255 rfl V14 hc_r3_f3.1 hc_r3_f3.2.1 hc_r3_f3.2.2 (if_pos (by rw [hP17.1, hP17.2]))) f15_254 (g := (mkF m 276 #[.val (.int p0), .val (.int p1), .val (.long p2), .second, .val (.long p3), .second, .val (.int ip), .val (.int lp), .val (.int (0 : Int32)), .val (.ref b2), .val (.int r1), .val (.int f1), .val (.int r2), .val (.int f2), .val (.int r3), .val (.int f3), .val (.int (1 : Int32)), .val (.int (1 : Int32)), .val (.int (0 : Int32)), .val (.long p2), .second, .val (.long p2), .second, .val (.long p2), .second, .val (.long p2), .second, .unset, .unset] [(.int f3), (.int r3), (.ref b2)])) rfl (by rw [hml]; rfl) (argsL := [(.int r3), (.int f3)]) (rest := []) (lenOf pd6 rfl) rfl (hb hby at_276) rfl (by decide) (Nat.le_of_ble_eq_true rfl) (k' := 7) (n' := 440) rfl rfl (by decide) (by decide)
                refine Go.by st24 ?_
                obtain ⟨rfl, rfl⟩ := q24
                show Go p.tables e below _ (T24.setTop (mkF m 279 #[.val (.int p0), .val (.int p1), .val (.long p2), .second, .val (.long p3), .second, .val (.int ip), .val (.int lp), .val (.int (0 : Int32)), .val (.ref b2), .val (.int r1), .val (.int f1), .val (.int r2), .val (.int f2), .val (.int r3), .val (.int f3), .val (.int (1 : Int32)), .val (.int (1 : Int32)), .val (.int (0 : Int32)), .val (.long p2), .second, .val (.long p2), .second, .val (.long p2), .second, .val (.long p2), .second, .unset, .unset] [(.long p2)]))
                refine Go.by (fun _ => XS.lstore X24.here hx rfl (hb hby at_279) rfl (l' := #[.val (.int p0), .val (.int p1), .val (.long p2), .second, .val (.long p3), .second, .val (.int ip), .val (.int lp), .val (.int (0 : Int32)), .val (.ref b2), .val (.int r1), .val (.int f1), .val (.int r2), .val (.int f2), .val (.int r3), .val (.int f3), .val (.int (1 : Int32)), .val (.int (1 : Int32)), .val (.int (0 : Int32)), .val (.long p2), .second, .val (.long p2), .second, .val (.long p2), .second, .val (.long p2), .second, .val (.long p2), .second]) rfl) ?_
                show Go p.tables e below _ (T24.setTop (mkF m 281 #[.val (.int p0), .val (.int p1), .val (.long p2), .second, .val (.long p3), .second, .val (.int ip), .val (.int lp), .val (.int (0 : Int32)), .val (.ref b2), .val (.int r1), .val (.int f1), .val (.int r2), .val (.int f2), .val (.int r3), .val (.int f3), .val (.int (1 : Int32)), .val (.int (1 : Int32)), .val (.int (0 : Int32)), .val (.long p2), .second, .val (.long p2), .second, .val (.long p2), .second, .val (.long p2), .second, .val (.long p2), .second] []))
                refine Go.by (fun _ => XS.lload X24.here hx rfl (hb hby at_281) rfl) ?_
                refine Go.by (fun _ => XS.lloadN X24.here hx rfl (hb hby at_283) rfl) ?_
                refine Go.by (fun _ => XS.lcmp X24.here hx rfl (hb hby at_284) rfl) ?_
                show Go p.tables e below _ (T24.setTop (mkF m 285 #[.val (.int p0), .val (.int p1), .val (.long p2), .second, .val (.long p3), .second, .val (.int ip), .val (.int lp), .val (.int (0 : Int32)), .val (.ref b2), .val (.int r1), .val (.int f1), .val (.int r2), .val (.int f2), .val (.int r3), .val (.int f3), .val (.int (1 : Int32)), .val (.int (1 : Int32)), .val (.int (0 : Int32)), .val (.long p2), .second, .val (.long p2), .second, .val (.long p2), .second, .val (.long p2), .second, .val (.long p2), .second] [(.int (lcmpW p2 p2))]))
                refine Go.by (fun _ => XS.ifNo X24.here hx rfl (hb hby at_285) rfl ((if0 _ _).trans (teq ((lw_eq _ _).mpr rfl)).2)) ?_
                show Go p.tables e below _ (T24.setTop (mkF m 288 #[.val (.int p0), .val (.int p1), .val (.long p2), .second, .val (.long p3), .second, .val (.int ip), .val (.int lp), .val (.int (0 : Int32)), .val (.ref b2), .val (.int r1), .val (.int f1), .val (.int r2), .val (.int f2), .val (.int r3), .val (.int f3), .val (.int (1 : Int32)), .val (.int (1 : Int32)), .val (.int (0 : Int32)), .val (.long p2), .second, .val (.long p2), .second, .val (.long p2), .second, .val (.long p2), .second, .val (.long p2), .second] []))
                refine Go.by (fun _ => XS.lload X24.here hx rfl (hb hby at_288) rfl) ?_
                show Go p.tables e below _ (T24.setTop (mkF m 290 #[.val (.int p0), .val (.int p1), .val (.long p2), .second, .val (.long p3), .second, .val (.int ip), .val (.int lp), .val (.int (0 : Int32)), .val (.ref b2), .val (.int r1), .val (.int f1), .val (.int r2), .val (.int f2), .val (.int r3), .val (.int f3), .val (.int (1 : Int32)), .val (.int (1 : Int32)), .val (.int (0 : Int32)), .val (.long p2), .second, .val (.long p2), .second, .val (.long p2), .second, .val (.long p2), .second, .val (.long p2), .second] [(.long p2)]))
                refine Go.by (fun _ => XS.lload X24.here hx rfl (hb hby at_290) rfl) ?_
                refine Go.by (fun _ => XS.lcmp X24.here hx rfl (hb hby at_292) rfl) ?_
                show Go p.tables e below _ (T24.setTop (mkF m 293 #[.val (.int p0), .val (.int p1), .val (.long p2), .second, .val (.long p3), .second, .val (.int ip), .val (.int lp), .val (.int (0 : Int32)), .val (.ref b2), .val (.int r1), .val (.int f1), .val (.int r2), .val (.int f2), .val (.int r3), .val (.int f3), .val (.int (1 : Int32)), .val (.int (1 : Int32)), .val (.int (0 : Int32)), .val (.long p2), .second, .val (.long p2), .second, .val (.long p2), .second, .val (.long p2), .second, .val (.long p2), .second] [(.int (lcmpW p2 p2))]))
                refine Go.by (fun _ => XS.ifNo X24.here hx rfl (hb hby at_293) rfl ((if0 _ _).trans (teq ((lw_eq _ _).mpr rfl)).2)) ?_
                show Go p.tables e below _ (T24.setTop (mkF m 296 #[.val (.int p0), .val (.int p1), .val (.long p2), .second, .val (.long p3), .second, .val (.int ip), .val (.int lp), .val (.int (0 : Int32)), .val (.ref b2), .val (.int r1), .val (.int f1), .val (.int r2), .val (.int f2), .val (.int r3), .val (.int f3), .val (.int (1 : Int32)), .val (.int (1 : Int32)), .val (.int (0 : Int32)), .val (.long p2), .second, .val (.long p2), .second, .val (.long p2), .second, .val (.long p2), .second, .val (.long p2), .second] []))
                refine Go.by (fun _ => XS.lload X24.here hx rfl (hb hby at_296) rfl) ?_
                refine Go.by (fun _ => XS.lload X24.here hx rfl (hb hby at_298) rfl) ?_
                refine Go.by (fun _ => XS.lcmp X24.here hx rfl (hb hby at_300) rfl) ?_
                show Go p.tables e below _ (T24.setTop (mkF m 301 #[.val (.int p0), .val (.int p1), .val (.long p2), .second, .val (.long p3), .second, .val (.int ip), .val (.int lp), .val (.int (0 : Int32)), .val (.ref b2), .val (.int r1), .val (.int f1), .val (.int r2), .val (.int f2), .val (.int r3), .val (.int f3), .val (.int (1 : Int32)), .val (.int (1 : Int32)), .val (.int (0 : Int32)), .val (.long p2), .second, .val (.long p2), .second, .val (.long p2), .second, .val (.long p2), .second, .val (.long p2), .second] [(.int (lcmpW p2 p2))]))
                refine Go.by (fun _ => XS.ifNo X24.here hx rfl (hb hby at_301) rfl ((if0 _ _).trans (teq ((lw_eq _ _).mpr rfl)).2)) ?_
                show Go p.tables e below _ (T24.setTop (mkF m 304 #[.val (.int p0), .val (.int p1), .val (.long p2), .second, .val (.long p3), .second, .val (.int ip), .val (.int lp), .val (.int (0 : Int32)), .val (.ref b2), .val (.int r1), .val (.int f1), .val (.int r2), .val (.int f2), .val (.int r3), .val (.int f3), .val (.int (1 : Int32)), .val (.int (1 : Int32)), .val (.int (0 : Int32)), .val (.long p2), .second, .val (.long p2), .second, .val (.long p2), .second, .val (.long p2), .second, .val (.long p2), .second] []))
                refine Go.by (fun _ => XS.iconst X24.here hx rfl (hb hby at_304)) ?_
                show Go p.tables e below _ (T24.setTop (mkF m 305 #[.val (.int p0), .val (.int p1), .val (.long p2), .second, .val (.long p3), .second, .val (.int ip), .val (.int lp), .val (.int (0 : Int32)), .val (.ref b2), .val (.int r1), .val (.int f1), .val (.int r2), .val (.int f2), .val (.int r3), .val (.int f3), .val (.int (1 : Int32)), .val (.int (1 : Int32)), .val (.int (0 : Int32)), .val (.long p2), .second, .val (.long p2), .second, .val (.long p2), .second, .val (.long p2), .second, .val (.long p2), .second] [(.int (1 : Int32))]))
                refine Go.by (fun _ => XS.goto X24.here hx rfl (pc0 := 305) (pc' := 309) rfl (hb hby at_305) (by decide) (by decide)) ?_
                show Go p.tables e below _ (T24.setTop (mkF m 309 #[.val (.int p0), .val (.int p1), .val (.long p2), .second, .val (.long p3), .second, .val (.int ip), .val (.int lp), .val (.int (0 : Int32)), .val (.ref b2), .val (.int r1), .val (.int f1), .val (.int r2), .val (.int f2), .val (.int r3), .val (.int f3), .val (.int (1 : Int32)), .val (.int (1 : Int32)), .val (.int (0 : Int32)), .val (.long p2), .second, .val (.long p2), .second, .val (.long p2), .second, .val (.long p2), .second, .val (.long p2), .second] [(.int (1 : Int32))]))
                exact Go.retN X24 hx hlk (z' := (1 : Int32)) hret (by simp) (hb hby at_309) rfl (by decide) (by decide) rfl
            refine Go.by (fun _ => XS.iload Xj17.here hx rfl (hb hby at_192) rfl) ?_
            refine Go.by (fun _ => XS.iload Xj17.here hx rfl (hb hby at_194) rfl) ?_
            by_cases hc196_25 : r2 = r3
            · skip
              refine Go.by (fun _ => XS.icmpNo Xj17.here hx rfl (hb hby at_196) rfl (teq hc196_25).2) ?_
              show Go p.tables e below _ (Tj17.setTop (mkF m 199 #[.val (.int p0), .val (.int p1), .val (.long p2), .second, .val (.long p3), .second, .val (.int ip), .val (.int lp), .val (.int (0 : Int32)), .val (.ref b2), .val (.int r1), .val (.int f1), .val (.int r2), .val (.int f2), .val (.int r3), .val (.int f3), .val (.int (1 : Int32)), .val (.int (1 : Int32)), .unset, .unset, .unset, .unset, .unset, .unset, .unset, .unset, .unset, .unset, .unset] []))
              refine Go.by (fun _ => XS.iload Xj17.here hx rfl (hb hby at_199) rfl) ?_
              refine Go.by (fun _ => XS.iload Xj17.here hx rfl (hb hby at_201) rfl) ?_
              by_cases hc203_26 : f2 = f3
              · skip
                refine Go.by (fun _ => XS.icmpNo Xj17.here hx rfl (hb hby at_203) rfl (teq hc203_26).2) ?_
                show Go p.tables e below _ (Tj17.setTop (mkF m 206 #[.val (.int p0), .val (.int p1), .val (.long p2), .second, .val (.long p3), .second, .val (.int ip), .val (.int lp), .val (.int (0 : Int32)), .val (.ref b2), .val (.int r1), .val (.int f1), .val (.int r2), .val (.int f2), .val (.int r3), .val (.int f3), .val (.int (1 : Int32)), .val (.int (1 : Int32)), .unset, .unset, .unset, .unset, .unset, .unset, .unset, .unset, .unset, .unset, .unset] []))
                refine Go.by (fun _ => XS.iconst Xj17.here hx rfl (hb hby at_206)) ?_
                refine Go.by (fun _ => XS.goto Xj17.here hx rfl (pc0 := 207) (pc' := 211) rfl (hb hby at_207) (by decide) (by decide)) ?_
                show Go p.tables e below _ (Tj17.setTop (mkF m 211 #[.val (.int p0), .val (.int p1), .val (.long p2), .second, .val (.long p3), .second, .val (.int ip), .val (.int lp), .val (.int (0 : Int32)), .val (.ref b2), .val (.int r1), .val (.int f1), .val (.int r2), .val (.int f2), .val (.int r3), .val (.int f3), .val (.int (1 : Int32)), .val (.int (1 : Int32)), .unset, .unset, .unset, .unset, .unset, .unset, .unset, .unset, .unset, .unset, .unset] [(.int (1 : Int32))]))
                exact J18 _ Xj17 _ (Or.inl ⟨rfl, hc196_25, hc203_26⟩)
              · skip
                refine Go.by (fun _ => XS.icmpYes Xj17.here hx rfl (pc0 := 203) (pc' := 210) rfl (hb hby at_203) rfl (feq hc203_26).2 (by decide) (by decide)) ?_
                show Go p.tables e below _ (Tj17.setTop (mkF m 210 #[.val (.int p0), .val (.int p1), .val (.long p2), .second, .val (.long p3), .second, .val (.int ip), .val (.int lp), .val (.int (0 : Int32)), .val (.ref b2), .val (.int r1), .val (.int f1), .val (.int r2), .val (.int f2), .val (.int r3), .val (.int f3), .val (.int (1 : Int32)), .val (.int (1 : Int32)), .unset, .unset, .unset, .unset, .unset, .unset, .unset, .unset, .unset, .unset, .unset] []))
                refine Go.by (fun _ => XS.iconst Xj17.here hx rfl (hb hby at_210)) ?_
                show Go p.tables e below _ (Tj17.setTop (mkF m 211 #[.val (.int p0), .val (.int p1), .val (.long p2), .second, .val (.long p3), .second, .val (.int ip), .val (.int lp), .val (.int (0 : Int32)), .val (.ref b2), .val (.int r1), .val (.int f1), .val (.int r2), .val (.int f2), .val (.int r3), .val (.int f3), .val (.int (1 : Int32)), .val (.int (1 : Int32)), .unset, .unset, .unset, .unset, .unset, .unset, .unset, .unset, .unset, .unset, .unset] [(.int (0 : Int32))]))
                exact J18 _ Xj17 _ (Or.inr ⟨rfl, fun q => hc203_26 q.2⟩)
            · skip
              refine Go.by (fun _ => XS.icmpYes Xj17.here hx rfl (pc0 := 196) (pc' := 210) rfl (hb hby at_196) rfl (feq hc196_25).2 (by decide) (by decide)) ?_
              show Go p.tables e below _ (Tj17.setTop (mkF m 210 #[.val (.int p0), .val (.int p1), .val (.long p2), .second, .val (.long p3), .second, .val (.int ip), .val (.int lp), .val (.int (0 : Int32)), .val (.ref b2), .val (.int r1), .val (.int f1), .val (.int r2), .val (.int f2), .val (.int r3), .val (.int f3), .val (.int (1 : Int32)), .val (.int (1 : Int32)), .unset, .unset, .unset, .unset, .unset, .unset, .unset, .unset, .unset, .unset, .unset] []))
              refine Go.by (fun _ => XS.iconst Xj17.here hx rfl (hb hby at_210)) ?_
              show Go p.tables e below _ (Tj17.setTop (mkF m 211 #[.val (.int p0), .val (.int p1), .val (.long p2), .second, .val (.long p3), .second, .val (.int ip), .val (.int lp), .val (.int (0 : Int32)), .val (.ref b2), .val (.int r1), .val (.int f1), .val (.int r2), .val (.int f2), .val (.int r3), .val (.int f3), .val (.int (1 : Int32)), .val (.int (1 : Int32)), .unset, .unset, .unset, .unset, .unset, .unset, .unset, .unset, .unset, .unset, .unset] [(.int (0 : Int32))]))
              exact J18 _ Xj17 _ (Or.inr ⟨rfl, fun q => hc196_25 q.1⟩)
          · skip
            show Go p.tables e below _ (Tj17.setTop (mkF m 190 #[.val (.int p0), .val (.int p1), .val (.long p2), .second, .val (.long p3), .second, .val (.int ip), .val (.int lp), .val (.int (0 : Int32)), .val (.ref b2), .val (.int r1), .val (.int f1), .val (.int r2), .val (.int f2), .val (.int r3), .val (.int f3), .val (.int (1 : Int32)), .unset, .unset, .unset, .unset, .unset, .unset, .unset, .unset, .unset, .unset, .unset, .unset] [(.int (0 : Int32))]))
            refine Go.by (fun _ => XS.istore Xj17.here hx rfl (hb hby at_190) rfl (l' := #[.val (.int p0), .val (.int p1), .val (.long p2), .second, .val (.long p3), .second, .val (.int ip), .val (.int lp), .val (.int (0 : Int32)), .val (.ref b2), .val (.int r1), .val (.int f1), .val (.int r2), .val (.int f2), .val (.int r3), .val (.int f3), .val (.int (1 : Int32)), .val (.int (0 : Int32)), .unset, .unset, .unset, .unset, .unset, .unset, .unset, .unset, .unset, .unset, .unset]) rfl) ?_
            show Go p.tables e below _ (Tj17.setTop (mkF m 192 #[.val (.int p0), .val (.int p1), .val (.long p2), .second, .val (.long p3), .second, .val (.int ip), .val (.int lp), .val (.int (0 : Int32)), .val (.ref b2), .val (.int r1), .val (.int f1), .val (.int r2), .val (.int f2), .val (.int r3), .val (.int f3), .val (.int (1 : Int32)), .val (.int (0 : Int32)), .unset, .unset, .unset, .unset, .unset, .unset, .unset, .unset, .unset, .unset, .unset] []))
            have J27 : ∀ (Tj27 : State), Sd n0 p l e room_1 s m #[(.int p0), (.int p1), (.long p2), (.long p3)] below meth c Tj27 h14 7 440 → ∀ (jb : Int32), ((jb = 1 ∧ r2 = r3 ∧ f2 = f3) ∨ (jb = 0 ∧ ¬ (r2 = r3 ∧ f2 = f3))) → Go p.tables e below (Ret s n0 (fun v h => v = some (.int 1)) room_1.cells room_1.slots) (Tj27.setTop (mkF m 211 #[.val (.int p0), .val (.int p1), .val (.long p2), .second, .val (.long p3), .second, .val (.int ip), .val (.int lp), .val (.int (0 : Int32)), .val (.ref b2), .val (.int r1), .val (.int f1), .val (.int r2), .val (.int f2), .val (.int r3), .val (.int f3), .val (.int (1 : Int32)), .val (.int (0 : Int32)), .unset, .unset, .unset, .unset, .unset, .unset, .unset, .unset, .unset, .unset, .unset] [(.int jb)])) := by
              intro Tj27 Xj27 jb hj27
              rcases hj27 with ⟨rfl, hP18⟩ | ⟨rfl, hP18⟩
              · skip
                show Go p.tables e below _ (Tj27.setTop (mkF m 211 #[.val (.int p0), .val (.int p1), .val (.long p2), .second, .val (.long p3), .second, .val (.int ip), .val (.int lp), .val (.int (0 : Int32)), .val (.ref b2), .val (.int r1), .val (.int f1), .val (.int r2), .val (.int f2), .val (.int r3), .val (.int f3), .val (.int (1 : Int32)), .val (.int (0 : Int32)), .unset, .unset, .unset, .unset, .unset, .unset, .unset, .unset, .unset, .unset, .unset] [(.int (1 : Int32))]))
                refine Go.by (fun _ => XS.istore Xj27.here hx rfl (hb hby at_211) rfl (l' := #[.val (.int p0), .val (.int p1), .val (.long p2), .second, .val (.long p3), .second, .val (.int ip), .val (.int lp), .val (.int (0 : Int32)), .val (.ref b2), .val (.int r1), .val (.int f1), .val (.int r2), .val (.int f2), .val (.int r3), .val (.int f3), .val (.int (1 : Int32)), .val (.int (0 : Int32)), .val (.int (1 : Int32)), .unset, .unset, .unset, .unset, .unset, .unset, .unset, .unset, .unset, .unset]) rfl) ?_
                show Go p.tables e below _ (Tj27.setTop (mkF m 213 #[.val (.int p0), .val (.int p1), .val (.long p2), .second, .val (.long p3), .second, .val (.int ip), .val (.int lp), .val (.int (0 : Int32)), .val (.ref b2), .val (.int r1), .val (.int f1), .val (.int r2), .val (.int f2), .val (.int r3), .val (.int f3), .val (.int (1 : Int32)), .val (.int (0 : Int32)), .val (.int (1 : Int32)), .unset, .unset, .unset, .unset, .unset, .unset, .unset, .unset, .unset, .unset] []))
                refine Go.by (fun _ => XS.iload Xj27.here hx rfl (hb hby at_213) rfl) ?_
                refine Go.by (fun _ => XS.ifNo Xj27.here hx rfl (hb hby at_215) rfl ((if0 _ _).trans (feq (by decide)).1)) ?_
                show Go p.tables e below _ (Tj27.setTop (mkF m 218 #[.val (.int p0), .val (.int p1), .val (.long p2), .second, .val (.long p3), .second, .val (.int ip), .val (.int lp), .val (.int (0 : Int32)), .val (.ref b2), .val (.int r1), .val (.int f1), .val (.int r2), .val (.int f2), .val (.int r3), .val (.int f3), .val (.int (1 : Int32)), .val (.int (0 : Int32)), .val (.int (1 : Int32)), .unset, .unset, .unset, .unset, .unset, .unset, .unset, .unset, .unset, .unset] []))
                refine Go.by (fun _ => XS.lloadN Xj27.here hx rfl (hb hby at_218) rfl) ?_
                refine Go.by (fun _ => XS.goto Xj27.here hx rfl (pc0 := 219) (pc' := 224) rfl (hb hby at_219) (by decide) (by decide)) ?_
                show Go p.tables e below _ (Tj27.setTop (mkF m 224 #[.val (.int p0), .val (.int p1), .val (.long p2), .second, .val (.long p3), .second, .val (.int ip), .val (.int lp), .val (.int (0 : Int32)), .val (.ref b2), .val (.int r1), .val (.int f1), .val (.int r2), .val (.int f2), .val (.int r3), .val (.int f3), .val (.int (1 : Int32)), .val (.int (0 : Int32)), .val (.int (1 : Int32)), .unset, .unset, .unset, .unset, .unset, .unset, .unset, .unset, .unset, .unset] [(.long p2)]))
                refine Go.by (fun _ => XS.lstore Xj27.here hx rfl (hb hby at_224) rfl (l' := #[.val (.int p0), .val (.int p1), .val (.long p2), .second, .val (.long p3), .second, .val (.int ip), .val (.int lp), .val (.int (0 : Int32)), .val (.ref b2), .val (.int r1), .val (.int f1), .val (.int r2), .val (.int f2), .val (.int r3), .val (.int f3), .val (.int (1 : Int32)), .val (.int (0 : Int32)), .val (.int (1 : Int32)), .val (.long p2), .second, .unset, .unset, .unset, .unset, .unset, .unset, .unset, .unset]) rfl) ?_
                show Go p.tables e below _ (Tj27.setTop (mkF m 226 #[.val (.int p0), .val (.int p1), .val (.long p2), .second, .val (.long p3), .second, .val (.int ip), .val (.int lp), .val (.int (0 : Int32)), .val (.ref b2), .val (.int r1), .val (.int f1), .val (.int r2), .val (.int f2), .val (.int r3), .val (.int f3), .val (.int (1 : Int32)), .val (.int (0 : Int32)), .val (.int (1 : Int32)), .val (.long p2), .second, .unset, .unset, .unset, .unset, .unset, .unset, .unset, .unset] []))
                refine Go.by (fun _ => XS.iload Xj27.here hx rfl (hb hby at_226) rfl) ?_
                refine Go.by (fun _ => XS.ifYes Xj27.here hx rfl (pc0 := 228) (pc' := 235) rfl (hb hby at_228) rfl ((if0 _ _).trans (teq (by decide)).1) (by decide) (by decide)) ?_
                show Go p.tables e below _ (Tj27.setTop (mkF m 235 #[.val (.int p0), .val (.int p1), .val (.long p2), .second, .val (.long p3), .second, .val (.int ip), .val (.int lp), .val (.int (0 : Int32)), .val (.ref b2), .val (.int r1), .val (.int f1), .val (.int r2), .val (.int f2), .val (.int r3), .val (.int f3), .val (.int (1 : Int32)), .val (.int (0 : Int32)), .val (.int (1 : Int32)), .val (.long p2), .second, .unset, .unset, .unset, .unset, .unset, .unset, .unset, .unset] []))
                refine Go.by (fun _ => XS.iload Xj27.here hx rfl (hb hby at_235) rfl) ?_
                refine Go.by (fun _ => XS.ifNo Xj27.here hx rfl (hb hby at_237) rfl ((if0 _ _).trans (feq (by decide)).1)) ?_
                show Go p.tables e below _ (Tj27.setTop (mkF m 240 #[.val (.int p0), .val (.int p1), .val (.long p2), .second, .val (.long p3), .second, .val (.int ip), .val (.int lp), .val (.int (0 : Int32)), .val (.ref b2), .val (.int r1), .val (.int f1), .val (.int r2), .val (.int f2), .val (.int r3), .val (.int f3), .val (.int (1 : Int32)), .val (.int (0 : Int32)), .val (.int (1 : Int32)), .val (.long p2), .second, .unset, .unset, .unset, .unset, .unset, .unset, .unset, .unset] []))
                refine Go.by (fun _ => XS.lload Xj27.here hx rfl (hb hby at_240) rfl) ?_
                refine Go.by (fun _ => XS.goto Xj27.here hx rfl (pc0 := 242) (pc' := 246) rfl (hb hby at_242) (by decide) (by decide)) ?_
                show Go p.tables e below _ (Tj27.setTop (mkF m 246 #[.val (.int p0), .val (.int p1), .val (.long p2), .second, .val (.long p3), .second, .val (.int ip), .val (.int lp), .val (.int (0 : Int32)), .val (.ref b2), .val (.int r1), .val (.int f1), .val (.int r2), .val (.int f2), .val (.int r3), .val (.int f3), .val (.int (1 : Int32)), .val (.int (0 : Int32)), .val (.int (1 : Int32)), .val (.long p2), .second, .unset, .unset, .unset, .unset, .unset, .unset, .unset, .unset] [(.long p3)]))
                refine Go.by (fun _ => XS.lstore Xj27.here hx rfl (hb hby at_246) rfl (l' := #[.val (.int p0), .val (.int p1), .val (.long p2), .second, .val (.long p3), .second, .val (.int ip), .val (.int lp), .val (.int (0 : Int32)), .val (.ref b2), .val (.int r1), .val (.int f1), .val (.int r2), .val (.int f2), .val (.int r3), .val (.int f3), .val (.int (1 : Int32)), .val (.int (0 : Int32)), .val (.int (1 : Int32)), .val (.long p2), .second, .val (.long p3), .second, .unset, .unset, .unset, .unset, .unset, .unset]) rfl) ?_
                show Go p.tables e below _ (Tj27.setTop (mkF m 248 #[.val (.int p0), .val (.int p1), .val (.long p2), .second, .val (.long p3), .second, .val (.int ip), .val (.int lp), .val (.int (0 : Int32)), .val (.ref b2), .val (.int r1), .val (.int f1), .val (.int r2), .val (.int f2), .val (.int r3), .val (.int f3), .val (.int (1 : Int32)), .val (.int (0 : Int32)), .val (.int (1 : Int32)), .val (.long p2), .second, .val (.long p3), .second, .unset, .unset, .unset, .unset, .unset, .unset] []))
                refine Go.by (fun _ => XS.aload Xj27.here hx rfl (hb hby at_248) rfl rfl) ?_
                refine Go.by (fun _ => XS.iload Xj27.here hx rfl (hb hby at_250) rfl) ?_
                show Go p.tables e below _ (Tj27.setTop (mkF m 252 #[.val (.int p0), .val (.int p1), .val (.long p2), .second, .val (.long p3), .second, .val (.int ip), .val (.int lp), .val (.int (0 : Int32)), .val (.ref b2), .val (.int r1), .val (.int f1), .val (.int r2), .val (.int f2), .val (.int r3), .val (.int f3), .val (.int (1 : Int32)), .val (.int (0 : Int32)), .val (.int (1 : Int32)), .val (.long p2), .second, .val (.long p3), .second, .unset, .unset, .unset, .unset, .unset, .unset] [(.int r1), (.ref b2)]))
                refine Go.by (fun _ => XS.iload Xj27.here hx rfl (hb hby at_252) rfl) ?_
                obtain ⟨v28, T28, h28, X28, q28, st28⟩ := Xj27.callV hx hZ (y := (⟨"com/example/spotline/spotline/engine/Table", "getLong", "(II)J"⟩ : MethodName)) (z := (⟨"com/example/spotline/spotline/engine/Table", "getLong", "(II)J"⟩ : MethodName)) hown (tw hw 65 rfl) (tw hw 66 rfl) (notFace_of_selects (args := #[]) (mvT hZ (tw hw 68 rfl))) (tw hw 68 rfl) (tw hw 67 rfl) (tw hw 3 rfl) (tw hw 69 rfl) (by decide) (rm9 l Z a0 hw [] b2 r1 f1 oL4 dL6 kL4 kdL6 ip (((64 : Int32) * ip).toNatClampNeg) (fun i => if i = 0 then (.ref dL6) else .null) (fun t => if t = ((((r1 &&& (65535 : Int32)) * ip) + f1).toNatClampNeg) then (.long p2) else (fun t => if t = ((((r2 &&& (65535 : Int32)) * ip) + f2).toNatClampNeg) then (.long p3) else (fun _ => (.long 0)) t) t) p2 h14 n0 Zs15 f15_260 f15_263 f15_255 rfl V14 hc_r1_f1.1 hc_r1_f1.2.1 hc_r1_f1.2.2 (if_pos rfl)) f15_254 (g := (mkF m 254 #[.val (.int p0), .val (.int p1), .val (.long p2), .second, .val (.long p3), .second, .val (.int ip), .val (.int lp), .val (.int (0 : Int32)), .val (.ref b2), .val (.int r1), .val (.int f1), .val (.int r2), .val (.int f2), .val (.int r3), .val (.int f3), .val (.int (1 : Int32)), .val (.int (0 : Int32)), .val (.int (1 : Int32)), .val (.long p2), .second, .val (.long p3), .second, .unset, .unset, .unset, .unset, .unset, .unset] [(.int f1), (.int r1), (.ref b2)])) rfl (by rw [hml]; rfl) (argsL := [(.int r1), (.int f1)]) (rest := []) (lenOf pd6 rfl) rfl (hb hby at_254) rfl (by decide) (Nat.le_of_ble_eq_true rfl) (k' := 7) (n' := 440) rfl rfl (by decide) (by decide)
                refine Go.by st28 ?_
                obtain ⟨rfl, rfl⟩ := q28
                show Go p.tables e below _ (T28.setTop (mkF m 257 #[.val (.int p0), .val (.int p1), .val (.long p2), .second, .val (.long p3), .second, .val (.int ip), .val (.int lp), .val (.int (0 : Int32)), .val (.ref b2), .val (.int r1), .val (.int f1), .val (.int r2), .val (.int f2), .val (.int r3), .val (.int f3), .val (.int (1 : Int32)), .val (.int (0 : Int32)), .val (.int (1 : Int32)), .val (.long p2), .second, .val (.long p3), .second, .unset, .unset, .unset, .unset, .unset, .unset] [(.long p2)]))
                refine Go.by (fun _ => XS.lstore X28.here hx rfl (hb hby at_257) rfl (l' := #[.val (.int p0), .val (.int p1), .val (.long p2), .second, .val (.long p3), .second, .val (.int ip), .val (.int lp), .val (.int (0 : Int32)), .val (.ref b2), .val (.int r1), .val (.int f1), .val (.int r2), .val (.int f2), .val (.int r3), .val (.int f3), .val (.int (1 : Int32)), .val (.int (0 : Int32)), .val (.int (1 : Int32)), .val (.long p2), .second, .val (.long p3), .second, .val (.long p2), .second, .unset, .unset, .unset, .unset]) rfl) ?_
                show Go p.tables e below _ (T28.setTop (mkF m 259 #[.val (.int p0), .val (.int p1), .val (.long p2), .second, .val (.long p3), .second, .val (.int ip), .val (.int lp), .val (.int (0 : Int32)), .val (.ref b2), .val (.int r1), .val (.int f1), .val (.int r2), .val (.int f2), .val (.int r3), .val (.int f3), .val (.int (1 : Int32)), .val (.int (0 : Int32)), .val (.int (1 : Int32)), .val (.long p2), .second, .val (.long p3), .second, .val (.long p2), .second, .unset, .unset, .unset, .unset] []))
                refine Go.by (fun _ => XS.aload X28.here hx rfl (hb hby at_259) rfl rfl) ?_
                refine Go.by (fun _ => XS.iload X28.here hx rfl (hb hby at_261) rfl) ?_
                refine Go.by (fun _ => XS.iload X28.here hx rfl (hb hby at_263) rfl) ?_
                obtain ⟨v29, T29, h29, X29, q29, st29⟩ := X28.callV hx hZ (y := (⟨"com/example/spotline/spotline/engine/Table", "getLong", "(II)J"⟩ : MethodName)) (z := (⟨"com/example/spotline/spotline/engine/Table", "getLong", "(II)J"⟩ : MethodName)) hown (tw hw 65 rfl) (tw hw 66 rfl) (notFace_of_selects (args := #[]) (mvT hZ (tw hw 68 rfl))) (tw hw 68 rfl) (tw hw 67 rfl) (tw hw 3 rfl) (tw hw 69 rfl) (by decide) (rm9 l Z a0 hw [] b2 r2 f2 oL4 dL6 kL4 kdL6 ip (((64 : Int32) * ip).toNatClampNeg) (fun i => if i = 0 then (.ref dL6) else .null) (fun t => if t = ((((r1 &&& (65535 : Int32)) * ip) + f1).toNatClampNeg) then (.long p2) else (fun t => if t = ((((r2 &&& (65535 : Int32)) * ip) + f2).toNatClampNeg) then (.long p3) else (fun _ => (.long 0)) t) t) p2 h14 n0 Zs15 f15_260 f15_263 f15_255 rfl V14 hc_r2_f2.1 hc_r2_f2.2.1 hc_r2_f2.2.2 (if_pos (by rw [hP16.1, hP16.2]))) f15_254 (g := (mkF m 265 #[.val (.int p0), .val (.int p1), .val (.long p2), .second, .val (.long p3), .second, .val (.int ip), .val (.int lp), .val (.int (0 : Int32)), .val (.ref b2), .val (.int r1), .val (.int f1), .val (.int r2), .val (.int f2), .val (.int r3), .val (.int f3), .val (.int (1 : Int32)), .val (.int (0 : Int32)), .val (.int (1 : Int32)), .val (.long p2), .second, .val (.long p3), .second, .val (.long p2), .second, .unset, .unset, .unset, .unset] [(.int f2), (.int r2), (.ref b2)])) rfl (by rw [hml]; rfl) (argsL := [(.int r2), (.int f2)]) (rest := []) (lenOf pd6 rfl) rfl (hb hby at_265) rfl (by decide) (Nat.le_of_ble_eq_true rfl) (k' := 7) (n' := 440) rfl rfl (by decide) (by decide)
                refine Go.by st29 ?_
                obtain ⟨rfl, rfl⟩ := q29
                show Go p.tables e below _ (T29.setTop (mkF m 268 #[.val (.int p0), .val (.int p1), .val (.long p2), .second, .val (.long p3), .second, .val (.int ip), .val (.int lp), .val (.int (0 : Int32)), .val (.ref b2), .val (.int r1), .val (.int f1), .val (.int r2), .val (.int f2), .val (.int r3), .val (.int f3), .val (.int (1 : Int32)), .val (.int (0 : Int32)), .val (.int (1 : Int32)), .val (.long p2), .second, .val (.long p3), .second, .val (.long p2), .second, .unset, .unset, .unset, .unset] [(.long p2)]))
                refine Go.by (fun _ => XS.lstore X29.here hx rfl (hb hby at_268) rfl (l' := #[.val (.int p0), .val (.int p1), .val (.long p2), .second, .val (.long p3), .second, .val (.int ip), .val (.int lp), .val (.int (0 : Int32)), .val (.ref b2), .val (.int r1), .val (.int f1), .val (.int r2), .val (.int f2), .val (.int r3), .val (.int f3), .val (.int (1 : Int32)), .val (.int (0 : Int32)), .val (.int (1 : Int32)), .val (.long p2), .second, .val (.long p3), .second, .val (.long p2), .second, .val (.long p2), .second, .unset, .unset]) rfl) ?_
                show Go p.tables e below _ (T29.setTop (mkF m 270 #[.val (.int p0), .val (.int p1), .val (.long p2), .second, .val (.long p3), .second, .val (.int ip), .val (.int lp), .val (.int (0 : Int32)), .val (.ref b2), .val (.int r1), .val (.int f1), .val (.int r2), .val (.int f2), .val (.int r3), .val (.int f3), .val (.int (1 : Int32)), .val (.int (0 : Int32)), .val (.int (1 : Int32)), .val (.long p2), .second, .val (.long p3), .second, .val (.long p2), .second, .val (.long p2), .second, .unset, .unset] []))
                refine Go.by (fun _ => XS.aload X29.here hx rfl (hb hby at_270) rfl rfl) ?_
                refine Go.by (fun _ => XS.iload X29.here hx rfl (hb hby at_272) rfl) ?_
                refine Go.by (fun _ => XS.iload X29.here hx rfl (hb hby at_274) rfl) ?_
                obtain ⟨v30, T30, h30, X30, q30, st30⟩ := X29.callV hx hZ (y := (⟨"com/example/spotline/spotline/engine/Table", "getLong", "(II)J"⟩ : MethodName)) (z := (⟨"com/example/spotline/spotline/engine/Table", "getLong", "(II)J"⟩ : MethodName)) hown (tw hw 65 rfl) (tw hw 66 rfl) (notFace_of_selects (args := #[]) (mvT hZ (tw hw 68 rfl))) (tw hw 68 rfl) (tw hw 67 rfl) (tw hw 3 rfl) (tw hw 69 rfl) (by decide) (rm9 l Z a0 hw [] b2 r3 f3 oL4 dL6 kL4 kdL6 ip (((64 : Int32) * ip).toNatClampNeg) (fun i => if i = 0 then (.ref dL6) else .null) (fun t => if t = ((((r1 &&& (65535 : Int32)) * ip) + f1).toNatClampNeg) then (.long p2) else (fun t => if t = ((((r2 &&& (65535 : Int32)) * ip) + f2).toNatClampNeg) then (.long p3) else (fun _ => (.long 0)) t) t) p3 h14 n0 Zs15 f15_260 f15_263 f15_255 rfl V14 hc_r3_f3.1 hc_r3_f3.2.1 hc_r3_f3.2.2 ((if_neg (fun q => hP17 ⟨(own_same h_r3.1 h_r3.2 hip1 hip2 h_f3.1 h_f3.2 h_r1.1 h_r1.2 h_f1.1 h_f1.2 q).1.symm, (own_same h_r3.1 h_r3.2 hip1 hip2 h_f3.1 h_f3.2 h_r1.1 h_r1.2 h_f1.1 h_f1.2 q).2.symm⟩)).trans (if_pos (by rw [hP18.1, hP18.2])))) f15_254 (g := (mkF m 276 #[.val (.int p0), .val (.int p1), .val (.long p2), .second, .val (.long p3), .second, .val (.int ip), .val (.int lp), .val (.int (0 : Int32)), .val (.ref b2), .val (.int r1), .val (.int f1), .val (.int r2), .val (.int f2), .val (.int r3), .val (.int f3), .val (.int (1 : Int32)), .val (.int (0 : Int32)), .val (.int (1 : Int32)), .val (.long p2), .second, .val (.long p3), .second, .val (.long p2), .second, .val (.long p2), .second, .unset, .unset] [(.int f3), (.int r3), (.ref b2)])) rfl (by rw [hml]; rfl) (argsL := [(.int r3), (.int f3)]) (rest := []) (lenOf pd6 rfl) rfl (hb hby at_276) rfl (by decide) (Nat.le_of_ble_eq_true rfl) (k' := 7) (n' := 440) rfl rfl (by decide) (by decide)
                refine Go.by st30 ?_
                obtain ⟨rfl, rfl⟩ := q30
                show Go p.tables e below _ (T30.setTop (mkF m 279 #[.val (.int p0), .val (.int p1), .val (.long p2), .second, .val (.long p3), .second, .val (.int ip), .val (.int lp), .val (.int (0 : Int32)), .val (.ref b2), .val (.int r1), .val (.int f1), .val (.int r2), .val (.int f2), .val (.int r3), .val (.int f3), .val (.int (1 : Int32)), .val (.int (0 : Int32)), .val (.int (1 : Int32)), .val (.long p2), .second, .val (.long p3), .second, .val (.long p2), .second, .val (.long p2), .second, .unset, .unset] [(.long p3)]))
                refine Go.by (fun _ => XS.lstore X30.here hx rfl (hb hby at_279) rfl (l' := #[.val (.int p0), .val (.int p1), .val (.long p2), .second, .val (.long p3), .second, .val (.int ip), .val (.int lp), .val (.int (0 : Int32)), .val (.ref b2), .val (.int r1), .val (.int f1), .val (.int r2), .val (.int f2), .val (.int r3), .val (.int f3), .val (.int (1 : Int32)), .val (.int (0 : Int32)), .val (.int (1 : Int32)), .val (.long p2), .second, .val (.long p3), .second, .val (.long p2), .second, .val (.long p2), .second, .val (.long p3), .second]) rfl) ?_
                show Go p.tables e below _ (T30.setTop (mkF m 281 #[.val (.int p0), .val (.int p1), .val (.long p2), .second, .val (.long p3), .second, .val (.int ip), .val (.int lp), .val (.int (0 : Int32)), .val (.ref b2), .val (.int r1), .val (.int f1), .val (.int r2), .val (.int f2), .val (.int r3), .val (.int f3), .val (.int (1 : Int32)), .val (.int (0 : Int32)), .val (.int (1 : Int32)), .val (.long p2), .second, .val (.long p3), .second, .val (.long p2), .second, .val (.long p2), .second, .val (.long p3), .second] []))
                refine Go.by (fun _ => XS.lload X30.here hx rfl (hb hby at_281) rfl) ?_
                refine Go.by (fun _ => XS.lloadN X30.here hx rfl (hb hby at_283) rfl) ?_
                show Go p.tables e below _ (T30.setTop (mkF m 284 #[.val (.int p0), .val (.int p1), .val (.long p2), .second, .val (.long p3), .second, .val (.int ip), .val (.int lp), .val (.int (0 : Int32)), .val (.ref b2), .val (.int r1), .val (.int f1), .val (.int r2), .val (.int f2), .val (.int r3), .val (.int f3), .val (.int (1 : Int32)), .val (.int (0 : Int32)), .val (.int (1 : Int32)), .val (.long p2), .second, .val (.long p3), .second, .val (.long p2), .second, .val (.long p2), .second, .val (.long p3), .second] [(.long p2), (.long p2)]))
                refine Go.by (fun _ => XS.lcmp X30.here hx rfl (hb hby at_284) rfl) ?_
                show Go p.tables e below _ (T30.setTop (mkF m 285 #[.val (.int p0), .val (.int p1), .val (.long p2), .second, .val (.long p3), .second, .val (.int ip), .val (.int lp), .val (.int (0 : Int32)), .val (.ref b2), .val (.int r1), .val (.int f1), .val (.int r2), .val (.int f2), .val (.int r3), .val (.int f3), .val (.int (1 : Int32)), .val (.int (0 : Int32)), .val (.int (1 : Int32)), .val (.long p2), .second, .val (.long p3), .second, .val (.long p2), .second, .val (.long p2), .second, .val (.long p3), .second] [(.int (lcmpW p2 p2))]))
                refine Go.by (fun _ => XS.ifNo X30.here hx rfl (hb hby at_285) rfl ((if0 _ _).trans (teq ((lw_eq _ _).mpr rfl)).2)) ?_
                show Go p.tables e below _ (T30.setTop (mkF m 288 #[.val (.int p0), .val (.int p1), .val (.long p2), .second, .val (.long p3), .second, .val (.int ip), .val (.int lp), .val (.int (0 : Int32)), .val (.ref b2), .val (.int r1), .val (.int f1), .val (.int r2), .val (.int f2), .val (.int r3), .val (.int f3), .val (.int (1 : Int32)), .val (.int (0 : Int32)), .val (.int (1 : Int32)), .val (.long p2), .second, .val (.long p3), .second, .val (.long p2), .second, .val (.long p2), .second, .val (.long p3), .second] []))
                refine Go.by (fun _ => XS.lload X30.here hx rfl (hb hby at_288) rfl) ?_
                refine Go.by (fun _ => XS.lload X30.here hx rfl (hb hby at_290) rfl) ?_
                refine Go.by (fun _ => XS.lcmp X30.here hx rfl (hb hby at_292) rfl) ?_
                show Go p.tables e below _ (T30.setTop (mkF m 293 #[.val (.int p0), .val (.int p1), .val (.long p2), .second, .val (.long p3), .second, .val (.int ip), .val (.int lp), .val (.int (0 : Int32)), .val (.ref b2), .val (.int r1), .val (.int f1), .val (.int r2), .val (.int f2), .val (.int r3), .val (.int f3), .val (.int (1 : Int32)), .val (.int (0 : Int32)), .val (.int (1 : Int32)), .val (.long p2), .second, .val (.long p3), .second, .val (.long p2), .second, .val (.long p2), .second, .val (.long p3), .second] [(.int (lcmpW p2 p2))]))
                refine Go.by (fun _ => XS.ifNo X30.here hx rfl (hb hby at_293) rfl ((if0 _ _).trans (teq ((lw_eq _ _).mpr rfl)).2)) ?_
                show Go p.tables e below _ (T30.setTop (mkF m 296 #[.val (.int p0), .val (.int p1), .val (.long p2), .second, .val (.long p3), .second, .val (.int ip), .val (.int lp), .val (.int (0 : Int32)), .val (.ref b2), .val (.int r1), .val (.int f1), .val (.int r2), .val (.int f2), .val (.int r3), .val (.int f3), .val (.int (1 : Int32)), .val (.int (0 : Int32)), .val (.int (1 : Int32)), .val (.long p2), .second, .val (.long p3), .second, .val (.long p2), .second, .val (.long p2), .second, .val (.long p3), .second] []))
                refine Go.by (fun _ => XS.lload X30.here hx rfl (hb hby at_296) rfl) ?_
                refine Go.by (fun _ => XS.lload X30.here hx rfl (hb hby at_298) rfl) ?_
                show Go p.tables e below _ (T30.setTop (mkF m 300 #[.val (.int p0), .val (.int p1), .val (.long p2), .second, .val (.long p3), .second, .val (.int ip), .val (.int lp), .val (.int (0 : Int32)), .val (.ref b2), .val (.int r1), .val (.int f1), .val (.int r2), .val (.int f2), .val (.int r3), .val (.int f3), .val (.int (1 : Int32)), .val (.int (0 : Int32)), .val (.int (1 : Int32)), .val (.long p2), .second, .val (.long p3), .second, .val (.long p2), .second, .val (.long p2), .second, .val (.long p3), .second] [(.long p3), (.long p3)]))
                refine Go.by (fun _ => XS.lcmp X30.here hx rfl (hb hby at_300) rfl) ?_
                show Go p.tables e below _ (T30.setTop (mkF m 301 #[.val (.int p0), .val (.int p1), .val (.long p2), .second, .val (.long p3), .second, .val (.int ip), .val (.int lp), .val (.int (0 : Int32)), .val (.ref b2), .val (.int r1), .val (.int f1), .val (.int r2), .val (.int f2), .val (.int r3), .val (.int f3), .val (.int (1 : Int32)), .val (.int (0 : Int32)), .val (.int (1 : Int32)), .val (.long p2), .second, .val (.long p3), .second, .val (.long p2), .second, .val (.long p2), .second, .val (.long p3), .second] [(.int (lcmpW p3 p3))]))
                refine Go.by (fun _ => XS.ifNo X30.here hx rfl (hb hby at_301) rfl ((if0 _ _).trans (teq ((lw_eq _ _).mpr rfl)).2)) ?_
                show Go p.tables e below _ (T30.setTop (mkF m 304 #[.val (.int p0), .val (.int p1), .val (.long p2), .second, .val (.long p3), .second, .val (.int ip), .val (.int lp), .val (.int (0 : Int32)), .val (.ref b2), .val (.int r1), .val (.int f1), .val (.int r2), .val (.int f2), .val (.int r3), .val (.int f3), .val (.int (1 : Int32)), .val (.int (0 : Int32)), .val (.int (1 : Int32)), .val (.long p2), .second, .val (.long p3), .second, .val (.long p2), .second, .val (.long p2), .second, .val (.long p3), .second] []))
                refine Go.by (fun _ => XS.iconst X30.here hx rfl (hb hby at_304)) ?_
                refine Go.by (fun _ => XS.goto X30.here hx rfl (pc0 := 305) (pc' := 309) rfl (hb hby at_305) (by decide) (by decide)) ?_
                show Go p.tables e below _ (T30.setTop (mkF m 309 #[.val (.int p0), .val (.int p1), .val (.long p2), .second, .val (.long p3), .second, .val (.int ip), .val (.int lp), .val (.int (0 : Int32)), .val (.ref b2), .val (.int r1), .val (.int f1), .val (.int r2), .val (.int f2), .val (.int r3), .val (.int f3), .val (.int (1 : Int32)), .val (.int (0 : Int32)), .val (.int (1 : Int32)), .val (.long p2), .second, .val (.long p3), .second, .val (.long p2), .second, .val (.long p2), .second, .val (.long p3), .second] [(.int (1 : Int32))]))
                exact Go.retN X30 hx hlk (z' := (1 : Int32)) hret (by simp) (hb hby at_309) rfl (by decide) (by decide) rfl
              · skip
                show Go p.tables e below _ (Tj27.setTop (mkF m 211 #[.val (.int p0), .val (.int p1), .val (.long p2), .second, .val (.long p3), .second, .val (.int ip), .val (.int lp), .val (.int (0 : Int32)), .val (.ref b2), .val (.int r1), .val (.int f1), .val (.int r2), .val (.int f2), .val (.int r3), .val (.int f3), .val (.int (1 : Int32)), .val (.int (0 : Int32)), .unset, .unset, .unset, .unset, .unset, .unset, .unset, .unset, .unset, .unset, .unset] [(.int (0 : Int32))]))
                refine Go.by (fun _ => XS.istore Xj27.here hx rfl (hb hby at_211) rfl (l' := #[.val (.int p0), .val (.int p1), .val (.long p2), .second, .val (.long p3), .second, .val (.int ip), .val (.int lp), .val (.int (0 : Int32)), .val (.ref b2), .val (.int r1), .val (.int f1), .val (.int r2), .val (.int f2), .val (.int r3), .val (.int f3), .val (.int (1 : Int32)), .val (.int (0 : Int32)), .val (.int (0 : Int32)), .unset, .unset, .unset, .unset, .unset, .unset, .unset, .unset, .unset, .unset]) rfl) ?_
                show Go p.tables e below _ (Tj27.setTop (mkF m 213 #[.val (.int p0), .val (.int p1), .val (.long p2), .second, .val (.long p3), .second, .val (.int ip), .val (.int lp), .val (.int (0 : Int32)), .val (.ref b2), .val (.int r1), .val (.int f1), .val (.int r2), .val (.int f2), .val (.int r3), .val (.int f3), .val (.int (1 : Int32)), .val (.int (0 : Int32)), .val (.int (0 : Int32)), .unset, .unset, .unset, .unset, .unset, .unset, .unset, .unset, .unset, .unset] []))
                refine Go.by (fun _ => XS.iload Xj27.here hx rfl (hb hby at_213) rfl) ?_
                refine Go.by (fun _ => XS.ifNo Xj27.here hx rfl (hb hby at_215) rfl ((if0 _ _).trans (feq (by decide)).1)) ?_
                show Go p.tables e below _ (Tj27.setTop (mkF m 218 #[.val (.int p0), .val (.int p1), .val (.long p2), .second, .val (.long p3), .second, .val (.int ip), .val (.int lp), .val (.int (0 : Int32)), .val (.ref b2), .val (.int r1), .val (.int f1), .val (.int r2), .val (.int f2), .val (.int r3), .val (.int f3), .val (.int (1 : Int32)), .val (.int (0 : Int32)), .val (.int (0 : Int32)), .unset, .unset, .unset, .unset, .unset, .unset, .unset, .unset, .unset, .unset] []))
                refine Go.by (fun _ => XS.lloadN Xj27.here hx rfl (hb hby at_218) rfl) ?_
                refine Go.by (fun _ => XS.goto Xj27.here hx rfl (pc0 := 219) (pc' := 224) rfl (hb hby at_219) (by decide) (by decide)) ?_
                show Go p.tables e below _ (Tj27.setTop (mkF m 224 #[.val (.int p0), .val (.int p1), .val (.long p2), .second, .val (.long p3), .second, .val (.int ip), .val (.int lp), .val (.int (0 : Int32)), .val (.ref b2), .val (.int r1), .val (.int f1), .val (.int r2), .val (.int f2), .val (.int r3), .val (.int f3), .val (.int (1 : Int32)), .val (.int (0 : Int32)), .val (.int (0 : Int32)), .unset, .unset, .unset, .unset, .unset, .unset, .unset, .unset, .unset, .unset] [(.long p2)]))
                refine Go.by (fun _ => XS.lstore Xj27.here hx rfl (hb hby at_224) rfl (l' := #[.val (.int p0), .val (.int p1), .val (.long p2), .second, .val (.long p3), .second, .val (.int ip), .val (.int lp), .val (.int (0 : Int32)), .val (.ref b2), .val (.int r1), .val (.int f1), .val (.int r2), .val (.int f2), .val (.int r3), .val (.int f3), .val (.int (1 : Int32)), .val (.int (0 : Int32)), .val (.int (0 : Int32)), .val (.long p2), .second, .unset, .unset, .unset, .unset, .unset, .unset, .unset, .unset]) rfl) ?_
                show Go p.tables e below _ (Tj27.setTop (mkF m 226 #[.val (.int p0), .val (.int p1), .val (.long p2), .second, .val (.long p3), .second, .val (.int ip), .val (.int lp), .val (.int (0 : Int32)), .val (.ref b2), .val (.int r1), .val (.int f1), .val (.int r2), .val (.int f2), .val (.int r3), .val (.int f3), .val (.int (1 : Int32)), .val (.int (0 : Int32)), .val (.int (0 : Int32)), .val (.long p2), .second, .unset, .unset, .unset, .unset, .unset, .unset, .unset, .unset] []))
                refine Go.by (fun _ => XS.iload Xj27.here hx rfl (hb hby at_226) rfl) ?_
                refine Go.by (fun _ => XS.ifYes Xj27.here hx rfl (pc0 := 228) (pc' := 235) rfl (hb hby at_228) rfl ((if0 _ _).trans (teq (by decide)).1) (by decide) (by decide)) ?_
                show Go p.tables e below _ (Tj27.setTop (mkF m 235 #[.val (.int p0), .val (.int p1), .val (.long p2), .second, .val (.long p3), .second, .val (.int ip), .val (.int lp), .val (.int (0 : Int32)), .val (.ref b2), .val (.int r1), .val (.int f1), .val (.int r2), .val (.int f2), .val (.int r3), .val (.int f3), .val (.int (1 : Int32)), .val (.int (0 : Int32)), .val (.int (0 : Int32)), .val (.long p2), .second, .unset, .unset, .unset, .unset, .unset, .unset, .unset, .unset] []))
                refine Go.by (fun _ => XS.iload Xj27.here hx rfl (hb hby at_235) rfl) ?_
                refine Go.by (fun _ => XS.ifYes Xj27.here hx rfl (pc0 := 237) (pc' := 245) rfl (hb hby at_237) rfl ((if0 _ _).trans (teq (by decide)).1) (by decide) (by decide)) ?_
                show Go p.tables e below _ (Tj27.setTop (mkF m 245 #[.val (.int p0), .val (.int p1), .val (.long p2), .second, .val (.long p3), .second, .val (.int ip), .val (.int lp), .val (.int (0 : Int32)), .val (.ref b2), .val (.int r1), .val (.int f1), .val (.int r2), .val (.int f2), .val (.int r3), .val (.int f3), .val (.int (1 : Int32)), .val (.int (0 : Int32)), .val (.int (0 : Int32)), .val (.long p2), .second, .unset, .unset, .unset, .unset, .unset, .unset, .unset, .unset] []))
                refine Go.by (fun _ => XS.lconst Xj27.here hx rfl (hb hby at_245)) ?_
                refine Go.by (fun _ => XS.lstore Xj27.here hx rfl (hb hby at_246) rfl (l' := #[.val (.int p0), .val (.int p1), .val (.long p2), .second, .val (.long p3), .second, .val (.int ip), .val (.int lp), .val (.int (0 : Int32)), .val (.ref b2), .val (.int r1), .val (.int f1), .val (.int r2), .val (.int f2), .val (.int r3), .val (.int f3), .val (.int (1 : Int32)), .val (.int (0 : Int32)), .val (.int (0 : Int32)), .val (.long p2), .second, .val (.long (0 : Int64)), .second, .unset, .unset, .unset, .unset, .unset, .unset]) rfl) ?_
                show Go p.tables e below _ (Tj27.setTop (mkF m 248 #[.val (.int p0), .val (.int p1), .val (.long p2), .second, .val (.long p3), .second, .val (.int ip), .val (.int lp), .val (.int (0 : Int32)), .val (.ref b2), .val (.int r1), .val (.int f1), .val (.int r2), .val (.int f2), .val (.int r3), .val (.int f3), .val (.int (1 : Int32)), .val (.int (0 : Int32)), .val (.int (0 : Int32)), .val (.long p2), .second, .val (.long (0 : Int64)), .second, .unset, .unset, .unset, .unset, .unset, .unset] []))
                refine Go.by (fun _ => XS.aload Xj27.here hx rfl (hb hby at_248) rfl rfl) ?_
                refine Go.by (fun _ => XS.iload Xj27.here hx rfl (hb hby at_250) rfl) ?_
                show Go p.tables e below _ (Tj27.setTop (mkF m 252 #[.val (.int p0), .val (.int p1), .val (.long p2), .second, .val (.long p3), .second, .val (.int ip), .val (.int lp), .val (.int (0 : Int32)), .val (.ref b2), .val (.int r1), .val (.int f1), .val (.int r2), .val (.int f2), .val (.int r3), .val (.int f3), .val (.int (1 : Int32)), .val (.int (0 : Int32)), .val (.int (0 : Int32)), .val (.long p2), .second, .val (.long (0 : Int64)), .second, .unset, .unset, .unset, .unset, .unset, .unset] [(.int r1), (.ref b2)]))
                refine Go.by (fun _ => XS.iload Xj27.here hx rfl (hb hby at_252) rfl) ?_
                obtain ⟨v31, T31, h31, X31, q31, st31⟩ := Xj27.callV hx hZ (y := (⟨"com/example/spotline/spotline/engine/Table", "getLong", "(II)J"⟩ : MethodName)) (z := (⟨"com/example/spotline/spotline/engine/Table", "getLong", "(II)J"⟩ : MethodName)) hown (tw hw 65 rfl) (tw hw 66 rfl) (notFace_of_selects (args := #[]) (mvT hZ (tw hw 68 rfl))) (tw hw 68 rfl) (tw hw 67 rfl) (tw hw 3 rfl) (tw hw 69 rfl) (by decide) (rm9 l Z a0 hw [] b2 r1 f1 oL4 dL6 kL4 kdL6 ip (((64 : Int32) * ip).toNatClampNeg) (fun i => if i = 0 then (.ref dL6) else .null) (fun t => if t = ((((r1 &&& (65535 : Int32)) * ip) + f1).toNatClampNeg) then (.long p2) else (fun t => if t = ((((r2 &&& (65535 : Int32)) * ip) + f2).toNatClampNeg) then (.long p3) else (fun _ => (.long 0)) t) t) p2 h14 n0 Zs15 f15_260 f15_263 f15_255 rfl V14 hc_r1_f1.1 hc_r1_f1.2.1 hc_r1_f1.2.2 (if_pos rfl)) f15_254 (g := (mkF m 254 #[.val (.int p0), .val (.int p1), .val (.long p2), .second, .val (.long p3), .second, .val (.int ip), .val (.int lp), .val (.int (0 : Int32)), .val (.ref b2), .val (.int r1), .val (.int f1), .val (.int r2), .val (.int f2), .val (.int r3), .val (.int f3), .val (.int (1 : Int32)), .val (.int (0 : Int32)), .val (.int (0 : Int32)), .val (.long p2), .second, .val (.long (0 : Int64)), .second, .unset, .unset, .unset, .unset, .unset, .unset] [(.int f1), (.int r1), (.ref b2)])) rfl (by rw [hml]; rfl) (argsL := [(.int r1), (.int f1)]) (rest := []) (lenOf pd6 rfl) rfl (hb hby at_254) rfl (by decide) (Nat.le_of_ble_eq_true rfl) (k' := 7) (n' := 440) rfl rfl (by decide) (by decide)
                refine Go.by st31 ?_
                obtain ⟨rfl, rfl⟩ := q31
                show Go p.tables e below _ (T31.setTop (mkF m 257 #[.val (.int p0), .val (.int p1), .val (.long p2), .second, .val (.long p3), .second, .val (.int ip), .val (.int lp), .val (.int (0 : Int32)), .val (.ref b2), .val (.int r1), .val (.int f1), .val (.int r2), .val (.int f2), .val (.int r3), .val (.int f3), .val (.int (1 : Int32)), .val (.int (0 : Int32)), .val (.int (0 : Int32)), .val (.long p2), .second, .val (.long (0 : Int64)), .second, .unset, .unset, .unset, .unset, .unset, .unset] [(.long p2)]))
                refine Go.by (fun _ => XS.lstore X31.here hx rfl (hb hby at_257) rfl (l' := #[.val (.int p0), .val (.int p1), .val (.long p2), .second, .val (.long p3), .second, .val (.int ip), .val (.int lp), .val (.int (0 : Int32)), .val (.ref b2), .val (.int r1), .val (.int f1), .val (.int r2), .val (.int f2), .val (.int r3), .val (.int f3), .val (.int (1 : Int32)), .val (.int (0 : Int32)), .val (.int (0 : Int32)), .val (.long p2), .second, .val (.long (0 : Int64)), .second, .val (.long p2), .second, .unset, .unset, .unset, .unset]) rfl) ?_
                show Go p.tables e below _ (T31.setTop (mkF m 259 #[.val (.int p0), .val (.int p1), .val (.long p2), .second, .val (.long p3), .second, .val (.int ip), .val (.int lp), .val (.int (0 : Int32)), .val (.ref b2), .val (.int r1), .val (.int f1), .val (.int r2), .val (.int f2), .val (.int r3), .val (.int f3), .val (.int (1 : Int32)), .val (.int (0 : Int32)), .val (.int (0 : Int32)), .val (.long p2), .second, .val (.long (0 : Int64)), .second, .val (.long p2), .second, .unset, .unset, .unset, .unset] []))
                refine Go.by (fun _ => XS.aload X31.here hx rfl (hb hby at_259) rfl rfl) ?_
                refine Go.by (fun _ => XS.iload X31.here hx rfl (hb hby at_261) rfl) ?_
                refine Go.by (fun _ => XS.iload X31.here hx rfl (hb hby at_263) rfl) ?_
                obtain ⟨v32, T32, h32, X32, q32, st32⟩ := X31.callV hx hZ (y := (⟨"com/example/spotline/spotline/engine/Table", "getLong", "(II)J"⟩ : MethodName)) (z := (⟨"com/example/spotline/spotline/engine/Table", "getLong", "(II)J"⟩ : MethodName)) hown (tw hw 65 rfl) (tw hw 66 rfl) (notFace_of_selects (args := #[]) (mvT hZ (tw hw 68 rfl))) (tw hw 68 rfl) (tw hw 67 rfl) (tw hw 3 rfl) (tw hw 69 rfl) (by decide) (rm9 l Z a0 hw [] b2 r2 f2 oL4 dL6 kL4 kdL6 ip (((64 : Int32) * ip).toNatClampNeg) (fun i => if i = 0 then (.ref dL6) else .null) (fun t => if t = ((((r1 &&& (65535 : Int32)) * ip) + f1).toNatClampNeg) then (.long p2) else (fun t => if t = ((((r2 &&& (65535 : Int32)) * ip) + f2).toNatClampNeg) then (.long p3) else (fun _ => (.long 0)) t) t) p2 h14 n0 Zs15 f15_260 f15_263 f15_255 rfl V14 hc_r2_f2.1 hc_r2_f2.2.1 hc_r2_f2.2.2 (if_pos (by rw [hP16.1, hP16.2]))) f15_254 (g := (mkF m 265 #[.val (.int p0), .val (.int p1), .val (.long p2), .second, .val (.long p3), .second, .val (.int ip), .val (.int lp), .val (.int (0 : Int32)), .val (.ref b2), .val (.int r1), .val (.int f1), .val (.int r2), .val (.int f2), .val (.int r3), .val (.int f3), .val (.int (1 : Int32)), .val (.int (0 : Int32)), .val (.int (0 : Int32)), .val (.long p2), .second, .val (.long (0 : Int64)), .second, .val (.long p2), .second, .unset, .unset, .unset, .unset] [(.int f2), (.int r2), (.ref b2)])) rfl (by rw [hml]; rfl) (argsL := [(.int r2), (.int f2)]) (rest := []) (lenOf pd6 rfl) rfl (hb hby at_265) rfl (by decide) (Nat.le_of_ble_eq_true rfl) (k' := 7) (n' := 440) rfl rfl (by decide) (by decide)
                refine Go.by st32 ?_
                obtain ⟨rfl, rfl⟩ := q32
                show Go p.tables e below _ (T32.setTop (mkF m 268 #[.val (.int p0), .val (.int p1), .val (.long p2), .second, .val (.long p3), .second, .val (.int ip), .val (.int lp), .val (.int (0 : Int32)), .val (.ref b2), .val (.int r1), .val (.int f1), .val (.int r2), .val (.int f2), .val (.int r3), .val (.int f3), .val (.int (1 : Int32)), .val (.int (0 : Int32)), .val (.int (0 : Int32)), .val (.long p2), .second, .val (.long (0 : Int64)), .second, .val (.long p2), .second, .unset, .unset, .unset, .unset] [(.long p2)]))
                refine Go.by (fun _ => XS.lstore X32.here hx rfl (hb hby at_268) rfl (l' := #[.val (.int p0), .val (.int p1), .val (.long p2), .second, .val (.long p3), .second, .val (.int ip), .val (.int lp), .val (.int (0 : Int32)), .val (.ref b2), .val (.int r1), .val (.int f1), .val (.int r2), .val (.int f2), .val (.int r3), .val (.int f3), .val (.int (1 : Int32)), .val (.int (0 : Int32)), .val (.int (0 : Int32)), .val (.long p2), .second, .val (.long (0 : Int64)), .second, .val (.long p2), .second, .val (.long p2), .second, .unset, .unset]) rfl) ?_
                show Go p.tables e below _ (T32.setTop (mkF m 270 #[.val (.int p0), .val (.int p1), .val (.long p2), .second, .val (.long p3), .second, .val (.int ip), .val (.int lp), .val (.int (0 : Int32)), .val (.ref b2), .val (.int r1), .val (.int f1), .val (.int r2), .val (.int f2), .val (.int r3), .val (.int f3), .val (.int (1 : Int32)), .val (.int (0 : Int32)), .val (.int (0 : Int32)), .val (.long p2), .second, .val (.long (0 : Int64)), .second, .val (.long p2), .second, .val (.long p2), .second, .unset, .unset] []))
                refine Go.by (fun _ => XS.aload X32.here hx rfl (hb hby at_270) rfl rfl) ?_
                refine Go.by (fun _ => XS.iload X32.here hx rfl (hb hby at_272) rfl) ?_
                refine Go.by (fun _ => XS.iload X32.here hx rfl (hb hby at_274) rfl) ?_
                obtain ⟨v33, T33, h33, X33, q33, st33⟩ := X32.callV hx hZ (y := (⟨"com/example/spotline/spotline/engine/Table", "getLong", "(II)J"⟩ : MethodName)) (z := (⟨"com/example/spotline/spotline/engine/Table", "getLong", "(II)J"⟩ : MethodName)) hown (tw hw 65 rfl) (tw hw 66 rfl) (notFace_of_selects (args := #[]) (mvT hZ (tw hw 68 rfl))) (tw hw 68 rfl) (tw hw 67 rfl) (tw hw 3 rfl) (tw hw 69 rfl) (by decide) (rm9 l Z a0 hw [] b2 r3 f3 oL4 dL6 kL4 kdL6 ip (((64 : Int32) * ip).toNatClampNeg) (fun i => if i = 0 then (.ref dL6) else .null) (fun t => if t = ((((r1 &&& (65535 : Int32)) * ip) + f1).toNatClampNeg) then (.long p2) else (fun t => if t = ((((r2 &&& (65535 : Int32)) * ip) + f2).toNatClampNeg) then (.long p3) else (fun _ => (.long 0)) t) t) (0 : Int64) h14 n0 Zs15 f15_260 f15_263 f15_255 rfl V14 hc_r3_f3.1 hc_r3_f3.2.1 hc_r3_f3.2.2 ((if_neg (fun q => hP17 ⟨(own_same h_r3.1 h_r3.2 hip1 hip2 h_f3.1 h_f3.2 h_r1.1 h_r1.2 h_f1.1 h_f1.2 q).1.symm, (own_same h_r3.1 h_r3.2 hip1 hip2 h_f3.1 h_f3.2 h_r1.1 h_r1.2 h_f1.1 h_f1.2 q).2.symm⟩)).trans ((if_neg (fun q => hP18 ⟨(own_same h_r3.1 h_r3.2 hip1 hip2 h_f3.1 h_f3.2 h_r2.1 h_r2.2 h_f2.1 h_f2.2 q).1.symm, (own_same h_r3.1 h_r3.2 hip1 hip2 h_f3.1 h_f3.2 h_r2.1 h_r2.2 h_f2.1 h_f2.2 q).2.symm⟩)).trans rfl))) f15_254 (g := (mkF m 276 #[.val (.int p0), .val (.int p1), .val (.long p2), .second, .val (.long p3), .second, .val (.int ip), .val (.int lp), .val (.int (0 : Int32)), .val (.ref b2), .val (.int r1), .val (.int f1), .val (.int r2), .val (.int f2), .val (.int r3), .val (.int f3), .val (.int (1 : Int32)), .val (.int (0 : Int32)), .val (.int (0 : Int32)), .val (.long p2), .second, .val (.long (0 : Int64)), .second, .val (.long p2), .second, .val (.long p2), .second, .unset, .unset] [(.int f3), (.int r3), (.ref b2)])) rfl (by rw [hml]; rfl) (argsL := [(.int r3), (.int f3)]) (rest := []) (lenOf pd6 rfl) rfl (hb hby at_276) rfl (by decide) (Nat.le_of_ble_eq_true rfl) (k' := 7) (n' := 440) rfl rfl (by decide) (by decide)
                refine Go.by st33 ?_
                obtain ⟨rfl, rfl⟩ := q33
                show Go p.tables e below _ (T33.setTop (mkF m 279 #[.val (.int p0), .val (.int p1), .val (.long p2), .second, .val (.long p3), .second, .val (.int ip), .val (.int lp), .val (.int (0 : Int32)), .val (.ref b2), .val (.int r1), .val (.int f1), .val (.int r2), .val (.int f2), .val (.int r3), .val (.int f3), .val (.int (1 : Int32)), .val (.int (0 : Int32)), .val (.int (0 : Int32)), .val (.long p2), .second, .val (.long (0 : Int64)), .second, .val (.long p2), .second, .val (.long p2), .second, .unset, .unset] [(.long (0 : Int64))]))
                refine Go.by (fun _ => XS.lstore X33.here hx rfl (hb hby at_279) rfl (l' := #[.val (.int p0), .val (.int p1), .val (.long p2), .second, .val (.long p3), .second, .val (.int ip), .val (.int lp), .val (.int (0 : Int32)), .val (.ref b2), .val (.int r1), .val (.int f1), .val (.int r2), .val (.int f2), .val (.int r3), .val (.int f3), .val (.int (1 : Int32)), .val (.int (0 : Int32)), .val (.int (0 : Int32)), .val (.long p2), .second, .val (.long (0 : Int64)), .second, .val (.long p2), .second, .val (.long p2), .second, .val (.long (0 : Int64)), .second]) rfl) ?_
                show Go p.tables e below _ (T33.setTop (mkF m 281 #[.val (.int p0), .val (.int p1), .val (.long p2), .second, .val (.long p3), .second, .val (.int ip), .val (.int lp), .val (.int (0 : Int32)), .val (.ref b2), .val (.int r1), .val (.int f1), .val (.int r2), .val (.int f2), .val (.int r3), .val (.int f3), .val (.int (1 : Int32)), .val (.int (0 : Int32)), .val (.int (0 : Int32)), .val (.long p2), .second, .val (.long (0 : Int64)), .second, .val (.long p2), .second, .val (.long p2), .second, .val (.long (0 : Int64)), .second] []))
                refine Go.by (fun _ => XS.lload X33.here hx rfl (hb hby at_281) rfl) ?_
                refine Go.by (fun _ => XS.lloadN X33.here hx rfl (hb hby at_283) rfl) ?_
                show Go p.tables e below _ (T33.setTop (mkF m 284 #[.val (.int p0), .val (.int p1), .val (.long p2), .second, .val (.long p3), .second, .val (.int ip), .val (.int lp), .val (.int (0 : Int32)), .val (.ref b2), .val (.int r1), .val (.int f1), .val (.int r2), .val (.int f2), .val (.int r3), .val (.int f3), .val (.int (1 : Int32)), .val (.int (0 : Int32)), .val (.int (0 : Int32)), .val (.long p2), .second, .val (.long (0 : Int64)), .second, .val (.long p2), .second, .val (.long p2), .second, .val (.long (0 : Int64)), .second] [(.long p2), (.long p2)]))
                refine Go.by (fun _ => XS.lcmp X33.here hx rfl (hb hby at_284) rfl) ?_
                show Go p.tables e below _ (T33.setTop (mkF m 285 #[.val (.int p0), .val (.int p1), .val (.long p2), .second, .val (.long p3), .second, .val (.int ip), .val (.int lp), .val (.int (0 : Int32)), .val (.ref b2), .val (.int r1), .val (.int f1), .val (.int r2), .val (.int f2), .val (.int r3), .val (.int f3), .val (.int (1 : Int32)), .val (.int (0 : Int32)), .val (.int (0 : Int32)), .val (.long p2), .second, .val (.long (0 : Int64)), .second, .val (.long p2), .second, .val (.long p2), .second, .val (.long (0 : Int64)), .second] [(.int (lcmpW p2 p2))]))
                refine Go.by (fun _ => XS.ifNo X33.here hx rfl (hb hby at_285) rfl ((if0 _ _).trans (teq ((lw_eq _ _).mpr rfl)).2)) ?_
                show Go p.tables e below _ (T33.setTop (mkF m 288 #[.val (.int p0), .val (.int p1), .val (.long p2), .second, .val (.long p3), .second, .val (.int ip), .val (.int lp), .val (.int (0 : Int32)), .val (.ref b2), .val (.int r1), .val (.int f1), .val (.int r2), .val (.int f2), .val (.int r3), .val (.int f3), .val (.int (1 : Int32)), .val (.int (0 : Int32)), .val (.int (0 : Int32)), .val (.long p2), .second, .val (.long (0 : Int64)), .second, .val (.long p2), .second, .val (.long p2), .second, .val (.long (0 : Int64)), .second] []))
                refine Go.by (fun _ => XS.lload X33.here hx rfl (hb hby at_288) rfl) ?_
                refine Go.by (fun _ => XS.lload X33.here hx rfl (hb hby at_290) rfl) ?_
                refine Go.by (fun _ => XS.lcmp X33.here hx rfl (hb hby at_292) rfl) ?_
                show Go p.tables e below _ (T33.setTop (mkF m 293 #[.val (.int p0), .val (.int p1), .val (.long p2), .second, .val (.long p3), .second, .val (.int ip), .val (.int lp), .val (.int (0 : Int32)), .val (.ref b2), .val (.int r1), .val (.int f1), .val (.int r2), .val (.int f2), .val (.int r3), .val (.int f3), .val (.int (1 : Int32)), .val (.int (0 : Int32)), .val (.int (0 : Int32)), .val (.long p2), .second, .val (.long (0 : Int64)), .second, .val (.long p2), .second, .val (.long p2), .second, .val (.long (0 : Int64)), .second] [(.int (lcmpW p2 p2))]))
                refine Go.by (fun _ => XS.ifNo X33.here hx rfl (hb hby at_293) rfl ((if0 _ _).trans (teq ((lw_eq _ _).mpr rfl)).2)) ?_
                show Go p.tables e below _ (T33.setTop (mkF m 296 #[.val (.int p0), .val (.int p1), .val (.long p2), .second, .val (.long p3), .second, .val (.int ip), .val (.int lp), .val (.int (0 : Int32)), .val (.ref b2), .val (.int r1), .val (.int f1), .val (.int r2), .val (.int f2), .val (.int r3), .val (.int f3), .val (.int (1 : Int32)), .val (.int (0 : Int32)), .val (.int (0 : Int32)), .val (.long p2), .second, .val (.long (0 : Int64)), .second, .val (.long p2), .second, .val (.long p2), .second, .val (.long (0 : Int64)), .second] []))
                refine Go.by (fun _ => XS.lload X33.here hx rfl (hb hby at_296) rfl) ?_
                refine Go.by (fun _ => XS.lload X33.here hx rfl (hb hby at_298) rfl) ?_
                show Go p.tables e below _ (T33.setTop (mkF m 300 #[.val (.int p0), .val (.int p1), .val (.long p2), .second, .val (.long p3), .second, .val (.int ip), .val (.int lp), .val (.int (0 : Int32)), .val (.ref b2), .val (.int r1), .val (.int f1), .val (.int r2), .val (.int f2), .val (.int r3), .val (.int f3), .val (.int (1 : Int32)), .val (.int (0 : Int32)), .val (.int (0 : Int32)), .val (.long p2), .second, .val (.long (0 : Int64)), .second, .val (.long p2), .second, .val (.long p2), .second, .val (.long (0 : Int64)), .second] [(.long (0 : Int64)), (.long (0 : Int64))]))
                refine Go.by (fun _ => XS.lcmp X33.here hx rfl (hb hby at_300) rfl) ?_
                show Go p.tables e below _ (T33.setTop (mkF m 301 #[.val (.int p0), .val (.int p1), .val (.long p2), .second, .val (.long p3), .second, .val (.int ip), .val (.int lp), .val (.int (0 : Int32)), .val (.ref b2), .val (.int r1), .val (.int f1), .val (.int r2), .val (.int f2), .val (.int r3), .val (.int f3), .val (.int (1 : Int32)), .val (.int (0 : Int32)), .val (.int (0 : Int32)), .val (.long p2), .second, .val (.long (0 : Int64)), .second, .val (.long p2), .second, .val (.long p2), .second, .val (.long (0 : Int64)), .second] [(.int (lcmpW (0 : Int64) (0 : Int64)))]))
                refine Go.by (fun _ => XS.ifNo X33.here hx rfl (hb hby at_301) rfl ((if0 _ _).trans (teq ((lw_eq _ _).mpr rfl)).2)) ?_
                show Go p.tables e below _ (T33.setTop (mkF m 304 #[.val (.int p0), .val (.int p1), .val (.long p2), .second, .val (.long p3), .second, .val (.int ip), .val (.int lp), .val (.int (0 : Int32)), .val (.ref b2), .val (.int r1), .val (.int f1), .val (.int r2), .val (.int f2), .val (.int r3), .val (.int f3), .val (.int (1 : Int32)), .val (.int (0 : Int32)), .val (.int (0 : Int32)), .val (.long p2), .second, .val (.long (0 : Int64)), .second, .val (.long p2), .second, .val (.long p2), .second, .val (.long (0 : Int64)), .second] []))
                refine Go.by (fun _ => XS.iconst X33.here hx rfl (hb hby at_304)) ?_
                refine Go.by (fun _ => XS.goto X33.here hx rfl (pc0 := 305) (pc' := 309) rfl (hb hby at_305) (by decide) (by decide)) ?_
                show Go p.tables e below _ (T33.setTop (mkF m 309 #[.val (.int p0), .val (.int p1), .val (.long p2), .second, .val (.long p3), .second, .val (.int ip), .val (.int lp), .val (.int (0 : Int32)), .val (.ref b2), .val (.int r1), .val (.int f1), .val (.int r2), .val (.int f2), .val (.int r3), .val (.int f3), .val (.int (1 : Int32)), .val (.int (0 : Int32)), .val (.int (0 : Int32)), .val (.long p2), .second, .val (.long (0 : Int64)), .second, .val (.long p2), .second, .val (.long p2), .second, .val (.long (0 : Int64)), .second] [(.int (1 : Int32))]))
                exact Go.retN X33 hx hlk (z' := (1 : Int32)) hret (by simp) (hb hby at_309) rfl (by decide) (by decide) rfl
            refine Go.by (fun _ => XS.iload Xj17.here hx rfl (hb hby at_192) rfl) ?_
            refine Go.by (fun _ => XS.iload Xj17.here hx rfl (hb hby at_194) rfl) ?_
            by_cases hc196_34 : r2 = r3
            · skip
              refine Go.by (fun _ => XS.icmpNo Xj17.here hx rfl (hb hby at_196) rfl (teq hc196_34).2) ?_
              show Go p.tables e below _ (Tj17.setTop (mkF m 199 #[.val (.int p0), .val (.int p1), .val (.long p2), .second, .val (.long p3), .second, .val (.int ip), .val (.int lp), .val (.int (0 : Int32)), .val (.ref b2), .val (.int r1), .val (.int f1), .val (.int r2), .val (.int f2), .val (.int r3), .val (.int f3), .val (.int (1 : Int32)), .val (.int (0 : Int32)), .unset, .unset, .unset, .unset, .unset, .unset, .unset, .unset, .unset, .unset, .unset] []))
              refine Go.by (fun _ => XS.iload Xj17.here hx rfl (hb hby at_199) rfl) ?_
              refine Go.by (fun _ => XS.iload Xj17.here hx rfl (hb hby at_201) rfl) ?_
              show Go p.tables e below _ (Tj17.setTop (mkF m 203 #[.val (.int p0), .val (.int p1), .val (.long p2), .second, .val (.long p3), .second, .val (.int ip), .val (.int lp), .val (.int (0 : Int32)), .val (.ref b2), .val (.int r1), .val (.int f1), .val (.int r2), .val (.int f2), .val (.int r3), .val (.int f3), .val (.int (1 : Int32)), .val (.int (0 : Int32)), .unset, .unset, .unset, .unset, .unset, .unset, .unset, .unset, .unset, .unset, .unset] [(.int f3), (.int f2)]))
              by_cases hc203_35 : f2 = f3
              · skip
                refine Go.by (fun _ => XS.icmpNo Xj17.here hx rfl (hb hby at_203) rfl (teq hc203_35).2) ?_
                show Go p.tables e below _ (Tj17.setTop (mkF m 206 #[.val (.int p0), .val (.int p1), .val (.long p2), .second, .val (.long p3), .second, .val (.int ip), .val (.int lp), .val (.int (0 : Int32)), .val (.ref b2), .val (.int r1), .val (.int f1), .val (.int r2), .val (.int f2), .val (.int r3), .val (.int f3), .val (.int (1 : Int32)), .val (.int (0 : Int32)), .unset, .unset, .unset, .unset, .unset, .unset, .unset, .unset, .unset, .unset, .unset] []))
                refine Go.by (fun _ => XS.iconst Xj17.here hx rfl (hb hby at_206)) ?_
                refine Go.by (fun _ => XS.goto Xj17.here hx rfl (pc0 := 207) (pc' := 211) rfl (hb hby at_207) (by decide) (by decide)) ?_
                show Go p.tables e below _ (Tj17.setTop (mkF m 211 #[.val (.int p0), .val (.int p1), .val (.long p2), .second, .val (.long p3), .second, .val (.int ip), .val (.int lp), .val (.int (0 : Int32)), .val (.ref b2), .val (.int r1), .val (.int f1), .val (.int r2), .val (.int f2), .val (.int r3), .val (.int f3), .val (.int (1 : Int32)), .val (.int (0 : Int32)), .unset, .unset, .unset, .unset, .unset, .unset, .unset, .unset, .unset, .unset, .unset] [(.int (1 : Int32))]))
                exact J27 _ Xj17 _ (Or.inl ⟨rfl, hc196_34, hc203_35⟩)
              · skip
                refine Go.by (fun _ => XS.icmpYes Xj17.here hx rfl (pc0 := 203) (pc' := 210) rfl (hb hby at_203) rfl (feq hc203_35).2 (by decide) (by decide)) ?_
                show Go p.tables e below _ (Tj17.setTop (mkF m 210 #[.val (.int p0), .val (.int p1), .val (.long p2), .second, .val (.long p3), .second, .val (.int ip), .val (.int lp), .val (.int (0 : Int32)), .val (.ref b2), .val (.int r1), .val (.int f1), .val (.int r2), .val (.int f2), .val (.int r3), .val (.int f3), .val (.int (1 : Int32)), .val (.int (0 : Int32)), .unset, .unset, .unset, .unset, .unset, .unset, .unset, .unset, .unset, .unset, .unset] []))
                refine Go.by (fun _ => XS.iconst Xj17.here hx rfl (hb hby at_210)) ?_
                show Go p.tables e below _ (Tj17.setTop (mkF m 211 #[.val (.int p0), .val (.int p1), .val (.long p2), .second, .val (.long p3), .second, .val (.int ip), .val (.int lp), .val (.int (0 : Int32)), .val (.ref b2), .val (.int r1), .val (.int f1), .val (.int r2), .val (.int f2), .val (.int r3), .val (.int f3), .val (.int (1 : Int32)), .val (.int (0 : Int32)), .unset, .unset, .unset, .unset, .unset, .unset, .unset, .unset, .unset, .unset, .unset] [(.int (0 : Int32))]))
                exact J27 _ Xj17 _ (Or.inr ⟨rfl, fun q => hc203_35 q.2⟩)
            · skip
              refine Go.by (fun _ => XS.icmpYes Xj17.here hx rfl (pc0 := 196) (pc' := 210) rfl (hb hby at_196) rfl (feq hc196_34).2 (by decide) (by decide)) ?_
              show Go p.tables e below _ (Tj17.setTop (mkF m 210 #[.val (.int p0), .val (.int p1), .val (.long p2), .second, .val (.long p3), .second, .val (.int ip), .val (.int lp), .val (.int (0 : Int32)), .val (.ref b2), .val (.int r1), .val (.int f1), .val (.int r2), .val (.int f2), .val (.int r3), .val (.int f3), .val (.int (1 : Int32)), .val (.int (0 : Int32)), .unset, .unset, .unset, .unset, .unset, .unset, .unset, .unset, .unset, .unset, .unset] []))
              refine Go.by (fun _ => XS.iconst Xj17.here hx rfl (hb hby at_210)) ?_
              show Go p.tables e below _ (Tj17.setTop (mkF m 211 #[.val (.int p0), .val (.int p1), .val (.long p2), .second, .val (.long p3), .second, .val (.int ip), .val (.int lp), .val (.int (0 : Int32)), .val (.ref b2), .val (.int r1), .val (.int f1), .val (.int r2), .val (.int f2), .val (.int r3), .val (.int f3), .val (.int (1 : Int32)), .val (.int (0 : Int32)), .unset, .unset, .unset, .unset, .unset, .unset, .unset, .unset, .unset, .unset, .unset] [(.int (0 : Int32))]))
              exact J27 _ Xj17 _ (Or.inr ⟨rfl, fun q => hc196_34 q.1⟩)
        refine Go.by (fun _ => XS.iload Xj16.here hx rfl (hb hby at_171) rfl) ?_
        refine Go.by (fun _ => XS.iload Xj16.here hx rfl (hb hby at_173) rfl) ?_
        by_cases hc175_36 : r1 = r3
        · skip
          refine Go.by (fun _ => XS.icmpNo Xj16.here hx rfl (hb hby at_175) rfl (teq hc175_36).2) ?_
          show Go p.tables e below _ (Tj16.setTop (mkF m 178 #[.val (.int p0), .val (.int p1), .val (.long p2), .second, .val (.long p3), .second, .val (.int ip), .val (.int lp), .val (.int (0 : Int32)), .val (.ref b2), .val (.int r1), .val (.int f1), .val (.int r2), .val (.int f2), .val (.int r3), .val (.int f3), .val (.int (1 : Int32)), .unset, .unset, .unset, .unset, .unset, .unset, .unset, .unset, .unset, .unset, .unset, .unset] []))
          refine Go.by (fun _ => XS.iload Xj16.here hx rfl (hb hby at_178) rfl) ?_
          show Go p.tables e below _ (Tj16.setTop (mkF m 180 #[.val (.int p0), .val (.int p1), .val (.long p2), .second, .val (.long p3), .second, .val (.int ip), .val (.int lp), .val (.int (0 : Int32)), .val (.ref b2), .val (.int r1), .val (.int f1), .val (.int r2), .val (.int f2), .val (.int r3), .val (.int f3), .val (.int (1 : Int32)), .unset, .unset, .unset, .unset, .unset, .unset, .unset, .unset, .unset, .unset, .unset, .unset] [(.int f1)]))
          refine Go.by (fun _ => XS.iload Xj16.here hx rfl (hb hby at_180) rfl) ?_
          by_cases hc182_37 : f1 = f3
          · skip
            refine Go.by (fun _ => XS.icmpNo Xj16.here hx rfl (hb hby at_182) rfl (teq hc182_37).2) ?_
            show Go p.tables e below _ (Tj16.setTop (mkF m 185 #[.val (.int p0), .val (.int p1), .val (.long p2), .second, .val (.long p3), .second, .val (.int ip), .val (.int lp), .val (.int (0 : Int32)), .val (.ref b2), .val (.int r1), .val (.int f1), .val (.int r2), .val (.int f2), .val (.int r3), .val (.int f3), .val (.int (1 : Int32)), .unset, .unset, .unset, .unset, .unset, .unset, .unset, .unset, .unset, .unset, .unset, .unset] []))
            refine Go.by (fun _ => XS.iconst Xj16.here hx rfl (hb hby at_185)) ?_
            refine Go.by (fun _ => XS.goto Xj16.here hx rfl (pc0 := 186) (pc' := 190) rfl (hb hby at_186) (by decide) (by decide)) ?_
            show Go p.tables e below _ (Tj16.setTop (mkF m 190 #[.val (.int p0), .val (.int p1), .val (.long p2), .second, .val (.long p3), .second, .val (.int ip), .val (.int lp), .val (.int (0 : Int32)), .val (.ref b2), .val (.int r1), .val (.int f1), .val (.int r2), .val (.int f2), .val (.int r3), .val (.int f3), .val (.int (1 : Int32)), .unset, .unset, .unset, .unset, .unset, .unset, .unset, .unset, .unset, .unset, .unset, .unset] [(.int (1 : Int32))]))
            exact J17 _ Xj16 _ (Or.inl ⟨rfl, hc175_36, hc182_37⟩)
          · skip
            refine Go.by (fun _ => XS.icmpYes Xj16.here hx rfl (pc0 := 182) (pc' := 189) rfl (hb hby at_182) rfl (feq hc182_37).2 (by decide) (by decide)) ?_
            show Go p.tables e below _ (Tj16.setTop (mkF m 189 #[.val (.int p0), .val (.int p1), .val (.long p2), .second, .val (.long p3), .second, .val (.int ip), .val (.int lp), .val (.int (0 : Int32)), .val (.ref b2), .val (.int r1), .val (.int f1), .val (.int r2), .val (.int f2), .val (.int r3), .val (.int f3), .val (.int (1 : Int32)), .unset, .unset, .unset, .unset, .unset, .unset, .unset, .unset, .unset, .unset, .unset, .unset] []))
            refine Go.by (fun _ => XS.iconst Xj16.here hx rfl (hb hby at_189)) ?_
            show Go p.tables e below _ (Tj16.setTop (mkF m 190 #[.val (.int p0), .val (.int p1), .val (.long p2), .second, .val (.long p3), .second, .val (.int ip), .val (.int lp), .val (.int (0 : Int32)), .val (.ref b2), .val (.int r1), .val (.int f1), .val (.int r2), .val (.int f2), .val (.int r3), .val (.int f3), .val (.int (1 : Int32)), .unset, .unset, .unset, .unset, .unset, .unset, .unset, .unset, .unset, .unset, .unset, .unset] [(.int (0 : Int32))]))
            exact J17 _ Xj16 _ (Or.inr ⟨rfl, fun q => hc182_37 q.2⟩)
        · skip
          refine Go.by (fun _ => XS.icmpYes Xj16.here hx rfl (pc0 := 175) (pc' := 189) rfl (hb hby at_175) rfl (feq hc175_36).2 (by decide) (by decide)) ?_
          show Go p.tables e below _ (Tj16.setTop (mkF m 189 #[.val (.int p0), .val (.int p1), .val (.long p2), .second, .val (.long p3), .second, .val (.int ip), .val (.int lp), .val (.int (0 : Int32)), .val (.ref b2), .val (.int r1), .val (.int f1), .val (.int r2), .val (.int f2), .val (.int r3), .val (.int f3), .val (.int (1 : Int32)), .unset, .unset, .unset, .unset, .unset, .unset, .unset, .unset, .unset, .unset, .unset, .unset] []))
          refine Go.by (fun _ => XS.iconst Xj16.here hx rfl (hb hby at_189)) ?_
          show Go p.tables e below _ (Tj16.setTop (mkF m 190 #[.val (.int p0), .val (.int p1), .val (.long p2), .second, .val (.long p3), .second, .val (.int ip), .val (.int lp), .val (.int (0 : Int32)), .val (.ref b2), .val (.int r1), .val (.int f1), .val (.int r2), .val (.int f2), .val (.int r3), .val (.int f3), .val (.int (1 : Int32)), .unset, .unset, .unset, .unset, .unset, .unset, .unset, .unset, .unset, .unset, .unset, .unset] [(.int (0 : Int32))]))
          exact J17 _ Xj16 _ (Or.inr ⟨rfl, fun q => hc175_36 q.1⟩)
      · skip
        show Go p.tables e below _ (Tj16.setTop (mkF m 169 #[.val (.int p0), .val (.int p1), .val (.long p2), .second, .val (.long p3), .second, .val (.int ip), .val (.int lp), .val (.int (0 : Int32)), .val (.ref b2), .val (.int r1), .val (.int f1), .val (.int r2), .val (.int f2), .val (.int r3), .val (.int f3), .unset, .unset, .unset, .unset, .unset, .unset, .unset, .unset, .unset, .unset, .unset, .unset, .unset] [(.int (0 : Int32))]))
        refine Go.by (fun _ => XS.istore Xj16.here hx rfl (hb hby at_169) rfl (l' := #[.val (.int p0), .val (.int p1), .val (.long p2), .second, .val (.long p3), .second, .val (.int ip), .val (.int lp), .val (.int (0 : Int32)), .val (.ref b2), .val (.int r1), .val (.int f1), .val (.int r2), .val (.int f2), .val (.int r3), .val (.int f3), .val (.int (0 : Int32)), .unset, .unset, .unset, .unset, .unset, .unset, .unset, .unset, .unset, .unset, .unset, .unset]) rfl) ?_
        show Go p.tables e below _ (Tj16.setTop (mkF m 171 #[.val (.int p0), .val (.int p1), .val (.long p2), .second, .val (.long p3), .second, .val (.int ip), .val (.int lp), .val (.int (0 : Int32)), .val (.ref b2), .val (.int r1), .val (.int f1), .val (.int r2), .val (.int f2), .val (.int r3), .val (.int f3), .val (.int (0 : Int32)), .unset, .unset, .unset, .unset, .unset, .unset, .unset, .unset, .unset, .unset, .unset, .unset] []))
        have J38 : ∀ (Tj38 : State), Sd n0 p l e room_1 s m #[(.int p0), (.int p1), (.long p2), (.long p3)] below meth c Tj38 h14 7 440 → ∀ (jb : Int32), ((jb = 1 ∧ r1 = r3 ∧ f1 = f3) ∨ (jb = 0 ∧ ¬ (r1 = r3 ∧ f1 = f3))) → Go p.tables e below (Ret s n0 (fun v h => v = some (.int 1)) room_1.cells room_1.slots) (Tj38.setTop (mkF m 190 #[.val (.int p0), .val (.int p1), .val (.long p2), .second, .val (.long p3), .second, .val (.int ip), .val (.int lp), .val (.int (0 : Int32)), .val (.ref b2), .val (.int r1), .val (.int f1), .val (.int r2), .val (.int f2), .val (.int r3), .val (.int f3), .val (.int (0 : Int32)), .unset, .unset, .unset, .unset, .unset, .unset, .unset, .unset, .unset, .unset, .unset, .unset] [(.int jb)])) := by
          intro Tj38 Xj38 jb hj38
          rcases hj38 with ⟨rfl, hP17⟩ | ⟨rfl, hP17⟩
          · skip
            show Go p.tables e below _ (Tj38.setTop (mkF m 190 #[.val (.int p0), .val (.int p1), .val (.long p2), .second, .val (.long p3), .second, .val (.int ip), .val (.int lp), .val (.int (0 : Int32)), .val (.ref b2), .val (.int r1), .val (.int f1), .val (.int r2), .val (.int f2), .val (.int r3), .val (.int f3), .val (.int (0 : Int32)), .unset, .unset, .unset, .unset, .unset, .unset, .unset, .unset, .unset, .unset, .unset, .unset] [(.int (1 : Int32))]))
            refine Go.by (fun _ => XS.istore Xj38.here hx rfl (hb hby at_190) rfl (l' := #[.val (.int p0), .val (.int p1), .val (.long p2), .second, .val (.long p3), .second, .val (.int ip), .val (.int lp), .val (.int (0 : Int32)), .val (.ref b2), .val (.int r1), .val (.int f1), .val (.int r2), .val (.int f2), .val (.int r3), .val (.int f3), .val (.int (0 : Int32)), .val (.int (1 : Int32)), .unset, .unset, .unset, .unset, .unset, .unset, .unset, .unset, .unset, .unset, .unset]) rfl) ?_
            show Go p.tables e below _ (Tj38.setTop (mkF m 192 #[.val (.int p0), .val (.int p1), .val (.long p2), .second, .val (.long p3), .second, .val (.int ip), .val (.int lp), .val (.int (0 : Int32)), .val (.ref b2), .val (.int r1), .val (.int f1), .val (.int r2), .val (.int f2), .val (.int r3), .val (.int f3), .val (.int (0 : Int32)), .val (.int (1 : Int32)), .unset, .unset, .unset, .unset, .unset, .unset, .unset, .unset, .unset, .unset, .unset] []))
            have J39 : ∀ (Tj39 : State), Sd n0 p l e room_1 s m #[(.int p0), (.int p1), (.long p2), (.long p3)] below meth c Tj39 h14 7 440 → ∀ (jb : Int32), ((jb = 1 ∧ r2 = r3 ∧ f2 = f3) ∨ (jb = 0 ∧ ¬ (r2 = r3 ∧ f2 = f3))) → Go p.tables e below (Ret s n0 (fun v h => v = some (.int 1)) room_1.cells room_1.slots) (Tj39.setTop (mkF m 211 #[.val (.int p0), .val (.int p1), .val (.long p2), .second, .val (.long p3), .second, .val (.int ip), .val (.int lp), .val (.int (0 : Int32)), .val (.ref b2), .val (.int r1), .val (.int f1), .val (.int r2), .val (.int f2), .val (.int r3), .val (.int f3), .val (.int (0 : Int32)), .val (.int (1 : Int32)), .unset, .unset, .unset, .unset, .unset, .unset, .unset, .unset, .unset, .unset, .unset] [(.int jb)])) := by
              intro Tj39 Xj39 jb hj39
              rcases hj39 with ⟨rfl, hP18⟩ | ⟨rfl, hP18⟩
              · skip
                show Go p.tables e below _ (Tj39.setTop (mkF m 211 #[.val (.int p0), .val (.int p1), .val (.long p2), .second, .val (.long p3), .second, .val (.int ip), .val (.int lp), .val (.int (0 : Int32)), .val (.ref b2), .val (.int r1), .val (.int f1), .val (.int r2), .val (.int f2), .val (.int r3), .val (.int f3), .val (.int (0 : Int32)), .val (.int (1 : Int32)), .unset, .unset, .unset, .unset, .unset, .unset, .unset, .unset, .unset, .unset, .unset] [(.int (1 : Int32))]))
                refine Go.by (fun _ => XS.istore Xj39.here hx rfl (hb hby at_211) rfl (l' := #[.val (.int p0), .val (.int p1), .val (.long p2), .second, .val (.long p3), .second, .val (.int ip), .val (.int lp), .val (.int (0 : Int32)), .val (.ref b2), .val (.int r1), .val (.int f1), .val (.int r2), .val (.int f2), .val (.int r3), .val (.int f3), .val (.int (0 : Int32)), .val (.int (1 : Int32)), .val (.int (1 : Int32)), .unset, .unset, .unset, .unset, .unset, .unset, .unset, .unset, .unset, .unset]) rfl) ?_
                show Go p.tables e below _ (Tj39.setTop (mkF m 213 #[.val (.int p0), .val (.int p1), .val (.long p2), .second, .val (.long p3), .second, .val (.int ip), .val (.int lp), .val (.int (0 : Int32)), .val (.ref b2), .val (.int r1), .val (.int f1), .val (.int r2), .val (.int f2), .val (.int r3), .val (.int f3), .val (.int (0 : Int32)), .val (.int (1 : Int32)), .val (.int (1 : Int32)), .unset, .unset, .unset, .unset, .unset, .unset, .unset, .unset, .unset, .unset] []))
                refine Go.by (fun _ => XS.iload Xj39.here hx rfl (hb hby at_213) rfl) ?_
                refine Go.by (fun _ => XS.ifYes Xj39.here hx rfl (pc0 := 215) (pc' := 222) rfl (hb hby at_215) rfl ((if0 _ _).trans (teq (by decide)).1) (by decide) (by decide)) ?_
                show Go p.tables e below _ (Tj39.setTop (mkF m 222 #[.val (.int p0), .val (.int p1), .val (.long p2), .second, .val (.long p3), .second, .val (.int ip), .val (.int lp), .val (.int (0 : Int32)), .val (.ref b2), .val (.int r1), .val (.int f1), .val (.int r2), .val (.int f2), .val (.int r3), .val (.int f3), .val (.int (0 : Int32)), .val (.int (1 : Int32)), .val (.int (1 : Int32)), .unset, .unset, .unset, .unset, .unset, .unset, .unset, .unset, .unset, .unset] []))
                refine Go.by (fun _ => XS.lload Xj39.here hx rfl (hb hby at_222) rfl) ?_
                refine Go.by (fun _ => XS.lstore Xj39.here hx rfl (hb hby at_224) rfl (l' := #[.val (.int p0), .val (.int p1), .val (.long p2), .second, .val (.long p3), .second, .val (.int ip), .val (.int lp), .val (.int (0 : Int32)), .val (.ref b2), .val (.int r1), .val (.int f1), .val (.int r2), .val (.int f2), .val (.int r3), .val (.int f3), .val (.int (0 : Int32)), .val (.int (1 : Int32)), .val (.int (1 : Int32)), .val (.long p3), .second, .unset, .unset, .unset, .unset, .unset, .unset, .unset, .unset]) rfl) ?_
                show Go p.tables e below _ (Tj39.setTop (mkF m 226 #[.val (.int p0), .val (.int p1), .val (.long p2), .second, .val (.long p3), .second, .val (.int ip), .val (.int lp), .val (.int (0 : Int32)), .val (.ref b2), .val (.int r1), .val (.int f1), .val (.int r2), .val (.int f2), .val (.int r3), .val (.int f3), .val (.int (0 : Int32)), .val (.int (1 : Int32)), .val (.int (1 : Int32)), .val (.long p3), .second, .unset, .unset, .unset, .unset, .unset, .unset, .unset, .unset] []))
                refine Go.by (fun _ => XS.iload Xj39.here hx rfl (hb hby at_226) rfl) ?_
                refine Go.by (fun _ => XS.ifNo Xj39.here hx rfl (hb hby at_228) rfl ((if0 _ _).trans (feq (by decide)).1)) ?_
                show Go p.tables e below _ (Tj39.setTop (mkF m 231 #[.val (.int p0), .val (.int p1), .val (.long p2), .second, .val (.long p3), .second, .val (.int ip), .val (.int lp), .val (.int (0 : Int32)), .val (.ref b2), .val (.int r1), .val (.int f1), .val (.int r2), .val (.int f2), .val (.int r3), .val (.int f3), .val (.int (0 : Int32)), .val (.int (1 : Int32)), .val (.int (1 : Int32)), .val (.long p3), .second, .unset, .unset, .unset, .unset, .unset, .unset, .unset, .unset] []))
                refine Go.by (fun _ => XS.lloadN Xj39.here hx rfl (hb hby at_231) rfl) ?_
                show Go p.tables e below _ (Tj39.setTop (mkF m 232 #[.val (.int p0), .val (.int p1), .val (.long p2), .second, .val (.long p3), .second, .val (.int ip), .val (.int lp), .val (.int (0 : Int32)), .val (.ref b2), .val (.int r1), .val (.int f1), .val (.int r2), .val (.int f2), .val (.int r3), .val (.int f3), .val (.int (0 : Int32)), .val (.int (1 : Int32)), .val (.int (1 : Int32)), .val (.long p3), .second, .unset, .unset, .unset, .unset, .unset, .unset, .unset, .unset] [(.long p2)]))
                refine Go.by (fun _ => XS.goto Xj39.here hx rfl (pc0 := 232) (pc' := 246) rfl (hb hby at_232) (by decide) (by decide)) ?_
                show Go p.tables e below _ (Tj39.setTop (mkF m 246 #[.val (.int p0), .val (.int p1), .val (.long p2), .second, .val (.long p3), .second, .val (.int ip), .val (.int lp), .val (.int (0 : Int32)), .val (.ref b2), .val (.int r1), .val (.int f1), .val (.int r2), .val (.int f2), .val (.int r3), .val (.int f3), .val (.int (0 : Int32)), .val (.int (1 : Int32)), .val (.int (1 : Int32)), .val (.long p3), .second, .unset, .unset, .unset, .unset, .unset, .unset, .unset, .unset] [(.long p2)]))
                refine Go.by (fun _ => XS.lstore Xj39.here hx rfl (hb hby at_246) rfl (l' := #[.val (.int p0), .val (.int p1), .val (.long p2), .second, .val (.long p3), .second, .val (.int ip), .val (.int lp), .val (.int (0 : Int32)), .val (.ref b2), .val (.int r1), .val (.int f1), .val (.int r2), .val (.int f2), .val (.int r3), .val (.int f3), .val (.int (0 : Int32)), .val (.int (1 : Int32)), .val (.int (1 : Int32)), .val (.long p3), .second, .val (.long p2), .second, .unset, .unset, .unset, .unset, .unset, .unset]) rfl) ?_
                show Go p.tables e below _ (Tj39.setTop (mkF m 248 #[.val (.int p0), .val (.int p1), .val (.long p2), .second, .val (.long p3), .second, .val (.int ip), .val (.int lp), .val (.int (0 : Int32)), .val (.ref b2), .val (.int r1), .val (.int f1), .val (.int r2), .val (.int f2), .val (.int r3), .val (.int f3), .val (.int (0 : Int32)), .val (.int (1 : Int32)), .val (.int (1 : Int32)), .val (.long p3), .second, .val (.long p2), .second, .unset, .unset, .unset, .unset, .unset, .unset] []))
                refine Go.by (fun _ => XS.aload Xj39.here hx rfl (hb hby at_248) rfl rfl) ?_
                refine Go.by (fun _ => XS.iload Xj39.here hx rfl (hb hby at_250) rfl) ?_
                refine Go.by (fun _ => XS.iload Xj39.here hx rfl (hb hby at_252) rfl) ?_
                obtain ⟨v40, T40, h40, X40, q40, st40⟩ := Xj39.callV hx hZ (y := (⟨"com/example/spotline/spotline/engine/Table", "getLong", "(II)J"⟩ : MethodName)) (z := (⟨"com/example/spotline/spotline/engine/Table", "getLong", "(II)J"⟩ : MethodName)) hown (tw hw 65 rfl) (tw hw 66 rfl) (notFace_of_selects (args := #[]) (mvT hZ (tw hw 68 rfl))) (tw hw 68 rfl) (tw hw 67 rfl) (tw hw 3 rfl) (tw hw 69 rfl) (by decide) (rm9 l Z a0 hw [] b2 r1 f1 oL4 dL6 kL4 kdL6 ip (((64 : Int32) * ip).toNatClampNeg) (fun i => if i = 0 then (.ref dL6) else .null) (fun t => if t = ((((r1 &&& (65535 : Int32)) * ip) + f1).toNatClampNeg) then (.long p2) else (fun t => if t = ((((r2 &&& (65535 : Int32)) * ip) + f2).toNatClampNeg) then (.long p3) else (fun _ => (.long 0)) t) t) p2 h14 n0 Zs15 f15_260 f15_263 f15_255 rfl V14 hc_r1_f1.1 hc_r1_f1.2.1 hc_r1_f1.2.2 (if_pos rfl)) f15_254 (g := (mkF m 254 #[.val (.int p0), .val (.int p1), .val (.long p2), .second, .val (.long p3), .second, .val (.int ip), .val (.int lp), .val (.int (0 : Int32)), .val (.ref b2), .val (.int r1), .val (.int f1), .val (.int r2), .val (.int f2), .val (.int r3), .val (.int f3), .val (.int (0 : Int32)), .val (.int (1 : Int32)), .val (.int (1 : Int32)), .val (.long p3), .second, .val (.long p2), .second, .unset, .unset, .unset, .unset, .unset, .unset] [(.int f1), (.int r1), (.ref b2)])) rfl (by rw [hml]; rfl) (argsL := [(.int r1), (.int f1)]) (rest := []) (lenOf pd6 rfl) rfl (hb hby at_254) rfl (by decide) (Nat.le_of_ble_eq_true rfl) (k' := 7) (n' := 440) rfl rfl (by decide) (by decide)
                refine Go.by st40 ?_
                obtain ⟨rfl, rfl⟩ := q40
                show Go p.tables e below _ (T40.setTop (mkF m 257 #[.val (.int p0), .val (.int p1), .val (.long p2), .second, .val (.long p3), .second, .val (.int ip), .val (.int lp), .val (.int (0 : Int32)), .val (.ref b2), .val (.int r1), .val (.int f1), .val (.int r2), .val (.int f2), .val (.int r3), .val (.int f3), .val (.int (0 : Int32)), .val (.int (1 : Int32)), .val (.int (1 : Int32)), .val (.long p3), .second, .val (.long p2), .second, .unset, .unset, .unset, .unset, .unset, .unset] [(.long p2)]))
                refine Go.by (fun _ => XS.lstore X40.here hx rfl (hb hby at_257) rfl (l' := #[.val (.int p0), .val (.int p1), .val (.long p2), .second, .val (.long p3), .second, .val (.int ip), .val (.int lp), .val (.int (0 : Int32)), .val (.ref b2), .val (.int r1), .val (.int f1), .val (.int r2), .val (.int f2), .val (.int r3), .val (.int f3), .val (.int (0 : Int32)), .val (.int (1 : Int32)), .val (.int (1 : Int32)), .val (.long p3), .second, .val (.long p2), .second, .val (.long p2), .second, .unset, .unset, .unset, .unset]) rfl) ?_
                show Go p.tables e below _ (T40.setTop (mkF m 259 #[.val (.int p0), .val (.int p1), .val (.long p2), .second, .val (.long p3), .second, .val (.int ip), .val (.int lp), .val (.int (0 : Int32)), .val (.ref b2), .val (.int r1), .val (.int f1), .val (.int r2), .val (.int f2), .val (.int r3), .val (.int f3), .val (.int (0 : Int32)), .val (.int (1 : Int32)), .val (.int (1 : Int32)), .val (.long p3), .second, .val (.long p2), .second, .val (.long p2), .second, .unset, .unset, .unset, .unset] []))
                refine Go.by (fun _ => XS.aload X40.here hx rfl (hb hby at_259) rfl rfl) ?_
                show Go p.tables e below _ (T40.setTop (mkF m 261 #[.val (.int p0), .val (.int p1), .val (.long p2), .second, .val (.long p3), .second, .val (.int ip), .val (.int lp), .val (.int (0 : Int32)), .val (.ref b2), .val (.int r1), .val (.int f1), .val (.int r2), .val (.int f2), .val (.int r3), .val (.int f3), .val (.int (0 : Int32)), .val (.int (1 : Int32)), .val (.int (1 : Int32)), .val (.long p3), .second, .val (.long p2), .second, .val (.long p2), .second, .unset, .unset, .unset, .unset] [(.ref b2)]))
                refine Go.by (fun _ => XS.iload X40.here hx rfl (hb hby at_261) rfl) ?_
                refine Go.by (fun _ => XS.iload X40.here hx rfl (hb hby at_263) rfl) ?_
                obtain ⟨v41, T41, h41, X41, q41, st41⟩ := X40.callV hx hZ (y := (⟨"com/example/spotline/spotline/engine/Table", "getLong", "(II)J"⟩ : MethodName)) (z := (⟨"com/example/spotline/spotline/engine/Table", "getLong", "(II)J"⟩ : MethodName)) hown (tw hw 65 rfl) (tw hw 66 rfl) (notFace_of_selects (args := #[]) (mvT hZ (tw hw 68 rfl))) (tw hw 68 rfl) (tw hw 67 rfl) (tw hw 3 rfl) (tw hw 69 rfl) (by decide) (rm9 l Z a0 hw [] b2 r2 f2 oL4 dL6 kL4 kdL6 ip (((64 : Int32) * ip).toNatClampNeg) (fun i => if i = 0 then (.ref dL6) else .null) (fun t => if t = ((((r1 &&& (65535 : Int32)) * ip) + f1).toNatClampNeg) then (.long p2) else (fun t => if t = ((((r2 &&& (65535 : Int32)) * ip) + f2).toNatClampNeg) then (.long p3) else (fun _ => (.long 0)) t) t) p3 h14 n0 Zs15 f15_260 f15_263 f15_255 rfl V14 hc_r2_f2.1 hc_r2_f2.2.1 hc_r2_f2.2.2 ((if_neg (fun q => hP16 ⟨(own_same h_r2.1 h_r2.2 hip1 hip2 h_f2.1 h_f2.2 h_r1.1 h_r1.2 h_f1.1 h_f1.2 q).1.symm, (own_same h_r2.1 h_r2.2 hip1 hip2 h_f2.1 h_f2.2 h_r1.1 h_r1.2 h_f1.1 h_f1.2 q).2.symm⟩)).trans (if_pos rfl))) f15_254 (g := (mkF m 265 #[.val (.int p0), .val (.int p1), .val (.long p2), .second, .val (.long p3), .second, .val (.int ip), .val (.int lp), .val (.int (0 : Int32)), .val (.ref b2), .val (.int r1), .val (.int f1), .val (.int r2), .val (.int f2), .val (.int r3), .val (.int f3), .val (.int (0 : Int32)), .val (.int (1 : Int32)), .val (.int (1 : Int32)), .val (.long p3), .second, .val (.long p2), .second, .val (.long p2), .second, .unset, .unset, .unset, .unset] [(.int f2), (.int r2), (.ref b2)])) rfl (by rw [hml]; rfl) (argsL := [(.int r2), (.int f2)]) (rest := []) (lenOf pd6 rfl) rfl (hb hby at_265) rfl (by decide) (Nat.le_of_ble_eq_true rfl) (k' := 7) (n' := 440) rfl rfl (by decide) (by decide)
                refine Go.by st41 ?_
                obtain ⟨rfl, rfl⟩ := q41
                show Go p.tables e below _ (T41.setTop (mkF m 268 #[.val (.int p0), .val (.int p1), .val (.long p2), .second, .val (.long p3), .second, .val (.int ip), .val (.int lp), .val (.int (0 : Int32)), .val (.ref b2), .val (.int r1), .val (.int f1), .val (.int r2), .val (.int f2), .val (.int r3), .val (.int f3), .val (.int (0 : Int32)), .val (.int (1 : Int32)), .val (.int (1 : Int32)), .val (.long p3), .second, .val (.long p2), .second, .val (.long p2), .second, .unset, .unset, .unset, .unset] [(.long p3)]))
                refine Go.by (fun _ => XS.lstore X41.here hx rfl (hb hby at_268) rfl (l' := #[.val (.int p0), .val (.int p1), .val (.long p2), .second, .val (.long p3), .second, .val (.int ip), .val (.int lp), .val (.int (0 : Int32)), .val (.ref b2), .val (.int r1), .val (.int f1), .val (.int r2), .val (.int f2), .val (.int r3), .val (.int f3), .val (.int (0 : Int32)), .val (.int (1 : Int32)), .val (.int (1 : Int32)), .val (.long p3), .second, .val (.long p2), .second, .val (.long p2), .second, .val (.long p3), .second, .unset, .unset]) rfl) ?_
                show Go p.tables e below _ (T41.setTop (mkF m 270 #[.val (.int p0), .val (.int p1), .val (.long p2), .second, .val (.long p3), .second, .val (.int ip), .val (.int lp), .val (.int (0 : Int32)), .val (.ref b2), .val (.int r1), .val (.int f1), .val (.int r2), .val (.int f2), .val (.int r3), .val (.int f3), .val (.int (0 : Int32)), .val (.int (1 : Int32)), .val (.int (1 : Int32)), .val (.long p3), .second, .val (.long p2), .second, .val (.long p2), .second, .val (.long p3), .second, .unset, .unset] []))
                refine Go.by (fun _ => XS.aload X41.here hx rfl (hb hby at_270) rfl rfl) ?_
                refine Go.by (fun _ => XS.iload X41.here hx rfl (hb hby at_272) rfl) ?_
                refine Go.by (fun _ => XS.iload X41.here hx rfl (hb hby at_274) rfl) ?_
                show Go p.tables e below _ (T41.setTop (mkF m 276 #[.val (.int p0), .val (.int p1), .val (.long p2), .second, .val (.long p3), .second, .val (.int ip), .val (.int lp), .val (.int (0 : Int32)), .val (.ref b2), .val (.int r1), .val (.int f1), .val (.int r2), .val (.int f2), .val (.int r3), .val (.int f3), .val (.int (0 : Int32)), .val (.int (1 : Int32)), .val (.int (1 : Int32)), .val (.long p3), .second, .val (.long p2), .second, .val (.long p2), .second, .val (.long p3), .second, .unset, .unset] [(.int f3), (.int r3), (.ref b2)]))
                obtain ⟨v42, T42, h42, X42, q42, st42⟩ := X41.callV hx hZ (y := (⟨"com/example/spotline/spotline/engine/Table", "getLong", "(II)J"⟩ : MethodName)) (z := (⟨"com/example/spotline/spotline/engine/Table", "getLong", "(II)J"⟩ : MethodName)) hown (tw hw 65 rfl) (tw hw 66 rfl) (notFace_of_selects (args := #[]) (mvT hZ (tw hw 68 rfl))) (tw hw 68 rfl) (tw hw 67 rfl) (tw hw 3 rfl) (tw hw 69 rfl) (by decide) (rm9 l Z a0 hw [] b2 r3 f3 oL4 dL6 kL4 kdL6 ip (((64 : Int32) * ip).toNatClampNeg) (fun i => if i = 0 then (.ref dL6) else .null) (fun t => if t = ((((r1 &&& (65535 : Int32)) * ip) + f1).toNatClampNeg) then (.long p2) else (fun t => if t = ((((r2 &&& (65535 : Int32)) * ip) + f2).toNatClampNeg) then (.long p3) else (fun _ => (.long 0)) t) t) p2 h14 n0 Zs15 f15_260 f15_263 f15_255 rfl V14 hc_r3_f3.1 hc_r3_f3.2.1 hc_r3_f3.2.2 (if_pos (by rw [hP17.1, hP17.2]))) f15_254 (g := (mkF m 276 #[.val (.int p0), .val (.int p1), .val (.long p2), .second, .val (.long p3), .second, .val (.int ip), .val (.int lp), .val (.int (0 : Int32)), .val (.ref b2), .val (.int r1), .val (.int f1), .val (.int r2), .val (.int f2), .val (.int r3), .val (.int f3), .val (.int (0 : Int32)), .val (.int (1 : Int32)), .val (.int (1 : Int32)), .val (.long p3), .second, .val (.long p2), .second, .val (.long p2), .second, .val (.long p3), .second, .unset, .unset] [(.int f3), (.int r3), (.ref b2)])) rfl (by rw [hml]; rfl) (argsL := [(.int r3), (.int f3)]) (rest := []) (lenOf pd6 rfl) rfl (hb hby at_276) rfl (by decide) (Nat.le_of_ble_eq_true rfl) (k' := 7) (n' := 440) rfl rfl (by decide) (by decide)
                refine Go.by st42 ?_
                obtain ⟨rfl, rfl⟩ := q42
                show Go p.tables e below _ (T42.setTop (mkF m 279 #[.val (.int p0), .val (.int p1), .val (.long p2), .second, .val (.long p3), .second, .val (.int ip), .val (.int lp), .val (.int (0 : Int32)), .val (.ref b2), .val (.int r1), .val (.int f1), .val (.int r2), .val (.int f2), .val (.int r3), .val (.int f3), .val (.int (0 : Int32)), .val (.int (1 : Int32)), .val (.int (1 : Int32)), .val (.long p3), .second, .val (.long p2), .second, .val (.long p2), .second, .val (.long p3), .second, .unset, .unset] [(.long p2)]))
                refine Go.by (fun _ => XS.lstore X42.here hx rfl (hb hby at_279) rfl (l' := #[.val (.int p0), .val (.int p1), .val (.long p2), .second, .val (.long p3), .second, .val (.int ip), .val (.int lp), .val (.int (0 : Int32)), .val (.ref b2), .val (.int r1), .val (.int f1), .val (.int r2), .val (.int f2), .val (.int r3), .val (.int f3), .val (.int (0 : Int32)), .val (.int (1 : Int32)), .val (.int (1 : Int32)), .val (.long p3), .second, .val (.long p2), .second, .val (.long p2), .second, .val (.long p3), .second, .val (.long p2), .second]) rfl) ?_
                show Go p.tables e below _ (T42.setTop (mkF m 281 #[.val (.int p0), .val (.int p1), .val (.long p2), .second, .val (.long p3), .second, .val (.int ip), .val (.int lp), .val (.int (0 : Int32)), .val (.ref b2), .val (.int r1), .val (.int f1), .val (.int r2), .val (.int f2), .val (.int r3), .val (.int f3), .val (.int (0 : Int32)), .val (.int (1 : Int32)), .val (.int (1 : Int32)), .val (.long p3), .second, .val (.long p2), .second, .val (.long p2), .second, .val (.long p3), .second, .val (.long p2), .second] []))
                refine Go.by (fun _ => XS.lload X42.here hx rfl (hb hby at_281) rfl) ?_
                refine Go.by (fun _ => XS.lloadN X42.here hx rfl (hb hby at_283) rfl) ?_
                refine Go.by (fun _ => XS.lcmp X42.here hx rfl (hb hby at_284) rfl) ?_
                show Go p.tables e below _ (T42.setTop (mkF m 285 #[.val (.int p0), .val (.int p1), .val (.long p2), .second, .val (.long p3), .second, .val (.int ip), .val (.int lp), .val (.int (0 : Int32)), .val (.ref b2), .val (.int r1), .val (.int f1), .val (.int r2), .val (.int f2), .val (.int r3), .val (.int f3), .val (.int (0 : Int32)), .val (.int (1 : Int32)), .val (.int (1 : Int32)), .val (.long p3), .second, .val (.long p2), .second, .val (.long p2), .second, .val (.long p3), .second, .val (.long p2), .second] [(.int (lcmpW p2 p2))]))
                refine Go.by (fun _ => XS.ifNo X42.here hx rfl (hb hby at_285) rfl ((if0 _ _).trans (teq ((lw_eq _ _).mpr rfl)).2)) ?_
                show Go p.tables e below _ (T42.setTop (mkF m 288 #[.val (.int p0), .val (.int p1), .val (.long p2), .second, .val (.long p3), .second, .val (.int ip), .val (.int lp), .val (.int (0 : Int32)), .val (.ref b2), .val (.int r1), .val (.int f1), .val (.int r2), .val (.int f2), .val (.int r3), .val (.int f3), .val (.int (0 : Int32)), .val (.int (1 : Int32)), .val (.int (1 : Int32)), .val (.long p3), .second, .val (.long p2), .second, .val (.long p2), .second, .val (.long p3), .second, .val (.long p2), .second] []))
                refine Go.by (fun _ => XS.lload X42.here hx rfl (hb hby at_288) rfl) ?_
                refine Go.by (fun _ => XS.lload X42.here hx rfl (hb hby at_290) rfl) ?_
                show Go p.tables e below _ (T42.setTop (mkF m 292 #[.val (.int p0), .val (.int p1), .val (.long p2), .second, .val (.long p3), .second, .val (.int ip), .val (.int lp), .val (.int (0 : Int32)), .val (.ref b2), .val (.int r1), .val (.int f1), .val (.int r2), .val (.int f2), .val (.int r3), .val (.int f3), .val (.int (0 : Int32)), .val (.int (1 : Int32)), .val (.int (1 : Int32)), .val (.long p3), .second, .val (.long p2), .second, .val (.long p2), .second, .val (.long p3), .second, .val (.long p2), .second] [(.long p3), (.long p3)]))
                refine Go.by (fun _ => XS.lcmp X42.here hx rfl (hb hby at_292) rfl) ?_
                show Go p.tables e below _ (T42.setTop (mkF m 293 #[.val (.int p0), .val (.int p1), .val (.long p2), .second, .val (.long p3), .second, .val (.int ip), .val (.int lp), .val (.int (0 : Int32)), .val (.ref b2), .val (.int r1), .val (.int f1), .val (.int r2), .val (.int f2), .val (.int r3), .val (.int f3), .val (.int (0 : Int32)), .val (.int (1 : Int32)), .val (.int (1 : Int32)), .val (.long p3), .second, .val (.long p2), .second, .val (.long p2), .second, .val (.long p3), .second, .val (.long p2), .second] [(.int (lcmpW p3 p3))]))
                refine Go.by (fun _ => XS.ifNo X42.here hx rfl (hb hby at_293) rfl ((if0 _ _).trans (teq ((lw_eq _ _).mpr rfl)).2)) ?_
                show Go p.tables e below _ (T42.setTop (mkF m 296 #[.val (.int p0), .val (.int p1), .val (.long p2), .second, .val (.long p3), .second, .val (.int ip), .val (.int lp), .val (.int (0 : Int32)), .val (.ref b2), .val (.int r1), .val (.int f1), .val (.int r2), .val (.int f2), .val (.int r3), .val (.int f3), .val (.int (0 : Int32)), .val (.int (1 : Int32)), .val (.int (1 : Int32)), .val (.long p3), .second, .val (.long p2), .second, .val (.long p2), .second, .val (.long p3), .second, .val (.long p2), .second] []))
                refine Go.by (fun _ => XS.lload X42.here hx rfl (hb hby at_296) rfl) ?_
                refine Go.by (fun _ => XS.lload X42.here hx rfl (hb hby at_298) rfl) ?_
                refine Go.by (fun _ => XS.lcmp X42.here hx rfl (hb hby at_300) rfl) ?_
                show Go p.tables e below _ (T42.setTop (mkF m 301 #[.val (.int p0), .val (.int p1), .val (.long p2), .second, .val (.long p3), .second, .val (.int ip), .val (.int lp), .val (.int (0 : Int32)), .val (.ref b2), .val (.int r1), .val (.int f1), .val (.int r2), .val (.int f2), .val (.int r3), .val (.int f3), .val (.int (0 : Int32)), .val (.int (1 : Int32)), .val (.int (1 : Int32)), .val (.long p3), .second, .val (.long p2), .second, .val (.long p2), .second, .val (.long p3), .second, .val (.long p2), .second] [(.int (lcmpW p2 p2))]))
                refine Go.by (fun _ => XS.ifNo X42.here hx rfl (hb hby at_301) rfl ((if0 _ _).trans (teq ((lw_eq _ _).mpr rfl)).2)) ?_
                show Go p.tables e below _ (T42.setTop (mkF m 304 #[.val (.int p0), .val (.int p1), .val (.long p2), .second, .val (.long p3), .second, .val (.int ip), .val (.int lp), .val (.int (0 : Int32)), .val (.ref b2), .val (.int r1), .val (.int f1), .val (.int r2), .val (.int f2), .val (.int r3), .val (.int f3), .val (.int (0 : Int32)), .val (.int (1 : Int32)), .val (.int (1 : Int32)), .val (.long p3), .second, .val (.long p2), .second, .val (.long p2), .second, .val (.long p3), .second, .val (.long p2), .second] []))
                refine Go.by (fun _ => XS.iconst X42.here hx rfl (hb hby at_304)) ?_
                refine Go.by (fun _ => XS.goto X42.here hx rfl (pc0 := 305) (pc' := 309) rfl (hb hby at_305) (by decide) (by decide)) ?_
                show Go p.tables e below _ (T42.setTop (mkF m 309 #[.val (.int p0), .val (.int p1), .val (.long p2), .second, .val (.long p3), .second, .val (.int ip), .val (.int lp), .val (.int (0 : Int32)), .val (.ref b2), .val (.int r1), .val (.int f1), .val (.int r2), .val (.int f2), .val (.int r3), .val (.int f3), .val (.int (0 : Int32)), .val (.int (1 : Int32)), .val (.int (1 : Int32)), .val (.long p3), .second, .val (.long p2), .second, .val (.long p2), .second, .val (.long p3), .second, .val (.long p2), .second] [(.int (1 : Int32))]))
                exact Go.retN X42 hx hlk (z' := (1 : Int32)) hret (by simp) (hb hby at_309) rfl (by decide) (by decide) rfl
              · skip
                show Go p.tables e below _ (Tj39.setTop (mkF m 211 #[.val (.int p0), .val (.int p1), .val (.long p2), .second, .val (.long p3), .second, .val (.int ip), .val (.int lp), .val (.int (0 : Int32)), .val (.ref b2), .val (.int r1), .val (.int f1), .val (.int r2), .val (.int f2), .val (.int r3), .val (.int f3), .val (.int (0 : Int32)), .val (.int (1 : Int32)), .unset, .unset, .unset, .unset, .unset, .unset, .unset, .unset, .unset, .unset, .unset] [(.int (0 : Int32))]))
                refine Go.by (fun _ => XS.istore Xj39.here hx rfl (hb hby at_211) rfl (l' := #[.val (.int p0), .val (.int p1), .val (.long p2), .second, .val (.long p3), .second, .val (.int ip), .val (.int lp), .val (.int (0 : Int32)), .val (.ref b2), .val (.int r1), .val (.int f1), .val (.int r2), .val (.int f2), .val (.int r3), .val (.int f3), .val (.int (0 : Int32)), .val (.int (1 : Int32)), .val (.int (0 : Int32)), .unset, .unset, .unset, .unset, .unset, .unset, .unset, .unset, .unset, .unset]) rfl) ?_
                show Go p.tables e below _ (Tj39.setTop (mkF m 213 #[.val (.int p0), .val (.int p1), .val (.long p2), .second, .val (.long p3), .second, .val (.int ip), .val (.int lp), .val (.int (0 : Int32)), .val (.ref b2), .val (.int r1), .val (.int f1), .val (.int r2), .val (.int f2), .val (.int r3), .val (.int f3), .val (.int (0 : Int32)), .val (.int (1 : Int32)), .val (.int (0 : Int32)), .unset, .unset, .unset, .unset, .unset, .unset, .unset, .unset, .unset, .unset] []))
                refine Go.by (fun _ => XS.iload Xj39.here hx rfl (hb hby at_213) rfl) ?_
                refine Go.by (fun _ => XS.ifYes Xj39.here hx rfl (pc0 := 215) (pc' := 222) rfl (hb hby at_215) rfl ((if0 _ _).trans (teq (by decide)).1) (by decide) (by decide)) ?_
                show Go p.tables e below _ (Tj39.setTop (mkF m 222 #[.val (.int p0), .val (.int p1), .val (.long p2), .second, .val (.long p3), .second, .val (.int ip), .val (.int lp), .val (.int (0 : Int32)), .val (.ref b2), .val (.int r1), .val (.int f1), .val (.int r2), .val (.int f2), .val (.int r3), .val (.int f3), .val (.int (0 : Int32)), .val (.int (1 : Int32)), .val (.int (0 : Int32)), .unset, .unset, .unset, .unset, .unset, .unset, .unset, .unset, .unset, .unset] []))
                refine Go.by (fun _ => XS.lload Xj39.here hx rfl (hb hby at_222) rfl) ?_
                refine Go.by (fun _ => XS.lstore Xj39.here hx rfl (hb hby at_224) rfl (l' := #[.val (.int p0), .val (.int p1), .val (.long p2), .second, .val (.long p3), .second, .val (.int ip), .val (.int lp), .val (.int (0 : Int32)), .val (.ref b2), .val (.int r1), .val (.int f1), .val (.int r2), .val (.int f2), .val (.int r3), .val (.int f3), .val (.int (0 : Int32)), .val (.int (1 : Int32)), .val (.int (0 : Int32)), .val (.long p3), .second, .unset, .unset, .unset, .unset, .unset, .unset, .unset, .unset]) rfl) ?_
                show Go p.tables e below _ (Tj39.setTop (mkF m 226 #[.val (.int p0), .val (.int p1), .val (.long p2), .second, .val (.long p3), .second, .val (.int ip), .val (.int lp), .val (.int (0 : Int32)), .val (.ref b2), .val (.int r1), .val (.int f1), .val (.int r2), .val (.int f2), .val (.int r3), .val (.int f3), .val (.int (0 : Int32)), .val (.int (1 : Int32)), .val (.int (0 : Int32)), .val (.long p3), .second, .unset, .unset, .unset, .unset, .unset, .unset, .unset, .unset] []))
                refine Go.by (fun _ => XS.iload Xj39.here hx rfl (hb hby at_226) rfl) ?_
                refine Go.by (fun _ => XS.ifNo Xj39.here hx rfl (hb hby at_228) rfl ((if0 _ _).trans (feq (by decide)).1)) ?_
                show Go p.tables e below _ (Tj39.setTop (mkF m 231 #[.val (.int p0), .val (.int p1), .val (.long p2), .second, .val (.long p3), .second, .val (.int ip), .val (.int lp), .val (.int (0 : Int32)), .val (.ref b2), .val (.int r1), .val (.int f1), .val (.int r2), .val (.int f2), .val (.int r3), .val (.int f3), .val (.int (0 : Int32)), .val (.int (1 : Int32)), .val (.int (0 : Int32)), .val (.long p3), .second, .unset, .unset, .unset, .unset, .unset, .unset, .unset, .unset] []))
                refine Go.by (fun _ => XS.lloadN Xj39.here hx rfl (hb hby at_231) rfl) ?_
                refine Go.by (fun _ => XS.goto Xj39.here hx rfl (pc0 := 232) (pc' := 246) rfl (hb hby at_232) (by decide) (by decide)) ?_
                show Go p.tables e below _ (Tj39.setTop (mkF m 246 #[.val (.int p0), .val (.int p1), .val (.long p2), .second, .val (.long p3), .second, .val (.int ip), .val (.int lp), .val (.int (0 : Int32)), .val (.ref b2), .val (.int r1), .val (.int f1), .val (.int r2), .val (.int f2), .val (.int r3), .val (.int f3), .val (.int (0 : Int32)), .val (.int (1 : Int32)), .val (.int (0 : Int32)), .val (.long p3), .second, .unset, .unset, .unset, .unset, .unset, .unset, .unset, .unset] [(.long p2)]))
                refine Go.by (fun _ => XS.lstore Xj39.here hx rfl (hb hby at_246) rfl (l' := #[.val (.int p0), .val (.int p1), .val (.long p2), .second, .val (.long p3), .second, .val (.int ip), .val (.int lp), .val (.int (0 : Int32)), .val (.ref b2), .val (.int r1), .val (.int f1), .val (.int r2), .val (.int f2), .val (.int r3), .val (.int f3), .val (.int (0 : Int32)), .val (.int (1 : Int32)), .val (.int (0 : Int32)), .val (.long p3), .second, .val (.long p2), .second, .unset, .unset, .unset, .unset, .unset, .unset]) rfl) ?_
                show Go p.tables e below _ (Tj39.setTop (mkF m 248 #[.val (.int p0), .val (.int p1), .val (.long p2), .second, .val (.long p3), .second, .val (.int ip), .val (.int lp), .val (.int (0 : Int32)), .val (.ref b2), .val (.int r1), .val (.int f1), .val (.int r2), .val (.int f2), .val (.int r3), .val (.int f3), .val (.int (0 : Int32)), .val (.int (1 : Int32)), .val (.int (0 : Int32)), .val (.long p3), .second, .val (.long p2), .second, .unset, .unset, .unset, .unset, .unset, .unset] []))
                refine Go.by (fun _ => XS.aload Xj39.here hx rfl (hb hby at_248) rfl rfl) ?_
                refine Go.by (fun _ => XS.iload Xj39.here hx rfl (hb hby at_250) rfl) ?_
                refine Go.by (fun _ => XS.iload Xj39.here hx rfl (hb hby at_252) rfl) ?_
                obtain ⟨v43, T43, h43, X43, q43, st43⟩ := Xj39.callV hx hZ (y := (⟨"com/example/spotline/spotline/engine/Table", "getLong", "(II)J"⟩ : MethodName)) (z := (⟨"com/example/spotline/spotline/engine/Table", "getLong", "(II)J"⟩ : MethodName)) hown (tw hw 65 rfl) (tw hw 66 rfl) (notFace_of_selects (args := #[]) (mvT hZ (tw hw 68 rfl))) (tw hw 68 rfl) (tw hw 67 rfl) (tw hw 3 rfl) (tw hw 69 rfl) (by decide) (rm9 l Z a0 hw [] b2 r1 f1 oL4 dL6 kL4 kdL6 ip (((64 : Int32) * ip).toNatClampNeg) (fun i => if i = 0 then (.ref dL6) else .null) (fun t => if t = ((((r1 &&& (65535 : Int32)) * ip) + f1).toNatClampNeg) then (.long p2) else (fun t => if t = ((((r2 &&& (65535 : Int32)) * ip) + f2).toNatClampNeg) then (.long p3) else (fun _ => (.long 0)) t) t) p2 h14 n0 Zs15 f15_260 f15_263 f15_255 rfl V14 hc_r1_f1.1 hc_r1_f1.2.1 hc_r1_f1.2.2 (if_pos rfl)) f15_254 (g := (mkF m 254 #[.val (.int p0), .val (.int p1), .val (.long p2), .second, .val (.long p3), .second, .val (.int ip), .val (.int lp), .val (.int (0 : Int32)), .val (.ref b2), .val (.int r1), .val (.int f1), .val (.int r2), .val (.int f2), .val (.int r3), .val (.int f3), .val (.int (0 : Int32)), .val (.int (1 : Int32)), .val (.int (0 : Int32)), .val (.long p3), .second, .val (.long p2), .second, .unset, .unset, .unset, .unset, .unset, .unset] [(.int f1), (.int r1), (.ref b2)])) rfl (by rw [hml]; rfl) (argsL := [(.int r1), (.int f1)]) (rest := []) (lenOf pd6 rfl) rfl (hb hby at_254) rfl (by decide) (Nat.le_of_ble_eq_true rfl) (k' := 7) (n' := 440) rfl rfl (by decide) (by decide)
                refine Go.by st43 ?_
                obtain ⟨rfl, rfl⟩ := q43
                show Go p.tables e below _ (T43.setTop (mkF m 257 #[.val (.int p0), .val (.int p1), .val (.long p2), .second, .val (.long p3), .second, .val (.int ip), .val (.int lp), .val (.int (0 : Int32)), .val (.ref b2), .val (.int r1), .val (.int f1), .val (.int r2), .val (.int f2), .val (.int r3), .val (.int f3), .val (.int (0 : Int32)), .val (.int (1 : Int32)), .val (.int (0 : Int32)), .val (.long p3), .second, .val (.long p2), .second, .unset, .unset, .unset, .unset, .unset, .unset] [(.long p2)]))
                refine Go.by (fun _ => XS.lstore X43.here hx rfl (hb hby at_257) rfl (l' := #[.val (.int p0), .val (.int p1), .val (.long p2), .second, .val (.long p3), .second, .val (.int ip), .val (.int lp), .val (.int (0 : Int32)), .val (.ref b2), .val (.int r1), .val (.int f1), .val (.int r2), .val (.int f2), .val (.int r3), .val (.int f3), .val (.int (0 : Int32)), .val (.int (1 : Int32)), .val (.int (0 : Int32)), .val (.long p3), .second, .val (.long p2), .second, .val (.long p2), .second, .unset, .unset, .unset, .unset]) rfl) ?_
                show Go p.tables e below _ (T43.setTop (mkF m 259 #[.val (.int p0), .val (.int p1), .val (.long p2), .second, .val (.long p3), .second, .val (.int ip), .val (.int lp), .val (.int (0 : Int32)), .val (.ref b2), .val (.int r1), .val (.int f1), .val (.int r2), .val (.int f2), .val (.int r3), .val (.int f3), .val (.int (0 : Int32)), .val (.int (1 : Int32)), .val (.int (0 : Int32)), .val (.long p3), .second, .val (.long p2), .second, .val (.long p2), .second, .unset, .unset, .unset, .unset] []))
                refine Go.by (fun _ => XS.aload X43.here hx rfl (hb hby at_259) rfl rfl) ?_
                refine Go.by (fun _ => XS.iload X43.here hx rfl (hb hby at_261) rfl) ?_
                show Go p.tables e below _ (T43.setTop (mkF m 263 #[.val (.int p0), .val (.int p1), .val (.long p2), .second, .val (.long p3), .second, .val (.int ip), .val (.int lp), .val (.int (0 : Int32)), .val (.ref b2), .val (.int r1), .val (.int f1), .val (.int r2), .val (.int f2), .val (.int r3), .val (.int f3), .val (.int (0 : Int32)), .val (.int (1 : Int32)), .val (.int (0 : Int32)), .val (.long p3), .second, .val (.long p2), .second, .val (.long p2), .second, .unset, .unset, .unset, .unset] [(.int r2), (.ref b2)]))
                refine Go.by (fun _ => XS.iload X43.here hx rfl (hb hby at_263) rfl) ?_
                obtain ⟨v44, T44, h44, X44, q44, st44⟩ := X43.callV hx hZ (y := (⟨"com/example/spotline/spotline/engine/Table", "getLong", "(II)J"⟩ : MethodName)) (z := (⟨"com/example/spotline/spotline/engine/Table", "getLong", "(II)J"⟩ : MethodName)) hown (tw hw 65 rfl) (tw hw 66 rfl) (notFace_of_selects (args := #[]) (mvT hZ (tw hw 68 rfl))) (tw hw 68 rfl) (tw hw 67 rfl) (tw hw 3 rfl) (tw hw 69 rfl) (by decide) (rm9 l Z a0 hw [] b2 r2 f2 oL4 dL6 kL4 kdL6 ip (((64 : Int32) * ip).toNatClampNeg) (fun i => if i = 0 then (.ref dL6) else .null) (fun t => if t = ((((r1 &&& (65535 : Int32)) * ip) + f1).toNatClampNeg) then (.long p2) else (fun t => if t = ((((r2 &&& (65535 : Int32)) * ip) + f2).toNatClampNeg) then (.long p3) else (fun _ => (.long 0)) t) t) p3 h14 n0 Zs15 f15_260 f15_263 f15_255 rfl V14 hc_r2_f2.1 hc_r2_f2.2.1 hc_r2_f2.2.2 ((if_neg (fun q => hP16 ⟨(own_same h_r2.1 h_r2.2 hip1 hip2 h_f2.1 h_f2.2 h_r1.1 h_r1.2 h_f1.1 h_f1.2 q).1.symm, (own_same h_r2.1 h_r2.2 hip1 hip2 h_f2.1 h_f2.2 h_r1.1 h_r1.2 h_f1.1 h_f1.2 q).2.symm⟩)).trans (if_pos rfl))) f15_254 (g := (mkF m 265 #[.val (.int p0), .val (.int p1), .val (.long p2), .second, .val (.long p3), .second, .val (.int ip), .val (.int lp), .val (.int (0 : Int32)), .val (.ref b2), .val (.int r1), .val (.int f1), .val (.int r2), .val (.int f2), .val (.int r3), .val (.int f3), .val (.int (0 : Int32)), .val (.int (1 : Int32)), .val (.int (0 : Int32)), .val (.long p3), .second, .val (.long p2), .second, .val (.long p2), .second, .unset, .unset, .unset, .unset] [(.int f2), (.int r2), (.ref b2)])) rfl (by rw [hml]; rfl) (argsL := [(.int r2), (.int f2)]) (rest := []) (lenOf pd6 rfl) rfl (hb hby at_265) rfl (by decide) (Nat.le_of_ble_eq_true rfl) (k' := 7) (n' := 440) rfl rfl (by decide) (by decide)
                refine Go.by st44 ?_
                obtain ⟨rfl, rfl⟩ := q44
                show Go p.tables e below _ (T44.setTop (mkF m 268 #[.val (.int p0), .val (.int p1), .val (.long p2), .second, .val (.long p3), .second, .val (.int ip), .val (.int lp), .val (.int (0 : Int32)), .val (.ref b2), .val (.int r1), .val (.int f1), .val (.int r2), .val (.int f2), .val (.int r3), .val (.int f3), .val (.int (0 : Int32)), .val (.int (1 : Int32)), .val (.int (0 : Int32)), .val (.long p3), .second, .val (.long p2), .second, .val (.long p2), .second, .unset, .unset, .unset, .unset] [(.long p3)]))
                refine Go.by (fun _ => XS.lstore X44.here hx rfl (hb hby at_268) rfl (l' := #[.val (.int p0), .val (.int p1), .val (.long p2), .second, .val (.long p3), .second, .val (.int ip), .val (.int lp), .val (.int (0 : Int32)), .val (.ref b2), .val (.int r1), .val (.int f1), .val (.int r2), .val (.int f2), .val (.int r3), .val (.int f3), .val (.int (0 : Int32)), .val (.int (1 : Int32)), .val (.int (0 : Int32)), .val (.long p3), .second, .val (.long p2), .second, .val (.long p2), .second, .val (.long p3), .second, .unset, .unset]) rfl) ?_
                show Go p.tables e below _ (T44.setTop (mkF m 270 #[.val (.int p0), .val (.int p1), .val (.long p2), .second, .val (.long p3), .second, .val (.int ip), .val (.int lp), .val (.int (0 : Int32)), .val (.ref b2), .val (.int r1), .val (.int f1), .val (.int r2), .val (.int f2), .val (.int r3), .val (.int f3), .val (.int (0 : Int32)), .val (.int (1 : Int32)), .val (.int (0 : Int32)), .val (.long p3), .second, .val (.long p2), .second, .val (.long p2), .second, .val (.long p3), .second, .unset, .unset] []))
                refine Go.by (fun _ => XS.aload X44.here hx rfl (hb hby at_270) rfl rfl) ?_
                refine Go.by (fun _ => XS.iload X44.here hx rfl (hb hby at_272) rfl) ?_
                refine Go.by (fun _ => XS.iload X44.here hx rfl (hb hby at_274) rfl) ?_
                obtain ⟨v45, T45, h45, X45, q45, st45⟩ := X44.callV hx hZ (y := (⟨"com/example/spotline/spotline/engine/Table", "getLong", "(II)J"⟩ : MethodName)) (z := (⟨"com/example/spotline/spotline/engine/Table", "getLong", "(II)J"⟩ : MethodName)) hown (tw hw 65 rfl) (tw hw 66 rfl) (notFace_of_selects (args := #[]) (mvT hZ (tw hw 68 rfl))) (tw hw 68 rfl) (tw hw 67 rfl) (tw hw 3 rfl) (tw hw 69 rfl) (by decide) (rm9 l Z a0 hw [] b2 r3 f3 oL4 dL6 kL4 kdL6 ip (((64 : Int32) * ip).toNatClampNeg) (fun i => if i = 0 then (.ref dL6) else .null) (fun t => if t = ((((r1 &&& (65535 : Int32)) * ip) + f1).toNatClampNeg) then (.long p2) else (fun t => if t = ((((r2 &&& (65535 : Int32)) * ip) + f2).toNatClampNeg) then (.long p3) else (fun _ => (.long 0)) t) t) p2 h14 n0 Zs15 f15_260 f15_263 f15_255 rfl V14 hc_r3_f3.1 hc_r3_f3.2.1 hc_r3_f3.2.2 (if_pos (by rw [hP17.1, hP17.2]))) f15_254 (g := (mkF m 276 #[.val (.int p0), .val (.int p1), .val (.long p2), .second, .val (.long p3), .second, .val (.int ip), .val (.int lp), .val (.int (0 : Int32)), .val (.ref b2), .val (.int r1), .val (.int f1), .val (.int r2), .val (.int f2), .val (.int r3), .val (.int f3), .val (.int (0 : Int32)), .val (.int (1 : Int32)), .val (.int (0 : Int32)), .val (.long p3), .second, .val (.long p2), .second, .val (.long p2), .second, .val (.long p3), .second, .unset, .unset] [(.int f3), (.int r3), (.ref b2)])) rfl (by rw [hml]; rfl) (argsL := [(.int r3), (.int f3)]) (rest := []) (lenOf pd6 rfl) rfl (hb hby at_276) rfl (by decide) (Nat.le_of_ble_eq_true rfl) (k' := 7) (n' := 440) rfl rfl (by decide) (by decide)
                refine Go.by st45 ?_
                obtain ⟨rfl, rfl⟩ := q45
                show Go p.tables e below _ (T45.setTop (mkF m 279 #[.val (.int p0), .val (.int p1), .val (.long p2), .second, .val (.long p3), .second, .val (.int ip), .val (.int lp), .val (.int (0 : Int32)), .val (.ref b2), .val (.int r1), .val (.int f1), .val (.int r2), .val (.int f2), .val (.int r3), .val (.int f3), .val (.int (0 : Int32)), .val (.int (1 : Int32)), .val (.int (0 : Int32)), .val (.long p3), .second, .val (.long p2), .second, .val (.long p2), .second, .val (.long p3), .second, .unset, .unset] [(.long p2)]))
                refine Go.by (fun _ => XS.lstore X45.here hx rfl (hb hby at_279) rfl (l' := #[.val (.int p0), .val (.int p1), .val (.long p2), .second, .val (.long p3), .second, .val (.int ip), .val (.int lp), .val (.int (0 : Int32)), .val (.ref b2), .val (.int r1), .val (.int f1), .val (.int r2), .val (.int f2), .val (.int r3), .val (.int f3), .val (.int (0 : Int32)), .val (.int (1 : Int32)), .val (.int (0 : Int32)), .val (.long p3), .second, .val (.long p2), .second, .val (.long p2), .second, .val (.long p3), .second, .val (.long p2), .second]) rfl) ?_
                show Go p.tables e below _ (T45.setTop (mkF m 281 #[.val (.int p0), .val (.int p1), .val (.long p2), .second, .val (.long p3), .second, .val (.int ip), .val (.int lp), .val (.int (0 : Int32)), .val (.ref b2), .val (.int r1), .val (.int f1), .val (.int r2), .val (.int f2), .val (.int r3), .val (.int f3), .val (.int (0 : Int32)), .val (.int (1 : Int32)), .val (.int (0 : Int32)), .val (.long p3), .second, .val (.long p2), .second, .val (.long p2), .second, .val (.long p3), .second, .val (.long p2), .second] []))
                refine Go.by (fun _ => XS.lload X45.here hx rfl (hb hby at_281) rfl) ?_
                refine Go.by (fun _ => XS.lloadN X45.here hx rfl (hb hby at_283) rfl) ?_
                refine Go.by (fun _ => XS.lcmp X45.here hx rfl (hb hby at_284) rfl) ?_
                show Go p.tables e below _ (T45.setTop (mkF m 285 #[.val (.int p0), .val (.int p1), .val (.long p2), .second, .val (.long p3), .second, .val (.int ip), .val (.int lp), .val (.int (0 : Int32)), .val (.ref b2), .val (.int r1), .val (.int f1), .val (.int r2), .val (.int f2), .val (.int r3), .val (.int f3), .val (.int (0 : Int32)), .val (.int (1 : Int32)), .val (.int (0 : Int32)), .val (.long p3), .second, .val (.long p2), .second, .val (.long p2), .second, .val (.long p3), .second, .val (.long p2), .second] [(.int (lcmpW p2 p2))]))
                refine Go.by (fun _ => XS.ifNo X45.here hx rfl (hb hby at_285) rfl ((if0 _ _).trans (teq ((lw_eq _ _).mpr rfl)).2)) ?_
                show Go p.tables e below _ (T45.setTop (mkF m 288 #[.val (.int p0), .val (.int p1), .val (.long p2), .second, .val (.long p3), .second, .val (.int ip), .val (.int lp), .val (.int (0 : Int32)), .val (.ref b2), .val (.int r1), .val (.int f1), .val (.int r2), .val (.int f2), .val (.int r3), .val (.int f3), .val (.int (0 : Int32)), .val (.int (1 : Int32)), .val (.int (0 : Int32)), .val (.long p3), .second, .val (.long p2), .second, .val (.long p2), .second, .val (.long p3), .second, .val (.long p2), .second] []))
                refine Go.by (fun _ => XS.lload X45.here hx rfl (hb hby at_288) rfl) ?_
                refine Go.by (fun _ => XS.lload X45.here hx rfl (hb hby at_290) rfl) ?_
                refine Go.by (fun _ => XS.lcmp X45.here hx rfl (hb hby at_292) rfl) ?_
                show Go p.tables e below _ (T45.setTop (mkF m 293 #[.val (.int p0), .val (.int p1), .val (.long p2), .second, .val (.long p3), .second, .val (.int ip), .val (.int lp), .val (.int (0 : Int32)), .val (.ref b2), .val (.int r1), .val (.int f1), .val (.int r2), .val (.int f2), .val (.int r3), .val (.int f3), .val (.int (0 : Int32)), .val (.int (1 : Int32)), .val (.int (0 : Int32)), .val (.long p3), .second, .val (.long p2), .second, .val (.long p2), .second, .val (.long p3), .second, .val (.long p2), .second] [(.int (lcmpW p3 p3))]))
                refine Go.by (fun _ => XS.ifNo X45.here hx rfl (hb hby at_293) rfl ((if0 _ _).trans (teq ((lw_eq _ _).mpr rfl)).2)) ?_
                show Go p.tables e below _ (T45.setTop (mkF m 296 #[.val (.int p0), .val (.int p1), .val (.long p2), .second, .val (.long p3), .second, .val (.int ip), .val (.int lp), .val (.int (0 : Int32)), .val (.ref b2), .val (.int r1), .val (.int f1), .val (.int r2), .val (.int f2), .val (.int r3), .val (.int f3), .val (.int (0 : Int32)), .val (.int (1 : Int32)), .val (.int (0 : Int32)), .val (.long p3), .second, .val (.long p2), .second, .val (.long p2), .second, .val (.long p3), .second, .val (.long p2), .second] []))
                refine Go.by (fun _ => XS.lload X45.here hx rfl (hb hby at_296) rfl) ?_
                refine Go.by (fun _ => XS.lload X45.here hx rfl (hb hby at_298) rfl) ?_
                refine Go.by (fun _ => XS.lcmp X45.here hx rfl (hb hby at_300) rfl) ?_
                show Go p.tables e below _ (T45.setTop (mkF m 301 #[.val (.int p0), .val (.int p1), .val (.long p2), .second, .val (.long p3), .second, .val (.int ip), .val (.int lp), .val (.int (0 : Int32)), .val (.ref b2), .val (.int r1), .val (.int f1), .val (.int r2), .val (.int f2), .val (.int r3), .val (.int f3), .val (.int (0 : Int32)), .val (.int (1 : Int32)), .val (.int (0 : Int32)), .val (.long p3), .second, .val (.long p2), .second, .val (.long p2), .second, .val (.long p3), .second, .val (.long p2), .second] [(.int (lcmpW p2 p2))]))
                refine Go.by (fun _ => XS.ifNo X45.here hx rfl (hb hby at_301) rfl ((if0 _ _).trans (teq ((lw_eq _ _).mpr rfl)).2)) ?_
                show Go p.tables e below _ (T45.setTop (mkF m 304 #[.val (.int p0), .val (.int p1), .val (.long p2), .second, .val (.long p3), .second, .val (.int ip), .val (.int lp), .val (.int (0 : Int32)), .val (.ref b2), .val (.int r1), .val (.int f1), .val (.int r2), .val (.int f2), .val (.int r3), .val (.int f3), .val (.int (0 : Int32)), .val (.int (1 : Int32)), .val (.int (0 : Int32)), .val (.long p3), .second, .val (.long p2), .second, .val (.long p2), .second, .val (.long p3), .second, .val (.long p2), .second] []))
                refine Go.by (fun _ => XS.iconst X45.here hx rfl (hb hby at_304)) ?_
                refine Go.by (fun _ => XS.goto X45.here hx rfl (pc0 := 305) (pc' := 309) rfl (hb hby at_305) (by decide) (by decide)) ?_
                show Go p.tables e below _ (T45.setTop (mkF m 309 #[.val (.int p0), .val (.int p1), .val (.long p2), .second, .val (.long p3), .second, .val (.int ip), .val (.int lp), .val (.int (0 : Int32)), .val (.ref b2), .val (.int r1), .val (.int f1), .val (.int r2), .val (.int f2), .val (.int r3), .val (.int f3), .val (.int (0 : Int32)), .val (.int (1 : Int32)), .val (.int (0 : Int32)), .val (.long p3), .second, .val (.long p2), .second, .val (.long p2), .second, .val (.long p3), .second, .val (.long p2), .second] [(.int (1 : Int32))]))
                exact Go.retN X45 hx hlk (z' := (1 : Int32)) hret (by simp) (hb hby at_309) rfl (by decide) (by decide) rfl
            refine Go.by (fun _ => XS.iload Xj38.here hx rfl (hb hby at_192) rfl) ?_
            refine Go.by (fun _ => XS.iload Xj38.here hx rfl (hb hby at_194) rfl) ?_
            show Go p.tables e below _ (Tj38.setTop (mkF m 196 #[.val (.int p0), .val (.int p1), .val (.long p2), .second, .val (.long p3), .second, .val (.int ip), .val (.int lp), .val (.int (0 : Int32)), .val (.ref b2), .val (.int r1), .val (.int f1), .val (.int r2), .val (.int f2), .val (.int r3), .val (.int f3), .val (.int (0 : Int32)), .val (.int (1 : Int32)), .unset, .unset, .unset, .unset, .unset, .unset, .unset, .unset, .unset, .unset, .unset] [(.int r3), (.int r2)]))
            by_cases hc196_46 : r2 = r3
            · skip
              refine Go.by (fun _ => XS.icmpNo Xj38.here hx rfl (hb hby at_196) rfl (teq hc196_46).2) ?_
              show Go p.tables e below _ (Tj38.setTop (mkF m 199 #[.val (.int p0), .val (.int p1), .val (.long p2), .second, .val (.long p3), .second, .val (.int ip), .val (.int lp), .val (.int (0 : Int32)), .val (.ref b2), .val (.int r1), .val (.int f1), .val (.int r2), .val (.int f2), .val (.int r3), .val (.int f3), .val (.int (0 : Int32)), .val (.int (1 : Int32)), .unset, .unset, .unset, .unset, .unset, .unset, .unset, .unset, .unset, .unset, .unset] []))
              refine Go.by (fun _ => XS.iload Xj38.here hx rfl (hb hby at_199) rfl) ?_
              refine Go.by (fun _ => XS.iload Xj38.here hx rfl (hb hby at_201) rfl) ?_
              by_cases hc203_47 : f2 = f3
              · skip
                refine Go.by (fun _ => XS.icmpNo Xj38.here hx rfl (hb hby at_203) rfl (teq hc203_47).2) ?_
                show Go p.tables e below _ (Tj38.setTop (mkF m 206 #[.val (.int p0), .val (.int p1), .val (.long p2), .second, .val (.long p3), .second, .val (.int ip), .val (.int lp), .val (.int (0 : Int32)), .val (.ref b2), .val (.int r1), .val (.int f1), .val (.int r2), .val (.int f2), .val (.int r3), .val (.int f3), .val (.int (0 : Int32)), .val (.int (1 : Int32)), .unset, .unset, .unset, .unset, .unset, .unset, .unset, .unset, .unset, .unset, .unset] []))
                refine Go.by (fun _ => XS.iconst Xj38.here hx rfl (hb hby at_206)) ?_
                refine Go.by (fun _ => XS.goto Xj38.here hx rfl (pc0 := 207) (pc' := 211) rfl (hb hby at_207) (by decide) (by decide)) ?_
                show Go p.tables e below _ (Tj38.setTop (mkF m 211 #[.val (.int p0), .val (.int p1), .val (.long p2), .second, .val (.long p3), .second, .val (.int ip), .val (.int lp), .val (.int (0 : Int32)), .val (.ref b2), .val (.int r1), .val (.int f1), .val (.int r2), .val (.int f2), .val (.int r3), .val (.int f3), .val (.int (0 : Int32)), .val (.int (1 : Int32)), .unset, .unset, .unset, .unset, .unset, .unset, .unset, .unset, .unset, .unset, .unset] [(.int (1 : Int32))]))
                exact J39 _ Xj38 _ (Or.inl ⟨rfl, hc196_46, hc203_47⟩)
              · skip
                refine Go.by (fun _ => XS.icmpYes Xj38.here hx rfl (pc0 := 203) (pc' := 210) rfl (hb hby at_203) rfl (feq hc203_47).2 (by decide) (by decide)) ?_
                show Go p.tables e below _ (Tj38.setTop (mkF m 210 #[.val (.int p0), .val (.int p1), .val (.long p2), .second, .val (.long p3), .second, .val (.int ip), .val (.int lp), .val (.int (0 : Int32)), .val (.ref b2), .val (.int r1), .val (.int f1), .val (.int r2), .val (.int f2), .val (.int r3), .val (.int f3), .val (.int (0 : Int32)), .val (.int (1 : Int32)), .unset, .unset, .unset, .unset, .unset, .unset, .unset, .unset, .unset, .unset, .unset] []))
                refine Go.by (fun _ => XS.iconst Xj38.here hx rfl (hb hby at_210)) ?_
                show Go p.tables e below _ (Tj38.setTop (mkF m 211 #[.val (.int p0), .val (.int p1), .val (.long p2), .second, .val (.long p3), .second, .val (.int ip), .val (.int lp), .val (.int (0 : Int32)), .val (.ref b2), .val (.int r1), .val (.int f1), .val (.int r2), .val (.int f2), .val (.int r3), .val (.int f3), .val (.int (0 : Int32)), .val (.int (1 : Int32)), .unset, .unset, .unset, .unset, .unset, .unset, .unset, .unset, .unset, .unset, .unset] [(.int (0 : Int32))]))
                exact J39 _ Xj38 _ (Or.inr ⟨rfl, fun q => hc203_47 q.2⟩)
            · skip
              refine Go.by (fun _ => XS.icmpYes Xj38.here hx rfl (pc0 := 196) (pc' := 210) rfl (hb hby at_196) rfl (feq hc196_46).2 (by decide) (by decide)) ?_
              show Go p.tables e below _ (Tj38.setTop (mkF m 210 #[.val (.int p0), .val (.int p1), .val (.long p2), .second, .val (.long p3), .second, .val (.int ip), .val (.int lp), .val (.int (0 : Int32)), .val (.ref b2), .val (.int r1), .val (.int f1), .val (.int r2), .val (.int f2), .val (.int r3), .val (.int f3), .val (.int (0 : Int32)), .val (.int (1 : Int32)), .unset, .unset, .unset, .unset, .unset, .unset, .unset, .unset, .unset, .unset, .unset] []))
              refine Go.by (fun _ => XS.iconst Xj38.here hx rfl (hb hby at_210)) ?_
              show Go p.tables e below _ (Tj38.setTop (mkF m 211 #[.val (.int p0), .val (.int p1), .val (.long p2), .second, .val (.long p3), .second, .val (.int ip), .val (.int lp), .val (.int (0 : Int32)), .val (.ref b2), .val (.int r1), .val (.int f1), .val (.int r2), .val (.int f2), .val (.int r3), .val (.int f3), .val (.int (0 : Int32)), .val (.int (1 : Int32)), .unset, .unset, .unset, .unset, .unset, .unset, .unset, .unset, .unset, .unset, .unset] [(.int (0 : Int32))]))
              exact J39 _ Xj38 _ (Or.inr ⟨rfl, fun q => hc196_46 q.1⟩)
          · skip
            show Go p.tables e below _ (Tj38.setTop (mkF m 190 #[.val (.int p0), .val (.int p1), .val (.long p2), .second, .val (.long p3), .second, .val (.int ip), .val (.int lp), .val (.int (0 : Int32)), .val (.ref b2), .val (.int r1), .val (.int f1), .val (.int r2), .val (.int f2), .val (.int r3), .val (.int f3), .val (.int (0 : Int32)), .unset, .unset, .unset, .unset, .unset, .unset, .unset, .unset, .unset, .unset, .unset, .unset] [(.int (0 : Int32))]))
            refine Go.by (fun _ => XS.istore Xj38.here hx rfl (hb hby at_190) rfl (l' := #[.val (.int p0), .val (.int p1), .val (.long p2), .second, .val (.long p3), .second, .val (.int ip), .val (.int lp), .val (.int (0 : Int32)), .val (.ref b2), .val (.int r1), .val (.int f1), .val (.int r2), .val (.int f2), .val (.int r3), .val (.int f3), .val (.int (0 : Int32)), .val (.int (0 : Int32)), .unset, .unset, .unset, .unset, .unset, .unset, .unset, .unset, .unset, .unset, .unset]) rfl) ?_
            show Go p.tables e below _ (Tj38.setTop (mkF m 192 #[.val (.int p0), .val (.int p1), .val (.long p2), .second, .val (.long p3), .second, .val (.int ip), .val (.int lp), .val (.int (0 : Int32)), .val (.ref b2), .val (.int r1), .val (.int f1), .val (.int r2), .val (.int f2), .val (.int r3), .val (.int f3), .val (.int (0 : Int32)), .val (.int (0 : Int32)), .unset, .unset, .unset, .unset, .unset, .unset, .unset, .unset, .unset, .unset, .unset] []))
            have J48 : ∀ (Tj48 : State), Sd n0 p l e room_1 s m #[(.int p0), (.int p1), (.long p2), (.long p3)] below meth c Tj48 h14 7 440 → ∀ (jb : Int32), ((jb = 1 ∧ r2 = r3 ∧ f2 = f3) ∨ (jb = 0 ∧ ¬ (r2 = r3 ∧ f2 = f3))) → Go p.tables e below (Ret s n0 (fun v h => v = some (.int 1)) room_1.cells room_1.slots) (Tj48.setTop (mkF m 211 #[.val (.int p0), .val (.int p1), .val (.long p2), .second, .val (.long p3), .second, .val (.int ip), .val (.int lp), .val (.int (0 : Int32)), .val (.ref b2), .val (.int r1), .val (.int f1), .val (.int r2), .val (.int f2), .val (.int r3), .val (.int f3), .val (.int (0 : Int32)), .val (.int (0 : Int32)), .unset, .unset, .unset, .unset, .unset, .unset, .unset, .unset, .unset, .unset, .unset] [(.int jb)])) := by
              intro Tj48 Xj48 jb hj48
              rcases hj48 with ⟨rfl, hP18⟩ | ⟨rfl, hP18⟩
              · skip
                show Go p.tables e below _ (Tj48.setTop (mkF m 211 #[.val (.int p0), .val (.int p1), .val (.long p2), .second, .val (.long p3), .second, .val (.int ip), .val (.int lp), .val (.int (0 : Int32)), .val (.ref b2), .val (.int r1), .val (.int f1), .val (.int r2), .val (.int f2), .val (.int r3), .val (.int f3), .val (.int (0 : Int32)), .val (.int (0 : Int32)), .unset, .unset, .unset, .unset, .unset, .unset, .unset, .unset, .unset, .unset, .unset] [(.int (1 : Int32))]))
                refine Go.by (fun _ => XS.istore Xj48.here hx rfl (hb hby at_211) rfl (l' := #[.val (.int p0), .val (.int p1), .val (.long p2), .second, .val (.long p3), .second, .val (.int ip), .val (.int lp), .val (.int (0 : Int32)), .val (.ref b2), .val (.int r1), .val (.int f1), .val (.int r2), .val (.int f2), .val (.int r3), .val (.int f3), .val (.int (0 : Int32)), .val (.int (0 : Int32)), .val (.int (1 : Int32)), .unset, .unset, .unset, .unset, .unset, .unset, .unset, .unset, .unset, .unset]) rfl) ?_
                show Go p.tables e below _ (Tj48.setTop (mkF m 213 #[.val (.int p0), .val (.int p1), .val (.long p2), .second, .val (.long p3), .second, .val (.int ip), .val (.int lp), .val (.int (0 : Int32)), .val (.ref b2), .val (.int r1), .val (.int f1), .val (.int r2), .val (.int f2), .val (.int r3), .val (.int f3), .val (.int (0 : Int32)), .val (.int (0 : Int32)), .val (.int (1 : Int32)), .unset, .unset, .unset, .unset, .unset, .unset, .unset, .unset, .unset, .unset] []))
                refine Go.by (fun _ => XS.iload Xj48.here hx rfl (hb hby at_213) rfl) ?_
                refine Go.by (fun _ => XS.ifYes Xj48.here hx rfl (pc0 := 215) (pc' := 222) rfl (hb hby at_215) rfl ((if0 _ _).trans (teq (by decide)).1) (by decide) (by decide)) ?_
                show Go p.tables e below _ (Tj48.setTop (mkF m 222 #[.val (.int p0), .val (.int p1), .val (.long p2), .second, .val (.long p3), .second, .val (.int ip), .val (.int lp), .val (.int (0 : Int32)), .val (.ref b2), .val (.int r1), .val (.int f1), .val (.int r2), .val (.int f2), .val (.int r3), .val (.int f3), .val (.int (0 : Int32)), .val (.int (0 : Int32)), .val (.int (1 : Int32)), .unset, .unset, .unset, .unset, .unset, .unset, .unset, .unset, .unset, .unset] []))
                refine Go.by (fun _ => XS.lload Xj48.here hx rfl (hb hby at_222) rfl) ?_
                refine Go.by (fun _ => XS.lstore Xj48.here hx rfl (hb hby at_224) rfl (l' := #[.val (.int p0), .val (.int p1), .val (.long p2), .second, .val (.long p3), .second, .val (.int ip), .val (.int lp), .val (.int (0 : Int32)), .val (.ref b2), .val (.int r1), .val (.int f1), .val (.int r2), .val (.int f2), .val (.int r3), .val (.int f3), .val (.int (0 : Int32)), .val (.int (0 : Int32)), .val (.int (1 : Int32)), .val (.long p3), .second, .unset, .unset, .unset, .unset, .unset, .unset, .unset, .unset]) rfl) ?_
                show Go p.tables e below _ (Tj48.setTop (mkF m 226 #[.val (.int p0), .val (.int p1), .val (.long p2), .second, .val (.long p3), .second, .val (.int ip), .val (.int lp), .val (.int (0 : Int32)), .val (.ref b2), .val (.int r1), .val (.int f1), .val (.int r2), .val (.int f2), .val (.int r3), .val (.int f3), .val (.int (0 : Int32)), .val (.int (0 : Int32)), .val (.int (1 : Int32)), .val (.long p3), .second, .unset, .unset, .unset, .unset, .unset, .unset, .unset, .unset] []))
                refine Go.by (fun _ => XS.iload Xj48.here hx rfl (hb hby at_226) rfl) ?_
                refine Go.by (fun _ => XS.ifYes Xj48.here hx rfl (pc0 := 228) (pc' := 235) rfl (hb hby at_228) rfl ((if0 _ _).trans (teq (by decide)).1) (by decide) (by decide)) ?_
                show Go p.tables e below _ (Tj48.setTop (mkF m 235 #[.val (.int p0), .val (.int p1), .val (.long p2), .second, .val (.long p3), .second, .val (.int ip), .val (.int lp), .val (.int (0 : Int32)), .val (.ref b2), .val (.int r1), .val (.int f1), .val (.int r2), .val (.int f2), .val (.int r3), .val (.int f3), .val (.int (0 : Int32)), .val (.int (0 : Int32)), .val (.int (1 : Int32)), .val (.long p3), .second, .unset, .unset, .unset, .unset, .unset, .unset, .unset, .unset] []))
                refine Go.by (fun _ => XS.iload Xj48.here hx rfl (hb hby at_235) rfl) ?_
                show Go p.tables e below _ (Tj48.setTop (mkF m 237 #[.val (.int p0), .val (.int p1), .val (.long p2), .second, .val (.long p3), .second, .val (.int ip), .val (.int lp), .val (.int (0 : Int32)), .val (.ref b2), .val (.int r1), .val (.int f1), .val (.int r2), .val (.int f2), .val (.int r3), .val (.int f3), .val (.int (0 : Int32)), .val (.int (0 : Int32)), .val (.int (1 : Int32)), .val (.long p3), .second, .unset, .unset, .unset, .unset, .unset, .unset, .unset, .unset] [(.int (1 : Int32))]))
                refine Go.by (fun _ => XS.ifNo Xj48.here hx rfl (hb hby at_237) rfl ((if0 _ _).trans (feq (by decide)).1)) ?_
                show Go p.tables e below _ (Tj48.setTop (mkF m 240 #[.val (.int p0), .val (.int p1), .val (.long p2), .second, .val (.long p3), .second, .val (.int ip), .val (.int lp), .val (.int (0 : Int32)), .val (.ref b2), .val (.int r1), .val (.int f1), .val (.int r2), .val (.int f2), .val (.int r3), .val (.int f3), .val (.int (0 : Int32)), .val (.int (0 : Int32)), .val (.int (1 : Int32)), .val (.long p3), .second, .unset, .unset, .unset, .unset, .unset, .unset, .unset, .unset] []))
                refine Go.by (fun _ => XS.lload Xj48.here hx rfl (hb hby at_240) rfl) ?_
                refine Go.by (fun _ => XS.goto Xj48.here hx rfl (pc0 := 242) (pc' := 246) rfl (hb hby at_242) (by decide) (by decide)) ?_
                show Go p.tables e below _ (Tj48.setTop (mkF m 246 #[.val (.int p0), .val (.int p1), .val (.long p2), .second, .val (.long p3), .second, .val (.int ip), .val (.int lp), .val (.int (0 : Int32)), .val (.ref b2), .val (.int r1), .val (.int f1), .val (.int r2), .val (.int f2), .val (.int r3), .val (.int f3), .val (.int (0 : Int32)), .val (.int (0 : Int32)), .val (.int (1 : Int32)), .val (.long p3), .second, .unset, .unset, .unset, .unset, .unset, .unset, .unset, .unset] [(.long p3)]))
                refine Go.by (fun _ => XS.lstore Xj48.here hx rfl (hb hby at_246) rfl (l' := #[.val (.int p0), .val (.int p1), .val (.long p2), .second, .val (.long p3), .second, .val (.int ip), .val (.int lp), .val (.int (0 : Int32)), .val (.ref b2), .val (.int r1), .val (.int f1), .val (.int r2), .val (.int f2), .val (.int r3), .val (.int f3), .val (.int (0 : Int32)), .val (.int (0 : Int32)), .val (.int (1 : Int32)), .val (.long p3), .second, .val (.long p3), .second, .unset, .unset, .unset, .unset, .unset, .unset]) rfl) ?_
                show Go p.tables e below _ (Tj48.setTop (mkF m 248 #[.val (.int p0), .val (.int p1), .val (.long p2), .second, .val (.long p3), .second, .val (.int ip), .val (.int lp), .val (.int (0 : Int32)), .val (.ref b2), .val (.int r1), .val (.int f1), .val (.int r2), .val (.int f2), .val (.int r3), .val (.int f3), .val (.int (0 : Int32)), .val (.int (0 : Int32)), .val (.int (1 : Int32)), .val (.long p3), .second, .val (.long p3), .second, .unset, .unset, .unset, .unset, .unset, .unset] []))
                refine Go.by (fun _ => XS.aload Xj48.here hx rfl (hb hby at_248) rfl rfl) ?_
                refine Go.by (fun _ => XS.iload Xj48.here hx rfl (hb hby at_250) rfl) ?_
                refine Go.by (fun _ => XS.iload Xj48.here hx rfl (hb hby at_252) rfl) ?_
                obtain ⟨v49, T49, h49, X49, q49, st49⟩ := Xj48.callV hx hZ (y := (⟨"com/example/spotline/spotline/engine/Table", "getLong", "(II)J"⟩ : MethodName)) (z := (⟨"com/example/spotline/spotline/engine/Table", "getLong", "(II)J"⟩ : MethodName)) hown (tw hw 65 rfl) (tw hw 66 rfl) (notFace_of_selects (args := #[]) (mvT hZ (tw hw 68 rfl))) (tw hw 68 rfl) (tw hw 67 rfl) (tw hw 3 rfl) (tw hw 69 rfl) (by decide) (rm9 l Z a0 hw [] b2 r1 f1 oL4 dL6 kL4 kdL6 ip (((64 : Int32) * ip).toNatClampNeg) (fun i => if i = 0 then (.ref dL6) else .null) (fun t => if t = ((((r1 &&& (65535 : Int32)) * ip) + f1).toNatClampNeg) then (.long p2) else (fun t => if t = ((((r2 &&& (65535 : Int32)) * ip) + f2).toNatClampNeg) then (.long p3) else (fun _ => (.long 0)) t) t) p2 h14 n0 Zs15 f15_260 f15_263 f15_255 rfl V14 hc_r1_f1.1 hc_r1_f1.2.1 hc_r1_f1.2.2 (if_pos rfl)) f15_254 (g := (mkF m 254 #[.val (.int p0), .val (.int p1), .val (.long p2), .second, .val (.long p3), .second, .val (.int ip), .val (.int lp), .val (.int (0 : Int32)), .val (.ref b2), .val (.int r1), .val (.int f1), .val (.int r2), .val (.int f2), .val (.int r3), .val (.int f3), .val (.int (0 : Int32)), .val (.int (0 : Int32)), .val (.int (1 : Int32)), .val (.long p3), .second, .val (.long p3), .second, .unset, .unset, .unset, .unset, .unset, .unset] [(.int f1), (.int r1), (.ref b2)])) rfl (by rw [hml]; rfl) (argsL := [(.int r1), (.int f1)]) (rest := []) (lenOf pd6 rfl) rfl (hb hby at_254) rfl (by decide) (Nat.le_of_ble_eq_true rfl) (k' := 7) (n' := 440) rfl rfl (by decide) (by decide)
                refine Go.by st49 ?_
                obtain ⟨rfl, rfl⟩ := q49
                show Go p.tables e below _ (T49.setTop (mkF m 257 #[.val (.int p0), .val (.int p1), .val (.long p2), .second, .val (.long p3), .second, .val (.int ip), .val (.int lp), .val (.int (0 : Int32)), .val (.ref b2), .val (.int r1), .val (.int f1), .val (.int r2), .val (.int f2), .val (.int r3), .val (.int f3), .val (.int (0 : Int32)), .val (.int (0 : Int32)), .val (.int (1 : Int32)), .val (.long p3), .second, .val (.long p3), .second, .unset, .unset, .unset, .unset, .unset, .unset] [(.long p2)]))
                refine Go.by (fun _ => XS.lstore X49.here hx rfl (hb hby at_257) rfl (l' := #[.val (.int p0), .val (.int p1), .val (.long p2), .second, .val (.long p3), .second, .val (.int ip), .val (.int lp), .val (.int (0 : Int32)), .val (.ref b2), .val (.int r1), .val (.int f1), .val (.int r2), .val (.int f2), .val (.int r3), .val (.int f3), .val (.int (0 : Int32)), .val (.int (0 : Int32)), .val (.int (1 : Int32)), .val (.long p3), .second, .val (.long p3), .second, .val (.long p2), .second, .unset, .unset, .unset, .unset]) rfl) ?_
                show Go p.tables e below _ (T49.setTop (mkF m 259 #[.val (.int p0), .val (.int p1), .val (.long p2), .second, .val (.long p3), .second, .val (.int ip), .val (.int lp), .val (.int (0 : Int32)), .val (.ref b2), .val (.int r1), .val (.int f1), .val (.int r2), .val (.int f2), .val (.int r3), .val (.int f3), .val (.int (0 : Int32)), .val (.int (0 : Int32)), .val (.int (1 : Int32)), .val (.long p3), .second, .val (.long p3), .second, .val (.long p2), .second, .unset, .unset, .unset, .unset] []))
                refine Go.by (fun _ => XS.aload X49.here hx rfl (hb hby at_259) rfl rfl) ?_
                refine Go.by (fun _ => XS.iload X49.here hx rfl (hb hby at_261) rfl) ?_
                refine Go.by (fun _ => XS.iload X49.here hx rfl (hb hby at_263) rfl) ?_
                obtain ⟨v50, T50, h50, X50, q50, st50⟩ := X49.callV hx hZ (y := (⟨"com/example/spotline/spotline/engine/Table", "getLong", "(II)J"⟩ : MethodName)) (z := (⟨"com/example/spotline/spotline/engine/Table", "getLong", "(II)J"⟩ : MethodName)) hown (tw hw 65 rfl) (tw hw 66 rfl) (notFace_of_selects (args := #[]) (mvT hZ (tw hw 68 rfl))) (tw hw 68 rfl) (tw hw 67 rfl) (tw hw 3 rfl) (tw hw 69 rfl) (by decide) (rm9 l Z a0 hw [] b2 r2 f2 oL4 dL6 kL4 kdL6 ip (((64 : Int32) * ip).toNatClampNeg) (fun i => if i = 0 then (.ref dL6) else .null) (fun t => if t = ((((r1 &&& (65535 : Int32)) * ip) + f1).toNatClampNeg) then (.long p2) else (fun t => if t = ((((r2 &&& (65535 : Int32)) * ip) + f2).toNatClampNeg) then (.long p3) else (fun _ => (.long 0)) t) t) p3 h14 n0 Zs15 f15_260 f15_263 f15_255 rfl V14 hc_r2_f2.1 hc_r2_f2.2.1 hc_r2_f2.2.2 ((if_neg (fun q => hP16 ⟨(own_same h_r2.1 h_r2.2 hip1 hip2 h_f2.1 h_f2.2 h_r1.1 h_r1.2 h_f1.1 h_f1.2 q).1.symm, (own_same h_r2.1 h_r2.2 hip1 hip2 h_f2.1 h_f2.2 h_r1.1 h_r1.2 h_f1.1 h_f1.2 q).2.symm⟩)).trans (if_pos rfl))) f15_254 (g := (mkF m 265 #[.val (.int p0), .val (.int p1), .val (.long p2), .second, .val (.long p3), .second, .val (.int ip), .val (.int lp), .val (.int (0 : Int32)), .val (.ref b2), .val (.int r1), .val (.int f1), .val (.int r2), .val (.int f2), .val (.int r3), .val (.int f3), .val (.int (0 : Int32)), .val (.int (0 : Int32)), .val (.int (1 : Int32)), .val (.long p3), .second, .val (.long p3), .second, .val (.long p2), .second, .unset, .unset, .unset, .unset] [(.int f2), (.int r2), (.ref b2)])) rfl (by rw [hml]; rfl) (argsL := [(.int r2), (.int f2)]) (rest := []) (lenOf pd6 rfl) rfl (hb hby at_265) rfl (by decide) (Nat.le_of_ble_eq_true rfl) (k' := 7) (n' := 440) rfl rfl (by decide) (by decide)
                refine Go.by st50 ?_
                obtain ⟨rfl, rfl⟩ := q50
                show Go p.tables e below _ (T50.setTop (mkF m 268 #[.val (.int p0), .val (.int p1), .val (.long p2), .second, .val (.long p3), .second, .val (.int ip), .val (.int lp), .val (.int (0 : Int32)), .val (.ref b2), .val (.int r1), .val (.int f1), .val (.int r2), .val (.int f2), .val (.int r3), .val (.int f3), .val (.int (0 : Int32)), .val (.int (0 : Int32)), .val (.int (1 : Int32)), .val (.long p3), .second, .val (.long p3), .second, .val (.long p2), .second, .unset, .unset, .unset, .unset] [(.long p3)]))
                refine Go.by (fun _ => XS.lstore X50.here hx rfl (hb hby at_268) rfl (l' := #[.val (.int p0), .val (.int p1), .val (.long p2), .second, .val (.long p3), .second, .val (.int ip), .val (.int lp), .val (.int (0 : Int32)), .val (.ref b2), .val (.int r1), .val (.int f1), .val (.int r2), .val (.int f2), .val (.int r3), .val (.int f3), .val (.int (0 : Int32)), .val (.int (0 : Int32)), .val (.int (1 : Int32)), .val (.long p3), .second, .val (.long p3), .second, .val (.long p2), .second, .val (.long p3), .second, .unset, .unset]) rfl) ?_
                show Go p.tables e below _ (T50.setTop (mkF m 270 #[.val (.int p0), .val (.int p1), .val (.long p2), .second, .val (.long p3), .second, .val (.int ip), .val (.int lp), .val (.int (0 : Int32)), .val (.ref b2), .val (.int r1), .val (.int f1), .val (.int r2), .val (.int f2), .val (.int r3), .val (.int f3), .val (.int (0 : Int32)), .val (.int (0 : Int32)), .val (.int (1 : Int32)), .val (.long p3), .second, .val (.long p3), .second, .val (.long p2), .second, .val (.long p3), .second, .unset, .unset] []))
                refine Go.by (fun _ => XS.aload X50.here hx rfl (hb hby at_270) rfl rfl) ?_
                refine Go.by (fun _ => XS.iload X50.here hx rfl (hb hby at_272) rfl) ?_
                show Go p.tables e below _ (T50.setTop (mkF m 274 #[.val (.int p0), .val (.int p1), .val (.long p2), .second, .val (.long p3), .second, .val (.int ip), .val (.int lp), .val (.int (0 : Int32)), .val (.ref b2), .val (.int r1), .val (.int f1), .val (.int r2), .val (.int f2), .val (.int r3), .val (.int f3), .val (.int (0 : Int32)), .val (.int (0 : Int32)), .val (.int (1 : Int32)), .val (.long p3), .second, .val (.long p3), .second, .val (.long p2), .second, .val (.long p3), .second, .unset, .unset] [(.int r3), (.ref b2)]))
                refine Go.by (fun _ => XS.iload X50.here hx rfl (hb hby at_274) rfl) ?_
                obtain ⟨v51, T51, h51, X51, q51, st51⟩ := X50.callV hx hZ (y := (⟨"com/example/spotline/spotline/engine/Table", "getLong", "(II)J"⟩ : MethodName)) (z := (⟨"com/example/spotline/spotline/engine/Table", "getLong", "(II)J"⟩ : MethodName)) hown (tw hw 65 rfl) (tw hw 66 rfl) (notFace_of_selects (args := #[]) (mvT hZ (tw hw 68 rfl))) (tw hw 68 rfl) (tw hw 67 rfl) (tw hw 3 rfl) (tw hw 69 rfl) (by decide) (rm9 l Z a0 hw [] b2 r3 f3 oL4 dL6 kL4 kdL6 ip (((64 : Int32) * ip).toNatClampNeg) (fun i => if i = 0 then (.ref dL6) else .null) (fun t => if t = ((((r1 &&& (65535 : Int32)) * ip) + f1).toNatClampNeg) then (.long p2) else (fun t => if t = ((((r2 &&& (65535 : Int32)) * ip) + f2).toNatClampNeg) then (.long p3) else (fun _ => (.long 0)) t) t) p3 h14 n0 Zs15 f15_260 f15_263 f15_255 rfl V14 hc_r3_f3.1 hc_r3_f3.2.1 hc_r3_f3.2.2 ((if_neg (fun q => hP17 ⟨(own_same h_r3.1 h_r3.2 hip1 hip2 h_f3.1 h_f3.2 h_r1.1 h_r1.2 h_f1.1 h_f1.2 q).1.symm, (own_same h_r3.1 h_r3.2 hip1 hip2 h_f3.1 h_f3.2 h_r1.1 h_r1.2 h_f1.1 h_f1.2 q).2.symm⟩)).trans (if_pos (by rw [hP18.1, hP18.2])))) f15_254 (g := (mkF m 276 #[.val (.int p0), .val (.int p1), .val (.long p2), .second, .val (.long p3), .second, .val (.int ip), .val (.int lp), .val (.int (0 : Int32)), .val (.ref b2), .val (.int r1), .val (.int f1), .val (.int r2), .val (.int f2), .val (.int r3), .val (.int f3), .val (.int (0 : Int32)), .val (.int (0 : Int32)), .val (.int (1 : Int32)), .val (.long p3), .second, .val (.long p3), .second, .val (.long p2), .second, .val (.long p3), .second, .unset, .unset] [(.int f3), (.int r3), (.ref b2)])) rfl (by rw [hml]; rfl) (argsL := [(.int r3), (.int f3)]) (rest := []) (lenOf pd6 rfl) rfl (hb hby at_276) rfl (by decide) (Nat.le_of_ble_eq_true rfl) (k' := 7) (n' := 440) rfl rfl (by decide) (by decide)
                refine Go.by st51 ?_
                obtain ⟨rfl, rfl⟩ := q51
                show Go p.tables e below _ (T51.setTop (mkF m 279 #[.val (.int p0), .val (.int p1), .val (.long p2), .second, .val (.long p3), .second, .val (.int ip), .val (.int lp), .val (.int (0 : Int32)), .val (.ref b2), .val (.int r1), .val (.int f1), .val (.int r2), .val (.int f2), .val (.int r3), .val (.int f3), .val (.int (0 : Int32)), .val (.int (0 : Int32)), .val (.int (1 : Int32)), .val (.long p3), .second, .val (.long p3), .second, .val (.long p2), .second, .val (.long p3), .second, .unset, .unset] [(.long p3)]))
                refine Go.by (fun _ => XS.lstore X51.here hx rfl (hb hby at_279) rfl (l' := #[.val (.int p0), .val (.int p1), .val (.long p2), .second, .val (.long p3), .second, .val (.int ip), .val (.int lp), .val (.int (0 : Int32)), .val (.ref b2), .val (.int r1), .val (.int f1), .val (.int r2), .val (.int f2), .val (.int r3), .val (.int f3), .val (.int (0 : Int32)), .val (.int (0 : Int32)), .val (.int (1 : Int32)), .val (.long p3), .second, .val (.long p3), .second, .val (.long p2), .second, .val (.long p3), .second, .val (.long p3), .second]) rfl) ?_
                show Go p.tables e below _ (T51.setTop (mkF m 281 #[.val (.int p0), .val (.int p1), .val (.long p2), .second, .val (.long p3), .second, .val (.int ip), .val (.int lp), .val (.int (0 : Int32)), .val (.ref b2), .val (.int r1), .val (.int f1), .val (.int r2), .val (.int f2), .val (.int r3), .val (.int f3), .val (.int (0 : Int32)), .val (.int (0 : Int32)), .val (.int (1 : Int32)), .val (.long p3), .second, .val (.long p3), .second, .val (.long p2), .second, .val (.long p3), .second, .val (.long p3), .second] []))
                refine Go.by (fun _ => XS.lload X51.here hx rfl (hb hby at_281) rfl) ?_
                refine Go.by (fun _ => XS.lloadN X51.here hx rfl (hb hby at_283) rfl) ?_
                refine Go.by (fun _ => XS.lcmp X51.here hx rfl (hb hby at_284) rfl) ?_
                show Go p.tables e below _ (T51.setTop (mkF m 285 #[.val (.int p0), .val (.int p1), .val (.long p2), .second, .val (.long p3), .second, .val (.int ip), .val (.int lp), .val (.int (0 : Int32)), .val (.ref b2), .val (.int r1), .val (.int f1), .val (.int r2), .val (.int f2), .val (.int r3), .val (.int f3), .val (.int (0 : Int32)), .val (.int (0 : Int32)), .val (.int (1 : Int32)), .val (.long p3), .second, .val (.long p3), .second, .val (.long p2), .second, .val (.long p3), .second, .val (.long p3), .second] [(.int (lcmpW p2 p2))]))
                refine Go.by (fun _ => XS.ifNo X51.here hx rfl (hb hby at_285) rfl ((if0 _ _).trans (teq ((lw_eq _ _).mpr rfl)).2)) ?_
                show Go p.tables e below _ (T51.setTop (mkF m 288 #[.val (.int p0), .val (.int p1), .val (.long p2), .second, .val (.long p3), .second, .val (.int ip), .val (.int lp), .val (.int (0 : Int32)), .val (.ref b2), .val (.int r1), .val (.int f1), .val (.int r2), .val (.int f2), .val (.int r3), .val (.int f3), .val (.int (0 : Int32)), .val (.int (0 : Int32)), .val (.int (1 : Int32)), .val (.long p3), .second, .val (.long p3), .second, .val (.long p2), .second, .val (.long p3), .second, .val (.long p3), .second] []))
                refine Go.by (fun _ => XS.lload X51.here hx rfl (hb hby at_288) rfl) ?_
                show Go p.tables e below _ (T51.setTop (mkF m 290 #[.val (.int p0), .val (.int p1), .val (.long p2), .second, .val (.long p3), .second, .val (.int ip), .val (.int lp), .val (.int (0 : Int32)), .val (.ref b2), .val (.int r1), .val (.int f1), .val (.int r2), .val (.int f2), .val (.int r3), .val (.int f3), .val (.int (0 : Int32)), .val (.int (0 : Int32)), .val (.int (1 : Int32)), .val (.long p3), .second, .val (.long p3), .second, .val (.long p2), .second, .val (.long p3), .second, .val (.long p3), .second] [(.long p3)]))
                refine Go.by (fun _ => XS.lload X51.here hx rfl (hb hby at_290) rfl) ?_
                refine Go.by (fun _ => XS.lcmp X51.here hx rfl (hb hby at_292) rfl) ?_
                show Go p.tables e below _ (T51.setTop (mkF m 293 #[.val (.int p0), .val (.int p1), .val (.long p2), .second, .val (.long p3), .second, .val (.int ip), .val (.int lp), .val (.int (0 : Int32)), .val (.ref b2), .val (.int r1), .val (.int f1), .val (.int r2), .val (.int f2), .val (.int r3), .val (.int f3), .val (.int (0 : Int32)), .val (.int (0 : Int32)), .val (.int (1 : Int32)), .val (.long p3), .second, .val (.long p3), .second, .val (.long p2), .second, .val (.long p3), .second, .val (.long p3), .second] [(.int (lcmpW p3 p3))]))
                refine Go.by (fun _ => XS.ifNo X51.here hx rfl (hb hby at_293) rfl ((if0 _ _).trans (teq ((lw_eq _ _).mpr rfl)).2)) ?_
                show Go p.tables e below _ (T51.setTop (mkF m 296 #[.val (.int p0), .val (.int p1), .val (.long p2), .second, .val (.long p3), .second, .val (.int ip), .val (.int lp), .val (.int (0 : Int32)), .val (.ref b2), .val (.int r1), .val (.int f1), .val (.int r2), .val (.int f2), .val (.int r3), .val (.int f3), .val (.int (0 : Int32)), .val (.int (0 : Int32)), .val (.int (1 : Int32)), .val (.long p3), .second, .val (.long p3), .second, .val (.long p2), .second, .val (.long p3), .second, .val (.long p3), .second] []))
                refine Go.by (fun _ => XS.lload X51.here hx rfl (hb hby at_296) rfl) ?_
                refine Go.by (fun _ => XS.lload X51.here hx rfl (hb hby at_298) rfl) ?_
                refine Go.by (fun _ => XS.lcmp X51.here hx rfl (hb hby at_300) rfl) ?_
                show Go p.tables e below _ (T51.setTop (mkF m 301 #[.val (.int p0), .val (.int p1), .val (.long p2), .second, .val (.long p3), .second, .val (.int ip), .val (.int lp), .val (.int (0 : Int32)), .val (.ref b2), .val (.int r1), .val (.int f1), .val (.int r2), .val (.int f2), .val (.int r3), .val (.int f3), .val (.int (0 : Int32)), .val (.int (0 : Int32)), .val (.int (1 : Int32)), .val (.long p3), .second, .val (.long p3), .second, .val (.long p2), .second, .val (.long p3), .second, .val (.long p3), .second] [(.int (lcmpW p3 p3))]))
                refine Go.by (fun _ => XS.ifNo X51.here hx rfl (hb hby at_301) rfl ((if0 _ _).trans (teq ((lw_eq _ _).mpr rfl)).2)) ?_
                show Go p.tables e below _ (T51.setTop (mkF m 304 #[.val (.int p0), .val (.int p1), .val (.long p2), .second, .val (.long p3), .second, .val (.int ip), .val (.int lp), .val (.int (0 : Int32)), .val (.ref b2), .val (.int r1), .val (.int f1), .val (.int r2), .val (.int f2), .val (.int r3), .val (.int f3), .val (.int (0 : Int32)), .val (.int (0 : Int32)), .val (.int (1 : Int32)), .val (.long p3), .second, .val (.long p3), .second, .val (.long p2), .second, .val (.long p3), .second, .val (.long p3), .second] []))
                refine Go.by (fun _ => XS.iconst X51.here hx rfl (hb hby at_304)) ?_
                show Go p.tables e below _ (T51.setTop (mkF m 305 #[.val (.int p0), .val (.int p1), .val (.long p2), .second, .val (.long p3), .second, .val (.int ip), .val (.int lp), .val (.int (0 : Int32)), .val (.ref b2), .val (.int r1), .val (.int f1), .val (.int r2), .val (.int f2), .val (.int r3), .val (.int f3), .val (.int (0 : Int32)), .val (.int (0 : Int32)), .val (.int (1 : Int32)), .val (.long p3), .second, .val (.long p3), .second, .val (.long p2), .second, .val (.long p3), .second, .val (.long p3), .second] [(.int (1 : Int32))]))
                refine Go.by (fun _ => XS.goto X51.here hx rfl (pc0 := 305) (pc' := 309) rfl (hb hby at_305) (by decide) (by decide)) ?_
                show Go p.tables e below _ (T51.setTop (mkF m 309 #[.val (.int p0), .val (.int p1), .val (.long p2), .second, .val (.long p3), .second, .val (.int ip), .val (.int lp), .val (.int (0 : Int32)), .val (.ref b2), .val (.int r1), .val (.int f1), .val (.int r2), .val (.int f2), .val (.int r3), .val (.int f3), .val (.int (0 : Int32)), .val (.int (0 : Int32)), .val (.int (1 : Int32)), .val (.long p3), .second, .val (.long p3), .second, .val (.long p2), .second, .val (.long p3), .second, .val (.long p3), .second] [(.int (1 : Int32))]))
                exact Go.retN X51 hx hlk (z' := (1 : Int32)) hret (by simp) (hb hby at_309) rfl (by decide) (by decide) rfl
              · skip
                show Go p.tables e below _ (Tj48.setTop (mkF m 211 #[.val (.int p0), .val (.int p1), .val (.long p2), .second, .val (.long p3), .second, .val (.int ip), .val (.int lp), .val (.int (0 : Int32)), .val (.ref b2), .val (.int r1), .val (.int f1), .val (.int r2), .val (.int f2), .val (.int r3), .val (.int f3), .val (.int (0 : Int32)), .val (.int (0 : Int32)), .unset, .unset, .unset, .unset, .unset, .unset, .unset, .unset, .unset, .unset, .unset] [(.int (0 : Int32))]))
                refine Go.by (fun _ => XS.istore Xj48.here hx rfl (hb hby at_211) rfl (l' := #[.val (.int p0), .val (.int p1), .val (.long p2), .second, .val (.long p3), .second, .val (.int ip), .val (.int lp), .val (.int (0 : Int32)), .val (.ref b2), .val (.int r1), .val (.int f1), .val (.int r2), .val (.int f2), .val (.int r3), .val (.int f3), .val (.int (0 : Int32)), .val (.int (0 : Int32)), .val (.int (0 : Int32)), .unset, .unset, .unset, .unset, .unset, .unset, .unset, .unset, .unset, .unset]) rfl) ?_
                show Go p.tables e below _ (Tj48.setTop (mkF m 213 #[.val (.int p0), .val (.int p1), .val (.long p2), .second, .val (.long p3), .second, .val (.int ip), .val (.int lp), .val (.int (0 : Int32)), .val (.ref b2), .val (.int r1), .val (.int f1), .val (.int r2), .val (.int f2), .val (.int r3), .val (.int f3), .val (.int (0 : Int32)), .val (.int (0 : Int32)), .val (.int (0 : Int32)), .unset, .unset, .unset, .unset, .unset, .unset, .unset, .unset, .unset, .unset] []))
                refine Go.by (fun _ => XS.iload Xj48.here hx rfl (hb hby at_213) rfl) ?_
                refine Go.by (fun _ => XS.ifYes Xj48.here hx rfl (pc0 := 215) (pc' := 222) rfl (hb hby at_215) rfl ((if0 _ _).trans (teq (by decide)).1) (by decide) (by decide)) ?_
                show Go p.tables e below _ (Tj48.setTop (mkF m 222 #[.val (.int p0), .val (.int p1), .val (.long p2), .second, .val (.long p3), .second, .val (.int ip), .val (.int lp), .val (.int (0 : Int32)), .val (.ref b2), .val (.int r1), .val (.int f1), .val (.int r2), .val (.int f2), .val (.int r3), .val (.int f3), .val (.int (0 : Int32)), .val (.int (0 : Int32)), .val (.int (0 : Int32)), .unset, .unset, .unset, .unset, .unset, .unset, .unset, .unset, .unset, .unset] []))
                refine Go.by (fun _ => XS.lload Xj48.here hx rfl (hb hby at_222) rfl) ?_
                refine Go.by (fun _ => XS.lstore Xj48.here hx rfl (hb hby at_224) rfl (l' := #[.val (.int p0), .val (.int p1), .val (.long p2), .second, .val (.long p3), .second, .val (.int ip), .val (.int lp), .val (.int (0 : Int32)), .val (.ref b2), .val (.int r1), .val (.int f1), .val (.int r2), .val (.int f2), .val (.int r3), .val (.int f3), .val (.int (0 : Int32)), .val (.int (0 : Int32)), .val (.int (0 : Int32)), .val (.long p3), .second, .unset, .unset, .unset, .unset, .unset, .unset, .unset, .unset]) rfl) ?_
                show Go p.tables e below _ (Tj48.setTop (mkF m 226 #[.val (.int p0), .val (.int p1), .val (.long p2), .second, .val (.long p3), .second, .val (.int ip), .val (.int lp), .val (.int (0 : Int32)), .val (.ref b2), .val (.int r1), .val (.int f1), .val (.int r2), .val (.int f2), .val (.int r3), .val (.int f3), .val (.int (0 : Int32)), .val (.int (0 : Int32)), .val (.int (0 : Int32)), .val (.long p3), .second, .unset, .unset, .unset, .unset, .unset, .unset, .unset, .unset] []))
                refine Go.by (fun _ => XS.iload Xj48.here hx rfl (hb hby at_226) rfl) ?_
                refine Go.by (fun _ => XS.ifYes Xj48.here hx rfl (pc0 := 228) (pc' := 235) rfl (hb hby at_228) rfl ((if0 _ _).trans (teq (by decide)).1) (by decide) (by decide)) ?_
                show Go p.tables e below _ (Tj48.setTop (mkF m 235 #[.val (.int p0), .val (.int p1), .val (.long p2), .second, .val (.long p3), .second, .val (.int ip), .val (.int lp), .val (.int (0 : Int32)), .val (.ref b2), .val (.int r1), .val (.int f1), .val (.int r2), .val (.int f2), .val (.int r3), .val (.int f3), .val (.int (0 : Int32)), .val (.int (0 : Int32)), .val (.int (0 : Int32)), .val (.long p3), .second, .unset, .unset, .unset, .unset, .unset, .unset, .unset, .unset] []))
                refine Go.by (fun _ => XS.iload Xj48.here hx rfl (hb hby at_235) rfl) ?_
                show Go p.tables e below _ (Tj48.setTop (mkF m 237 #[.val (.int p0), .val (.int p1), .val (.long p2), .second, .val (.long p3), .second, .val (.int ip), .val (.int lp), .val (.int (0 : Int32)), .val (.ref b2), .val (.int r1), .val (.int f1), .val (.int r2), .val (.int f2), .val (.int r3), .val (.int f3), .val (.int (0 : Int32)), .val (.int (0 : Int32)), .val (.int (0 : Int32)), .val (.long p3), .second, .unset, .unset, .unset, .unset, .unset, .unset, .unset, .unset] [(.int (0 : Int32))]))
                refine Go.by (fun _ => XS.ifYes Xj48.here hx rfl (pc0 := 237) (pc' := 245) rfl (hb hby at_237) rfl ((if0 _ _).trans (teq (by decide)).1) (by decide) (by decide)) ?_
                show Go p.tables e below _ (Tj48.setTop (mkF m 245 #[.val (.int p0), .val (.int p1), .val (.long p2), .second, .val (.long p3), .second, .val (.int ip), .val (.int lp), .val (.int (0 : Int32)), .val (.ref b2), .val (.int r1), .val (.int f1), .val (.int r2), .val (.int f2), .val (.int r3), .val (.int f3), .val (.int (0 : Int32)), .val (.int (0 : Int32)), .val (.int (0 : Int32)), .val (.long p3), .second, .unset, .unset, .unset, .unset, .unset, .unset, .unset, .unset] []))
                refine Go.by (fun _ => XS.lconst Xj48.here hx rfl (hb hby at_245)) ?_
                refine Go.by (fun _ => XS.lstore Xj48.here hx rfl (hb hby at_246) rfl (l' := #[.val (.int p0), .val (.int p1), .val (.long p2), .second, .val (.long p3), .second, .val (.int ip), .val (.int lp), .val (.int (0 : Int32)), .val (.ref b2), .val (.int r1), .val (.int f1), .val (.int r2), .val (.int f2), .val (.int r3), .val (.int f3), .val (.int (0 : Int32)), .val (.int (0 : Int32)), .val (.int (0 : Int32)), .val (.long p3), .second, .val (.long (0 : Int64)), .second, .unset, .unset, .unset, .unset, .unset, .unset]) rfl) ?_
                show Go p.tables e below _ (Tj48.setTop (mkF m 248 #[.val (.int p0), .val (.int p1), .val (.long p2), .second, .val (.long p3), .second, .val (.int ip), .val (.int lp), .val (.int (0 : Int32)), .val (.ref b2), .val (.int r1), .val (.int f1), .val (.int r2), .val (.int f2), .val (.int r3), .val (.int f3), .val (.int (0 : Int32)), .val (.int (0 : Int32)), .val (.int (0 : Int32)), .val (.long p3), .second, .val (.long (0 : Int64)), .second, .unset, .unset, .unset, .unset, .unset, .unset] []))
                refine Go.by (fun _ => XS.aload Xj48.here hx rfl (hb hby at_248) rfl rfl) ?_
                refine Go.by (fun _ => XS.iload Xj48.here hx rfl (hb hby at_250) rfl) ?_
                refine Go.by (fun _ => XS.iload Xj48.here hx rfl (hb hby at_252) rfl) ?_
                obtain ⟨v52, T52, h52, X52, q52, st52⟩ := Xj48.callV hx hZ (y := (⟨"com/example/spotline/spotline/engine/Table", "getLong", "(II)J"⟩ : MethodName)) (z := (⟨"com/example/spotline/spotline/engine/Table", "getLong", "(II)J"⟩ : MethodName)) hown (tw hw 65 rfl) (tw hw 66 rfl) (notFace_of_selects (args := #[]) (mvT hZ (tw hw 68 rfl))) (tw hw 68 rfl) (tw hw 67 rfl) (tw hw 3 rfl) (tw hw 69 rfl) (by decide) (rm9 l Z a0 hw [] b2 r1 f1 oL4 dL6 kL4 kdL6 ip (((64 : Int32) * ip).toNatClampNeg) (fun i => if i = 0 then (.ref dL6) else .null) (fun t => if t = ((((r1 &&& (65535 : Int32)) * ip) + f1).toNatClampNeg) then (.long p2) else (fun t => if t = ((((r2 &&& (65535 : Int32)) * ip) + f2).toNatClampNeg) then (.long p3) else (fun _ => (.long 0)) t) t) p2 h14 n0 Zs15 f15_260 f15_263 f15_255 rfl V14 hc_r1_f1.1 hc_r1_f1.2.1 hc_r1_f1.2.2 (if_pos rfl)) f15_254 (g := (mkF m 254 #[.val (.int p0), .val (.int p1), .val (.long p2), .second, .val (.long p3), .second, .val (.int ip), .val (.int lp), .val (.int (0 : Int32)), .val (.ref b2), .val (.int r1), .val (.int f1), .val (.int r2), .val (.int f2), .val (.int r3), .val (.int f3), .val (.int (0 : Int32)), .val (.int (0 : Int32)), .val (.int (0 : Int32)), .val (.long p3), .second, .val (.long (0 : Int64)), .second, .unset, .unset, .unset, .unset, .unset, .unset] [(.int f1), (.int r1), (.ref b2)])) rfl (by rw [hml]; rfl) (argsL := [(.int r1), (.int f1)]) (rest := []) (lenOf pd6 rfl) rfl (hb hby at_254) rfl (by decide) (Nat.le_of_ble_eq_true rfl) (k' := 7) (n' := 440) rfl rfl (by decide) (by decide)
                refine Go.by st52 ?_
                obtain ⟨rfl, rfl⟩ := q52
                show Go p.tables e below _ (T52.setTop (mkF m 257 #[.val (.int p0), .val (.int p1), .val (.long p2), .second, .val (.long p3), .second, .val (.int ip), .val (.int lp), .val (.int (0 : Int32)), .val (.ref b2), .val (.int r1), .val (.int f1), .val (.int r2), .val (.int f2), .val (.int r3), .val (.int f3), .val (.int (0 : Int32)), .val (.int (0 : Int32)), .val (.int (0 : Int32)), .val (.long p3), .second, .val (.long (0 : Int64)), .second, .unset, .unset, .unset, .unset, .unset, .unset] [(.long p2)]))
                refine Go.by (fun _ => XS.lstore X52.here hx rfl (hb hby at_257) rfl (l' := #[.val (.int p0), .val (.int p1), .val (.long p2), .second, .val (.long p3), .second, .val (.int ip), .val (.int lp), .val (.int (0 : Int32)), .val (.ref b2), .val (.int r1), .val (.int f1), .val (.int r2), .val (.int f2), .val (.int r3), .val (.int f3), .val (.int (0 : Int32)), .val (.int (0 : Int32)), .val (.int (0 : Int32)), .val (.long p3), .second, .val (.long (0 : Int64)), .second, .val (.long p2), .second, .unset, .unset, .unset, .unset]) rfl) ?_
                show Go p.tables e below _ (T52.setTop (mkF m 259 #[.val (.int p0), .val (.int p1), .val (.long p2), .second, .val (.long p3), .second, .val (.int ip), .val (.int lp), .val (.int (0 : Int32)), .val (.ref b2), .val (.int r1), .val (.int f1), .val (.int r2), .val (.int f2), .val (.int r3), .val (.int f3), .val (.int (0 : Int32)), .val (.int (0 : Int32)), .val (.int (0 : Int32)), .val (.long p3), .second, .val (.long (0 : Int64)), .second, .val (.long p2), .second, .unset, .unset, .unset, .unset] []))
                refine Go.by (fun _ => XS.aload X52.here hx rfl (hb hby at_259) rfl rfl) ?_
                refine Go.by (fun _ => XS.iload X52.here hx rfl (hb hby at_261) rfl) ?_
                refine Go.by (fun _ => XS.iload X52.here hx rfl (hb hby at_263) rfl) ?_
                obtain ⟨v53, T53, h53, X53, q53, st53⟩ := X52.callV hx hZ (y := (⟨"com/example/spotline/spotline/engine/Table", "getLong", "(II)J"⟩ : MethodName)) (z := (⟨"com/example/spotline/spotline/engine/Table", "getLong", "(II)J"⟩ : MethodName)) hown (tw hw 65 rfl) (tw hw 66 rfl) (notFace_of_selects (args := #[]) (mvT hZ (tw hw 68 rfl))) (tw hw 68 rfl) (tw hw 67 rfl) (tw hw 3 rfl) (tw hw 69 rfl) (by decide) (rm9 l Z a0 hw [] b2 r2 f2 oL4 dL6 kL4 kdL6 ip (((64 : Int32) * ip).toNatClampNeg) (fun i => if i = 0 then (.ref dL6) else .null) (fun t => if t = ((((r1 &&& (65535 : Int32)) * ip) + f1).toNatClampNeg) then (.long p2) else (fun t => if t = ((((r2 &&& (65535 : Int32)) * ip) + f2).toNatClampNeg) then (.long p3) else (fun _ => (.long 0)) t) t) p3 h14 n0 Zs15 f15_260 f15_263 f15_255 rfl V14 hc_r2_f2.1 hc_r2_f2.2.1 hc_r2_f2.2.2 ((if_neg (fun q => hP16 ⟨(own_same h_r2.1 h_r2.2 hip1 hip2 h_f2.1 h_f2.2 h_r1.1 h_r1.2 h_f1.1 h_f1.2 q).1.symm, (own_same h_r2.1 h_r2.2 hip1 hip2 h_f2.1 h_f2.2 h_r1.1 h_r1.2 h_f1.1 h_f1.2 q).2.symm⟩)).trans (if_pos rfl))) f15_254 (g := (mkF m 265 #[.val (.int p0), .val (.int p1), .val (.long p2), .second, .val (.long p3), .second, .val (.int ip), .val (.int lp), .val (.int (0 : Int32)), .val (.ref b2), .val (.int r1), .val (.int f1), .val (.int r2), .val (.int f2), .val (.int r3), .val (.int f3), .val (.int (0 : Int32)), .val (.int (0 : Int32)), .val (.int (0 : Int32)), .val (.long p3), .second, .val (.long (0 : Int64)), .second, .val (.long p2), .second, .unset, .unset, .unset, .unset] [(.int f2), (.int r2), (.ref b2)])) rfl (by rw [hml]; rfl) (argsL := [(.int r2), (.int f2)]) (rest := []) (lenOf pd6 rfl) rfl (hb hby at_265) rfl (by decide) (Nat.le_of_ble_eq_true rfl) (k' := 7) (n' := 440) rfl rfl (by decide) (by decide)
                refine Go.by st53 ?_
                obtain ⟨rfl, rfl⟩ := q53
                show Go p.tables e below _ (T53.setTop (mkF m 268 #[.val (.int p0), .val (.int p1), .val (.long p2), .second, .val (.long p3), .second, .val (.int ip), .val (.int lp), .val (.int (0 : Int32)), .val (.ref b2), .val (.int r1), .val (.int f1), .val (.int r2), .val (.int f2), .val (.int r3), .val (.int f3), .val (.int (0 : Int32)), .val (.int (0 : Int32)), .val (.int (0 : Int32)), .val (.long p3), .second, .val (.long (0 : Int64)), .second, .val (.long p2), .second, .unset, .unset, .unset, .unset] [(.long p3)]))
                refine Go.by (fun _ => XS.lstore X53.here hx rfl (hb hby at_268) rfl (l' := #[.val (.int p0), .val (.int p1), .val (.long p2), .second, .val (.long p3), .second, .val (.int ip), .val (.int lp), .val (.int (0 : Int32)), .val (.ref b2), .val (.int r1), .val (.int f1), .val (.int r2), .val (.int f2), .val (.int r3), .val (.int f3), .val (.int (0 : Int32)), .val (.int (0 : Int32)), .val (.int (0 : Int32)), .val (.long p3), .second, .val (.long (0 : Int64)), .second, .val (.long p2), .second, .val (.long p3), .second, .unset, .unset]) rfl) ?_
                show Go p.tables e below _ (T53.setTop (mkF m 270 #[.val (.int p0), .val (.int p1), .val (.long p2), .second, .val (.long p3), .second, .val (.int ip), .val (.int lp), .val (.int (0 : Int32)), .val (.ref b2), .val (.int r1), .val (.int f1), .val (.int r2), .val (.int f2), .val (.int r3), .val (.int f3), .val (.int (0 : Int32)), .val (.int (0 : Int32)), .val (.int (0 : Int32)), .val (.long p3), .second, .val (.long (0 : Int64)), .second, .val (.long p2), .second, .val (.long p3), .second, .unset, .unset] []))
                refine Go.by (fun _ => XS.aload X53.here hx rfl (hb hby at_270) rfl rfl) ?_
                refine Go.by (fun _ => XS.iload X53.here hx rfl (hb hby at_272) rfl) ?_
                show Go p.tables e below _ (T53.setTop (mkF m 274 #[.val (.int p0), .val (.int p1), .val (.long p2), .second, .val (.long p3), .second, .val (.int ip), .val (.int lp), .val (.int (0 : Int32)), .val (.ref b2), .val (.int r1), .val (.int f1), .val (.int r2), .val (.int f2), .val (.int r3), .val (.int f3), .val (.int (0 : Int32)), .val (.int (0 : Int32)), .val (.int (0 : Int32)), .val (.long p3), .second, .val (.long (0 : Int64)), .second, .val (.long p2), .second, .val (.long p3), .second, .unset, .unset] [(.int r3), (.ref b2)]))
                refine Go.by (fun _ => XS.iload X53.here hx rfl (hb hby at_274) rfl) ?_
                obtain ⟨v54, T54, h54, X54, q54, st54⟩ := X53.callV hx hZ (y := (⟨"com/example/spotline/spotline/engine/Table", "getLong", "(II)J"⟩ : MethodName)) (z := (⟨"com/example/spotline/spotline/engine/Table", "getLong", "(II)J"⟩ : MethodName)) hown (tw hw 65 rfl) (tw hw 66 rfl) (notFace_of_selects (args := #[]) (mvT hZ (tw hw 68 rfl))) (tw hw 68 rfl) (tw hw 67 rfl) (tw hw 3 rfl) (tw hw 69 rfl) (by decide) (rm9 l Z a0 hw [] b2 r3 f3 oL4 dL6 kL4 kdL6 ip (((64 : Int32) * ip).toNatClampNeg) (fun i => if i = 0 then (.ref dL6) else .null) (fun t => if t = ((((r1 &&& (65535 : Int32)) * ip) + f1).toNatClampNeg) then (.long p2) else (fun t => if t = ((((r2 &&& (65535 : Int32)) * ip) + f2).toNatClampNeg) then (.long p3) else (fun _ => (.long 0)) t) t) (0 : Int64) h14 n0 Zs15 f15_260 f15_263 f15_255 rfl V14 hc_r3_f3.1 hc_r3_f3.2.1 hc_r3_f3.2.2 ((if_neg (fun q => hP17 ⟨(own_same h_r3.1 h_r3.2 hip1 hip2 h_f3.1 h_f3.2 h_r1.1 h_r1.2 h_f1.1 h_f1.2 q).1.symm, (own_same h_r3.1 h_r3.2 hip1 hip2 h_f3.1 h_f3.2 h_r1.1 h_r1.2 h_f1.1 h_f1.2 q).2.symm⟩)).trans ((if_neg (fun q => hP18 ⟨(own_same h_r3.1 h_r3.2 hip1 hip2 h_f3.1 h_f3.2 h_r2.1 h_r2.2 h_f2.1 h_f2.2 q).1.symm, (own_same h_r3.1 h_r3.2 hip1 hip2 h_f3.1 h_f3.2 h_r2.1 h_r2.2 h_f2.1 h_f2.2 q).2.symm⟩)).trans rfl))) f15_254 (g := (mkF m 276 #[.val (.int p0), .val (.int p1), .val (.long p2), .second, .val (.long p3), .second, .val (.int ip), .val (.int lp), .val (.int (0 : Int32)), .val (.ref b2), .val (.int r1), .val (.int f1), .val (.int r2), .val (.int f2), .val (.int r3), .val (.int f3), .val (.int (0 : Int32)), .val (.int (0 : Int32)), .val (.int (0 : Int32)), .val (.long p3), .second, .val (.long (0 : Int64)), .second, .val (.long p2), .second, .val (.long p3), .second, .unset, .unset] [(.int f3), (.int r3), (.ref b2)])) rfl (by rw [hml]; rfl) (argsL := [(.int r3), (.int f3)]) (rest := []) (lenOf pd6 rfl) rfl (hb hby at_276) rfl (by decide) (Nat.le_of_ble_eq_true rfl) (k' := 7) (n' := 440) rfl rfl (by decide) (by decide)
                refine Go.by st54 ?_
                obtain ⟨rfl, rfl⟩ := q54
                show Go p.tables e below _ (T54.setTop (mkF m 279 #[.val (.int p0), .val (.int p1), .val (.long p2), .second, .val (.long p3), .second, .val (.int ip), .val (.int lp), .val (.int (0 : Int32)), .val (.ref b2), .val (.int r1), .val (.int f1), .val (.int r2), .val (.int f2), .val (.int r3), .val (.int f3), .val (.int (0 : Int32)), .val (.int (0 : Int32)), .val (.int (0 : Int32)), .val (.long p3), .second, .val (.long (0 : Int64)), .second, .val (.long p2), .second, .val (.long p3), .second, .unset, .unset] [(.long (0 : Int64))]))
                refine Go.by (fun _ => XS.lstore X54.here hx rfl (hb hby at_279) rfl (l' := #[.val (.int p0), .val (.int p1), .val (.long p2), .second, .val (.long p3), .second, .val (.int ip), .val (.int lp), .val (.int (0 : Int32)), .val (.ref b2), .val (.int r1), .val (.int f1), .val (.int r2), .val (.int f2), .val (.int r3), .val (.int f3), .val (.int (0 : Int32)), .val (.int (0 : Int32)), .val (.int (0 : Int32)), .val (.long p3), .second, .val (.long (0 : Int64)), .second, .val (.long p2), .second, .val (.long p3), .second, .val (.long (0 : Int64)), .second]) rfl) ?_
                show Go p.tables e below _ (T54.setTop (mkF m 281 #[.val (.int p0), .val (.int p1), .val (.long p2), .second, .val (.long p3), .second, .val (.int ip), .val (.int lp), .val (.int (0 : Int32)), .val (.ref b2), .val (.int r1), .val (.int f1), .val (.int r2), .val (.int f2), .val (.int r3), .val (.int f3), .val (.int (0 : Int32)), .val (.int (0 : Int32)), .val (.int (0 : Int32)), .val (.long p3), .second, .val (.long (0 : Int64)), .second, .val (.long p2), .second, .val (.long p3), .second, .val (.long (0 : Int64)), .second] []))
                refine Go.by (fun _ => XS.lload X54.here hx rfl (hb hby at_281) rfl) ?_
                refine Go.by (fun _ => XS.lloadN X54.here hx rfl (hb hby at_283) rfl) ?_
                refine Go.by (fun _ => XS.lcmp X54.here hx rfl (hb hby at_284) rfl) ?_
                show Go p.tables e below _ (T54.setTop (mkF m 285 #[.val (.int p0), .val (.int p1), .val (.long p2), .second, .val (.long p3), .second, .val (.int ip), .val (.int lp), .val (.int (0 : Int32)), .val (.ref b2), .val (.int r1), .val (.int f1), .val (.int r2), .val (.int f2), .val (.int r3), .val (.int f3), .val (.int (0 : Int32)), .val (.int (0 : Int32)), .val (.int (0 : Int32)), .val (.long p3), .second, .val (.long (0 : Int64)), .second, .val (.long p2), .second, .val (.long p3), .second, .val (.long (0 : Int64)), .second] [(.int (lcmpW p2 p2))]))
                refine Go.by (fun _ => XS.ifNo X54.here hx rfl (hb hby at_285) rfl ((if0 _ _).trans (teq ((lw_eq _ _).mpr rfl)).2)) ?_
                show Go p.tables e below _ (T54.setTop (mkF m 288 #[.val (.int p0), .val (.int p1), .val (.long p2), .second, .val (.long p3), .second, .val (.int ip), .val (.int lp), .val (.int (0 : Int32)), .val (.ref b2), .val (.int r1), .val (.int f1), .val (.int r2), .val (.int f2), .val (.int r3), .val (.int f3), .val (.int (0 : Int32)), .val (.int (0 : Int32)), .val (.int (0 : Int32)), .val (.long p3), .second, .val (.long (0 : Int64)), .second, .val (.long p2), .second, .val (.long p3), .second, .val (.long (0 : Int64)), .second] []))
                refine Go.by (fun _ => XS.lload X54.here hx rfl (hb hby at_288) rfl) ?_
                show Go p.tables e below _ (T54.setTop (mkF m 290 #[.val (.int p0), .val (.int p1), .val (.long p2), .second, .val (.long p3), .second, .val (.int ip), .val (.int lp), .val (.int (0 : Int32)), .val (.ref b2), .val (.int r1), .val (.int f1), .val (.int r2), .val (.int f2), .val (.int r3), .val (.int f3), .val (.int (0 : Int32)), .val (.int (0 : Int32)), .val (.int (0 : Int32)), .val (.long p3), .second, .val (.long (0 : Int64)), .second, .val (.long p2), .second, .val (.long p3), .second, .val (.long (0 : Int64)), .second] [(.long p3)]))
                refine Go.by (fun _ => XS.lload X54.here hx rfl (hb hby at_290) rfl) ?_
                refine Go.by (fun _ => XS.lcmp X54.here hx rfl (hb hby at_292) rfl) ?_
                show Go p.tables e below _ (T54.setTop (mkF m 293 #[.val (.int p0), .val (.int p1), .val (.long p2), .second, .val (.long p3), .second, .val (.int ip), .val (.int lp), .val (.int (0 : Int32)), .val (.ref b2), .val (.int r1), .val (.int f1), .val (.int r2), .val (.int f2), .val (.int r3), .val (.int f3), .val (.int (0 : Int32)), .val (.int (0 : Int32)), .val (.int (0 : Int32)), .val (.long p3), .second, .val (.long (0 : Int64)), .second, .val (.long p2), .second, .val (.long p3), .second, .val (.long (0 : Int64)), .second] [(.int (lcmpW p3 p3))]))
                refine Go.by (fun _ => XS.ifNo X54.here hx rfl (hb hby at_293) rfl ((if0 _ _).trans (teq ((lw_eq _ _).mpr rfl)).2)) ?_
                show Go p.tables e below _ (T54.setTop (mkF m 296 #[.val (.int p0), .val (.int p1), .val (.long p2), .second, .val (.long p3), .second, .val (.int ip), .val (.int lp), .val (.int (0 : Int32)), .val (.ref b2), .val (.int r1), .val (.int f1), .val (.int r2), .val (.int f2), .val (.int r3), .val (.int f3), .val (.int (0 : Int32)), .val (.int (0 : Int32)), .val (.int (0 : Int32)), .val (.long p3), .second, .val (.long (0 : Int64)), .second, .val (.long p2), .second, .val (.long p3), .second, .val (.long (0 : Int64)), .second] []))
                refine Go.by (fun _ => XS.lload X54.here hx rfl (hb hby at_296) rfl) ?_
                refine Go.by (fun _ => XS.lload X54.here hx rfl (hb hby at_298) rfl) ?_
                refine Go.by (fun _ => XS.lcmp X54.here hx rfl (hb hby at_300) rfl) ?_
                show Go p.tables e below _ (T54.setTop (mkF m 301 #[.val (.int p0), .val (.int p1), .val (.long p2), .second, .val (.long p3), .second, .val (.int ip), .val (.int lp), .val (.int (0 : Int32)), .val (.ref b2), .val (.int r1), .val (.int f1), .val (.int r2), .val (.int f2), .val (.int r3), .val (.int f3), .val (.int (0 : Int32)), .val (.int (0 : Int32)), .val (.int (0 : Int32)), .val (.long p3), .second, .val (.long (0 : Int64)), .second, .val (.long p2), .second, .val (.long p3), .second, .val (.long (0 : Int64)), .second] [(.int (lcmpW (0 : Int64) (0 : Int64)))]))
                refine Go.by (fun _ => XS.ifNo X54.here hx rfl (hb hby at_301) rfl ((if0 _ _).trans (teq ((lw_eq _ _).mpr rfl)).2)) ?_
                show Go p.tables e below _ (T54.setTop (mkF m 304 #[.val (.int p0), .val (.int p1), .val (.long p2), .second, .val (.long p3), .second, .val (.int ip), .val (.int lp), .val (.int (0 : Int32)), .val (.ref b2), .val (.int r1), .val (.int f1), .val (.int r2), .val (.int f2), .val (.int r3), .val (.int f3), .val (.int (0 : Int32)), .val (.int (0 : Int32)), .val (.int (0 : Int32)), .val (.long p3), .second, .val (.long (0 : Int64)), .second, .val (.long p2), .second, .val (.long p3), .second, .val (.long (0 : Int64)), .second] []))
                refine Go.by (fun _ => XS.iconst X54.here hx rfl (hb hby at_304)) ?_
                show Go p.tables e below _ (T54.setTop (mkF m 305 #[.val (.int p0), .val (.int p1), .val (.long p2), .second, .val (.long p3), .second, .val (.int ip), .val (.int lp), .val (.int (0 : Int32)), .val (.ref b2), .val (.int r1), .val (.int f1), .val (.int r2), .val (.int f2), .val (.int r3), .val (.int f3), .val (.int (0 : Int32)), .val (.int (0 : Int32)), .val (.int (0 : Int32)), .val (.long p3), .second, .val (.long (0 : Int64)), .second, .val (.long p2), .second, .val (.long p3), .second, .val (.long (0 : Int64)), .second] [(.int (1 : Int32))]))
                refine Go.by (fun _ => XS.goto X54.here hx rfl (pc0 := 305) (pc' := 309) rfl (hb hby at_305) (by decide) (by decide)) ?_
                show Go p.tables e below _ (T54.setTop (mkF m 309 #[.val (.int p0), .val (.int p1), .val (.long p2), .second, .val (.long p3), .second, .val (.int ip), .val (.int lp), .val (.int (0 : Int32)), .val (.ref b2), .val (.int r1), .val (.int f1), .val (.int r2), .val (.int f2), .val (.int r3), .val (.int f3), .val (.int (0 : Int32)), .val (.int (0 : Int32)), .val (.int (0 : Int32)), .val (.long p3), .second, .val (.long (0 : Int64)), .second, .val (.long p2), .second, .val (.long p3), .second, .val (.long (0 : Int64)), .second] [(.int (1 : Int32))]))
                exact Go.retN X54 hx hlk (z' := (1 : Int32)) hret (by simp) (hb hby at_309) rfl (by decide) (by decide) rfl
            refine Go.by (fun _ => XS.iload Xj38.here hx rfl (hb hby at_192) rfl) ?_
            refine Go.by (fun _ => XS.iload Xj38.here hx rfl (hb hby at_194) rfl) ?_
            by_cases hc196_55 : r2 = r3
            · skip
              refine Go.by (fun _ => XS.icmpNo Xj38.here hx rfl (hb hby at_196) rfl (teq hc196_55).2) ?_
              show Go p.tables e below _ (Tj38.setTop (mkF m 199 #[.val (.int p0), .val (.int p1), .val (.long p2), .second, .val (.long p3), .second, .val (.int ip), .val (.int lp), .val (.int (0 : Int32)), .val (.ref b2), .val (.int r1), .val (.int f1), .val (.int r2), .val (.int f2), .val (.int r3), .val (.int f3), .val (.int (0 : Int32)), .val (.int (0 : Int32)), .unset, .unset, .unset, .unset, .unset, .unset, .unset, .unset, .unset, .unset, .unset] []))
              refine Go.by (fun _ => XS.iload Xj38.here hx rfl (hb hby at_199) rfl) ?_
              refine Go.by (fun _ => XS.iload Xj38.here hx rfl (hb hby at_201) rfl) ?_
              by_cases hc203_56 : f2 = f3
              · skip
                refine Go.by (fun _ => XS.icmpNo Xj38.here hx rfl (hb hby at_203) rfl (teq hc203_56).2) ?_
                show Go p.tables e below _ (Tj38.setTop (mkF m 206 #[.val (.int p0), .val (.int p1), .val (.long p2), .second, .val (.long p3), .second, .val (.int ip), .val (.int lp), .val (.int (0 : Int32)), .val (.ref b2), .val (.int r1), .val (.int f1), .val (.int r2), .val (.int f2), .val (.int r3), .val (.int f3), .val (.int (0 : Int32)), .val (.int (0 : Int32)), .unset, .unset, .unset, .unset, .unset, .unset, .unset, .unset, .unset, .unset, .unset] []))
                refine Go.by (fun _ => XS.iconst Xj38.here hx rfl (hb hby at_206)) ?_
                refine Go.by (fun _ => XS.goto Xj38.here hx rfl (pc0 := 207) (pc' := 211) rfl (hb hby at_207) (by decide) (by decide)) ?_
                show Go p.tables e below _ (Tj38.setTop (mkF m 211 #[.val (.int p0), .val (.int p1), .val (.long p2), .second, .val (.long p3), .second, .val (.int ip), .val (.int lp), .val (.int (0 : Int32)), .val (.ref b2), .val (.int r1), .val (.int f1), .val (.int r2), .val (.int f2), .val (.int r3), .val (.int f3), .val (.int (0 : Int32)), .val (.int (0 : Int32)), .unset, .unset, .unset, .unset, .unset, .unset, .unset, .unset, .unset, .unset, .unset] [(.int (1 : Int32))]))
                exact J48 _ Xj38 _ (Or.inl ⟨rfl, hc196_55, hc203_56⟩)
              · skip
                refine Go.by (fun _ => XS.icmpYes Xj38.here hx rfl (pc0 := 203) (pc' := 210) rfl (hb hby at_203) rfl (feq hc203_56).2 (by decide) (by decide)) ?_
                show Go p.tables e below _ (Tj38.setTop (mkF m 210 #[.val (.int p0), .val (.int p1), .val (.long p2), .second, .val (.long p3), .second, .val (.int ip), .val (.int lp), .val (.int (0 : Int32)), .val (.ref b2), .val (.int r1), .val (.int f1), .val (.int r2), .val (.int f2), .val (.int r3), .val (.int f3), .val (.int (0 : Int32)), .val (.int (0 : Int32)), .unset, .unset, .unset, .unset, .unset, .unset, .unset, .unset, .unset, .unset, .unset] []))
                refine Go.by (fun _ => XS.iconst Xj38.here hx rfl (hb hby at_210)) ?_
                show Go p.tables e below _ (Tj38.setTop (mkF m 211 #[.val (.int p0), .val (.int p1), .val (.long p2), .second, .val (.long p3), .second, .val (.int ip), .val (.int lp), .val (.int (0 : Int32)), .val (.ref b2), .val (.int r1), .val (.int f1), .val (.int r2), .val (.int f2), .val (.int r3), .val (.int f3), .val (.int (0 : Int32)), .val (.int (0 : Int32)), .unset, .unset, .unset, .unset, .unset, .unset, .unset, .unset, .unset, .unset, .unset] [(.int (0 : Int32))]))
                exact J48 _ Xj38 _ (Or.inr ⟨rfl, fun q => hc203_56 q.2⟩)
            · skip
              refine Go.by (fun _ => XS.icmpYes Xj38.here hx rfl (pc0 := 196) (pc' := 210) rfl (hb hby at_196) rfl (feq hc196_55).2 (by decide) (by decide)) ?_
              show Go p.tables e below _ (Tj38.setTop (mkF m 210 #[.val (.int p0), .val (.int p1), .val (.long p2), .second, .val (.long p3), .second, .val (.int ip), .val (.int lp), .val (.int (0 : Int32)), .val (.ref b2), .val (.int r1), .val (.int f1), .val (.int r2), .val (.int f2), .val (.int r3), .val (.int f3), .val (.int (0 : Int32)), .val (.int (0 : Int32)), .unset, .unset, .unset, .unset, .unset, .unset, .unset, .unset, .unset, .unset, .unset] []))
              refine Go.by (fun _ => XS.iconst Xj38.here hx rfl (hb hby at_210)) ?_
              show Go p.tables e below _ (Tj38.setTop (mkF m 211 #[.val (.int p0), .val (.int p1), .val (.long p2), .second, .val (.long p3), .second, .val (.int ip), .val (.int lp), .val (.int (0 : Int32)), .val (.ref b2), .val (.int r1), .val (.int f1), .val (.int r2), .val (.int f2), .val (.int r3), .val (.int f3), .val (.int (0 : Int32)), .val (.int (0 : Int32)), .unset, .unset, .unset, .unset, .unset, .unset, .unset, .unset, .unset, .unset, .unset] [(.int (0 : Int32))]))
              exact J48 _ Xj38 _ (Or.inr ⟨rfl, fun q => hc196_55 q.1⟩)
        refine Go.by (fun _ => XS.iload Xj16.here hx rfl (hb hby at_171) rfl) ?_
        refine Go.by (fun _ => XS.iload Xj16.here hx rfl (hb hby at_173) rfl) ?_
        by_cases hc175_57 : r1 = r3
        · skip
          refine Go.by (fun _ => XS.icmpNo Xj16.here hx rfl (hb hby at_175) rfl (teq hc175_57).2) ?_
          show Go p.tables e below _ (Tj16.setTop (mkF m 178 #[.val (.int p0), .val (.int p1), .val (.long p2), .second, .val (.long p3), .second, .val (.int ip), .val (.int lp), .val (.int (0 : Int32)), .val (.ref b2), .val (.int r1), .val (.int f1), .val (.int r2), .val (.int f2), .val (.int r3), .val (.int f3), .val (.int (0 : Int32)), .unset, .unset, .unset, .unset, .unset, .unset, .unset, .unset, .unset, .unset, .unset, .unset] []))
          refine Go.by (fun _ => XS.iload Xj16.here hx rfl (hb hby at_178) rfl) ?_
          refine Go.by (fun _ => XS.iload Xj16.here hx rfl (hb hby at_180) rfl) ?_
          by_cases hc182_58 : f1 = f3
          · skip
            refine Go.by (fun _ => XS.icmpNo Xj16.here hx rfl (hb hby at_182) rfl (teq hc182_58).2) ?_
            show Go p.tables e below _ (Tj16.setTop (mkF m 185 #[.val (.int p0), .val (.int p1), .val (.long p2), .second, .val (.long p3), .second, .val (.int ip), .val (.int lp), .val (.int (0 : Int32)), .val (.ref b2), .val (.int r1), .val (.int f1), .val (.int r2), .val (.int f2), .val (.int r3), .val (.int f3), .val (.int (0 : Int32)), .unset, .unset, .unset, .unset, .unset, .unset, .unset, .unset, .unset, .unset, .unset, .unset] []))
            refine Go.by (fun _ => XS.iconst Xj16.here hx rfl (hb hby at_185)) ?_
            show Go p.tables e below _ (Tj16.setTop (mkF m 186 #[.val (.int p0), .val (.int p1), .val (.long p2), .second, .val (.long p3), .second, .val (.int ip), .val (.int lp), .val (.int (0 : Int32)), .val (.ref b2), .val (.int r1), .val (.int f1), .val (.int r2), .val (.int f2), .val (.int r3), .val (.int f3), .val (.int (0 : Int32)), .unset, .unset, .unset, .unset, .unset, .unset, .unset, .unset, .unset, .unset, .unset, .unset] [(.int (1 : Int32))]))
            refine Go.by (fun _ => XS.goto Xj16.here hx rfl (pc0 := 186) (pc' := 190) rfl (hb hby at_186) (by decide) (by decide)) ?_
            show Go p.tables e below _ (Tj16.setTop (mkF m 190 #[.val (.int p0), .val (.int p1), .val (.long p2), .second, .val (.long p3), .second, .val (.int ip), .val (.int lp), .val (.int (0 : Int32)), .val (.ref b2), .val (.int r1), .val (.int f1), .val (.int r2), .val (.int f2), .val (.int r3), .val (.int f3), .val (.int (0 : Int32)), .unset, .unset, .unset, .unset, .unset, .unset, .unset, .unset, .unset, .unset, .unset, .unset] [(.int (1 : Int32))]))
            exact J38 _ Xj16 _ (Or.inl ⟨rfl, hc175_57, hc182_58⟩)
          · skip
            refine Go.by (fun _ => XS.icmpYes Xj16.here hx rfl (pc0 := 182) (pc' := 189) rfl (hb hby at_182) rfl (feq hc182_58).2 (by decide) (by decide)) ?_
            show Go p.tables e below _ (Tj16.setTop (mkF m 189 #[.val (.int p0), .val (.int p1), .val (.long p2), .second, .val (.long p3), .second, .val (.int ip), .val (.int lp), .val (.int (0 : Int32)), .val (.ref b2), .val (.int r1), .val (.int f1), .val (.int r2), .val (.int f2), .val (.int r3), .val (.int f3), .val (.int (0 : Int32)), .unset, .unset, .unset, .unset, .unset, .unset, .unset, .unset, .unset, .unset, .unset, .unset] []))
            refine Go.by (fun _ => XS.iconst Xj16.here hx rfl (hb hby at_189)) ?_
            show Go p.tables e below _ (Tj16.setTop (mkF m 190 #[.val (.int p0), .val (.int p1), .val (.long p2), .second, .val (.long p3), .second, .val (.int ip), .val (.int lp), .val (.int (0 : Int32)), .val (.ref b2), .val (.int r1), .val (.int f1), .val (.int r2), .val (.int f2), .val (.int r3), .val (.int f3), .val (.int (0 : Int32)), .unset, .unset, .unset, .unset, .unset, .unset, .unset, .unset, .unset, .unset, .unset, .unset] [(.int (0 : Int32))]))
            exact J38 _ Xj16 _ (Or.inr ⟨rfl, fun q => hc182_58 q.2⟩)
        · skip
          refine Go.by (fun _ => XS.icmpYes Xj16.here hx rfl (pc0 := 175) (pc' := 189) rfl (hb hby at_175) rfl (feq hc175_57).2 (by decide) (by decide)) ?_
          show Go p.tables e below _ (Tj16.setTop (mkF m 189 #[.val (.int p0), .val (.int p1), .val (.long p2), .second, .val (.long p3), .second, .val (.int ip), .val (.int lp), .val (.int (0 : Int32)), .val (.ref b2), .val (.int r1), .val (.int f1), .val (.int r2), .val (.int f2), .val (.int r3), .val (.int f3), .val (.int (0 : Int32)), .unset, .unset, .unset, .unset, .unset, .unset, .unset, .unset, .unset, .unset, .unset, .unset] []))
          refine Go.by (fun _ => XS.iconst Xj16.here hx rfl (hb hby at_189)) ?_
          show Go p.tables e below _ (Tj16.setTop (mkF m 190 #[.val (.int p0), .val (.int p1), .val (.long p2), .second, .val (.long p3), .second, .val (.int ip), .val (.int lp), .val (.int (0 : Int32)), .val (.ref b2), .val (.int r1), .val (.int f1), .val (.int r2), .val (.int f2), .val (.int r3), .val (.int f3), .val (.int (0 : Int32)), .unset, .unset, .unset, .unset, .unset, .unset, .unset, .unset, .unset, .unset, .unset, .unset] [(.int (0 : Int32))]))
          exact J38 _ Xj16 _ (Or.inr ⟨rfl, fun q => hc175_57 q.1⟩)
    refine Go.by (fun _ => XS.iload X14.here hx rfl (hb hby at_150) rfl) ?_
    refine Go.by (fun _ => XS.iload X14.here hx rfl (hb hby at_152) rfl) ?_
    by_cases hc154_59 : r1 = r2
    · skip
      refine Go.by (fun _ => XS.icmpNo X14.here hx rfl (hb hby at_154) rfl (teq hc154_59).2) ?_
      show Go p.tables e below _ (T14.setTop (mkF m 157 #[.val (.int p0), .val (.int p1), .val (.long p2), .second, .val (.long p3), .second, .val (.int ip), .val (.int lp), .val (.int (0 : Int32)), .val (.ref b2), .val (.int r1), .val (.int f1), .val (.int r2), .val (.int f2), .val (.int r3), .val (.int f3), .unset, .unset, .unset, .unset, .unset, .unset, .unset, .unset, .unset, .unset, .unset, .unset, .unset] []))
      refine Go.by (fun _ => XS.iload X14.here hx rfl (hb hby at_157) rfl) ?_
      refine Go.by (fun _ => XS.iload X14.here hx rfl (hb hby at_159) rfl) ?_
      show Go p.tables e below _ (T14.setTop (mkF m 161 #[.val (.int p0), .val (.int p1), .val (.long p2), .second, .val (.long p3), .second, .val (.int ip), .val (.int lp), .val (.int (0 : Int32)), .val (.ref b2), .val (.int r1), .val (.int f1), .val (.int r2), .val (.int f2), .val (.int r3), .val (.int f3), .unset, .unset, .unset, .unset, .unset, .unset, .unset, .unset, .unset, .unset, .unset, .unset, .unset] [(.int f2), (.int f1)]))
      by_cases hc161_60 : f1 = f2
      · skip
        refine Go.by (fun _ => XS.icmpNo X14.here hx rfl (hb hby at_161) rfl (teq hc161_60).2) ?_
        show Go p.tables e below _ (T14.setTop (mkF m 164 #[.val (.int p0), .val (.int p1), .val (.long p2), .second, .val (.long p3), .second, .val (.int ip), .val (.int lp), .val (.int (0 : Int32)), .val (.ref b2), .val (.int r1), .val (.int f1), .val (.int r2), .val (.int f2), .val (.int r3), .val (.int f3), .unset, .unset, .unset, .unset, .unset, .unset, .unset, .unset, .unset, .unset, .unset, .unset, .unset] []))
        refine Go.by (fun _ => XS.iconst X14.here hx rfl (hb hby at_164)) ?_
        refine Go.by (fun _ => XS.goto X14.here hx rfl (pc0 := 165) (pc' := 169) rfl (hb hby at_165) (by decide) (by decide)) ?_
        show Go p.tables e below _ (T14.setTop (mkF m 169 #[.val (.int p0), .val (.int p1), .val (.long p2), .second, .val (.long p3), .second, .val (.int ip), .val (.int lp), .val (.int (0 : Int32)), .val (.ref b2), .val (.int r1), .val (.int f1), .val (.int r2), .val (.int f2), .val (.int r3), .val (.int f3), .unset, .unset, .unset, .unset, .unset, .unset, .unset, .unset, .unset, .unset, .unset, .unset, .unset] [(.int (1 : Int32))]))
        exact J16 _ X14 _ (Or.inl ⟨rfl, hc154_59, hc161_60⟩)
      · skip
        refine Go.by (fun _ => XS.icmpYes X14.here hx rfl (pc0 := 161) (pc' := 168) rfl (hb hby at_161) rfl (feq hc161_60).2 (by decide) (by decide)) ?_
        show Go p.tables e below _ (T14.setTop (mkF m 168 #[.val (.int p0), .val (.int p1), .val (.long p2), .second, .val (.long p3), .second, .val (.int ip), .val (.int lp), .val (.int (0 : Int32)), .val (.ref b2), .val (.int r1), .val (.int f1), .val (.int r2), .val (.int f2), .val (.int r3), .val (.int f3), .unset, .unset, .unset, .unset, .unset, .unset, .unset, .unset, .unset, .unset, .unset, .unset, .unset] []))
        refine Go.by (fun _ => XS.iconst X14.here hx rfl (hb hby at_168)) ?_
        show Go p.tables e below _ (T14.setTop (mkF m 169 #[.val (.int p0), .val (.int p1), .val (.long p2), .second, .val (.long p3), .second, .val (.int ip), .val (.int lp), .val (.int (0 : Int32)), .val (.ref b2), .val (.int r1), .val (.int f1), .val (.int r2), .val (.int f2), .val (.int r3), .val (.int f3), .unset, .unset, .unset, .unset, .unset, .unset, .unset, .unset, .unset, .unset, .unset, .unset, .unset] [(.int (0 : Int32))]))
        exact J16 _ X14 _ (Or.inr ⟨rfl, fun q => hc161_60 q.2⟩)
    · skip
      refine Go.by (fun _ => XS.icmpYes X14.here hx rfl (pc0 := 154) (pc' := 168) rfl (hb hby at_154) rfl (feq hc154_59).2 (by decide) (by decide)) ?_
      show Go p.tables e below _ (T14.setTop (mkF m 168 #[.val (.int p0), .val (.int p1), .val (.long p2), .second, .val (.long p3), .second, .val (.int ip), .val (.int lp), .val (.int (0 : Int32)), .val (.ref b2), .val (.int r1), .val (.int f1), .val (.int r2), .val (.int f2), .val (.int r3), .val (.int f3), .unset, .unset, .unset, .unset, .unset, .unset, .unset, .unset, .unset, .unset, .unset, .unset, .unset] []))
      refine Go.by (fun _ => XS.iconst X14.here hx rfl (hb hby at_168)) ?_
      show Go p.tables e below _ (T14.setTop (mkF m 169 #[.val (.int p0), .val (.int p1), .val (.long p2), .second, .val (.long p3), .second, .val (.int ip), .val (.int lp), .val (.int (0 : Int32)), .val (.ref b2), .val (.int r1), .val (.int f1), .val (.int r2), .val (.int f2), .val (.int r3), .val (.int f3), .unset, .unset, .unset, .unset, .unset, .unset, .unset, .unset, .unset, .unset, .unset, .unset, .unset] [(.int (0 : Int32))]))
      exact J16 _ X14 _ (Or.inr ⟨rfl, fun q => hc154_59 q.1⟩)
  · skip
    refine Go.by (fun _ => XS.ifNo X0.here hx rfl (hb hby at_22) rfl ((if0 _ _).trans (feq hc22_1).1)) ?_
    show Go p.tables e below _ (T0.setTop (mkF m 25 #[.val (.int p0), .val (.int p1), .val (.long p2), .second, .val (.long p3), .second, .val (.int ip), .val (.int lp), .unset, .unset, .unset, .unset, .unset, .unset, .unset, .unset, .unset, .unset, .unset, .unset, .unset, .unset, .unset, .unset, .unset, .unset, .unset, .unset, .unset] []))
    refine Go.by (fun _ => XS.iconst X0.here hx rfl (hb hby at_25)) ?_
    refine Go.by (fun _ => XS.goto X0.here hx rfl (pc0 := 26) (pc' := 30) rfl (hb hby at_26) (by decide) (by decide)) ?_
    show Go p.tables e below _ (T0.setTop (mkF m 30 #[.val (.int p0), .val (.int p1), .val (.long p2), .second, .val (.long p3), .second, .val (.int ip), .val (.int lp), .unset, .unset, .unset, .unset, .unset, .unset, .unset, .unset, .unset, .unset, .unset, .unset, .unset, .unset, .unset, .unset, .unset, .unset, .unset, .unset, .unset] [(.int (1 : Int32))]))
    refine Go.by (fun _ => XS.istore X0.here hx rfl (hb hby at_30) rfl (l' := #[.val (.int p0), .val (.int p1), .val (.long p2), .second, .val (.long p3), .second, .val (.int ip), .val (.int lp), .val (.int (1 : Int32)), .unset, .unset, .unset, .unset, .unset, .unset, .unset, .unset, .unset, .unset, .unset, .unset, .unset, .unset, .unset, .unset, .unset, .unset, .unset, .unset]) rfl) ?_
    show Go p.tables e below _ (T0.setTop (mkF m 32 #[.val (.int p0), .val (.int p1), .val (.long p2), .second, .val (.long p3), .second, .val (.int ip), .val (.int lp), .val (.int (1 : Int32)), .unset, .unset, .unset, .unset, .unset, .unset, .unset, .unset, .unset, .unset, .unset, .unset, .unset, .unset, .unset, .unset, .unset, .unset, .unset, .unset] []))
    obtain ⟨T61, h61, b61, X61, g61, E61, A61, D61, st61⟩ := X0.newO hx hZ hown (tw hw 1 rfl) (tw hw 2 rfl) (tw hw 3 rfl) (g := (mkF m 32 #[.val (.int p0), .val (.int p1), .val (.long p2), .second, .val (.long p3), .second, .val (.int ip), .val (.int lp), .val (.int (1 : Int32)), .unset, .unset, .unset, .unset, .unset, .unset, .unset, .unset, .unset, .unset, .unset, .unset, .unset, .unset, .unset, .unset, .unset, .unset, .unset, .unset] [])) rfl (hb hby at_32) (k' := 1) (n' := 8) rfl rfl (by decide) (by decide)
    have g_b61 : n0 ≤ b61 := by rw [g61]; exact Z0
    have Zs62 : n0 ≤ h61.size := Nat.le_trans Z0 E61.1
    have F61_longs : Fld Z h61 b61 "com/example/spotline/spotline/engine/Table" "longs" "[[J" .null := D61 (Or.inl (tw hw 13 rfl)) (ty := (.array (.array .long))) (by decide)
    have F61_ints : Fld Z h61 b61 "com/example/spotline/spotline/engine/Table" "ints" "[[I" .null := D61 (Or.inl (tw hw 17 rfl)) (ty := (.array (.array .int))) (by decide)
    have F61_objects : Fld Z h61 b61 "com/example/spotline/spotline/engine/Table" "objects" "[[Ljava/lang/Object;" .null := D61 (Or.inl (tw hw 21 rfl)) (ty := (.array (.array (.object "java/lang/Object")))) (by decide)
    have F61_longsPerRow : Fld Z h61 b61 "com/example/spotline/spotline/engine/Table" "longsPerRow" "I" (.int (0 : Int32)) := D61 (Or.inr (tw hw 23 rfl)) (ty := .int) (by decide)
    have F61_intsPerRow : Fld Z h61 b61 "com/example/spotline/spotline/engine/Table" "intsPerRow" "I" (.int (0 : Int32)) := D61 (Or.inr (tw hw 25 rfl)) (ty := .int) (by decide)
    have F61_objectsPerRow : Fld Z h61 b61 "com/example/spotline/spotline/engine/Table" "objectsPerRow" "I" (.int (0 : Int32)) := D61 (Or.inr (tw hw 27 rfl)) (ty := .int) (by decide)
    have F61_size : Fld Z h61 b61 "com/example/spotline/spotline/engine/Table" "size" "I" (.int (0 : Int32)) := D61 (Or.inl (tw hw 34 rfl)) (ty := .int) (by decide)
    have F61_capacity : Fld Z h61 b61 "com/example/spotline/spotline/engine/Table" "capacity" "I" (.int (0 : Int32)) := D61 (Or.inl (tw hw 37 rfl)) (ty := .int) (by decide)
    refine Go.by st61 ?_
    show Go p.tables e below _ (T61.setTop (mkF m 35 #[.val (.int p0), .val (.int p1), .val (.long p2), .second, .val (.long p3), .second, .val (.int ip), .val (.int lp), .val (.int (1 : Int32)), .unset, .unset, .unset, .unset, .unset, .unset, .unset, .unset, .unset, .unset, .unset, .unset, .unset, .unset, .unset, .unset, .unset, .unset, .unset, .unset] [(.ref b61)]))
    refine Go.by (fun _ => XS.dup X61.here hx rfl (hb hby at_35) rfl rfl) ?_
    refine Go.by (fun _ => XS.iload X61.here hx rfl (hb hby at_36) rfl) ?_
    refine Go.by (fun _ => XS.iload X61.here hx rfl (hb hby at_38) rfl) ?_
    refine Go.by (fun _ => XS.iload X61.here hx rfl (hb hby at_40) rfl) ?_
    obtain ⟨v63, T63, h63, X63, q63, st63⟩ := X61.callI hx hZ (y := (⟨"com/example/spotline/spotline/engine/Table", "<init>", "(IIZ)V"⟩ : MethodName)) rfl hown (tw hw 4 rfl) (tw hw 5 rfl) (tw hw 3 rfl) (tw hw 6 rfl) (by decide) (rm1_1 l Z a0 hw [] b61 ip lp h61 n0 Zs62 A61 g_b61 F61_longs F61_ints F61_objects F61_longsPerRow F61_intsPerRow F61_objectsPerRow F61_size F61_capacity) (g := (mkF m 42 #[.val (.int p0), .val (.int p1), .val (.long p2), .second, .val (.long p3), .second, .val (.int ip), .val (.int lp), .val (.int (1 : Int32)), .unset, .unset, .unset, .unset, .unset, .unset, .unset, .unset, .unset, .unset, .unset, .unset, .unset, .unset, .unset, .unset, .unset, .unset, .unset, .unset] [(.int (1 : Int32)), (.int lp), (.int ip), (.ref b61), (.ref b61)])) rfl (by rw [hml]; rfl) (argsL := [(.int ip), (.int lp), (.int (1 : Int32))]) (rest := [(.ref b61)]) (lenOf pd3 rfl) rfl (hb hby at_42) rfl (by decide) (Nat.le_of_ble_eq_true rfl) (k' := 4) (n' := 56) rfl rfl (by decide) (by decide)
    refine Go.by st63 ?_
    obtain ⟨oL63, oI63, oO63, kL63, kI63, kO63, rfl, sL63, sI63, sO63, nLI63, nLO63, nIO63, K63, Ex63, Flongs63, Fints63, Fobjects63, FlongsPerRow63, FintsPerRow63, FobjectsPerRow63, Fsize63, Fcapacity63, VoL63, VoI63, VoO63, OvoL63, OvoI63, OvoO63⟩ := q63
    have g_oL63 : n0 ≤ oL63 := Nat.le_trans Zs62 sL63
    have ne_b61_oL63 : b61 ≠ oL63 := Nat.ne_of_lt (Nat.lt_of_lt_of_le A61.lt sL63)
    have g_oI63 : n0 ≤ oI63 := Nat.le_trans Zs62 sI63
    have ne_b61_oI63 : b61 ≠ oI63 := Nat.ne_of_lt (Nat.lt_of_lt_of_le A61.lt sI63)
    have g_oO63 : n0 ≤ oO63 := Nat.le_trans Zs62 sO63
    have ne_b61_oO63 : b61 ≠ oO63 := Nat.ne_of_lt (Nat.lt_of_lt_of_le A61.lt sO63)
    have f64_1127 := A61.keep K63
    have Zs64 : n0 ≤ h63.size := Nat.le_trans Zs62 K63.1
    show Go p.tables e below _ (T63.setTop (mkF m 45 #[.val (.int p0), .val (.int p1), .val (.long p2), .second, .val (.long p3), .second, .val (.int ip), .val (.int lp), .val (.int (1 : Int32)), .unset, .unset, .unset, .unset, .unset, .unset, .unset, .unset, .unset, .unset, .unset, .unset, .unset, .unset, .unset, .unset, .unset, .unset, .unset, .unset] [(.ref b61)]))
    refine Go.by (fun _ => XS.astore X63.here hx rfl (hb hby at_45) rfl rfl (l' := #[.val (.int p0), .val (.int p1), .val (.long p2), .second, .val (.long p3), .second, .val (.int ip), .val (.int lp), .val (.int (1 : Int32)), .val (.ref b61), .unset, .unset, .unset, .unset, .unset, .unset, .unset, .unset, .unset, .unset, .unset, .unset, .unset, .unset, .unset, .unset, .unset, .unset, .unset]) rfl) ?_
    show Go p.tables e below _ (T63.setTop (mkF m 47 #[.val (.int p0), .val (.int p1), .val (.long p2), .second, .val (.long p3), .second, .val (.int ip), .val (.int lp), .val (.int (1 : Int32)), .val (.ref b61), .unset, .unset, .unset, .unset, .unset, .unset, .unset, .unset, .unset, .unset, .unset, .unset, .unset, .unset, .unset, .unset, .unset, .unset, .unset] []))
    refine Go.by (fun _ => XS.aload X63.here hx rfl (hb hby at_47) rfl rfl) ?_
    show Go p.tables e below _ (T63.setTop (mkF m 49 #[.val (.int p0), .val (.int p1), .val (.long p2), .second, .val (.long p3), .second, .val (.int ip), .val (.int lp), .val (.int (1 : Int32)), .val (.ref b61), .unset, .unset, .unset, .unset, .unset, .unset, .unset, .unset, .unset, .unset, .unset, .unset, .unset, .unset, .unset, .unset, .unset, .unset, .unset] [(.ref b61)]))
    refine Go.by (fun _ => XS.aconstNull X63.here hx rfl (hb hby at_49)) ?_
    obtain ⟨v65, T65, h65, X65, q65, st65⟩ := X63.callV hx hZ (y := (⟨"com/example/spotline/spotline/engine/Table", "add", "(Ljava/lang/Object;)I"⟩ : MethodName)) (z := (⟨"com/example/spotline/spotline/engine/Table", "add", "(Ljava/lang/Object;)I"⟩ : MethodName)) hown (tw hw 28 rfl) (tw hw 29 rfl) (notFace_of_selects (args := #[]) (mvT hZ (tw hw 31 rfl))) (tw hw 31 rfl) (tw hw 30 rfl) (tw hw 3 rfl) (tw hw 32 rfl) (by decide) (rm3_1 l Z a0 hw [] b61 oL63 oI63 oO63 kL63 kI63 kO63 ip lp h63 n0 Zs64 Ex63 g_b61 Flongs63 Fints63 Fobjects63 FlongsPerRow63 FintsPerRow63 FobjectsPerRow63 Fsize63 Fcapacity63 ⟨g_oL63, g_oI63, g_oO63⟩ ⟨ne_b61_oL63, ne_b61_oI63, ne_b61_oO63, nLI63, nLO63, nIO63⟩ VoL63 VoI63 VoO63 OvoL63 OvoI63 OvoO63 hL hI) Ex63 (g := (mkF m 50 #[.val (.int p0), .val (.int p1), .val (.long p2), .second, .val (.long p3), .second, .val (.int ip), .val (.int lp), .val (.int (1 : Int32)), .val (.ref b61), .unset, .unset, .unset, .unset, .unset, .unset, .unset, .unset, .unset, .unset, .unset, .unset, .unset, .unset, .unset, .unset, .unset, .unset, .unset] [.null, (.ref b61)])) rfl (by rw [hml]; rfl) (argsL := [.null]) (rest := []) (lenOf pd4 rfl) rfl (hb hby at_50) rfl (by decide) (Nat.le_of_ble_eq_true rfl) (k' := 7) (n' := 504) rfl rfl (by decide) (by decide)
    refine Go.by st65 ?_
    obtain ⟨dL65, dI65, dO65, kdL65, kdI65, kdO65, rfl, sL65, sI65, sO65, nLO65, nIO65, nLI65, K65, Ex65, Flongs65, Fints65, Fobjects65, FlongsPerRow65, FintsPerRow65, FobjectsPerRow65, Fsize65, Fcapacity65, VoL65, VoI65, VoO65, VdL65, VdI65, VdO65⟩ := q65
    have g_dL65 : n0 ≤ dL65 := Nat.le_trans Zs64 sL65
    have ne_b61_dL65 : b61 ≠ dL65 := Nat.ne_of_lt (Nat.lt_of_lt_of_le Ex63.lt sL65)
    have ne_oL63_dL65 : oL63 ≠ dL65 := Nat.ne_of_lt (Nat.lt_of_lt_of_le VoL63.lt sL65)
    have ne_oI63_dL65 : oI63 ≠ dL65 := Nat.ne_of_lt (Nat.lt_of_lt_of_le VoI63.lt sL65)
    have ne_oO63_dL65 : oO63 ≠ dL65 := Nat.ne_of_lt (Nat.lt_of_lt_of_le VoO63.lt sL65)
    have g_dI65 : n0 ≤ dI65 := Nat.le_trans Zs64 sI65
    have ne_b61_dI65 : b61 ≠ dI65 := Nat.ne_of_lt (Nat.lt_of_lt_of_le Ex63.lt sI65)
    have ne_oL63_dI65 : oL63 ≠ dI65 := Nat.ne_of_lt (Nat.lt_of_lt_of_le VoL63.lt sI65)
    have ne_oI63_dI65 : oI63 ≠ dI65 := Nat.ne_of_lt (Nat.lt_of_lt_of_le VoI63.lt sI65)
    have ne_oO63_dI65 : oO63 ≠ dI65 := Nat.ne_of_lt (Nat.lt_of_lt_of_le VoO63.lt sI65)
    have g_dO65 : n0 ≤ dO65 := Nat.le_trans Zs64 sO65
    have ne_b61_dO65 : b61 ≠ dO65 := Nat.ne_of_lt (Nat.lt_of_lt_of_le Ex63.lt sO65)
    have ne_oL63_dO65 : oL63 ≠ dO65 := Nat.ne_of_lt (Nat.lt_of_lt_of_le VoL63.lt sO65)
    have ne_oI63_dO65 : oI63 ≠ dO65 := Nat.ne_of_lt (Nat.lt_of_lt_of_le VoI63.lt sO65)
    have ne_oO63_dO65 : oO63 ≠ dO65 := Nat.ne_of_lt (Nat.lt_of_lt_of_le VoO63.lt sO65)
    have f66_1153 := Ex63.keep K65
    have Zs66 : n0 ≤ h65.size := Nat.le_trans Zs64 K65.1
    show Go p.tables e below _ (T65.setTop (mkF m 53 #[.val (.int p0), .val (.int p1), .val (.long p2), .second, .val (.long p3), .second, .val (.int ip), .val (.int lp), .val (.int (1 : Int32)), .val (.ref b61), .unset, .unset, .unset, .unset, .unset, .unset, .unset, .unset, .unset, .unset, .unset, .unset, .unset, .unset, .unset, .unset, .unset, .unset, .unset] [(.int (0 : Int32))]))
    refine Go.by (fun _ => XS.pop X65.here hx rfl (hb hby at_53) rfl rfl) ?_
    show Go p.tables e below _ (T65.setTop (mkF m 54 #[.val (.int p0), .val (.int p1), .val (.long p2), .second, .val (.long p3), .second, .val (.int ip), .val (.int lp), .val (.int (1 : Int32)), .val (.ref b61), .unset, .unset, .unset, .unset, .unset, .unset, .unset, .unset, .unset, .unset, .unset, .unset, .unset, .unset, .unset, .unset, .unset, .unset, .unset] []))
    refine Go.by (fun _ => XS.aload X65.here hx rfl (hb hby at_54) rfl rfl) ?_
    refine Go.by (fun _ => XS.aconstNull X65.here hx rfl (hb hby at_56)) ?_
    obtain ⟨v67, T67, h67, X67, q67, st67⟩ := X65.callV hx hZ (y := (⟨"com/example/spotline/spotline/engine/Table", "add", "(Ljava/lang/Object;)I"⟩ : MethodName)) (z := (⟨"com/example/spotline/spotline/engine/Table", "add", "(Ljava/lang/Object;)I"⟩ : MethodName)) hown (tw hw 28 rfl) (tw hw 29 rfl) (notFace_of_selects (args := #[]) (mvT hZ (tw hw 31 rfl))) (tw hw 31 rfl) (tw hw 30 rfl) (tw hw 3 rfl) (tw hw 32 rfl) (by decide) (rm3_11 l Z a0 hw [] b61 oL63 oI63 oO63 dL65 kL63 ip lp dO65 kO63 kdO65 h65 n0 Zs66 Ex65 g_b61 Flongs65 Fints65 Fobjects65 FlongsPerRow65 FintsPerRow65 FobjectsPerRow65 Fsize65 Fcapacity65 VoL65 VoO65 VdO65 g_dO65 ne_b61_dO65) Ex65 (g := (mkF m 57 #[.val (.int p0), .val (.int p1), .val (.long p2), .second, .val (.long p3), .second, .val (.int ip), .val (.int lp), .val (.int (1 : Int32)), .val (.ref b61), .unset, .unset, .unset, .unset, .unset, .unset, .unset, .unset, .unset, .unset, .unset, .unset, .unset, .unset, .unset, .unset, .unset, .unset, .unset] [.null, (.ref b61)])) rfl (by rw [hml]; rfl) (argsL := [.null]) (rest := []) (lenOf pd4 rfl) rfl (hb hby at_57) rfl (by decide) (Nat.le_of_ble_eq_true rfl) (k' := 7) (n' := 504) rfl rfl (by decide) (by decide)
    refine Go.by st67 ?_
    obtain ⟨rfl, K67, Ex67, Flongs67, Fints67, Fobjects67, FlongsPerRow67, FintsPerRow67, FobjectsPerRow67, Fsize67, Fcapacity67, VdO67⟩ := q67
    have f68_1163 := Ex65.keep K67
    have f68_1164 := Avf.keep VoL65 K67 (ninS (Ne.symm ne_b61_oL63) (ninS ne_oL63_dO65 nin0))
    have f68_1165 := Avf.keep VoI65 K67 (ninS (Ne.symm ne_b61_oI63) (ninS ne_oI63_dO65 nin0))
    have f68_1166 := Avf.keep VoO65 K67 (ninS (Ne.symm ne_b61_oO63) (ninS ne_oO63_dO65 nin0))
    have f68_1167 := Avf.keep VdL65 K67 (ninS (Ne.symm ne_b61_dL65) (ninS nLO65 nin0))
    have f68_1168 := Avf.keep VdI65 K67 (ninS (Ne.symm ne_b61_dI65) (ninS nIO65 nin0))
    have Zs68 : n0 ≤ h67.size := Nat.le_trans Zs66 K67.1
    show Go p.tables e below _ (T67.setTop (mkF m 60 #[.val (.int p0), .val (.int p1), .val (.long p2), .second, .val (.long p3), .second, .val (.int ip), .val (.int lp), .val (.int (1 : Int32)), .val (.ref b61), .unset, .unset, .unset, .unset, .unset, .unset, .unset, .unset, .unset, .unset, .unset, .unset, .unset, .unset, .unset, .unset, .unset, .unset, .unset] [(.int (1 : Int32))]))
    refine Go.by (fun _ => XS.pop X67.here hx rfl (hb hby at_60) rfl rfl) ?_
    show Go p.tables e below _ (T67.setTop (mkF m 61 #[.val (.int p0), .val (.int p1), .val (.long p2), .second, .val (.long p3), .second, .val (.int ip), .val (.int lp), .val (.int (1 : Int32)), .val (.ref b61), .unset, .unset, .unset, .unset, .unset, .unset, .unset, .unset, .unset, .unset, .unset, .unset, .unset, .unset, .unset, .unset, .unset, .unset, .unset] []))
    refine Go.by (fun _ => XS.aload X67.here hx rfl (hb hby at_61) rfl rfl) ?_
    show Go p.tables e below _ (T67.setTop (mkF m 63 #[.val (.int p0), .val (.int p1), .val (.long p2), .second, .val (.long p3), .second, .val (.int ip), .val (.int lp), .val (.int (1 : Int32)), .val (.ref b61), .unset, .unset, .unset, .unset, .unset, .unset, .unset, .unset, .unset, .unset, .unset, .unset, .unset, .unset, .unset, .unset, .unset, .unset, .unset] [(.ref b61)]))
    refine Go.by (fun _ => XS.aconstNull X67.here hx rfl (hb hby at_63)) ?_
    obtain ⟨v69, T69, h69, X69, q69, st69⟩ := X67.callV hx hZ (y := (⟨"com/example/spotline/spotline/engine/Table", "add", "(Ljava/lang/Object;)I"⟩ : MethodName)) (z := (⟨"com/example/spotline/spotline/engine/Table", "add", "(Ljava/lang/Object;)I"⟩ : MethodName)) hown (tw hw 28 rfl) (tw hw 29 rfl) (notFace_of_selects (args := #[]) (mvT hZ (tw hw 31 rfl))) (tw hw 31 rfl) (tw hw 30 rfl) (tw hw 3 rfl) (tw hw 32 rfl) (by decide) (rm3_12 l Z a0 hw [] b61 oL63 oI63 oO63 dL65 kL63 ip lp dO65 kO63 kdO65 h67 n0 Zs68 Ex67 g_b61 Flongs67 Fints67 Fobjects67 FlongsPerRow67 FintsPerRow67 FobjectsPerRow67 Fsize67 Fcapacity67 f68_1164 f68_1166 VdO67 g_dO65 ne_b61_dO65) Ex67 (g := (mkF m 64 #[.val (.int p0), .val (.int p1), .val (.long p2), .second, .val (.long p3), .second, .val (.int ip), .val (.int lp), .val (.int (1 : Int32)), .val (.ref b61), .unset, .unset, .unset, .unset, .unset, .unset, .unset, .unset, .unset, .unset, .unset, .unset, .unset, .unset, .unset, .unset, .unset, .unset, .unset] [.null, (.ref b61)])) rfl (by rw [hml]; rfl) (argsL := [.null]) (rest := []) (lenOf pd4 rfl) rfl (hb hby at_64) rfl (by decide) (Nat.le_of_ble_eq_true rfl) (k' := 7) (n' := 504) rfl rfl (by decide) (by decide)
    refine Go.by st69 ?_
    obtain ⟨rfl, K69, Ex69, Flongs69, Fints69, Fobjects69, FlongsPerRow69, FintsPerRow69, FobjectsPerRow69, Fsize69, Fcapacity69, VdO69⟩ := q69
    have f70_1179 := Ex67.keep K69
    have f70_1180 := Avf.keep f68_1164 K69 (ninS (Ne.symm ne_b61_oL63) (ninS ne_oL63_dO65 nin0))
    have f70_1181 := Avf.keep f68_1165 K69 (ninS (Ne.symm ne_b61_oI63) (ninS ne_oI63_dO65 nin0))
    have f70_1182 := Avf.keep f68_1166 K69 (ninS (Ne.symm ne_b61_oO63) (ninS ne_oO63_dO65 nin0))
    have f70_1183 := Avf.keep f68_1167 K69 (ninS (Ne.symm ne_b61_dL65) (ninS nLO65 nin0))
    have f70_1184 := Avf.keep f68_1168 K69 (ninS (Ne.symm ne_b61_dI65) (ninS nIO65 nin0))
    have Zs70 : n0 ≤ h69.size := Nat.le_trans Zs68 K69.1
    show Go p.tables e below _ (T69.setTop (mkF m 67 #[.val (.int p0), .val (.int p1), .val (.long p2), .second, .val (.long p3), .second, .val (.int ip), .val (.int lp), .val (.int (1 : Int32)), .val (.ref b61), .unset, .unset, .unset, .unset, .unset, .unset, .unset, .unset, .unset, .unset, .unset, .unset, .unset, .unset, .unset, .unset, .unset, .unset, .unset] [(.int (2 : Int32))]))
    refine Go.by (fun _ => XS.pop X69.here hx rfl (hb hby at_67) rfl rfl) ?_
    show Go p.tables e below _ (T69.setTop (mkF m 68 #[.val (.int p0), .val (.int p1), .val (.long p2), .second, .val (.long p3), .second, .val (.int ip), .val (.int lp), .val (.int (1 : Int32)), .val (.ref b61), .unset, .unset, .unset, .unset, .unset, .unset, .unset, .unset, .unset, .unset, .unset, .unset, .unset, .unset, .unset, .unset, .unset, .unset, .unset] []))
    refine Go.by (fun _ => XS.iloadN X69.here hx rfl (hb hby at_68) rfl) ?_
    refine Go.by (fun _ => XS.iconst X69.here hx rfl (hb hby at_69)) ?_
    refine Go.by (fun _ => XS.iand X69.here hx rfl (hb hby at_70) rfl) ?_
    refine Go.by (fun _ => XS.iconst X69.here hx rfl (hb hby at_71)) ?_
    show Go p.tables e below _ (T69.setTop (mkF m 72 #[.val (.int p0), .val (.int p1), .val (.long p2), .second, .val (.long p3), .second, .val (.int ip), .val (.int lp), .val (.int (1 : Int32)), .val (.ref b61), .unset, .unset, .unset, .unset, .unset, .unset, .unset, .unset, .unset, .unset, .unset, .unset, .unset, .unset, .unset, .unset, .unset, .unset, .unset] [(.int (3 : Int32)), (.int (p1 &&& (3 : Int32)))]))
    refine Go.by (fun _ => iremS X69 hx rfl (hb hby at_72) rfl (by decide)) ?_
    show Go p.tables e below _ (T69.setTop (mkF m 73 #[.val (.int p0), .val (.int p1), .val (.long p2), .second, .val (.long p3), .second, .val (.int ip), .val (.int lp), .val (.int (1 : Int32)), .val (.ref b61), .unset, .unset, .unset, .unset, .unset, .unset, .unset, .unset, .unset, .unset, .unset, .unset, .unset, .unset, .unset, .unset, .unset, .unset, .unset] [(.int ((p1 &&& (3 : Int32)) % (3 : Int32)))]))
    refine Go.by (fun _ => XS.istore X69.here hx rfl (hb hby at_73) rfl (l' := #[.val (.int p0), .val (.int p1), .val (.long p2), .second, .val (.long p3), .second, .val (.int ip), .val (.int lp), .val (.int (1 : Int32)), .val (.ref b61), .val (.int ((p1 &&& (3 : Int32)) % (3 : Int32))), .unset, .unset, .unset, .unset, .unset, .unset, .unset, .unset, .unset, .unset, .unset, .unset, .unset, .unset, .unset, .unset, .unset, .unset]) rfl) ?_
    show Go p.tables e below _ (T69.setTop (mkF m 75 #[.val (.int p0), .val (.int p1), .val (.long p2), .second, .val (.long p3), .second, .val (.int ip), .val (.int lp), .val (.int (1 : Int32)), .val (.ref b61), .val (.int ((p1 &&& (3 : Int32)) % (3 : Int32))), .unset, .unset, .unset, .unset, .unset, .unset, .unset, .unset, .unset, .unset, .unset, .unset, .unset, .unset, .unset, .unset, .unset, .unset] []))
    have h_r1 := own_r3 p1
    generalize ((p1 &&& (3 : Int32)) % (3 : Int32)) = r1 at *
    show Go p.tables e below _ (T69.setTop (mkF m 75 #[.val (.int p0), .val (.int p1), .val (.long p2), .second, .val (.long p3), .second, .val (.int ip), .val (.int lp), .val (.int (1 : Int32)), .val (.ref b61), .val (.int r1), .unset, .unset, .unset, .unset, .unset, .unset, .unset, .unset, .unset, .unset, .unset, .unset, .unset, .unset, .unset, .unset, .unset, .unset] []))
    refine Go.by (fun _ => XS.iloadN X69.here hx rfl (hb hby at_75) rfl) ?_
    refine Go.by (fun _ => XS.iconst X69.here hx rfl (hb hby at_76)) ?_
    refine Go.by (fun _ => XS.iushr X69.here hx rfl (hb hby at_77) rfl) ?_
    show Go p.tables e below _ (T69.setTop (mkF m 78 #[.val (.int p0), .val (.int p1), .val (.long p2), .second, .val (.long p3), .second, .val (.int ip), .val (.int lp), .val (.int (1 : Int32)), .val (.ref b61), .val (.int r1), .unset, .unset, .unset, .unset, .unset, .unset, .unset, .unset, .unset, .unset, .unset, .unset, .unset, .unset, .unset, .unset, .unset, .unset] [(.int ((p1.toUInt32 >>> ((2 : Int32) &&& 31).toUInt32).toInt32))]))
    refine Go.by (fun _ => XS.bipush X69.here hx rfl (hb hby at_78)) ?_
    show Go p.tables e below _ (T69.setTop (mkF m 80 #[.val (.int p0), .val (.int p1), .val (.long p2), .second, .val (.long p3), .second, .val (.int ip), .val (.int lp), .val (.int (1 : Int32)), .val (.ref b61), .val (.int r1), .unset, .unset, .unset, .unset, .unset, .unset, .unset, .unset, .unset, .unset, .unset, .unset, .unset, .unset, .unset, .unset, .unset, .unset] [(.int (7 : Int32)), (.int ((p1.toUInt32 >>> ((2 : Int32) &&& 31).toUInt32).toInt32))]))
    refine Go.by (fun _ => XS.iand X69.here hx rfl (hb hby at_80) rfl) ?_
    refine Go.by (fun _ => XS.iload X69.here hx rfl (hb hby at_81) rfl) ?_
    refine Go.by (fun _ => iremS X69 hx rfl (hb hby at_83) rfl (own_nz hip1)) ?_
    show Go p.tables e below _ (T69.setTop (mkF m 84 #[.val (.int p0), .val (.int p1), .val (.long p2), .second, .val (.long p3), .second, .val (.int ip), .val (.int lp), .val (.int (1 : Int32)), .val (.ref b61), .val (.int r1), .unset, .unset, .unset, .unset, .unset, .unset, .unset, .unset, .unset, .unset, .unset, .unset, .unset, .unset, .unset, .unset, .unset, .unset] [(.int ((((p1.toUInt32 >>> ((2 : Int32) &&& 31).toUInt32).toInt32) &&& (7 : Int32)) % ip))]))
    refine Go.by (fun _ => XS.istore X69.here hx rfl (hb hby at_84) rfl (l' := #[.val (.int p0), .val (.int p1), .val (.long p2), .second, .val (.long p3), .second, .val (.int ip), .val (.int lp), .val (.int (1 : Int32)), .val (.ref b61), .val (.int r1), .val (.int ((((p1.toUInt32 >>> ((2 : Int32) &&& 31).toUInt32).toInt32) &&& (7 : Int32)) % ip)), .unset, .unset, .unset, .unset, .unset, .unset, .unset, .unset, .unset, .unset, .unset, .unset, .unset, .unset, .unset, .unset, .unset]) rfl) ?_
    show Go p.tables e below _ (T69.setTop (mkF m 86 #[.val (.int p0), .val (.int p1), .val (.long p2), .second, .val (.long p3), .second, .val (.int ip), .val (.int lp), .val (.int (1 : Int32)), .val (.ref b61), .val (.int r1), .val (.int ((((p1.toUInt32 >>> ((2 : Int32) &&& 31).toUInt32).toInt32) &&& (7 : Int32)) % ip)), .unset, .unset, .unset, .unset, .unset, .unset, .unset, .unset, .unset, .unset, .unset, .unset, .unset, .unset, .unset, .unset, .unset] []))
    have h_f1 := own_fm ((p1.toUInt32 >>> ((2 : Int32) &&& 31).toUInt32).toInt32) ip hip1
    generalize ((((p1.toUInt32 >>> ((2 : Int32) &&& 31).toUInt32).toInt32) &&& (7 : Int32)) % ip) = f1 at *
    show Go p.tables e below _ (T69.setTop (mkF m 86 #[.val (.int p0), .val (.int p1), .val (.long p2), .second, .val (.long p3), .second, .val (.int ip), .val (.int lp), .val (.int (1 : Int32)), .val (.ref b61), .val (.int r1), .val (.int f1), .unset, .unset, .unset, .unset, .unset, .unset, .unset, .unset, .unset, .unset, .unset, .unset, .unset, .unset, .unset, .unset, .unset] []))
    refine Go.by (fun _ => XS.iloadN X69.here hx rfl (hb hby at_86) rfl) ?_
    refine Go.by (fun _ => XS.iconst X69.here hx rfl (hb hby at_87)) ?_
    show Go p.tables e below _ (T69.setTop (mkF m 88 #[.val (.int p0), .val (.int p1), .val (.long p2), .second, .val (.long p3), .second, .val (.int ip), .val (.int lp), .val (.int (1 : Int32)), .val (.ref b61), .val (.int r1), .val (.int f1), .unset, .unset, .unset, .unset, .unset, .unset, .unset, .unset, .unset, .unset, .unset, .unset, .unset, .unset, .unset, .unset, .unset] [(.int (5 : Int32)), (.int p1)]))
    refine Go.by (fun _ => XS.iushr X69.here hx rfl (hb hby at_88) rfl) ?_
    show Go p.tables e below _ (T69.setTop (mkF m 89 #[.val (.int p0), .val (.int p1), .val (.long p2), .second, .val (.long p3), .second, .val (.int ip), .val (.int lp), .val (.int (1 : Int32)), .val (.ref b61), .val (.int r1), .val (.int f1), .unset, .unset, .unset, .unset, .unset, .unset, .unset, .unset, .unset, .unset, .unset, .unset, .unset, .unset, .unset, .unset, .unset] [(.int ((p1.toUInt32 >>> ((5 : Int32) &&& 31).toUInt32).toInt32))]))
    refine Go.by (fun _ => XS.iconst X69.here hx rfl (hb hby at_89)) ?_
    refine Go.by (fun _ => XS.iand X69.here hx rfl (hb hby at_90) rfl) ?_
    refine Go.by (fun _ => XS.iconst X69.here hx rfl (hb hby at_91)) ?_
    refine Go.by (fun _ => iremS X69 hx rfl (hb hby at_92) rfl (by decide)) ?_
    show Go p.tables e below _ (T69.setTop (mkF m 93 #[.val (.int p0), .val (.int p1), .val (.long p2), .second, .val (.long p3), .second, .val (.int ip), .val (.int lp), .val (.int (1 : Int32)), .val (.ref b61), .val (.int r1), .val (.int f1), .unset, .unset, .unset, .unset, .unset, .unset, .unset, .unset, .unset, .unset, .unset, .unset, .unset, .unset, .unset, .unset, .unset] [(.int ((((p1.toUInt32 >>> ((5 : Int32) &&& 31).toUInt32).toInt32) &&& (3 : Int32)) % (3 : Int32)))]))
    refine Go.by (fun _ => XS.istore X69.here hx rfl (hb hby at_93) rfl (l' := #[.val (.int p0), .val (.int p1), .val (.long p2), .second, .val (.long p3), .second, .val (.int ip), .val (.int lp), .val (.int (1 : Int32)), .val (.ref b61), .val (.int r1), .val (.int f1), .val (.int ((((p1.toUInt32 >>> ((5 : Int32) &&& 31).toUInt32).toInt32) &&& (3 : Int32)) % (3 : Int32))), .unset, .unset, .unset, .unset, .unset, .unset, .unset, .unset, .unset, .unset, .unset, .unset, .unset, .unset, .unset, .unset]) rfl) ?_
    show Go p.tables e below _ (T69.setTop (mkF m 95 #[.val (.int p0), .val (.int p1), .val (.long p2), .second, .val (.long p3), .second, .val (.int ip), .val (.int lp), .val (.int (1 : Int32)), .val (.ref b61), .val (.int r1), .val (.int f1), .val (.int ((((p1.toUInt32 >>> ((5 : Int32) &&& 31).toUInt32).toInt32) &&& (3 : Int32)) % (3 : Int32))), .unset, .unset, .unset, .unset, .unset, .unset, .unset, .unset, .unset, .unset, .unset, .unset, .unset, .unset, .unset, .unset] []))
    have h_r2 := own_r3 ((p1.toUInt32 >>> ((5 : Int32) &&& 31).toUInt32).toInt32)
    generalize ((((p1.toUInt32 >>> ((5 : Int32) &&& 31).toUInt32).toInt32) &&& (3 : Int32)) % (3 : Int32)) = r2 at *
    show Go p.tables e below _ (T69.setTop (mkF m 95 #[.val (.int p0), .val (.int p1), .val (.long p2), .second, .val (.long p3), .second, .val (.int ip), .val (.int lp), .val (.int (1 : Int32)), .val (.ref b61), .val (.int r1), .val (.int f1), .val (.int r2), .unset, .unset, .unset, .unset, .unset, .unset, .unset, .unset, .unset, .unset, .unset, .unset, .unset, .unset, .unset, .unset] []))
    refine Go.by (fun _ => XS.iloadN X69.here hx rfl (hb hby at_95) rfl) ?_
    refine Go.by (fun _ => XS.bipush X69.here hx rfl (hb hby at_96)) ?_
    refine Go.by (fun _ => XS.iushr X69.here hx rfl (hb hby at_98) rfl) ?_
    show Go p.tables e below _ (T69.setTop (mkF m 99 #[.val (.int p0), .val (.int p1), .val (.long p2), .second, .val (.long p3), .second, .val (.int ip), .val (.int lp), .val (.int (1 : Int32)), .val (.ref b61), .val (.int r1), .val (.int f1), .val (.int r2), .unset, .unset, .unset, .unset, .unset, .unset, .unset, .unset, .unset, .unset, .unset, .unset, .unset, .unset, .unset, .unset] [(.int ((p1.toUInt32 >>> ((7 : Int32) &&& 31).toUInt32).toInt32))]))
    refine Go.by (fun _ => XS.bipush X69.here hx rfl (hb hby at_99)) ?_
    refine Go.by (fun _ => XS.iand X69.here hx rfl (hb hby at_101) rfl) ?_
    refine Go.by (fun _ => XS.iload X69.here hx rfl (hb hby at_102) rfl) ?_
    show Go p.tables e below _ (T69.setTop (mkF m 104 #[.val (.int p0), .val (.int p1), .val (.long p2), .second, .val (.long p3), .second, .val (.int ip), .val (.int lp), .val (.int (1 : Int32)), .val (.ref b61), .val (.int r1), .val (.int f1), .val (.int r2), .unset, .unset, .unset, .unset, .unset, .unset, .unset, .unset, .unset, .unset, .unset, .unset, .unset, .unset, .unset, .unset] [(.int ip), (.int (((p1.toUInt32 >>> ((7 : Int32) &&& 31).toUInt32).toInt32) &&& (7 : Int32)))]))
    refine Go.by (fun _ => iremS X69 hx rfl (hb hby at_104) rfl (own_nz hip1)) ?_
    show Go p.tables e below _ (T69.setTop (mkF m 105 #[.val (.int p0), .val (.int p1), .val (.long p2), .second, .val (.long p3), .second, .val (.int ip), .val (.int lp), .val (.int (1 : Int32)), .val (.ref b61), .val (.int r1), .val (.int f1), .val (.int r2), .unset, .unset, .unset, .unset, .unset, .unset, .unset, .unset, .unset, .unset, .unset, .unset, .unset, .unset, .unset, .unset] [(.int ((((p1.toUInt32 >>> ((7 : Int32) &&& 31).toUInt32).toInt32) &&& (7 : Int32)) % ip))]))
    refine Go.by (fun _ => XS.istore X69.here hx rfl (hb hby at_105) rfl (l' := #[.val (.int p0), .val (.int p1), .val (.long p2), .second, .val (.long p3), .second, .val (.int ip), .val (.int lp), .val (.int (1 : Int32)), .val (.ref b61), .val (.int r1), .val (.int f1), .val (.int r2), .val (.int ((((p1.toUInt32 >>> ((7 : Int32) &&& 31).toUInt32).toInt32) &&& (7 : Int32)) % ip)), .unset, .unset, .unset, .unset, .unset, .unset, .unset, .unset, .unset, .unset, .unset, .unset, .unset, .unset, .unset]) rfl) ?_
    show Go p.tables e below _ (T69.setTop (mkF m 107 #[.val (.int p0), .val (.int p1), .val (.long p2), .second, .val (.long p3), .second, .val (.int ip), .val (.int lp), .val (.int (1 : Int32)), .val (.ref b61), .val (.int r1), .val (.int f1), .val (.int r2), .val (.int ((((p1.toUInt32 >>> ((7 : Int32) &&& 31).toUInt32).toInt32) &&& (7 : Int32)) % ip)), .unset, .unset, .unset, .unset, .unset, .unset, .unset, .unset, .unset, .unset, .unset, .unset, .unset, .unset, .unset] []))
    have h_f2 := own_fm ((p1.toUInt32 >>> ((7 : Int32) &&& 31).toUInt32).toInt32) ip hip1
    generalize ((((p1.toUInt32 >>> ((7 : Int32) &&& 31).toUInt32).toInt32) &&& (7 : Int32)) % ip) = f2 at *
    show Go p.tables e below _ (T69.setTop (mkF m 107 #[.val (.int p0), .val (.int p1), .val (.long p2), .second, .val (.long p3), .second, .val (.int ip), .val (.int lp), .val (.int (1 : Int32)), .val (.ref b61), .val (.int r1), .val (.int f1), .val (.int r2), .val (.int f2), .unset, .unset, .unset, .unset, .unset, .unset, .unset, .unset, .unset, .unset, .unset, .unset, .unset, .unset, .unset] []))
    refine Go.by (fun _ => XS.iloadN X69.here hx rfl (hb hby at_107) rfl) ?_
    refine Go.by (fun _ => XS.bipush X69.here hx rfl (hb hby at_108)) ?_
    refine Go.by (fun _ => XS.iushr X69.here hx rfl (hb hby at_110) rfl) ?_
    show Go p.tables e below _ (T69.setTop (mkF m 111 #[.val (.int p0), .val (.int p1), .val (.long p2), .second, .val (.long p3), .second, .val (.int ip), .val (.int lp), .val (.int (1 : Int32)), .val (.ref b61), .val (.int r1), .val (.int f1), .val (.int r2), .val (.int f2), .unset, .unset, .unset, .unset, .unset, .unset, .unset, .unset, .unset, .unset, .unset, .unset, .unset, .unset, .unset] [(.int ((p1.toUInt32 >>> ((10 : Int32) &&& 31).toUInt32).toInt32))]))
    refine Go.by (fun _ => XS.iconst X69.here hx rfl (hb hby at_111)) ?_
    show Go p.tables e below _ (T69.setTop (mkF m 112 #[.val (.int p0), .val (.int p1), .val (.long p2), .second, .val (.long p3), .second, .val (.int ip), .val (.int lp), .val (.int (1 : Int32)), .val (.ref b61), .val (.int r1), .val (.int f1), .val (.int r2), .val (.int f2), .unset, .unset, .unset, .unset, .unset, .unset, .unset, .unset, .unset, .unset, .unset, .unset, .unset, .unset, .unset] [(.int (3 : Int32)), (.int ((p1.toUInt32 >>> ((10 : Int32) &&& 31).toUInt32).toInt32))]))
    refine Go.by (fun _ => XS.iand X69.here hx rfl (hb hby at_112) rfl) ?_
    refine Go.by (fun _ => XS.iconst X69.here hx rfl (hb hby at_113)) ?_
    refine Go.by (fun _ => iremS X69 hx rfl (hb hby at_114) rfl (by decide)) ?_
    show Go p.tables e below _ (T69.setTop (mkF m 115 #[.val (.int p0), .val (.int p1), .val (.long p2), .second, .val (.long p3), .second, .val (.int ip), .val (.int lp), .val (.int (1 : Int32)), .val (.ref b61), .val (.int r1), .val (.int f1), .val (.int r2), .val (.int f2), .unset, .unset, .unset, .unset, .unset, .unset, .unset, .unset, .unset, .unset, .unset, .unset, .unset, .unset, .unset] [(.int ((((p1.toUInt32 >>> ((10 : Int32) &&& 31).toUInt32).toInt32) &&& (3 : Int32)) % (3 : Int32)))]))
    refine Go.by (fun _ => XS.istore X69.here hx rfl (hb hby at_115) rfl (l' := #[.val (.int p0), .val (.int p1), .val (.long p2), .second, .val (.long p3), .second, .val (.int ip), .val (.int lp), .val (.int (1 : Int32)), .val (.ref b61), .val (.int r1), .val (.int f1), .val (.int r2), .val (.int f2), .val (.int ((((p1.toUInt32 >>> ((10 : Int32) &&& 31).toUInt32).toInt32) &&& (3 : Int32)) % (3 : Int32))), .unset, .unset, .unset, .unset, .unset, .unset, .unset, .unset, .unset, .unset, .unset, .unset, .unset, .unset]) rfl) ?_
    show Go p.tables e below _ (T69.setTop (mkF m 117 #[.val (.int p0), .val (.int p1), .val (.long p2), .second, .val (.long p3), .second, .val (.int ip), .val (.int lp), .val (.int (1 : Int32)), .val (.ref b61), .val (.int r1), .val (.int f1), .val (.int r2), .val (.int f2), .val (.int ((((p1.toUInt32 >>> ((10 : Int32) &&& 31).toUInt32).toInt32) &&& (3 : Int32)) % (3 : Int32))), .unset, .unset, .unset, .unset, .unset, .unset, .unset, .unset, .unset, .unset, .unset, .unset, .unset, .unset] []))
    have h_r3 := own_r3 ((p1.toUInt32 >>> ((10 : Int32) &&& 31).toUInt32).toInt32)
    generalize ((((p1.toUInt32 >>> ((10 : Int32) &&& 31).toUInt32).toInt32) &&& (3 : Int32)) % (3 : Int32)) = r3 at *
    show Go p.tables e below _ (T69.setTop (mkF m 117 #[.val (.int p0), .val (.int p1), .val (.long p2), .second, .val (.long p3), .second, .val (.int ip), .val (.int lp), .val (.int (1 : Int32)), .val (.ref b61), .val (.int r1), .val (.int f1), .val (.int r2), .val (.int f2), .val (.int r3), .unset, .unset, .unset, .unset, .unset, .unset, .unset, .unset, .unset, .unset, .unset, .unset, .unset, .unset] []))
    refine Go.by (fun _ => XS.iloadN X69.here hx rfl (hb hby at_117) rfl) ?_
    refine Go.by (fun _ => XS.bipush X69.here hx rfl (hb hby at_118)) ?_
    show Go p.tables e below _ (T69.setTop (mkF m 120 #[.val (.int p0), .val (.int p1), .val (.long p2), .second, .val (.long p3), .second, .val (.int ip), .val (.int lp), .val (.int (1 : Int32)), .val (.ref b61), .val (.int r1), .val (.int f1), .val (.int r2), .val (.int f2), .val (.int r3), .unset, .unset, .unset, .unset, .unset, .unset, .unset, .unset, .unset, .unset, .unset, .unset, .unset, .unset] [(.int (12 : Int32)), (.int p1)]))
    refine Go.by (fun _ => XS.iushr X69.here hx rfl (hb hby at_120) rfl) ?_
    show Go p.tables e below _ (T69.setTop (mkF m 121 #[.val (.int p0), .val (.int p1), .val (.long p2), .second, .val (.long p3), .second, .val (.int ip), .val (.int lp), .val (.int (1 : Int32)), .val (.ref b61), .val (.int r1), .val (.int f1), .val (.int r2), .val (.int f2), .val (.int r3), .unset, .unset, .unset, .unset, .unset, .unset, .unset, .unset, .unset, .unset, .unset, .unset, .unset, .unset] [(.int ((p1.toUInt32 >>> ((12 : Int32) &&& 31).toUInt32).toInt32))]))
    refine Go.by (fun _ => XS.bipush X69.here hx rfl (hb hby at_121)) ?_
    refine Go.by (fun _ => XS.iand X69.here hx rfl (hb hby at_123) rfl) ?_
    refine Go.by (fun _ => XS.iload X69.here hx rfl (hb hby at_124) rfl) ?_
    refine Go.by (fun _ => iremS X69 hx rfl (hb hby at_126) rfl (own_nz hip1)) ?_
    show Go p.tables e below _ (T69.setTop (mkF m 127 #[.val (.int p0), .val (.int p1), .val (.long p2), .second, .val (.long p3), .second, .val (.int ip), .val (.int lp), .val (.int (1 : Int32)), .val (.ref b61), .val (.int r1), .val (.int f1), .val (.int r2), .val (.int f2), .val (.int r3), .unset, .unset, .unset, .unset, .unset, .unset, .unset, .unset, .unset, .unset, .unset, .unset, .unset, .unset] [(.int ((((p1.toUInt32 >>> ((12 : Int32) &&& 31).toUInt32).toInt32) &&& (7 : Int32)) % ip))]))
    refine Go.by (fun _ => XS.istore X69.here hx rfl (hb hby at_127) rfl (l' := #[.val (.int p0), .val (.int p1), .val (.long p2), .second, .val (.long p3), .second, .val (.int ip), .val (.int lp), .val (.int (1 : Int32)), .val (.ref b61), .val (.int r1), .val (.int f1), .val (.int r2), .val (.int f2), .val (.int r3), .val (.int ((((p1.toUInt32 >>> ((12 : Int32) &&& 31).toUInt32).toInt32) &&& (7 : Int32)) % ip)), .unset, .unset, .unset, .unset, .unset, .unset, .unset, .unset, .unset, .unset, .unset, .unset, .unset]) rfl) ?_
    show Go p.tables e below _ (T69.setTop (mkF m 129 #[.val (.int p0), .val (.int p1), .val (.long p2), .second, .val (.long p3), .second, .val (.int ip), .val (.int lp), .val (.int (1 : Int32)), .val (.ref b61), .val (.int r1), .val (.int f1), .val (.int r2), .val (.int f2), .val (.int r3), .val (.int ((((p1.toUInt32 >>> ((12 : Int32) &&& 31).toUInt32).toInt32) &&& (7 : Int32)) % ip)), .unset, .unset, .unset, .unset, .unset, .unset, .unset, .unset, .unset, .unset, .unset, .unset, .unset] []))
    have h_f3 := own_fm ((p1.toUInt32 >>> ((12 : Int32) &&& 31).toUInt32).toInt32) ip hip1
    generalize ((((p1.toUInt32 >>> ((12 : Int32) &&& 31).toUInt32).toInt32) &&& (7 : Int32)) % ip) = f3 at *
    show Go p.tables e below _ (T69.setTop (mkF m 129 #[.val (.int p0), .val (.int p1), .val (.long p2), .second, .val (.long p3), .second, .val (.int ip), .val (.int lp), .val (.int (1 : Int32)), .val (.ref b61), .val (.int r1), .val (.int f1), .val (.int r2), .val (.int f2), .val (.int r3), .val (.int f3), .unset, .unset, .unset, .unset, .unset, .unset, .unset, .unset, .unset, .unset, .unset, .unset, .unset] []))
    have hc_r1_f1 := own_cell h_r1.1 h_r1.2 hip1 hip2 h_f1.1 h_f1.2
    have hc_r2_f2 := own_cell h_r2.1 h_r2.2 hip1 hip2 h_f2.1 h_f2.2
    have hc_r3_f3 := own_cell h_r3.1 h_r3.2 hip1 hip2 h_f3.1 h_f3.2
    refine Go.by (fun _ => XS.aload X69.here hx rfl (hb hby at_129) rfl rfl) ?_
    refine Go.by (fun _ => XS.iload X69.here hx rfl (hb hby at_131) rfl) ?_
    refine Go.by (fun _ => XS.iload X69.here hx rfl (hb hby at_133) rfl) ?_
    refine Go.by (fun _ => XS.lload X69.here hx rfl (hb hby at_135) rfl) ?_
    obtain ⟨v71, T71, h71, X71, q71, st71⟩ := X69.callV hx hZ (y := (⟨"com/example/spotline/spotline/engine/Table", "setLong", "(IIJ)V"⟩ : MethodName)) (z := (⟨"com/example/spotline/spotline/engine/Table", "setLong", "(IIJ)V"⟩ : MethodName)) hown (tw hw 59 rfl) (tw hw 60 rfl) (notFace_of_selects (args := #[]) (mvT hZ (tw hw 62 rfl))) (tw hw 62 rfl) (tw hw 61 rfl) (tw hw 3 rfl) (tw hw 63 rfl) (by decide) (rm8 l Z a0 hw [] b61 r2 f2 p3 oL63 dL65 kL63 kdL65 ip (((64 : Int32) * ip).toNatClampNeg) (fun i => if i = 0 then (.ref dL65) else .null) (fun _ => (.long 0)) h69 n0 Zs70 Flongs69 FlongsPerRow69 f70_1180 rfl f70_1183 hc_r2_f2.1 hc_r2_f2.2.1 hc_r2_f2.2.2 g_dL65) Ex69 (g := (mkF m 137 #[.val (.int p0), .val (.int p1), .val (.long p2), .second, .val (.long p3), .second, .val (.int ip), .val (.int lp), .val (.int (1 : Int32)), .val (.ref b61), .val (.int r1), .val (.int f1), .val (.int r2), .val (.int f2), .val (.int r3), .val (.int f3), .unset, .unset, .unset, .unset, .unset, .unset, .unset, .unset, .unset, .unset, .unset, .unset, .unset] [(.long p3), (.int f2), (.int r2), (.ref b61)])) rfl (by rw [hml]; rfl) (argsL := [(.int r2), (.int f2), (.long p3)]) (rest := []) (lenOf pd5 rfl) rfl (hb hby at_137) rfl (by decide) (Nat.le_of_ble_eq_true rfl) (k' := 7) (n' := 504) rfl rfl (by decide) (by decide)
    refine Go.by st71 ?_
    obtain ⟨rfl, K71, V71⟩ := q71
    have f72_1286 := Ex69.keep K71
    have f72_1287 := Avf.keep f70_1180 K71 (ninS ne_oL63_dL65 nin0)
    have f72_1288 := Avf.keep f70_1181 K71 (ninS ne_oI63_dL65 nin0)
    have f72_1289 := Avf.keep f70_1182 K71 (ninS ne_oO63_dL65 nin0)
    have f72_1290 := Avf.keep f70_1184 K71 (ninS (Ne.symm nLI65) nin0)
    have f72_1291 := Flongs69.keep K71 (ninS ne_b61_dL65 nin0)
    have f72_1292 := Fints69.keep K71 (ninS ne_b61_dL65 nin0)
    have f72_1293 := Fobjects69.keep K71 (ninS ne_b61_dL65 nin0)
    have f72_1294 := FlongsPerRow69.keep K71 (ninS ne_b61_dL65 nin0)
    have f72_1295 := FintsPerRow69.keep K71 (ninS ne_b61_dL65 nin0)
    have f72_1296 := FobjectsPerRow69.keep K71 (ninS ne_b61_dL65 nin0)
    have f72_1297 := Fsize69.keep K71 (ninS ne_b61_dL65 nin0)
    have f72_1298 := Fcapacity69.keep K71 (ninS ne_b61_dL65 nin0)
    have f72_1299 := Avf.keep VdO69 K71 (ninS (Ne.symm nLO65) nin0)
    have Zs72 : n0 ≤ h71.size := Nat.le_trans Zs70 K71.1
    show Go p.tables e below _ (T71.setTop (mkF m 140 #[.val (.int p0), .val (.int p1), .val (.long p2), .second, .val (.long p3), .second, .val (.int ip), .val (.int lp), .val (.int (1 : Int32)), .val (.ref b61), .val (.int r1), .val (.int f1), .val (.int r2), .val (.int f2), .val (.int r3), .val (.int f3), .unset, .unset, .unset, .unset, .unset, .unset, .unset, .unset, .unset, .unset, .unset, .unset, .unset] []))
    refine Go.by (fun _ => XS.aload X71.here hx rfl (hb hby at_140) rfl rfl) ?_
    refine Go.by (fun _ => XS.iload X71.here hx rfl (hb hby at_142) rfl) ?_
    show Go p.tables e below _ (T71.setTop (mkF m 144 #[.val (.int p0), .val (.int p1), .val (.long p2), .second, .val (.long p3), .second, .val (.int ip), .val (.int lp), .val (.int (1 : Int32)), .val (.ref b61), .val (.int r1), .val (.int f1), .val (.int r2), .val (.int f2), .val (.int r3), .val (.int f3), .unset, .unset, .unset, .unset, .unset, .unset, .unset, .unset, .unset, .unset, .unset, .unset, .unset] [(.int r1), (.ref b61)]))
    refine Go.by (fun _ => XS.iload X71.here hx rfl (hb hby at_144) rfl) ?_
    refine Go.by (fun _ => XS.lloadN X71.here hx rfl (hb hby at_146) rfl) ?_
    obtain ⟨v73, T73, h73, X73, q73, st73⟩ := X71.callV hx hZ (y := (⟨"com/example/spotline/spotline/engine/Table", "setLong", "(IIJ)V"⟩ : MethodName)) (z := (⟨"com/example/spotline/spotline/engine/Table", "setLong", "(IIJ)V"⟩ : MethodName)) hown (tw hw 59 rfl) (tw hw 60 rfl) (notFace_of_selects (args := #[]) (mvT hZ (tw hw 62 rfl))) (tw hw 62 rfl) (tw hw 61 rfl) (tw hw 3 rfl) (tw hw 63 rfl) (by decide) (rm8 l Z a0 hw [] b61 r1 f1 p2 oL63 dL65 kL63 kdL65 ip (((64 : Int32) * ip).toNatClampNeg) (fun i => if i = 0 then (.ref dL65) else .null) (fun t => if t = ((((r2 &&& (65535 : Int32)) * ip) + f2).toNatClampNeg) then (.long p3) else (fun _ => (.long 0)) t) h71 n0 Zs72 f72_1291 f72_1294 f72_1287 rfl V71 hc_r1_f1.1 hc_r1_f1.2.1 hc_r1_f1.2.2 g_dL65) f72_1286 (g := (mkF m 147 #[.val (.int p0), .val (.int p1), .val (.long p2), .second, .val (.long p3), .second, .val (.int ip), .val (.int lp), .val (.int (1 : Int32)), .val (.ref b61), .val (.int r1), .val (.int f1), .val (.int r2), .val (.int f2), .val (.int r3), .val (.int f3), .unset, .unset, .unset, .unset, .unset, .unset, .unset, .unset, .unset, .unset, .unset, .unset, .unset] [(.long p2), (.int f1), (.int r1), (.ref b61)])) rfl (by rw [hml]; rfl) (argsL := [(.int r1), (.int f1), (.long p2)]) (rest := []) (lenOf pd5 rfl) rfl (hb hby at_147) rfl (by decide) (Nat.le_of_ble_eq_true rfl) (k' := 7) (n' := 504) rfl rfl (by decide) (by decide)
    refine Go.by st73 ?_
    obtain ⟨rfl, K73, V73⟩ := q73
    have f74_1310 := f72_1286.keep K73
    have f74_1311 := Avf.keep f72_1287 K73 (ninS ne_oL63_dL65 nin0)
    have f74_1312 := Avf.keep f72_1288 K73 (ninS ne_oI63_dL65 nin0)
    have f74_1313 := Avf.keep f72_1289 K73 (ninS ne_oO63_dL65 nin0)
    have f74_1314 := Avf.keep f72_1290 K73 (ninS (Ne.symm nLI65) nin0)
    have f74_1315 := f72_1291.keep K73 (ninS ne_b61_dL65 nin0)
    have f74_1316 := f72_1292.keep K73 (ninS ne_b61_dL65 nin0)
    have f74_1317 := f72_1293.keep K73 (ninS ne_b61_dL65 nin0)
    have f74_1318 := f72_1294.keep K73 (ninS ne_b61_dL65 nin0)
    have f74_1319 := f72_1295.keep K73 (ninS ne_b61_dL65 nin0)
    have f74_1320 := f72_1296.keep K73 (ninS ne_b61_dL65 nin0)
    have f74_1321 := f72_1297.keep K73 (ninS ne_b61_dL65 nin0)
    have f74_1322 := f72_1298.keep K73 (ninS ne_b61_dL65 nin0)
    have f74_1323 := Avf.keep f72_1299 K73 (ninS (Ne.symm nLO65) nin0)
    have Zs74 : n0 ≤ h73.size := Nat.le_trans Zs72 K73.1
    show Go p.tables e below _ (T73.setTop (mkF m 150 #[.val (.int p0), .val (.int p1), .val (.long p2), .second, .val (.long p3), .second, .val (.int ip), .val (.int lp), .val (.int (1 : Int32)), .val (.ref b61), .val (.int r1), .val (.int f1), .val (.int r2), .val (.int f2), .val (.int r3), .val (.int f3), .unset, .unset, .unset, .unset, .unset, .unset, .unset, .unset, .unset, .unset, .unset, .unset, .unset] []))
    have J75 : ∀ (Tj75 : State), Sd n0 p l e room_1 s m #[(.int p0), (.int p1), (.long p2), (.long p3)] below meth c Tj75 h73 7 504 → ∀ (jb : Int32), ((jb = 1 ∧ r1 = r2 ∧ f1 = f2) ∨ (jb = 0 ∧ ¬ (r1 = r2 ∧ f1 = f2))) → Go p.tables e below (Ret s n0 (fun v h => v = some (.int 1)) room_1.cells room_1.slots) (Tj75.setTop (mkF m 169 #[.val (.int p0), .val (.int p1), .val (.long p2), .second, .val (.long p3), .second, .val (.int ip), .val (.int lp), .val (.int (1 : Int32)), .val (.ref b61), .val (.int r1), .val (.int f1), .val (.int r2), .val (.int f2), .val (.int r3), .val (.int f3), .unset, .unset, .unset, .unset, .unset, .unset, .unset, .unset, .unset, .unset, .unset, .unset, .unset] [(.int jb)])) := by
      intro Tj75 Xj75 jb hj75
      rcases hj75 with ⟨rfl, hP16⟩ | ⟨rfl, hP16⟩
      · skip
        show Go p.tables e below _ (Tj75.setTop (mkF m 169 #[.val (.int p0), .val (.int p1), .val (.long p2), .second, .val (.long p3), .second, .val (.int ip), .val (.int lp), .val (.int (1 : Int32)), .val (.ref b61), .val (.int r1), .val (.int f1), .val (.int r2), .val (.int f2), .val (.int r3), .val (.int f3), .unset, .unset, .unset, .unset, .unset, .unset, .unset, .unset, .unset, .unset, .unset, .unset, .unset] [(.int (1 : Int32))]))
        refine Go.by (fun _ => XS.istore Xj75.here hx rfl (hb hby at_169) rfl (l' := #[.val (.int p0), .val (.int p1), .val (.long p2), .second, .val (.long p3), .second, .val (.int ip), .val (.int lp), .val (.int (1 : Int32)), .val (.ref b61), .val (.int r1), .val (.int f1), .val (.int r2), .val (.int f2), .val (.int r3), .val (.int f3), .val (.int (1 : Int32)), .unset, .unset, .unset, .unset, .unset, .unset, .unset, .unset, .unset, .unset, .unset, .unset]) rfl) ?_
        show Go p.tables e below _ (Tj75.setTop (mkF m 171 #[.val (.int p0), .val (.int p1), .val (.long p2), .second, .val (.long p3), .second, .val (.int ip), .val (.int lp), .val (.int (1 : Int32)), .val (.ref b61), .val (.int r1), .val (.int f1), .val (.int r2), .val (.int f2), .val (.int r3), .val (.int f3), .val (.int (1 : Int32)), .unset, .unset, .unset, .unset, .unset, .unset, .unset, .unset, .unset, .unset, .unset, .unset] []))
        have J76 : ∀ (Tj76 : State), Sd n0 p l e room_1 s m #[(.int p0), (.int p1), (.long p2), (.long p3)] below meth c Tj76 h73 7 504 → ∀ (jb : Int32), ((jb = 1 ∧ r1 = r3 ∧ f1 = f3) ∨ (jb = 0 ∧ ¬ (r1 = r3 ∧ f1 = f3))) → Go p.tables e below (Ret s n0 (fun v h => v = some (.int 1)) room_1.cells room_1.slots) (Tj76.setTop (mkF m 190 #[.val (.int p0), .val (.int p1), .val (.long p2), .second, .val (.long p3), .second, .val (.int ip), .val (.int lp), .val (.int (1 : Int32)), .val (.ref b61), .val (.int r1), .val (.int f1), .val (.int r2), .val (.int f2), .val (.int r3), .val (.int f3), .val (.int (1 : Int32)), .unset, .unset, .unset, .unset, .unset, .unset, .unset, .unset, .unset, .unset, .unset, .unset] [(.int jb)])) := by
          intro Tj76 Xj76 jb hj76
          rcases hj76 with ⟨rfl, hP17⟩ | ⟨rfl, hP17⟩
          · skip
            show Go p.tables e below _ (Tj76.setTop (mkF m 190 #[.val (.int p0), .val (.int p1), .val (.long p2), .second, .val (.long p3), .second, .val (.int ip), .val (.int lp), .val (.int (1 : Int32)), .val (.ref b61), .val (.int r1), .val (.int f1), .val (.int r2), .val (.int f2), .val (.int r3), .val (.int f3), .val (.int (1 : Int32)), .unset, .unset, .unset, .unset, .unset, .unset, .unset, .unset, .unset, .unset, .unset, .unset] [(.int (1 : Int32))]))
            refine Go.by (fun _ => XS.istore Xj76.here hx rfl (hb hby at_190) rfl (l' := #[.val (.int p0), .val (.int p1), .val (.long p2), .second, .val (.long p3), .second, .val (.int ip), .val (.int lp), .val (.int (1 : Int32)), .val (.ref b61), .val (.int r1), .val (.int f1), .val (.int r2), .val (.int f2), .val (.int r3), .val (.int f3), .val (.int (1 : Int32)), .val (.int (1 : Int32)), .unset, .unset, .unset, .unset, .unset, .unset, .unset, .unset, .unset, .unset, .unset]) rfl) ?_
            show Go p.tables e below _ (Tj76.setTop (mkF m 192 #[.val (.int p0), .val (.int p1), .val (.long p2), .second, .val (.long p3), .second, .val (.int ip), .val (.int lp), .val (.int (1 : Int32)), .val (.ref b61), .val (.int r1), .val (.int f1), .val (.int r2), .val (.int f2), .val (.int r3), .val (.int f3), .val (.int (1 : Int32)), .val (.int (1 : Int32)), .unset, .unset, .unset, .unset, .unset, .unset, .unset, .unset, .unset, .unset, .unset] []))
            have J77 : ∀ (Tj77 : State), Sd n0 p l e room_1 s m #[(.int p0), (.int p1), (.long p2), (.long p3)] below meth c Tj77 h73 7 504 → ∀ (jb : Int32), ((jb = 1 ∧ r2 = r3 ∧ f2 = f3) ∨ (jb = 0 ∧ ¬ (r2 = r3 ∧ f2 = f3))) → Go p.tables e below (Ret s n0 (fun v h => v = some (.int 1)) room_1.cells room_1.slots) (Tj77.setTop (mkF m 211 #[.val (.int p0), .val (.int p1), .val (.long p2), .second, .val (.long p3), .second, .val (.int ip), .val (.int lp), .val (.int (1 : Int32)), .val (.ref b61), .val (.int r1), .val (.int f1), .val (.int r2), .val (.int f2), .val (.int r3), .val (.int f3), .val (.int (1 : Int32)), .val (.int (1 : Int32)), .unset, .unset, .unset, .unset, .unset, .unset, .unset, .unset, .unset, .unset, .unset] [(.int jb)])) := by
              intro Tj77 Xj77 jb hj77
              rcases hj77 with ⟨rfl, hP18⟩ | ⟨rfl, hP18⟩
              · skip
                show Go p.tables e below _ (Tj77.setTop (mkF m 211 #[.val (.int p0), .val (.int p1), .val (.long p2), .second, .val (.long p3), .second, .val (.int ip), .val (.int lp), .val (.int (1 : Int32)), .val (.ref b61), .val (.int r1), .val (.int f1), .val (.int r2), .val (.int f2), .val (.int r3), .val (.int f3), .val (.int (1 : Int32)), .val (.int (1 : Int32)), .unset, .unset, .unset, .unset, .unset, .unset, .unset, .unset, .unset, .unset, .unset] [(.int (1 : Int32))]))
                refine Go.by (fun _ => XS.istore Xj77.here hx rfl (hb hby at_211) rfl (l' := #[.val (.int p0), .val (.int p1), .val (.long p2), .second, .val (.long p3), .second, .val (.int ip), .val (.int lp), .val (.int (1 : Int32)), .val (.ref b61), .val (.int r1), .val (.int f1), .val (.int r2), .val (.int f2), .val (.int r3), .val (.int f3), .val (.int (1 : Int32)), .val (.int (1 : Int32)), .val (.int (1 : Int32)), .unset, .unset, .unset, .unset, .unset, .unset, .unset, .unset, .unset, .unset]) rfl) ?_
                show Go p.tables e below _ (Tj77.setTop (mkF m 213 #[.val (.int p0), .val (.int p1), .val (.long p2), .second, .val (.long p3), .second, .val (.int ip), .val (.int lp), .val (.int (1 : Int32)), .val (.ref b61), .val (.int r1), .val (.int f1), .val (.int r2), .val (.int f2), .val (.int r3), .val (.int f3), .val (.int (1 : Int32)), .val (.int (1 : Int32)), .val (.int (1 : Int32)), .unset, .unset, .unset, .unset, .unset, .unset, .unset, .unset, .unset, .unset] []))
                refine Go.by (fun _ => XS.iload Xj77.here hx rfl (hb hby at_213) rfl) ?_
                show Go p.tables e below _ (Tj77.setTop (mkF m 215 #[.val (.int p0), .val (.int p1), .val (.long p2), .second, .val (.long p3), .second, .val (.int ip), .val (.int lp), .val (.int (1 : Int32)), .val (.ref b61), .val (.int r1), .val (.int f1), .val (.int r2), .val (.int f2), .val (.int r3), .val (.int f3), .val (.int (1 : Int32)), .val (.int (1 : Int32)), .val (.int (1 : Int32)), .unset, .unset, .unset, .unset, .unset, .unset, .unset, .unset, .unset, .unset] [(.int (1 : Int32))]))
                refine Go.by (fun _ => XS.ifNo Xj77.here hx rfl (hb hby at_215) rfl ((if0 _ _).trans (feq (by decide)).1)) ?_
                show Go p.tables e below _ (Tj77.setTop (mkF m 218 #[.val (.int p0), .val (.int p1), .val (.long p2), .second, .val (.long p3), .second, .val (.int ip), .val (.int lp), .val (.int (1 : Int32)), .val (.ref b61), .val (.int r1), .val (.int f1), .val (.int r2), .val (.int f2), .val (.int r3), .val (.int f3), .val (.int (1 : Int32)), .val (.int (1 : Int32)), .val (.int (1 : Int32)), .unset, .unset, .unset, .unset, .unset, .unset, .unset, .unset, .unset, .unset] []))
                refine Go.by (fun _ => XS.lloadN Xj77.here hx rfl (hb hby at_218) rfl) ?_
                refine Go.by (fun _ => XS.goto Xj77.here hx rfl (pc0 := 219) (pc' := 224) rfl (hb hby at_219) (by decide) (by decide)) ?_
                show Go p.tables e below _ (Tj77.setTop (mkF m 224 #[.val (.int p0), .val (.int p1), .val (.long p2), .second, .val (.long p3), .second, .val (.int ip), .val (.int lp), .val (.int (1 : Int32)), .val (.ref b61), .val (.int r1), .val (.int f1), .val (.int r2), .val (.int f2), .val (.int r3), .val (.int f3), .val (.int (1 : Int32)), .val (.int (1 : Int32)), .val (.int (1 : Int32)), .unset, .unset, .unset, .unset, .unset, .unset, .unset, .unset, .unset, .unset] [(.long p2)]))
                refine Go.by (fun _ => XS.lstore Xj77.here hx rfl (hb hby at_224) rfl (l' := #[.val (.int p0), .val (.int p1), .val (.long p2), .second, .val (.long p3), .second, .val (.int ip), .val (.int lp), .val (.int (1 : Int32)), .val (.ref b61), .val (.int r1), .val (.int f1), .val (.int r2), .val (.int f2), .val (.int r3), .val (.int f3), .val (.int (1 : Int32)), .val (.int (1 : Int32)), .val (.int (1 : Int32)), .val (.long p2), .second, .unset, .unset, .unset, .unset, .unset, .unset, .unset, .unset]) rfl) ?_
                show Go p.tables e below _ (Tj77.setTop (mkF m 226 #[.val (.int p0), .val (.int p1), .val (.long p2), .second, .val (.long p3), .second, .val (.int ip), .val (.int lp), .val (.int (1 : Int32)), .val (.ref b61), .val (.int r1), .val (.int f1), .val (.int r2), .val (.int f2), .val (.int r3), .val (.int f3), .val (.int (1 : Int32)), .val (.int (1 : Int32)), .val (.int (1 : Int32)), .val (.long p2), .second, .unset, .unset, .unset, .unset, .unset, .unset, .unset, .unset] []))
                refine Go.by (fun _ => XS.iload Xj77.here hx rfl (hb hby at_226) rfl) ?_
                refine Go.by (fun _ => XS.ifNo Xj77.here hx rfl (hb hby at_228) rfl ((if0 _ _).trans (feq (by decide)).1)) ?_
                show Go p.tables e below _ (Tj77.setTop (mkF m 231 #[.val (.int p0), .val (.int p1), .val (.long p2), .second, .val (.long p3), .second, .val (.int ip), .val (.int lp), .val (.int (1 : Int32)), .val (.ref b61), .val (.int r1), .val (.int f1), .val (.int r2), .val (.int f2), .val (.int r3), .val (.int f3), .val (.int (1 : Int32)), .val (.int (1 : Int32)), .val (.int (1 : Int32)), .val (.long p2), .second, .unset, .unset, .unset, .unset, .unset, .unset, .unset, .unset] []))
                refine Go.by (fun _ => XS.lloadN Xj77.here hx rfl (hb hby at_231) rfl) ?_
                refine Go.by (fun _ => XS.goto Xj77.here hx rfl (pc0 := 232) (pc' := 246) rfl (hb hby at_232) (by decide) (by decide)) ?_
                show Go p.tables e below _ (Tj77.setTop (mkF m 246 #[.val (.int p0), .val (.int p1), .val (.long p2), .second, .val (.long p3), .second, .val (.int ip), .val (.int lp), .val (.int (1 : Int32)), .val (.ref b61), .val (.int r1), .val (.int f1), .val (.int r2), .val (.int f2), .val (.int r3), .val (.int f3), .val (.int (1 : Int32)), .val (.int (1 : Int32)), .val (.int (1 : Int32)), .val (.long p2), .second, .unset, .unset, .unset, .unset, .unset, .unset, .unset, .unset] [(.long p2)]))
                refine Go.by (fun _ => XS.lstore Xj77.here hx rfl (hb hby at_246) rfl (l' := #[.val (.int p0), .val (.int p1), .val (.long p2), .second, .val (.long p3), .second, .val (.int ip), .val (.int lp), .val (.int (1 : Int32)), .val (.ref b61), .val (.int r1), .val (.int f1), .val (.int r2), .val (.int f2), .val (.int r3), .val (.int f3), .val (.int (1 : Int32)), .val (.int (1 : Int32)), .val (.int (1 : Int32)), .val (.long p2), .second, .val (.long p2), .second, .unset, .unset, .unset, .unset, .unset, .unset]) rfl) ?_
                show Go p.tables e below _ (Tj77.setTop (mkF m 248 #[.val (.int p0), .val (.int p1), .val (.long p2), .second, .val (.long p3), .second, .val (.int ip), .val (.int lp), .val (.int (1 : Int32)), .val (.ref b61), .val (.int r1), .val (.int f1), .val (.int r2), .val (.int f2), .val (.int r3), .val (.int f3), .val (.int (1 : Int32)), .val (.int (1 : Int32)), .val (.int (1 : Int32)), .val (.long p2), .second, .val (.long p2), .second, .unset, .unset, .unset, .unset, .unset, .unset] []))
                refine Go.by (fun _ => XS.aload Xj77.here hx rfl (hb hby at_248) rfl rfl) ?_
                show Go p.tables e below _ (Tj77.setTop (mkF m 250 #[.val (.int p0), .val (.int p1), .val (.long p2), .second, .val (.long p3), .second, .val (.int ip), .val (.int lp), .val (.int (1 : Int32)), .val (.ref b61), .val (.int r1), .val (.int f1), .val (.int r2), .val (.int f2), .val (.int r3), .val (.int f3), .val (.int (1 : Int32)), .val (.int (1 : Int32)), .val (.int (1 : Int32)), .val (.long p2), .second, .val (.long p2), .second, .unset, .unset, .unset, .unset, .unset, .unset] [(.ref b61)]))
                refine Go.by (fun _ => XS.iload Xj77.here hx rfl (hb hby at_250) rfl) ?_
                refine Go.by (fun _ => XS.iload Xj77.here hx rfl (hb hby at_252) rfl) ?_
                obtain ⟨v78, T78, h78, X78, q78, st78⟩ := Xj77.callV hx hZ (y := (⟨"com/example/spotline/spotline/engine/Table", "getLong", "(II)J"⟩ : MethodName)) (z := (⟨"com/example/spotline/spotline/engine/Table", "getLong", "(II)J"⟩ : MethodName)) hown (tw hw 65 rfl) (tw hw 66 rfl) (notFace_of_selects (args := #[]) (mvT hZ (tw hw 68 rfl))) (tw hw 68 rfl) (tw hw 67 rfl) (tw hw 3 rfl) (tw hw 69 rfl) (by decide) (rm9 l Z a0 hw [] b61 r1 f1 oL63 dL65 kL63 kdL65 ip (((64 : Int32) * ip).toNatClampNeg) (fun i => if i = 0 then (.ref dL65) else .null) (fun t => if t = ((((r1 &&& (65535 : Int32)) * ip) + f1).toNatClampNeg) then (.long p2) else (fun t => if t = ((((r2 &&& (65535 : Int32)) * ip) + f2).toNatClampNeg) then (.long p3) else (fun _ => (.long 0)) t) t) p2 h73 n0 Zs74 f74_1315 f74_1318 f74_1311 rfl V73 hc_r1_f1.1 hc_r1_f1.2.1 hc_r1_f1.2.2 (if_pos rfl)) f74_1310 (g := (mkF m 254 #[.val (.int p0), .val (.int p1), .val (.long p2), .second, .val (.long p3), .second, .val (.int ip), .val (.int lp), .val (.int (1 : Int32)), .val (.ref b61), .val (.int r1), .val (.int f1), .val (.int r2), .val (.int f2), .val (.int r3), .val (.int f3), .val (.int (1 : Int32)), .val (.int (1 : Int32)), .val (.int (1 : Int32)), .val (.long p2), .second, .val (.long p2), .second, .unset, .unset, .unset, .unset, .unset, .unset] [(.int f1), (.int r1), (.ref b61)])) rfl (by rw [hml]; rfl) (argsL := [(.int r1), (.int f1)]) (rest := []) (lenOf pd6 rfl) rfl (hb hby at_254) rfl (by decide) (Nat.le_of_ble_eq_true rfl) (k' := 7) (n' := 504) rfl rfl (by decide) (by decide)
                refine Go.by st78 ?_
                obtain ⟨rfl, rfl⟩ := q78
                show Go p.tables e below _ (T78.setTop (mkF m 257 #[.val (.int p0), .val (.int p1), .val (.long p2), .second, .val (.long p3), .second, .val (.int ip), .val (.int lp), .val (.int (1 : Int32)), .val (.ref b61), .val (.int r1), .val (.int f1), .val (.int r2), .val (.int f2), .val (.int r3), .val (.int f3), .val (.int (1 : Int32)), .val (.int (1 : Int32)), .val (.int (1 : Int32)), .val (.long p2), .second, .val (.long p2), .second, .unset, .unset, .unset, .unset, .unset, .unset] [(.long p2)]))
                refine Go.by (fun _ => XS.lstore X78.here hx rfl (hb hby at_257) rfl (l' := #[.val (.int p0), .val (.int p1), .val (.long p2), .second, .val (.long p3), .second, .val (.int ip), .val (.int lp), .val (.int (1 : Int32)), .val (.ref b61), .val (.int r1), .val (.int f1), .val (.int r2), .val (.int f2), .val (.int r3), .val (.int f3), .val (.int (1 : Int32)), .val (.int (1 : Int32)), .val (.int (1 : Int32)), .val (.long p2), .second, .val (.long p2), .second, .val (.long p2), .second, .unset, .unset, .unset, .unset]) rfl) ?_
                show Go p.tables e below _ (T78.setTop (mkF m 259 #[.val (.int p0), .val (.int p1), .val (.long p2), .second, .val (.long p3), .second, .val (.int ip), .val (.int lp), .val (.int (1 : Int32)), .val (.ref b61), .val (.int r1), .val (.int f1), .val (.int r2), .val (.int f2), .val (.int r3), .val (.int f3), .val (.int (1 : Int32)), .val (.int (1 : Int32)), .val (.int (1 : Int32)), .val (.long p2), .second, .val (.long p2), .second, .val (.long p2), .second, .unset, .unset, .unset, .unset] []))
                refine Go.by (fun _ => XS.aload X78.here hx rfl (hb hby at_259) rfl rfl) ?_
                refine Go.by (fun _ => XS.iload X78.here hx rfl (hb hby at_261) rfl) ?_
                refine Go.by (fun _ => XS.iload X78.here hx rfl (hb hby at_263) rfl) ?_
                show Go p.tables e below _ (T78.setTop (mkF m 265 #[.val (.int p0), .val (.int p1), .val (.long p2), .second, .val (.long p3), .second, .val (.int ip), .val (.int lp), .val (.int (1 : Int32)), .val (.ref b61), .val (.int r1), .val (.int f1), .val (.int r2), .val (.int f2), .val (.int r3), .val (.int f3), .val (.int (1 : Int32)), .val (.int (1 : Int32)), .val (.int (1 : Int32)), .val (.long p2), .second, .val (.long p2), .second, .val (.long p2), .second, .unset, .unset, .unset, .unset] [(.int f2), (.int r2), (.ref b61)]))
                obtain ⟨v79, T79, h79, X79, q79, st79⟩ := X78.callV hx hZ (y := (⟨"com/example/spotline/spotline/engine/Table", "getLong", "(II)J"⟩ : MethodName)) (z := (⟨"com/example/spotline/spotline/engine/Table", "getLong", "(II)J"⟩ : MethodName)) hown (tw hw 65 rfl) (tw hw 66 rfl) (notFace_of_selects (args := #[]) (mvT hZ (tw hw 68 rfl))) (tw hw 68 rfl) (tw hw 67 rfl) (tw hw 3 rfl) (tw hw 69 rfl) (by decide) (rm9 l Z a0 hw [] b61 r2 f2 oL63 dL65 kL63 kdL65 ip (((64 : Int32) * ip).toNatClampNeg) (fun i => if i = 0 then (.ref dL65) else .null) (fun t => if t = ((((r1 &&& (65535 : Int32)) * ip) + f1).toNatClampNeg) then (.long p2) else (fun t => if t = ((((r2 &&& (65535 : Int32)) * ip) + f2).toNatClampNeg) then (.long p3) else (fun _ => (.long 0)) t) t) p2 h73 n0 Zs74 f74_1315 f74_1318 f74_1311 rfl V73 hc_r2_f2.1 hc_r2_f2.2.1 hc_r2_f2.2.2 (if_pos (by rw [hP16.1, hP16.2]))) f74_1310 (g := (mkF m 265 #[.val (.int p0), .val (.int p1), .val (.long p2), .second, .val (.long p3), .second, .val (.int ip), .val (.int lp), .val (.int (1 : Int32)), .val (.ref b61), .val (.int r1), .val (.int f1), .val (.int r2), .val (.int f2), .val (.int r3), .val (.int f3), .val (.int (1 : Int32)), .val (.int (1 : Int32)), .val (.int (1 : Int32)), .val (.long p2), .second, .val (.long p2), .second, .val (.long p2), .second, .unset, .unset, .unset, .unset] [(.int f2), (.int r2), (.ref b61)])) rfl (by rw [hml]; rfl) (argsL := [(.int r2), (.int f2)]) (rest := []) (lenOf pd6 rfl) rfl (hb hby at_265) rfl (by decide) (Nat.le_of_ble_eq_true rfl) (k' := 7) (n' := 504) rfl rfl (by decide) (by decide)
                refine Go.by st79 ?_
                obtain ⟨rfl, rfl⟩ := q79
                show Go p.tables e below _ (T79.setTop (mkF m 268 #[.val (.int p0), .val (.int p1), .val (.long p2), .second, .val (.long p3), .second, .val (.int ip), .val (.int lp), .val (.int (1 : Int32)), .val (.ref b61), .val (.int r1), .val (.int f1), .val (.int r2), .val (.int f2), .val (.int r3), .val (.int f3), .val (.int (1 : Int32)), .val (.int (1 : Int32)), .val (.int (1 : Int32)), .val (.long p2), .second, .val (.long p2), .second, .val (.long p2), .second, .unset, .unset, .unset, .unset] [(.long p2)]))
                refine Go.by (fun _ => XS.lstore X79.here hx rfl (hb hby at_268) rfl (l' := #[.val (.int p0), .val (.int p1), .val (.long p2), .second, .val (.long p3), .second, .val (.int ip), .val (.int lp), .val (.int (1 : Int32)), .val (.ref b61), .val (.int r1), .val (.int f1), .val (.int r2), .val (.int f2), .val (.int r3), .val (.int f3), .val (.int (1 : Int32)), .val (.int (1 : Int32)), .val (.int (1 : Int32)), .val (.long p2), .second, .val (.long p2), .second, .val (.long p2), .second, .val (.long p2), .second, .unset, .unset]) rfl) ?_
                show Go p.tables e below _ (T79.setTop (mkF m 270 #[.val (.int p0), .val (.int p1), .val (.long p2), .second, .val (.long p3), .second, .val (.int ip), .val (.int lp), .val (.int (1 : Int32)), .val (.ref b61), .val (.int r1), .val (.int f1), .val (.int r2), .val (.int f2), .val (.int r3), .val (.int f3), .val (.int (1 : Int32)), .val (.int (1 : Int32)), .val (.int (1 : Int32)), .val (.long p2), .second, .val (.long p2), .second, .val (.long p2), .second, .val (.long p2), .second, .unset, .unset] []))
                refine Go.by (fun _ => XS.aload X79.here hx rfl (hb hby at_270) rfl rfl) ?_
                refine Go.by (fun _ => XS.iload X79.here hx rfl (hb hby at_272) rfl) ?_
                refine Go.by (fun _ => XS.iload X79.here hx rfl (hb hby at_274) rfl) ?_
                obtain ⟨v80, T80, h80, X80, q80, st80⟩ := X79.callV hx hZ (y := (⟨"com/example/spotline/spotline/engine/Table", "getLong", "(II)J"⟩ : MethodName)) (z := (⟨"com/example/spotline/spotline/engine/Table", "getLong", "(II)J"⟩ : MethodName)) hown (tw hw 65 rfl) (tw hw 66 rfl) (notFace_of_selects (args := #[]) (mvT hZ (tw hw 68 rfl))) (tw hw 68 rfl) (tw hw 67 rfl) (tw hw 3 rfl) (tw hw 69 rfl) (by decide) (rm9 l Z a0 hw [] b61 r3 f3 oL63 dL65 kL63 kdL65 ip (((64 : Int32) * ip).toNatClampNeg) (fun i => if i = 0 then (.ref dL65) else .null) (fun t => if t = ((((r1 &&& (65535 : Int32)) * ip) + f1).toNatClampNeg) then (.long p2) else (fun t => if t = ((((r2 &&& (65535 : Int32)) * ip) + f2).toNatClampNeg) then (.long p3) else (fun _ => (.long 0)) t) t) p2 h73 n0 Zs74 f74_1315 f74_1318 f74_1311 rfl V73 hc_r3_f3.1 hc_r3_f3.2.1 hc_r3_f3.2.2 (if_pos (by rw [hP17.1, hP17.2]))) f74_1310 (g := (mkF m 276 #[.val (.int p0), .val (.int p1), .val (.long p2), .second, .val (.long p3), .second, .val (.int ip), .val (.int lp), .val (.int (1 : Int32)), .val (.ref b61), .val (.int r1), .val (.int f1), .val (.int r2), .val (.int f2), .val (.int r3), .val (.int f3), .val (.int (1 : Int32)), .val (.int (1 : Int32)), .val (.int (1 : Int32)), .val (.long p2), .second, .val (.long p2), .second, .val (.long p2), .second, .val (.long p2), .second, .unset, .unset] [(.int f3), (.int r3), (.ref b61)])) rfl (by rw [hml]; rfl) (argsL := [(.int r3), (.int f3)]) (rest := []) (lenOf pd6 rfl) rfl (hb hby at_276) rfl (by decide) (Nat.le_of_ble_eq_true rfl) (k' := 7) (n' := 504) rfl rfl (by decide) (by decide)
                refine Go.by st80 ?_
                obtain ⟨rfl, rfl⟩ := q80
                show Go p.tables e below _ (T80.setTop (mkF m 279 #[.val (.int p0), .val (.int p1), .val (.long p2), .second, .val (.long p3), .second, .val (.int ip), .val (.int lp), .val (.int (1 : Int32)), .val (.ref b61), .val (.int r1), .val (.int f1), .val (.int r2), .val (.int f2), .val (.int r3), .val (.int f3), .val (.int (1 : Int32)), .val (.int (1 : Int32)), .val (.int (1 : Int32)), .val (.long p2), .second, .val (.long p2), .second, .val (.long p2), .second, .val (.long p2), .second, .unset, .unset] [(.long p2)]))
                refine Go.by (fun _ => XS.lstore X80.here hx rfl (hb hby at_279) rfl (l' := #[.val (.int p0), .val (.int p1), .val (.long p2), .second, .val (.long p3), .second, .val (.int ip), .val (.int lp), .val (.int (1 : Int32)), .val (.ref b61), .val (.int r1), .val (.int f1), .val (.int r2), .val (.int f2), .val (.int r3), .val (.int f3), .val (.int (1 : Int32)), .val (.int (1 : Int32)), .val (.int (1 : Int32)), .val (.long p2), .second, .val (.long p2), .second, .val (.long p2), .second, .val (.long p2), .second, .val (.long p2), .second]) rfl) ?_
                show Go p.tables e below _ (T80.setTop (mkF m 281 #[.val (.int p0), .val (.int p1), .val (.long p2), .second, .val (.long p3), .second, .val (.int ip), .val (.int lp), .val (.int (1 : Int32)), .val (.ref b61), .val (.int r1), .val (.int f1), .val (.int r2), .val (.int f2), .val (.int r3), .val (.int f3), .val (.int (1 : Int32)), .val (.int (1 : Int32)), .val (.int (1 : Int32)), .val (.long p2), .second, .val (.long p2), .second, .val (.long p2), .second, .val (.long p2), .second, .val (.long p2), .second] []))
                refine Go.by (fun _ => XS.lload X80.here hx rfl (hb hby at_281) rfl) ?_
                show Go p.tables e below _ (T80.setTop (mkF m 283 #[.val (.int p0), .val (.int p1), .val (.long p2), .second, .val (.long p3), .second, .val (.int ip), .val (.int lp), .val (.int (1 : Int32)), .val (.ref b61), .val (.int r1), .val (.int f1), .val (.int r2), .val (.int f2), .val (.int r3), .val (.int f3), .val (.int (1 : Int32)), .val (.int (1 : Int32)), .val (.int (1 : Int32)), .val (.long p2), .second, .val (.long p2), .second, .val (.long p2), .second, .val (.long p2), .second, .val (.long p2), .second] [(.long p2)]))
                refine Go.by (fun _ => XS.lloadN X80.here hx rfl (hb hby at_283) rfl) ?_
                refine Go.by (fun _ => XS.lcmp X80.here hx rfl (hb hby at_284) rfl) ?_
                show Go p.tables e below _ (T80.setTop (mkF m 285 #[.val (.int p0), .val (.int p1), .val (.long p2), .second, .val (.long p3), .second, .val (.int ip), .val (.int lp), .val (.int (1 : Int32)), .val (.ref b61), .val (.int r1), .val (.int f1), .val (.int r2), .val (.int f2), .val (.int r3), .val (.int f3), .val (.int (1 : Int32)), .val (.int (1 : Int32)), .val (.int (1 : Int32)), .val (.long p2), .second, .val (.long p2), .second, .val (.long p2), .second, .val (.long p2), .second, .val (.long p2), .second] [(.int (lcmpW p2 p2))]))
                refine Go.by (fun _ => XS.ifNo X80.here hx rfl (hb hby at_285) rfl ((if0 _ _).trans (teq ((lw_eq _ _).mpr rfl)).2)) ?_
                show Go p.tables e below _ (T80.setTop (mkF m 288 #[.val (.int p0), .val (.int p1), .val (.long p2), .second, .val (.long p3), .second, .val (.int ip), .val (.int lp), .val (.int (1 : Int32)), .val (.ref b61), .val (.int r1), .val (.int f1), .val (.int r2), .val (.int f2), .val (.int r3), .val (.int f3), .val (.int (1 : Int32)), .val (.int (1 : Int32)), .val (.int (1 : Int32)), .val (.long p2), .second, .val (.long p2), .second, .val (.long p2), .second, .val (.long p2), .second, .val (.long p2), .second] []))
                refine Go.by (fun _ => XS.lload X80.here hx rfl (hb hby at_288) rfl) ?_
                refine Go.by (fun _ => XS.lload X80.here hx rfl (hb hby at_290) rfl) ?_
                refine Go.by (fun _ => XS.lcmp X80.here hx rfl (hb hby at_292) rfl) ?_
                show Go p.tables e below _ (T80.setTop (mkF m 293 #[.val (.int p0), .val (.int p1), .val (.long p2), .second, .val (.long p3), .second, .val (.int ip), .val (.int lp), .val (.int (1 : Int32)), .val (.ref b61), .val (.int r1), .val (.int f1), .val (.int r2), .val (.int f2), .val (.int r3), .val (.int f3), .val (.int (1 : Int32)), .val (.int (1 : Int32)), .val (.int (1 : Int32)), .val (.long p2), .second, .val (.long p2), .second, .val (.long p2), .second, .val (.long p2), .second, .val (.long p2), .second] [(.int (lcmpW p2 p2))]))
                refine Go.by (fun _ => XS.ifNo X80.here hx rfl (hb hby at_293) rfl ((if0 _ _).trans (teq ((lw_eq _ _).mpr rfl)).2)) ?_
                show Go p.tables e below _ (T80.setTop (mkF m 296 #[.val (.int p0), .val (.int p1), .val (.long p2), .second, .val (.long p3), .second, .val (.int ip), .val (.int lp), .val (.int (1 : Int32)), .val (.ref b61), .val (.int r1), .val (.int f1), .val (.int r2), .val (.int f2), .val (.int r3), .val (.int f3), .val (.int (1 : Int32)), .val (.int (1 : Int32)), .val (.int (1 : Int32)), .val (.long p2), .second, .val (.long p2), .second, .val (.long p2), .second, .val (.long p2), .second, .val (.long p2), .second] []))
                refine Go.by (fun _ => XS.lload X80.here hx rfl (hb hby at_296) rfl) ?_
                show Go p.tables e below _ (T80.setTop (mkF m 298 #[.val (.int p0), .val (.int p1), .val (.long p2), .second, .val (.long p3), .second, .val (.int ip), .val (.int lp), .val (.int (1 : Int32)), .val (.ref b61), .val (.int r1), .val (.int f1), .val (.int r2), .val (.int f2), .val (.int r3), .val (.int f3), .val (.int (1 : Int32)), .val (.int (1 : Int32)), .val (.int (1 : Int32)), .val (.long p2), .second, .val (.long p2), .second, .val (.long p2), .second, .val (.long p2), .second, .val (.long p2), .second] [(.long p2)]))
                refine Go.by (fun _ => XS.lload X80.here hx rfl (hb hby at_298) rfl) ?_
                refine Go.by (fun _ => XS.lcmp X80.here hx rfl (hb hby at_300) rfl) ?_
                show Go p.tables e below _ (T80.setTop (mkF m 301 #[.val (.int p0), .val (.int p1), .val (.long p2), .second, .val (.long p3), .second, .val (.int ip), .val (.int lp), .val (.int (1 : Int32)), .val (.ref b61), .val (.int r1), .val (.int f1), .val (.int r2), .val (.int f2), .val (.int r3), .val (.int f3), .val (.int (1 : Int32)), .val (.int (1 : Int32)), .val (.int (1 : Int32)), .val (.long p2), .second, .val (.long p2), .second, .val (.long p2), .second, .val (.long p2), .second, .val (.long p2), .second] [(.int (lcmpW p2 p2))]))
                refine Go.by (fun _ => XS.ifNo X80.here hx rfl (hb hby at_301) rfl ((if0 _ _).trans (teq ((lw_eq _ _).mpr rfl)).2)) ?_
                show Go p.tables e below _ (T80.setTop (mkF m 304 #[.val (.int p0), .val (.int p1), .val (.long p2), .second, .val (.long p3), .second, .val (.int ip), .val (.int lp), .val (.int (1 : Int32)), .val (.ref b61), .val (.int r1), .val (.int f1), .val (.int r2), .val (.int f2), .val (.int r3), .val (.int f3), .val (.int (1 : Int32)), .val (.int (1 : Int32)), .val (.int (1 : Int32)), .val (.long p2), .second, .val (.long p2), .second, .val (.long p2), .second, .val (.long p2), .second, .val (.long p2), .second] []))
                refine Go.by (fun _ => XS.iconst X80.here hx rfl (hb hby at_304)) ?_
                refine Go.by (fun _ => XS.goto X80.here hx rfl (pc0 := 305) (pc' := 309) rfl (hb hby at_305) (by decide) (by decide)) ?_
                show Go p.tables e below _ (T80.setTop (mkF m 309 #[.val (.int p0), .val (.int p1), .val (.long p2), .second, .val (.long p3), .second, .val (.int ip), .val (.int lp), .val (.int (1 : Int32)), .val (.ref b61), .val (.int r1), .val (.int f1), .val (.int r2), .val (.int f2), .val (.int r3), .val (.int f3), .val (.int (1 : Int32)), .val (.int (1 : Int32)), .val (.int (1 : Int32)), .val (.long p2), .second, .val (.long p2), .second, .val (.long p2), .second, .val (.long p2), .second, .val (.long p2), .second] [(.int (1 : Int32))]))
                exact Go.retN X80 hx hlk (z' := (1 : Int32)) hret (by simp) (hb hby at_309) rfl (by decide) (by decide) rfl
              · skip
                show Go p.tables e below _ (Tj77.setTop (mkF m 211 #[.val (.int p0), .val (.int p1), .val (.long p2), .second, .val (.long p3), .second, .val (.int ip), .val (.int lp), .val (.int (1 : Int32)), .val (.ref b61), .val (.int r1), .val (.int f1), .val (.int r2), .val (.int f2), .val (.int r3), .val (.int f3), .val (.int (1 : Int32)), .val (.int (1 : Int32)), .unset, .unset, .unset, .unset, .unset, .unset, .unset, .unset, .unset, .unset, .unset] [(.int (0 : Int32))]))
                refine Go.by (fun _ => XS.istore Xj77.here hx rfl (hb hby at_211) rfl (l' := #[.val (.int p0), .val (.int p1), .val (.long p2), .second, .val (.long p3), .second, .val (.int ip), .val (.int lp), .val (.int (1 : Int32)), .val (.ref b61), .val (.int r1), .val (.int f1), .val (.int r2), .val (.int f2), .val (.int r3), .val (.int f3), .val (.int (1 : Int32)), .val (.int (1 : Int32)), .val (.int (0 : Int32)), .unset, .unset, .unset, .unset, .unset, .unset, .unset, .unset, .unset, .unset]) rfl) ?_
                show Go p.tables e below _ (Tj77.setTop (mkF m 213 #[.val (.int p0), .val (.int p1), .val (.long p2), .second, .val (.long p3), .second, .val (.int ip), .val (.int lp), .val (.int (1 : Int32)), .val (.ref b61), .val (.int r1), .val (.int f1), .val (.int r2), .val (.int f2), .val (.int r3), .val (.int f3), .val (.int (1 : Int32)), .val (.int (1 : Int32)), .val (.int (0 : Int32)), .unset, .unset, .unset, .unset, .unset, .unset, .unset, .unset, .unset, .unset] []))
                refine Go.by (fun _ => XS.iload Xj77.here hx rfl (hb hby at_213) rfl) ?_
                refine Go.by (fun _ => XS.ifNo Xj77.here hx rfl (hb hby at_215) rfl ((if0 _ _).trans (feq (by decide)).1)) ?_
                show Go p.tables e below _ (Tj77.setTop (mkF m 218 #[.val (.int p0), .val (.int p1), .val (.long p2), .second, .val (.long p3), .second, .val (.int ip), .val (.int lp), .val (.int (1 : Int32)), .val (.ref b61), .val (.int r1), .val (.int f1), .val (.int r2), .val (.int f2), .val (.int r3), .val (.int f3), .val (.int (1 : Int32)), .val (.int (1 : Int32)), .val (.int (0 : Int32)), .unset, .unset, .unset, .unset, .unset, .unset, .unset, .unset, .unset, .unset] []))
                refine Go.by (fun _ => XS.lloadN Xj77.here hx rfl (hb hby at_218) rfl) ?_
                show Go p.tables e below _ (Tj77.setTop (mkF m 219 #[.val (.int p0), .val (.int p1), .val (.long p2), .second, .val (.long p3), .second, .val (.int ip), .val (.int lp), .val (.int (1 : Int32)), .val (.ref b61), .val (.int r1), .val (.int f1), .val (.int r2), .val (.int f2), .val (.int r3), .val (.int f3), .val (.int (1 : Int32)), .val (.int (1 : Int32)), .val (.int (0 : Int32)), .unset, .unset, .unset, .unset, .unset, .unset, .unset, .unset, .unset, .unset] [(.long p2)]))
                refine Go.by (fun _ => XS.goto Xj77.here hx rfl (pc0 := 219) (pc' := 224) rfl (hb hby at_219) (by decide) (by decide)) ?_
                show Go p.tables e below _ (Tj77.setTop (mkF m 224 #[.val (.int p0), .val (.int p1), .val (.long p2), .second, .val (.long p3), .second, .val (.int ip), .val (.int lp), .val (.int (1 : Int32)), .val (.ref b61), .val (.int r1), .val (.int f1), .val (.int r2), .val (.int f2), .val (.int r3), .val (.int f3), .val (.int (1 : Int32)), .val (.int (1 : Int32)), .val (.int (0 : Int32)), .unset, .unset, .unset, .unset, .unset, .unset, .unset, .unset, .unset, .unset] [(.long p2)]))
                refine Go.by (fun _ => XS.lstore Xj77.here hx rfl (hb hby at_224) rfl (l' := #[.val (.int p0), .val (.int p1), .val (.long p2), .second, .val (.long p3), .second, .val (.int ip), .val (.int lp), .val (.int (1 : Int32)), .val (.ref b61), .val (.int r1), .val (.int f1), .val (.int r2), .val (.int f2), .val (.int r3), .val (.int f3), .val (.int (1 : Int32)), .val (.int (1 : Int32)), .val (.int (0 : Int32)), .val (.long p2), .second, .unset, .unset, .unset, .unset, .unset, .unset, .unset, .unset]) rfl) ?_
                show Go p.tables e below _ (Tj77.setTop (mkF m 226 #[.val (.int p0), .val (.int p1), .val (.long p2), .second, .val (.long p3), .second, .val (.int ip), .val (.int lp), .val (.int (1 : Int32)), .val (.ref b61), .val (.int r1), .val (.int f1), .val (.int r2), .val (.int f2), .val (.int r3), .val (.int f3), .val (.int (1 : Int32)), .val (.int (1 : Int32)), .val (.int (0 : Int32)), .val (.long p2), .second, .unset, .unset, .unset, .unset, .unset, .unset, .unset, .unset] []))
                refine Go.by (fun _ => XS.iload Xj77.here hx rfl (hb hby at_226) rfl) ?_
                refine Go.by (fun _ => XS.ifNo Xj77.here hx rfl (hb hby at_228) rfl ((if0 _ _).trans (feq (by decide)).1)) ?_
                show Go p.tables e below _ (Tj77.setTop (mkF m 231 #[.val (.int p0), .val (.int p1), .val (.long p2), .second, .val (.long p3), .second, .val (.int ip), .val (.int lp), .val (.int (1 : Int32)), .val (.ref b61), .val (.int r1), .val (.int f1), .val (.int r2), .val (.int f2), .val (.int r3), .val (.int f3), .val (.int (1 : Int32)), .val (.int (1 : Int32)), .val (.int (0 : Int32)), .val (.long p2), .second, .unset, .unset, .unset, .unset, .unset, .unset, .unset, .unset] []))
                refine Go.by (fun _ => XS.lloadN Xj77.here hx rfl (hb hby at_231) rfl) ?_
                refine Go.by (fun _ => XS.goto Xj77.here hx rfl (pc0 := 232) (pc' := 246) rfl (hb hby at_232) (by decide) (by decide)) ?_
                show Go p.tables e below _ (Tj77.setTop (mkF m 246 #[.val (.int p0), .val (.int p1), .val (.long p2), .second, .val (.long p3), .second, .val (.int ip), .val (.int lp), .val (.int (1 : Int32)), .val (.ref b61), .val (.int r1), .val (.int f1), .val (.int r2), .val (.int f2), .val (.int r3), .val (.int f3), .val (.int (1 : Int32)), .val (.int (1 : Int32)), .val (.int (0 : Int32)), .val (.long p2), .second, .unset, .unset, .unset, .unset, .unset, .unset, .unset, .unset] [(.long p2)]))
                refine Go.by (fun _ => XS.lstore Xj77.here hx rfl (hb hby at_246) rfl (l' := #[.val (.int p0), .val (.int p1), .val (.long p2), .second, .val (.long p3), .second, .val (.int ip), .val (.int lp), .val (.int (1 : Int32)), .val (.ref b61), .val (.int r1), .val (.int f1), .val (.int r2), .val (.int f2), .val (.int r3), .val (.int f3), .val (.int (1 : Int32)), .val (.int (1 : Int32)), .val (.int (0 : Int32)), .val (.long p2), .second, .val (.long p2), .second, .unset, .unset, .unset, .unset, .unset, .unset]) rfl) ?_
                show Go p.tables e below _ (Tj77.setTop (mkF m 248 #[.val (.int p0), .val (.int p1), .val (.long p2), .second, .val (.long p3), .second, .val (.int ip), .val (.int lp), .val (.int (1 : Int32)), .val (.ref b61), .val (.int r1), .val (.int f1), .val (.int r2), .val (.int f2), .val (.int r3), .val (.int f3), .val (.int (1 : Int32)), .val (.int (1 : Int32)), .val (.int (0 : Int32)), .val (.long p2), .second, .val (.long p2), .second, .unset, .unset, .unset, .unset, .unset, .unset] []))
                refine Go.by (fun _ => XS.aload Xj77.here hx rfl (hb hby at_248) rfl rfl) ?_
                refine Go.by (fun _ => XS.iload Xj77.here hx rfl (hb hby at_250) rfl) ?_
                show Go p.tables e below _ (Tj77.setTop (mkF m 252 #[.val (.int p0), .val (.int p1), .val (.long p2), .second, .val (.long p3), .second, .val (.int ip), .val (.int lp), .val (.int (1 : Int32)), .val (.ref b61), .val (.int r1), .val (.int f1), .val (.int r2), .val (.int f2), .val (.int r3), .val (.int f3), .val (.int (1 : Int32)), .val (.int (1 : Int32)), .val (.int (0 : Int32)), .val (.long p2), .second, .val (.long p2), .second, .unset, .unset, .unset, .unset, .unset, .unset] [(.int r1), (.ref b61)]))
                refine Go.by (fun _ => XS.iload Xj77.here hx rfl (hb hby at_252) rfl) ?_
                obtain ⟨v81, T81, h81, X81, q81, st81⟩ := Xj77.callV hx hZ (y := (⟨"com/example/spotline/spotline/engine/Table", "getLong", "(II)J"⟩ : MethodName)) (z := (⟨"com/example/spotline/spotline/engine/Table", "getLong", "(II)J"⟩ : MethodName)) hown (tw hw 65 rfl) (tw hw 66 rfl) (notFace_of_selects (args := #[]) (mvT hZ (tw hw 68 rfl))) (tw hw 68 rfl) (tw hw 67 rfl) (tw hw 3 rfl) (tw hw 69 rfl) (by decide) (rm9 l Z a0 hw [] b61 r1 f1 oL63 dL65 kL63 kdL65 ip (((64 : Int32) * ip).toNatClampNeg) (fun i => if i = 0 then (.ref dL65) else .null) (fun t => if t = ((((r1 &&& (65535 : Int32)) * ip) + f1).toNatClampNeg) then (.long p2) else (fun t => if t = ((((r2 &&& (65535 : Int32)) * ip) + f2).toNatClampNeg) then (.long p3) else (fun _ => (.long 0)) t) t) p2 h73 n0 Zs74 f74_1315 f74_1318 f74_1311 rfl V73 hc_r1_f1.1 hc_r1_f1.2.1 hc_r1_f1.2.2 (if_pos rfl)) f74_1310 (g := (mkF m 254 #[.val (.int p0), .val (.int p1), .val (.long p2), .second, .val (.long p3), .second, .val (.int ip), .val (.int lp), .val (.int (1 : Int32)), .val (.ref b61), .val (.int r1), .val (.int f1), .val (.int r2), .val (.int f2), .val (.int r3), .val (.int f3), .val (.int (1 : Int32)), .val (.int (1 : Int32)), .val (.int (0 : Int32)), .val (.long p2), .second, .val (.long p2), .second, .unset, .unset, .unset, .unset, .unset, .unset] [(.int f1), (.int r1), (.ref b61)])) rfl (by rw [hml]; rfl) (argsL := [(.int r1), (.int f1)]) (rest := []) (lenOf pd6 rfl) rfl (hb hby at_254) rfl (by decide) (Nat.le_of_ble_eq_true rfl) (k' := 7) (n' := 504) rfl rfl (by decide) (by decide)
                refine Go.by st81 ?_
                obtain ⟨rfl, rfl⟩ := q81
                show Go p.tables e below _ (T81.setTop (mkF m 257 #[.val (.int p0), .val (.int p1), .val (.long p2), .second, .val (.long p3), .second, .val (.int ip), .val (.int lp), .val (.int (1 : Int32)), .val (.ref b61), .val (.int r1), .val (.int f1), .val (.int r2), .val (.int f2), .val (.int r3), .val (.int f3), .val (.int (1 : Int32)), .val (.int (1 : Int32)), .val (.int (0 : Int32)), .val (.long p2), .second, .val (.long p2), .second, .unset, .unset, .unset, .unset, .unset, .unset] [(.long p2)]))
                refine Go.by (fun _ => XS.lstore X81.here hx rfl (hb hby at_257) rfl (l' := #[.val (.int p0), .val (.int p1), .val (.long p2), .second, .val (.long p3), .second, .val (.int ip), .val (.int lp), .val (.int (1 : Int32)), .val (.ref b61), .val (.int r1), .val (.int f1), .val (.int r2), .val (.int f2), .val (.int r3), .val (.int f3), .val (.int (1 : Int32)), .val (.int (1 : Int32)), .val (.int (0 : Int32)), .val (.long p2), .second, .val (.long p2), .second, .val (.long p2), .second, .unset, .unset, .unset, .unset]) rfl) ?_
                show Go p.tables e below _ (T81.setTop (mkF m 259 #[.val (.int p0), .val (.int p1), .val (.long p2), .second, .val (.long p3), .second, .val (.int ip), .val (.int lp), .val (.int (1 : Int32)), .val (.ref b61), .val (.int r1), .val (.int f1), .val (.int r2), .val (.int f2), .val (.int r3), .val (.int f3), .val (.int (1 : Int32)), .val (.int (1 : Int32)), .val (.int (0 : Int32)), .val (.long p2), .second, .val (.long p2), .second, .val (.long p2), .second, .unset, .unset, .unset, .unset] []))
                refine Go.by (fun _ => XS.aload X81.here hx rfl (hb hby at_259) rfl rfl) ?_
                refine Go.by (fun _ => XS.iload X81.here hx rfl (hb hby at_261) rfl) ?_
                refine Go.by (fun _ => XS.iload X81.here hx rfl (hb hby at_263) rfl) ?_
                obtain ⟨v82, T82, h82, X82, q82, st82⟩ := X81.callV hx hZ (y := (⟨"com/example/spotline/spotline/engine/Table", "getLong", "(II)J"⟩ : MethodName)) (z := (⟨"com/example/spotline/spotline/engine/Table", "getLong", "(II)J"⟩ : MethodName)) hown (tw hw 65 rfl) (tw hw 66 rfl) (notFace_of_selects (args := #[]) (mvT hZ (tw hw 68 rfl))) (tw hw 68 rfl) (tw hw 67 rfl) (tw hw 3 rfl) (tw hw 69 rfl) (by decide) (rm9 l Z a0 hw [] b61 r2 f2 oL63 dL65 kL63 kdL65 ip (((64 : Int32) * ip).toNatClampNeg) (fun i => if i = 0 then (.ref dL65) else .null) (fun t => if t = ((((r1 &&& (65535 : Int32)) * ip) + f1).toNatClampNeg) then (.long p2) else (fun t => if t = ((((r2 &&& (65535 : Int32)) * ip) + f2).toNatClampNeg) then (.long p3) else (fun _ => (.long 0)) t) t) p2 h73 n0 Zs74 f74_1315 f74_1318 f74_1311 rfl V73 hc_r2_f2.1 hc_r2_f2.2.1 hc_r2_f2.2.2 (if_pos (by rw [hP16.1, hP16.2]))) f74_1310 (g := (mkF m 265 #[.val (.int p0), .val (.int p1), .val (.long p2), .second, .val (.long p3), .second, .val (.int ip), .val (.int lp), .val (.int (1 : Int32)), .val (.ref b61), .val (.int r1), .val (.int f1), .val (.int r2), .val (.int f2), .val (.int r3), .val (.int f3), .val (.int (1 : Int32)), .val (.int (1 : Int32)), .val (.int (0 : Int32)), .val (.long p2), .second, .val (.long p2), .second, .val (.long p2), .second, .unset, .unset, .unset, .unset] [(.int f2), (.int r2), (.ref b61)])) rfl (by rw [hml]; rfl) (argsL := [(.int r2), (.int f2)]) (rest := []) (lenOf pd6 rfl) rfl (hb hby at_265) rfl (by decide) (Nat.le_of_ble_eq_true rfl) (k' := 7) (n' := 504) rfl rfl (by decide) (by decide)
                refine Go.by st82 ?_
                obtain ⟨rfl, rfl⟩ := q82
                show Go p.tables e below _ (T82.setTop (mkF m 268 #[.val (.int p0), .val (.int p1), .val (.long p2), .second, .val (.long p3), .second, .val (.int ip), .val (.int lp), .val (.int (1 : Int32)), .val (.ref b61), .val (.int r1), .val (.int f1), .val (.int r2), .val (.int f2), .val (.int r3), .val (.int f3), .val (.int (1 : Int32)), .val (.int (1 : Int32)), .val (.int (0 : Int32)), .val (.long p2), .second, .val (.long p2), .second, .val (.long p2), .second, .unset, .unset, .unset, .unset] [(.long p2)]))
                refine Go.by (fun _ => XS.lstore X82.here hx rfl (hb hby at_268) rfl (l' := #[.val (.int p0), .val (.int p1), .val (.long p2), .second, .val (.long p3), .second, .val (.int ip), .val (.int lp), .val (.int (1 : Int32)), .val (.ref b61), .val (.int r1), .val (.int f1), .val (.int r2), .val (.int f2), .val (.int r3), .val (.int f3), .val (.int (1 : Int32)), .val (.int (1 : Int32)), .val (.int (0 : Int32)), .val (.long p2), .second, .val (.long p2), .second, .val (.long p2), .second, .val (.long p2), .second, .unset, .unset]) rfl) ?_
                show Go p.tables e below _ (T82.setTop (mkF m 270 #[.val (.int p0), .val (.int p1), .val (.long p2), .second, .val (.long p3), .second, .val (.int ip), .val (.int lp), .val (.int (1 : Int32)), .val (.ref b61), .val (.int r1), .val (.int f1), .val (.int r2), .val (.int f2), .val (.int r3), .val (.int f3), .val (.int (1 : Int32)), .val (.int (1 : Int32)), .val (.int (0 : Int32)), .val (.long p2), .second, .val (.long p2), .second, .val (.long p2), .second, .val (.long p2), .second, .unset, .unset] []))
                refine Go.by (fun _ => XS.aload X82.here hx rfl (hb hby at_270) rfl rfl) ?_
                refine Go.by (fun _ => XS.iload X82.here hx rfl (hb hby at_272) rfl) ?_
                refine Go.by (fun _ => XS.iload X82.here hx rfl (hb hby at_274) rfl) ?_
                obtain ⟨v83, T83, h83, X83, q83, st83⟩ := X82.callV hx hZ (y := (⟨"com/example/spotline/spotline/engine/Table", "getLong", "(II)J"⟩ : MethodName)) (z := (⟨"com/example/spotline/spotline/engine/Table", "getLong", "(II)J"⟩ : MethodName)) hown (tw hw 65 rfl) (tw hw 66 rfl) (notFace_of_selects (args := #[]) (mvT hZ (tw hw 68 rfl))) (tw hw 68 rfl) (tw hw 67 rfl) (tw hw 3 rfl) (tw hw 69 rfl) (by decide) (rm9 l Z a0 hw [] b61 r3 f3 oL63 dL65 kL63 kdL65 ip (((64 : Int32) * ip).toNatClampNeg) (fun i => if i = 0 then (.ref dL65) else .null) (fun t => if t = ((((r1 &&& (65535 : Int32)) * ip) + f1).toNatClampNeg) then (.long p2) else (fun t => if t = ((((r2 &&& (65535 : Int32)) * ip) + f2).toNatClampNeg) then (.long p3) else (fun _ => (.long 0)) t) t) p2 h73 n0 Zs74 f74_1315 f74_1318 f74_1311 rfl V73 hc_r3_f3.1 hc_r3_f3.2.1 hc_r3_f3.2.2 (if_pos (by rw [hP17.1, hP17.2]))) f74_1310 (g := (mkF m 276 #[.val (.int p0), .val (.int p1), .val (.long p2), .second, .val (.long p3), .second, .val (.int ip), .val (.int lp), .val (.int (1 : Int32)), .val (.ref b61), .val (.int r1), .val (.int f1), .val (.int r2), .val (.int f2), .val (.int r3), .val (.int f3), .val (.int (1 : Int32)), .val (.int (1 : Int32)), .val (.int (0 : Int32)), .val (.long p2), .second, .val (.long p2), .second, .val (.long p2), .second, .val (.long p2), .second, .unset, .unset] [(.int f3), (.int r3), (.ref b61)])) rfl (by rw [hml]; rfl) (argsL := [(.int r3), (.int f3)]) (rest := []) (lenOf pd6 rfl) rfl (hb hby at_276) rfl (by decide) (Nat.le_of_ble_eq_true rfl) (k' := 7) (n' := 504) rfl rfl (by decide) (by decide)
                refine Go.by st83 ?_
                obtain ⟨rfl, rfl⟩ := q83
                show Go p.tables e below _ (T83.setTop (mkF m 279 #[.val (.int p0), .val (.int p1), .val (.long p2), .second, .val (.long p3), .second, .val (.int ip), .val (.int lp), .val (.int (1 : Int32)), .val (.ref b61), .val (.int r1), .val (.int f1), .val (.int r2), .val (.int f2), .val (.int r3), .val (.int f3), .val (.int (1 : Int32)), .val (.int (1 : Int32)), .val (.int (0 : Int32)), .val (.long p2), .second, .val (.long p2), .second, .val (.long p2), .second, .val (.long p2), .second, .unset, .unset] [(.long p2)]))
                refine Go.by (fun _ => XS.lstore X83.here hx rfl (hb hby at_279) rfl (l' := #[.val (.int p0), .val (.int p1), .val (.long p2), .second, .val (.long p3), .second, .val (.int ip), .val (.int lp), .val (.int (1 : Int32)), .val (.ref b61), .val (.int r1), .val (.int f1), .val (.int r2), .val (.int f2), .val (.int r3), .val (.int f3), .val (.int (1 : Int32)), .val (.int (1 : Int32)), .val (.int (0 : Int32)), .val (.long p2), .second, .val (.long p2), .second, .val (.long p2), .second, .val (.long p2), .second, .val (.long p2), .second]) rfl) ?_
                show Go p.tables e below _ (T83.setTop (mkF m 281 #[.val (.int p0), .val (.int p1), .val (.long p2), .second, .val (.long p3), .second, .val (.int ip), .val (.int lp), .val (.int (1 : Int32)), .val (.ref b61), .val (.int r1), .val (.int f1), .val (.int r2), .val (.int f2), .val (.int r3), .val (.int f3), .val (.int (1 : Int32)), .val (.int (1 : Int32)), .val (.int (0 : Int32)), .val (.long p2), .second, .val (.long p2), .second, .val (.long p2), .second, .val (.long p2), .second, .val (.long p2), .second] []))
                refine Go.by (fun _ => XS.lload X83.here hx rfl (hb hby at_281) rfl) ?_
                refine Go.by (fun _ => XS.lloadN X83.here hx rfl (hb hby at_283) rfl) ?_
                show Go p.tables e below _ (T83.setTop (mkF m 284 #[.val (.int p0), .val (.int p1), .val (.long p2), .second, .val (.long p3), .second, .val (.int ip), .val (.int lp), .val (.int (1 : Int32)), .val (.ref b61), .val (.int r1), .val (.int f1), .val (.int r2), .val (.int f2), .val (.int r3), .val (.int f3), .val (.int (1 : Int32)), .val (.int (1 : Int32)), .val (.int (0 : Int32)), .val (.long p2), .second, .val (.long p2), .second, .val (.long p2), .second, .val (.long p2), .second, .val (.long p2), .second] [(.long p2), (.long p2)]))
                refine Go.by (fun _ => XS.lcmp X83.here hx rfl (hb hby at_284) rfl) ?_
                show Go p.tables e below _ (T83.setTop (mkF m 285 #[.val (.int p0), .val (.int p1), .val (.long p2), .second, .val (.long p3), .second, .val (.int ip), .val (.int lp), .val (.int (1 : Int32)), .val (.ref b61), .val (.int r1), .val (.int f1), .val (.int r2), .val (.int f2), .val (.int r3), .val (.int f3), .val (.int (1 : Int32)), .val (.int (1 : Int32)), .val (.int (0 : Int32)), .val (.long p2), .second, .val (.long p2), .second, .val (.long p2), .second, .val (.long p2), .second, .val (.long p2), .second] [(.int (lcmpW p2 p2))]))
                refine Go.by (fun _ => XS.ifNo X83.here hx rfl (hb hby at_285) rfl ((if0 _ _).trans (teq ((lw_eq _ _).mpr rfl)).2)) ?_
                show Go p.tables e below _ (T83.setTop (mkF m 288 #[.val (.int p0), .val (.int p1), .val (.long p2), .second, .val (.long p3), .second, .val (.int ip), .val (.int lp), .val (.int (1 : Int32)), .val (.ref b61), .val (.int r1), .val (.int f1), .val (.int r2), .val (.int f2), .val (.int r3), .val (.int f3), .val (.int (1 : Int32)), .val (.int (1 : Int32)), .val (.int (0 : Int32)), .val (.long p2), .second, .val (.long p2), .second, .val (.long p2), .second, .val (.long p2), .second, .val (.long p2), .second] []))
                refine Go.by (fun _ => XS.lload X83.here hx rfl (hb hby at_288) rfl) ?_
                refine Go.by (fun _ => XS.lload X83.here hx rfl (hb hby at_290) rfl) ?_
                refine Go.by (fun _ => XS.lcmp X83.here hx rfl (hb hby at_292) rfl) ?_
                show Go p.tables e below _ (T83.setTop (mkF m 293 #[.val (.int p0), .val (.int p1), .val (.long p2), .second, .val (.long p3), .second, .val (.int ip), .val (.int lp), .val (.int (1 : Int32)), .val (.ref b61), .val (.int r1), .val (.int f1), .val (.int r2), .val (.int f2), .val (.int r3), .val (.int f3), .val (.int (1 : Int32)), .val (.int (1 : Int32)), .val (.int (0 : Int32)), .val (.long p2), .second, .val (.long p2), .second, .val (.long p2), .second, .val (.long p2), .second, .val (.long p2), .second] [(.int (lcmpW p2 p2))]))
                refine Go.by (fun _ => XS.ifNo X83.here hx rfl (hb hby at_293) rfl ((if0 _ _).trans (teq ((lw_eq _ _).mpr rfl)).2)) ?_
                show Go p.tables e below _ (T83.setTop (mkF m 296 #[.val (.int p0), .val (.int p1), .val (.long p2), .second, .val (.long p3), .second, .val (.int ip), .val (.int lp), .val (.int (1 : Int32)), .val (.ref b61), .val (.int r1), .val (.int f1), .val (.int r2), .val (.int f2), .val (.int r3), .val (.int f3), .val (.int (1 : Int32)), .val (.int (1 : Int32)), .val (.int (0 : Int32)), .val (.long p2), .second, .val (.long p2), .second, .val (.long p2), .second, .val (.long p2), .second, .val (.long p2), .second] []))
                refine Go.by (fun _ => XS.lload X83.here hx rfl (hb hby at_296) rfl) ?_
                refine Go.by (fun _ => XS.lload X83.here hx rfl (hb hby at_298) rfl) ?_
                show Go p.tables e below _ (T83.setTop (mkF m 300 #[.val (.int p0), .val (.int p1), .val (.long p2), .second, .val (.long p3), .second, .val (.int ip), .val (.int lp), .val (.int (1 : Int32)), .val (.ref b61), .val (.int r1), .val (.int f1), .val (.int r2), .val (.int f2), .val (.int r3), .val (.int f3), .val (.int (1 : Int32)), .val (.int (1 : Int32)), .val (.int (0 : Int32)), .val (.long p2), .second, .val (.long p2), .second, .val (.long p2), .second, .val (.long p2), .second, .val (.long p2), .second] [(.long p2), (.long p2)]))
                refine Go.by (fun _ => XS.lcmp X83.here hx rfl (hb hby at_300) rfl) ?_
                show Go p.tables e below _ (T83.setTop (mkF m 301 #[.val (.int p0), .val (.int p1), .val (.long p2), .second, .val (.long p3), .second, .val (.int ip), .val (.int lp), .val (.int (1 : Int32)), .val (.ref b61), .val (.int r1), .val (.int f1), .val (.int r2), .val (.int f2), .val (.int r3), .val (.int f3), .val (.int (1 : Int32)), .val (.int (1 : Int32)), .val (.int (0 : Int32)), .val (.long p2), .second, .val (.long p2), .second, .val (.long p2), .second, .val (.long p2), .second, .val (.long p2), .second] [(.int (lcmpW p2 p2))]))
                refine Go.by (fun _ => XS.ifNo X83.here hx rfl (hb hby at_301) rfl ((if0 _ _).trans (teq ((lw_eq _ _).mpr rfl)).2)) ?_
                show Go p.tables e below _ (T83.setTop (mkF m 304 #[.val (.int p0), .val (.int p1), .val (.long p2), .second, .val (.long p3), .second, .val (.int ip), .val (.int lp), .val (.int (1 : Int32)), .val (.ref b61), .val (.int r1), .val (.int f1), .val (.int r2), .val (.int f2), .val (.int r3), .val (.int f3), .val (.int (1 : Int32)), .val (.int (1 : Int32)), .val (.int (0 : Int32)), .val (.long p2), .second, .val (.long p2), .second, .val (.long p2), .second, .val (.long p2), .second, .val (.long p2), .second] []))
                refine Go.by (fun _ => XS.iconst X83.here hx rfl (hb hby at_304)) ?_
                refine Go.by (fun _ => XS.goto X83.here hx rfl (pc0 := 305) (pc' := 309) rfl (hb hby at_305) (by decide) (by decide)) ?_
                show Go p.tables e below _ (T83.setTop (mkF m 309 #[.val (.int p0), .val (.int p1), .val (.long p2), .second, .val (.long p3), .second, .val (.int ip), .val (.int lp), .val (.int (1 : Int32)), .val (.ref b61), .val (.int r1), .val (.int f1), .val (.int r2), .val (.int f2), .val (.int r3), .val (.int f3), .val (.int (1 : Int32)), .val (.int (1 : Int32)), .val (.int (0 : Int32)), .val (.long p2), .second, .val (.long p2), .second, .val (.long p2), .second, .val (.long p2), .second, .val (.long p2), .second] [(.int (1 : Int32))]))
                exact Go.retN X83 hx hlk (z' := (1 : Int32)) hret (by simp) (hb hby at_309) rfl (by decide) (by decide) rfl
            refine Go.by (fun _ => XS.iload Xj76.here hx rfl (hb hby at_192) rfl) ?_
            refine Go.by (fun _ => XS.iload Xj76.here hx rfl (hb hby at_194) rfl) ?_
            by_cases hc196_84 : r2 = r3
            · skip
              refine Go.by (fun _ => XS.icmpNo Xj76.here hx rfl (hb hby at_196) rfl (teq hc196_84).2) ?_
              show Go p.tables e below _ (Tj76.setTop (mkF m 199 #[.val (.int p0), .val (.int p1), .val (.long p2), .second, .val (.long p3), .second, .val (.int ip), .val (.int lp), .val (.int (1 : Int32)), .val (.ref b61), .val (.int r1), .val (.int f1), .val (.int r2), .val (.int f2), .val (.int r3), .val (.int f3), .val (.int (1 : Int32)), .val (.int (1 : Int32)), .unset, .unset, .unset, .unset, .unset, .unset, .unset, .unset, .unset, .unset, .unset] []))
              refine Go.by (fun _ => XS.iload Xj76.here hx rfl (hb hby at_199) rfl) ?_
              refine Go.by (fun _ => XS.iload Xj76.here hx rfl (hb hby at_201) rfl) ?_
              show Go p.tables e below _ (Tj76.setTop (mkF m 203 #[.val (.int p0), .val (.int p1), .val (.long p2), .second, .val (.long p3), .second, .val (.int ip), .val (.int lp), .val (.int (1 : Int32)), .val (.ref b61), .val (.int r1), .val (.int f1), .val (.int r2), .val (.int f2), .val (.int r3), .val (.int f3), .val (.int (1 : Int32)), .val (.int (1 : Int32)), .unset, .unset, .unset, .unset, .unset, .unset, .unset, .unset, .unset, .unset, .unset] [(.int f3), (.int f2)]))
              by_cases hc203_85 : f2 = f3
              · skip
                refine Go.by (fun _ => XS.icmpNo Xj76.here hx rfl (hb hby at_203) rfl (teq hc203_85).2) ?_
                show Go p.tables e below _ (Tj76.setTop (mkF m 206 #[.val (.int p0), .val (.int p1), .val (.long p2), .second, .val (.long p3), .second, .val (.int ip), .val (.int lp), .val (.int (1 : Int32)), .val (.ref b61), .val (.int r1), .val (.int f1), .val (.int r2), .val (.int f2), .val (.int r3), .val (.int f3), .val (.int (1 : Int32)), .val (.int (1 : Int32)), .unset, .unset, .unset, .unset, .unset, .unset, .unset, .unset, .unset, .unset, .unset] []))
                refine Go.by (fun _ => XS.iconst Xj76.here hx rfl (hb hby at_206)) ?_
                refine Go.by (fun _ => XS.goto Xj76.here hx rfl (pc0 := 207) (pc' := 211) rfl (hb hby at_207) (by decide) (by decide)) ?_
                show Go p.tables e below _ (Tj76.setTop (mkF m 211 #[.val (.int p0), .val (.int p1), .val (.long p2), .second, .val (.long p3), .second, .val (.int ip), .val (.int lp), .val (.int (1 : Int32)), .val (.ref b61), .val (.int r1), .val (.int f1), .val (.int r2), .val (.int f2), .val (.int r3), .val (.int f3), .val (.int (1 : Int32)), .val (.int (1 : Int32)), .unset, .unset, .unset, .unset, .unset, .unset, .unset, .unset, .unset, .unset, .unset] [(.int (1 : Int32))]))
                exact J77 _ Xj76 _ (Or.inl ⟨rfl, hc196_84, hc203_85⟩)
              · skip
                refine Go.by (fun _ => XS.icmpYes Xj76.here hx rfl (pc0 := 203) (pc' := 210) rfl (hb hby at_203) rfl (feq hc203_85).2 (by decide) (by decide)) ?_
                show Go p.tables e below _ (Tj76.setTop (mkF m 210 #[.val (.int p0), .val (.int p1), .val (.long p2), .second, .val (.long p3), .second, .val (.int ip), .val (.int lp), .val (.int (1 : Int32)), .val (.ref b61), .val (.int r1), .val (.int f1), .val (.int r2), .val (.int f2), .val (.int r3), .val (.int f3), .val (.int (1 : Int32)), .val (.int (1 : Int32)), .unset, .unset, .unset, .unset, .unset, .unset, .unset, .unset, .unset, .unset, .unset] []))
                refine Go.by (fun _ => XS.iconst Xj76.here hx rfl (hb hby at_210)) ?_
                show Go p.tables e below _ (Tj76.setTop (mkF m 211 #[.val (.int p0), .val (.int p1), .val (.long p2), .second, .val (.long p3), .second, .val (.int ip), .val (.int lp), .val (.int (1 : Int32)), .val (.ref b61), .val (.int r1), .val (.int f1), .val (.int r2), .val (.int f2), .val (.int r3), .val (.int f3), .val (.int (1 : Int32)), .val (.int (1 : Int32)), .unset, .unset, .unset, .unset, .unset, .unset, .unset, .unset, .unset, .unset, .unset] [(.int (0 : Int32))]))
                exact J77 _ Xj76 _ (Or.inr ⟨rfl, fun q => hc203_85 q.2⟩)
            · skip
              refine Go.by (fun _ => XS.icmpYes Xj76.here hx rfl (pc0 := 196) (pc' := 210) rfl (hb hby at_196) rfl (feq hc196_84).2 (by decide) (by decide)) ?_
              show Go p.tables e below _ (Tj76.setTop (mkF m 210 #[.val (.int p0), .val (.int p1), .val (.long p2), .second, .val (.long p3), .second, .val (.int ip), .val (.int lp), .val (.int (1 : Int32)), .val (.ref b61), .val (.int r1), .val (.int f1), .val (.int r2), .val (.int f2), .val (.int r3), .val (.int f3), .val (.int (1 : Int32)), .val (.int (1 : Int32)), .unset, .unset, .unset, .unset, .unset, .unset, .unset, .unset, .unset, .unset, .unset] []))
              refine Go.by (fun _ => XS.iconst Xj76.here hx rfl (hb hby at_210)) ?_
              show Go p.tables e below _ (Tj76.setTop (mkF m 211 #[.val (.int p0), .val (.int p1), .val (.long p2), .second, .val (.long p3), .second, .val (.int ip), .val (.int lp), .val (.int (1 : Int32)), .val (.ref b61), .val (.int r1), .val (.int f1), .val (.int r2), .val (.int f2), .val (.int r3), .val (.int f3), .val (.int (1 : Int32)), .val (.int (1 : Int32)), .unset, .unset, .unset, .unset, .unset, .unset, .unset, .unset, .unset, .unset, .unset] [(.int (0 : Int32))]))
              exact J77 _ Xj76 _ (Or.inr ⟨rfl, fun q => hc196_84 q.1⟩)
          · skip
            show Go p.tables e below _ (Tj76.setTop (mkF m 190 #[.val (.int p0), .val (.int p1), .val (.long p2), .second, .val (.long p3), .second, .val (.int ip), .val (.int lp), .val (.int (1 : Int32)), .val (.ref b61), .val (.int r1), .val (.int f1), .val (.int r2), .val (.int f2), .val (.int r3), .val (.int f3), .val (.int (1 : Int32)), .unset, .unset, .unset, .unset, .unset, .unset, .unset, .unset, .unset, .unset, .unset, .unset] [(.int (0 : Int32))]))
            refine Go.by (fun _ => XS.istore Xj76.here hx rfl (hb hby at_190) rfl (l' := #[.val (.int p0), .val (.int p1), .val (.long p2), .second, .val (.long p3), .second, .val (.int ip), .val (.int lp), .val (.int (1 : Int32)), .val (.ref b61), .val (.int r1), .val (.int f1), .val (.int r2), .val (.int f2), .val (.int r3), .val (.int f3), .val (.int (1 : Int32)), .val (.int (0 : Int32)), .unset, .unset, .unset, .unset, .unset, .unset, .unset, .unset, .unset, .unset, .unset]) rfl) ?_
            show Go p.tables e below _ (Tj76.setTop (mkF m 192 #[.val (.int p0), .val (.int p1), .val (.long p2), .second, .val (.long p3), .second, .val (.int ip), .val (.int lp), .val (.int (1 : Int32)), .val (.ref b61), .val (.int r1), .val (.int f1), .val (.int r2), .val (.int f2), .val (.int r3), .val (.int f3), .val (.int (1 : Int32)), .val (.int (0 : Int32)), .unset, .unset, .unset, .unset, .unset, .unset, .unset, .unset, .unset, .unset, .unset] []))
            have J86 : ∀ (Tj86 : State), Sd n0 p l e room_1 s m #[(.int p0), (.int p1), (.long p2), (.long p3)] below meth c Tj86 h73 7 504 → ∀ (jb : Int32), ((jb = 1 ∧ r2 = r3 ∧ f2 = f3) ∨ (jb = 0 ∧ ¬ (r2 = r3 ∧ f2 = f3))) → Go p.tables e below (Ret s n0 (fun v h => v = some (.int 1)) room_1.cells room_1.slots) (Tj86.setTop (mkF m 211 #[.val (.int p0), .val (.int p1), .val (.long p2), .second, .val (.long p3), .second, .val (.int ip), .val (.int lp), .val (.int (1 : Int32)), .val (.ref b61), .val (.int r1), .val (.int f1), .val (.int r2), .val (.int f2), .val (.int r3), .val (.int f3), .val (.int (1 : Int32)), .val (.int (0 : Int32)), .unset, .unset, .unset, .unset, .unset, .unset, .unset, .unset, .unset, .unset, .unset] [(.int jb)])) := by
              intro Tj86 Xj86 jb hj86
              rcases hj86 with ⟨rfl, hP18⟩ | ⟨rfl, hP18⟩
              · skip
                show Go p.tables e below _ (Tj86.setTop (mkF m 211 #[.val (.int p0), .val (.int p1), .val (.long p2), .second, .val (.long p3), .second, .val (.int ip), .val (.int lp), .val (.int (1 : Int32)), .val (.ref b61), .val (.int r1), .val (.int f1), .val (.int r2), .val (.int f2), .val (.int r3), .val (.int f3), .val (.int (1 : Int32)), .val (.int (0 : Int32)), .unset, .unset, .unset, .unset, .unset, .unset, .unset, .unset, .unset, .unset, .unset] [(.int (1 : Int32))]))
                refine Go.by (fun _ => XS.istore Xj86.here hx rfl (hb hby at_211) rfl (l' := #[.val (.int p0), .val (.int p1), .val (.long p2), .second, .val (.long p3), .second, .val (.int ip), .val (.int lp), .val (.int (1 : Int32)), .val (.ref b61), .val (.int r1), .val (.int f1), .val (.int r2), .val (.int f2), .val (.int r3), .val (.int f3), .val (.int (1 : Int32)), .val (.int (0 : Int32)), .val (.int (1 : Int32)), .unset, .unset, .unset, .unset, .unset, .unset, .unset, .unset, .unset, .unset]) rfl) ?_
                show Go p.tables e below _ (Tj86.setTop (mkF m 213 #[.val (.int p0), .val (.int p1), .val (.long p2), .second, .val (.long p3), .second, .val (.int ip), .val (.int lp), .val (.int (1 : Int32)), .val (.ref b61), .val (.int r1), .val (.int f1), .val (.int r2), .val (.int f2), .val (.int r3), .val (.int f3), .val (.int (1 : Int32)), .val (.int (0 : Int32)), .val (.int (1 : Int32)), .unset, .unset, .unset, .unset, .unset, .unset, .unset, .unset, .unset, .unset] []))
                refine Go.by (fun _ => XS.iload Xj86.here hx rfl (hb hby at_213) rfl) ?_
                show Go p.tables e below _ (Tj86.setTop (mkF m 215 #[.val (.int p0), .val (.int p1), .val (.long p2), .second, .val (.long p3), .second, .val (.int ip), .val (.int lp), .val (.int (1 : Int32)), .val (.ref b61), .val (.int r1), .val (.int f1), .val (.int r2), .val (.int f2), .val (.int r3), .val (.int f3), .val (.int (1 : Int32)), .val (.int (0 : Int32)), .val (.int (1 : Int32)), .unset, .unset, .unset, .unset, .unset, .unset, .unset, .unset, .unset, .unset] [(.int (1 : Int32))]))
                refine Go.by (fun _ => XS.ifNo Xj86.here hx rfl (hb hby at_215) rfl ((if0 _ _).trans (feq (by decide)).1)) ?_
                show Go p.tables e below _ (Tj86.setTop (mkF m 218 #[.val (.int p0), .val (.int p1), .val (.long p2), .second, .val (.long p3), .second, .val (.int ip), .val (.int lp), .val (.int (1 : Int32)), .val (.ref b61), .val (.int r1), .val (.int f1), .val (.int r2), .val (.int f2), .val (.int r3), .val (.int f3), .val (.int (1 : Int32)), .val (.int (0 : Int32)), .val (.int (1 : Int32)), .unset, .unset, .unset, .unset, .unset, .unset, .unset, .unset, .unset, .unset] []))
                refine Go.by (fun _ => XS.lloadN Xj86.here hx rfl (hb hby at_218) rfl) ?_
                refine Go.by (fun _ => XS.goto Xj86.here hx rfl (pc0 := 219) (pc' := 224) rfl (hb hby at_219) (by decide) (by decide)) ?_
                show Go p.tables e below _ (Tj86.setTop (mkF m 224 #[.val (.int p0), .val (.int p1), .val (.long p2), .second, .val (.long p3), .second, .val (.int ip), .val (.int lp), .val (.int (1 : Int32)), .val (.ref b61), .val (.int r1), .val (.int f1), .val (.int r2), .val (.int f2), .val (.int r3), .val (.int f3), .val (.int (1 : Int32)), .val (.int (0 : Int32)), .val (.int (1 : Int32)), .unset, .unset, .unset, .unset, .unset, .unset, .unset, .unset, .unset, .unset] [(.long p2)]))
                refine Go.by (fun _ => XS.lstore Xj86.here hx rfl (hb hby at_224) rfl (l' := #[.val (.int p0), .val (.int p1), .val (.long p2), .second, .val (.long p3), .second, .val (.int ip), .val (.int lp), .val (.int (1 : Int32)), .val (.ref b61), .val (.int r1), .val (.int f1), .val (.int r2), .val (.int f2), .val (.int r3), .val (.int f3), .val (.int (1 : Int32)), .val (.int (0 : Int32)), .val (.int (1 : Int32)), .val (.long p2), .second, .unset, .unset, .unset, .unset, .unset, .unset, .unset, .unset]) rfl) ?_
                show Go p.tables e below _ (Tj86.setTop (mkF m 226 #[.val (.int p0), .val (.int p1), .val (.long p2), .second, .val (.long p3), .second, .val (.int ip), .val (.int lp), .val (.int (1 : Int32)), .val (.ref b61), .val (.int r1), .val (.int f1), .val (.int r2), .val (.int f2), .val (.int r3), .val (.int f3), .val (.int (1 : Int32)), .val (.int (0 : Int32)), .val (.int (1 : Int32)), .val (.long p2), .second, .unset, .unset, .unset, .unset, .unset, .unset, .unset, .unset] []))
                refine Go.by (fun _ => XS.iload Xj86.here hx rfl (hb hby at_226) rfl) ?_
                refine Go.by (fun _ => XS.ifYes Xj86.here hx rfl (pc0 := 228) (pc' := 235) rfl (hb hby at_228) rfl ((if0 _ _).trans (teq (by decide)).1) (by decide) (by decide)) ?_
                show Go p.tables e below _ (Tj86.setTop (mkF m 235 #[.val (.int p0), .val (.int p1), .val (.long p2), .second, .val (.long p3), .second, .val (.int ip), .val (.int lp), .val (.int (1 : Int32)), .val (.ref b61), .val (.int r1), .val (.int f1), .val (.int r2), .val (.int f2), .val (.int r3), .val (.int f3), .val (.int (1 : Int32)), .val (.int (0 : Int32)), .val (.int (1 : Int32)), .val (.long p2), .second, .unset, .unset, .unset, .unset, .unset, .unset, .unset, .unset] []))
                refine Go.by (fun _ => XS.iload Xj86.here hx rfl (hb hby at_235) rfl) ?_
                refine Go.by (fun _ => XS.ifNo Xj86.here hx rfl (hb hby at_237) rfl ((if0 _ _).trans (feq (by decide)).1)) ?_
                show Go p.tables e below _ (Tj86.setTop (mkF m 240 #[.val (.int p0), .val (.int p1), .val (.long p2), .second, .val (.long p3), .second, .val (.int ip), .val (.int lp), .val (.int (1 : Int32)), .val (.ref b61), .val (.int r1), .val (.int f1), .val (.int r2), .val (.int f2), .val (.int r3), .val (.int f3), .val (.int (1 : Int32)), .val (.int (0 : Int32)), .val (.int (1 : Int32)), .val (.long p2), .second, .unset, .unset, .unset, .unset, .unset, .unset, .unset, .unset] []))
                refine Go.by (fun _ => XS.lload Xj86.here hx rfl (hb hby at_240) rfl) ?_
                refine Go.by (fun _ => XS.goto Xj86.here hx rfl (pc0 := 242) (pc' := 246) rfl (hb hby at_242) (by decide) (by decide)) ?_
                show Go p.tables e below _ (Tj86.setTop (mkF m 246 #[.val (.int p0), .val (.int p1), .val (.long p2), .second, .val (.long p3), .second, .val (.int ip), .val (.int lp), .val (.int (1 : Int32)), .val (.ref b61), .val (.int r1), .val (.int f1), .val (.int r2), .val (.int f2), .val (.int r3), .val (.int f3), .val (.int (1 : Int32)), .val (.int (0 : Int32)), .val (.int (1 : Int32)), .val (.long p2), .second, .unset, .unset, .unset, .unset, .unset, .unset, .unset, .unset] [(.long p3)]))
                refine Go.by (fun _ => XS.lstore Xj86.here hx rfl (hb hby at_246) rfl (l' := #[.val (.int p0), .val (.int p1), .val (.long p2), .second, .val (.long p3), .second, .val (.int ip), .val (.int lp), .val (.int (1 : Int32)), .val (.ref b61), .val (.int r1), .val (.int f1), .val (.int r2), .val (.int f2), .val (.int r3), .val (.int f3), .val (.int (1 : Int32)), .val (.int (0 : Int32)), .val (.int (1 : Int32)), .val (.long p2), .second, .val (.long p3), .second, .unset, .unset, .unset, .unset, .unset, .unset]) rfl) ?_
                show Go p.tables e below _ (Tj86.setTop (mkF m 248 #[.val (.int p0), .val (.int p1), .val (.long p2), .second, .val (.long p3), .second, .val (.int ip), .val (.int lp), .val (.int (1 : Int32)), .val (.ref b61), .val (.int r1), .val (.int f1), .val (.int r2), .val (.int f2), .val (.int r3), .val (.int f3), .val (.int (1 : Int32)), .val (.int (0 : Int32)), .val (.int (1 : Int32)), .val (.long p2), .second, .val (.long p3), .second, .unset, .unset, .unset, .unset, .unset, .unset] []))
                refine Go.by (fun _ => XS.aload Xj86.here hx rfl (hb hby at_248) rfl rfl) ?_
                refine Go.by (fun _ => XS.iload Xj86.here hx rfl (hb hby at_250) rfl) ?_
                refine Go.by (fun _ => XS.iload Xj86.here hx rfl (hb hby at_252) rfl) ?_
                obtain ⟨v87, T87, h87, X87, q87, st87⟩ := Xj86.callV hx hZ (y := (⟨"com/example/spotline/spotline/engine/Table", "getLong", "(II)J"⟩ : MethodName)) (z := (⟨"com/example/spotline/spotline/engine/Table", "getLong", "(II)J"⟩ : MethodName)) hown (tw hw 65 rfl) (tw hw 66 rfl) (notFace_of_selects (args := #[]) (mvT hZ (tw hw 68 rfl))) (tw hw 68 rfl) (tw hw 67 rfl) (tw hw 3 rfl) (tw hw 69 rfl) (by decide) (rm9 l Z a0 hw [] b61 r1 f1 oL63 dL65 kL63 kdL65 ip (((64 : Int32) * ip).toNatClampNeg) (fun i => if i = 0 then (.ref dL65) else .null) (fun t => if t = ((((r1 &&& (65535 : Int32)) * ip) + f1).toNatClampNeg) then (.long p2) else (fun t => if t = ((((r2 &&& (65535 : Int32)) * ip) + f2).toNatClampNeg) then (.long p3) else (fun _ => (.long 0)) t) t) p2 h73 n0 Zs74 f74_1315 f74_1318 f74_1311 rfl V73 hc_r1_f1.1 hc_r1_f1.2.1 hc_r1_f1.2.2 (if_pos rfl)) f74_1310 (g := (mkF m 254 #[.val (.int p0), .val (.int p1), .val (.long p2), .second, .val (.long p3), .second, .val (.int ip), .val (.int lp), .val (.int (1 : Int32)), .val (.ref b61), .val (.int r1), .val (.int f1), .val (.int r2), .val (.int f2), .val (.int r3), .val (.int f3), .val (.int (1 : Int32)), .val (.int (0 : Int32)), .val (.int (1 : Int32)), .val (.long p2), .second, .val (.long p3), .second, .unset, .unset, .unset, .unset, .unset, .unset] [(.int f1), (.int r1), (.ref b61)])) rfl (by rw [hml]; rfl) (argsL := [(.int r1), (.int f1)]) (rest := []) (lenOf pd6 rfl) rfl (hb hby at_254) rfl (by decide) (Nat.le_of_ble_eq_true rfl) (k' := 7) (n' := 504) rfl rfl (by decide) (by decide)
                refine Go.by st87 ?_
                obtain ⟨rfl, rfl⟩ := q87
                show Go p.tables e below _ (T87.setTop (mkF m 257 #[.val (.int p0), .val (.int p1), .val (.long p2), .second, .val (.long p3), .second, .val (.int ip), .val (.int lp), .val (.int (1 : Int32)), .val (.ref b61), .val (.int r1), .val (.int f1), .val (.int r2), .val (.int f2), .val (.int r3), .val (.int f3), .val (.int (1 : Int32)), .val (.int (0 : Int32)), .val (.int (1 : Int32)), .val (.long p2), .second, .val (.long p3), .second, .unset, .unset, .unset, .unset, .unset, .unset] [(.long p2)]))
                refine Go.by (fun _ => XS.lstore X87.here hx rfl (hb hby at_257) rfl (l' := #[.val (.int p0), .val (.int p1), .val (.long p2), .second, .val (.long p3), .second, .val (.int ip), .val (.int lp), .val (.int (1 : Int32)), .val (.ref b61), .val (.int r1), .val (.int f1), .val (.int r2), .val (.int f2), .val (.int r3), .val (.int f3), .val (.int (1 : Int32)), .val (.int (0 : Int32)), .val (.int (1 : Int32)), .val (.long p2), .second, .val (.long p3), .second, .val (.long p2), .second, .unset, .unset, .unset, .unset]) rfl) ?_
                show Go p.tables e below _ (T87.setTop (mkF m 259 #[.val (.int p0), .val (.int p1), .val (.long p2), .second, .val (.long p3), .second, .val (.int ip), .val (.int lp), .val (.int (1 : Int32)), .val (.ref b61), .val (.int r1), .val (.int f1), .val (.int r2), .val (.int f2), .val (.int r3), .val (.int f3), .val (.int (1 : Int32)), .val (.int (0 : Int32)), .val (.int (1 : Int32)), .val (.long p2), .second, .val (.long p3), .second, .val (.long p2), .second, .unset, .unset, .unset, .unset] []))
                refine Go.by (fun _ => XS.aload X87.here hx rfl (hb hby at_259) rfl rfl) ?_
                refine Go.by (fun _ => XS.iload X87.here hx rfl (hb hby at_261) rfl) ?_
                show Go p.tables e below _ (T87.setTop (mkF m 263 #[.val (.int p0), .val (.int p1), .val (.long p2), .second, .val (.long p3), .second, .val (.int ip), .val (.int lp), .val (.int (1 : Int32)), .val (.ref b61), .val (.int r1), .val (.int f1), .val (.int r2), .val (.int f2), .val (.int r3), .val (.int f3), .val (.int (1 : Int32)), .val (.int (0 : Int32)), .val (.int (1 : Int32)), .val (.long p2), .second, .val (.long p3), .second, .val (.long p2), .second, .unset, .unset, .unset, .unset] [(.int r2), (.ref b61)]))
                refine Go.by (fun _ => XS.iload X87.here hx rfl (hb hby at_263) rfl) ?_
                obtain ⟨v88, T88, h88, X88, q88, st88⟩ := X87.callV hx hZ (y := (⟨"com/example/spotline/spotline/engine/Table", "getLong", "(II)J"⟩ : MethodName)) (z := (⟨"com/example/spotline/spotline/engine/Table", "getLong", "(II)J"⟩ : MethodName)) hown (tw hw 65 rfl) (tw hw 66 rfl) (notFace_of_selects (args := #[]) (mvT hZ (tw hw 68 rfl))) (tw hw 68 rfl) (tw hw 67 rfl) (tw hw 3 rfl) (tw hw 69 rfl) (by decide) (rm9 l Z a0 hw [] b61 r2 f2 oL63 dL65 kL63 kdL65 ip (((64 : Int32) * ip).toNatClampNeg) (fun i => if i = 0 then (.ref dL65) else .null) (fun t => if t = ((((r1 &&& (65535 : Int32)) * ip) + f1).toNatClampNeg) then (.long p2) else (fun t => if t = ((((r2 &&& (65535 : Int32)) * ip) + f2).toNatClampNeg) then (.long p3) else (fun _ => (.long 0)) t) t) p2 h73 n0 Zs74 f74_1315 f74_1318 f74_1311 rfl V73 hc_r2_f2.1 hc_r2_f2.2.1 hc_r2_f2.2.2 (if_pos (by rw [hP16.1, hP16.2]))) f74_1310 (g := (mkF m 265 #[.val (.int p0), .val (.int p1), .val (.long p2), .second, .val (.long p3), .second, .val (.int ip), .val (.int lp), .val (.int (1 : Int32)), .val (.ref b61), .val (.int r1), .val (.int f1), .val (.int r2), .val (.int f2), .val (.int r3), .val (.int f3), .val (.int (1 : Int32)), .val (.int (0 : Int32)), .val (.int (1 : Int32)), .val (.long p2), .second, .val (.long p3), .second, .val (.long p2), .second, .unset, .unset, .unset, .unset] [(.int f2), (.int r2), (.ref b61)])) rfl (by rw [hml]; rfl) (argsL := [(.int r2), (.int f2)]) (rest := []) (lenOf pd6 rfl) rfl (hb hby at_265) rfl (by decide) (Nat.le_of_ble_eq_true rfl) (k' := 7) (n' := 504) rfl rfl (by decide) (by decide)
                refine Go.by st88 ?_
                obtain ⟨rfl, rfl⟩ := q88
                show Go p.tables e below _ (T88.setTop (mkF m 268 #[.val (.int p0), .val (.int p1), .val (.long p2), .second, .val (.long p3), .second, .val (.int ip), .val (.int lp), .val (.int (1 : Int32)), .val (.ref b61), .val (.int r1), .val (.int f1), .val (.int r2), .val (.int f2), .val (.int r3), .val (.int f3), .val (.int (1 : Int32)), .val (.int (0 : Int32)), .val (.int (1 : Int32)), .val (.long p2), .second, .val (.long p3), .second, .val (.long p2), .second, .unset, .unset, .unset, .unset] [(.long p2)]))
                refine Go.by (fun _ => XS.lstore X88.here hx rfl (hb hby at_268) rfl (l' := #[.val (.int p0), .val (.int p1), .val (.long p2), .second, .val (.long p3), .second, .val (.int ip), .val (.int lp), .val (.int (1 : Int32)), .val (.ref b61), .val (.int r1), .val (.int f1), .val (.int r2), .val (.int f2), .val (.int r3), .val (.int f3), .val (.int (1 : Int32)), .val (.int (0 : Int32)), .val (.int (1 : Int32)), .val (.long p2), .second, .val (.long p3), .second, .val (.long p2), .second, .val (.long p2), .second, .unset, .unset]) rfl) ?_
                show Go p.tables e below _ (T88.setTop (mkF m 270 #[.val (.int p0), .val (.int p1), .val (.long p2), .second, .val (.long p3), .second, .val (.int ip), .val (.int lp), .val (.int (1 : Int32)), .val (.ref b61), .val (.int r1), .val (.int f1), .val (.int r2), .val (.int f2), .val (.int r3), .val (.int f3), .val (.int (1 : Int32)), .val (.int (0 : Int32)), .val (.int (1 : Int32)), .val (.long p2), .second, .val (.long p3), .second, .val (.long p2), .second, .val (.long p2), .second, .unset, .unset] []))
                refine Go.by (fun _ => XS.aload X88.here hx rfl (hb hby at_270) rfl rfl) ?_
                refine Go.by (fun _ => XS.iload X88.here hx rfl (hb hby at_272) rfl) ?_
                refine Go.by (fun _ => XS.iload X88.here hx rfl (hb hby at_274) rfl) ?_
                obtain ⟨v89, T89, h89, X89, q89, st89⟩ := X88.callV hx hZ (y := (⟨"com/example/spotline/spotline/engine/Table", "getLong", "(II)J"⟩ : MethodName)) (z := (⟨"com/example/spotline/spotline/engine/Table", "getLong", "(II)J"⟩ : MethodName)) hown (tw hw 65 rfl) (tw hw 66 rfl) (notFace_of_selects (args := #[]) (mvT hZ (tw hw 68 rfl))) (tw hw 68 rfl) (tw hw 67 rfl) (tw hw 3 rfl) (tw hw 69 rfl) (by decide) (rm9 l Z a0 hw [] b61 r3 f3 oL63 dL65 kL63 kdL65 ip (((64 : Int32) * ip).toNatClampNeg) (fun i => if i = 0 then (.ref dL65) else .null) (fun t => if t = ((((r1 &&& (65535 : Int32)) * ip) + f1).toNatClampNeg) then (.long p2) else (fun t => if t = ((((r2 &&& (65535 : Int32)) * ip) + f2).toNatClampNeg) then (.long p3) else (fun _ => (.long 0)) t) t) p3 h73 n0 Zs74 f74_1315 f74_1318 f74_1311 rfl V73 hc_r3_f3.1 hc_r3_f3.2.1 hc_r3_f3.2.2 ((if_neg (fun q => hP17 ⟨(own_same h_r3.1 h_r3.2 hip1 hip2 h_f3.1 h_f3.2 h_r1.1 h_r1.2 h_f1.1 h_f1.2 q).1.symm, (own_same h_r3.1 h_r3.2 hip1 hip2 h_f3.1 h_f3.2 h_r1.1 h_r1.2 h_f1.1 h_f1.2 q).2.symm⟩)).trans (if_pos (by rw [hP18.1, hP18.2])))) f74_1310 (g := (mkF m 276 #[.val (.int p0), .val (.int p1), .val (.long p2), .second, .val (.long p3), .second, .val (.int ip), .val (.int lp), .val (.int (1 : Int32)), .val (.ref b61), .val (.int r1), .val (.int f1), .val (.int r2), .val (.int f2), .val (.int r3), .val (.int f3), .val (.int (1 : Int32)), .val (.int (0 : Int32)), .val (.int (1 : Int32)), .val (.long p2), .second, .val (.long p3), .second, .val (.long p2), .second, .val (.long p2), .second, .unset, .unset] [(.int f3), (.int r3), (.ref b61)])) rfl (by rw [hml]; rfl) (argsL := [(.int r3), (.int f3)]) (rest := []) (lenOf pd6 rfl) rfl (hb hby at_276) rfl (by decide) (Nat.le_of_ble_eq_true rfl) (k' := 7) (n' := 504) rfl rfl (by decide) (by decide)
                refine Go.by st89 ?_
                obtain ⟨rfl, rfl⟩ := q89
                show Go p.tables e below _ (T89.setTop (mkF m 279 #[.val (.int p0), .val (.int p1), .val (.long p2), .second, .val (.long p3), .second, .val (.int ip), .val (.int lp), .val (.int (1 : Int32)), .val (.ref b61), .val (.int r1), .val (.int f1), .val (.int r2), .val (.int f2), .val (.int r3), .val (.int f3), .val (.int (1 : Int32)), .val (.int (0 : Int32)), .val (.int (1 : Int32)), .val (.long p2), .second, .val (.long p3), .second, .val (.long p2), .second, .val (.long p2), .second, .unset, .unset] [(.long p3)]))
                refine Go.by (fun _ => XS.lstore X89.here hx rfl (hb hby at_279) rfl (l' := #[.val (.int p0), .val (.int p1), .val (.long p2), .second, .val (.long p3), .second, .val (.int ip), .val (.int lp), .val (.int (1 : Int32)), .val (.ref b61), .val (.int r1), .val (.int f1), .val (.int r2), .val (.int f2), .val (.int r3), .val (.int f3), .val (.int (1 : Int32)), .val (.int (0 : Int32)), .val (.int (1 : Int32)), .val (.long p2), .second, .val (.long p3), .second, .val (.long p2), .second, .val (.long p2), .second, .val (.long p3), .second]) rfl) ?_
                show Go p.tables e below _ (T89.setTop (mkF m 281 #[.val (.int p0), .val (.int p1), .val (.long p2), .second, .val (.long p3), .second, .val (.int ip), .val (.int lp), .val (.int (1 : Int32)), .val (.ref b61), .val (.int r1), .val (.int f1), .val (.int r2), .val (.int f2), .val (.int r3), .val (.int f3), .val (.int (1 : Int32)), .val (.int (0 : Int32)), .val (.int (1 : Int32)), .val (.long p2), .second, .val (.long p3), .second, .val (.long p2), .second, .val (.long p2), .second, .val (.long p3), .second] []))
                refine Go.by (fun _ => XS.lload X89.here hx rfl (hb hby at_281) rfl) ?_
                refine Go.by (fun _ => XS.lloadN X89.here hx rfl (hb hby at_283) rfl) ?_
                refine Go.by (fun _ => XS.lcmp X89.here hx rfl (hb hby at_284) rfl) ?_
                show Go p.tables e below _ (T89.setTop (mkF m 285 #[.val (.int p0), .val (.int p1), .val (.long p2), .second, .val (.long p3), .second, .val (.int ip), .val (.int lp), .val (.int (1 : Int32)), .val (.ref b61), .val (.int r1), .val (.int f1), .val (.int r2), .val (.int f2), .val (.int r3), .val (.int f3), .val (.int (1 : Int32)), .val (.int (0 : Int32)), .val (.int (1 : Int32)), .val (.long p2), .second, .val (.long p3), .second, .val (.long p2), .second, .val (.long p2), .second, .val (.long p3), .second] [(.int (lcmpW p2 p2))]))
                refine Go.by (fun _ => XS.ifNo X89.here hx rfl (hb hby at_285) rfl ((if0 _ _).trans (teq ((lw_eq _ _).mpr rfl)).2)) ?_
                show Go p.tables e below _ (T89.setTop (mkF m 288 #[.val (.int p0), .val (.int p1), .val (.long p2), .second, .val (.long p3), .second, .val (.int ip), .val (.int lp), .val (.int (1 : Int32)), .val (.ref b61), .val (.int r1), .val (.int f1), .val (.int r2), .val (.int f2), .val (.int r3), .val (.int f3), .val (.int (1 : Int32)), .val (.int (0 : Int32)), .val (.int (1 : Int32)), .val (.long p2), .second, .val (.long p3), .second, .val (.long p2), .second, .val (.long p2), .second, .val (.long p3), .second] []))
                refine Go.by (fun _ => XS.lload X89.here hx rfl (hb hby at_288) rfl) ?_
                refine Go.by (fun _ => XS.lload X89.here hx rfl (hb hby at_290) rfl) ?_
                refine Go.by (fun _ => XS.lcmp X89.here hx rfl (hb hby at_292) rfl) ?_
                show Go p.tables e below _ (T89.setTop (mkF m 293 #[.val (.int p0), .val (.int p1), .val (.long p2), .second, .val (.long p3), .second, .val (.int ip), .val (.int lp), .val (.int (1 : Int32)), .val (.ref b61), .val (.int r1), .val (.int f1), .val (.int r2), .val (.int f2), .val (.int r3), .val (.int f3), .val (.int (1 : Int32)), .val (.int (0 : Int32)), .val (.int (1 : Int32)), .val (.long p2), .second, .val (.long p3), .second, .val (.long p2), .second, .val (.long p2), .second, .val (.long p3), .second] [(.int (lcmpW p2 p2))]))
                refine Go.by (fun _ => XS.ifNo X89.here hx rfl (hb hby at_293) rfl ((if0 _ _).trans (teq ((lw_eq _ _).mpr rfl)).2)) ?_
                show Go p.tables e below _ (T89.setTop (mkF m 296 #[.val (.int p0), .val (.int p1), .val (.long p2), .second, .val (.long p3), .second, .val (.int ip), .val (.int lp), .val (.int (1 : Int32)), .val (.ref b61), .val (.int r1), .val (.int f1), .val (.int r2), .val (.int f2), .val (.int r3), .val (.int f3), .val (.int (1 : Int32)), .val (.int (0 : Int32)), .val (.int (1 : Int32)), .val (.long p2), .second, .val (.long p3), .second, .val (.long p2), .second, .val (.long p2), .second, .val (.long p3), .second] []))
                refine Go.by (fun _ => XS.lload X89.here hx rfl (hb hby at_296) rfl) ?_
                refine Go.by (fun _ => XS.lload X89.here hx rfl (hb hby at_298) rfl) ?_
                refine Go.by (fun _ => XS.lcmp X89.here hx rfl (hb hby at_300) rfl) ?_
                show Go p.tables e below _ (T89.setTop (mkF m 301 #[.val (.int p0), .val (.int p1), .val (.long p2), .second, .val (.long p3), .second, .val (.int ip), .val (.int lp), .val (.int (1 : Int32)), .val (.ref b61), .val (.int r1), .val (.int f1), .val (.int r2), .val (.int f2), .val (.int r3), .val (.int f3), .val (.int (1 : Int32)), .val (.int (0 : Int32)), .val (.int (1 : Int32)), .val (.long p2), .second, .val (.long p3), .second, .val (.long p2), .second, .val (.long p2), .second, .val (.long p3), .second] [(.int (lcmpW p3 p3))]))
                refine Go.by (fun _ => XS.ifNo X89.here hx rfl (hb hby at_301) rfl ((if0 _ _).trans (teq ((lw_eq _ _).mpr rfl)).2)) ?_
                show Go p.tables e below _ (T89.setTop (mkF m 304 #[.val (.int p0), .val (.int p1), .val (.long p2), .second, .val (.long p3), .second, .val (.int ip), .val (.int lp), .val (.int (1 : Int32)), .val (.ref b61), .val (.int r1), .val (.int f1), .val (.int r2), .val (.int f2), .val (.int r3), .val (.int f3), .val (.int (1 : Int32)), .val (.int (0 : Int32)), .val (.int (1 : Int32)), .val (.long p2), .second, .val (.long p3), .second, .val (.long p2), .second, .val (.long p2), .second, .val (.long p3), .second] []))
                refine Go.by (fun _ => XS.iconst X89.here hx rfl (hb hby at_304)) ?_
                refine Go.by (fun _ => XS.goto X89.here hx rfl (pc0 := 305) (pc' := 309) rfl (hb hby at_305) (by decide) (by decide)) ?_
                show Go p.tables e below _ (T89.setTop (mkF m 309 #[.val (.int p0), .val (.int p1), .val (.long p2), .second, .val (.long p3), .second, .val (.int ip), .val (.int lp), .val (.int (1 : Int32)), .val (.ref b61), .val (.int r1), .val (.int f1), .val (.int r2), .val (.int f2), .val (.int r3), .val (.int f3), .val (.int (1 : Int32)), .val (.int (0 : Int32)), .val (.int (1 : Int32)), .val (.long p2), .second, .val (.long p3), .second, .val (.long p2), .second, .val (.long p2), .second, .val (.long p3), .second] [(.int (1 : Int32))]))
                exact Go.retN X89 hx hlk (z' := (1 : Int32)) hret (by simp) (hb hby at_309) rfl (by decide) (by decide) rfl
              · skip
                show Go p.tables e below _ (Tj86.setTop (mkF m 211 #[.val (.int p0), .val (.int p1), .val (.long p2), .second, .val (.long p3), .second, .val (.int ip), .val (.int lp), .val (.int (1 : Int32)), .val (.ref b61), .val (.int r1), .val (.int f1), .val (.int r2), .val (.int f2), .val (.int r3), .val (.int f3), .val (.int (1 : Int32)), .val (.int (0 : Int32)), .unset, .unset, .unset, .unset, .unset, .unset, .unset, .unset, .unset, .unset, .unset] [(.int (0 : Int32))]))
                refine Go.by (fun _ => XS.istore Xj86.here hx rfl (hb hby at_211) rfl (l' := #[.val (.int p0), .val (.int p1), .val (.long p2), .second, .val (.long p3), .second, .val (.int ip), .val (.int lp), .val (.int (1 : Int32)), .val (.ref b61), .val (.int r1), .val (.int f1), .val (.int r2), .val (.int f2), .val (.int r3), .val (.int f3), .val (.int (1 : Int32)), .val (.int (0 : Int32)), .val (.int (0 : Int32)), .unset, .unset, .unset, .unset, .unset, .unset, .unset, .unset, .unset, .unset]) rfl) ?_
                show Go p.tables e below _ (Tj86.setTop (mkF m 213 #[.val (.int p0), .val (.int p1), .val (.long p2), .second, .val (.long p3), .second, .val (.int ip), .val (.int lp), .val (.int (1 : Int32)), .val (.ref b61), .val (.int r1), .val (.int f1), .val (.int r2), .val (.int f2), .val (.int r3), .val (.int f3), .val (.int (1 : Int32)), .val (.int (0 : Int32)), .val (.int (0 : Int32)), .unset, .unset, .unset, .unset, .unset, .unset, .unset, .unset, .unset, .unset] []))
                refine Go.by (fun _ => XS.iload Xj86.here hx rfl (hb hby at_213) rfl) ?_
                show Go p.tables e below _ (Tj86.setTop (mkF m 215 #[.val (.int p0), .val (.int p1), .val (.long p2), .second, .val (.long p3), .second, .val (.int ip), .val (.int lp), .val (.int (1 : Int32)), .val (.ref b61), .val (.int r1), .val (.int f1), .val (.int r2), .val (.int f2), .val (.int r3), .val (.int f3), .val (.int (1 : Int32)), .val (.int (0 : Int32)), .val (.int (0 : Int32)), .unset, .unset, .unset, .unset, .unset, .unset, .unset, .unset, .unset, .unset] [(.int (1 : Int32))]))
                refine Go.by (fun _ => XS.ifNo Xj86.here hx rfl (hb hby at_215) rfl ((if0 _ _).trans (feq (by decide)).1)) ?_
                show Go p.tables e below _ (Tj86.setTop (mkF m 218 #[.val (.int p0), .val (.int p1), .val (.long p2), .second, .val (.long p3), .second, .val (.int ip), .val (.int lp), .val (.int (1 : Int32)), .val (.ref b61), .val (.int r1), .val (.int f1), .val (.int r2), .val (.int f2), .val (.int r3), .val (.int f3), .val (.int (1 : Int32)), .val (.int (0 : Int32)), .val (.int (0 : Int32)), .unset, .unset, .unset, .unset, .unset, .unset, .unset, .unset, .unset, .unset] []))
                refine Go.by (fun _ => XS.lloadN Xj86.here hx rfl (hb hby at_218) rfl) ?_
                refine Go.by (fun _ => XS.goto Xj86.here hx rfl (pc0 := 219) (pc' := 224) rfl (hb hby at_219) (by decide) (by decide)) ?_
                show Go p.tables e below _ (Tj86.setTop (mkF m 224 #[.val (.int p0), .val (.int p1), .val (.long p2), .second, .val (.long p3), .second, .val (.int ip), .val (.int lp), .val (.int (1 : Int32)), .val (.ref b61), .val (.int r1), .val (.int f1), .val (.int r2), .val (.int f2), .val (.int r3), .val (.int f3), .val (.int (1 : Int32)), .val (.int (0 : Int32)), .val (.int (0 : Int32)), .unset, .unset, .unset, .unset, .unset, .unset, .unset, .unset, .unset, .unset] [(.long p2)]))
                refine Go.by (fun _ => XS.lstore Xj86.here hx rfl (hb hby at_224) rfl (l' := #[.val (.int p0), .val (.int p1), .val (.long p2), .second, .val (.long p3), .second, .val (.int ip), .val (.int lp), .val (.int (1 : Int32)), .val (.ref b61), .val (.int r1), .val (.int f1), .val (.int r2), .val (.int f2), .val (.int r3), .val (.int f3), .val (.int (1 : Int32)), .val (.int (0 : Int32)), .val (.int (0 : Int32)), .val (.long p2), .second, .unset, .unset, .unset, .unset, .unset, .unset, .unset, .unset]) rfl) ?_
                show Go p.tables e below _ (Tj86.setTop (mkF m 226 #[.val (.int p0), .val (.int p1), .val (.long p2), .second, .val (.long p3), .second, .val (.int ip), .val (.int lp), .val (.int (1 : Int32)), .val (.ref b61), .val (.int r1), .val (.int f1), .val (.int r2), .val (.int f2), .val (.int r3), .val (.int f3), .val (.int (1 : Int32)), .val (.int (0 : Int32)), .val (.int (0 : Int32)), .val (.long p2), .second, .unset, .unset, .unset, .unset, .unset, .unset, .unset, .unset] []))
                refine Go.by (fun _ => XS.iload Xj86.here hx rfl (hb hby at_226) rfl) ?_
                refine Go.by (fun _ => XS.ifYes Xj86.here hx rfl (pc0 := 228) (pc' := 235) rfl (hb hby at_228) rfl ((if0 _ _).trans (teq (by decide)).1) (by decide) (by decide)) ?_
                show Go p.tables e below _ (Tj86.setTop (mkF m 235 #[.val (.int p0), .val (.int p1), .val (.long p2), .second, .val (.long p3), .second, .val (.int ip), .val (.int lp), .val (.int (1 : Int32)), .val (.ref b61), .val (.int r1), .val (.int f1), .val (.int r2), .val (.int f2), .val (.int r3), .val (.int f3), .val (.int (1 : Int32)), .val (.int (0 : Int32)), .val (.int (0 : Int32)), .val (.long p2), .second, .unset, .unset, .unset, .unset, .unset, .unset, .unset, .unset] []))
                refine Go.by (fun _ => XS.iload Xj86.here hx rfl (hb hby at_235) rfl) ?_
                refine Go.by (fun _ => XS.ifYes Xj86.here hx rfl (pc0 := 237) (pc' := 245) rfl (hb hby at_237) rfl ((if0 _ _).trans (teq (by decide)).1) (by decide) (by decide)) ?_
                show Go p.tables e below _ (Tj86.setTop (mkF m 245 #[.val (.int p0), .val (.int p1), .val (.long p2), .second, .val (.long p3), .second, .val (.int ip), .val (.int lp), .val (.int (1 : Int32)), .val (.ref b61), .val (.int r1), .val (.int f1), .val (.int r2), .val (.int f2), .val (.int r3), .val (.int f3), .val (.int (1 : Int32)), .val (.int (0 : Int32)), .val (.int (0 : Int32)), .val (.long p2), .second, .unset, .unset, .unset, .unset, .unset, .unset, .unset, .unset] []))
                refine Go.by (fun _ => XS.lconst Xj86.here hx rfl (hb hby at_245)) ?_
                refine Go.by (fun _ => XS.lstore Xj86.here hx rfl (hb hby at_246) rfl (l' := #[.val (.int p0), .val (.int p1), .val (.long p2), .second, .val (.long p3), .second, .val (.int ip), .val (.int lp), .val (.int (1 : Int32)), .val (.ref b61), .val (.int r1), .val (.int f1), .val (.int r2), .val (.int f2), .val (.int r3), .val (.int f3), .val (.int (1 : Int32)), .val (.int (0 : Int32)), .val (.int (0 : Int32)), .val (.long p2), .second, .val (.long (0 : Int64)), .second, .unset, .unset, .unset, .unset, .unset, .unset]) rfl) ?_
                show Go p.tables e below _ (Tj86.setTop (mkF m 248 #[.val (.int p0), .val (.int p1), .val (.long p2), .second, .val (.long p3), .second, .val (.int ip), .val (.int lp), .val (.int (1 : Int32)), .val (.ref b61), .val (.int r1), .val (.int f1), .val (.int r2), .val (.int f2), .val (.int r3), .val (.int f3), .val (.int (1 : Int32)), .val (.int (0 : Int32)), .val (.int (0 : Int32)), .val (.long p2), .second, .val (.long (0 : Int64)), .second, .unset, .unset, .unset, .unset, .unset, .unset] []))
                refine Go.by (fun _ => XS.aload Xj86.here hx rfl (hb hby at_248) rfl rfl) ?_
                refine Go.by (fun _ => XS.iload Xj86.here hx rfl (hb hby at_250) rfl) ?_
                refine Go.by (fun _ => XS.iload Xj86.here hx rfl (hb hby at_252) rfl) ?_
                obtain ⟨v90, T90, h90, X90, q90, st90⟩ := Xj86.callV hx hZ (y := (⟨"com/example/spotline/spotline/engine/Table", "getLong", "(II)J"⟩ : MethodName)) (z := (⟨"com/example/spotline/spotline/engine/Table", "getLong", "(II)J"⟩ : MethodName)) hown (tw hw 65 rfl) (tw hw 66 rfl) (notFace_of_selects (args := #[]) (mvT hZ (tw hw 68 rfl))) (tw hw 68 rfl) (tw hw 67 rfl) (tw hw 3 rfl) (tw hw 69 rfl) (by decide) (rm9 l Z a0 hw [] b61 r1 f1 oL63 dL65 kL63 kdL65 ip (((64 : Int32) * ip).toNatClampNeg) (fun i => if i = 0 then (.ref dL65) else .null) (fun t => if t = ((((r1 &&& (65535 : Int32)) * ip) + f1).toNatClampNeg) then (.long p2) else (fun t => if t = ((((r2 &&& (65535 : Int32)) * ip) + f2).toNatClampNeg) then (.long p3) else (fun _ => (.long 0)) t) t) p2 h73 n0 Zs74 f74_1315 f74_1318 f74_1311 rfl V73 hc_r1_f1.1 hc_r1_f1.2.1 hc_r1_f1.2.2 (if_pos rfl)) f74_1310 (g := (mkF m 254 #[.val (.int p0), .val (.int p1), .val (.long p2), .second, .val (.long p3), .second, .val (.int ip), .val (.int lp), .val (.int (1 : Int32)), .val (.ref b61), .val (.int r1), .val (.int f1), .val (.int r2), .val (.int f2), .val (.int r3), .val (.int f3), .val (.int (1 : Int32)), .val (.int (0 : Int32)), .val (.int (0 : Int32)), .val (.long p2), .second, .val (.long (0 : Int64)), .second, .unset, .unset, .unset, .unset, .unset, .unset] [(.int f1), (.int r1), (.ref b61)])) rfl (by rw [hml]; rfl) (argsL := [(.int r1), (.int f1)]) (rest := []) (lenOf pd6 rfl) rfl (hb hby at_254) rfl (by decide) (Nat.le_of_ble_eq_true rfl) (k' := 7) (n' := 504) rfl rfl (by decide) (by decide)
                refine Go.by st90 ?_
                obtain ⟨rfl, rfl⟩ := q90
                show Go p.tables e below _ (T90.setTop (mkF m 257 #[.val (.int p0), .val (.int p1), .val (.long p2), .second, .val (.long p3), .second, .val (.int ip), .val (.int lp), .val (.int (1 : Int32)), .val (.ref b61), .val (.int r1), .val (.int f1), .val (.int r2), .val (.int f2), .val (.int r3), .val (.int f3), .val (.int (1 : Int32)), .val (.int (0 : Int32)), .val (.int (0 : Int32)), .val (.long p2), .second, .val (.long (0 : Int64)), .second, .unset, .unset, .unset, .unset, .unset, .unset] [(.long p2)]))
                refine Go.by (fun _ => XS.lstore X90.here hx rfl (hb hby at_257) rfl (l' := #[.val (.int p0), .val (.int p1), .val (.long p2), .second, .val (.long p3), .second, .val (.int ip), .val (.int lp), .val (.int (1 : Int32)), .val (.ref b61), .val (.int r1), .val (.int f1), .val (.int r2), .val (.int f2), .val (.int r3), .val (.int f3), .val (.int (1 : Int32)), .val (.int (0 : Int32)), .val (.int (0 : Int32)), .val (.long p2), .second, .val (.long (0 : Int64)), .second, .val (.long p2), .second, .unset, .unset, .unset, .unset]) rfl) ?_
                show Go p.tables e below _ (T90.setTop (mkF m 259 #[.val (.int p0), .val (.int p1), .val (.long p2), .second, .val (.long p3), .second, .val (.int ip), .val (.int lp), .val (.int (1 : Int32)), .val (.ref b61), .val (.int r1), .val (.int f1), .val (.int r2), .val (.int f2), .val (.int r3), .val (.int f3), .val (.int (1 : Int32)), .val (.int (0 : Int32)), .val (.int (0 : Int32)), .val (.long p2), .second, .val (.long (0 : Int64)), .second, .val (.long p2), .second, .unset, .unset, .unset, .unset] []))
                refine Go.by (fun _ => XS.aload X90.here hx rfl (hb hby at_259) rfl rfl) ?_
                refine Go.by (fun _ => XS.iload X90.here hx rfl (hb hby at_261) rfl) ?_
                show Go p.tables e below _ (T90.setTop (mkF m 263 #[.val (.int p0), .val (.int p1), .val (.long p2), .second, .val (.long p3), .second, .val (.int ip), .val (.int lp), .val (.int (1 : Int32)), .val (.ref b61), .val (.int r1), .val (.int f1), .val (.int r2), .val (.int f2), .val (.int r3), .val (.int f3), .val (.int (1 : Int32)), .val (.int (0 : Int32)), .val (.int (0 : Int32)), .val (.long p2), .second, .val (.long (0 : Int64)), .second, .val (.long p2), .second, .unset, .unset, .unset, .unset] [(.int r2), (.ref b61)]))
                refine Go.by (fun _ => XS.iload X90.here hx rfl (hb hby at_263) rfl) ?_
                obtain ⟨v91, T91, h91, X91, q91, st91⟩ := X90.callV hx hZ (y := (⟨"com/example/spotline/spotline/engine/Table", "getLong", "(II)J"⟩ : MethodName)) (z := (⟨"com/example/spotline/spotline/engine/Table", "getLong", "(II)J"⟩ : MethodName)) hown (tw hw 65 rfl) (tw hw 66 rfl) (notFace_of_selects (args := #[]) (mvT hZ (tw hw 68 rfl))) (tw hw 68 rfl) (tw hw 67 rfl) (tw hw 3 rfl) (tw hw 69 rfl) (by decide) (rm9 l Z a0 hw [] b61 r2 f2 oL63 dL65 kL63 kdL65 ip (((64 : Int32) * ip).toNatClampNeg) (fun i => if i = 0 then (.ref dL65) else .null) (fun t => if t = ((((r1 &&& (65535 : Int32)) * ip) + f1).toNatClampNeg) then (.long p2) else (fun t => if t = ((((r2 &&& (65535 : Int32)) * ip) + f2).toNatClampNeg) then (.long p3) else (fun _ => (.long 0)) t) t) p2 h73 n0 Zs74 f74_1315 f74_1318 f74_1311 rfl V73 hc_r2_f2.1 hc_r2_f2.2.1 hc_r2_f2.2.2 (if_pos (by rw [hP16.1, hP16.2]))) f74_1310 (g := (mkF m 265 #[.val (.int p0), .val (.int p1), .val (.long p2), .second, .val (.long p3), .second, .val (.int ip), .val (.int lp), .val (.int (1 : Int32)), .val (.ref b61), .val (.int r1), .val (.int f1), .val (.int r2), .val (.int f2), .val (.int r3), .val (.int f3), .val (.int (1 : Int32)), .val (.int (0 : Int32)), .val (.int (0 : Int32)), .val (.long p2), .second, .val (.long (0 : Int64)), .second, .val (.long p2), .second, .unset, .unset, .unset, .unset] [(.int f2), (.int r2), (.ref b61)])) rfl (by rw [hml]; rfl) (argsL := [(.int r2), (.int f2)]) (rest := []) (lenOf pd6 rfl) rfl (hb hby at_265) rfl (by decide) (Nat.le_of_ble_eq_true rfl) (k' := 7) (n' := 504) rfl rfl (by decide) (by decide)
                refine Go.by st91 ?_
                obtain ⟨rfl, rfl⟩ := q91
                show Go p.tables e below _ (T91.setTop (mkF m 268 #[.val (.int p0), .val (.int p1), .val (.long p2), .second, .val (.long p3), .second, .val (.int ip), .val (.int lp), .val (.int (1 : Int32)), .val (.ref b61), .val (.int r1), .val (.int f1), .val (.int r2), .val (.int f2), .val (.int r3), .val (.int f3), .val (.int (1 : Int32)), .val (.int (0 : Int32)), .val (.int (0 : Int32)), .val (.long p2), .second, .val (.long (0 : Int64)), .second, .val (.long p2), .second, .unset, .unset, .unset, .unset] [(.long p2)]))
                refine Go.by (fun _ => XS.lstore X91.here hx rfl (hb hby at_268) rfl (l' := #[.val (.int p0), .val (.int p1), .val (.long p2), .second, .val (.long p3), .second, .val (.int ip), .val (.int lp), .val (.int (1 : Int32)), .val (.ref b61), .val (.int r1), .val (.int f1), .val (.int r2), .val (.int f2), .val (.int r3), .val (.int f3), .val (.int (1 : Int32)), .val (.int (0 : Int32)), .val (.int (0 : Int32)), .val (.long p2), .second, .val (.long (0 : Int64)), .second, .val (.long p2), .second, .val (.long p2), .second, .unset, .unset]) rfl) ?_
                show Go p.tables e below _ (T91.setTop (mkF m 270 #[.val (.int p0), .val (.int p1), .val (.long p2), .second, .val (.long p3), .second, .val (.int ip), .val (.int lp), .val (.int (1 : Int32)), .val (.ref b61), .val (.int r1), .val (.int f1), .val (.int r2), .val (.int f2), .val (.int r3), .val (.int f3), .val (.int (1 : Int32)), .val (.int (0 : Int32)), .val (.int (0 : Int32)), .val (.long p2), .second, .val (.long (0 : Int64)), .second, .val (.long p2), .second, .val (.long p2), .second, .unset, .unset] []))
                refine Go.by (fun _ => XS.aload X91.here hx rfl (hb hby at_270) rfl rfl) ?_
                refine Go.by (fun _ => XS.iload X91.here hx rfl (hb hby at_272) rfl) ?_
                refine Go.by (fun _ => XS.iload X91.here hx rfl (hb hby at_274) rfl) ?_
                obtain ⟨v92, T92, h92, X92, q92, st92⟩ := X91.callV hx hZ (y := (⟨"com/example/spotline/spotline/engine/Table", "getLong", "(II)J"⟩ : MethodName)) (z := (⟨"com/example/spotline/spotline/engine/Table", "getLong", "(II)J"⟩ : MethodName)) hown (tw hw 65 rfl) (tw hw 66 rfl) (notFace_of_selects (args := #[]) (mvT hZ (tw hw 68 rfl))) (tw hw 68 rfl) (tw hw 67 rfl) (tw hw 3 rfl) (tw hw 69 rfl) (by decide) (rm9 l Z a0 hw [] b61 r3 f3 oL63 dL65 kL63 kdL65 ip (((64 : Int32) * ip).toNatClampNeg) (fun i => if i = 0 then (.ref dL65) else .null) (fun t => if t = ((((r1 &&& (65535 : Int32)) * ip) + f1).toNatClampNeg) then (.long p2) else (fun t => if t = ((((r2 &&& (65535 : Int32)) * ip) + f2).toNatClampNeg) then (.long p3) else (fun _ => (.long 0)) t) t) (0 : Int64) h73 n0 Zs74 f74_1315 f74_1318 f74_1311 rfl V73 hc_r3_f3.1 hc_r3_f3.2.1 hc_r3_f3.2.2 ((if_neg (fun q => hP17 ⟨(own_same h_r3.1 h_r3.2 hip1 hip2 h_f3.1 h_f3.2 h_r1.1 h_r1.2 h_f1.1 h_f1.2 q).1.symm, (own_same h_r3.1 h_r3.2 hip1 hip2 h_f3.1 h_f3.2 h_r1.1 h_r1.2 h_f1.1 h_f1.2 q).2.symm⟩)).trans ((if_neg (fun q => hP18 ⟨(own_same h_r3.1 h_r3.2 hip1 hip2 h_f3.1 h_f3.2 h_r2.1 h_r2.2 h_f2.1 h_f2.2 q).1.symm, (own_same h_r3.1 h_r3.2 hip1 hip2 h_f3.1 h_f3.2 h_r2.1 h_r2.2 h_f2.1 h_f2.2 q).2.symm⟩)).trans rfl))) f74_1310 (g := (mkF m 276 #[.val (.int p0), .val (.int p1), .val (.long p2), .second, .val (.long p3), .second, .val (.int ip), .val (.int lp), .val (.int (1 : Int32)), .val (.ref b61), .val (.int r1), .val (.int f1), .val (.int r2), .val (.int f2), .val (.int r3), .val (.int f3), .val (.int (1 : Int32)), .val (.int (0 : Int32)), .val (.int (0 : Int32)), .val (.long p2), .second, .val (.long (0 : Int64)), .second, .val (.long p2), .second, .val (.long p2), .second, .unset, .unset] [(.int f3), (.int r3), (.ref b61)])) rfl (by rw [hml]; rfl) (argsL := [(.int r3), (.int f3)]) (rest := []) (lenOf pd6 rfl) rfl (hb hby at_276) rfl (by decide) (Nat.le_of_ble_eq_true rfl) (k' := 7) (n' := 504) rfl rfl (by decide) (by decide)
                refine Go.by st92 ?_
                obtain ⟨rfl, rfl⟩ := q92
                show Go p.tables e below _ (T92.setTop (mkF m 279 #[.val (.int p0), .val (.int p1), .val (.long p2), .second, .val (.long p3), .second, .val (.int ip), .val (.int lp), .val (.int (1 : Int32)), .val (.ref b61), .val (.int r1), .val (.int f1), .val (.int r2), .val (.int f2), .val (.int r3), .val (.int f3), .val (.int (1 : Int32)), .val (.int (0 : Int32)), .val (.int (0 : Int32)), .val (.long p2), .second, .val (.long (0 : Int64)), .second, .val (.long p2), .second, .val (.long p2), .second, .unset, .unset] [(.long (0 : Int64))]))
                refine Go.by (fun _ => XS.lstore X92.here hx rfl (hb hby at_279) rfl (l' := #[.val (.int p0), .val (.int p1), .val (.long p2), .second, .val (.long p3), .second, .val (.int ip), .val (.int lp), .val (.int (1 : Int32)), .val (.ref b61), .val (.int r1), .val (.int f1), .val (.int r2), .val (.int f2), .val (.int r3), .val (.int f3), .val (.int (1 : Int32)), .val (.int (0 : Int32)), .val (.int (0 : Int32)), .val (.long p2), .second, .val (.long (0 : Int64)), .second, .val (.long p2), .second, .val (.long p2), .second, .val (.long (0 : Int64)), .second]) rfl) ?_
                show Go p.tables e below _ (T92.setTop (mkF m 281 #[.val (.int p0), .val (.int p1), .val (.long p2), .second, .val (.long p3), .second, .val (.int ip), .val (.int lp), .val (.int (1 : Int32)), .val (.ref b61), .val (.int r1), .val (.int f1), .val (.int r2), .val (.int f2), .val (.int r3), .val (.int f3), .val (.int (1 : Int32)), .val (.int (0 : Int32)), .val (.int (0 : Int32)), .val (.long p2), .second, .val (.long (0 : Int64)), .second, .val (.long p2), .second, .val (.long p2), .second, .val (.long (0 : Int64)), .second] []))
                refine Go.by (fun _ => XS.lload X92.here hx rfl (hb hby at_281) rfl) ?_
                refine Go.by (fun _ => XS.lloadN X92.here hx rfl (hb hby at_283) rfl) ?_
                refine Go.by (fun _ => XS.lcmp X92.here hx rfl (hb hby at_284) rfl) ?_
                show Go p.tables e below _ (T92.setTop (mkF m 285 #[.val (.int p0), .val (.int p1), .val (.long p2), .second, .val (.long p3), .second, .val (.int ip), .val (.int lp), .val (.int (1 : Int32)), .val (.ref b61), .val (.int r1), .val (.int f1), .val (.int r2), .val (.int f2), .val (.int r3), .val (.int f3), .val (.int (1 : Int32)), .val (.int (0 : Int32)), .val (.int (0 : Int32)), .val (.long p2), .second, .val (.long (0 : Int64)), .second, .val (.long p2), .second, .val (.long p2), .second, .val (.long (0 : Int64)), .second] [(.int (lcmpW p2 p2))]))
                refine Go.by (fun _ => XS.ifNo X92.here hx rfl (hb hby at_285) rfl ((if0 _ _).trans (teq ((lw_eq _ _).mpr rfl)).2)) ?_
                show Go p.tables e below _ (T92.setTop (mkF m 288 #[.val (.int p0), .val (.int p1), .val (.long p2), .second, .val (.long p3), .second, .val (.int ip), .val (.int lp), .val (.int (1 : Int32)), .val (.ref b61), .val (.int r1), .val (.int f1), .val (.int r2), .val (.int f2), .val (.int r3), .val (.int f3), .val (.int (1 : Int32)), .val (.int (0 : Int32)), .val (.int (0 : Int32)), .val (.long p2), .second, .val (.long (0 : Int64)), .second, .val (.long p2), .second, .val (.long p2), .second, .val (.long (0 : Int64)), .second] []))
                refine Go.by (fun _ => XS.lload X92.here hx rfl (hb hby at_288) rfl) ?_
                refine Go.by (fun _ => XS.lload X92.here hx rfl (hb hby at_290) rfl) ?_
                refine Go.by (fun _ => XS.lcmp X92.here hx rfl (hb hby at_292) rfl) ?_
                show Go p.tables e below _ (T92.setTop (mkF m 293 #[.val (.int p0), .val (.int p1), .val (.long p2), .second, .val (.long p3), .second, .val (.int ip), .val (.int lp), .val (.int (1 : Int32)), .val (.ref b61), .val (.int r1), .val (.int f1), .val (.int r2), .val (.int f2), .val (.int r3), .val (.int f3), .val (.int (1 : Int32)), .val (.int (0 : Int32)), .val (.int (0 : Int32)), .val (.long p2), .second, .val (.long (0 : Int64)), .second, .val (.long p2), .second, .val (.long p2), .second, .val (.long (0 : Int64)), .second] [(.int (lcmpW p2 p2))]))
                refine Go.by (fun _ => XS.ifNo X92.here hx rfl (hb hby at_293) rfl ((if0 _ _).trans (teq ((lw_eq _ _).mpr rfl)).2)) ?_
                show Go p.tables e below _ (T92.setTop (mkF m 296 #[.val (.int p0), .val (.int p1), .val (.long p2), .second, .val (.long p3), .second, .val (.int ip), .val (.int lp), .val (.int (1 : Int32)), .val (.ref b61), .val (.int r1), .val (.int f1), .val (.int r2), .val (.int f2), .val (.int r3), .val (.int f3), .val (.int (1 : Int32)), .val (.int (0 : Int32)), .val (.int (0 : Int32)), .val (.long p2), .second, .val (.long (0 : Int64)), .second, .val (.long p2), .second, .val (.long p2), .second, .val (.long (0 : Int64)), .second] []))
                refine Go.by (fun _ => XS.lload X92.here hx rfl (hb hby at_296) rfl) ?_
                refine Go.by (fun _ => XS.lload X92.here hx rfl (hb hby at_298) rfl) ?_
                refine Go.by (fun _ => XS.lcmp X92.here hx rfl (hb hby at_300) rfl) ?_
                show Go p.tables e below _ (T92.setTop (mkF m 301 #[.val (.int p0), .val (.int p1), .val (.long p2), .second, .val (.long p3), .second, .val (.int ip), .val (.int lp), .val (.int (1 : Int32)), .val (.ref b61), .val (.int r1), .val (.int f1), .val (.int r2), .val (.int f2), .val (.int r3), .val (.int f3), .val (.int (1 : Int32)), .val (.int (0 : Int32)), .val (.int (0 : Int32)), .val (.long p2), .second, .val (.long (0 : Int64)), .second, .val (.long p2), .second, .val (.long p2), .second, .val (.long (0 : Int64)), .second] [(.int (lcmpW (0 : Int64) (0 : Int64)))]))
                refine Go.by (fun _ => XS.ifNo X92.here hx rfl (hb hby at_301) rfl ((if0 _ _).trans (teq ((lw_eq _ _).mpr rfl)).2)) ?_
                show Go p.tables e below _ (T92.setTop (mkF m 304 #[.val (.int p0), .val (.int p1), .val (.long p2), .second, .val (.long p3), .second, .val (.int ip), .val (.int lp), .val (.int (1 : Int32)), .val (.ref b61), .val (.int r1), .val (.int f1), .val (.int r2), .val (.int f2), .val (.int r3), .val (.int f3), .val (.int (1 : Int32)), .val (.int (0 : Int32)), .val (.int (0 : Int32)), .val (.long p2), .second, .val (.long (0 : Int64)), .second, .val (.long p2), .second, .val (.long p2), .second, .val (.long (0 : Int64)), .second] []))
                refine Go.by (fun _ => XS.iconst X92.here hx rfl (hb hby at_304)) ?_
                refine Go.by (fun _ => XS.goto X92.here hx rfl (pc0 := 305) (pc' := 309) rfl (hb hby at_305) (by decide) (by decide)) ?_
                show Go p.tables e below _ (T92.setTop (mkF m 309 #[.val (.int p0), .val (.int p1), .val (.long p2), .second, .val (.long p3), .second, .val (.int ip), .val (.int lp), .val (.int (1 : Int32)), .val (.ref b61), .val (.int r1), .val (.int f1), .val (.int r2), .val (.int f2), .val (.int r3), .val (.int f3), .val (.int (1 : Int32)), .val (.int (0 : Int32)), .val (.int (0 : Int32)), .val (.long p2), .second, .val (.long (0 : Int64)), .second, .val (.long p2), .second, .val (.long p2), .second, .val (.long (0 : Int64)), .second] [(.int (1 : Int32))]))
                exact Go.retN X92 hx hlk (z' := (1 : Int32)) hret (by simp) (hb hby at_309) rfl (by decide) (by decide) rfl
            refine Go.by (fun _ => XS.iload Xj76.here hx rfl (hb hby at_192) rfl) ?_
            refine Go.by (fun _ => XS.iload Xj76.here hx rfl (hb hby at_194) rfl) ?_
            show Go p.tables e below _ (Tj76.setTop (mkF m 196 #[.val (.int p0), .val (.int p1), .val (.long p2), .second, .val (.long p3), .second, .val (.int ip), .val (.int lp), .val (.int (1 : Int32)), .val (.ref b61), .val (.int r1), .val (.int f1), .val (.int r2), .val (.int f2), .val (.int r3), .val (.int f3), .val (.int (1 : Int32)), .val (.int (0 : Int32)), .unset, .unset, .unset, .unset, .unset, .unset, .unset, .unset, .unset, .unset, .unset] [(.int r3), (.int r2)]))
            by_cases hc196_93 : r2 = r3
            · skip
              refine Go.by (fun _ => XS.icmpNo Xj76.here hx rfl (hb hby at_196) rfl (teq hc196_93).2) ?_
              show Go p.tables e below _ (Tj76.setTop (mkF m 199 #[.val (.int p0), .val (.int p1), .val (.long p2), .second, .val (.long p3), .second, .val (.int ip), .val (.int lp), .val (.int (1 : Int32)), .val (.ref b61), .val (.int r1), .val (.int f1), .val (.int r2), .val (.int f2), .val (.int r3), .val (.int f3), .val (.int (1 : Int32)), .val (.int (0 : Int32)), .unset, .unset, .unset, .unset, .unset, .unset, .unset, .unset, .unset, .unset, .unset] []))
              refine Go.by (fun _ => XS.iload Xj76.here hx rfl (hb hby at_199) rfl) ?_
              refine Go.by (fun _ => XS.iload Xj76.here hx rfl (hb hby at_201) rfl) ?_
              by_cases hc203_94 : f2 = f3
              · skip
                refine Go.by (fun _ => XS.icmpNo Xj76.here hx rfl (hb hby at_203) rfl (teq hc203_94).2) ?_
                show Go p.tables e below _ (Tj76.setTop (mkF m 206 #[.val (.int p0), .val (.int p1), .val (.long p2), .second, .val (.long p3), .second, .val (.int ip), .val (.int lp), .val (.int (1 : Int32)), .val (.ref b61), .val (.int r1), .val (.int f1), .val (.int r2), .val (.int f2), .val (.int r3), .val (.int f3), .val (.int (1 : Int32)), .val (.int (0 : Int32)), .unset, .unset, .unset, .unset, .unset, .unset, .unset, .unset, .unset, .unset, .unset] []))
                refine Go.by (fun _ => XS.iconst Xj76.here hx rfl (hb hby at_206)) ?_
                refine Go.by (fun _ => XS.goto Xj76.here hx rfl (pc0 := 207) (pc' := 211) rfl (hb hby at_207) (by decide) (by decide)) ?_
                show Go p.tables e below _ (Tj76.setTop (mkF m 211 #[.val (.int p0), .val (.int p1), .val (.long p2), .second, .val (.long p3), .second, .val (.int ip), .val (.int lp), .val (.int (1 : Int32)), .val (.ref b61), .val (.int r1), .val (.int f1), .val (.int r2), .val (.int f2), .val (.int r3), .val (.int f3), .val (.int (1 : Int32)), .val (.int (0 : Int32)), .unset, .unset, .unset, .unset, .unset, .unset, .unset, .unset, .unset, .unset, .unset] [(.int (1 : Int32))]))
                exact J86 _ Xj76 _ (Or.inl ⟨rfl, hc196_93, hc203_94⟩)
              · skip
                refine Go.by (fun _ => XS.icmpYes Xj76.here hx rfl (pc0 := 203) (pc' := 210) rfl (hb hby at_203) rfl (feq hc203_94).2 (by decide) (by decide)) ?_
                show Go p.tables e below _ (Tj76.setTop (mkF m 210 #[.val (.int p0), .val (.int p1), .val (.long p2), .second, .val (.long p3), .second, .val (.int ip), .val (.int lp), .val (.int (1 : Int32)), .val (.ref b61), .val (.int r1), .val (.int f1), .val (.int r2), .val (.int f2), .val (.int r3), .val (.int f3), .val (.int (1 : Int32)), .val (.int (0 : Int32)), .unset, .unset, .unset, .unset, .unset, .unset, .unset, .unset, .unset, .unset, .unset] []))
                refine Go.by (fun _ => XS.iconst Xj76.here hx rfl (hb hby at_210)) ?_
                show Go p.tables e below _ (Tj76.setTop (mkF m 211 #[.val (.int p0), .val (.int p1), .val (.long p2), .second, .val (.long p3), .second, .val (.int ip), .val (.int lp), .val (.int (1 : Int32)), .val (.ref b61), .val (.int r1), .val (.int f1), .val (.int r2), .val (.int f2), .val (.int r3), .val (.int f3), .val (.int (1 : Int32)), .val (.int (0 : Int32)), .unset, .unset, .unset, .unset, .unset, .unset, .unset, .unset, .unset, .unset, .unset] [(.int (0 : Int32))]))
                exact J86 _ Xj76 _ (Or.inr ⟨rfl, fun q => hc203_94 q.2⟩)
            · skip
              refine Go.by (fun _ => XS.icmpYes Xj76.here hx rfl (pc0 := 196) (pc' := 210) rfl (hb hby at_196) rfl (feq hc196_93).2 (by decide) (by decide)) ?_
              show Go p.tables e below _ (Tj76.setTop (mkF m 210 #[.val (.int p0), .val (.int p1), .val (.long p2), .second, .val (.long p3), .second, .val (.int ip), .val (.int lp), .val (.int (1 : Int32)), .val (.ref b61), .val (.int r1), .val (.int f1), .val (.int r2), .val (.int f2), .val (.int r3), .val (.int f3), .val (.int (1 : Int32)), .val (.int (0 : Int32)), .unset, .unset, .unset, .unset, .unset, .unset, .unset, .unset, .unset, .unset, .unset] []))
              refine Go.by (fun _ => XS.iconst Xj76.here hx rfl (hb hby at_210)) ?_
              show Go p.tables e below _ (Tj76.setTop (mkF m 211 #[.val (.int p0), .val (.int p1), .val (.long p2), .second, .val (.long p3), .second, .val (.int ip), .val (.int lp), .val (.int (1 : Int32)), .val (.ref b61), .val (.int r1), .val (.int f1), .val (.int r2), .val (.int f2), .val (.int r3), .val (.int f3), .val (.int (1 : Int32)), .val (.int (0 : Int32)), .unset, .unset, .unset, .unset, .unset, .unset, .unset, .unset, .unset, .unset, .unset] [(.int (0 : Int32))]))
              exact J86 _ Xj76 _ (Or.inr ⟨rfl, fun q => hc196_93 q.1⟩)
        refine Go.by (fun _ => XS.iload Xj75.here hx rfl (hb hby at_171) rfl) ?_
        show Go p.tables e below _ (Tj75.setTop (mkF m 173 #[.val (.int p0), .val (.int p1), .val (.long p2), .second, .val (.long p3), .second, .val (.int ip), .val (.int lp), .val (.int (1 : Int32)), .val (.ref b61), .val (.int r1), .val (.int f1), .val (.int r2), .val (.int f2), .val (.int r3), .val (.int f3), .val (.int (1 : Int32)), .unset, .unset, .unset, .unset, .unset, .unset, .unset, .unset, .unset, .unset, .unset, .unset] [(.int r1)]))
        refine Go.by (fun _ => XS.iload Xj75.here hx rfl (hb hby at_173) rfl) ?_
        by_cases hc175_95 : r1 = r3
        · skip
          refine Go.by (fun _ => XS.icmpNo Xj75.here hx rfl (hb hby at_175) rfl (teq hc175_95).2) ?_
          show Go p.tables e below _ (Tj75.setTop (mkF m 178 #[.val (.int p0), .val (.int p1), .val (.long p2), .second, .val (.long p3), .second, .val (.int ip), .val (.int lp), .val (.int (1 : Int32)), .val (.ref b61), .val (.int r1), .val (.int f1), .val (.int r2), .val (.int f2), .val (.int r3), .val (.int f3), .val (.int (1 : Int32)), .unset, .unset, .unset, .unset, .unset, .unset, .unset, .unset, .unset, .unset, .unset, .unset] []))
          refine Go.by (fun _ => XS.iload Xj75.here hx rfl (hb hby at_178) rfl) ?_
          refine Go.by (fun _ => XS.iload Xj75.here hx rfl (hb hby at_180) rfl) ?_
          by_cases hc182_96 : f1 = f3
          · skip
            refine Go.by (fun _ => XS.icmpNo Xj75.here hx rfl (hb hby at_182) rfl (teq hc182_96).2) ?_
            show Go p.tables e below _ (Tj75.setTop (mkF m 185 #[.val (.int p0), .val (.int p1), .val (.long p2), .second, .val (.long p3), .second, .val (.int ip), .val (.int lp), .val (.int (1 : Int32)), .val (.ref b61), .val (.int r1), .val (.int f1), .val (.int r2), .val (.int f2), .val (.int r3), .val (.int f3), .val (.int (1 : Int32)), .unset, .unset, .unset, .unset, .unset, .unset, .unset, .unset, .unset, .unset, .unset, .unset] []))
            refine Go.by (fun _ => XS.iconst Xj75.here hx rfl (hb hby at_185)) ?_
            refine Go.by (fun _ => XS.goto Xj75.here hx rfl (pc0 := 186) (pc' := 190) rfl (hb hby at_186) (by decide) (by decide)) ?_
            show Go p.tables e below _ (Tj75.setTop (mkF m 190 #[.val (.int p0), .val (.int p1), .val (.long p2), .second, .val (.long p3), .second, .val (.int ip), .val (.int lp), .val (.int (1 : Int32)), .val (.ref b61), .val (.int r1), .val (.int f1), .val (.int r2), .val (.int f2), .val (.int r3), .val (.int f3), .val (.int (1 : Int32)), .unset, .unset, .unset, .unset, .unset, .unset, .unset, .unset, .unset, .unset, .unset, .unset] [(.int (1 : Int32))]))
            exact J76 _ Xj75 _ (Or.inl ⟨rfl, hc175_95, hc182_96⟩)
          · skip
            refine Go.by (fun _ => XS.icmpYes Xj75.here hx rfl (pc0 := 182) (pc' := 189) rfl (hb hby at_182) rfl (feq hc182_96).2 (by decide) (by decide)) ?_
            show Go p.tables e below _ (Tj75.setTop (mkF m 189 #[.val (.int p0), .val (.int p1), .val (.long p2), .second, .val (.long p3), .second, .val (.int ip), .val (.int lp), .val (.int (1 : Int32)), .val (.ref b61), .val (.int r1), .val (.int f1), .val (.int r2), .val (.int f2), .val (.int r3), .val (.int f3), .val (.int (1 : Int32)), .unset, .unset, .unset, .unset, .unset, .unset, .unset, .unset, .unset, .unset, .unset, .unset] []))
            refine Go.by (fun _ => XS.iconst Xj75.here hx rfl (hb hby at_189)) ?_
            show Go p.tables e below _ (Tj75.setTop (mkF m 190 #[.val (.int p0), .val (.int p1), .val (.long p2), .second, .val (.long p3), .second, .val (.int ip), .val (.int lp), .val (.int (1 : Int32)), .val (.ref b61), .val (.int r1), .val (.int f1), .val (.int r2), .val (.int f2), .val (.int r3), .val (.int f3), .val (.int (1 : Int32)), .unset, .unset, .unset, .unset, .unset, .unset, .unset, .unset, .unset, .unset, .unset, .unset] [(.int (0 : Int32))]))
            exact J76 _ Xj75 _ (Or.inr ⟨rfl, fun q => hc182_96 q.2⟩)
        · skip
          refine Go.by (fun _ => XS.icmpYes Xj75.here hx rfl (pc0 := 175) (pc' := 189) rfl (hb hby at_175) rfl (feq hc175_95).2 (by decide) (by decide)) ?_
          show Go p.tables e below _ (Tj75.setTop (mkF m 189 #[.val (.int p0), .val (.int p1), .val (.long p2), .second, .val (.long p3), .second, .val (.int ip), .val (.int lp), .val (.int (1 : Int32)), .val (.ref b61), .val (.int r1), .val (.int f1), .val (.int r2), .val (.int f2), .val (.int r3), .val (.int f3), .val (.int (1 : Int32)), .unset, .unset, .unset, .unset, .unset, .unset, .unset, .unset, .unset, .unset, .unset, .unset] []))
          refine Go.by (fun _ => XS.iconst Xj75.here hx rfl (hb hby at_189)) ?_
          show Go p.tables e below _ (Tj75.setTop (mkF m 190 #[.val (.int p0), .val (.int p1), .val (.long p2), .second, .val (.long p3), .second, .val (.int ip), .val (.int lp), .val (.int (1 : Int32)), .val (.ref b61), .val (.int r1), .val (.int f1), .val (.int r2), .val (.int f2), .val (.int r3), .val (.int f3), .val (.int (1 : Int32)), .unset, .unset, .unset, .unset, .unset, .unset, .unset, .unset, .unset, .unset, .unset, .unset] [(.int (0 : Int32))]))
          exact J76 _ Xj75 _ (Or.inr ⟨rfl, fun q => hc175_95 q.1⟩)
      · skip
        show Go p.tables e below _ (Tj75.setTop (mkF m 169 #[.val (.int p0), .val (.int p1), .val (.long p2), .second, .val (.long p3), .second, .val (.int ip), .val (.int lp), .val (.int (1 : Int32)), .val (.ref b61), .val (.int r1), .val (.int f1), .val (.int r2), .val (.int f2), .val (.int r3), .val (.int f3), .unset, .unset, .unset, .unset, .unset, .unset, .unset, .unset, .unset, .unset, .unset, .unset, .unset] [(.int (0 : Int32))]))
        refine Go.by (fun _ => XS.istore Xj75.here hx rfl (hb hby at_169) rfl (l' := #[.val (.int p0), .val (.int p1), .val (.long p2), .second, .val (.long p3), .second, .val (.int ip), .val (.int lp), .val (.int (1 : Int32)), .val (.ref b61), .val (.int r1), .val (.int f1), .val (.int r2), .val (.int f2), .val (.int r3), .val (.int f3), .val (.int (0 : Int32)), .unset, .unset, .unset, .unset, .unset, .unset, .unset, .unset, .unset, .unset, .unset, .unset]) rfl) ?_
        show Go p.tables e below _ (Tj75.setTop (mkF m 171 #[.val (.int p0), .val (.int p1), .val (.long p2), .second, .val (.long p3), .second, .val (.int ip), .val (.int lp), .val (.int (1 : Int32)), .val (.ref b61), .val (.int r1), .val (.int f1), .val (.int r2), .val (.int f2), .val (.int r3), .val (.int f3), .val (.int (0 : Int32)), .unset, .unset, .unset, .unset, .unset, .unset, .unset, .unset, .unset, .unset, .unset, .unset] []))
        have J97 : ∀ (Tj97 : State), Sd n0 p l e room_1 s m #[(.int p0), (.int p1), (.long p2), (.long p3)] below meth c Tj97 h73 7 504 → ∀ (jb : Int32), ((jb = 1 ∧ r1 = r3 ∧ f1 = f3) ∨ (jb = 0 ∧ ¬ (r1 = r3 ∧ f1 = f3))) → Go p.tables e below (Ret s n0 (fun v h => v = some (.int 1)) room_1.cells room_1.slots) (Tj97.setTop (mkF m 190 #[.val (.int p0), .val (.int p1), .val (.long p2), .second, .val (.long p3), .second, .val (.int ip), .val (.int lp), .val (.int (1 : Int32)), .val (.ref b61), .val (.int r1), .val (.int f1), .val (.int r2), .val (.int f2), .val (.int r3), .val (.int f3), .val (.int (0 : Int32)), .unset, .unset, .unset, .unset, .unset, .unset, .unset, .unset, .unset, .unset, .unset, .unset] [(.int jb)])) := by
          intro Tj97 Xj97 jb hj97
          rcases hj97 with ⟨rfl, hP17⟩ | ⟨rfl, hP17⟩
          · skip
            show Go p.tables e below _ (Tj97.setTop (mkF m 190 #[.val (.int p0), .val (.int p1), .val (.long p2), .second, .val (.long p3), .second, .val (.int ip), .val (.int lp), .val (.int (1 : Int32)), .val (.ref b61), .val (.int r1), .val (.int f1), .val (.int r2), .val (.int f2), .val (.int r3), .val (.int f3), .val (.int (0 : Int32)), .unset, .unset, .unset, .unset, .unset, .unset, .unset, .unset, .unset, .unset, .unset, .unset] [(.int (1 : Int32))]))
            refine Go.by (fun _ => XS.istore Xj97.here hx rfl (hb hby at_190) rfl (l' := #[.val (.int p0), .val (.int p1), .val (.long p2), .second, .val (.long p3), .second, .val (.int ip), .val (.int lp), .val (.int (1 : Int32)), .val (.ref b61), .val (.int r1), .val (.int f1), .val (.int r2), .val (.int f2), .val (.int r3), .val (.int f3), .val (.int (0 : Int32)), .val (.int (1 : Int32)), .unset, .unset, .unset, .unset, .unset, .unset, .unset, .unset, .unset, .unset, .unset]) rfl) ?_
            show Go p.tables e below _ (Tj97.setTop (mkF m 192 #[.val (.int p0), .val (.int p1), .val (.long p2), .second, .val (.long p3), .second, .val (.int ip), .val (.int lp), .val (.int (1 : Int32)), .val (.ref b61), .val (.int r1), .val (.int f1), .val (.int r2), .val (.int f2), .val (.int r3), .val (.int f3), .val (.int (0 : Int32)), .val (.int (1 : Int32)), .unset, .unset, .unset, .unset, .unset, .unset, .unset, .unset, .unset, .unset, .unset] []))
            have J98 : ∀ (Tj98 : State), Sd n0 p l e room_1 s m #[(.int p0), (.int p1), (.long p2), (.long p3)] below meth c Tj98 h73 7 504 → ∀ (jb : Int32), ((jb = 1 ∧ r2 = r3 ∧ f2 = f3) ∨ (jb = 0 ∧ ¬ (r2 = r3 ∧ f2 = f3))) → Go p.tables e below (Ret s n0 (fun v h => v = some (.int 1)) room_1.cells room_1.slots) (Tj98.setTop (mkF m 211 #[.val (.int p0), .val (.int p1), .val (.long p2), .second, .val (.long p3), .second, .val (.int ip), .val (.int lp), .val (.int (1 : Int32)), .val (.ref b61), .val (.int r1), .val (.int f1), .val (.int r2), .val (.int f2), .val (.int r3), .val (.int f3), .val (.int (0 : Int32)), .val (.int (1 : Int32)), .unset, .unset, .unset, .unset, .unset, .unset, .unset, .unset, .unset, .unset, .unset] [(.int jb)])) := by
              intro Tj98 Xj98 jb hj98
              rcases hj98 with ⟨rfl, hP18⟩ | ⟨rfl, hP18⟩
              · skip
                show Go p.tables e below _ (Tj98.setTop (mkF m 211 #[.val (.int p0), .val (.int p1), .val (.long p2), .second, .val (.long p3), .second, .val (.int ip), .val (.int lp), .val (.int (1 : Int32)), .val (.ref b61), .val (.int r1), .val (.int f1), .val (.int r2), .val (.int f2), .val (.int r3), .val (.int f3), .val (.int (0 : Int32)), .val (.int (1 : Int32)), .unset, .unset, .unset, .unset, .unset, .unset, .unset, .unset, .unset, .unset, .unset] [(.int (1 : Int32))]))
                refine Go.by (fun _ => XS.istore Xj98.here hx rfl (hb hby at_211) rfl (l' := #[.val (.int p0), .val (.int p1), .val (.long p2), .second, .val (.long p3), .second, .val (.int ip), .val (.int lp), .val (.int (1 : Int32)), .val (.ref b61), .val (.int r1), .val (.int f1), .val (.int r2), .val (.int f2), .val (.int r3), .val (.int f3), .val (.int (0 : Int32)), .val (.int (1 : Int32)), .val (.int (1 : Int32)), .unset, .unset, .unset, .unset, .unset, .unset, .unset, .unset, .unset, .unset]) rfl) ?_
                show Go p.tables e below _ (Tj98.setTop (mkF m 213 #[.val (.int p0), .val (.int p1), .val (.long p2), .second, .val (.long p3), .second, .val (.int ip), .val (.int lp), .val (.int (1 : Int32)), .val (.ref b61), .val (.int r1), .val (.int f1), .val (.int r2), .val (.int f2), .val (.int r3), .val (.int f3), .val (.int (0 : Int32)), .val (.int (1 : Int32)), .val (.int (1 : Int32)), .unset, .unset, .unset, .unset, .unset, .unset, .unset, .unset, .unset, .unset] []))
                refine Go.by (fun _ => XS.iload Xj98.here hx rfl (hb hby at_213) rfl) ?_
                refine Go.by (fun _ => XS.ifYes Xj98.here hx rfl (pc0 := 215) (pc' := 222) rfl (hb hby at_215) rfl ((if0 _ _).trans (teq (by decide)).1) (by decide) (by decide)) ?_
                show Go p.tables e below _ (Tj98.setTop (mkF m 222 #[.val (.int p0), .val (.int p1), .val (.long p2), .second, .val (.long p3), .second, .val (.int ip), .val (.int lp), .val (.int (1 : Int32)), .val (.ref b61), .val (.int r1), .val (.int f1), .val (.int r2), .val (.int f2), .val (.int r3), .val (.int f3), .val (.int (0 : Int32)), .val (.int (1 : Int32)), .val (.int (1 : Int32)), .unset, .unset, .unset, .unset, .unset, .unset, .unset, .unset, .unset, .unset] []))
                refine Go.by (fun _ => XS.lload Xj98.here hx rfl (hb hby at_222) rfl) ?_
                refine Go.by (fun _ => XS.lstore Xj98.here hx rfl (hb hby at_224) rfl (l' := #[.val (.int p0), .val (.int p1), .val (.long p2), .second, .val (.long p3), .second, .val (.int ip), .val (.int lp), .val (.int (1 : Int32)), .val (.ref b61), .val (.int r1), .val (.int f1), .val (.int r2), .val (.int f2), .val (.int r3), .val (.int f3), .val (.int (0 : Int32)), .val (.int (1 : Int32)), .val (.int (1 : Int32)), .val (.long p3), .second, .unset, .unset, .unset, .unset, .unset, .unset, .unset, .unset]) rfl) ?_
                show Go p.tables e below _ (Tj98.setTop (mkF m 226 #[.val (.int p0), .val (.int p1), .val (.long p2), .second, .val (.long p3), .second, .val (.int ip), .val (.int lp), .val (.int (1 : Int32)), .val (.ref b61), .val (.int r1), .val (.int f1), .val (.int r2), .val (.int f2), .val (.int r3), .val (.int f3), .val (.int (0 : Int32)), .val (.int (1 : Int32)), .val (.int (1 : Int32)), .val (.long p3), .second, .unset, .unset, .unset, .unset, .unset, .unset, .unset, .unset] []))
                refine Go.by (fun _ => XS.iload Xj98.here hx rfl (hb hby at_226) rfl) ?_
                refine Go.by (fun _ => XS.ifNo Xj98.here hx rfl (hb hby at_228) rfl ((if0 _ _).trans (feq (by decide)).1)) ?_
                show Go p.tables e below _ (Tj98.setTop (mkF m 231 #[.val (.int p0), .val (.int p1), .val (.long p2), .second, .val (.long p3), .second, .val (.int ip), .val (.int lp), .val (.int (1 : Int32)), .val (.ref b61), .val (.int r1), .val (.int f1), .val (.int r2), .val (.int f2), .val (.int r3), .val (.int f3), .val (.int (0 : Int32)), .val (.int (1 : Int32)), .val (.int (1 : Int32)), .val (.long p3), .second, .unset, .unset, .unset, .unset, .unset, .unset, .unset, .unset] []))
                refine Go.by (fun _ => XS.lloadN Xj98.here hx rfl (hb hby at_231) rfl) ?_
                refine Go.by (fun _ => XS.goto Xj98.here hx rfl (pc0 := 232) (pc' := 246) rfl (hb hby at_232) (by decide) (by decide)) ?_
                show Go p.tables e below _ (Tj98.setTop (mkF m 246 #[.val (.int p0), .val (.int p1), .val (.long p2), .second, .val (.long p3), .second, .val (.int ip), .val (.int lp), .val (.int (1 : Int32)), .val (.ref b61), .val (.int r1), .val (.int f1), .val (.int r2), .val (.int f2), .val (.int r3), .val (.int f3), .val (.int (0 : Int32)), .val (.int (1 : Int32)), .val (.int (1 : Int32)), .val (.long p3), .second, .unset, .unset, .unset, .unset, .unset, .unset, .unset, .unset] [(.long p2)]))
                refine Go.by (fun _ => XS.lstore Xj98.here hx rfl (hb hby at_246) rfl (l' := #[.val (.int p0), .val (.int p1), .val (.long p2), .second, .val (.long p3), .second, .val (.int ip), .val (.int lp), .val (.int (1 : Int32)), .val (.ref b61), .val (.int r1), .val (.int f1), .val (.int r2), .val (.int f2), .val (.int r3), .val (.int f3), .val (.int (0 : Int32)), .val (.int (1 : Int32)), .val (.int (1 : Int32)), .val (.long p3), .second, .val (.long p2), .second, .unset, .unset, .unset, .unset, .unset, .unset]) rfl) ?_
                show Go p.tables e below _ (Tj98.setTop (mkF m 248 #[.val (.int p0), .val (.int p1), .val (.long p2), .second, .val (.long p3), .second, .val (.int ip), .val (.int lp), .val (.int (1 : Int32)), .val (.ref b61), .val (.int r1), .val (.int f1), .val (.int r2), .val (.int f2), .val (.int r3), .val (.int f3), .val (.int (0 : Int32)), .val (.int (1 : Int32)), .val (.int (1 : Int32)), .val (.long p3), .second, .val (.long p2), .second, .unset, .unset, .unset, .unset, .unset, .unset] []))
                refine Go.by (fun _ => XS.aload Xj98.here hx rfl (hb hby at_248) rfl rfl) ?_
                refine Go.by (fun _ => XS.iload Xj98.here hx rfl (hb hby at_250) rfl) ?_
                refine Go.by (fun _ => XS.iload Xj98.here hx rfl (hb hby at_252) rfl) ?_
                show Go p.tables e below _ (Tj98.setTop (mkF m 254 #[.val (.int p0), .val (.int p1), .val (.long p2), .second, .val (.long p3), .second, .val (.int ip), .val (.int lp), .val (.int (1 : Int32)), .val (.ref b61), .val (.int r1), .val (.int f1), .val (.int r2), .val (.int f2), .val (.int r3), .val (.int f3), .val (.int (0 : Int32)), .val (.int (1 : Int32)), .val (.int (1 : Int32)), .val (.long p3), .second, .val (.long p2), .second, .unset, .unset, .unset, .unset, .unset, .unset] [(.int f1), (.int r1), (.ref b61)]))
                obtain ⟨v99, T99, h99, X99, q99, st99⟩ := Xj98.callV hx hZ (y := (⟨"com/example/spotline/spotline/engine/Table", "getLong", "(II)J"⟩ : MethodName)) (z := (⟨"com/example/spotline/spotline/engine/Table", "getLong", "(II)J"⟩ : MethodName)) hown (tw hw 65 rfl) (tw hw 66 rfl) (notFace_of_selects (args := #[]) (mvT hZ (tw hw 68 rfl))) (tw hw 68 rfl) (tw hw 67 rfl) (tw hw 3 rfl) (tw hw 69 rfl) (by decide) (rm9 l Z a0 hw [] b61 r1 f1 oL63 dL65 kL63 kdL65 ip (((64 : Int32) * ip).toNatClampNeg) (fun i => if i = 0 then (.ref dL65) else .null) (fun t => if t = ((((r1 &&& (65535 : Int32)) * ip) + f1).toNatClampNeg) then (.long p2) else (fun t => if t = ((((r2 &&& (65535 : Int32)) * ip) + f2).toNatClampNeg) then (.long p3) else (fun _ => (.long 0)) t) t) p2 h73 n0 Zs74 f74_1315 f74_1318 f74_1311 rfl V73 hc_r1_f1.1 hc_r1_f1.2.1 hc_r1_f1.2.2 (if_pos rfl)) f74_1310 (g := (mkF m 254 #[.val (.int p0), .val (.int p1), .val (.long p2), .second, .val (.long p3), .second, .val (.int ip), .val (.int lp), .val (.int (1 : Int32)), .val (.ref b61), .val (.int r1), .val (.int f1), .val (.int r2), .val (.int f2), .val (.int r3), .val (.int f3), .val (.int (0 : Int32)), .val (.int (1 : Int32)), .val (.int (1 : Int32)), .val (.long p3), .second, .val (.long p2), .second, .unset, .unset, .unset, .unset, .unset, .unset] [(.int f1), (.int r1), (.ref b61)])) rfl (by rw [hml]; rfl) (argsL := [(.int r1), (.int f1)]) (rest := []) (lenOf pd6 rfl) rfl (hb hby at_254) rfl (by decide) (Nat.le_of_ble_eq_true rfl) (k' := 7) (n' := 504) rfl rfl (by decide) (by decide)
                refine Go.by st99 ?_
                obtain ⟨rfl, rfl⟩ := q99
                show Go p.tables e below _ (T99.setTop (mkF m 257 #[.val (.int p0), .val (.int p1), .val (.long p2), .second, .val (.long p3), .second, .val (.int ip), .val (.int lp), .val (.int (1 : Int32)), .val (.ref b61), .val (.int r1), .val (.int f1), .val (.int r2), .val (.int f2), .val (.int r3), .val (.int f3), .val (.int (0 : Int32)), .val (.int (1 : Int32)), .val (.int (1 : Int32)), .val (.long p3), .second, .val (.long p2), .second, .unset, .unset, .unset, .unset, .unset, .unset] [(.long p2)]))
                refine Go.by (fun _ => XS.lstore X99.here hx rfl (hb hby at_257) rfl (l' := #[.val (.int p0), .val (.int p1), .val (.long p2), .second, .val (.long p3), .second, .val (.int ip), .val (.int lp), .val (.int (1 : Int32)), .val (.ref b61), .val (.int r1), .val (.int f1), .val (.int r2), .val (.int f2), .val (.int r3), .val (.int f3), .val (.int (0 : Int32)), .val (.int (1 : Int32)), .val (.int (1 : Int32)), .val (.long p3), .second, .val (.long p2), .second, .val (.long p2), .second, .unset, .unset, .unset, .unset]) rfl) ?_
                show Go p.tables e below _ (T99.setTop (mkF m 259 #[.val (.int p0), .val (.int p1), .val (.long p2), .second, .val (.long p3), .second, .val (.int ip), .val (.int lp), .val (.int (1 : Int32)), .val (.ref b61), .val (.int r1), .val (.int f1), .val (.int r2), .val (.int f2), .val (.int r3), .val (.int f3), .val (.int (0 : Int32)), .val (.int (1 : Int32)), .val (.int (1 : Int32)), .val (.long p3), .second, .val (.long p2), .second, .val (.long p2), .second, .unset, .unset, .unset, .unset] []))
                refine Go.by (fun _ => XS.aload X99.here hx rfl (hb hby at_259) rfl rfl) ?_
                refine Go.by (fun _ => XS.iload X99.here hx rfl (hb hby at_261) rfl) ?_
                refine Go.by (fun _ => XS.iload X99.here hx rfl (hb hby at_263) rfl) ?_
                obtain ⟨v100, T100, h100, X100, q100, st100⟩ := X99.callV hx hZ (y := (⟨"com/example/spotline/spotline/engine/Table", "getLong", "(II)J"⟩ : MethodName)) (z := (⟨"com/example/spotline/spotline/engine/Table", "getLong", "(II)J"⟩ : MethodName)) hown (tw hw 65 rfl) (tw hw 66 rfl) (notFace_of_selects (args := #[]) (mvT hZ (tw hw 68 rfl))) (tw hw 68 rfl) (tw hw 67 rfl) (tw hw 3 rfl) (tw hw 69 rfl) (by decide) (rm9 l Z a0 hw [] b61 r2 f2 oL63 dL65 kL63 kdL65 ip (((64 : Int32) * ip).toNatClampNeg) (fun i => if i = 0 then (.ref dL65) else .null) (fun t => if t = ((((r1 &&& (65535 : Int32)) * ip) + f1).toNatClampNeg) then (.long p2) else (fun t => if t = ((((r2 &&& (65535 : Int32)) * ip) + f2).toNatClampNeg) then (.long p3) else (fun _ => (.long 0)) t) t) p3 h73 n0 Zs74 f74_1315 f74_1318 f74_1311 rfl V73 hc_r2_f2.1 hc_r2_f2.2.1 hc_r2_f2.2.2 ((if_neg (fun q => hP16 ⟨(own_same h_r2.1 h_r2.2 hip1 hip2 h_f2.1 h_f2.2 h_r1.1 h_r1.2 h_f1.1 h_f1.2 q).1.symm, (own_same h_r2.1 h_r2.2 hip1 hip2 h_f2.1 h_f2.2 h_r1.1 h_r1.2 h_f1.1 h_f1.2 q).2.symm⟩)).trans (if_pos rfl))) f74_1310 (g := (mkF m 265 #[.val (.int p0), .val (.int p1), .val (.long p2), .second, .val (.long p3), .second, .val (.int ip), .val (.int lp), .val (.int (1 : Int32)), .val (.ref b61), .val (.int r1), .val (.int f1), .val (.int r2), .val (.int f2), .val (.int r3), .val (.int f3), .val (.int (0 : Int32)), .val (.int (1 : Int32)), .val (.int (1 : Int32)), .val (.long p3), .second, .val (.long p2), .second, .val (.long p2), .second, .unset, .unset, .unset, .unset] [(.int f2), (.int r2), (.ref b61)])) rfl (by rw [hml]; rfl) (argsL := [(.int r2), (.int f2)]) (rest := []) (lenOf pd6 rfl) rfl (hb hby at_265) rfl (by decide) (Nat.le_of_ble_eq_true rfl) (k' := 7) (n' := 504) rfl rfl (by decide) (by decide)
                refine Go.by st100 ?_
                obtain ⟨rfl, rfl⟩ := q100
                show Go p.tables e below _ (T100.setTop (mkF m 268 #[.val (.int p0), .val (.int p1), .val (.long p2), .second, .val (.long p3), .second, .val (.int ip), .val (.int lp), .val (.int (1 : Int32)), .val (.ref b61), .val (.int r1), .val (.int f1), .val (.int r2), .val (.int f2), .val (.int r3), .val (.int f3), .val (.int (0 : Int32)), .val (.int (1 : Int32)), .val (.int (1 : Int32)), .val (.long p3), .second, .val (.long p2), .second, .val (.long p2), .second, .unset, .unset, .unset, .unset] [(.long p3)]))
                refine Go.by (fun _ => XS.lstore X100.here hx rfl (hb hby at_268) rfl (l' := #[.val (.int p0), .val (.int p1), .val (.long p2), .second, .val (.long p3), .second, .val (.int ip), .val (.int lp), .val (.int (1 : Int32)), .val (.ref b61), .val (.int r1), .val (.int f1), .val (.int r2), .val (.int f2), .val (.int r3), .val (.int f3), .val (.int (0 : Int32)), .val (.int (1 : Int32)), .val (.int (1 : Int32)), .val (.long p3), .second, .val (.long p2), .second, .val (.long p2), .second, .val (.long p3), .second, .unset, .unset]) rfl) ?_
                show Go p.tables e below _ (T100.setTop (mkF m 270 #[.val (.int p0), .val (.int p1), .val (.long p2), .second, .val (.long p3), .second, .val (.int ip), .val (.int lp), .val (.int (1 : Int32)), .val (.ref b61), .val (.int r1), .val (.int f1), .val (.int r2), .val (.int f2), .val (.int r3), .val (.int f3), .val (.int (0 : Int32)), .val (.int (1 : Int32)), .val (.int (1 : Int32)), .val (.long p3), .second, .val (.long p2), .second, .val (.long p2), .second, .val (.long p3), .second, .unset, .unset] []))
                refine Go.by (fun _ => XS.aload X100.here hx rfl (hb hby at_270) rfl rfl) ?_
                show Go p.tables e below _ (T100.setTop (mkF m 272 #[.val (.int p0), .val (.int p1), .val (.long p2), .second, .val (.long p3), .second, .val (.int ip), .val (.int lp), .val (.int (1 : Int32)), .val (.ref b61), .val (.int r1), .val (.int f1), .val (.int r2), .val (.int f2), .val (.int r3), .val (.int f3), .val (.int (0 : Int32)), .val (.int (1 : Int32)), .val (.int (1 : Int32)), .val (.long p3), .second, .val (.long p2), .second, .val (.long p2), .second, .val (.long p3), .second, .unset, .unset] [(.ref b61)]))
                refine Go.by (fun _ => XS.iload X100.here hx rfl (hb hby at_272) rfl) ?_
                refine Go.by (fun _ => XS.iload X100.here hx rfl (hb hby at_274) rfl) ?_
                obtain ⟨v101, T101, h101, X101, q101, st101⟩ := X100.callV hx hZ (y := (⟨"com/example/spotline/spotline/engine/Table", "getLong", "(II)J"⟩ : MethodName)) (z := (⟨"com/example/spotline/spotline/engine/Table", "getLong", "(II)J"⟩ : MethodName)) hown (tw hw 65 rfl) (tw hw 66 rfl) (notFace_of_selects (args := #[]) (mvT hZ (tw hw 68 rfl))) (tw hw 68 rfl) (tw hw 67 rfl) (tw hw 3 rfl) (tw hw 69 rfl) (by decide) (rm9 l Z a0 hw [] b61 r3 f3 oL63 dL65 kL63 kdL65 ip (((64 : Int32) * ip).toNatClampNeg) (fun i => if i = 0 then (.ref dL65) else .null) (fun t => if t = ((((r1 &&& (65535 : Int32)) * ip) + f1).toNatClampNeg) then (.long p2) else (fun t => if t = ((((r2 &&& (65535 : Int32)) * ip) + f2).toNatClampNeg) then (.long p3) else (fun _ => (.long 0)) t) t) p2 h73 n0 Zs74 f74_1315 f74_1318 f74_1311 rfl V73 hc_r3_f3.1 hc_r3_f3.2.1 hc_r3_f3.2.2 (if_pos (by rw [hP17.1, hP17.2]))) f74_1310 (g := (mkF m 276 #[.val (.int p0), .val (.int p1), .val (.long p2), .second, .val (.long p3), .second, .val (.int ip), .val (.int lp), .val (.int (1 : Int32)), .val (.ref b61), .val (.int r1), .val (.int f1), .val (.int r2), .val (.int f2), .val (.int r3), .val (.int f3), .val (.int (0 : Int32)), .val (.int (1 : Int32)), .val (.int (1 : Int32)), .val (.long p3), .second, .val (.long p2), .second, .val (.long p2), .second, .val (.long p3), .second, .unset, .unset] [(.int f3), (.int r3), (.ref b61)])) rfl (by rw [hml]; rfl) (argsL := [(.int r3), (.int f3)]) (rest := []) (lenOf pd6 rfl) rfl (hb hby at_276) rfl (by decide) (Nat.le_of_ble_eq_true rfl) (k' := 7) (n' := 504) rfl rfl (by decide) (by decide)
                refine Go.by st101 ?_
                obtain ⟨rfl, rfl⟩ := q101
                show Go p.tables e below _ (T101.setTop (mkF m 279 #[.val (.int p0), .val (.int p1), .val (.long p2), .second, .val (.long p3), .second, .val (.int ip), .val (.int lp), .val (.int (1 : Int32)), .val (.ref b61), .val (.int r1), .val (.int f1), .val (.int r2), .val (.int f2), .val (.int r3), .val (.int f3), .val (.int (0 : Int32)), .val (.int (1 : Int32)), .val (.int (1 : Int32)), .val (.long p3), .second, .val (.long p2), .second, .val (.long p2), .second, .val (.long p3), .second, .unset, .unset] [(.long p2)]))
                refine Go.by (fun _ => XS.lstore X101.here hx rfl (hb hby at_279) rfl (l' := #[.val (.int p0), .val (.int p1), .val (.long p2), .second, .val (.long p3), .second, .val (.int ip), .val (.int lp), .val (.int (1 : Int32)), .val (.ref b61), .val (.int r1), .val (.int f1), .val (.int r2), .val (.int f2), .val (.int r3), .val (.int f3), .val (.int (0 : Int32)), .val (.int (1 : Int32)), .val (.int (1 : Int32)), .val (.long p3), .second, .val (.long p2), .second, .val (.long p2), .second, .val (.long p3), .second, .val (.long p2), .second]) rfl) ?_
                show Go p.tables e below _ (T101.setTop (mkF m 281 #[.val (.int p0), .val (.int p1), .val (.long p2), .second, .val (.long p3), .second, .val (.int ip), .val (.int lp), .val (.int (1 : Int32)), .val (.ref b61), .val (.int r1), .val (.int f1), .val (.int r2), .val (.int f2), .val (.int r3), .val (.int f3), .val (.int (0 : Int32)), .val (.int (1 : Int32)), .val (.int (1 : Int32)), .val (.long p3), .second, .val (.long p2), .second, .val (.long p2), .second, .val (.long p3), .second, .val (.long p2), .second] []))
                refine Go.by (fun _ => XS.lload X101.here hx rfl (hb hby at_281) rfl) ?_
                refine Go.by (fun _ => XS.lloadN X101.here hx rfl (hb hby at_283) rfl) ?_
                refine Go.by (fun _ => XS.lcmp X101.here hx rfl (hb hby at_284) rfl) ?_
                show Go p.tables e below _ (T101.setTop (mkF m 285 #[.val (.int p0), .val (.int p1), .val (.long p2), .second, .val (.long p3), .second, .val (.int ip), .val (.int lp), .val (.int (1 : Int32)), .val (.ref b61), .val (.int r1), .val (.int f1), .val (.int r2), .val (.int f2), .val (.int r3), .val (.int f3), .val (.int (0 : Int32)), .val (.int (1 : Int32)), .val (.int (1 : Int32)), .val (.long p3), .second, .val (.long p2), .second, .val (.long p2), .second, .val (.long p3), .second, .val (.long p2), .second] [(.int (lcmpW p2 p2))]))
                refine Go.by (fun _ => XS.ifNo X101.here hx rfl (hb hby at_285) rfl ((if0 _ _).trans (teq ((lw_eq _ _).mpr rfl)).2)) ?_
                show Go p.tables e below _ (T101.setTop (mkF m 288 #[.val (.int p0), .val (.int p1), .val (.long p2), .second, .val (.long p3), .second, .val (.int ip), .val (.int lp), .val (.int (1 : Int32)), .val (.ref b61), .val (.int r1), .val (.int f1), .val (.int r2), .val (.int f2), .val (.int r3), .val (.int f3), .val (.int (0 : Int32)), .val (.int (1 : Int32)), .val (.int (1 : Int32)), .val (.long p3), .second, .val (.long p2), .second, .val (.long p2), .second, .val (.long p3), .second, .val (.long p2), .second] []))
                refine Go.by (fun _ => XS.lload X101.here hx rfl (hb hby at_288) rfl) ?_
                refine Go.by (fun _ => XS.lload X101.here hx rfl (hb hby at_290) rfl) ?_
                refine Go.by (fun _ => XS.lcmp X101.here hx rfl (hb hby at_292) rfl) ?_
                show Go p.tables e below _ (T101.setTop (mkF m 293 #[.val (.int p0), .val (.int p1), .val (.long p2), .second, .val (.long p3), .second, .val (.int ip), .val (.int lp), .val (.int (1 : Int32)), .val (.ref b61), .val (.int r1), .val (.int f1), .val (.int r2), .val (.int f2), .val (.int r3), .val (.int f3), .val (.int (0 : Int32)), .val (.int (1 : Int32)), .val (.int (1 : Int32)), .val (.long p3), .second, .val (.long p2), .second, .val (.long p2), .second, .val (.long p3), .second, .val (.long p2), .second] [(.int (lcmpW p3 p3))]))
                refine Go.by (fun _ => XS.ifNo X101.here hx rfl (hb hby at_293) rfl ((if0 _ _).trans (teq ((lw_eq _ _).mpr rfl)).2)) ?_
                show Go p.tables e below _ (T101.setTop (mkF m 296 #[.val (.int p0), .val (.int p1), .val (.long p2), .second, .val (.long p3), .second, .val (.int ip), .val (.int lp), .val (.int (1 : Int32)), .val (.ref b61), .val (.int r1), .val (.int f1), .val (.int r2), .val (.int f2), .val (.int r3), .val (.int f3), .val (.int (0 : Int32)), .val (.int (1 : Int32)), .val (.int (1 : Int32)), .val (.long p3), .second, .val (.long p2), .second, .val (.long p2), .second, .val (.long p3), .second, .val (.long p2), .second] []))
                refine Go.by (fun _ => XS.lload X101.here hx rfl (hb hby at_296) rfl) ?_
                refine Go.by (fun _ => XS.lload X101.here hx rfl (hb hby at_298) rfl) ?_
                refine Go.by (fun _ => XS.lcmp X101.here hx rfl (hb hby at_300) rfl) ?_
                show Go p.tables e below _ (T101.setTop (mkF m 301 #[.val (.int p0), .val (.int p1), .val (.long p2), .second, .val (.long p3), .second, .val (.int ip), .val (.int lp), .val (.int (1 : Int32)), .val (.ref b61), .val (.int r1), .val (.int f1), .val (.int r2), .val (.int f2), .val (.int r3), .val (.int f3), .val (.int (0 : Int32)), .val (.int (1 : Int32)), .val (.int (1 : Int32)), .val (.long p3), .second, .val (.long p2), .second, .val (.long p2), .second, .val (.long p3), .second, .val (.long p2), .second] [(.int (lcmpW p2 p2))]))
                refine Go.by (fun _ => XS.ifNo X101.here hx rfl (hb hby at_301) rfl ((if0 _ _).trans (teq ((lw_eq _ _).mpr rfl)).2)) ?_
                show Go p.tables e below _ (T101.setTop (mkF m 304 #[.val (.int p0), .val (.int p1), .val (.long p2), .second, .val (.long p3), .second, .val (.int ip), .val (.int lp), .val (.int (1 : Int32)), .val (.ref b61), .val (.int r1), .val (.int f1), .val (.int r2), .val (.int f2), .val (.int r3), .val (.int f3), .val (.int (0 : Int32)), .val (.int (1 : Int32)), .val (.int (1 : Int32)), .val (.long p3), .second, .val (.long p2), .second, .val (.long p2), .second, .val (.long p3), .second, .val (.long p2), .second] []))
                refine Go.by (fun _ => XS.iconst X101.here hx rfl (hb hby at_304)) ?_
                refine Go.by (fun _ => XS.goto X101.here hx rfl (pc0 := 305) (pc' := 309) rfl (hb hby at_305) (by decide) (by decide)) ?_
                show Go p.tables e below _ (T101.setTop (mkF m 309 #[.val (.int p0), .val (.int p1), .val (.long p2), .second, .val (.long p3), .second, .val (.int ip), .val (.int lp), .val (.int (1 : Int32)), .val (.ref b61), .val (.int r1), .val (.int f1), .val (.int r2), .val (.int f2), .val (.int r3), .val (.int f3), .val (.int (0 : Int32)), .val (.int (1 : Int32)), .val (.int (1 : Int32)), .val (.long p3), .second, .val (.long p2), .second, .val (.long p2), .second, .val (.long p3), .second, .val (.long p2), .second] [(.int (1 : Int32))]))
                exact Go.retN X101 hx hlk (z' := (1 : Int32)) hret (by simp) (hb hby at_309) rfl (by decide) (by decide) rfl
              · skip
                show Go p.tables e below _ (Tj98.setTop (mkF m 211 #[.val (.int p0), .val (.int p1), .val (.long p2), .second, .val (.long p3), .second, .val (.int ip), .val (.int lp), .val (.int (1 : Int32)), .val (.ref b61), .val (.int r1), .val (.int f1), .val (.int r2), .val (.int f2), .val (.int r3), .val (.int f3), .val (.int (0 : Int32)), .val (.int (1 : Int32)), .unset, .unset, .unset, .unset, .unset, .unset, .unset, .unset, .unset, .unset, .unset] [(.int (0 : Int32))]))
                refine Go.by (fun _ => XS.istore Xj98.here hx rfl (hb hby at_211) rfl (l' := #[.val (.int p0), .val (.int p1), .val (.long p2), .second, .val (.long p3), .second, .val (.int ip), .val (.int lp), .val (.int (1 : Int32)), .val (.ref b61), .val (.int r1), .val (.int f1), .val (.int r2), .val (.int f2), .val (.int r3), .val (.int f3), .val (.int (0 : Int32)), .val (.int (1 : Int32)), .val (.int (0 : Int32)), .unset, .unset, .unset, .unset, .unset, .unset, .unset, .unset, .unset, .unset]) rfl) ?_
                show Go p.tables e below _ (Tj98.setTop (mkF m 213 #[.val (.int p0), .val (.int p1), .val (.long p2), .second, .val (.long p3), .second, .val (.int ip), .val (.int lp), .val (.int (1 : Int32)), .val (.ref b61), .val (.int r1), .val (.int f1), .val (.int r2), .val (.int f2), .val (.int r3), .val (.int f3), .val (.int (0 : Int32)), .val (.int (1 : Int32)), .val (.int (0 : Int32)), .unset, .unset, .unset, .unset, .unset, .unset, .unset, .unset, .unset, .unset] []))
                refine Go.by (fun _ => XS.iload Xj98.here hx rfl (hb hby at_213) rfl) ?_
                refine Go.by (fun _ => XS.ifYes Xj98.here hx rfl (pc0 := 215) (pc' := 222) rfl (hb hby at_215) rfl ((if0 _ _).trans (teq (by decide)).1) (by decide) (by decide)) ?_
                show Go p.tables e below _ (Tj98.setTop (mkF m 222 #[.val (.int p0), .val (.int p1), .val (.long p2), .second, .val (.long p3), .second, .val (.int ip), .val (.int lp), .val (.int (1 : Int32)), .val (.ref b61), .val (.int r1), .val (.int f1), .val (.int r2), .val (.int f2), .val (.int r3), .val (.int f3), .val (.int (0 : Int32)), .val (.int (1 : Int32)), .val (.int (0 : Int32)), .unset, .unset, .unset, .unset, .unset, .unset, .unset, .unset, .unset, .unset] []))
                refine Go.by (fun _ => XS.lload Xj98.here hx rfl (hb hby at_222) rfl) ?_
                refine Go.by (fun _ => XS.lstore Xj98.here hx rfl (hb hby at_224) rfl (l' := #[.val (.int p0), .val (.int p1), .val (.long p2), .second, .val (.long p3), .second, .val (.int ip), .val (.int lp), .val (.int (1 : Int32)), .val (.ref b61), .val (.int r1), .val (.int f1), .val (.int r2), .val (.int f2), .val (.int r3), .val (.int f3), .val (.int (0 : Int32)), .val (.int (1 : Int32)), .val (.int (0 : Int32)), .val (.long p3), .second, .unset, .unset, .unset, .unset, .unset, .unset, .unset, .unset]) rfl) ?_
                show Go p.tables e below _ (Tj98.setTop (mkF m 226 #[.val (.int p0), .val (.int p1), .val (.long p2), .second, .val (.long p3), .second, .val (.int ip), .val (.int lp), .val (.int (1 : Int32)), .val (.ref b61), .val (.int r1), .val (.int f1), .val (.int r2), .val (.int f2), .val (.int r3), .val (.int f3), .val (.int (0 : Int32)), .val (.int (1 : Int32)), .val (.int (0 : Int32)), .val (.long p3), .second, .unset, .unset, .unset, .unset, .unset, .unset, .unset, .unset] []))
                refine Go.by (fun _ => XS.iload Xj98.here hx rfl (hb hby at_226) rfl) ?_
                show Go p.tables e below _ (Tj98.setTop (mkF m 228 #[.val (.int p0), .val (.int p1), .val (.long p2), .second, .val (.long p3), .second, .val (.int ip), .val (.int lp), .val (.int (1 : Int32)), .val (.ref b61), .val (.int r1), .val (.int f1), .val (.int r2), .val (.int f2), .val (.int r3), .val (.int f3), .val (.int (0 : Int32)), .val (.int (1 : Int32)), .val (.int (0 : Int32)), .val (.long p3), .second, .unset, .unset, .unset, .unset, .unset, .unset, .unset, .unset] [(.int (1 : Int32))]))
                refine Go.by (fun _ => XS.ifNo Xj98.here hx rfl (hb hby at_228) rfl ((if0 _ _).trans (feq (by decide)).1)) ?_
                show Go p.tables e below _ (Tj98.setTop (mkF m 231 #[.val (.int p0), .val (.int p1), .val (.long p2), .second, .val (.long p3), .second, .val (.int ip), .val (.int lp), .val (.int (1 : Int32)), .val (.ref b61), .val (.int r1), .val (.int f1), .val (.int r2), .val (.int f2), .val (.int r3), .val (.int f3), .val (.int (0 : Int32)), .val (.int (1 : Int32)), .val (.int (0 : Int32)), .val (.long p3), .second, .unset, .unset, .unset, .unset, .unset, .unset, .unset, .unset] []))
                refine Go.by (fun _ => XS.lloadN Xj98.here hx rfl (hb hby at_231) rfl) ?_
                refine Go.by (fun _ => XS.goto Xj98.here hx rfl (pc0 := 232) (pc' := 246) rfl (hb hby at_232) (by decide) (by decide)) ?_
                show Go p.tables e below _ (Tj98.setTop (mkF m 246 #[.val (.int p0), .val (.int p1), .val (.long p2), .second, .val (.long p3), .second, .val (.int ip), .val (.int lp), .val (.int (1 : Int32)), .val (.ref b61), .val (.int r1), .val (.int f1), .val (.int r2), .val (.int f2), .val (.int r3), .val (.int f3), .val (.int (0 : Int32)), .val (.int (1 : Int32)), .val (.int (0 : Int32)), .val (.long p3), .second, .unset, .unset, .unset, .unset, .unset, .unset, .unset, .unset] [(.long p2)]))
                refine Go.by (fun _ => XS.lstore Xj98.here hx rfl (hb hby at_246) rfl (l' := #[.val (.int p0), .val (.int p1), .val (.long p2), .second, .val (.long p3), .second, .val (.int ip), .val (.int lp), .val (.int (1 : Int32)), .val (.ref b61), .val (.int r1), .val (.int f1), .val (.int r2), .val (.int f2), .val (.int r3), .val (.int f3), .val (.int (0 : Int32)), .val (.int (1 : Int32)), .val (.int (0 : Int32)), .val (.long p3), .second, .val (.long p2), .second, .unset, .unset, .unset, .unset, .unset, .unset]) rfl) ?_
                show Go p.tables e below _ (Tj98.setTop (mkF m 248 #[.val (.int p0), .val (.int p1), .val (.long p2), .second, .val (.long p3), .second, .val (.int ip), .val (.int lp), .val (.int (1 : Int32)), .val (.ref b61), .val (.int r1), .val (.int f1), .val (.int r2), .val (.int f2), .val (.int r3), .val (.int f3), .val (.int (0 : Int32)), .val (.int (1 : Int32)), .val (.int (0 : Int32)), .val (.long p3), .second, .val (.long p2), .second, .unset, .unset, .unset, .unset, .unset, .unset] []))
                refine Go.by (fun _ => XS.aload Xj98.here hx rfl (hb hby at_248) rfl rfl) ?_
                refine Go.by (fun _ => XS.iload Xj98.here hx rfl (hb hby at_250) rfl) ?_
                refine Go.by (fun _ => XS.iload Xj98.here hx rfl (hb hby at_252) rfl) ?_
                obtain ⟨v102, T102, h102, X102, q102, st102⟩ := Xj98.callV hx hZ (y := (⟨"com/example/spotline/spotline/engine/Table", "getLong", "(II)J"⟩ : MethodName)) (z := (⟨"com/example/spotline/spotline/engine/Table", "getLong", "(II)J"⟩ : MethodName)) hown (tw hw 65 rfl) (tw hw 66 rfl) (notFace_of_selects (args := #[]) (mvT hZ (tw hw 68 rfl))) (tw hw 68 rfl) (tw hw 67 rfl) (tw hw 3 rfl) (tw hw 69 rfl) (by decide) (rm9 l Z a0 hw [] b61 r1 f1 oL63 dL65 kL63 kdL65 ip (((64 : Int32) * ip).toNatClampNeg) (fun i => if i = 0 then (.ref dL65) else .null) (fun t => if t = ((((r1 &&& (65535 : Int32)) * ip) + f1).toNatClampNeg) then (.long p2) else (fun t => if t = ((((r2 &&& (65535 : Int32)) * ip) + f2).toNatClampNeg) then (.long p3) else (fun _ => (.long 0)) t) t) p2 h73 n0 Zs74 f74_1315 f74_1318 f74_1311 rfl V73 hc_r1_f1.1 hc_r1_f1.2.1 hc_r1_f1.2.2 (if_pos rfl)) f74_1310 (g := (mkF m 254 #[.val (.int p0), .val (.int p1), .val (.long p2), .second, .val (.long p3), .second, .val (.int ip), .val (.int lp), .val (.int (1 : Int32)), .val (.ref b61), .val (.int r1), .val (.int f1), .val (.int r2), .val (.int f2), .val (.int r3), .val (.int f3), .val (.int (0 : Int32)), .val (.int (1 : Int32)), .val (.int (0 : Int32)), .val (.long p3), .second, .val (.long p2), .second, .unset, .unset, .unset, .unset, .unset, .unset] [(.int f1), (.int r1), (.ref b61)])) rfl (by rw [hml]; rfl) (argsL := [(.int r1), (.int f1)]) (rest := []) (lenOf pd6 rfl) rfl (hb hby at_254) rfl (by decide) (Nat.le_of_ble_eq_true rfl) (k' := 7) (n' := 504) rfl rfl (by decide) (by decide)
                refine Go.by st102 ?_
                obtain ⟨rfl, rfl⟩ := q102
                show Go p.tables e below _ (T102.setTop (mkF m 257 #[.val (.int p0), .val (.int p1), .val (.long p2), .second, .val (.long p3), .second, .val (.int ip), .val (.int lp), .val (.int (1 : Int32)), .val (.ref b61), .val (.int r1), .val (.int f1), .val (.int r2), .val (.int f2), .val (.int r3), .val (.int f3), .val (.int (0 : Int32)), .val (.int (1 : Int32)), .val (.int (0 : Int32)), .val (.long p3), .second, .val (.long p2), .second, .unset, .unset, .unset, .unset, .unset, .unset] [(.long p2)]))
                refine Go.by (fun _ => XS.lstore X102.here hx rfl (hb hby at_257) rfl (l' := #[.val (.int p0), .val (.int p1), .val (.long p2), .second, .val (.long p3), .second, .val (.int ip), .val (.int lp), .val (.int (1 : Int32)), .val (.ref b61), .val (.int r1), .val (.int f1), .val (.int r2), .val (.int f2), .val (.int r3), .val (.int f3), .val (.int (0 : Int32)), .val (.int (1 : Int32)), .val (.int (0 : Int32)), .val (.long p3), .second, .val (.long p2), .second, .val (.long p2), .second, .unset, .unset, .unset, .unset]) rfl) ?_
                show Go p.tables e below _ (T102.setTop (mkF m 259 #[.val (.int p0), .val (.int p1), .val (.long p2), .second, .val (.long p3), .second, .val (.int ip), .val (.int lp), .val (.int (1 : Int32)), .val (.ref b61), .val (.int r1), .val (.int f1), .val (.int r2), .val (.int f2), .val (.int r3), .val (.int f3), .val (.int (0 : Int32)), .val (.int (1 : Int32)), .val (.int (0 : Int32)), .val (.long p3), .second, .val (.long p2), .second, .val (.long p2), .second, .unset, .unset, .unset, .unset] []))
                refine Go.by (fun _ => XS.aload X102.here hx rfl (hb hby at_259) rfl rfl) ?_
                refine Go.by (fun _ => XS.iload X102.here hx rfl (hb hby at_261) rfl) ?_
                refine Go.by (fun _ => XS.iload X102.here hx rfl (hb hby at_263) rfl) ?_
                obtain ⟨v103, T103, h103, X103, q103, st103⟩ := X102.callV hx hZ (y := (⟨"com/example/spotline/spotline/engine/Table", "getLong", "(II)J"⟩ : MethodName)) (z := (⟨"com/example/spotline/spotline/engine/Table", "getLong", "(II)J"⟩ : MethodName)) hown (tw hw 65 rfl) (tw hw 66 rfl) (notFace_of_selects (args := #[]) (mvT hZ (tw hw 68 rfl))) (tw hw 68 rfl) (tw hw 67 rfl) (tw hw 3 rfl) (tw hw 69 rfl) (by decide) (rm9 l Z a0 hw [] b61 r2 f2 oL63 dL65 kL63 kdL65 ip (((64 : Int32) * ip).toNatClampNeg) (fun i => if i = 0 then (.ref dL65) else .null) (fun t => if t = ((((r1 &&& (65535 : Int32)) * ip) + f1).toNatClampNeg) then (.long p2) else (fun t => if t = ((((r2 &&& (65535 : Int32)) * ip) + f2).toNatClampNeg) then (.long p3) else (fun _ => (.long 0)) t) t) p3 h73 n0 Zs74 f74_1315 f74_1318 f74_1311 rfl V73 hc_r2_f2.1 hc_r2_f2.2.1 hc_r2_f2.2.2 ((if_neg (fun q => hP16 ⟨(own_same h_r2.1 h_r2.2 hip1 hip2 h_f2.1 h_f2.2 h_r1.1 h_r1.2 h_f1.1 h_f1.2 q).1.symm, (own_same h_r2.1 h_r2.2 hip1 hip2 h_f2.1 h_f2.2 h_r1.1 h_r1.2 h_f1.1 h_f1.2 q).2.symm⟩)).trans (if_pos rfl))) f74_1310 (g := (mkF m 265 #[.val (.int p0), .val (.int p1), .val (.long p2), .second, .val (.long p3), .second, .val (.int ip), .val (.int lp), .val (.int (1 : Int32)), .val (.ref b61), .val (.int r1), .val (.int f1), .val (.int r2), .val (.int f2), .val (.int r3), .val (.int f3), .val (.int (0 : Int32)), .val (.int (1 : Int32)), .val (.int (0 : Int32)), .val (.long p3), .second, .val (.long p2), .second, .val (.long p2), .second, .unset, .unset, .unset, .unset] [(.int f2), (.int r2), (.ref b61)])) rfl (by rw [hml]; rfl) (argsL := [(.int r2), (.int f2)]) (rest := []) (lenOf pd6 rfl) rfl (hb hby at_265) rfl (by decide) (Nat.le_of_ble_eq_true rfl) (k' := 7) (n' := 504) rfl rfl (by decide) (by decide)
                refine Go.by st103 ?_
                obtain ⟨rfl, rfl⟩ := q103
                show Go p.tables e below _ (T103.setTop (mkF m 268 #[.val (.int p0), .val (.int p1), .val (.long p2), .second, .val (.long p3), .second, .val (.int ip), .val (.int lp), .val (.int (1 : Int32)), .val (.ref b61), .val (.int r1), .val (.int f1), .val (.int r2), .val (.int f2), .val (.int r3), .val (.int f3), .val (.int (0 : Int32)), .val (.int (1 : Int32)), .val (.int (0 : Int32)), .val (.long p3), .second, .val (.long p2), .second, .val (.long p2), .second, .unset, .unset, .unset, .unset] [(.long p3)]))
                refine Go.by (fun _ => XS.lstore X103.here hx rfl (hb hby at_268) rfl (l' := #[.val (.int p0), .val (.int p1), .val (.long p2), .second, .val (.long p3), .second, .val (.int ip), .val (.int lp), .val (.int (1 : Int32)), .val (.ref b61), .val (.int r1), .val (.int f1), .val (.int r2), .val (.int f2), .val (.int r3), .val (.int f3), .val (.int (0 : Int32)), .val (.int (1 : Int32)), .val (.int (0 : Int32)), .val (.long p3), .second, .val (.long p2), .second, .val (.long p2), .second, .val (.long p3), .second, .unset, .unset]) rfl) ?_
                show Go p.tables e below _ (T103.setTop (mkF m 270 #[.val (.int p0), .val (.int p1), .val (.long p2), .second, .val (.long p3), .second, .val (.int ip), .val (.int lp), .val (.int (1 : Int32)), .val (.ref b61), .val (.int r1), .val (.int f1), .val (.int r2), .val (.int f2), .val (.int r3), .val (.int f3), .val (.int (0 : Int32)), .val (.int (1 : Int32)), .val (.int (0 : Int32)), .val (.long p3), .second, .val (.long p2), .second, .val (.long p2), .second, .val (.long p3), .second, .unset, .unset] []))
                refine Go.by (fun _ => XS.aload X103.here hx rfl (hb hby at_270) rfl rfl) ?_
                refine Go.by (fun _ => XS.iload X103.here hx rfl (hb hby at_272) rfl) ?_
                show Go p.tables e below _ (T103.setTop (mkF m 274 #[.val (.int p0), .val (.int p1), .val (.long p2), .second, .val (.long p3), .second, .val (.int ip), .val (.int lp), .val (.int (1 : Int32)), .val (.ref b61), .val (.int r1), .val (.int f1), .val (.int r2), .val (.int f2), .val (.int r3), .val (.int f3), .val (.int (0 : Int32)), .val (.int (1 : Int32)), .val (.int (0 : Int32)), .val (.long p3), .second, .val (.long p2), .second, .val (.long p2), .second, .val (.long p3), .second, .unset, .unset] [(.int r3), (.ref b61)]))
                refine Go.by (fun _ => XS.iload X103.here hx rfl (hb hby at_274) rfl) ?_
                obtain ⟨v104, T104, h104, X104, q104, st104⟩ := X103.callV hx hZ (y := (⟨"com/example/spotline/spotline/engine/Table", "getLong", "(II)J"⟩ : MethodName)) (z := (⟨"com/example/spotline/spotline/engine/Table", "getLong", "(II)J"⟩ : MethodName)) hown (tw hw 65 rfl) (tw hw 66 rfl) (notFace_of_selects (args := #[]) (mvT hZ (tw hw 68 rfl))) (tw hw 68 rfl) (tw hw 67 rfl) (tw hw 3 rfl) (tw hw 69 rfl) (by decide) (rm9 l Z a0 hw [] b61 r3 f3 oL63 dL65 kL63 kdL65 ip (((64 : Int32) * ip).toNatClampNeg) (fun i => if i = 0 then (.ref dL65) else .null) (fun t => if t = ((((r1 &&& (65535 : Int32)) * ip) + f1).toNatClampNeg) then (.long p2) else (fun t => if t = ((((r2 &&& (65535 : Int32)) * ip) + f2).toNatClampNeg) then (.long p3) else (fun _ => (.long 0)) t) t) p2 h73 n0 Zs74 f74_1315 f74_1318 f74_1311 rfl V73 hc_r3_f3.1 hc_r3_f3.2.1 hc_r3_f3.2.2 (if_pos (by rw [hP17.1, hP17.2]))) f74_1310 (g := (mkF m 276 #[.val (.int p0), .val (.int p1), .val (.long p2), .second, .val (.long p3), .second, .val (.int ip), .val (.int lp), .val (.int (1 : Int32)), .val (.ref b61), .val (.int r1), .val (.int f1), .val (.int r2), .val (.int f2), .val (.int r3), .val (.int f3), .val (.int (0 : Int32)), .val (.int (1 : Int32)), .val (.int (0 : Int32)), .val (.long p3), .second, .val (.long p2), .second, .val (.long p2), .second, .val (.long p3), .second, .unset, .unset] [(.int f3), (.int r3), (.ref b61)])) rfl (by rw [hml]; rfl) (argsL := [(.int r3), (.int f3)]) (rest := []) (lenOf pd6 rfl) rfl (hb hby at_276) rfl (by decide) (Nat.le_of_ble_eq_true rfl) (k' := 7) (n' := 504) rfl rfl (by decide) (by decide)
                refine Go.by st104 ?_
                obtain ⟨rfl, rfl⟩ := q104
                show Go p.tables e below _ (T104.setTop (mkF m 279 #[.val (.int p0), .val (.int p1), .val (.long p2), .second, .val (.long p3), .second, .val (.int ip), .val (.int lp), .val (.int (1 : Int32)), .val (.ref b61), .val (.int r1), .val (.int f1), .val (.int r2), .val (.int f2), .val (.int r3), .val (.int f3), .val (.int (0 : Int32)), .val (.int (1 : Int32)), .val (.int (0 : Int32)), .val (.long p3), .second, .val (.long p2), .second, .val (.long p2), .second, .val (.long p3), .second, .unset, .unset] [(.long p2)]))
                refine Go.by (fun _ => XS.lstore X104.here hx rfl (hb hby at_279) rfl (l' := #[.val (.int p0), .val (.int p1), .val (.long p2), .second, .val (.long p3), .second, .val (.int ip), .val (.int lp), .val (.int (1 : Int32)), .val (.ref b61), .val (.int r1), .val (.int f1), .val (.int r2), .val (.int f2), .val (.int r3), .val (.int f3), .val (.int (0 : Int32)), .val (.int (1 : Int32)), .val (.int (0 : Int32)), .val (.long p3), .second, .val (.long p2), .second, .val (.long p2), .second, .val (.long p3), .second, .val (.long p2), .second]) rfl) ?_
                show Go p.tables e below _ (T104.setTop (mkF m 281 #[.val (.int p0), .val (.int p1), .val (.long p2), .second, .val (.long p3), .second, .val (.int ip), .val (.int lp), .val (.int (1 : Int32)), .val (.ref b61), .val (.int r1), .val (.int f1), .val (.int r2), .val (.int f2), .val (.int r3), .val (.int f3), .val (.int (0 : Int32)), .val (.int (1 : Int32)), .val (.int (0 : Int32)), .val (.long p3), .second, .val (.long p2), .second, .val (.long p2), .second, .val (.long p3), .second, .val (.long p2), .second] []))
                refine Go.by (fun _ => XS.lload X104.here hx rfl (hb hby at_281) rfl) ?_
                refine Go.by (fun _ => XS.lloadN X104.here hx rfl (hb hby at_283) rfl) ?_
                refine Go.by (fun _ => XS.lcmp X104.here hx rfl (hb hby at_284) rfl) ?_
                show Go p.tables e below _ (T104.setTop (mkF m 285 #[.val (.int p0), .val (.int p1), .val (.long p2), .second, .val (.long p3), .second, .val (.int ip), .val (.int lp), .val (.int (1 : Int32)), .val (.ref b61), .val (.int r1), .val (.int f1), .val (.int r2), .val (.int f2), .val (.int r3), .val (.int f3), .val (.int (0 : Int32)), .val (.int (1 : Int32)), .val (.int (0 : Int32)), .val (.long p3), .second, .val (.long p2), .second, .val (.long p2), .second, .val (.long p3), .second, .val (.long p2), .second] [(.int (lcmpW p2 p2))]))
                refine Go.by (fun _ => XS.ifNo X104.here hx rfl (hb hby at_285) rfl ((if0 _ _).trans (teq ((lw_eq _ _).mpr rfl)).2)) ?_
                show Go p.tables e below _ (T104.setTop (mkF m 288 #[.val (.int p0), .val (.int p1), .val (.long p2), .second, .val (.long p3), .second, .val (.int ip), .val (.int lp), .val (.int (1 : Int32)), .val (.ref b61), .val (.int r1), .val (.int f1), .val (.int r2), .val (.int f2), .val (.int r3), .val (.int f3), .val (.int (0 : Int32)), .val (.int (1 : Int32)), .val (.int (0 : Int32)), .val (.long p3), .second, .val (.long p2), .second, .val (.long p2), .second, .val (.long p3), .second, .val (.long p2), .second] []))
                refine Go.by (fun _ => XS.lload X104.here hx rfl (hb hby at_288) rfl) ?_
                show Go p.tables e below _ (T104.setTop (mkF m 290 #[.val (.int p0), .val (.int p1), .val (.long p2), .second, .val (.long p3), .second, .val (.int ip), .val (.int lp), .val (.int (1 : Int32)), .val (.ref b61), .val (.int r1), .val (.int f1), .val (.int r2), .val (.int f2), .val (.int r3), .val (.int f3), .val (.int (0 : Int32)), .val (.int (1 : Int32)), .val (.int (0 : Int32)), .val (.long p3), .second, .val (.long p2), .second, .val (.long p2), .second, .val (.long p3), .second, .val (.long p2), .second] [(.long p3)]))
                refine Go.by (fun _ => XS.lload X104.here hx rfl (hb hby at_290) rfl) ?_
                refine Go.by (fun _ => XS.lcmp X104.here hx rfl (hb hby at_292) rfl) ?_
                show Go p.tables e below _ (T104.setTop (mkF m 293 #[.val (.int p0), .val (.int p1), .val (.long p2), .second, .val (.long p3), .second, .val (.int ip), .val (.int lp), .val (.int (1 : Int32)), .val (.ref b61), .val (.int r1), .val (.int f1), .val (.int r2), .val (.int f2), .val (.int r3), .val (.int f3), .val (.int (0 : Int32)), .val (.int (1 : Int32)), .val (.int (0 : Int32)), .val (.long p3), .second, .val (.long p2), .second, .val (.long p2), .second, .val (.long p3), .second, .val (.long p2), .second] [(.int (lcmpW p3 p3))]))
                refine Go.by (fun _ => XS.ifNo X104.here hx rfl (hb hby at_293) rfl ((if0 _ _).trans (teq ((lw_eq _ _).mpr rfl)).2)) ?_
                show Go p.tables e below _ (T104.setTop (mkF m 296 #[.val (.int p0), .val (.int p1), .val (.long p2), .second, .val (.long p3), .second, .val (.int ip), .val (.int lp), .val (.int (1 : Int32)), .val (.ref b61), .val (.int r1), .val (.int f1), .val (.int r2), .val (.int f2), .val (.int r3), .val (.int f3), .val (.int (0 : Int32)), .val (.int (1 : Int32)), .val (.int (0 : Int32)), .val (.long p3), .second, .val (.long p2), .second, .val (.long p2), .second, .val (.long p3), .second, .val (.long p2), .second] []))
                refine Go.by (fun _ => XS.lload X104.here hx rfl (hb hby at_296) rfl) ?_
                refine Go.by (fun _ => XS.lload X104.here hx rfl (hb hby at_298) rfl) ?_
                refine Go.by (fun _ => XS.lcmp X104.here hx rfl (hb hby at_300) rfl) ?_
                show Go p.tables e below _ (T104.setTop (mkF m 301 #[.val (.int p0), .val (.int p1), .val (.long p2), .second, .val (.long p3), .second, .val (.int ip), .val (.int lp), .val (.int (1 : Int32)), .val (.ref b61), .val (.int r1), .val (.int f1), .val (.int r2), .val (.int f2), .val (.int r3), .val (.int f3), .val (.int (0 : Int32)), .val (.int (1 : Int32)), .val (.int (0 : Int32)), .val (.long p3), .second, .val (.long p2), .second, .val (.long p2), .second, .val (.long p3), .second, .val (.long p2), .second] [(.int (lcmpW p2 p2))]))
                refine Go.by (fun _ => XS.ifNo X104.here hx rfl (hb hby at_301) rfl ((if0 _ _).trans (teq ((lw_eq _ _).mpr rfl)).2)) ?_
                show Go p.tables e below _ (T104.setTop (mkF m 304 #[.val (.int p0), .val (.int p1), .val (.long p2), .second, .val (.long p3), .second, .val (.int ip), .val (.int lp), .val (.int (1 : Int32)), .val (.ref b61), .val (.int r1), .val (.int f1), .val (.int r2), .val (.int f2), .val (.int r3), .val (.int f3), .val (.int (0 : Int32)), .val (.int (1 : Int32)), .val (.int (0 : Int32)), .val (.long p3), .second, .val (.long p2), .second, .val (.long p2), .second, .val (.long p3), .second, .val (.long p2), .second] []))
                refine Go.by (fun _ => XS.iconst X104.here hx rfl (hb hby at_304)) ?_
                show Go p.tables e below _ (T104.setTop (mkF m 305 #[.val (.int p0), .val (.int p1), .val (.long p2), .second, .val (.long p3), .second, .val (.int ip), .val (.int lp), .val (.int (1 : Int32)), .val (.ref b61), .val (.int r1), .val (.int f1), .val (.int r2), .val (.int f2), .val (.int r3), .val (.int f3), .val (.int (0 : Int32)), .val (.int (1 : Int32)), .val (.int (0 : Int32)), .val (.long p3), .second, .val (.long p2), .second, .val (.long p2), .second, .val (.long p3), .second, .val (.long p2), .second] [(.int (1 : Int32))]))
                refine Go.by (fun _ => XS.goto X104.here hx rfl (pc0 := 305) (pc' := 309) rfl (hb hby at_305) (by decide) (by decide)) ?_
                show Go p.tables e below _ (T104.setTop (mkF m 309 #[.val (.int p0), .val (.int p1), .val (.long p2), .second, .val (.long p3), .second, .val (.int ip), .val (.int lp), .val (.int (1 : Int32)), .val (.ref b61), .val (.int r1), .val (.int f1), .val (.int r2), .val (.int f2), .val (.int r3), .val (.int f3), .val (.int (0 : Int32)), .val (.int (1 : Int32)), .val (.int (0 : Int32)), .val (.long p3), .second, .val (.long p2), .second, .val (.long p2), .second, .val (.long p3), .second, .val (.long p2), .second] [(.int (1 : Int32))]))
                exact Go.retN X104 hx hlk (z' := (1 : Int32)) hret (by simp) (hb hby at_309) rfl (by decide) (by decide) rfl
            refine Go.by (fun _ => XS.iload Xj97.here hx rfl (hb hby at_192) rfl) ?_
            refine Go.by (fun _ => XS.iload Xj97.here hx rfl (hb hby at_194) rfl) ?_
            by_cases hc196_105 : r2 = r3
            · skip
              refine Go.by (fun _ => XS.icmpNo Xj97.here hx rfl (hb hby at_196) rfl (teq hc196_105).2) ?_
              show Go p.tables e below _ (Tj97.setTop (mkF m 199 #[.val (.int p0), .val (.int p1), .val (.long p2), .second, .val (.long p3), .second, .val (.int ip), .val (.int lp), .val (.int (1 : Int32)), .val (.ref b61), .val (.int r1), .val (.int f1), .val (.int r2), .val (.int f2), .val (.int r3), .val (.int f3), .val (.int (0 : Int32)), .val (.int (1 : Int32)), .unset, .unset, .unset, .unset, .unset, .unset, .unset, .unset, .unset, .unset, .unset] []))
              refine Go.by (fun _ => XS.iload Xj97.here hx rfl (hb hby at_199) rfl) ?_
              refine Go.by (fun _ => XS.iload Xj97.here hx rfl (hb hby at_201) rfl) ?_
              by_cases hc203_106 : f2 = f3
              · skip
                refine Go.by (fun _ => XS.icmpNo Xj97.here hx rfl (hb hby at_203) rfl (teq hc203_106).2) ?_
                show Go p.tables e below _ (Tj97.setTop (mkF m 206 #[.val (.int p0), .val (.int p1), .val (.long p2), .second, .val (.long p3), .second, .val (.int ip), .val (.int lp), .val (.int (1 : Int32)), .val (.ref b61), .val (.int r1), .val (.int f1), .val (.int r2), .val (.int f2), .val (.int r3), .val (.int f3), .val (.int (0 : Int32)), .val (.int (1 : Int32)), .unset, .unset, .unset, .unset, .unset, .unset, .unset, .unset, .unset, .unset, .unset] []))
                refine Go.by (fun _ => XS.iconst Xj97.here hx rfl (hb hby at_206)) ?_
                refine Go.by (fun _ => XS.goto Xj97.here hx rfl (pc0 := 207) (pc' := 211) rfl (hb hby at_207) (by decide) (by decide)) ?_
                show Go p.tables e below _ (Tj97.setTop (mkF m 211 #[.val (.int p0), .val (.int p1), .val (.long p2), .second, .val (.long p3), .second, .val (.int ip), .val (.int lp), .val (.int (1 : Int32)), .val (.ref b61), .val (.int r1), .val (.int f1), .val (.int r2), .val (.int f2), .val (.int r3), .val (.int f3), .val (.int (0 : Int32)), .val (.int (1 : Int32)), .unset, .unset, .unset, .unset, .unset, .unset, .unset, .unset, .unset, .unset, .unset] [(.int (1 : Int32))]))
                exact J98 _ Xj97 _ (Or.inl ⟨rfl, hc196_105, hc203_106⟩)
              · skip
                refine Go.by (fun _ => XS.icmpYes Xj97.here hx rfl (pc0 := 203) (pc' := 210) rfl (hb hby at_203) rfl (feq hc203_106).2 (by decide) (by decide)) ?_
                show Go p.tables e below _ (Tj97.setTop (mkF m 210 #[.val (.int p0), .val (.int p1), .val (.long p2), .second, .val (.long p3), .second, .val (.int ip), .val (.int lp), .val (.int (1 : Int32)), .val (.ref b61), .val (.int r1), .val (.int f1), .val (.int r2), .val (.int f2), .val (.int r3), .val (.int f3), .val (.int (0 : Int32)), .val (.int (1 : Int32)), .unset, .unset, .unset, .unset, .unset, .unset, .unset, .unset, .unset, .unset, .unset] []))
                refine Go.by (fun _ => XS.iconst Xj97.here hx rfl (hb hby at_210)) ?_
                show Go p.tables e below _ (Tj97.setTop (mkF m 211 #[.val (.int p0), .val (.int p1), .val (.long p2), .second, .val (.long p3), .second, .val (.int ip), .val (.int lp), .val (.int (1 : Int32)), .val (.ref b61), .val (.int r1), .val (.int f1), .val (.int r2), .val (.int f2), .val (.int r3), .val (.int f3), .val (.int (0 : Int32)), .val (.int (1 : Int32)), .unset, .unset, .unset, .unset, .unset, .unset, .unset, .unset, .unset, .unset, .unset] [(.int (0 : Int32))]))
                exact J98 _ Xj97 _ (Or.inr ⟨rfl, fun q => hc203_106 q.2⟩)
            · skip
              refine Go.by (fun _ => XS.icmpYes Xj97.here hx rfl (pc0 := 196) (pc' := 210) rfl (hb hby at_196) rfl (feq hc196_105).2 (by decide) (by decide)) ?_
              show Go p.tables e below _ (Tj97.setTop (mkF m 210 #[.val (.int p0), .val (.int p1), .val (.long p2), .second, .val (.long p3), .second, .val (.int ip), .val (.int lp), .val (.int (1 : Int32)), .val (.ref b61), .val (.int r1), .val (.int f1), .val (.int r2), .val (.int f2), .val (.int r3), .val (.int f3), .val (.int (0 : Int32)), .val (.int (1 : Int32)), .unset, .unset, .unset, .unset, .unset, .unset, .unset, .unset, .unset, .unset, .unset] []))
              refine Go.by (fun _ => XS.iconst Xj97.here hx rfl (hb hby at_210)) ?_
              show Go p.tables e below _ (Tj97.setTop (mkF m 211 #[.val (.int p0), .val (.int p1), .val (.long p2), .second, .val (.long p3), .second, .val (.int ip), .val (.int lp), .val (.int (1 : Int32)), .val (.ref b61), .val (.int r1), .val (.int f1), .val (.int r2), .val (.int f2), .val (.int r3), .val (.int f3), .val (.int (0 : Int32)), .val (.int (1 : Int32)), .unset, .unset, .unset, .unset, .unset, .unset, .unset, .unset, .unset, .unset, .unset] [(.int (0 : Int32))]))
              exact J98 _ Xj97 _ (Or.inr ⟨rfl, fun q => hc196_105 q.1⟩)
          · skip
            show Go p.tables e below _ (Tj97.setTop (mkF m 190 #[.val (.int p0), .val (.int p1), .val (.long p2), .second, .val (.long p3), .second, .val (.int ip), .val (.int lp), .val (.int (1 : Int32)), .val (.ref b61), .val (.int r1), .val (.int f1), .val (.int r2), .val (.int f2), .val (.int r3), .val (.int f3), .val (.int (0 : Int32)), .unset, .unset, .unset, .unset, .unset, .unset, .unset, .unset, .unset, .unset, .unset, .unset] [(.int (0 : Int32))]))
            refine Go.by (fun _ => XS.istore Xj97.here hx rfl (hb hby at_190) rfl (l' := #[.val (.int p0), .val (.int p1), .val (.long p2), .second, .val (.long p3), .second, .val (.int ip), .val (.int lp), .val (.int (1 : Int32)), .val (.ref b61), .val (.int r1), .val (.int f1), .val (.int r2), .val (.int f2), .val (.int r3), .val (.int f3), .val (.int (0 : Int32)), .val (.int (0 : Int32)), .unset, .unset, .unset, .unset, .unset, .unset, .unset, .unset, .unset, .unset, .unset]) rfl) ?_
            show Go p.tables e below _ (Tj97.setTop (mkF m 192 #[.val (.int p0), .val (.int p1), .val (.long p2), .second, .val (.long p3), .second, .val (.int ip), .val (.int lp), .val (.int (1 : Int32)), .val (.ref b61), .val (.int r1), .val (.int f1), .val (.int r2), .val (.int f2), .val (.int r3), .val (.int f3), .val (.int (0 : Int32)), .val (.int (0 : Int32)), .unset, .unset, .unset, .unset, .unset, .unset, .unset, .unset, .unset, .unset, .unset] []))
            have J107 : ∀ (Tj107 : State), Sd n0 p l e room_1 s m #[(.int p0), (.int p1), (.long p2), (.long p3)] below meth c Tj107 h73 7 504 → ∀ (jb : Int32), ((jb = 1 ∧ r2 = r3 ∧ f2 = f3) ∨ (jb = 0 ∧ ¬ (r2 = r3 ∧ f2 = f3))) → Go p.tables e below (Ret s n0 (fun v h => v = some (.int 1)) room_1.cells room_1.slots) (Tj107.setTop (mkF m 211 #[.val (.int p0), .val (.int p1), .val (.long p2), .second, .val (.long p3), .second, .val (.int ip), .val (.int lp), .val (.int (1 : Int32)), .val (.ref b61), .val (.int r1), .val (.int f1), .val (.int r2), .val (.int f2), .val (.int r3), .val (.int f3), .val (.int (0 : Int32)), .val (.int (0 : Int32)), .unset, .unset, .unset, .unset, .unset, .unset, .unset, .unset, .unset, .unset, .unset] [(.int jb)])) := by
              intro Tj107 Xj107 jb hj107
              rcases hj107 with ⟨rfl, hP18⟩ | ⟨rfl, hP18⟩
              · skip
                show Go p.tables e below _ (Tj107.setTop (mkF m 211 #[.val (.int p0), .val (.int p1), .val (.long p2), .second, .val (.long p3), .second, .val (.int ip), .val (.int lp), .val (.int (1 : Int32)), .val (.ref b61), .val (.int r1), .val (.int f1), .val (.int r2), .val (.int f2), .val (.int r3), .val (.int f3), .val (.int (0 : Int32)), .val (.int (0 : Int32)), .unset, .unset, .unset, .unset, .unset, .unset, .unset, .unset, .unset, .unset, .unset] [(.int (1 : Int32))]))
                refine Go.by (fun _ => XS.istore Xj107.here hx rfl (hb hby at_211) rfl (l' := #[.val (.int p0), .val (.int p1), .val (.long p2), .second, .val (.long p3), .second, .val (.int ip), .val (.int lp), .val (.int (1 : Int32)), .val (.ref b61), .val (.int r1), .val (.int f1), .val (.int r2), .val (.int f2), .val (.int r3), .val (.int f3), .val (.int (0 : Int32)), .val (.int (0 : Int32)), .val (.int (1 : Int32)), .unset, .unset, .unset, .unset, .unset, .unset, .unset, .unset, .unset, .unset]) rfl) ?_
                show Go p.tables e below _ (Tj107.setTop (mkF m 213 #[.val (.int p0), .val (.int p1), .val (.long p2), .second, .val (.long p3), .second, .val (.int ip), .val (.int lp), .val (.int (1 : Int32)), .val (.ref b61), .val (.int r1), .val (.int f1), .val (.int r2), .val (.int f2), .val (.int r3), .val (.int f3), .val (.int (0 : Int32)), .val (.int (0 : Int32)), .val (.int (1 : Int32)), .unset, .unset, .unset, .unset, .unset, .unset, .unset, .unset, .unset, .unset] []))
                refine Go.by (fun _ => XS.iload Xj107.here hx rfl (hb hby at_213) rfl) ?_
                refine Go.by (fun _ => XS.ifYes Xj107.here hx rfl (pc0 := 215) (pc' := 222) rfl (hb hby at_215) rfl ((if0 _ _).trans (teq (by decide)).1) (by decide) (by decide)) ?_
                show Go p.tables e below _ (Tj107.setTop (mkF m 222 #[.val (.int p0), .val (.int p1), .val (.long p2), .second, .val (.long p3), .second, .val (.int ip), .val (.int lp), .val (.int (1 : Int32)), .val (.ref b61), .val (.int r1), .val (.int f1), .val (.int r2), .val (.int f2), .val (.int r3), .val (.int f3), .val (.int (0 : Int32)), .val (.int (0 : Int32)), .val (.int (1 : Int32)), .unset, .unset, .unset, .unset, .unset, .unset, .unset, .unset, .unset, .unset] []))
                refine Go.by (fun _ => XS.lload Xj107.here hx rfl (hb hby at_222) rfl) ?_
                refine Go.by (fun _ => XS.lstore Xj107.here hx rfl (hb hby at_224) rfl (l' := #[.val (.int p0), .val (.int p1), .val (.long p2), .second, .val (.long p3), .second, .val (.int ip), .val (.int lp), .val (.int (1 : Int32)), .val (.ref b61), .val (.int r1), .val (.int f1), .val (.int r2), .val (.int f2), .val (.int r3), .val (.int f3), .val (.int (0 : Int32)), .val (.int (0 : Int32)), .val (.int (1 : Int32)), .val (.long p3), .second, .unset, .unset, .unset, .unset, .unset, .unset, .unset, .unset]) rfl) ?_
                show Go p.tables e below _ (Tj107.setTop (mkF m 226 #[.val (.int p0), .val (.int p1), .val (.long p2), .second, .val (.long p3), .second, .val (.int ip), .val (.int lp), .val (.int (1 : Int32)), .val (.ref b61), .val (.int r1), .val (.int f1), .val (.int r2), .val (.int f2), .val (.int r3), .val (.int f3), .val (.int (0 : Int32)), .val (.int (0 : Int32)), .val (.int (1 : Int32)), .val (.long p3), .second, .unset, .unset, .unset, .unset, .unset, .unset, .unset, .unset] []))
                refine Go.by (fun _ => XS.iload Xj107.here hx rfl (hb hby at_226) rfl) ?_
                refine Go.by (fun _ => XS.ifYes Xj107.here hx rfl (pc0 := 228) (pc' := 235) rfl (hb hby at_228) rfl ((if0 _ _).trans (teq (by decide)).1) (by decide) (by decide)) ?_
                show Go p.tables e below _ (Tj107.setTop (mkF m 235 #[.val (.int p0), .val (.int p1), .val (.long p2), .second, .val (.long p3), .second, .val (.int ip), .val (.int lp), .val (.int (1 : Int32)), .val (.ref b61), .val (.int r1), .val (.int f1), .val (.int r2), .val (.int f2), .val (.int r3), .val (.int f3), .val (.int (0 : Int32)), .val (.int (0 : Int32)), .val (.int (1 : Int32)), .val (.long p3), .second, .unset, .unset, .unset, .unset, .unset, .unset, .unset, .unset] []))
                refine Go.by (fun _ => XS.iload Xj107.here hx rfl (hb hby at_235) rfl) ?_
                refine Go.by (fun _ => XS.ifNo Xj107.here hx rfl (hb hby at_237) rfl ((if0 _ _).trans (feq (by decide)).1)) ?_
                show Go p.tables e below _ (Tj107.setTop (mkF m 240 #[.val (.int p0), .val (.int p1), .val (.long p2), .second, .val (.long p3), .second, .val (.int ip), .val (.int lp), .val (.int (1 : Int32)), .val (.ref b61), .val (.int r1), .val (.int f1), .val (.int r2), .val (.int f2), .val (.int r3), .val (.int f3), .val (.int (0 : Int32)), .val (.int (0 : Int32)), .val (.int (1 : Int32)), .val (.long p3), .second, .unset, .unset, .unset, .unset, .unset, .unset, .unset, .unset] []))
                refine Go.by (fun _ => XS.lload Xj107.here hx rfl (hb hby at_240) rfl) ?_
                refine Go.by (fun _ => XS.goto Xj107.here hx rfl (pc0 := 242) (pc' := 246) rfl (hb hby at_242) (by decide) (by decide)) ?_
                show Go p.tables e below _ (Tj107.setTop (mkF m 246 #[.val (.int p0), .val (.int p1), .val (.long p2), .second, .val (.long p3), .second, .val (.int ip), .val (.int lp), .val (.int (1 : Int32)), .val (.ref b61), .val (.int r1), .val (.int f1), .val (.int r2), .val (.int f2), .val (.int r3), .val (.int f3), .val (.int (0 : Int32)), .val (.int (0 : Int32)), .val (.int (1 : Int32)), .val (.long p3), .second, .unset, .unset, .unset, .unset, .unset, .unset, .unset, .unset] [(.long p3)]))
                refine Go.by (fun _ => XS.lstore Xj107.here hx rfl (hb hby at_246) rfl (l' := #[.val (.int p0), .val (.int p1), .val (.long p2), .second, .val (.long p3), .second, .val (.int ip), .val (.int lp), .val (.int (1 : Int32)), .val (.ref b61), .val (.int r1), .val (.int f1), .val (.int r2), .val (.int f2), .val (.int r3), .val (.int f3), .val (.int (0 : Int32)), .val (.int (0 : Int32)), .val (.int (1 : Int32)), .val (.long p3), .second, .val (.long p3), .second, .unset, .unset, .unset, .unset, .unset, .unset]) rfl) ?_
                show Go p.tables e below _ (Tj107.setTop (mkF m 248 #[.val (.int p0), .val (.int p1), .val (.long p2), .second, .val (.long p3), .second, .val (.int ip), .val (.int lp), .val (.int (1 : Int32)), .val (.ref b61), .val (.int r1), .val (.int f1), .val (.int r2), .val (.int f2), .val (.int r3), .val (.int f3), .val (.int (0 : Int32)), .val (.int (0 : Int32)), .val (.int (1 : Int32)), .val (.long p3), .second, .val (.long p3), .second, .unset, .unset, .unset, .unset, .unset, .unset] []))
                refine Go.by (fun _ => XS.aload Xj107.here hx rfl (hb hby at_248) rfl rfl) ?_
                refine Go.by (fun _ => XS.iload Xj107.here hx rfl (hb hby at_250) rfl) ?_
                show Go p.tables e below _ (Tj107.setTop (mkF m 252 #[.val (.int p0), .val (.int p1), .val (.long p2), .second, .val (.long p3), .second, .val (.int ip), .val (.int lp), .val (.int (1 : Int32)), .val (.ref b61), .val (.int r1), .val (.int f1), .val (.int r2), .val (.int f2), .val (.int r3), .val (.int f3), .val (.int (0 : Int32)), .val (.int (0 : Int32)), .val (.int (1 : Int32)), .val (.long p3), .second, .val (.long p3), .second, .unset, .unset, .unset, .unset, .unset, .unset] [(.int r1), (.ref b61)]))
                refine Go.by (fun _ => XS.iload Xj107.here hx rfl (hb hby at_252) rfl) ?_
                obtain ⟨v108, T108, h108, X108, q108, st108⟩ := Xj107.callV hx hZ (y := (⟨"com/example/spotline/spotline/engine/Table", "getLong", "(II)J"⟩ : MethodName)) (z := (⟨"com/example/spotline/spotline/engine/Table", "getLong", "(II)J"⟩ : MethodName)) hown (tw hw 65 rfl) (tw hw 66 rfl) (notFace_of_selects (args := #[]) (mvT hZ (tw hw 68 rfl))) (tw hw 68 rfl) (tw hw 67 rfl) (tw hw 3 rfl) (tw hw 69 rfl) (by decide) (rm9 l Z a0 hw [] b61 r1 f1 oL63 dL65 kL63 kdL65 ip (((64 : Int32) * ip).toNatClampNeg) (fun i => if i = 0 then (.ref dL65) else .null) (fun t => if t = ((((r1 &&& (65535 : Int32)) * ip) + f1).toNatClampNeg) then (.long p2) else (fun t => if t = ((((r2 &&& (65535 : Int32)) * ip) + f2).toNatClampNeg) then (.long p3) else (fun _ => (.long 0)) t) t) p2 h73 n0 Zs74 f74_1315 f74_1318 f74_1311 rfl V73 hc_r1_f1.1 hc_r1_f1.2.1 hc_r1_f1.2.2 (if_pos rfl)) f74_1310 (g := (mkF m 254 #[.val (.int p0), .val (.int p1), .val (.long p2), .second, .val (.long p3), .second, .val (.int ip), .val (.int lp), .val (.int (1 : Int32)), .val (.ref b61), .val (.int r1), .val (.int f1), .val (.int r2), .val (.int f2), .val (.int r3), .val (.int f3), .val (.int (0 : Int32)), .val (.int (0 : Int32)), .val (.int (1 : Int32)), .val (.long p3), .second, .val (.long p3), .second, .unset, .unset, .unset, .unset, .unset, .unset] [(.int f1), (.int r1), (.ref b61)])) rfl (by rw [hml]; rfl) (argsL := [(.int r1), (.int f1)]) (rest := []) (lenOf pd6 rfl) rfl (hb hby at_254) rfl (by decide) (Nat.le_of_ble_eq_true rfl) (k' := 7) (n' := 504) rfl rfl (by decide) (by decide)
                refine Go.by st108 ?_
                obtain ⟨rfl, rfl⟩ := q108
                show Go p.tables e below _ (T108.setTop (mkF m 257 #[.val (.int p0), .val (.int p1), .val (.long p2), .second, .val (.long p3), .second, .val (.int ip), .val (.int lp), .val (.int (1 : Int32)), .val (.ref b61), .val (.int r1), .val (.int f1), .val (.int r2), .val (.int f2), .val (.int r3), .val (.int f3), .val (.int (0 : Int32)), .val (.int (0 : Int32)), .val (.int (1 : Int32)), .val (.long p3), .second, .val (.long p3), .second, .unset, .unset, .unset, .unset, .unset, .unset] [(.long p2)]))
                refine Go.by (fun _ => XS.lstore X108.here hx rfl (hb hby at_257) rfl (l' := #[.val (.int p0), .val (.int p1), .val (.long p2), .second, .val (.long p3), .second, .val (.int ip), .val (.int lp), .val (.int (1 : Int32)), .val (.ref b61), .val (.int r1), .val (.int f1), .val (.int r2), .val (.int f2), .val (.int r3), .val (.int f3), .val (.int (0 : Int32)), .val (.int (0 : Int32)), .val (.int (1 : Int32)), .val (.long p3), .second, .val (.long p3), .second, .val (.long p2), .second, .unset, .unset, .unset, .unset]) rfl) ?_
                show Go p.tables e below _ (T108.setTop (mkF m 259 #[.val (.int p0), .val (.int p1), .val (.long p2), .second, .val (.long p3), .second, .val (.int ip), .val (.int lp), .val (.int (1 : Int32)), .val (.ref b61), .val (.int r1), .val (.int f1), .val (.int r2), .val (.int f2), .val (.int r3), .val (.int f3), .val (.int (0 : Int32)), .val (.int (0 : Int32)), .val (.int (1 : Int32)), .val (.long p3), .second, .val (.long p3), .second, .val (.long p2), .second, .unset, .unset, .unset, .unset] []))
                refine Go.by (fun _ => XS.aload X108.here hx rfl (hb hby at_259) rfl rfl) ?_
                refine Go.by (fun _ => XS.iload X108.here hx rfl (hb hby at_261) rfl) ?_
                refine Go.by (fun _ => XS.iload X108.here hx rfl (hb hby at_263) rfl) ?_
                obtain ⟨v109, T109, h109, X109, q109, st109⟩ := X108.callV hx hZ (y := (⟨"com/example/spotline/spotline/engine/Table", "getLong", "(II)J"⟩ : MethodName)) (z := (⟨"com/example/spotline/spotline/engine/Table", "getLong", "(II)J"⟩ : MethodName)) hown (tw hw 65 rfl) (tw hw 66 rfl) (notFace_of_selects (args := #[]) (mvT hZ (tw hw 68 rfl))) (tw hw 68 rfl) (tw hw 67 rfl) (tw hw 3 rfl) (tw hw 69 rfl) (by decide) (rm9 l Z a0 hw [] b61 r2 f2 oL63 dL65 kL63 kdL65 ip (((64 : Int32) * ip).toNatClampNeg) (fun i => if i = 0 then (.ref dL65) else .null) (fun t => if t = ((((r1 &&& (65535 : Int32)) * ip) + f1).toNatClampNeg) then (.long p2) else (fun t => if t = ((((r2 &&& (65535 : Int32)) * ip) + f2).toNatClampNeg) then (.long p3) else (fun _ => (.long 0)) t) t) p3 h73 n0 Zs74 f74_1315 f74_1318 f74_1311 rfl V73 hc_r2_f2.1 hc_r2_f2.2.1 hc_r2_f2.2.2 ((if_neg (fun q => hP16 ⟨(own_same h_r2.1 h_r2.2 hip1 hip2 h_f2.1 h_f2.2 h_r1.1 h_r1.2 h_f1.1 h_f1.2 q).1.symm, (own_same h_r2.1 h_r2.2 hip1 hip2 h_f2.1 h_f2.2 h_r1.1 h_r1.2 h_f1.1 h_f1.2 q).2.symm⟩)).trans (if_pos rfl))) f74_1310 (g := (mkF m 265 #[.val (.int p0), .val (.int p1), .val (.long p2), .second, .val (.long p3), .second, .val (.int ip), .val (.int lp), .val (.int (1 : Int32)), .val (.ref b61), .val (.int r1), .val (.int f1), .val (.int r2), .val (.int f2), .val (.int r3), .val (.int f3), .val (.int (0 : Int32)), .val (.int (0 : Int32)), .val (.int (1 : Int32)), .val (.long p3), .second, .val (.long p3), .second, .val (.long p2), .second, .unset, .unset, .unset, .unset] [(.int f2), (.int r2), (.ref b61)])) rfl (by rw [hml]; rfl) (argsL := [(.int r2), (.int f2)]) (rest := []) (lenOf pd6 rfl) rfl (hb hby at_265) rfl (by decide) (Nat.le_of_ble_eq_true rfl) (k' := 7) (n' := 504) rfl rfl (by decide) (by decide)
                refine Go.by st109 ?_
                obtain ⟨rfl, rfl⟩ := q109
                show Go p.tables e below _ (T109.setTop (mkF m 268 #[.val (.int p0), .val (.int p1), .val (.long p2), .second, .val (.long p3), .second, .val (.int ip), .val (.int lp), .val (.int (1 : Int32)), .val (.ref b61), .val (.int r1), .val (.int f1), .val (.int r2), .val (.int f2), .val (.int r3), .val (.int f3), .val (.int (0 : Int32)), .val (.int (0 : Int32)), .val (.int (1 : Int32)), .val (.long p3), .second, .val (.long p3), .second, .val (.long p2), .second, .unset, .unset, .unset, .unset] [(.long p3)]))
                refine Go.by (fun _ => XS.lstore X109.here hx rfl (hb hby at_268) rfl (l' := #[.val (.int p0), .val (.int p1), .val (.long p2), .second, .val (.long p3), .second, .val (.int ip), .val (.int lp), .val (.int (1 : Int32)), .val (.ref b61), .val (.int r1), .val (.int f1), .val (.int r2), .val (.int f2), .val (.int r3), .val (.int f3), .val (.int (0 : Int32)), .val (.int (0 : Int32)), .val (.int (1 : Int32)), .val (.long p3), .second, .val (.long p3), .second, .val (.long p2), .second, .val (.long p3), .second, .unset, .unset]) rfl) ?_
                show Go p.tables e below _ (T109.setTop (mkF m 270 #[.val (.int p0), .val (.int p1), .val (.long p2), .second, .val (.long p3), .second, .val (.int ip), .val (.int lp), .val (.int (1 : Int32)), .val (.ref b61), .val (.int r1), .val (.int f1), .val (.int r2), .val (.int f2), .val (.int r3), .val (.int f3), .val (.int (0 : Int32)), .val (.int (0 : Int32)), .val (.int (1 : Int32)), .val (.long p3), .second, .val (.long p3), .second, .val (.long p2), .second, .val (.long p3), .second, .unset, .unset] []))
                refine Go.by (fun _ => XS.aload X109.here hx rfl (hb hby at_270) rfl rfl) ?_
                refine Go.by (fun _ => XS.iload X109.here hx rfl (hb hby at_272) rfl) ?_
                refine Go.by (fun _ => XS.iload X109.here hx rfl (hb hby at_274) rfl) ?_
                obtain ⟨v110, T110, h110, X110, q110, st110⟩ := X109.callV hx hZ (y := (⟨"com/example/spotline/spotline/engine/Table", "getLong", "(II)J"⟩ : MethodName)) (z := (⟨"com/example/spotline/spotline/engine/Table", "getLong", "(II)J"⟩ : MethodName)) hown (tw hw 65 rfl) (tw hw 66 rfl) (notFace_of_selects (args := #[]) (mvT hZ (tw hw 68 rfl))) (tw hw 68 rfl) (tw hw 67 rfl) (tw hw 3 rfl) (tw hw 69 rfl) (by decide) (rm9 l Z a0 hw [] b61 r3 f3 oL63 dL65 kL63 kdL65 ip (((64 : Int32) * ip).toNatClampNeg) (fun i => if i = 0 then (.ref dL65) else .null) (fun t => if t = ((((r1 &&& (65535 : Int32)) * ip) + f1).toNatClampNeg) then (.long p2) else (fun t => if t = ((((r2 &&& (65535 : Int32)) * ip) + f2).toNatClampNeg) then (.long p3) else (fun _ => (.long 0)) t) t) p3 h73 n0 Zs74 f74_1315 f74_1318 f74_1311 rfl V73 hc_r3_f3.1 hc_r3_f3.2.1 hc_r3_f3.2.2 ((if_neg (fun q => hP17 ⟨(own_same h_r3.1 h_r3.2 hip1 hip2 h_f3.1 h_f3.2 h_r1.1 h_r1.2 h_f1.1 h_f1.2 q).1.symm, (own_same h_r3.1 h_r3.2 hip1 hip2 h_f3.1 h_f3.2 h_r1.1 h_r1.2 h_f1.1 h_f1.2 q).2.symm⟩)).trans (if_pos (by rw [hP18.1, hP18.2])))) f74_1310 (g := (mkF m 276 #[.val (.int p0), .val (.int p1), .val (.long p2), .second, .val (.long p3), .second, .val (.int ip), .val (.int lp), .val (.int (1 : Int32)), .val (.ref b61), .val (.int r1), .val (.int f1), .val (.int r2), .val (.int f2), .val (.int r3), .val (.int f3), .val (.int (0 : Int32)), .val (.int (0 : Int32)), .val (.int (1 : Int32)), .val (.long p3), .second, .val (.long p3), .second, .val (.long p2), .second, .val (.long p3), .second, .unset, .unset] [(.int f3), (.int r3), (.ref b61)])) rfl (by rw [hml]; rfl) (argsL := [(.int r3), (.int f3)]) (rest := []) (lenOf pd6 rfl) rfl (hb hby at_276) rfl (by decide) (Nat.le_of_ble_eq_true rfl) (k' := 7) (n' := 504) rfl rfl (by decide) (by decide)
                refine Go.by st110 ?_
                obtain ⟨rfl, rfl⟩ := q110
                show Go p.tables e below _ (T110.setTop (mkF m 279 #[.val (.int p0), .val (.int p1), .val (.long p2), .second, .val (.long p3), .second, .val (.int ip), .val (.int lp), .val (.int (1 : Int32)), .val (.ref b61), .val (.int r1), .val (.int f1), .val (.int r2), .val (.int f2), .val (.int r3), .val (.int f3), .val (.int (0 : Int32)), .val (.int (0 : Int32)), .val (.int (1 : Int32)), .val (.long p3), .second, .val (.long p3), .second, .val (.long p2), .second, .val (.long p3), .second, .unset, .unset] [(.long p3)]))
                refine Go.by (fun _ => XS.lstore X110.here hx rfl (hb hby at_279) rfl (l' := #[.val (.int p0), .val (.int p1), .val (.long p2), .second, .val (.long p3), .second, .val (.int ip), .val (.int lp), .val (.int (1 : Int32)), .val (.ref b61), .val (.int r1), .val (.int f1), .val (.int r2), .val (.int f2), .val (.int r3), .val (.int f3), .val (.int (0 : Int32)), .val (.int (0 : Int32)), .val (.int (1 : Int32)), .val (.long p3), .second, .val (.long p3), .second, .val (.long p2), .second, .val (.long p3), .second, .val (.long p3), .second]) rfl) ?_
                show Go p.tables e below _ (T110.setTop (mkF m 281 #[.val (.int p0), .val (.int p1), .val (.long p2), .second, .val (.long p3), .second, .val (.int ip), .val (.int lp), .val (.int (1 : Int32)), .val (.ref b61), .val (.int r1), .val (.int f1), .val (.int r2), .val (.int f2), .val (.int r3), .val (.int f3), .val (.int (0 : Int32)), .val (.int (0 : Int32)), .val (.int (1 : Int32)), .val (.long p3), .second, .val (.long p3), .second, .val (.long p2), .second, .val (.long p3), .second, .val (.long p3), .second] []))
                refine Go.by (fun _ => XS.lload X110.here hx rfl (hb hby at_281) rfl) ?_
                refine Go.by (fun _ => XS.lloadN X110.here hx rfl (hb hby at_283) rfl) ?_
                show Go p.tables e below _ (T110.setTop (mkF m 284 #[.val (.int p0), .val (.int p1), .val (.long p2), .second, .val (.long p3), .second, .val (.int ip), .val (.int lp), .val (.int (1 : Int32)), .val (.ref b61), .val (.int r1), .val (.int f1), .val (.int r2), .val (.int f2), .val (.int r3), .val (.int f3), .val (.int (0 : Int32)), .val (.int (0 : Int32)), .val (.int (1 : Int32)), .val (.long p3), .second, .val (.long p3), .second, .val (.long p2), .second, .val (.long p3), .second, .val (.long p3), .second] [(.long p2), (.long p2)]))
                refine Go.by (fun _ => XS.lcmp X110.here hx rfl (hb hby at_284) rfl) ?_
                show Go p.tables e below _ (T110.setTop (mkF m 285 #[.val (.int p0), .val (.int p1), .val (.long p2), .second, .val (.long p3), .second, .val (.int ip), .val (.int lp), .val (.int (1 : Int32)), .val (.ref b61), .val (.int r1), .val (.int f1), .val (.int r2), .val (.int f2), .val (.int r3), .val (.int f3), .val (.int (0 : Int32)), .val (.int (0 : Int32)), .val (.int (1 : Int32)), .val (.long p3), .second, .val (.long p3), .second, .val (.long p2), .second, .val (.long p3), .second, .val (.long p3), .second] [(.int (lcmpW p2 p2))]))
                refine Go.by (fun _ => XS.ifNo X110.here hx rfl (hb hby at_285) rfl ((if0 _ _).trans (teq ((lw_eq _ _).mpr rfl)).2)) ?_
                show Go p.tables e below _ (T110.setTop (mkF m 288 #[.val (.int p0), .val (.int p1), .val (.long p2), .second, .val (.long p3), .second, .val (.int ip), .val (.int lp), .val (.int (1 : Int32)), .val (.ref b61), .val (.int r1), .val (.int f1), .val (.int r2), .val (.int f2), .val (.int r3), .val (.int f3), .val (.int (0 : Int32)), .val (.int (0 : Int32)), .val (.int (1 : Int32)), .val (.long p3), .second, .val (.long p3), .second, .val (.long p2), .second, .val (.long p3), .second, .val (.long p3), .second] []))
                refine Go.by (fun _ => XS.lload X110.here hx rfl (hb hby at_288) rfl) ?_
                refine Go.by (fun _ => XS.lload X110.here hx rfl (hb hby at_290) rfl) ?_
                refine Go.by (fun _ => XS.lcmp X110.here hx rfl (hb hby at_292) rfl) ?_
                show Go p.tables e below _ (T110.setTop (mkF m 293 #[.val (.int p0), .val (.int p1), .val (.long p2), .second, .val (.long p3), .second, .val (.int ip), .val (.int lp), .val (.int (1 : Int32)), .val (.ref b61), .val (.int r1), .val (.int f1), .val (.int r2), .val (.int f2), .val (.int r3), .val (.int f3), .val (.int (0 : Int32)), .val (.int (0 : Int32)), .val (.int (1 : Int32)), .val (.long p3), .second, .val (.long p3), .second, .val (.long p2), .second, .val (.long p3), .second, .val (.long p3), .second] [(.int (lcmpW p3 p3))]))
                refine Go.by (fun _ => XS.ifNo X110.here hx rfl (hb hby at_293) rfl ((if0 _ _).trans (teq ((lw_eq _ _).mpr rfl)).2)) ?_
                show Go p.tables e below _ (T110.setTop (mkF m 296 #[.val (.int p0), .val (.int p1), .val (.long p2), .second, .val (.long p3), .second, .val (.int ip), .val (.int lp), .val (.int (1 : Int32)), .val (.ref b61), .val (.int r1), .val (.int f1), .val (.int r2), .val (.int f2), .val (.int r3), .val (.int f3), .val (.int (0 : Int32)), .val (.int (0 : Int32)), .val (.int (1 : Int32)), .val (.long p3), .second, .val (.long p3), .second, .val (.long p2), .second, .val (.long p3), .second, .val (.long p3), .second] []))
                refine Go.by (fun _ => XS.lload X110.here hx rfl (hb hby at_296) rfl) ?_
                refine Go.by (fun _ => XS.lload X110.here hx rfl (hb hby at_298) rfl) ?_
                show Go p.tables e below _ (T110.setTop (mkF m 300 #[.val (.int p0), .val (.int p1), .val (.long p2), .second, .val (.long p3), .second, .val (.int ip), .val (.int lp), .val (.int (1 : Int32)), .val (.ref b61), .val (.int r1), .val (.int f1), .val (.int r2), .val (.int f2), .val (.int r3), .val (.int f3), .val (.int (0 : Int32)), .val (.int (0 : Int32)), .val (.int (1 : Int32)), .val (.long p3), .second, .val (.long p3), .second, .val (.long p2), .second, .val (.long p3), .second, .val (.long p3), .second] [(.long p3), (.long p3)]))
                refine Go.by (fun _ => XS.lcmp X110.here hx rfl (hb hby at_300) rfl) ?_
                show Go p.tables e below _ (T110.setTop (mkF m 301 #[.val (.int p0), .val (.int p1), .val (.long p2), .second, .val (.long p3), .second, .val (.int ip), .val (.int lp), .val (.int (1 : Int32)), .val (.ref b61), .val (.int r1), .val (.int f1), .val (.int r2), .val (.int f2), .val (.int r3), .val (.int f3), .val (.int (0 : Int32)), .val (.int (0 : Int32)), .val (.int (1 : Int32)), .val (.long p3), .second, .val (.long p3), .second, .val (.long p2), .second, .val (.long p3), .second, .val (.long p3), .second] [(.int (lcmpW p3 p3))]))
                refine Go.by (fun _ => XS.ifNo X110.here hx rfl (hb hby at_301) rfl ((if0 _ _).trans (teq ((lw_eq _ _).mpr rfl)).2)) ?_
                show Go p.tables e below _ (T110.setTop (mkF m 304 #[.val (.int p0), .val (.int p1), .val (.long p2), .second, .val (.long p3), .second, .val (.int ip), .val (.int lp), .val (.int (1 : Int32)), .val (.ref b61), .val (.int r1), .val (.int f1), .val (.int r2), .val (.int f2), .val (.int r3), .val (.int f3), .val (.int (0 : Int32)), .val (.int (0 : Int32)), .val (.int (1 : Int32)), .val (.long p3), .second, .val (.long p3), .second, .val (.long p2), .second, .val (.long p3), .second, .val (.long p3), .second] []))
                refine Go.by (fun _ => XS.iconst X110.here hx rfl (hb hby at_304)) ?_
                refine Go.by (fun _ => XS.goto X110.here hx rfl (pc0 := 305) (pc' := 309) rfl (hb hby at_305) (by decide) (by decide)) ?_
                show Go p.tables e below _ (T110.setTop (mkF m 309 #[.val (.int p0), .val (.int p1), .val (.long p2), .second, .val (.long p3), .second, .val (.int ip), .val (.int lp), .val (.int (1 : Int32)), .val (.ref b61), .val (.int r1), .val (.int f1), .val (.int r2), .val (.int f2), .val (.int r3), .val (.int f3), .val (.int (0 : Int32)), .val (.int (0 : Int32)), .val (.int (1 : Int32)), .val (.long p3), .second, .val (.long p3), .second, .val (.long p2), .second, .val (.long p3), .second, .val (.long p3), .second] [(.int (1 : Int32))]))
                exact Go.retN X110 hx hlk (z' := (1 : Int32)) hret (by simp) (hb hby at_309) rfl (by decide) (by decide) rfl
              · skip
                show Go p.tables e below _ (Tj107.setTop (mkF m 211 #[.val (.int p0), .val (.int p1), .val (.long p2), .second, .val (.long p3), .second, .val (.int ip), .val (.int lp), .val (.int (1 : Int32)), .val (.ref b61), .val (.int r1), .val (.int f1), .val (.int r2), .val (.int f2), .val (.int r3), .val (.int f3), .val (.int (0 : Int32)), .val (.int (0 : Int32)), .unset, .unset, .unset, .unset, .unset, .unset, .unset, .unset, .unset, .unset, .unset] [(.int (0 : Int32))]))
                refine Go.by (fun _ => XS.istore Xj107.here hx rfl (hb hby at_211) rfl (l' := #[.val (.int p0), .val (.int p1), .val (.long p2), .second, .val (.long p3), .second, .val (.int ip), .val (.int lp), .val (.int (1 : Int32)), .val (.ref b61), .val (.int r1), .val (.int f1), .val (.int r2), .val (.int f2), .val (.int r3), .val (.int f3), .val (.int (0 : Int32)), .val (.int (0 : Int32)), .val (.int (0 : Int32)), .unset, .unset, .unset, .unset, .unset, .unset, .unset, .unset, .unset, .unset]) rfl) ?_
                show Go p.tables e below _ (Tj107.setTop (mkF m 213 #[.val (.int p0), .val (.int p1), .val (.long p2), .second, .val (.long p3), .second, .val (.int ip), .val (.int lp), .val (.int (1 : Int32)), .val (.ref b61), .val (.int r1), .val (.int f1), .val (.int r2), .val (.int f2), .val (.int r3), .val (.int f3), .val (.int (0 : Int32)), .val (.int (0 : Int32)), .val (.int (0 : Int32)), .unset, .unset, .unset, .unset, .unset, .unset, .unset, .unset, .unset, .unset] []))
                refine Go.by (fun _ => XS.iload Xj107.here hx rfl (hb hby at_213) rfl) ?_
                refine Go.by (fun _ => XS.ifYes Xj107.here hx rfl (pc0 := 215) (pc' := 222) rfl (hb hby at_215) rfl ((if0 _ _).trans (teq (by decide)).1) (by decide) (by decide)) ?_
                show Go p.tables e below _ (Tj107.setTop (mkF m 222 #[.val (.int p0), .val (.int p1), .val (.long p2), .second, .val (.long p3), .second, .val (.int ip), .val (.int lp), .val (.int (1 : Int32)), .val (.ref b61), .val (.int r1), .val (.int f1), .val (.int r2), .val (.int f2), .val (.int r3), .val (.int f3), .val (.int (0 : Int32)), .val (.int (0 : Int32)), .val (.int (0 : Int32)), .unset, .unset, .unset, .unset, .unset, .unset, .unset, .unset, .unset, .unset] []))
                refine Go.by (fun _ => XS.lload Xj107.here hx rfl (hb hby at_222) rfl) ?_
                refine Go.by (fun _ => XS.lstore Xj107.here hx rfl (hb hby at_224) rfl (l' := #[.val (.int p0), .val (.int p1), .val (.long p2), .second, .val (.long p3), .second, .val (.int ip), .val (.int lp), .val (.int (1 : Int32)), .val (.ref b61), .val (.int r1), .val (.int f1), .val (.int r2), .val (.int f2), .val (.int r3), .val (.int f3), .val (.int (0 : Int32)), .val (.int (0 : Int32)), .val (.int (0 : Int32)), .val (.long p3), .second, .unset, .unset, .unset, .unset, .unset, .unset, .unset, .unset]) rfl) ?_
                show Go p.tables e below _ (Tj107.setTop (mkF m 226 #[.val (.int p0), .val (.int p1), .val (.long p2), .second, .val (.long p3), .second, .val (.int ip), .val (.int lp), .val (.int (1 : Int32)), .val (.ref b61), .val (.int r1), .val (.int f1), .val (.int r2), .val (.int f2), .val (.int r3), .val (.int f3), .val (.int (0 : Int32)), .val (.int (0 : Int32)), .val (.int (0 : Int32)), .val (.long p3), .second, .unset, .unset, .unset, .unset, .unset, .unset, .unset, .unset] []))
                refine Go.by (fun _ => XS.iload Xj107.here hx rfl (hb hby at_226) rfl) ?_
                refine Go.by (fun _ => XS.ifYes Xj107.here hx rfl (pc0 := 228) (pc' := 235) rfl (hb hby at_228) rfl ((if0 _ _).trans (teq (by decide)).1) (by decide) (by decide)) ?_
                show Go p.tables e below _ (Tj107.setTop (mkF m 235 #[.val (.int p0), .val (.int p1), .val (.long p2), .second, .val (.long p3), .second, .val (.int ip), .val (.int lp), .val (.int (1 : Int32)), .val (.ref b61), .val (.int r1), .val (.int f1), .val (.int r2), .val (.int f2), .val (.int r3), .val (.int f3), .val (.int (0 : Int32)), .val (.int (0 : Int32)), .val (.int (0 : Int32)), .val (.long p3), .second, .unset, .unset, .unset, .unset, .unset, .unset, .unset, .unset] []))
                refine Go.by (fun _ => XS.iload Xj107.here hx rfl (hb hby at_235) rfl) ?_
                refine Go.by (fun _ => XS.ifYes Xj107.here hx rfl (pc0 := 237) (pc' := 245) rfl (hb hby at_237) rfl ((if0 _ _).trans (teq (by decide)).1) (by decide) (by decide)) ?_
                show Go p.tables e below _ (Tj107.setTop (mkF m 245 #[.val (.int p0), .val (.int p1), .val (.long p2), .second, .val (.long p3), .second, .val (.int ip), .val (.int lp), .val (.int (1 : Int32)), .val (.ref b61), .val (.int r1), .val (.int f1), .val (.int r2), .val (.int f2), .val (.int r3), .val (.int f3), .val (.int (0 : Int32)), .val (.int (0 : Int32)), .val (.int (0 : Int32)), .val (.long p3), .second, .unset, .unset, .unset, .unset, .unset, .unset, .unset, .unset] []))
                refine Go.by (fun _ => XS.lconst Xj107.here hx rfl (hb hby at_245)) ?_
                refine Go.by (fun _ => XS.lstore Xj107.here hx rfl (hb hby at_246) rfl (l' := #[.val (.int p0), .val (.int p1), .val (.long p2), .second, .val (.long p3), .second, .val (.int ip), .val (.int lp), .val (.int (1 : Int32)), .val (.ref b61), .val (.int r1), .val (.int f1), .val (.int r2), .val (.int f2), .val (.int r3), .val (.int f3), .val (.int (0 : Int32)), .val (.int (0 : Int32)), .val (.int (0 : Int32)), .val (.long p3), .second, .val (.long (0 : Int64)), .second, .unset, .unset, .unset, .unset, .unset, .unset]) rfl) ?_
                show Go p.tables e below _ (Tj107.setTop (mkF m 248 #[.val (.int p0), .val (.int p1), .val (.long p2), .second, .val (.long p3), .second, .val (.int ip), .val (.int lp), .val (.int (1 : Int32)), .val (.ref b61), .val (.int r1), .val (.int f1), .val (.int r2), .val (.int f2), .val (.int r3), .val (.int f3), .val (.int (0 : Int32)), .val (.int (0 : Int32)), .val (.int (0 : Int32)), .val (.long p3), .second, .val (.long (0 : Int64)), .second, .unset, .unset, .unset, .unset, .unset, .unset] []))
                refine Go.by (fun _ => XS.aload Xj107.here hx rfl (hb hby at_248) rfl rfl) ?_
                refine Go.by (fun _ => XS.iload Xj107.here hx rfl (hb hby at_250) rfl) ?_
                show Go p.tables e below _ (Tj107.setTop (mkF m 252 #[.val (.int p0), .val (.int p1), .val (.long p2), .second, .val (.long p3), .second, .val (.int ip), .val (.int lp), .val (.int (1 : Int32)), .val (.ref b61), .val (.int r1), .val (.int f1), .val (.int r2), .val (.int f2), .val (.int r3), .val (.int f3), .val (.int (0 : Int32)), .val (.int (0 : Int32)), .val (.int (0 : Int32)), .val (.long p3), .second, .val (.long (0 : Int64)), .second, .unset, .unset, .unset, .unset, .unset, .unset] [(.int r1), (.ref b61)]))
                refine Go.by (fun _ => XS.iload Xj107.here hx rfl (hb hby at_252) rfl) ?_
                obtain ⟨v111, T111, h111, X111, q111, st111⟩ := Xj107.callV hx hZ (y := (⟨"com/example/spotline/spotline/engine/Table", "getLong", "(II)J"⟩ : MethodName)) (z := (⟨"com/example/spotline/spotline/engine/Table", "getLong", "(II)J"⟩ : MethodName)) hown (tw hw 65 rfl) (tw hw 66 rfl) (notFace_of_selects (args := #[]) (mvT hZ (tw hw 68 rfl))) (tw hw 68 rfl) (tw hw 67 rfl) (tw hw 3 rfl) (tw hw 69 rfl) (by decide) (rm9 l Z a0 hw [] b61 r1 f1 oL63 dL65 kL63 kdL65 ip (((64 : Int32) * ip).toNatClampNeg) (fun i => if i = 0 then (.ref dL65) else .null) (fun t => if t = ((((r1 &&& (65535 : Int32)) * ip) + f1).toNatClampNeg) then (.long p2) else (fun t => if t = ((((r2 &&& (65535 : Int32)) * ip) + f2).toNatClampNeg) then (.long p3) else (fun _ => (.long 0)) t) t) p2 h73 n0 Zs74 f74_1315 f74_1318 f74_1311 rfl V73 hc_r1_f1.1 hc_r1_f1.2.1 hc_r1_f1.2.2 (if_pos rfl)) f74_1310 (g := (mkF m 254 #[.val (.int p0), .val (.int p1), .val (.long p2), .second, .val (.long p3), .second, .val (.int ip), .val (.int lp), .val (.int (1 : Int32)), .val (.ref b61), .val (.int r1), .val (.int f1), .val (.int r2), .val (.int f2), .val (.int r3), .val (.int f3), .val (.int (0 : Int32)), .val (.int (0 : Int32)), .val (.int (0 : Int32)), .val (.long p3), .second, .val (.long (0 : Int64)), .second, .unset, .unset, .unset, .unset, .unset, .unset] [(.int f1), (.int r1), (.ref b61)])) rfl (by rw [hml]; rfl) (argsL := [(.int r1), (.int f1)]) (rest := []) (lenOf pd6 rfl) rfl (hb hby at_254) rfl (by decide) (Nat.le_of_ble_eq_true rfl) (k' := 7) (n' := 504) rfl rfl (by decide) (by decide)
                refine Go.by st111 ?_
                obtain ⟨rfl, rfl⟩ := q111
                show Go p.tables e below _ (T111.setTop (mkF m 257 #[.val (.int p0), .val (.int p1), .val (.long p2), .second, .val (.long p3), .second, .val (.int ip), .val (.int lp), .val (.int (1 : Int32)), .val (.ref b61), .val (.int r1), .val (.int f1), .val (.int r2), .val (.int f2), .val (.int r3), .val (.int f3), .val (.int (0 : Int32)), .val (.int (0 : Int32)), .val (.int (0 : Int32)), .val (.long p3), .second, .val (.long (0 : Int64)), .second, .unset, .unset, .unset, .unset, .unset, .unset] [(.long p2)]))
                refine Go.by (fun _ => XS.lstore X111.here hx rfl (hb hby at_257) rfl (l' := #[.val (.int p0), .val (.int p1), .val (.long p2), .second, .val (.long p3), .second, .val (.int ip), .val (.int lp), .val (.int (1 : Int32)), .val (.ref b61), .val (.int r1), .val (.int f1), .val (.int r2), .val (.int f2), .val (.int r3), .val (.int f3), .val (.int (0 : Int32)), .val (.int (0 : Int32)), .val (.int (0 : Int32)), .val (.long p3), .second, .val (.long (0 : Int64)), .second, .val (.long p2), .second, .unset, .unset, .unset, .unset]) rfl) ?_
                show Go p.tables e below _ (T111.setTop (mkF m 259 #[.val (.int p0), .val (.int p1), .val (.long p2), .second, .val (.long p3), .second, .val (.int ip), .val (.int lp), .val (.int (1 : Int32)), .val (.ref b61), .val (.int r1), .val (.int f1), .val (.int r2), .val (.int f2), .val (.int r3), .val (.int f3), .val (.int (0 : Int32)), .val (.int (0 : Int32)), .val (.int (0 : Int32)), .val (.long p3), .second, .val (.long (0 : Int64)), .second, .val (.long p2), .second, .unset, .unset, .unset, .unset] []))
                refine Go.by (fun _ => XS.aload X111.here hx rfl (hb hby at_259) rfl rfl) ?_
                refine Go.by (fun _ => XS.iload X111.here hx rfl (hb hby at_261) rfl) ?_
                refine Go.by (fun _ => XS.iload X111.here hx rfl (hb hby at_263) rfl) ?_
                obtain ⟨v112, T112, h112, X112, q112, st112⟩ := X111.callV hx hZ (y := (⟨"com/example/spotline/spotline/engine/Table", "getLong", "(II)J"⟩ : MethodName)) (z := (⟨"com/example/spotline/spotline/engine/Table", "getLong", "(II)J"⟩ : MethodName)) hown (tw hw 65 rfl) (tw hw 66 rfl) (notFace_of_selects (args := #[]) (mvT hZ (tw hw 68 rfl))) (tw hw 68 rfl) (tw hw 67 rfl) (tw hw 3 rfl) (tw hw 69 rfl) (by decide) (rm9 l Z a0 hw [] b61 r2 f2 oL63 dL65 kL63 kdL65 ip (((64 : Int32) * ip).toNatClampNeg) (fun i => if i = 0 then (.ref dL65) else .null) (fun t => if t = ((((r1 &&& (65535 : Int32)) * ip) + f1).toNatClampNeg) then (.long p2) else (fun t => if t = ((((r2 &&& (65535 : Int32)) * ip) + f2).toNatClampNeg) then (.long p3) else (fun _ => (.long 0)) t) t) p3 h73 n0 Zs74 f74_1315 f74_1318 f74_1311 rfl V73 hc_r2_f2.1 hc_r2_f2.2.1 hc_r2_f2.2.2 ((if_neg (fun q => hP16 ⟨(own_same h_r2.1 h_r2.2 hip1 hip2 h_f2.1 h_f2.2 h_r1.1 h_r1.2 h_f1.1 h_f1.2 q).1.symm, (own_same h_r2.1 h_r2.2 hip1 hip2 h_f2.1 h_f2.2 h_r1.1 h_r1.2 h_f1.1 h_f1.2 q).2.symm⟩)).trans (if_pos rfl))) f74_1310 (g := (mkF m 265 #[.val (.int p0), .val (.int p1), .val (.long p2), .second, .val (.long p3), .second, .val (.int ip), .val (.int lp), .val (.int (1 : Int32)), .val (.ref b61), .val (.int r1), .val (.int f1), .val (.int r2), .val (.int f2), .val (.int r3), .val (.int f3), .val (.int (0 : Int32)), .val (.int (0 : Int32)), .val (.int (0 : Int32)), .val (.long p3), .second, .val (.long (0 : Int64)), .second, .val (.long p2), .second, .unset, .unset, .unset, .unset] [(.int f2), (.int r2), (.ref b61)])) rfl (by rw [hml]; rfl) (argsL := [(.int r2), (.int f2)]) (rest := []) (lenOf pd6 rfl) rfl (hb hby at_265) rfl (by decide) (Nat.le_of_ble_eq_true rfl) (k' := 7) (n' := 504) rfl rfl (by decide) (by decide)
                refine Go.by st112 ?_
                obtain ⟨rfl, rfl⟩ := q112
                show Go p.tables e below _ (T112.setTop (mkF m 268 #[.val (.int p0), .val (.int p1), .val (.long p2), .second, .val (.long p3), .second, .val (.int ip), .val (.int lp), .val (.int (1 : Int32)), .val (.ref b61), .val (.int r1), .val (.int f1), .val (.int r2), .val (.int f2), .val (.int r3), .val (.int f3), .val (.int (0 : Int32)), .val (.int (0 : Int32)), .val (.int (0 : Int32)), .val (.long p3), .second, .val (.long (0 : Int64)), .second, .val (.long p2), .second, .unset, .unset, .unset, .unset] [(.long p3)]))
                refine Go.by (fun _ => XS.lstore X112.here hx rfl (hb hby at_268) rfl (l' := #[.val (.int p0), .val (.int p1), .val (.long p2), .second, .val (.long p3), .second, .val (.int ip), .val (.int lp), .val (.int (1 : Int32)), .val (.ref b61), .val (.int r1), .val (.int f1), .val (.int r2), .val (.int f2), .val (.int r3), .val (.int f3), .val (.int (0 : Int32)), .val (.int (0 : Int32)), .val (.int (0 : Int32)), .val (.long p3), .second, .val (.long (0 : Int64)), .second, .val (.long p2), .second, .val (.long p3), .second, .unset, .unset]) rfl) ?_
                show Go p.tables e below _ (T112.setTop (mkF m 270 #[.val (.int p0), .val (.int p1), .val (.long p2), .second, .val (.long p3), .second, .val (.int ip), .val (.int lp), .val (.int (1 : Int32)), .val (.ref b61), .val (.int r1), .val (.int f1), .val (.int r2), .val (.int f2), .val (.int r3), .val (.int f3), .val (.int (0 : Int32)), .val (.int (0 : Int32)), .val (.int (0 : Int32)), .val (.long p3), .second, .val (.long (0 : Int64)), .second, .val (.long p2), .second, .val (.long p3), .second, .unset, .unset] []))
                refine Go.by (fun _ => XS.aload X112.here hx rfl (hb hby at_270) rfl rfl) ?_
                refine Go.by (fun _ => XS.iload X112.here hx rfl (hb hby at_272) rfl) ?_
                refine Go.by (fun _ => XS.iload X112.here hx rfl (hb hby at_274) rfl) ?_
                obtain ⟨v113, T113, h113, X113, q113, st113⟩ := X112.callV hx hZ (y := (⟨"com/example/spotline/spotline/engine/Table", "getLong", "(II)J"⟩ : MethodName)) (z := (⟨"com/example/spotline/spotline/engine/Table", "getLong", "(II)J"⟩ : MethodName)) hown (tw hw 65 rfl) (tw hw 66 rfl) (notFace_of_selects (args := #[]) (mvT hZ (tw hw 68 rfl))) (tw hw 68 rfl) (tw hw 67 rfl) (tw hw 3 rfl) (tw hw 69 rfl) (by decide) (rm9 l Z a0 hw [] b61 r3 f3 oL63 dL65 kL63 kdL65 ip (((64 : Int32) * ip).toNatClampNeg) (fun i => if i = 0 then (.ref dL65) else .null) (fun t => if t = ((((r1 &&& (65535 : Int32)) * ip) + f1).toNatClampNeg) then (.long p2) else (fun t => if t = ((((r2 &&& (65535 : Int32)) * ip) + f2).toNatClampNeg) then (.long p3) else (fun _ => (.long 0)) t) t) (0 : Int64) h73 n0 Zs74 f74_1315 f74_1318 f74_1311 rfl V73 hc_r3_f3.1 hc_r3_f3.2.1 hc_r3_f3.2.2 ((if_neg (fun q => hP17 ⟨(own_same h_r3.1 h_r3.2 hip1 hip2 h_f3.1 h_f3.2 h_r1.1 h_r1.2 h_f1.1 h_f1.2 q).1.symm, (own_same h_r3.1 h_r3.2 hip1 hip2 h_f3.1 h_f3.2 h_r1.1 h_r1.2 h_f1.1 h_f1.2 q).2.symm⟩)).trans ((if_neg (fun q => hP18 ⟨(own_same h_r3.1 h_r3.2 hip1 hip2 h_f3.1 h_f3.2 h_r2.1 h_r2.2 h_f2.1 h_f2.2 q).1.symm, (own_same h_r3.1 h_r3.2 hip1 hip2 h_f3.1 h_f3.2 h_r2.1 h_r2.2 h_f2.1 h_f2.2 q).2.symm⟩)).trans rfl))) f74_1310 (g := (mkF m 276 #[.val (.int p0), .val (.int p1), .val (.long p2), .second, .val (.long p3), .second, .val (.int ip), .val (.int lp), .val (.int (1 : Int32)), .val (.ref b61), .val (.int r1), .val (.int f1), .val (.int r2), .val (.int f2), .val (.int r3), .val (.int f3), .val (.int (0 : Int32)), .val (.int (0 : Int32)), .val (.int (0 : Int32)), .val (.long p3), .second, .val (.long (0 : Int64)), .second, .val (.long p2), .second, .val (.long p3), .second, .unset, .unset] [(.int f3), (.int r3), (.ref b61)])) rfl (by rw [hml]; rfl) (argsL := [(.int r3), (.int f3)]) (rest := []) (lenOf pd6 rfl) rfl (hb hby at_276) rfl (by decide) (Nat.le_of_ble_eq_true rfl) (k' := 7) (n' := 504) rfl rfl (by decide) (by decide)
                refine Go.by st113 ?_
                obtain ⟨rfl, rfl⟩ := q113
                show Go p.tables e below _ (T113.setTop (mkF m 279 #[.val (.int p0), .val (.int p1), .val (.long p2), .second, .val (.long p3), .second, .val (.int ip), .val (.int lp), .val (.int (1 : Int32)), .val (.ref b61), .val (.int r1), .val (.int f1), .val (.int r2), .val (.int f2), .val (.int r3), .val (.int f3), .val (.int (0 : Int32)), .val (.int (0 : Int32)), .val (.int (0 : Int32)), .val (.long p3), .second, .val (.long (0 : Int64)), .second, .val (.long p2), .second, .val (.long p3), .second, .unset, .unset] [(.long (0 : Int64))]))
                refine Go.by (fun _ => XS.lstore X113.here hx rfl (hb hby at_279) rfl (l' := #[.val (.int p0), .val (.int p1), .val (.long p2), .second, .val (.long p3), .second, .val (.int ip), .val (.int lp), .val (.int (1 : Int32)), .val (.ref b61), .val (.int r1), .val (.int f1), .val (.int r2), .val (.int f2), .val (.int r3), .val (.int f3), .val (.int (0 : Int32)), .val (.int (0 : Int32)), .val (.int (0 : Int32)), .val (.long p3), .second, .val (.long (0 : Int64)), .second, .val (.long p2), .second, .val (.long p3), .second, .val (.long (0 : Int64)), .second]) rfl) ?_
                show Go p.tables e below _ (T113.setTop (mkF m 281 #[.val (.int p0), .val (.int p1), .val (.long p2), .second, .val (.long p3), .second, .val (.int ip), .val (.int lp), .val (.int (1 : Int32)), .val (.ref b61), .val (.int r1), .val (.int f1), .val (.int r2), .val (.int f2), .val (.int r3), .val (.int f3), .val (.int (0 : Int32)), .val (.int (0 : Int32)), .val (.int (0 : Int32)), .val (.long p3), .second, .val (.long (0 : Int64)), .second, .val (.long p2), .second, .val (.long p3), .second, .val (.long (0 : Int64)), .second] []))
                refine Go.by (fun _ => XS.lload X113.here hx rfl (hb hby at_281) rfl) ?_
                refine Go.by (fun _ => XS.lloadN X113.here hx rfl (hb hby at_283) rfl) ?_
                show Go p.tables e below _ (T113.setTop (mkF m 284 #[.val (.int p0), .val (.int p1), .val (.long p2), .second, .val (.long p3), .second, .val (.int ip), .val (.int lp), .val (.int (1 : Int32)), .val (.ref b61), .val (.int r1), .val (.int f1), .val (.int r2), .val (.int f2), .val (.int r3), .val (.int f3), .val (.int (0 : Int32)), .val (.int (0 : Int32)), .val (.int (0 : Int32)), .val (.long p3), .second, .val (.long (0 : Int64)), .second, .val (.long p2), .second, .val (.long p3), .second, .val (.long (0 : Int64)), .second] [(.long p2), (.long p2)]))
                refine Go.by (fun _ => XS.lcmp X113.here hx rfl (hb hby at_284) rfl) ?_
                show Go p.tables e below _ (T113.setTop (mkF m 285 #[.val (.int p0), .val (.int p1), .val (.long p2), .second, .val (.long p3), .second, .val (.int ip), .val (.int lp), .val (.int (1 : Int32)), .val (.ref b61), .val (.int r1), .val (.int f1), .val (.int r2), .val (.int f2), .val (.int r3), .val (.int f3), .val (.int (0 : Int32)), .val (.int (0 : Int32)), .val (.int (0 : Int32)), .val (.long p3), .second, .val (.long (0 : Int64)), .second, .val (.long p2), .second, .val (.long p3), .second, .val (.long (0 : Int64)), .second] [(.int (lcmpW p2 p2))]))
                refine Go.by (fun _ => XS.ifNo X113.here hx rfl (hb hby at_285) rfl ((if0 _ _).trans (teq ((lw_eq _ _).mpr rfl)).2)) ?_
                show Go p.tables e below _ (T113.setTop (mkF m 288 #[.val (.int p0), .val (.int p1), .val (.long p2), .second, .val (.long p3), .second, .val (.int ip), .val (.int lp), .val (.int (1 : Int32)), .val (.ref b61), .val (.int r1), .val (.int f1), .val (.int r2), .val (.int f2), .val (.int r3), .val (.int f3), .val (.int (0 : Int32)), .val (.int (0 : Int32)), .val (.int (0 : Int32)), .val (.long p3), .second, .val (.long (0 : Int64)), .second, .val (.long p2), .second, .val (.long p3), .second, .val (.long (0 : Int64)), .second] []))
                refine Go.by (fun _ => XS.lload X113.here hx rfl (hb hby at_288) rfl) ?_
                refine Go.by (fun _ => XS.lload X113.here hx rfl (hb hby at_290) rfl) ?_
                refine Go.by (fun _ => XS.lcmp X113.here hx rfl (hb hby at_292) rfl) ?_
                show Go p.tables e below _ (T113.setTop (mkF m 293 #[.val (.int p0), .val (.int p1), .val (.long p2), .second, .val (.long p3), .second, .val (.int ip), .val (.int lp), .val (.int (1 : Int32)), .val (.ref b61), .val (.int r1), .val (.int f1), .val (.int r2), .val (.int f2), .val (.int r3), .val (.int f3), .val (.int (0 : Int32)), .val (.int (0 : Int32)), .val (.int (0 : Int32)), .val (.long p3), .second, .val (.long (0 : Int64)), .second, .val (.long p2), .second, .val (.long p3), .second, .val (.long (0 : Int64)), .second] [(.int (lcmpW p3 p3))]))
                refine Go.by (fun _ => XS.ifNo X113.here hx rfl (hb hby at_293) rfl ((if0 _ _).trans (teq ((lw_eq _ _).mpr rfl)).2)) ?_
                show Go p.tables e below _ (T113.setTop (mkF m 296 #[.val (.int p0), .val (.int p1), .val (.long p2), .second, .val (.long p3), .second, .val (.int ip), .val (.int lp), .val (.int (1 : Int32)), .val (.ref b61), .val (.int r1), .val (.int f1), .val (.int r2), .val (.int f2), .val (.int r3), .val (.int f3), .val (.int (0 : Int32)), .val (.int (0 : Int32)), .val (.int (0 : Int32)), .val (.long p3), .second, .val (.long (0 : Int64)), .second, .val (.long p2), .second, .val (.long p3), .second, .val (.long (0 : Int64)), .second] []))
                refine Go.by (fun _ => XS.lload X113.here hx rfl (hb hby at_296) rfl) ?_
                refine Go.by (fun _ => XS.lload X113.here hx rfl (hb hby at_298) rfl) ?_
                show Go p.tables e below _ (T113.setTop (mkF m 300 #[.val (.int p0), .val (.int p1), .val (.long p2), .second, .val (.long p3), .second, .val (.int ip), .val (.int lp), .val (.int (1 : Int32)), .val (.ref b61), .val (.int r1), .val (.int f1), .val (.int r2), .val (.int f2), .val (.int r3), .val (.int f3), .val (.int (0 : Int32)), .val (.int (0 : Int32)), .val (.int (0 : Int32)), .val (.long p3), .second, .val (.long (0 : Int64)), .second, .val (.long p2), .second, .val (.long p3), .second, .val (.long (0 : Int64)), .second] [(.long (0 : Int64)), (.long (0 : Int64))]))
                refine Go.by (fun _ => XS.lcmp X113.here hx rfl (hb hby at_300) rfl) ?_
                show Go p.tables e below _ (T113.setTop (mkF m 301 #[.val (.int p0), .val (.int p1), .val (.long p2), .second, .val (.long p3), .second, .val (.int ip), .val (.int lp), .val (.int (1 : Int32)), .val (.ref b61), .val (.int r1), .val (.int f1), .val (.int r2), .val (.int f2), .val (.int r3), .val (.int f3), .val (.int (0 : Int32)), .val (.int (0 : Int32)), .val (.int (0 : Int32)), .val (.long p3), .second, .val (.long (0 : Int64)), .second, .val (.long p2), .second, .val (.long p3), .second, .val (.long (0 : Int64)), .second] [(.int (lcmpW (0 : Int64) (0 : Int64)))]))
                refine Go.by (fun _ => XS.ifNo X113.here hx rfl (hb hby at_301) rfl ((if0 _ _).trans (teq ((lw_eq _ _).mpr rfl)).2)) ?_
                show Go p.tables e below _ (T113.setTop (mkF m 304 #[.val (.int p0), .val (.int p1), .val (.long p2), .second, .val (.long p3), .second, .val (.int ip), .val (.int lp), .val (.int (1 : Int32)), .val (.ref b61), .val (.int r1), .val (.int f1), .val (.int r2), .val (.int f2), .val (.int r3), .val (.int f3), .val (.int (0 : Int32)), .val (.int (0 : Int32)), .val (.int (0 : Int32)), .val (.long p3), .second, .val (.long (0 : Int64)), .second, .val (.long p2), .second, .val (.long p3), .second, .val (.long (0 : Int64)), .second] []))
                refine Go.by (fun _ => XS.iconst X113.here hx rfl (hb hby at_304)) ?_
                refine Go.by (fun _ => XS.goto X113.here hx rfl (pc0 := 305) (pc' := 309) rfl (hb hby at_305) (by decide) (by decide)) ?_
                show Go p.tables e below _ (T113.setTop (mkF m 309 #[.val (.int p0), .val (.int p1), .val (.long p2), .second, .val (.long p3), .second, .val (.int ip), .val (.int lp), .val (.int (1 : Int32)), .val (.ref b61), .val (.int r1), .val (.int f1), .val (.int r2), .val (.int f2), .val (.int r3), .val (.int f3), .val (.int (0 : Int32)), .val (.int (0 : Int32)), .val (.int (0 : Int32)), .val (.long p3), .second, .val (.long (0 : Int64)), .second, .val (.long p2), .second, .val (.long p3), .second, .val (.long (0 : Int64)), .second] [(.int (1 : Int32))]))
                exact Go.retN X113 hx hlk (z' := (1 : Int32)) hret (by simp) (hb hby at_309) rfl (by decide) (by decide) rfl
            refine Go.by (fun _ => XS.iload Xj97.here hx rfl (hb hby at_192) rfl) ?_
            refine Go.by (fun _ => XS.iload Xj97.here hx rfl (hb hby at_194) rfl) ?_
            by_cases hc196_114 : r2 = r3
            · skip
              refine Go.by (fun _ => XS.icmpNo Xj97.here hx rfl (hb hby at_196) rfl (teq hc196_114).2) ?_
              show Go p.tables e below _ (Tj97.setTop (mkF m 199 #[.val (.int p0), .val (.int p1), .val (.long p2), .second, .val (.long p3), .second, .val (.int ip), .val (.int lp), .val (.int (1 : Int32)), .val (.ref b61), .val (.int r1), .val (.int f1), .val (.int r2), .val (.int f2), .val (.int r3), .val (.int f3), .val (.int (0 : Int32)), .val (.int (0 : Int32)), .unset, .unset, .unset, .unset, .unset, .unset, .unset, .unset, .unset, .unset, .unset] []))
              refine Go.by (fun _ => XS.iload Xj97.here hx rfl (hb hby at_199) rfl) ?_
              refine Go.by (fun _ => XS.iload Xj97.here hx rfl (hb hby at_201) rfl) ?_
              show Go p.tables e below _ (Tj97.setTop (mkF m 203 #[.val (.int p0), .val (.int p1), .val (.long p2), .second, .val (.long p3), .second, .val (.int ip), .val (.int lp), .val (.int (1 : Int32)), .val (.ref b61), .val (.int r1), .val (.int f1), .val (.int r2), .val (.int f2), .val (.int r3), .val (.int f3), .val (.int (0 : Int32)), .val (.int (0 : Int32)), .unset, .unset, .unset, .unset, .unset, .unset, .unset, .unset, .unset, .unset, .unset] [(.int f3), (.int f2)]))
              by_cases hc203_115 : f2 = f3
              · skip
                refine Go.by (fun _ => XS.icmpNo Xj97.here hx rfl (hb hby at_203) rfl (teq hc203_115).2) ?_
                show Go p.tables e below _ (Tj97.setTop (mkF m 206 #[.val (.int p0), .val (.int p1), .val (.long p2), .second, .val (.long p3), .second, .val (.int ip), .val (.int lp), .val (.int (1 : Int32)), .val (.ref b61), .val (.int r1), .val (.int f1), .val (.int r2), .val (.int f2), .val (.int r3), .val (.int f3), .val (.int (0 : Int32)), .val (.int (0 : Int32)), .unset, .unset, .unset, .unset, .unset, .unset, .unset, .unset, .unset, .unset, .unset] []))
                refine Go.by (fun _ => XS.iconst Xj97.here hx rfl (hb hby at_206)) ?_
                refine Go.by (fun _ => XS.goto Xj97.here hx rfl (pc0 := 207) (pc' := 211) rfl (hb hby at_207) (by decide) (by decide)) ?_
                show Go p.tables e below _ (Tj97.setTop (mkF m 211 #[.val (.int p0), .val (.int p1), .val (.long p2), .second, .val (.long p3), .second, .val (.int ip), .val (.int lp), .val (.int (1 : Int32)), .val (.ref b61), .val (.int r1), .val (.int f1), .val (.int r2), .val (.int f2), .val (.int r3), .val (.int f3), .val (.int (0 : Int32)), .val (.int (0 : Int32)), .unset, .unset, .unset, .unset, .unset, .unset, .unset, .unset, .unset, .unset, .unset] [(.int (1 : Int32))]))
                exact J107 _ Xj97 _ (Or.inl ⟨rfl, hc196_114, hc203_115⟩)
              · skip
                refine Go.by (fun _ => XS.icmpYes Xj97.here hx rfl (pc0 := 203) (pc' := 210) rfl (hb hby at_203) rfl (feq hc203_115).2 (by decide) (by decide)) ?_
                show Go p.tables e below _ (Tj97.setTop (mkF m 210 #[.val (.int p0), .val (.int p1), .val (.long p2), .second, .val (.long p3), .second, .val (.int ip), .val (.int lp), .val (.int (1 : Int32)), .val (.ref b61), .val (.int r1), .val (.int f1), .val (.int r2), .val (.int f2), .val (.int r3), .val (.int f3), .val (.int (0 : Int32)), .val (.int (0 : Int32)), .unset, .unset, .unset, .unset, .unset, .unset, .unset, .unset, .unset, .unset, .unset] []))
                refine Go.by (fun _ => XS.iconst Xj97.here hx rfl (hb hby at_210)) ?_
                show Go p.tables e below _ (Tj97.setTop (mkF m 211 #[.val (.int p0), .val (.int p1), .val (.long p2), .second, .val (.long p3), .second, .val (.int ip), .val (.int lp), .val (.int (1 : Int32)), .val (.ref b61), .val (.int r1), .val (.int f1), .val (.int r2), .val (.int f2), .val (.int r3), .val (.int f3), .val (.int (0 : Int32)), .val (.int (0 : Int32)), .unset, .unset, .unset, .unset, .unset, .unset, .unset, .unset, .unset, .unset, .unset] [(.int (0 : Int32))]))
                exact J107 _ Xj97 _ (Or.inr ⟨rfl, fun q => hc203_115 q.2⟩)
            · skip
              refine Go.by (fun _ => XS.icmpYes Xj97.here hx rfl (pc0 := 196) (pc' := 210) rfl (hb hby at_196) rfl (feq hc196_114).2 (by decide) (by decide)) ?_
              show Go p.tables e below _ (Tj97.setTop (mkF m 210 #[.val (.int p0), .val (.int p1), .val (.long p2), .second, .val (.long p3), .second, .val (.int ip), .val (.int lp), .val (.int (1 : Int32)), .val (.ref b61), .val (.int r1), .val (.int f1), .val (.int r2), .val (.int f2), .val (.int r3), .val (.int f3), .val (.int (0 : Int32)), .val (.int (0 : Int32)), .unset, .unset, .unset, .unset, .unset, .unset, .unset, .unset, .unset, .unset, .unset] []))
              refine Go.by (fun _ => XS.iconst Xj97.here hx rfl (hb hby at_210)) ?_
              show Go p.tables e below _ (Tj97.setTop (mkF m 211 #[.val (.int p0), .val (.int p1), .val (.long p2), .second, .val (.long p3), .second, .val (.int ip), .val (.int lp), .val (.int (1 : Int32)), .val (.ref b61), .val (.int r1), .val (.int f1), .val (.int r2), .val (.int f2), .val (.int r3), .val (.int f3), .val (.int (0 : Int32)), .val (.int (0 : Int32)), .unset, .unset, .unset, .unset, .unset, .unset, .unset, .unset, .unset, .unset, .unset] [(.int (0 : Int32))]))
              exact J107 _ Xj97 _ (Or.inr ⟨rfl, fun q => hc196_114 q.1⟩)
        refine Go.by (fun _ => XS.iload Xj75.here hx rfl (hb hby at_171) rfl) ?_
        refine Go.by (fun _ => XS.iload Xj75.here hx rfl (hb hby at_173) rfl) ?_
        by_cases hc175_116 : r1 = r3
        · skip
          refine Go.by (fun _ => XS.icmpNo Xj75.here hx rfl (hb hby at_175) rfl (teq hc175_116).2) ?_
          show Go p.tables e below _ (Tj75.setTop (mkF m 178 #[.val (.int p0), .val (.int p1), .val (.long p2), .second, .val (.long p3), .second, .val (.int ip), .val (.int lp), .val (.int (1 : Int32)), .val (.ref b61), .val (.int r1), .val (.int f1), .val (.int r2), .val (.int f2), .val (.int r3), .val (.int f3), .val (.int (0 : Int32)), .unset, .unset, .unset, .unset, .unset, .unset, .unset, .unset, .unset, .unset, .unset, .unset] []))
          refine Go.by (fun _ => XS.iload Xj75.here hx rfl (hb hby at_178) rfl) ?_
          show Go p.tables e below _ (Tj75.setTop (mkF m 180 #[.val (.int p0), .val (.int p1), .val (.long p2), .second, .val (.long p3), .second, .val (.int ip), .val (.int lp), .val (.int (1 : Int32)), .val (.ref b61), .val (.int r1), .val (.int f1), .val (.int r2), .val (.int f2), .val (.int r3), .val (.int f3), .val (.int (0 : Int32)), .unset, .unset, .unset, .unset, .unset, .unset, .unset, .unset, .unset, .unset, .unset, .unset] [(.int f1)]))
          refine Go.by (fun _ => XS.iload Xj75.here hx rfl (hb hby at_180) rfl) ?_
          by_cases hc182_117 : f1 = f3
          · skip
            refine Go.by (fun _ => XS.icmpNo Xj75.here hx rfl (hb hby at_182) rfl (teq hc182_117).2) ?_
            show Go p.tables e below _ (Tj75.setTop (mkF m 185 #[.val (.int p0), .val (.int p1), .val (.long p2), .second, .val (.long p3), .second, .val (.int ip), .val (.int lp), .val (.int (1 : Int32)), .val (.ref b61), .val (.int r1), .val (.int f1), .val (.int r2), .val (.int f2), .val (.int r3), .val (.int f3), .val (.int (0 : Int32)), .unset, .unset, .unset, .unset, .unset, .unset, .unset, .unset, .unset, .unset, .unset, .unset] []))
            refine Go.by (fun _ => XS.iconst Xj75.here hx rfl (hb hby at_185)) ?_
            refine Go.by (fun _ => XS.goto Xj75.here hx rfl (pc0 := 186) (pc' := 190) rfl (hb hby at_186) (by decide) (by decide)) ?_
            show Go p.tables e below _ (Tj75.setTop (mkF m 190 #[.val (.int p0), .val (.int p1), .val (.long p2), .second, .val (.long p3), .second, .val (.int ip), .val (.int lp), .val (.int (1 : Int32)), .val (.ref b61), .val (.int r1), .val (.int f1), .val (.int r2), .val (.int f2), .val (.int r3), .val (.int f3), .val (.int (0 : Int32)), .unset, .unset, .unset, .unset, .unset, .unset, .unset, .unset, .unset, .unset, .unset, .unset] [(.int (1 : Int32))]))
            exact J97 _ Xj75 _ (Or.inl ⟨rfl, hc175_116, hc182_117⟩)
          · skip
            refine Go.by (fun _ => XS.icmpYes Xj75.here hx rfl (pc0 := 182) (pc' := 189) rfl (hb hby at_182) rfl (feq hc182_117).2 (by decide) (by decide)) ?_
            show Go p.tables e below _ (Tj75.setTop (mkF m 189 #[.val (.int p0), .val (.int p1), .val (.long p2), .second, .val (.long p3), .second, .val (.int ip), .val (.int lp), .val (.int (1 : Int32)), .val (.ref b61), .val (.int r1), .val (.int f1), .val (.int r2), .val (.int f2), .val (.int r3), .val (.int f3), .val (.int (0 : Int32)), .unset, .unset, .unset, .unset, .unset, .unset, .unset, .unset, .unset, .unset, .unset, .unset] []))
            refine Go.by (fun _ => XS.iconst Xj75.here hx rfl (hb hby at_189)) ?_
            show Go p.tables e below _ (Tj75.setTop (mkF m 190 #[.val (.int p0), .val (.int p1), .val (.long p2), .second, .val (.long p3), .second, .val (.int ip), .val (.int lp), .val (.int (1 : Int32)), .val (.ref b61), .val (.int r1), .val (.int f1), .val (.int r2), .val (.int f2), .val (.int r3), .val (.int f3), .val (.int (0 : Int32)), .unset, .unset, .unset, .unset, .unset, .unset, .unset, .unset, .unset, .unset, .unset, .unset] [(.int (0 : Int32))]))
            exact J97 _ Xj75 _ (Or.inr ⟨rfl, fun q => hc182_117 q.2⟩)
        · skip
          refine Go.by (fun _ => XS.icmpYes Xj75.here hx rfl (pc0 := 175) (pc' := 189) rfl (hb hby at_175) rfl (feq hc175_116).2 (by decide) (by decide)) ?_
          show Go p.tables e below _ (Tj75.setTop (mkF m 189 #[.val (.int p0), .val (.int p1), .val (.long p2), .second, .val (.long p3), .second, .val (.int ip), .val (.int lp), .val (.int (1 : Int32)), .val (.ref b61), .val (.int r1), .val (.int f1), .val (.int r2), .val (.int f2), .val (.int r3), .val (.int f3), .val (.int (0 : Int32)), .unset, .unset, .unset, .unset, .unset, .unset, .unset, .unset, .unset, .unset, .unset, .unset] []))
          refine Go.by (fun _ => XS.iconst Xj75.here hx rfl (hb hby at_189)) ?_
          show Go p.tables e below _ (Tj75.setTop (mkF m 190 #[.val (.int p0), .val (.int p1), .val (.long p2), .second, .val (.long p3), .second, .val (.int ip), .val (.int lp), .val (.int (1 : Int32)), .val (.ref b61), .val (.int r1), .val (.int f1), .val (.int r2), .val (.int f2), .val (.int r3), .val (.int f3), .val (.int (0 : Int32)), .unset, .unset, .unset, .unset, .unset, .unset, .unset, .unset, .unset, .unset, .unset, .unset] [(.int (0 : Int32))]))
          exact J97 _ Xj75 _ (Or.inr ⟨rfl, fun q => hc175_116 q.1⟩)
    refine Go.by (fun _ => XS.iload X73.here hx rfl (hb hby at_150) rfl) ?_
    refine Go.by (fun _ => XS.iload X73.here hx rfl (hb hby at_152) rfl) ?_
    show Go p.tables e below _ (T73.setTop (mkF m 154 #[.val (.int p0), .val (.int p1), .val (.long p2), .second, .val (.long p3), .second, .val (.int ip), .val (.int lp), .val (.int (1 : Int32)), .val (.ref b61), .val (.int r1), .val (.int f1), .val (.int r2), .val (.int f2), .val (.int r3), .val (.int f3), .unset, .unset, .unset, .unset, .unset, .unset, .unset, .unset, .unset, .unset, .unset, .unset, .unset] [(.int r2), (.int r1)]))
    by_cases hc154_118 : r1 = r2
    · skip
      refine Go.by (fun _ => XS.icmpNo X73.here hx rfl (hb hby at_154) rfl (teq hc154_118).2) ?_
      show Go p.tables e below _ (T73.setTop (mkF m 157 #[.val (.int p0), .val (.int p1), .val (.long p2), .second, .val (.long p3), .second, .val (.int ip), .val (.int lp), .val (.int (1 : Int32)), .val (.ref b61), .val (.int r1), .val (.int f1), .val (.int r2), .val (.int f2), .val (.int r3), .val (.int f3), .unset, .unset, .unset, .unset, .unset, .unset, .unset, .unset, .unset, .unset, .unset, .unset, .unset] []))
      refine Go.by (fun _ => XS.iload X73.here hx rfl (hb hby at_157) rfl) ?_
      refine Go.by (fun _ => XS.iload X73.here hx rfl (hb hby at_159) rfl) ?_
      by_cases hc161_119 : f1 = f2
      · skip
        refine Go.by (fun _ => XS.icmpNo X73.here hx rfl (hb hby at_161) rfl (teq hc161_119).2) ?_
        show Go p.tables e below _ (T73.setTop (mkF m 164 #[.val (.int p0), .val (.int p1), .val (.long p2), .second, .val (.long p3), .second, .val (.int ip), .val (.int lp), .val (.int (1 : Int32)), .val (.ref b61), .val (.int r1), .val (.int f1), .val (.int r2), .val (.int f2), .val (.int r3), .val (.int f3), .unset, .unset, .unset, .unset, .unset, .unset, .unset, .unset, .unset, .unset, .unset, .unset, .unset] []))
        refine Go.by (fun _ => XS.iconst X73.here hx rfl (hb hby at_164)) ?_
        refine Go.by (fun _ => XS.goto X73.here hx rfl (pc0 := 165) (pc' := 169) rfl (hb hby at_165) (by decide) (by decide)) ?_
        show Go p.tables e below _ (T73.setTop (mkF m 169 #[.val (.int p0), .val (.int p1), .val (.long p2), .second, .val (.long p3), .second, .val (.int ip), .val (.int lp), .val (.int (1 : Int32)), .val (.ref b61), .val (.int r1), .val (.int f1), .val (.int r2), .val (.int f2), .val (.int r3), .val (.int f3), .unset, .unset, .unset, .unset, .unset, .unset, .unset, .unset, .unset, .unset, .unset, .unset, .unset] [(.int (1 : Int32))]))
        exact J75 _ X73 _ (Or.inl ⟨rfl, hc154_118, hc161_119⟩)
      · skip
        refine Go.by (fun _ => XS.icmpYes X73.here hx rfl (pc0 := 161) (pc' := 168) rfl (hb hby at_161) rfl (feq hc161_119).2 (by decide) (by decide)) ?_
        show Go p.tables e below _ (T73.setTop (mkF m 168 #[.val (.int p0), .val (.int p1), .val (.long p2), .second, .val (.long p3), .second, .val (.int ip), .val (.int lp), .val (.int (1 : Int32)), .val (.ref b61), .val (.int r1), .val (.int f1), .val (.int r2), .val (.int f2), .val (.int r3), .val (.int f3), .unset, .unset, .unset, .unset, .unset, .unset, .unset, .unset, .unset, .unset, .unset, .unset, .unset] []))
        refine Go.by (fun _ => XS.iconst X73.here hx rfl (hb hby at_168)) ?_
        show Go p.tables e below _ (T73.setTop (mkF m 169 #[.val (.int p0), .val (.int p1), .val (.long p2), .second, .val (.long p3), .second, .val (.int ip), .val (.int lp), .val (.int (1 : Int32)), .val (.ref b61), .val (.int r1), .val (.int f1), .val (.int r2), .val (.int f2), .val (.int r3), .val (.int f3), .unset, .unset, .unset, .unset, .unset, .unset, .unset, .unset, .unset, .unset, .unset, .unset, .unset] [(.int (0 : Int32))]))
        exact J75 _ X73 _ (Or.inr ⟨rfl, fun q => hc161_119 q.2⟩)
    · skip
      refine Go.by (fun _ => XS.icmpYes X73.here hx rfl (pc0 := 154) (pc' := 168) rfl (hb hby at_154) rfl (feq hc154_118).2 (by decide) (by decide)) ?_
      show Go p.tables e below _ (T73.setTop (mkF m 168 #[.val (.int p0), .val (.int p1), .val (.long p2), .second, .val (.long p3), .second, .val (.int ip), .val (.int lp), .val (.int (1 : Int32)), .val (.ref b61), .val (.int r1), .val (.int f1), .val (.int r2), .val (.int f2), .val (.int r3), .val (.int f3), .unset, .unset, .unset, .unset, .unset, .unset, .unset, .unset, .unset, .unset, .unset, .unset, .unset] []))
      refine Go.by (fun _ => XS.iconst X73.here hx rfl (hb hby at_168)) ?_
      show Go p.tables e below _ (T73.setTop (mkF m 169 #[.val (.int p0), .val (.int p1), .val (.long p2), .second, .val (.long p3), .second, .val (.int ip), .val (.int lp), .val (.int (1 : Int32)), .val (.ref b61), .val (.int r1), .val (.int f1), .val (.int r2), .val (.int f2), .val (.int r3), .val (.int f3), .unset, .unset, .unset, .unset, .unset, .unset, .unset, .unset, .unset, .unset, .unset, .unset, .unset] [(.int (0 : Int32))]))
      exact J75 _ X73 _ (Or.inr ⟨rfl, fun q => hc154_118 q.1⟩)
set_option maxRecDepth 65536 in
set_option maxHeartbeats 40000000 in
theorem comes_1 {Post : Tables → Env → Array Value → State → Outcome → State → Prop} (hpost : ∀ tb e args s v u, (limb_1_1.after args s (.returned v) u = true ∧ limb_1_2.after args s (.returned v) u = true ∧ True) → FrameEnd s (.returned v) u (Jvm.fieldLocs frame_1_writes args s ++ Jvm.arrayLocs frame_1_arrays args s ++ Jvm.staticLocs frame_1_statics s) 24 1088 → Post tb e args s (.returned v) u) :
    ArmFor flags0 classFile x code maxLocals ret World_1 tables_1 room_1 Calls_1 rest_1 Pre_1 Post := by
  intro l hfl _ _ p e ha hc hk s m args below hf hA hF happ hP
  obtain ⟨hcalls, hrest, hpre⟩ := hP
  obtain ⟨-, -, -, hnamed, -, -, -, hat⟩ := (Spec.applies_iff hf).mp happ
  obtain ⟨hg, hn⟩ := and_e (Cond.before_iff.mp (show (Jvm.Cond.and given_1 narrow_1).before args s = true from hpre))
  obtain ⟨gc, gr0⟩ := and_e hg
  obtain ⟨ga0, gr1⟩ := and_e gr0
  obtain ⟨ga1, gr2⟩ := and_e gr1
  obtain ⟨ga2, ga3⟩ := and_e gr2
  obtain ⟨w0, w1, w2, w3, rfl⟩ : ∃ w0 w1 w2 w3 : Value, args = #[w0, w1, w2, w3] := by
    have hs : args.size = 4 := by simpa [Cond.value, given_1] using gc
    obtain ⟨L⟩ := args
    match L, hs with
    | [w0, w1, w2, w3], _ => exact ⟨w0, w1, w2, w3, rfl⟩
  have hw := fun d (hd : d ∈ tables_1) => atoms_spec (ws := Jvm.Cond.code x code maxLocals ret :: tables_1) hat d (List.mem_cons_of_mem _ hd)
  have hfit : Fit s := fun {y c} hc i hi => by
    obtain ⟨ha, rfl⟩ := Array.getElem?_eq_some_iff.mp hc
    have q := List.all_eq_true.mp ((Array.all_eq_true_iff_forall_mem.mp hF) _ (Array.getElem_mem ha)) i (List.mem_range.mpr hi)
    simpa [Array.getElem?_eq_getElem hi] using q
  obtain ⟨i0, ei0⟩ := is_v ga0
  obtain rfl : w0 = (.int i0) := Option.some.inj ei0
  obtain ⟨i1, ei1⟩ := is_v ga1
  obtain rfl : w1 = (.int i1) := Option.some.inj ei1
  obtain ⟨i2, ei2⟩ := isL_v ga2
  obtain rfl : w2 = (.long i2) := Option.some.inj ei2
  obtain ⟨i3, ei3⟩ := isL_v ga3
  obtain rfl : w3 = (.long i3) := Option.some.inj ei3
  obtain ⟨n, o, h1, h2, h3, _, L, rfl, ⟨rfl, N⟩, hq⟩ := rm0 l s _ hw tables_1 i0 i1 i2 i3 s.heap s.heap.size (Nat.le_refl _) p e ha hc hk s m _ below hf ((Spec.applies_iff_loose hf).mp happ).1 ⟨rfl, State.Warmed39.refl s, rfl⟩ trivial
  refine ⟨n, _, h1, h2, h3, hpost _ _ _ _ _ _ ⟨Cond.after_iff.mpr rfl, Cond.after_iff.mpr (eq_i res_at (Term.int_eval (1)) rfl), trivial⟩ ⟨hq.1, hq.2.1, (hq.2.2.sift fun y hy => Or.inr (N y hy)).mono (by decide) (by decide)⟩⟩
theorem main_1_1 : Claimed_1_1 := comes_1 fun _ _ _ _ _ _ h hF => ⟨h.1, hF⟩
theorem main_1_2 : Claimed_1_2 := comes_1 fun _ _ _ _ _ _ h hF => ⟨h.2.1, hF⟩
end Jvm.Pilot.@@N@@
namespace Jvm.Pilot.@@N@@
open Jvm Jvm.ClassFile Sem Op Lib Jvm.Free Jvm.Stand Jvm.Pilot.@@N@@.Jvm.D
/-! MADE BY PROGRAM (witnessworld.py) out of the Statement's table words and the real class files: 13 classes; the members and pool entries that the words name. The judged class is class 1, her method 1. -/
namespace start1
open Jvm.ClassFile
def u (s : String) : CpInfo := .utf8 (stringToUtf16 s)
/-- a pool by its gaps: so many unusable entries, then the entry; so many at the end -/
def gap : Nat → List CpInfo → List CpInfo
  | 0, r => r
  | n + 1, r => .unusable :: gap n r
def poolList (es : List (Nat × CpInfo)) (last : Nat) : List CpInfo := es.foldr (fun e r => gap e.1 (e.2 :: r)) (gap last [])
def pool (es : List (Nat × CpInfo)) (last : Nat) : Array CpInfo := ⟨poolList es last⟩
def fileOf (pool : Array CpInfo) (this : Nat) (attrs : Array Attribute := #[]) (ms : Array MethodInfo := #[]) (fl : Nat := 33) (sup : Nat := 0) (ifs : Array Nat := #[]) (fds : Array FieldInfo := #[]) : ClassFile where
  minorVersion := 0
  majorVersion := 65
  constantPool := pool
  accessFlags := fl
  thisClass := this
  superClass := sup
  interfaces := ifs
  fields := fds
  methods := ms
  attributes := attrs
def plain (name : String) (sup : Option ClassId) : Class where
  name := name
  kind := .ordinary
  loader := none
  accessFlags := 33
  super := sup
  interfaces := #[]
  cf := none
  fields := #[]
  methods := #[]
  instanceTypes := #[]
  staticTypes := #[]
  resolved := #[]
  callSites := []
  init := .initialized
  statics := none
  mirror := none

def pool0 : Array CpInfo := pool [(5, u "<init>"), (0, u "()V"), (1, .class_ 10), (1, u "java/lang/Object")] 113

def k0c0 : Code := { maxStack := 0, maxLocals := 1, code := object_method_1_code, exceptionTable := #[], attributes := #[] }
def k0m0 : Method := { name := "<init>", desc := "()V", sig := { parameters := [], returnType := none }, accessFlags := 1, code := some k0c0 }
/-- java/lang/Object -/
def k0 : Class := { plain "java/lang/Object" none with
  accessFlags := 33
  interfaces := #[]
  cf := some (fileOf pool0 8 #[] #[{ accessFlags := 1, nameIndex := 5, descriptorIndex := 6, attributes := #[] }] 33 0 #[] #[])
  fields := #[]
  methods := #[k0m0]
  instanceTypes := #[]
  staticTypes := #[]
  resolved := Array.replicate 124 none
  statics := none }

def pool1 : Array CpInfo := pool [(2, .class_ 4), (1, u "java/lang/Object"), (0, u "<init>"), (0, u "()V"), (0, .integer 2147483647), (0, .class_ 9), (0, u "com/example/spotline/spotline/engine/Table"), (0, .methodref 8 11), (0, .nameAndType 5 12), (0, u "(IIZ)V"), (0, .methodref 8 14), (0, .nameAndType 15 16), (0, u "add"), (0, u "(Ljava/lang/Object;)I"), (0, .methodref 8 18), (0, .nameAndType 19 20), (0, u "setLong"), (0, u "(IIJ)V"), (0, .methodref 8 22), (0, .nameAndType 23 24), (0, u "getLong"), (0, u "(II)J"), (0, .class_ 26), (0, u "com/example/spotline/spotline/engine/TableSetLongPinLaw"), (2, u "law"), (0, u "(IIJJ)Z")] 3

def k1m0 : Method := { name := "<init>", desc := "()V", sig := { parameters := [], returnType := none }, accessFlags := 1, code := none }
def k1c1 : Code := { maxStack := 5, maxLocals := 29, code := code, exceptionTable := #[], attributes := #[] }
def k1m1 : Method := { name := "law", desc := "(IIJJ)Z", sig := { parameters := [.int, .int, .long, .long], returnType := some .boolean }, accessFlags := 9, code := some k1c1 }
/-- com/example/spotline/spotline/engine/TableSetLongPinLaw -/
def k1 : Class := { plain "com/example/spotline/spotline/engine/TableSetLongPinLaw" (some 0) with
  accessFlags := 49
  interfaces := #[]
  cf := some (fileOf pool1 25 #[] #[{ accessFlags := 1, nameIndex := 5, descriptorIndex := 6, attributes := #[] }, { accessFlags := 9, nameIndex := 29, descriptorIndex := 30, attributes := #[] }] 49 2 #[] #[])
  fields := #[]
  methods := #[k1m0, k1m1]
  instanceTypes := #[]
  staticTypes := #[]
  resolved := Array.replicate 34 none
  statics := none }

def pool2 : Array CpInfo := pool [(1, .class_ 2), (0, u "com/example/spotline/spotline/engine/Table"), (0, .methodref 4 5), (0, .class_ 6), (0, .nameAndType 7 8), (0, u "java/lang/Object"), (0, u "<init>"), (0, u "()V"), (0, .class_ 10), (0, u "[J"), (0, .fieldref 1 12), (0, .nameAndType 13 14), (0, u "longs"), (0, u "[[J"), (0, .class_ 16), (0, u "[I"), (0, .fieldref 1 18), (0, .nameAndType 19 20), (0, u "ints"), (0, u "[[I"), (0, .class_ 22), (0, u "[Ljava/lang/Object;"), (0, .fieldref 1 24), (0, .nameAndType 25 26), (0, u "objects"), (0, u "[[Ljava/lang/Object;"), (0, .fieldref 1 28), (0, .nameAndType 29 30), (0, u "longsPerRow"), (0, u "I"), (0, .fieldref 1 32), (0, .nameAndType 33 30), (0, u "intsPerRow"), (0, .fieldref 1 35), (0, .nameAndType 36 30), (0, u "objectsPerRow"), (0, .fieldref 1 38), (0, .nameAndType 39 30), (0, u "size"), (2, .integer 2147483647), (18, .fieldref 1 62), (0, .nameAndType 63 30), (0, u "capacity"), (0, .integer 65536), (0, .methodref 66 67), (0, .class_ 68), (0, .nameAndType 69 70), (0, u "java/lang/Math"), (0, u "max"), (0, u "(II)I"), (0, .methodref 66 72), (0, .nameAndType 73 70), (0, u "min"), (0, .methodref 1 75), (0, .nameAndType 76 77), (0, u "grow"), (0, u "([JI)[J"), (0, .methodref 1 79), (0, .nameAndType 76 80), (0, u "([II)[I"), (0, .integer 65535), (4, u "SHIFT"), (2, u "CHUNK"), (0, u "MASK"), (0, u "FIRST_ROWS"), (1, u "(IIZ)V"), (4, u "add"), (0, u "(Ljava/lang/Object;)I"), (2, u "getLong"), (0, u "(II)J"), (0, u "setLong"), (0, u "(IIJ)V")] 20

def k2c0 : Code := { maxStack := 2, maxLocals := 4, code := prog_40_method_1_code, exceptionTable := #[], attributes := #[] }
def k2m0 : Method := { name := "<init>", desc := "(IIZ)V", sig := { parameters := [.int, .int, .boolean], returnType := none }, accessFlags := 0, code := some k2c0 }
def k2c1 : Code := { maxStack := 5, maxLocals := 5, code := prog_40_method_3_code, exceptionTable := #[], attributes := #[] }
def k2m1 : Method := { name := "add", desc := "(Ljava/lang/Object;)I", sig := { parameters := [(.object "java/lang/Object")], returnType := some .int }, accessFlags := 0, code := some k2c1 }
def k2c2 : Code := { maxStack := 3, maxLocals := 3, code := prog_40_method_5_code, exceptionTable := #[], attributes := #[] }
def k2m2 : Method := { name := "getLong", desc := "(II)J", sig := { parameters := [.int, .int], returnType := some .long }, accessFlags := 0, code := some k2c2 }
def k2c3 : Code := { maxStack := 4, maxLocals := 5, code := prog_40_method_6_code, exceptionTable := #[], attributes := #[] }
def k2m3 : Method := { name := "setLong", desc := "(IIJ)V", sig := { parameters := [.int, .int, .long], returnType := none }, accessFlags := 0, code := some k2c3 }
def k2c4 : Code := { maxStack := 2, maxLocals := 2, code := prog_40_method_9_code, exceptionTable := #[], attributes := #[] }
def k2m4 : Method := { name := "grow", desc := "([JI)[J", sig := { parameters := [(.array .long), .int], returnType := some (.array .long) }, accessFlags := 10, code := some k2c4 }
def k2c5 : Code := { maxStack := 2, maxLocals := 2, code := prog_40_method_10_code, exceptionTable := #[], attributes := #[] }
def k2m5 : Method := { name := "grow", desc := "([II)[I", sig := { parameters := [(.array .int), .int], returnType := some (.array .int) }, accessFlags := 10, code := some k2c5 }
/-- com/example/spotline/spotline/engine/Table -/
def k2 : Class := { plain "com/example/spotline/spotline/engine/Table" (some 0) with
  accessFlags := 48
  interfaces := #[]
  cf := some (fileOf pool2 1 #[] #[{ accessFlags := 0, nameIndex := 7, descriptorIndex := 93, attributes := #[] }, { accessFlags := 0, nameIndex := 98, descriptorIndex := 99, attributes := #[] }, { accessFlags := 0, nameIndex := 102, descriptorIndex := 103, attributes := #[] }, { accessFlags := 0, nameIndex := 104, descriptorIndex := 105, attributes := #[] }, { accessFlags := 10, nameIndex := 76, descriptorIndex := 77, attributes := #[] }, { accessFlags := 10, nameIndex := 76, descriptorIndex := 80, attributes := #[] }] 48 4 #[] #[{ accessFlags := 26, nameIndex := 86, descriptorIndex := 30, attributes := #[] }, { accessFlags := 26, nameIndex := 89, descriptorIndex := 30, attributes := #[] }, { accessFlags := 26, nameIndex := 90, descriptorIndex := 30, attributes := #[] }, { accessFlags := 26, nameIndex := 91, descriptorIndex := 30, attributes := #[] }, { accessFlags := 18, nameIndex := 29, descriptorIndex := 30, attributes := #[] }, { accessFlags := 18, nameIndex := 33, descriptorIndex := 30, attributes := #[] }, { accessFlags := 18, nameIndex := 36, descriptorIndex := 30, attributes := #[] }, { accessFlags := 2, nameIndex := 13, descriptorIndex := 14, attributes := #[] }, { accessFlags := 2, nameIndex := 19, descriptorIndex := 20, attributes := #[] }, { accessFlags := 2, nameIndex := 25, descriptorIndex := 26, attributes := #[] }, { accessFlags := 2, nameIndex := 39, descriptorIndex := 30, attributes := #[] }, { accessFlags := 2, nameIndex := 63, descriptorIndex := 30, attributes := #[] }])
  fields := #[{ name := "SHIFT", type := .int, accessFlags := 26, slot := 0, constantValue := 0 }, { name := "CHUNK", type := .int, accessFlags := 26, slot := 1, constantValue := 0 }, { name := "MASK", type := .int, accessFlags := 26, slot := 2, constantValue := 0 }, { name := "FIRST_ROWS", type := .int, accessFlags := 26, slot := 3, constantValue := 0 }, { name := "longsPerRow", type := .int, accessFlags := 18, slot := 0, constantValue := 0 }, { name := "intsPerRow", type := .int, accessFlags := 18, slot := 1, constantValue := 0 }, { name := "objectsPerRow", type := .int, accessFlags := 18, slot := 2, constantValue := 0 }, { name := "longs", type := (.array (.array .long)), accessFlags := 2, slot := 3, constantValue := 0 }, { name := "ints", type := (.array (.array .int)), accessFlags := 2, slot := 4, constantValue := 0 }, { name := "objects", type := (.array (.array (.object "java/lang/Object"))), accessFlags := 2, slot := 5, constantValue := 0 }, { name := "size", type := .int, accessFlags := 2, slot := 6, constantValue := 0 }, { name := "capacity", type := .int, accessFlags := 2, slot := 7, constantValue := 0 }]
  methods := #[k2m0, k2m1, k2m2, k2m3, k2m4, k2m5]
  instanceTypes := #[.int, .int, .int, (.array (.array .long)), (.array (.array .int)), (.array (.array (.object "java/lang/Object"))), .int, .int]
  staticTypes := #[.int, .int, .int, .int]
  resolved := Array.replicate 126 none
  statics := none }

def pool3 : Array CpInfo := pool [(1, .class_ 2), (0, u "java/lang/Math"), (1, .class_ 6), (1, u "java/lang/Object"), (0, u "<init>"), (0, u "()V"), (89, .class_ 100), (1, u "java/lang/Math$RandomNumberGeneratorHolder"), (71, u "negativeZeroFloatBits"), (0, u "J"), (2, u "negativeZeroDoubleBits"), (21, u "max"), (2, u "min"), (43, u "$assertionsDisabled"), (0, u "Z"), (88, u "(II)I"), (2, u "twoToTheDoubleScaleDown"), (0, u "D"), (4, u "twoToTheDoubleScaleUp"), (9, u "E"), (3, u "PI"), (2, u "TAU"), (2, u "DEGREES_TO_RADIANS"), (0, u "RADIANS_TO_DEGREES")] 94

def k3m0 : Method := { name := "<init>", desc := "()V", sig := { parameters := [], returnType := none }, accessFlags := 2, code := none }
def k3c1 : Code := { maxStack := 2, maxLocals := 2, code := jdk_29_method_65_code, exceptionTable := #[], attributes := #[] }
def k3m1 : Method := { name := "max", desc := "(II)I", sig := { parameters := [.int, .int], returnType := some .int }, accessFlags := 9, code := some k3c1 }
def k3c2 : Code := { maxStack := 2, maxLocals := 2, code := jdk_29_method_69_code, exceptionTable := #[], attributes := #[] }
def k3m2 : Method := { name := "min", desc := "(II)I", sig := { parameters := [.int, .int], returnType := some .int }, accessFlags := 9, code := some k3c2 }
/-- java/lang/Math -/
def k3 : Class := { plain "java/lang/Math" (some 0) with
  accessFlags := 49
  interfaces := #[]
  cf := some (fileOf pool3 1 #[.nestMembers #[98]] #[{ accessFlags := 2, nameIndex := 7, descriptorIndex := 8, attributes := #[] }, { accessFlags := 9, nameIndex := 198, descriptorIndex := 335, attributes := #[] }, { accessFlags := 9, nameIndex := 201, descriptorIndex := 335, attributes := #[] }] 49 4 #[] #[{ accessFlags := 25, nameIndex := 354, descriptorIndex := 339, attributes := #[] }, { accessFlags := 25, nameIndex := 358, descriptorIndex := 339, attributes := #[] }, { accessFlags := 25, nameIndex := 361, descriptorIndex := 339, attributes := #[] }, { accessFlags := 26, nameIndex := 364, descriptorIndex := 339, attributes := #[] }, { accessFlags := 26, nameIndex := 365, descriptorIndex := 339, attributes := #[] }, { accessFlags := 26, nameIndex := 172, descriptorIndex := 173, attributes := #[] }, { accessFlags := 26, nameIndex := 176, descriptorIndex := 173, attributes := #[] }, { accessFlags := 8, nameIndex := 344, descriptorIndex := 339, attributes := #[] }, { accessFlags := 8, nameIndex := 338, descriptorIndex := 339, attributes := #[] }, { accessFlags := 4120, nameIndex := 245, descriptorIndex := 246, attributes := #[] }])
  fields := #[{ name := "E", type := .double, accessFlags := 25, slot := 0, constantValue := 0 }, { name := "PI", type := .double, accessFlags := 25, slot := 1, constantValue := 0 }, { name := "TAU", type := .double, accessFlags := 25, slot := 2, constantValue := 0 }, { name := "DEGREES_TO_RADIANS", type := .double, accessFlags := 26, slot := 3, constantValue := 0 }, { name := "RADIANS_TO_DEGREES", type := .double, accessFlags := 26, slot := 4, constantValue := 0 }, { name := "negativeZeroFloatBits", type := .long, accessFlags := 26, slot := 5, constantValue := 0 }, { name := "negativeZeroDoubleBits", type := .long, accessFlags := 26, slot := 6, constantValue := 0 }, { name := "twoToTheDoubleScaleUp", type := .double, accessFlags := 8, slot := 7, constantValue := 0 }, { name := "twoToTheDoubleScaleDown", type := .double, accessFlags := 8, slot := 8, constantValue := 0 }, { name := "$assertionsDisabled", type := .boolean, accessFlags := 4120, slot := 9, constantValue := 0 }]
  methods := #[k3m0, k3m1, k3m2]
  instanceTypes := #[]
  staticTypes := #[.double, .double, .double, .double, .double, .long, .long, .double, .double, .boolean]
  resolved := Array.replicate 460 none
  statics := none }

def pool4 : Array CpInfo := pool [(1, u "java/lang/Cloneable"), (0, .class_ 1), (0, u "java/lang/Object"), (0, .class_ 3)] 3

/-- java/lang/Cloneable -/
def k4 : Class := { plain "java/lang/Cloneable" (some 0) with
  accessFlags := 1537
  interfaces := #[]
  cf := some (fileOf pool4 2 #[] #[] 1537 4 #[] #[])
  fields := #[]
  methods := #[]
  instanceTypes := #[]
  staticTypes := #[]
  resolved := Array.replicate 8 none
  statics := none }

def pool5 : Array CpInfo := pool [(1, u "java/io/Serializable"), (0, .class_ 1), (0, u "java/lang/Object"), (0, .class_ 3)] 3

/-- java/io/Serializable -/
def k5 : Class := { plain "java/io/Serializable" (some 0) with
  accessFlags := 1537
  interfaces := #[]
  cf := some (fileOf pool5 2 #[] #[] 1537 4 #[] #[])
  fields := #[]
  methods := #[]
  instanceTypes := #[]
  staticTypes := #[]
  resolved := Array.replicate 8 none
  statics := none }

/-- the primitive byte -/
def k6 : Class := { plain "byte" none with kind := .primitive 'B', accessFlags := 0x411 }
/-- [B -/
def k7 : Class := { plain "[B" (some 0) with kind := .array 6 .byte, interfaces := #[4, 5], accessFlags := 1041 }

/-- the primitive int -/
def k8 : Class := { plain "int" none with kind := .primitive 'I', accessFlags := 0x411 }
/-- [I -/
def k9 : Class := { plain "[I" (some 0) with kind := .array 8 .int, interfaces := #[4, 5], accessFlags := 1041 }

/-- the primitive long -/
def k10 : Class := { plain "long" none with kind := .primitive 'J', accessFlags := 0x411 }
/-- [J -/
def k11 : Class := { plain "[J" (some 0) with kind := .array 10 .long, interfaces := #[4, 5], accessFlags := 1041 }

/-- [Ljava/lang/Object; -/
def k12 : Class := { plain "[Ljava/lang/Object;" (some 0) with kind := .array 0 (.object "java/lang/Object"), interfaces := #[4, 5], accessFlags := 1041 }

def k13 : Class := { plain "[[J" (some 0) with kind := .array 11 (.array .long), interfaces := #[4, 5], accessFlags := 1041 }
def k14 : Class := { plain "[[I" (some 0) with kind := .array 9 (.array .int), interfaces := #[4, 5], accessFlags := 1041 }
def k15 : Class := { plain "[[Ljava/lang/Object;" (some 0) with kind := .array 12 (.array (.object "java/lang/Object")), interfaces := #[4, 5], accessFlags := 1041 }
def heap : Heap := #[]
def classes : Array Class := #[k0, k1, k2, k3, k4, k5, k6, k7, k8, k9, k10, k11, k12, k13, k14, k15]
def interned : List (Array UInt16 × Addr) := []
def slotsUsed : Nat := 0
def theMethod : MethodId := ⟨1, 1⟩
def args0 : Array Value := #[.int 5, .int 7, .long 8, .long 9]
def aboutOver (below : List Frame) : State where
  vm := { classes := classes, interned := interned.toArray }
  heap := heap
  slotsUsed := slotsUsed
  threads := #[{ frames := .invoking theMethod args0 :: below }]
def below0 : List Frame := [.native { method := ⟨0, 0⟩, args := #[] }]
def about1 : State := aboutOver below0
def p0 : Program := .bare "" "" ""
def e0 : Env := launch0.env 0 0 0
theorem w_frames : about1.frames = Frame.invoking theMethod args0 :: below0 := rfl
set_option maxRecDepth 65536 in
theorem w_args : argsFit about1.vm theMethod args0 = true := by decide +kernel
set_option maxRecDepth 65536 in
theorem w_heap : heapFits about1 = true := by decide +kernel
set_option maxRecDepth 65536 in
theorem w_runnable : about1.curStatus? = some .runnable := by decide +kernel
set_option maxRecDepth 65536 in
theorem w_alone : about1.alone = true := by decide +kernel
set_option maxRecDepth 65536 in
theorem w_named : about1.methodNamed? x = some theMethod := by decide +kernel
set_option maxRecDepth 65536 in
theorem w_hears : about1.hears theMethod below0 = true := by decide +kernel
set_option maxRecDepth 65536 in
theorem w_ripe : about1.ripe theMethod args0 below0 = true := by decide +kernel
theorem w_running : about1.status = .running := rfl
set_option maxRecDepth 65536 in
theorem w_room : about1.hasRoom e0.platform room_1 = true :=
  launch0.hasRoom_least _ room_1 (by decide +kernel) (by decide +kernel) (by decide +kernel) (by decide +kernel) (by decide +kernel) (by decide +kernel)
theorem allAtoms_all (ts : List Jvm.Cond) (a : Array Jvm.Value) (st : Jvm.State) : (allAtoms ts).before a st = ts.all (fun c => c.before a st) := by
  induction ts with
  | nil => rfl
  | cons c t ih =>
    show (Jvm.Cond.and c (allAtoms t)).before a st = _
    rw [Jvm.Cond.before_and, ih, List.all_cons]
def words1 : List Jvm.Cond := Jvm.Cond.code x code maxLocals ret :: tables_1
/-- a 'code' word, met by the world's own term for the bytes: nothing is compared byte by byte -/
theorem code_word {y : MethodName} {bytes : ByteArray} {mx : Nat} {rt : Option FieldType} {a : Array Value} {s : State} {m : MethodId} {meth : Method} {c : Code} (h1 : s.methodNamed? y = some m) (h2 : s.vm.method? m = some meth) (h3 : meth.code = some c) (h4 : c.code = bytes)
    (h5 : (c.maxLocals == mx && c.exceptionTable.isEmpty && decide (c.maxStack ≤ mostOperands) && decide (meth.sig.returnType = rt) && !meth.locks && decide (parseMethodDescriptor y.desc = some meth.sig)) = true) : (Jvm.Cond.code y bytes mx rt).before a s = true := by
  simp only [Bool.and_eq_true, beq_iff_eq, Bool.not_eq_true', decide_eq_true_eq] at h5
  obtain ⟨⟨⟨⟨⟨g1, g2⟩, g3⟩, g4⟩, g5⟩, g6⟩ := h5
  simp [Cond.before, Cond.holds, Cond.value, h1, h2, h3, h4, g1, g2, g3, g4, g5, g6]
def isCode : Jvm.Cond → Bool
  | .code _ _ _ _ => true
  | _ => false
theorem all_split {L : List Jvm.Cond} {P : Jvm.Cond → Bool} (h1 : L.all (fun c => isCode c || P c) = true) (h2 : ∀ c ∈ L.filter isCode, P c = true) : L.all P = true := by
  refine List.all_eq_true.mpr fun c hc => ?_
  have h := List.all_eq_true.mp h1 c hc
  rcases Bool.eq_false_or_eq_true (isCode c) with hi | hi
  · exact h2 c (List.mem_filter.mpr ⟨hc, hi⟩)
  · simpa [hi] using h
set_option maxRecDepth 65536 in
theorem w_c0 : (Jvm.Cond.code x code maxLocals ret).before args0 about1 = true := code_word (m := ⟨1, 1⟩) (meth := k1m1) (c := k1c1) (by decide +kernel) rfl rfl rfl (by decide +kernel)
set_option maxRecDepth 65536 in
theorem w_c1 : (Jvm.Cond.code ({ cls := "com/example/spotline/spotline/engine/Table", name := "<init>", desc := "(IIZ)V" } : Jvm.MethodName) prog_40_method_1_code (4 : Nat) (Option.none : Option Jvm.ClassFile.FieldType)).before args0 about1 = true := code_word (m := ⟨2, 0⟩) (meth := k2m0) (c := k2c0) (by decide +kernel) rfl rfl rfl (by decide +kernel)
set_option maxRecDepth 65536 in
theorem w_c2 : (Jvm.Cond.code ({ cls := "java/lang/Object", name := "<init>", desc := "()V" } : Jvm.MethodName) object_method_1_code (1 : Nat) (Option.none : Option Jvm.ClassFile.FieldType)).before args0 about1 = true := code_word (m := ⟨0, 0⟩) (meth := k0m0) (c := k0c0) (by decide +kernel) rfl rfl rfl (by decide +kernel)
set_option maxRecDepth 65536 in
theorem w_c3 : (Jvm.Cond.code ({ cls := "com/example/spotline/spotline/engine/Table", name := "add", desc := "(Ljava/lang/Object;)I" } : Jvm.MethodName) prog_40_method_3_code (5 : Nat) (Option.some Jvm.ClassFile.FieldType.int)).before args0 about1 = true := code_word (m := ⟨2, 1⟩) (meth := k2m1) (c := k2c1) (by decide +kernel) rfl rfl rfl (by decide +kernel)
set_option maxRecDepth 65536 in
theorem w_c4 : (Jvm.Cond.code ({ cls := "java/lang/Math", name := "max", desc := "(II)I" } : Jvm.MethodName) jdk_29_method_65_code (2 : Nat) (Option.some Jvm.ClassFile.FieldType.int)).before args0 about1 = true := code_word (m := ⟨3, 1⟩) (meth := k3m1) (c := k3c1) (by decide +kernel) rfl rfl rfl (by decide +kernel)
set_option maxRecDepth 65536 in
theorem w_c5 : (Jvm.Cond.code ({ cls := "java/lang/Math", name := "min", desc := "(II)I" } : Jvm.MethodName) jdk_29_method_69_code (2 : Nat) (Option.some Jvm.ClassFile.FieldType.int)).before args0 about1 = true := code_word (m := ⟨3, 2⟩) (meth := k3m2) (c := k3c2) (by decide +kernel) rfl rfl rfl (by decide +kernel)
set_option maxRecDepth 65536 in
theorem w_c6 : (Jvm.Cond.code ({ cls := "com/example/spotline/spotline/engine/Table", name := "grow", desc := "([JI)[J" } : Jvm.MethodName) prog_40_method_9_code (2 : Nat) (Option.some (Jvm.ClassFile.FieldType.array Jvm.ClassFile.FieldType.long))).before args0 about1 = true := code_word (m := ⟨2, 4⟩) (meth := k2m4) (c := k2c4) (by decide +kernel) rfl rfl rfl (by decide +kernel)
set_option maxRecDepth 65536 in
theorem w_c7 : (Jvm.Cond.code ({ cls := "com/example/spotline/spotline/engine/Table", name := "grow", desc := "([II)[I" } : Jvm.MethodName) prog_40_method_10_code (2 : Nat) (Option.some (Jvm.ClassFile.FieldType.array Jvm.ClassFile.FieldType.int))).before args0 about1 = true := code_word (m := ⟨2, 5⟩) (meth := k2m5) (c := k2c5) (by decide +kernel) rfl rfl rfl (by decide +kernel)
set_option maxRecDepth 65536 in
theorem w_c8 : (Jvm.Cond.code ({ cls := "com/example/spotline/spotline/engine/Table", name := "setLong", desc := "(IIJ)V" } : Jvm.MethodName) prog_40_method_6_code (5 : Nat) (Option.none : Option Jvm.ClassFile.FieldType)).before args0 about1 = true := code_word (m := ⟨2, 3⟩) (meth := k2m3) (c := k2c3) (by decide +kernel) rfl rfl rfl (by decide +kernel)
set_option maxRecDepth 65536 in
theorem w_c9 : (Jvm.Cond.code ({ cls := "com/example/spotline/spotline/engine/Table", name := "getLong", desc := "(II)J" } : Jvm.MethodName) prog_40_method_5_code (3 : Nat) (Option.some Jvm.ClassFile.FieldType.long)).before args0 about1 = true := code_word (m := ⟨2, 2⟩) (meth := k2m2) (c := k2c2) (by decide +kernel) rfl rfl rfl (by decide +kernel)
def codes1 : List Jvm.Cond := [Jvm.Cond.code x code maxLocals ret, Jvm.Cond.code ({ cls := "com/example/spotline/spotline/engine/Table", name := "<init>", desc := "(IIZ)V" } : Jvm.MethodName) prog_40_method_1_code (4 : Nat) (Option.none : Option Jvm.ClassFile.FieldType), Jvm.Cond.code ({ cls := "java/lang/Object", name := "<init>", desc := "()V" } : Jvm.MethodName) object_method_1_code (1 : Nat) (Option.none : Option Jvm.ClassFile.FieldType), Jvm.Cond.code ({ cls := "com/example/spotline/spotline/engine/Table", name := "add", desc := "(Ljava/lang/Object;)I" } : Jvm.MethodName) prog_40_method_3_code (5 : Nat) (Option.some Jvm.ClassFile.FieldType.int), Jvm.Cond.code ({ cls := "java/lang/Math", name := "max", desc := "(II)I" } : Jvm.MethodName) jdk_29_method_65_code (2 : Nat) (Option.some Jvm.ClassFile.FieldType.int), Jvm.Cond.code ({ cls := "java/lang/Math", name := "min", desc := "(II)I" } : Jvm.MethodName) jdk_29_method_69_code (2 : Nat) (Option.some Jvm.ClassFile.FieldType.int), Jvm.Cond.code ({ cls := "com/example/spotline/spotline/engine/Table", name := "grow", desc := "([JI)[J" } : Jvm.MethodName) prog_40_method_9_code (2 : Nat) (Option.some (Jvm.ClassFile.FieldType.array Jvm.ClassFile.FieldType.long)), Jvm.Cond.code ({ cls := "com/example/spotline/spotline/engine/Table", name := "grow", desc := "([II)[I" } : Jvm.MethodName) prog_40_method_10_code (2 : Nat) (Option.some (Jvm.ClassFile.FieldType.array Jvm.ClassFile.FieldType.int)), Jvm.Cond.code ({ cls := "com/example/spotline/spotline/engine/Table", name := "setLong", desc := "(IIJ)V" } : Jvm.MethodName) prog_40_method_6_code (5 : Nat) (Option.none : Option Jvm.ClassFile.FieldType), Jvm.Cond.code ({ cls := "com/example/spotline/spotline/engine/Table", name := "getLong", desc := "(II)J" } : Jvm.MethodName) prog_40_method_5_code (3 : Nat) (Option.some Jvm.ClassFile.FieldType.long)]
set_option maxRecDepth 65536 in
theorem codes_eq : words1.filter isCode = codes1 := rfl
theorem w_codes : ∀ c ∈ words1.filter isCode, c.before args0 about1 = true := by
  rw [codes_eq]
  intro c hc
  simp only [codes1, List.mem_cons, List.not_mem_nil, or_false] at hc
  rcases hc with rfl | rfl | rfl | rfl | rfl | rfl | rfl | rfl | rfl | rfl
  · exact w_c0
  · exact w_c1
  · exact w_c2
  · exact w_c3
  · exact w_c4
  · exact w_c5
  · exact w_c6
  · exact w_c7
  · exact w_c8
  · exact w_c9
set_option maxRecDepth 65536 in
theorem w_t1 : (words1.take 24).all (fun c => isCode c || c.before args0 about1) = true := by decide +kernel
set_option maxRecDepth 65536 in
theorem w_t2 : ((words1.drop 24).take 24).all (fun c => isCode c || c.before args0 about1) = true := by decide +kernel
set_option maxRecDepth 65536 in
theorem w_t3 : ((words1.drop 24).drop 24).all (fun c => isCode c || c.before args0 about1) = true := by decide +kernel
theorem w_tables : (allAtoms (Jvm.Cond.code x code maxLocals ret :: tables_1)).before args0 about1 = true := by
  rw [allAtoms_all]
  show words1.all (fun c => c.before args0 about1) = true
  refine all_split ?_ w_codes
  rw [← List.take_append_drop 24 words1, List.all_append, w_t1, ← List.take_append_drop 24 (words1.drop 24), List.all_append, w_t2, w_t3]
  rfl
set_option maxRecDepth 65536 in
theorem w_case : (Jvm.Cond.and given_1 narrow_1).before args0 about1 = true := by decide +kernel
theorem w_applies : (headSpec (Jvm.Cond.code x code maxLocals ret :: tables_1) room_1).applies x e0.platform about1 = true :=
  (Spec.applies_iff w_frames).mpr ⟨w_running, w_runnable, w_alone, w_named, w_hears, w_ripe, w_room, w_tables⟩
theorem atStart : AtStart classFile x code maxLocals ret World_1 tables_1 room_1 Calls_1 rest_1 Pre_1 launch0 p0 e0 about1 theMethod args0 below0 :=
  ⟨lists_1, trivial, launch0.admits_env _ _ _, launch0.least_env, fairChoices_fair.cas, fairChoices_fair.clock, w_frames, w_args, w_heap, w_applies, trivial, trivial, w_case⟩
end start1
theorem witness_1 : WitnessClaimed_1 := ⟨start1.p0, start1.e0, start1.about1, start1.theMethod, start1.args0, start1.below0, start1.atStart⟩
end Jvm.Pilot.@@N@@
